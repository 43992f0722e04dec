import JvmDerived
import JvmDerived.Pilot.@@N@@Statement
import JvmDerived.Pilot.@@N@@Code
set_option linter.unusedVariables false
set_option linter.unusedSimpArgs false
namespace Jvm.OwnW
open Sem ClassFile Op Lib Jvm.Stand Jvm.Free Jvm.LawKit Jvm.RoadKit
abbrev Ctx : Type := Program × Env × State × MethodId × Array Value × List Frame × Method × Code
def Run (l : Launch) (R : Room) (n0 : Nat) (Q : Option Value → Heap → Prop) (K : Ctx) (h : Heap) (cells slots pc : Nat) (Ls : Array Slot) (st : List Value) : Prop :=
  ∀ (T : State) (locs : List Loc), Stand K.1 l K.2.1 R K.2.2.1 K.2.2.2.1 K.2.2.2.2.1 K.2.2.2.2.2.1 K.2.2.2.2.2.2.1 K.2.2.2.2.2.2.2 T locs cells slots → Fr n0 locs → T.heap = h →
    ∃ s₂ o, Steps K.1.tables K.2.1 K.2.2.2.2.2.1 (T.setTop (mkF K.2.2.2.1 pc Ls st)) s₂ ∧ s₂.status = .running ∧ Ended s₂ K.2.2.2.2.2.1 o ∧ ∃ v L, o = .returned v ∧ (Q v s₂.heap ∧ Fr n0 L) ∧ FrameEnd K.2.2.1 o s₂ L R.cells R.slots
def Ok (Z : State) (own nm : String) (bytes : ByteArray) (maxL : Nat) (ret : Option FieldType) (K : Ctx) : Prop :=
  K.1.tables.exec = Jvm.exec ∧ K.2.2.2.2.2.2.2.code = bytes ∧ K.2.2.2.2.2.2.2.maxLocals = maxL ∧ K.2.2.1.vm.findClass own = some K.2.2.2.1.cls ∧ K.2.2.2.2.2.2.1.name = nm ∧ K.2.2.2.2.2.2.1.sig.returnType = ret ∧ K.2.2.2.2.2.2.1.locks = false ∧ Z.Warmed39 K.2.2.1.vm
/-- a body's contract, as backOf takes it -/
def Con (l : Launch) (Z : State) (y : MethodName) (bytes : ByteArray) (maxL : Nat) (ret : Option FieldType) (ws : List Jvm.Cond) (rm : Room) (n0 : Nat) (as' : Array Value) (h : Heap) (Q : Option Value → Heap → Prop) : Prop :=
  MetFree l y (head1 (Jvm.Cond.code y bytes maxL ret :: ws) rm) (fun a U => a = as' ∧ Z.Warmed39 U.vm ∧ U.heap = h) (fun _ _ _ _ _ => True) (fun _ U o U' => ∃ v L, o = .returned v ∧ ((Q v U'.heap ∧ h.size ≤ U'.heap.size) ∧ Fr n0 L) ∧ FrameEnd U o U' L rm.cells rm.slots)
theorem Con.of {l : Launch} {Z : State} {y : MethodName} {bytes : ByteArray} {maxL : Nat} {ret : Option FieldType} {ws : List Jvm.Cond} {rm : Room} {n0 : Nat} {as' : Array Value} {h : Heap} {Q : Option Value → Heap → Prop} {Ls : Array Slot} (hp : plainFor y = true) (hL : ∀ m, entryFrame m as' maxL = mkF m 0 Ls [])
    (body : ∀ K : Ctx, Ok Z y.cls y.name bytes maxL ret K → Run l rm n0 Q K h 0 0 0 Ls []) : Con l Z y bytes maxL ret ws rm n0 as' h Q := by
  refine MetFree.of_bodySF hp hisR ?_
  intro p e s m args below meth c s₁ Bd hml0 hP hK
  obtain ⟨rfl, hZ, hh⟩ := hP
  have e0 : s₁.heap = h := by rw [← hh, Bd.state]; rfl
  have X0 : Stand p l e rm s m args below meth c s₁ [] 0 0 := Stand.of_body Bd
  have hlk : meth.locks = false := BodyLoose.notSynchronized Bd
  have k := body (p, e, s, m, args, below, meth, c) ⟨Bd.exec, Bd.bytes, hml0, findClass_of_methodNamed Bd.named, (name_of_methodNamed Bd.named Bd.method).1, Bd.returns, hlk, hZ⟩ s₁ [] X0 (Fr.nil n0) e0
  rw [hL m]
  obtain ⟨s₂, o, k1, k2, k3, v, L, k4, ⟨k5, k6⟩, k7⟩ := k
  exact ⟨s₂, o, k1, k2, k3, v, L, k4, ⟨⟨k5, hh ▸ k7.2.2.2.1⟩, k6⟩, k7⟩
theorem staKeep {Z : State} {h h' : Heap} {C n d : String} {v : Value} (F : Sta Z h C n d v) (K : Keep h h' []) : Sta Z h' C n d v := by
  obtain ⟨cf, i, k, f, st, cell, h1, h2, h3, h4, h5, r⟩ := F
  exact ⟨cf, i, k, f, st, cell, h1, h2, h3, h4, K.2.1 _ _ h5 nin0, r⟩
theorem arrKeep {Z : State} {h h' : Heap} {a : Addr} {c : Cell} {ty : FieldType} {ws : List Addr} (F : Arr Z h a c ty) (K : Keep h h' ws) (q : a ∉ ws) : Arr Z h' a c ty := ⟨K.2.1 _ _ F.1 q, F.2⟩
theorem keep0 {h h' : Heap} {ws : List Addr} (K : Keep h h' ws) (q : ∀ x ∈ ws, h.size ≤ x) : Keep h h' [] := ⟨K.1, fun x c r _ => K.2.1 x c r fun z => absurd (Array.getElem?_eq_some_iff.mp r).1 (Nat.not_lt.mpr (q x z)), K.2.2⟩
section W
variable {l : Launch} {R : Room} {n0 : Nat} {Q : Option Value → Heap → Prop} {K : Ctx} {Z : State} {a0 : Array Value} {own nm : String} {bytes : ByteArray} {maxL : Nat} {ret : Option FieldType} {h : Heap} {cells slots pc : Nat} {Ls : Array Slot} {st : List Value}
theorem Run.weaken {c' s' : Nat} (k : Run l R n0 Q K h c' s' pc Ls st) (hc : cells ≤ c') (hs : slots ≤ s') : Run l R n0 Q K h cells slots pc Ls st := fun T locs X N eT =>
  k T locs ⟨X.admits, X.cas, X.clock, X.frames, X.room, X.hears, X.method, X.code, X.here, X.tail, X.warmed, X.limits, X.bytes, X.same.mono hc hs⟩ N eT
theorem Run.post {Q' : Option Value → Heap → Prop} (k : Run l R n0 Q' K h cells slots pc Ls st) (hq : ∀ v h', Q' v h' → Q v h') : Run l R n0 Q K h cells slots pc Ls st := fun T locs X N eT => by
  obtain ⟨s₂, o, h1, h2, h3, v, L, h4, ⟨h5, h6⟩, h7⟩ := k T locs X N eT
  exact ⟨s₂, o, h1, h2, h3, v, L, h4, ⟨hq _ _ h5, h6⟩, h7⟩
theorem Run.cast {pc' : Nat} {Ls' : Array Slot} {st' : List Value} (k : Run l R n0 Q K h cells slots pc' Ls' st') (h1 : pc = pc') (h2 : Ls = Ls') (h3 : st = st') : Run l R n0 Q K h cells slots pc Ls st := by subst h1 h2 h3; exact k

theorem r_iloadN (C : Ok Z own nm bytes maxL ret K) (pc' : Nat) {k : Fin 4} {v : Int32} {st : List Value} (hd : decode bytes pc = .ok (.iload_n k, 1)) (hp : pc + 1 = pc') (hl : Ls[k.val]? = some (.val (.int v)))
    (k : Run l R n0 Q K h cells slots pc' Ls (.int v :: st)) : Run l R n0 Q K h cells slots pc Ls (st) := by
  obtain ⟨p, e, s, m, args, below, meth, c⟩ := K
  obtain ⟨hx, hby, hml, hown, hnm, hret, hlk, hZ⟩ := C
  dsimp only at hx hby hml hown hnm hret hlk hZ
  subst hp
  intro T locs X N eT
  obtain ⟨s₂, o, h1, h2⟩ := k T locs X N eT
  exact ⟨s₂, o, XS.iloadN X.here hx rfl (hb hby hd) hl h1, h2⟩
theorem r_lloadN (C : Ok Z own nm bytes maxL ret K) (pc' : Nat) {k : Fin 4} {v : Int64} {st : List Value} (hd : decode bytes pc = .ok (.lload_n k, 1)) (hp : pc + 1 = pc') (hl : Ls[k.val]? = some (.val (.long v)))
    (k : Run l R n0 Q K h cells slots pc' Ls (.long v :: st)) : Run l R n0 Q K h cells slots pc Ls (st) := by
  obtain ⟨p, e, s, m, args, below, meth, c⟩ := K
  obtain ⟨hx, hby, hml, hown, hnm, hret, hlk, hZ⟩ := C
  dsimp only at hx hby hml hown hnm hret hlk hZ
  subst hp
  intro T locs X N eT
  obtain ⟨s₂, o, h1, h2⟩ := k T locs X N eT
  exact ⟨s₂, o, XS.lloadN X.here hx rfl (hb hby hd) hl h1, h2⟩
theorem r_aloadN (C : Ok Z own nm bytes maxL ret K) (pc' : Nat) {k : Fin 4} {v : Value} {st : List Value} (hd : decode bytes pc = .ok (.aload_n k, 1)) (hp : pc + 1 = pc') (hl : Ls[k.val]? = some (.val v)) (hv : v.isRef = true)
    (k : Run l R n0 Q K h cells slots pc' Ls (v :: st)) : Run l R n0 Q K h cells slots pc Ls (st) := by
  obtain ⟨p, e, s, m, args, below, meth, c⟩ := K
  obtain ⟨hx, hby, hml, hown, hnm, hret, hlk, hZ⟩ := C
  dsimp only at hx hby hml hown hnm hret hlk hZ
  subst hp
  intro T locs X N eT
  obtain ⟨s₂, o, h1, h2⟩ := k T locs X N eT
  exact ⟨s₂, o, XS.aloadN X.here hx rfl (hb hby hd) hl hv h1, h2⟩
theorem r_istoreN (C : Ok Z own nm bytes maxL ret K) (pc' : Nat) (Ls' : Array Slot) {k : Fin 4} {v : Int32} {st : List Value} (hd : decode bytes pc = .ok (.istore_n k, 1)) (hp : pc + 1 = pc') (hl : storeLocals Ls k.val (.int v) = some Ls')
    (k : Run l R n0 Q K h cells slots pc' Ls' (st)) : Run l R n0 Q K h cells slots pc Ls (.int v :: st) := by
  obtain ⟨p, e, s, m, args, below, meth, c⟩ := K
  obtain ⟨hx, hby, hml, hown, hnm, hret, hlk, hZ⟩ := C
  dsimp only at hx hby hml hown hnm hret hlk hZ
  subst hp
  intro T locs X N eT
  obtain ⟨s₂, o, h1, h2⟩ := k T locs X N eT
  exact ⟨s₂, o, XS.istoreN X.here hx rfl (hb hby hd) rfl hl h1, h2⟩
theorem r_lstoreN (C : Ok Z own nm bytes maxL ret K) (pc' : Nat) (Ls' : Array Slot) {k : Fin 4} {v : Int64} {st : List Value} (hd : decode bytes pc = .ok (.lstore_n k, 1)) (hp : pc + 1 = pc') (hl : storeLocals Ls k.val (.long v) = some Ls')
    (k : Run l R n0 Q K h cells slots pc' Ls' (st)) : Run l R n0 Q K h cells slots pc Ls (.long v :: st) := by
  obtain ⟨p, e, s, m, args, below, meth, c⟩ := K
  obtain ⟨hx, hby, hml, hown, hnm, hret, hlk, hZ⟩ := C
  dsimp only at hx hby hml hown hnm hret hlk hZ
  subst hp
  intro T locs X N eT
  obtain ⟨s₂, o, h1, h2⟩ := k T locs X N eT
  exact ⟨s₂, o, XS.lstoreN X.here hx rfl (hb hby hd) rfl hl h1, h2⟩
theorem r_astoreN (C : Ok Z own nm bytes maxL ret K) (pc' : Nat) (Ls' : Array Slot) {k : Fin 4} {v : Value} {st : List Value} (hd : decode bytes pc = .ok (.astore_n k, 1)) (hp : pc + 1 = pc') (hv : v.isRef = true) (hl : storeLocals Ls k.val v = some Ls')
    (k : Run l R n0 Q K h cells slots pc' Ls' (st)) : Run l R n0 Q K h cells slots pc Ls (v :: st) := by
  obtain ⟨p, e, s, m, args, below, meth, c⟩ := K
  obtain ⟨hx, hby, hml, hown, hnm, hret, hlk, hZ⟩ := C
  dsimp only at hx hby hml hown hnm hret hlk hZ
  subst hp
  intro T locs X N eT
  obtain ⟨s₂, o, h1, h2⟩ := k T locs X N eT
  exact ⟨s₂, o, XS.astoreN X.here hx rfl (hb hby hd) rfl hv hl h1, h2⟩
theorem r_iload (C : Ok Z own nm bytes maxL ret K) (pc' : Nat) {k : Nat} {v : Int32} {st : List Value} (hd : decode bytes pc = .ok (.iload k, 2)) (hp : pc + 2 = pc') (hl : Ls[k]? = some (.val (.int v)))
    (k : Run l R n0 Q K h cells slots pc' Ls (.int v :: st)) : Run l R n0 Q K h cells slots pc Ls (st) := by
  obtain ⟨p, e, s, m, args, below, meth, c⟩ := K
  obtain ⟨hx, hby, hml, hown, hnm, hret, hlk, hZ⟩ := C
  dsimp only at hx hby hml hown hnm hret hlk hZ
  subst hp
  intro T locs X N eT
  obtain ⟨s₂, o, h1, h2⟩ := k T locs X N eT
  exact ⟨s₂, o, XS.iload X.here hx rfl (hb hby hd) hl h1, h2⟩
theorem r_lload (C : Ok Z own nm bytes maxL ret K) (pc' : Nat) {k : Nat} {v : Int64} {st : List Value} (hd : decode bytes pc = .ok (.lload k, 2)) (hp : pc + 2 = pc') (hl : Ls[k]? = some (.val (.long v)))
    (k : Run l R n0 Q K h cells slots pc' Ls (.long v :: st)) : Run l R n0 Q K h cells slots pc Ls (st) := by
  obtain ⟨p, e, s, m, args, below, meth, c⟩ := K
  obtain ⟨hx, hby, hml, hown, hnm, hret, hlk, hZ⟩ := C
  dsimp only at hx hby hml hown hnm hret hlk hZ
  subst hp
  intro T locs X N eT
  obtain ⟨s₂, o, h1, h2⟩ := k T locs X N eT
  exact ⟨s₂, o, XS.lload X.here hx rfl (hb hby hd) hl h1, h2⟩
theorem r_aload (C : Ok Z own nm bytes maxL ret K) (pc' : Nat) {k : Nat} {v : Value} {st : List Value} (hd : decode bytes pc = .ok (.aload k, 2)) (hp : pc + 2 = pc') (hl : Ls[k]? = some (.val v)) (hv : v.isRef = true)
    (k : Run l R n0 Q K h cells slots pc' Ls (v :: st)) : Run l R n0 Q K h cells slots pc Ls (st) := by
  obtain ⟨p, e, s, m, args, below, meth, c⟩ := K
  obtain ⟨hx, hby, hml, hown, hnm, hret, hlk, hZ⟩ := C
  dsimp only at hx hby hml hown hnm hret hlk hZ
  subst hp
  intro T locs X N eT
  obtain ⟨s₂, o, h1, h2⟩ := k T locs X N eT
  exact ⟨s₂, o, XS.aload X.here hx rfl (hb hby hd) hl hv h1, h2⟩
theorem r_istore (C : Ok Z own nm bytes maxL ret K) (pc' : Nat) (Ls' : Array Slot) {k : Nat} {v : Int32} {st : List Value} (hd : decode bytes pc = .ok (.istore k, 2)) (hp : pc + 2 = pc') (hl : storeLocals Ls k (.int v) = some Ls')
    (k : Run l R n0 Q K h cells slots pc' Ls' (st)) : Run l R n0 Q K h cells slots pc Ls (.int v :: st) := by
  obtain ⟨p, e, s, m, args, below, meth, c⟩ := K
  obtain ⟨hx, hby, hml, hown, hnm, hret, hlk, hZ⟩ := C
  dsimp only at hx hby hml hown hnm hret hlk hZ
  subst hp
  intro T locs X N eT
  obtain ⟨s₂, o, h1, h2⟩ := k T locs X N eT
  exact ⟨s₂, o, XS.istore X.here hx rfl (hb hby hd) rfl hl h1, h2⟩
theorem r_lstore (C : Ok Z own nm bytes maxL ret K) (pc' : Nat) (Ls' : Array Slot) {k : Nat} {v : Int64} {st : List Value} (hd : decode bytes pc = .ok (.lstore k, 2)) (hp : pc + 2 = pc') (hl : storeLocals Ls k (.long v) = some Ls')
    (k : Run l R n0 Q K h cells slots pc' Ls' (st)) : Run l R n0 Q K h cells slots pc Ls (.long v :: st) := by
  obtain ⟨p, e, s, m, args, below, meth, c⟩ := K
  obtain ⟨hx, hby, hml, hown, hnm, hret, hlk, hZ⟩ := C
  dsimp only at hx hby hml hown hnm hret hlk hZ
  subst hp
  intro T locs X N eT
  obtain ⟨s₂, o, h1, h2⟩ := k T locs X N eT
  exact ⟨s₂, o, XS.lstore X.here hx rfl (hb hby hd) rfl hl h1, h2⟩
theorem r_astore (C : Ok Z own nm bytes maxL ret K) (pc' : Nat) (Ls' : Array Slot) {k : Nat} {v : Value} {st : List Value} (hd : decode bytes pc = .ok (.astore k, 2)) (hp : pc + 2 = pc') (hv : v.isRef = true) (hl : storeLocals Ls k v = some Ls')
    (k : Run l R n0 Q K h cells slots pc' Ls' (st)) : Run l R n0 Q K h cells slots pc Ls (v :: st) := by
  obtain ⟨p, e, s, m, args, below, meth, c⟩ := K
  obtain ⟨hx, hby, hml, hown, hnm, hret, hlk, hZ⟩ := C
  dsimp only at hx hby hml hown hnm hret hlk hZ
  subst hp
  intro T locs X N eT
  obtain ⟨s₂, o, h1, h2⟩ := k T locs X N eT
  exact ⟨s₂, o, XS.astore X.here hx rfl (hb hby hd) rfl hv hl h1, h2⟩
theorem r_iconst (C : Ok Z own nm bytes maxL ret K) (pc' : Nat) (v : Int32) {i : Int} {st : List Value} (hd : decode bytes pc = .ok (.iconst i, 1)) (hp : pc + 1 = pc') (hv : Int32.ofInt i = v)
    (k : Run l R n0 Q K h cells slots pc' Ls (.int v :: st)) : Run l R n0 Q K h cells slots pc Ls (st) := by
  obtain ⟨p, e, s, m, args, below, meth, c⟩ := K
  obtain ⟨hx, hby, hml, hown, hnm, hret, hlk, hZ⟩ := C
  dsimp only at hx hby hml hown hnm hret hlk hZ
  subst hp
  intro T locs X N eT
  obtain ⟨s₂, o, h1, h2⟩ := k T locs X N eT
  exact ⟨s₂, o, XS.iconst X.here hx rfl (hb hby hd) (by rw [hv]; exact h1), h2⟩
theorem r_bipush (C : Ok Z own nm bytes maxL ret K) (pc' : Nat) (v : Int32) {i : Int} {st : List Value} (hd : decode bytes pc = .ok (.bipush i, 2)) (hp : pc + 2 = pc') (hv : (Int8.ofInt i).toInt32 = v)
    (k : Run l R n0 Q K h cells slots pc' Ls (.int v :: st)) : Run l R n0 Q K h cells slots pc Ls (st) := by
  obtain ⟨p, e, s, m, args, below, meth, c⟩ := K
  obtain ⟨hx, hby, hml, hown, hnm, hret, hlk, hZ⟩ := C
  dsimp only at hx hby hml hown hnm hret hlk hZ
  subst hp
  intro T locs X N eT
  obtain ⟨s₂, o, h1, h2⟩ := k T locs X N eT
  exact ⟨s₂, o, XS.bipush X.here hx rfl (hb hby hd) (by rw [hv]; exact h1), h2⟩
theorem r_sipush (C : Ok Z own nm bytes maxL ret K) (pc' : Nat) (v : Int32) {i : Int} {st : List Value} (hd : decode bytes pc = .ok (.sipush i, 3)) (hp : pc + 3 = pc') (hv : (Int16.ofInt i).toInt32 = v)
    (k : Run l R n0 Q K h cells slots pc' Ls (.int v :: st)) : Run l R n0 Q K h cells slots pc Ls (st) := by
  obtain ⟨p, e, s, m, args, below, meth, c⟩ := K
  obtain ⟨hx, hby, hml, hown, hnm, hret, hlk, hZ⟩ := C
  dsimp only at hx hby hml hown hnm hret hlk hZ
  subst hp
  intro T locs X N eT
  obtain ⟨s₂, o, h1, h2⟩ := k T locs X N eT
  exact ⟨s₂, o, XS.sipush X.here hx rfl (hb hby hd) (by rw [hv]; exact h1), h2⟩
theorem r_lconst (C : Ok Z own nm bytes maxL ret K) (pc' : Nat) (v : Int64) {i : Fin 2} {st : List Value} (hd : decode bytes pc = .ok (.lconst i, 1)) (hp : pc + 1 = pc') (hv : Int64.ofNat i = v)
    (k : Run l R n0 Q K h cells slots pc' Ls (.long v :: st)) : Run l R n0 Q K h cells slots pc Ls (st) := by
  obtain ⟨p, e, s, m, args, below, meth, c⟩ := K
  obtain ⟨hx, hby, hml, hown, hnm, hret, hlk, hZ⟩ := C
  dsimp only at hx hby hml hown hnm hret hlk hZ
  subst hp
  intro T locs X N eT
  obtain ⟨s₂, o, h1, h2⟩ := k T locs X N eT
  exact ⟨s₂, o, XS.lconst X.here hx rfl (hb hby hd) (by rw [hv]; exact h1), h2⟩
theorem r_aconst_null (C : Ok Z own nm bytes maxL ret K) (pc' : Nat)  {st : List Value} (hd : decode bytes pc = .ok (.aconst_null, 1)) (hp : pc + 1 = pc') 
    (k : Run l R n0 Q K h cells slots pc' Ls (.null :: st)) : Run l R n0 Q K h cells slots pc Ls (st) := by
  obtain ⟨p, e, s, m, args, below, meth, c⟩ := K
  obtain ⟨hx, hby, hml, hown, hnm, hret, hlk, hZ⟩ := C
  dsimp only at hx hby hml hown hnm hret hlk hZ
  subst hp
  intro T locs X N eT
  obtain ⟨s₂, o, h1, h2⟩ := k T locs X N eT
  exact ⟨s₂, o, XS.aconstNull X.here hx rfl (hb hby hd) h1, h2⟩
theorem r_iadd (C : Ok Z own nm bytes maxL ret K) (pc' : Nat) {x y : Int32} {st : List Value} (hd : decode bytes pc = .ok (.iadd, 1)) (hp : pc + 1 = pc') 
    (k : Run l R n0 Q K h cells slots pc' Ls (.int (x + y) :: st)) : Run l R n0 Q K h cells slots pc Ls (.int y :: .int x :: st) := by
  obtain ⟨p, e, s, m, args, below, meth, c⟩ := K
  obtain ⟨hx, hby, hml, hown, hnm, hret, hlk, hZ⟩ := C
  dsimp only at hx hby hml hown hnm hret hlk hZ
  subst hp
  intro T locs X N eT
  obtain ⟨s₂, o, h1, h2⟩ := k T locs X N eT
  exact ⟨s₂, o, XS.iadd X.here hx rfl (hb hby hd) rfl h1, h2⟩
theorem r_isub (C : Ok Z own nm bytes maxL ret K) (pc' : Nat) {x y : Int32} {st : List Value} (hd : decode bytes pc = .ok (.isub, 1)) (hp : pc + 1 = pc') 
    (k : Run l R n0 Q K h cells slots pc' Ls (.int (x - y) :: st)) : Run l R n0 Q K h cells slots pc Ls (.int y :: .int x :: st) := by
  obtain ⟨p, e, s, m, args, below, meth, c⟩ := K
  obtain ⟨hx, hby, hml, hown, hnm, hret, hlk, hZ⟩ := C
  dsimp only at hx hby hml hown hnm hret hlk hZ
  subst hp
  intro T locs X N eT
  obtain ⟨s₂, o, h1, h2⟩ := k T locs X N eT
  exact ⟨s₂, o, XS.isub X.here hx rfl (hb hby hd) rfl h1, h2⟩
theorem r_imul (C : Ok Z own nm bytes maxL ret K) (pc' : Nat) {x y : Int32} {st : List Value} (hd : decode bytes pc = .ok (.imul, 1)) (hp : pc + 1 = pc') 
    (k : Run l R n0 Q K h cells slots pc' Ls (.int (x * y) :: st)) : Run l R n0 Q K h cells slots pc Ls (.int y :: .int x :: st) := by
  obtain ⟨p, e, s, m, args, below, meth, c⟩ := K
  obtain ⟨hx, hby, hml, hown, hnm, hret, hlk, hZ⟩ := C
  dsimp only at hx hby hml hown hnm hret hlk hZ
  subst hp
  intro T locs X N eT
  obtain ⟨s₂, o, h1, h2⟩ := k T locs X N eT
  exact ⟨s₂, o, XS.imul X.here hx rfl (hb hby hd) rfl h1, h2⟩
theorem r_iand (C : Ok Z own nm bytes maxL ret K) (pc' : Nat) {x y : Int32} {st : List Value} (hd : decode bytes pc = .ok (.iand, 1)) (hp : pc + 1 = pc') 
    (k : Run l R n0 Q K h cells slots pc' Ls (.int (x &&& y) :: st)) : Run l R n0 Q K h cells slots pc Ls (.int y :: .int x :: st) := by
  obtain ⟨p, e, s, m, args, below, meth, c⟩ := K
  obtain ⟨hx, hby, hml, hown, hnm, hret, hlk, hZ⟩ := C
  dsimp only at hx hby hml hown hnm hret hlk hZ
  subst hp
  intro T locs X N eT
  obtain ⟨s₂, o, h1, h2⟩ := k T locs X N eT
  exact ⟨s₂, o, XS.iand X.here hx rfl (hb hby hd) rfl h1, h2⟩
theorem r_ior (C : Ok Z own nm bytes maxL ret K) (pc' : Nat) {x y : Int32} {st : List Value} (hd : decode bytes pc = .ok (.ior, 1)) (hp : pc + 1 = pc') 
    (k : Run l R n0 Q K h cells slots pc' Ls (.int (x ||| y) :: st)) : Run l R n0 Q K h cells slots pc Ls (.int y :: .int x :: st) := by
  obtain ⟨p, e, s, m, args, below, meth, c⟩ := K
  obtain ⟨hx, hby, hml, hown, hnm, hret, hlk, hZ⟩ := C
  dsimp only at hx hby hml hown hnm hret hlk hZ
  subst hp
  intro T locs X N eT
  obtain ⟨s₂, o, h1, h2⟩ := k T locs X N eT
  exact ⟨s₂, o, XS.ior X.here hx rfl (hb hby hd) rfl h1, h2⟩
theorem r_ixor (C : Ok Z own nm bytes maxL ret K) (pc' : Nat) {x y : Int32} {st : List Value} (hd : decode bytes pc = .ok (.ixor, 1)) (hp : pc + 1 = pc') 
    (k : Run l R n0 Q K h cells slots pc' Ls (.int (x ^^^ y) :: st)) : Run l R n0 Q K h cells slots pc Ls (.int y :: .int x :: st) := by
  obtain ⟨p, e, s, m, args, below, meth, c⟩ := K
  obtain ⟨hx, hby, hml, hown, hnm, hret, hlk, hZ⟩ := C
  dsimp only at hx hby hml hown hnm hret hlk hZ
  subst hp
  intro T locs X N eT
  obtain ⟨s₂, o, h1, h2⟩ := k T locs X N eT
  exact ⟨s₂, o, XS.ixor X.here hx rfl (hb hby hd) rfl h1, h2⟩
theorem r_ishl (C : Ok Z own nm bytes maxL ret K) (pc' : Nat) {x y : Int32} {st : List Value} (hd : decode bytes pc = .ok (.ishl, 1)) (hp : pc + 1 = pc') 
    (k : Run l R n0 Q K h cells slots pc' Ls (.int (x <<< (y &&& 31)) :: st)) : Run l R n0 Q K h cells slots pc Ls (.int y :: .int x :: st) := by
  obtain ⟨p, e, s, m, args, below, meth, c⟩ := K
  obtain ⟨hx, hby, hml, hown, hnm, hret, hlk, hZ⟩ := C
  dsimp only at hx hby hml hown hnm hret hlk hZ
  subst hp
  intro T locs X N eT
  obtain ⟨s₂, o, h1, h2⟩ := k T locs X N eT
  exact ⟨s₂, o, XS.ishl X.here hx rfl (hb hby hd) rfl h1, h2⟩
theorem r_ishr (C : Ok Z own nm bytes maxL ret K) (pc' : Nat) {x y : Int32} {st : List Value} (hd : decode bytes pc = .ok (.ishr, 1)) (hp : pc + 1 = pc') 
    (k : Run l R n0 Q K h cells slots pc' Ls (.int (x >>> (y &&& 31)) :: st)) : Run l R n0 Q K h cells slots pc Ls (.int y :: .int x :: st) := by
  obtain ⟨p, e, s, m, args, below, meth, c⟩ := K
  obtain ⟨hx, hby, hml, hown, hnm, hret, hlk, hZ⟩ := C
  dsimp only at hx hby hml hown hnm hret hlk hZ
  subst hp
  intro T locs X N eT
  obtain ⟨s₂, o, h1, h2⟩ := k T locs X N eT
  exact ⟨s₂, o, XS.ishr X.here hx rfl (hb hby hd) rfl h1, h2⟩
theorem r_iushr (C : Ok Z own nm bytes maxL ret K) (pc' : Nat) {x y : Int32} {st : List Value} (hd : decode bytes pc = .ok (.iushr, 1)) (hp : pc + 1 = pc') 
    (k : Run l R n0 Q K h cells slots pc' Ls (.int ((x.toUInt32 >>> (y &&& 31).toUInt32).toInt32) :: st)) : Run l R n0 Q K h cells slots pc Ls (.int y :: .int x :: st) := by
  obtain ⟨p, e, s, m, args, below, meth, c⟩ := K
  obtain ⟨hx, hby, hml, hown, hnm, hret, hlk, hZ⟩ := C
  dsimp only at hx hby hml hown hnm hret hlk hZ
  subst hp
  intro T locs X N eT
  obtain ⟨s₂, o, h1, h2⟩ := k T locs X N eT
  exact ⟨s₂, o, XS.iushr X.here hx rfl (hb hby hd) rfl h1, h2⟩
theorem r_ladd (C : Ok Z own nm bytes maxL ret K) (pc' : Nat) {x y : Int64} {st : List Value} (hd : decode bytes pc = .ok (.ladd, 1)) (hp : pc + 1 = pc') 
    (k : Run l R n0 Q K h cells slots pc' Ls (.long (x + y) :: st)) : Run l R n0 Q K h cells slots pc Ls (.long y :: .long x :: st) := by
  obtain ⟨p, e, s, m, args, below, meth, c⟩ := K
  obtain ⟨hx, hby, hml, hown, hnm, hret, hlk, hZ⟩ := C
  dsimp only at hx hby hml hown hnm hret hlk hZ
  subst hp
  intro T locs X N eT
  obtain ⟨s₂, o, h1, h2⟩ := k T locs X N eT
  exact ⟨s₂, o, XS.ladd X.here hx rfl (hb hby hd) rfl h1, h2⟩
theorem r_lsub (C : Ok Z own nm bytes maxL ret K) (pc' : Nat) {x y : Int64} {st : List Value} (hd : decode bytes pc = .ok (.lsub, 1)) (hp : pc + 1 = pc') 
    (k : Run l R n0 Q K h cells slots pc' Ls (.long (x - y) :: st)) : Run l R n0 Q K h cells slots pc Ls (.long y :: .long x :: st) := by
  obtain ⟨p, e, s, m, args, below, meth, c⟩ := K
  obtain ⟨hx, hby, hml, hown, hnm, hret, hlk, hZ⟩ := C
  dsimp only at hx hby hml hown hnm hret hlk hZ
  subst hp
  intro T locs X N eT
  obtain ⟨s₂, o, h1, h2⟩ := k T locs X N eT
  exact ⟨s₂, o, XS.lsub X.here hx rfl (hb hby hd) rfl h1, h2⟩
theorem r_lmul (C : Ok Z own nm bytes maxL ret K) (pc' : Nat) {x y : Int64} {st : List Value} (hd : decode bytes pc = .ok (.lmul, 1)) (hp : pc + 1 = pc') 
    (k : Run l R n0 Q K h cells slots pc' Ls (.long (x * y) :: st)) : Run l R n0 Q K h cells slots pc Ls (.long y :: .long x :: st) := by
  obtain ⟨p, e, s, m, args, below, meth, c⟩ := K
  obtain ⟨hx, hby, hml, hown, hnm, hret, hlk, hZ⟩ := C
  dsimp only at hx hby hml hown hnm hret hlk hZ
  subst hp
  intro T locs X N eT
  obtain ⟨s₂, o, h1, h2⟩ := k T locs X N eT
  exact ⟨s₂, o, XS.lmul X.here hx rfl (hb hby hd) rfl h1, h2⟩
theorem r_land (C : Ok Z own nm bytes maxL ret K) (pc' : Nat) {x y : Int64} {st : List Value} (hd : decode bytes pc = .ok (.land, 1)) (hp : pc + 1 = pc') 
    (k : Run l R n0 Q K h cells slots pc' Ls (.long (x &&& y) :: st)) : Run l R n0 Q K h cells slots pc Ls (.long y :: .long x :: st) := by
  obtain ⟨p, e, s, m, args, below, meth, c⟩ := K
  obtain ⟨hx, hby, hml, hown, hnm, hret, hlk, hZ⟩ := C
  dsimp only at hx hby hml hown hnm hret hlk hZ
  subst hp
  intro T locs X N eT
  obtain ⟨s₂, o, h1, h2⟩ := k T locs X N eT
  exact ⟨s₂, o, XS.land X.here hx rfl (hb hby hd) rfl h1, h2⟩
theorem r_lor (C : Ok Z own nm bytes maxL ret K) (pc' : Nat) {x y : Int64} {st : List Value} (hd : decode bytes pc = .ok (.lor, 1)) (hp : pc + 1 = pc') 
    (k : Run l R n0 Q K h cells slots pc' Ls (.long (x ||| y) :: st)) : Run l R n0 Q K h cells slots pc Ls (.long y :: .long x :: st) := by
  obtain ⟨p, e, s, m, args, below, meth, c⟩ := K
  obtain ⟨hx, hby, hml, hown, hnm, hret, hlk, hZ⟩ := C
  dsimp only at hx hby hml hown hnm hret hlk hZ
  subst hp
  intro T locs X N eT
  obtain ⟨s₂, o, h1, h2⟩ := k T locs X N eT
  exact ⟨s₂, o, XS.lor X.here hx rfl (hb hby hd) rfl h1, h2⟩
theorem r_lxor (C : Ok Z own nm bytes maxL ret K) (pc' : Nat) {x y : Int64} {st : List Value} (hd : decode bytes pc = .ok (.lxor, 1)) (hp : pc + 1 = pc') 
    (k : Run l R n0 Q K h cells slots pc' Ls (.long (x ^^^ y) :: st)) : Run l R n0 Q K h cells slots pc Ls (.long y :: .long x :: st) := by
  obtain ⟨p, e, s, m, args, below, meth, c⟩ := K
  obtain ⟨hx, hby, hml, hown, hnm, hret, hlk, hZ⟩ := C
  dsimp only at hx hby hml hown hnm hret hlk hZ
  subst hp
  intro T locs X N eT
  obtain ⟨s₂, o, h1, h2⟩ := k T locs X N eT
  exact ⟨s₂, o, XS.lxor X.here hx rfl (hb hby hd) rfl h1, h2⟩
theorem r_lshl (C : Ok Z own nm bytes maxL ret K) (pc' : Nat) {x : Int64} {y : Int32} {st : List Value} (hd : decode bytes pc = .ok (.lshl, 1)) (hp : pc + 1 = pc') 
    (k : Run l R n0 Q K h cells slots pc' Ls (.long (x <<< (y &&& 0x3f).toInt64) :: st)) : Run l R n0 Q K h cells slots pc Ls (.int y :: .long x :: st) := by
  obtain ⟨p, e, s, m, args, below, meth, c⟩ := K
  obtain ⟨hx, hby, hml, hown, hnm, hret, hlk, hZ⟩ := C
  dsimp only at hx hby hml hown hnm hret hlk hZ
  subst hp
  intro T locs X N eT
  obtain ⟨s₂, o, h1, h2⟩ := k T locs X N eT
  exact ⟨s₂, o, XS.lshl X.here hx rfl (hb hby hd) rfl h1, h2⟩
theorem r_lshr (C : Ok Z own nm bytes maxL ret K) (pc' : Nat) {x : Int64} {y : Int32} {st : List Value} (hd : decode bytes pc = .ok (.lshr, 1)) (hp : pc + 1 = pc') 
    (k : Run l R n0 Q K h cells slots pc' Ls (.long (x >>> (y &&& 0x3f).toInt64) :: st)) : Run l R n0 Q K h cells slots pc Ls (.int y :: .long x :: st) := by
  obtain ⟨p, e, s, m, args, below, meth, c⟩ := K
  obtain ⟨hx, hby, hml, hown, hnm, hret, hlk, hZ⟩ := C
  dsimp only at hx hby hml hown hnm hret hlk hZ
  subst hp
  intro T locs X N eT
  obtain ⟨s₂, o, h1, h2⟩ := k T locs X N eT
  exact ⟨s₂, o, XS.lshr X.here hx rfl (hb hby hd) rfl h1, h2⟩
theorem r_lushr (C : Ok Z own nm bytes maxL ret K) (pc' : Nat) {x : Int64} {y : Int32} {st : List Value} (hd : decode bytes pc = .ok (.lushr, 1)) (hp : pc + 1 = pc') 
    (k : Run l R n0 Q K h cells slots pc' Ls (.long ((x.toUInt64 >>> (y &&& 0x3f).toInt64.toUInt64).toInt64) :: st)) : Run l R n0 Q K h cells slots pc Ls (.int y :: .long x :: st) := by
  obtain ⟨p, e, s, m, args, below, meth, c⟩ := K
  obtain ⟨hx, hby, hml, hown, hnm, hret, hlk, hZ⟩ := C
  dsimp only at hx hby hml hown hnm hret hlk hZ
  subst hp
  intro T locs X N eT
  obtain ⟨s₂, o, h1, h2⟩ := k T locs X N eT
  exact ⟨s₂, o, XS.lushr X.here hx rfl (hb hby hd) rfl h1, h2⟩
theorem r_idiv (C : Ok Z own nm bytes maxL ret K) (pc' : Nat) {x y : Int32} {st : List Value} (hd : decode bytes pc = .ok (.idiv, 1)) (hp : pc + 1 = pc') (hy : y ≠ 0)
    (k : Run l R n0 Q K h cells slots pc' Ls (.int (x / y) :: st)) : Run l R n0 Q K h cells slots pc Ls (.int y :: .int x :: st) := by
  obtain ⟨p, e, s, m, args, below, meth, c⟩ := K
  obtain ⟨hx, hby, hml, hown, hnm, hret, hlk, hZ⟩ := C
  dsimp only at hx hby hml hown hnm hret hlk hZ
  subst hp
  intro T locs X N eT
  obtain ⟨s₂, o, h1, h2⟩ := k T locs X N eT
  exact ⟨s₂, o, XS.idiv X.here hx rfl (hb hby hd) rfl hy h1, h2⟩
theorem r_irem (C : Ok Z own nm bytes maxL ret K) (pc' : Nat) {x y : Int32} {st : List Value} (hd : decode bytes pc = .ok (.irem, 1)) (hp : pc + 1 = pc') (hy : y ≠ 0)
    (k : Run l R n0 Q K h cells slots pc' Ls (.int (x % y) :: st)) : Run l R n0 Q K h cells slots pc Ls (.int y :: .int x :: st) := by
  obtain ⟨p, e, s, m, args, below, meth, c⟩ := K
  obtain ⟨hx, hby, hml, hown, hnm, hret, hlk, hZ⟩ := C
  dsimp only at hx hby hml hown hnm hret hlk hZ
  subst hp
  intro T locs X N eT
  obtain ⟨s₂, o, h1, h2⟩ := k T locs X N eT
  exact ⟨s₂, o, iremM X hx rfl (hb hby hd) rfl hy h1, h2⟩
theorem r_ldiv (C : Ok Z own nm bytes maxL ret K) (pc' : Nat) {x y : Int64} {st : List Value} (hd : decode bytes pc = .ok (.ldiv, 1)) (hp : pc + 1 = pc') (hy : y ≠ 0)
    (k : Run l R n0 Q K h cells slots pc' Ls (.long (x / y) :: st)) : Run l R n0 Q K h cells slots pc Ls (.long y :: .long x :: st) := by
  obtain ⟨p, e, s, m, args, below, meth, c⟩ := K
  obtain ⟨hx, hby, hml, hown, hnm, hret, hlk, hZ⟩ := C
  dsimp only at hx hby hml hown hnm hret hlk hZ
  subst hp
  intro T locs X N eT
  obtain ⟨s₂, o, h1, h2⟩ := k T locs X N eT
  exact ⟨s₂, o, XS.ldiv X.here hx rfl (hb hby hd) rfl hy h1, h2⟩
theorem r_lrem (C : Ok Z own nm bytes maxL ret K) (pc' : Nat) {x y : Int64} {st : List Value} (hd : decode bytes pc = .ok (.lrem, 1)) (hp : pc + 1 = pc') (hy : y ≠ 0)
    (k : Run l R n0 Q K h cells slots pc' Ls (.long (x % y) :: st)) : Run l R n0 Q K h cells slots pc Ls (.long y :: .long x :: st) := by
  obtain ⟨p, e, s, m, args, below, meth, c⟩ := K
  obtain ⟨hx, hby, hml, hown, hnm, hret, hlk, hZ⟩ := C
  dsimp only at hx hby hml hown hnm hret hlk hZ
  subst hp
  intro T locs X N eT
  obtain ⟨s₂, o, h1, h2⟩ := k T locs X N eT
  exact ⟨s₂, o, XS.lrem X.here hx rfl (hb hby hd) rfl hy (by rw [lrem_mod]; exact h1), h2⟩
theorem r_ineg (C : Ok Z own nm bytes maxL ret K) (pc' : Nat) {x : Int32} {st : List Value} (hd : decode bytes pc = .ok (.ineg, 1)) (hp : pc + 1 = pc') 
    (k : Run l R n0 Q K h cells slots pc' Ls (.int (-x) :: st)) : Run l R n0 Q K h cells slots pc Ls (.int x :: st) := by
  obtain ⟨p, e, s, m, args, below, meth, c⟩ := K
  obtain ⟨hx, hby, hml, hown, hnm, hret, hlk, hZ⟩ := C
  dsimp only at hx hby hml hown hnm hret hlk hZ
  subst hp
  intro T locs X N eT
  obtain ⟨s₂, o, h1, h2⟩ := k T locs X N eT
  exact ⟨s₂, o, XS.ineg X.here hx rfl (hb hby hd) rfl h1, h2⟩
theorem r_lneg (C : Ok Z own nm bytes maxL ret K) (pc' : Nat) {x : Int64} {st : List Value} (hd : decode bytes pc = .ok (.lneg, 1)) (hp : pc + 1 = pc') 
    (k : Run l R n0 Q K h cells slots pc' Ls (.long (-x) :: st)) : Run l R n0 Q K h cells slots pc Ls (.long x :: st) := by
  obtain ⟨p, e, s, m, args, below, meth, c⟩ := K
  obtain ⟨hx, hby, hml, hown, hnm, hret, hlk, hZ⟩ := C
  dsimp only at hx hby hml hown hnm hret hlk hZ
  subst hp
  intro T locs X N eT
  obtain ⟨s₂, o, h1, h2⟩ := k T locs X N eT
  exact ⟨s₂, o, XS.lneg X.here hx rfl (hb hby hd) rfl h1, h2⟩
theorem r_i2l (C : Ok Z own nm bytes maxL ret K) (pc' : Nat) {x : Int32} {st : List Value} (hd : decode bytes pc = .ok (.i2l, 1)) (hp : pc + 1 = pc') 
    (k : Run l R n0 Q K h cells slots pc' Ls (.long (x.toInt64) :: st)) : Run l R n0 Q K h cells slots pc Ls (.int x :: st) := by
  obtain ⟨p, e, s, m, args, below, meth, c⟩ := K
  obtain ⟨hx, hby, hml, hown, hnm, hret, hlk, hZ⟩ := C
  dsimp only at hx hby hml hown hnm hret hlk hZ
  subst hp
  intro T locs X N eT
  obtain ⟨s₂, o, h1, h2⟩ := k T locs X N eT
  exact ⟨s₂, o, XS.i2l X.here hx rfl (hb hby hd) rfl h1, h2⟩
theorem r_l2i (C : Ok Z own nm bytes maxL ret K) (pc' : Nat) {x : Int64} {st : List Value} (hd : decode bytes pc = .ok (.l2i, 1)) (hp : pc + 1 = pc') 
    (k : Run l R n0 Q K h cells slots pc' Ls (.int (x.toInt32) :: st)) : Run l R n0 Q K h cells slots pc Ls (.long x :: st) := by
  obtain ⟨p, e, s, m, args, below, meth, c⟩ := K
  obtain ⟨hx, hby, hml, hown, hnm, hret, hlk, hZ⟩ := C
  dsimp only at hx hby hml hown hnm hret hlk hZ
  subst hp
  intro T locs X N eT
  obtain ⟨s₂, o, h1, h2⟩ := k T locs X N eT
  exact ⟨s₂, o, XS.l2i X.here hx rfl (hb hby hd) rfl h1, h2⟩
theorem r_i2b (C : Ok Z own nm bytes maxL ret K) (pc' : Nat) {x : Int32} {st : List Value} (hd : decode bytes pc = .ok (.i2b, 1)) (hp : pc + 1 = pc') 
    (k : Run l R n0 Q K h cells slots pc' Ls (.int (x.toInt8.toInt32) :: st)) : Run l R n0 Q K h cells slots pc Ls (.int x :: st) := by
  obtain ⟨p, e, s, m, args, below, meth, c⟩ := K
  obtain ⟨hx, hby, hml, hown, hnm, hret, hlk, hZ⟩ := C
  dsimp only at hx hby hml hown hnm hret hlk hZ
  subst hp
  intro T locs X N eT
  obtain ⟨s₂, o, h1, h2⟩ := k T locs X N eT
  exact ⟨s₂, o, XS.i2b X.here hx rfl (hb hby hd) rfl h1, h2⟩
theorem r_i2s (C : Ok Z own nm bytes maxL ret K) (pc' : Nat) {x : Int32} {st : List Value} (hd : decode bytes pc = .ok (.i2s, 1)) (hp : pc + 1 = pc') 
    (k : Run l R n0 Q K h cells slots pc' Ls (.int (x.toInt16.toInt32) :: st)) : Run l R n0 Q K h cells slots pc Ls (.int x :: st) := by
  obtain ⟨p, e, s, m, args, below, meth, c⟩ := K
  obtain ⟨hx, hby, hml, hown, hnm, hret, hlk, hZ⟩ := C
  dsimp only at hx hby hml hown hnm hret hlk hZ
  subst hp
  intro T locs X N eT
  obtain ⟨s₂, o, h1, h2⟩ := k T locs X N eT
  exact ⟨s₂, o, XS.i2s X.here hx rfl (hb hby hd) rfl h1, h2⟩
theorem r_i2c (C : Ok Z own nm bytes maxL ret K) (pc' : Nat) {x : Int32} {st : List Value} (hd : decode bytes pc = .ok (.i2c, 1)) (hp : pc + 1 = pc') 
    (k : Run l R n0 Q K h cells slots pc' Ls (.int (x.toUInt32.toUInt16.toUInt32.toInt32) :: st)) : Run l R n0 Q K h cells slots pc Ls (.int x :: st) := by
  obtain ⟨p, e, s, m, args, below, meth, c⟩ := K
  obtain ⟨hx, hby, hml, hown, hnm, hret, hlk, hZ⟩ := C
  dsimp only at hx hby hml hown hnm hret hlk hZ
  subst hp
  intro T locs X N eT
  obtain ⟨s₂, o, h1, h2⟩ := k T locs X N eT
  exact ⟨s₂, o, XS.i2c X.here hx rfl (hb hby hd) rfl h1, h2⟩
theorem r_iinc (C : Ok Z own nm bytes maxL ret K) (pc' : Nat) (Ls' : Array Slot) {k : Nat} {i : Int} {x : Int32} {st : List Value} (hd : decode bytes pc = .ok (.iinc k i, 3)) (hp : pc + 3 = pc') (hl : Ls[k]? = some (.val (.int x))) (hl' : storeLocals Ls k (.int (x + Int32.ofInt i)) = some Ls')
    (k : Run l R n0 Q K h cells slots pc' Ls' (st)) : Run l R n0 Q K h cells slots pc Ls (st) := by
  obtain ⟨p, e, s, m, args, below, meth, c⟩ := K
  obtain ⟨hx, hby, hml, hown, hnm, hret, hlk, hZ⟩ := C
  dsimp only at hx hby hml hown hnm hret hlk hZ
  subst hp
  intro T locs X N eT
  obtain ⟨s₂, o, h1, h2⟩ := k T locs X N eT
  exact ⟨s₂, o, XS.iinc X.here hx rfl (hb hby hd) hl hl' h1, h2⟩
theorem r_dup (C : Ok Z own nm bytes maxL ret K) (pc' : Nat) {x : Value} {st : List Value} (hd : decode bytes pc = .ok (.dup, 1)) (hp : pc + 1 = pc') (hc : x.category = 1)
    (k : Run l R n0 Q K h cells slots pc' Ls (x :: x :: st)) : Run l R n0 Q K h cells slots pc Ls (x :: st) := by
  obtain ⟨p, e, s, m, args, below, meth, c⟩ := K
  obtain ⟨hx, hby, hml, hown, hnm, hret, hlk, hZ⟩ := C
  dsimp only at hx hby hml hown hnm hret hlk hZ
  subst hp
  intro T locs X N eT
  obtain ⟨s₂, o, h1, h2⟩ := k T locs X N eT
  exact ⟨s₂, o, XS.dup X.here hx rfl (hb hby hd) rfl hc h1, h2⟩
theorem r_pop (C : Ok Z own nm bytes maxL ret K) (pc' : Nat) {x : Value} {st : List Value} (hd : decode bytes pc = .ok (.pop, 1)) (hp : pc + 1 = pc') (hc : x.category = 1)
    (k : Run l R n0 Q K h cells slots pc' Ls (st)) : Run l R n0 Q K h cells slots pc Ls (x :: st) := by
  obtain ⟨p, e, s, m, args, below, meth, c⟩ := K
  obtain ⟨hx, hby, hml, hown, hnm, hret, hlk, hZ⟩ := C
  dsimp only at hx hby hml hown hnm hret hlk hZ
  subst hp
  intro T locs X N eT
  obtain ⟨s₂, o, h1, h2⟩ := k T locs X N eT
  exact ⟨s₂, o, XS.pop X.here hx rfl (hb hby hd) rfl hc h1, h2⟩
theorem r_dup_x1 (C : Ok Z own nm bytes maxL ret K) (pc' : Nat) {x y : Value} {st : List Value} (hd : decode bytes pc = .ok (.dup_x1, 1)) (hp : pc + 1 = pc') (hc : x.category = 1) (hc' : y.category = 1)
    (k : Run l R n0 Q K h cells slots pc' Ls (x :: y :: x :: st)) : Run l R n0 Q K h cells slots pc Ls (x :: y :: st) := by
  obtain ⟨p, e, s, m, args, below, meth, c⟩ := K
  obtain ⟨hx, hby, hml, hown, hnm, hret, hlk, hZ⟩ := C
  dsimp only at hx hby hml hown hnm hret hlk hZ
  subst hp
  intro T locs X N eT
  obtain ⟨s₂, o, h1, h2⟩ := k T locs X N eT
  exact ⟨s₂, o, XS.dupX1 X.here hx rfl (hb hby hd) rfl hc hc' h1, h2⟩
theorem r_dup2 (C : Ok Z own nm bytes maxL ret K) (pc' : Nat) {x y : Value} {st : List Value} (hd : decode bytes pc = .ok (.dup2, 1)) (hp : pc + 1 = pc') (hc : x.category = 1) (hc' : y.category = 1)
    (k : Run l R n0 Q K h cells slots pc' Ls (x :: y :: x :: y :: st)) : Run l R n0 Q K h cells slots pc Ls (x :: y :: st) := by
  obtain ⟨p, e, s, m, args, below, meth, c⟩ := K
  obtain ⟨hx, hby, hml, hown, hnm, hret, hlk, hZ⟩ := C
  dsimp only at hx hby hml hown hnm hret hlk hZ
  subst hp
  intro T locs X N eT
  obtain ⟨s₂, o, h1, h2⟩ := k T locs X N eT
  exact ⟨s₂, o, XT.dup2 X.here hx rfl (hb hby hd) rfl hc hc' h1, h2⟩
theorem r_ldc (C : Ok Z own nm bytes maxL ret K) (pc' : Nat) {i : Nat} {v : Int32} {st : List Value} (hd : decode bytes pc = .ok (.ldc i, 2)) (hp : pc + 2 = pc') (w : (Jvm.Cond.constant own i v).before a0 Z = true)
    (k : Run l R n0 Q K h cells slots pc' Ls (.int v :: st)) : Run l R n0 Q K h cells slots pc Ls (st) := by
  obtain ⟨p, e, s, m, args, below, meth, c⟩ := K
  obtain ⟨hx, hby, hml, hown, hnm, hret, hlk, hZ⟩ := C
  dsimp only at hx hby hml hown hnm hret hlk hZ
  subst hp
  intro T locs X N eT
  obtain ⟨s₂, o, h1, h2⟩ := k T locs X N eT
  exact ⟨s₂, o, X.ldcInt hx hown (mvT hZ w) (g := mkF m pc Ls st) rfl (hb hby hd) _ h1, h2⟩
theorem r_ldc_w (C : Ok Z own nm bytes maxL ret K) (pc' : Nat) {i : Nat} {v : Int32} {st : List Value} (hd : decode bytes pc = .ok (.ldc_w i, 3)) (hp : pc + 3 = pc') (w : (Jvm.Cond.constant own i v).before a0 Z = true)
    (k : Run l R n0 Q K h cells slots pc' Ls (.int v :: st)) : Run l R n0 Q K h cells slots pc Ls (st) := by
  obtain ⟨p, e, s, m, args, below, meth, c⟩ := K
  obtain ⟨hx, hby, hml, hown, hnm, hret, hlk, hZ⟩ := C
  dsimp only at hx hby hml hown hnm hret hlk hZ
  subst hp
  intro T locs X N eT
  obtain ⟨s₂, o, h1, h2⟩ := k T locs X N eT
  exact ⟨s₂, o, X.ldcwInt hx hown (mvT hZ w) (g := mkF m pc Ls st) rfl (hb hby hd) _ h1, h2⟩
theorem r_ldc2_w (C : Ok Z own nm bytes maxL ret K) (pc' : Nat) {i : Nat} {v : Int64} {st : List Value} (hd : decode bytes pc = .ok (.ldc2_w i, 3)) (hp : pc + 3 = pc') (w : (Jvm.Cond.constantLong own i v).before a0 Z = true)
    (k : Run l R n0 Q K h cells slots pc' Ls (.long v :: st)) : Run l R n0 Q K h cells slots pc Ls (st) := by
  obtain ⟨p, e, s, m, args, below, meth, c⟩ := K
  obtain ⟨hx, hby, hml, hown, hnm, hret, hlk, hZ⟩ := C
  dsimp only at hx hby hml hown hnm hret hlk hZ
  subst hp
  intro T locs X N eT
  obtain ⟨s₂, o, h1, h2⟩ := k T locs X N eT
  exact ⟨s₂, o, X.ldc2Long hx hown (mvT hZ w) (g := mkF m pc Ls st) rfl (hb hby hd) _ h1, h2⟩
theorem r_goto (C : Ok Z own nm bytes maxL ret K) (pc' : Nat) {o : Int} {st : List Value} (hd : decode bytes pc = .ok (.goto o, 3)) (ho : 0 ≤ (pc : Int) + o) (hp : ((pc : Int) + o).toNat = pc')
    (k : Run l R n0 Q K h cells slots pc' Ls st) : Run l R n0 Q K h cells slots pc Ls st := by
  obtain ⟨p, e, s, m, args, below, meth, c⟩ := K
  obtain ⟨hx, hby, hml, hown, hnm, hret, hlk, hZ⟩ := C
  dsimp only at hx hby hml hown hnm hret hlk hZ
  intro T locs X N eT
  obtain ⟨s₂, o, h1, h2⟩ := k T locs X N eT
  exact ⟨s₂, o, XS.goto X.here hx rfl rfl (hb hby hd) ho hp h1, h2⟩
theorem r_icmp_eq (C : Ok Z own nm bytes maxL ret K) (pcT pcF : Nat) {o : Int} {x y : Int32} {st : List Value} (hd : decode bytes pc = .ok (.if_icmp .eq o, 3)) (ho : 0 ≤ (pc : Int) + o) (hp : ((pc : Int) + o).toNat = pcT) (hf : pc + 3 = pcF)
    (kT : x = y → Run l R n0 Q K h cells slots pcT Ls st) (kF : ¬ x = y → Run l R n0 Q K h cells slots pcF Ls st) : Run l R n0 Q K h cells slots pc Ls (.int y :: .int x :: st) := by
  obtain ⟨p, e, s, m, args, below, meth, c⟩ := K
  obtain ⟨hx, hby, hml, hown, hnm, hret, hlk, hZ⟩ := C
  dsimp only at hx hby hml hown hnm hret hlk hZ
  intro T locs X N eT
  subst hf
  by_cases q : x = y
  · obtain ⟨s₂, o, h1, h2⟩ := kT q T locs X N eT
    exact ⟨s₂, o, XS.icmpYes X.here hx rfl rfl (hb hby hd) rfl (XT.ii_eq_t q) ho hp h1, h2⟩
  · obtain ⟨s₂, o, h1, h2⟩ := kF q T locs X N eT
    exact ⟨s₂, o, XS.icmpNo X.here hx rfl (hb hby hd) rfl (XT.ii_eq_f q) h1, h2⟩
theorem r_if_eq (C : Ok Z own nm bytes maxL ret K) (pcT pcF : Nat) {o : Int} {x : Int32} {st : List Value} (hd : decode bytes pc = .ok (.ifCond .eq o, 3)) (ho : 0 ≤ (pc : Int) + o) (hp : ((pc : Int) + o).toNat = pcT) (hf : pc + 3 = pcF)
    (kT : x = 0 → Run l R n0 Q K h cells slots pcT Ls st) (kF : ¬ x = 0 → Run l R n0 Q K h cells slots pcF Ls st) : Run l R n0 Q K h cells slots pc Ls (.int x :: st) := by
  obtain ⟨p, e, s, m, args, below, meth, c⟩ := K
  obtain ⟨hx, hby, hml, hown, hnm, hret, hlk, hZ⟩ := C
  dsimp only at hx hby hml hown hnm hret hlk hZ
  intro T locs X N eT
  subst hf
  by_cases q : x = 0
  · obtain ⟨s₂, o, h1, h2⟩ := kT q T locs X N eT
    exact ⟨s₂, o, XS.ifYes X.here hx rfl rfl (hb hby hd) rfl (XT.i0_eq_t q) ho hp h1, h2⟩
  · obtain ⟨s₂, o, h1, h2⟩ := kF q T locs X N eT
    exact ⟨s₂, o, XS.ifNo X.here hx rfl (hb hby hd) rfl (XT.i0_eq_f q) h1, h2⟩
theorem r_lcmp_eq (C : Ok Z own nm bytes maxL ret K) (pcM pcT pcF : Nat) {o : Int} {x y : Int64} {st : List Value} (hdl : decode bytes pc = .ok (.lcmp, 1)) (hm : pc + 1 = pcM) (hd : decode bytes pcM = .ok (.ifCond .eq o, 3)) (ho : 0 ≤ (pcM : Int) + o) (hp : ((pcM : Int) + o).toNat = pcT) (hf : pcM + 3 = pcF)
    (kT : x = y → Run l R n0 Q K h cells slots pcT Ls st) (kF : ¬ x = y → Run l R n0 Q K h cells slots pcF Ls st) : Run l R n0 Q K h cells slots pc Ls (.long y :: .long x :: st) := by
  obtain ⟨p, e, s, m, args, below, meth, c⟩ := K
  obtain ⟨hx, hby, hml, hown, hnm, hret, hlk, hZ⟩ := C
  dsimp only at hx hby hml hown hnm hret hlk hZ
  intro T locs X N eT
  subst hm hf
  by_cases q : x = y
  · obtain ⟨s₂, o, h1, h2⟩ := kT q T locs X N eT
    exact ⟨s₂, o, XT.lcmp X.here hx rfl (hb hby hdl) rfl (XS.ifYes X.here hx rfl rfl (hb hby hd) rfl (XT.ll_eq_t q) ho hp h1), h2⟩
  · obtain ⟨s₂, o, h1, h2⟩ := kF q T locs X N eT
    exact ⟨s₂, o, XT.lcmp X.here hx rfl (hb hby hdl) rfl (XS.ifNo X.here hx rfl (hb hby hd) rfl (XT.ll_eq_f q) h1), h2⟩
theorem r_icmp_ne (C : Ok Z own nm bytes maxL ret K) (pcT pcF : Nat) {o : Int} {x y : Int32} {st : List Value} (hd : decode bytes pc = .ok (.if_icmp .ne o, 3)) (ho : 0 ≤ (pc : Int) + o) (hp : ((pc : Int) + o).toNat = pcT) (hf : pc + 3 = pcF)
    (kT : ¬ x = y → Run l R n0 Q K h cells slots pcT Ls st) (kF : x = y → Run l R n0 Q K h cells slots pcF Ls st) : Run l R n0 Q K h cells slots pc Ls (.int y :: .int x :: st) := by
  obtain ⟨p, e, s, m, args, below, meth, c⟩ := K
  obtain ⟨hx, hby, hml, hown, hnm, hret, hlk, hZ⟩ := C
  dsimp only at hx hby hml hown hnm hret hlk hZ
  intro T locs X N eT
  subst hf
  by_cases q : x = y
  · obtain ⟨s₂, o, h1, h2⟩ := kF q T locs X N eT
    exact ⟨s₂, o, XS.icmpNo X.here hx rfl (hb hby hd) rfl (XT.ii_ne_f q) h1, h2⟩
  · obtain ⟨s₂, o, h1, h2⟩ := kT q T locs X N eT
    exact ⟨s₂, o, XS.icmpYes X.here hx rfl rfl (hb hby hd) rfl (XT.ii_ne_t q) ho hp h1, h2⟩
theorem r_if_ne (C : Ok Z own nm bytes maxL ret K) (pcT pcF : Nat) {o : Int} {x : Int32} {st : List Value} (hd : decode bytes pc = .ok (.ifCond .ne o, 3)) (ho : 0 ≤ (pc : Int) + o) (hp : ((pc : Int) + o).toNat = pcT) (hf : pc + 3 = pcF)
    (kT : ¬ x = 0 → Run l R n0 Q K h cells slots pcT Ls st) (kF : x = 0 → Run l R n0 Q K h cells slots pcF Ls st) : Run l R n0 Q K h cells slots pc Ls (.int x :: st) := by
  obtain ⟨p, e, s, m, args, below, meth, c⟩ := K
  obtain ⟨hx, hby, hml, hown, hnm, hret, hlk, hZ⟩ := C
  dsimp only at hx hby hml hown hnm hret hlk hZ
  intro T locs X N eT
  subst hf
  by_cases q : x = 0
  · obtain ⟨s₂, o, h1, h2⟩ := kF q T locs X N eT
    exact ⟨s₂, o, XS.ifNo X.here hx rfl (hb hby hd) rfl (XT.i0_ne_f q) h1, h2⟩
  · obtain ⟨s₂, o, h1, h2⟩ := kT q T locs X N eT
    exact ⟨s₂, o, XS.ifYes X.here hx rfl rfl (hb hby hd) rfl (XT.i0_ne_t q) ho hp h1, h2⟩
theorem r_lcmp_ne (C : Ok Z own nm bytes maxL ret K) (pcM pcT pcF : Nat) {o : Int} {x y : Int64} {st : List Value} (hdl : decode bytes pc = .ok (.lcmp, 1)) (hm : pc + 1 = pcM) (hd : decode bytes pcM = .ok (.ifCond .ne o, 3)) (ho : 0 ≤ (pcM : Int) + o) (hp : ((pcM : Int) + o).toNat = pcT) (hf : pcM + 3 = pcF)
    (kT : ¬ x = y → Run l R n0 Q K h cells slots pcT Ls st) (kF : x = y → Run l R n0 Q K h cells slots pcF Ls st) : Run l R n0 Q K h cells slots pc Ls (.long y :: .long x :: st) := by
  obtain ⟨p, e, s, m, args, below, meth, c⟩ := K
  obtain ⟨hx, hby, hml, hown, hnm, hret, hlk, hZ⟩ := C
  dsimp only at hx hby hml hown hnm hret hlk hZ
  intro T locs X N eT
  subst hm hf
  by_cases q : x = y
  · obtain ⟨s₂, o, h1, h2⟩ := kF q T locs X N eT
    exact ⟨s₂, o, XT.lcmp X.here hx rfl (hb hby hdl) rfl (XS.ifNo X.here hx rfl (hb hby hd) rfl (XT.ll_ne_f q) h1), h2⟩
  · obtain ⟨s₂, o, h1, h2⟩ := kT q T locs X N eT
    exact ⟨s₂, o, XT.lcmp X.here hx rfl (hb hby hdl) rfl (XS.ifYes X.here hx rfl rfl (hb hby hd) rfl (XT.ll_ne_t q) ho hp h1), h2⟩
theorem r_icmp_lt (C : Ok Z own nm bytes maxL ret K) (pcT pcF : Nat) {o : Int} {x y : Int32} {st : List Value} (hd : decode bytes pc = .ok (.if_icmp .lt o, 3)) (ho : 0 ≤ (pc : Int) + o) (hp : ((pc : Int) + o).toNat = pcT) (hf : pc + 3 = pcF)
    (kT : x < y → Run l R n0 Q K h cells slots pcT Ls st) (kF : ¬ x < y → Run l R n0 Q K h cells slots pcF Ls st) : Run l R n0 Q K h cells slots pc Ls (.int y :: .int x :: st) := by
  obtain ⟨p, e, s, m, args, below, meth, c⟩ := K
  obtain ⟨hx, hby, hml, hown, hnm, hret, hlk, hZ⟩ := C
  dsimp only at hx hby hml hown hnm hret hlk hZ
  intro T locs X N eT
  subst hf
  by_cases q : x < y
  · obtain ⟨s₂, o, h1, h2⟩ := kT q T locs X N eT
    exact ⟨s₂, o, XS.icmpYes X.here hx rfl rfl (hb hby hd) rfl (XT.ii_lt_t q) ho hp h1, h2⟩
  · obtain ⟨s₂, o, h1, h2⟩ := kF q T locs X N eT
    exact ⟨s₂, o, XS.icmpNo X.here hx rfl (hb hby hd) rfl (XT.ii_lt_f q) h1, h2⟩
theorem r_if_lt (C : Ok Z own nm bytes maxL ret K) (pcT pcF : Nat) {o : Int} {x : Int32} {st : List Value} (hd : decode bytes pc = .ok (.ifCond .lt o, 3)) (ho : 0 ≤ (pc : Int) + o) (hp : ((pc : Int) + o).toNat = pcT) (hf : pc + 3 = pcF)
    (kT : x < 0 → Run l R n0 Q K h cells slots pcT Ls st) (kF : ¬ x < 0 → Run l R n0 Q K h cells slots pcF Ls st) : Run l R n0 Q K h cells slots pc Ls (.int x :: st) := by
  obtain ⟨p, e, s, m, args, below, meth, c⟩ := K
  obtain ⟨hx, hby, hml, hown, hnm, hret, hlk, hZ⟩ := C
  dsimp only at hx hby hml hown hnm hret hlk hZ
  intro T locs X N eT
  subst hf
  by_cases q : x < 0
  · obtain ⟨s₂, o, h1, h2⟩ := kT q T locs X N eT
    exact ⟨s₂, o, XS.ifYes X.here hx rfl rfl (hb hby hd) rfl (XT.i0_lt_t q) ho hp h1, h2⟩
  · obtain ⟨s₂, o, h1, h2⟩ := kF q T locs X N eT
    exact ⟨s₂, o, XS.ifNo X.here hx rfl (hb hby hd) rfl (XT.i0_lt_f q) h1, h2⟩
theorem r_lcmp_lt (C : Ok Z own nm bytes maxL ret K) (pcM pcT pcF : Nat) {o : Int} {x y : Int64} {st : List Value} (hdl : decode bytes pc = .ok (.lcmp, 1)) (hm : pc + 1 = pcM) (hd : decode bytes pcM = .ok (.ifCond .lt o, 3)) (ho : 0 ≤ (pcM : Int) + o) (hp : ((pcM : Int) + o).toNat = pcT) (hf : pcM + 3 = pcF)
    (kT : x < y → Run l R n0 Q K h cells slots pcT Ls st) (kF : ¬ x < y → Run l R n0 Q K h cells slots pcF Ls st) : Run l R n0 Q K h cells slots pc Ls (.long y :: .long x :: st) := by
  obtain ⟨p, e, s, m, args, below, meth, c⟩ := K
  obtain ⟨hx, hby, hml, hown, hnm, hret, hlk, hZ⟩ := C
  dsimp only at hx hby hml hown hnm hret hlk hZ
  intro T locs X N eT
  subst hm hf
  by_cases q : x < y
  · obtain ⟨s₂, o, h1, h2⟩ := kT q T locs X N eT
    exact ⟨s₂, o, XT.lcmp X.here hx rfl (hb hby hdl) rfl (XS.ifYes X.here hx rfl rfl (hb hby hd) rfl (XT.ll_lt_t q) ho hp h1), h2⟩
  · obtain ⟨s₂, o, h1, h2⟩ := kF q T locs X N eT
    exact ⟨s₂, o, XT.lcmp X.here hx rfl (hb hby hdl) rfl (XS.ifNo X.here hx rfl (hb hby hd) rfl (XT.ll_lt_f q) h1), h2⟩
theorem r_icmp_ge (C : Ok Z own nm bytes maxL ret K) (pcT pcF : Nat) {o : Int} {x y : Int32} {st : List Value} (hd : decode bytes pc = .ok (.if_icmp .ge o, 3)) (ho : 0 ≤ (pc : Int) + o) (hp : ((pc : Int) + o).toNat = pcT) (hf : pc + 3 = pcF)
    (kT : ¬ x < y → Run l R n0 Q K h cells slots pcT Ls st) (kF : x < y → Run l R n0 Q K h cells slots pcF Ls st) : Run l R n0 Q K h cells slots pc Ls (.int y :: .int x :: st) := by
  obtain ⟨p, e, s, m, args, below, meth, c⟩ := K
  obtain ⟨hx, hby, hml, hown, hnm, hret, hlk, hZ⟩ := C
  dsimp only at hx hby hml hown hnm hret hlk hZ
  intro T locs X N eT
  subst hf
  by_cases q : x < y
  · obtain ⟨s₂, o, h1, h2⟩ := kF q T locs X N eT
    exact ⟨s₂, o, XS.icmpNo X.here hx rfl (hb hby hd) rfl (XT.ii_ge_f q) h1, h2⟩
  · obtain ⟨s₂, o, h1, h2⟩ := kT q T locs X N eT
    exact ⟨s₂, o, XS.icmpYes X.here hx rfl rfl (hb hby hd) rfl (XT.ii_ge_t q) ho hp h1, h2⟩
theorem r_if_ge (C : Ok Z own nm bytes maxL ret K) (pcT pcF : Nat) {o : Int} {x : Int32} {st : List Value} (hd : decode bytes pc = .ok (.ifCond .ge o, 3)) (ho : 0 ≤ (pc : Int) + o) (hp : ((pc : Int) + o).toNat = pcT) (hf : pc + 3 = pcF)
    (kT : ¬ x < 0 → Run l R n0 Q K h cells slots pcT Ls st) (kF : x < 0 → Run l R n0 Q K h cells slots pcF Ls st) : Run l R n0 Q K h cells slots pc Ls (.int x :: st) := by
  obtain ⟨p, e, s, m, args, below, meth, c⟩ := K
  obtain ⟨hx, hby, hml, hown, hnm, hret, hlk, hZ⟩ := C
  dsimp only at hx hby hml hown hnm hret hlk hZ
  intro T locs X N eT
  subst hf
  by_cases q : x < 0
  · obtain ⟨s₂, o, h1, h2⟩ := kF q T locs X N eT
    exact ⟨s₂, o, XS.ifNo X.here hx rfl (hb hby hd) rfl (XT.i0_ge_f q) h1, h2⟩
  · obtain ⟨s₂, o, h1, h2⟩ := kT q T locs X N eT
    exact ⟨s₂, o, XS.ifYes X.here hx rfl rfl (hb hby hd) rfl (XT.i0_ge_t q) ho hp h1, h2⟩
theorem r_lcmp_ge (C : Ok Z own nm bytes maxL ret K) (pcM pcT pcF : Nat) {o : Int} {x y : Int64} {st : List Value} (hdl : decode bytes pc = .ok (.lcmp, 1)) (hm : pc + 1 = pcM) (hd : decode bytes pcM = .ok (.ifCond .ge o, 3)) (ho : 0 ≤ (pcM : Int) + o) (hp : ((pcM : Int) + o).toNat = pcT) (hf : pcM + 3 = pcF)
    (kT : ¬ x < y → Run l R n0 Q K h cells slots pcT Ls st) (kF : x < y → Run l R n0 Q K h cells slots pcF Ls st) : Run l R n0 Q K h cells slots pc Ls (.long y :: .long x :: st) := by
  obtain ⟨p, e, s, m, args, below, meth, c⟩ := K
  obtain ⟨hx, hby, hml, hown, hnm, hret, hlk, hZ⟩ := C
  dsimp only at hx hby hml hown hnm hret hlk hZ
  intro T locs X N eT
  subst hm hf
  by_cases q : x < y
  · obtain ⟨s₂, o, h1, h2⟩ := kF q T locs X N eT
    exact ⟨s₂, o, XT.lcmp X.here hx rfl (hb hby hdl) rfl (XS.ifNo X.here hx rfl (hb hby hd) rfl (XT.ll_ge_f q) h1), h2⟩
  · obtain ⟨s₂, o, h1, h2⟩ := kT q T locs X N eT
    exact ⟨s₂, o, XT.lcmp X.here hx rfl (hb hby hdl) rfl (XS.ifYes X.here hx rfl rfl (hb hby hd) rfl (XT.ll_ge_t q) ho hp h1), h2⟩
theorem r_icmp_gt (C : Ok Z own nm bytes maxL ret K) (pcT pcF : Nat) {o : Int} {x y : Int32} {st : List Value} (hd : decode bytes pc = .ok (.if_icmp .gt o, 3)) (ho : 0 ≤ (pc : Int) + o) (hp : ((pc : Int) + o).toNat = pcT) (hf : pc + 3 = pcF)
    (kT : y < x → Run l R n0 Q K h cells slots pcT Ls st) (kF : ¬ y < x → Run l R n0 Q K h cells slots pcF Ls st) : Run l R n0 Q K h cells slots pc Ls (.int y :: .int x :: st) := by
  obtain ⟨p, e, s, m, args, below, meth, c⟩ := K
  obtain ⟨hx, hby, hml, hown, hnm, hret, hlk, hZ⟩ := C
  dsimp only at hx hby hml hown hnm hret hlk hZ
  intro T locs X N eT
  subst hf
  by_cases q : y < x
  · obtain ⟨s₂, o, h1, h2⟩ := kT q T locs X N eT
    exact ⟨s₂, o, XS.icmpYes X.here hx rfl rfl (hb hby hd) rfl (XT.ii_gt_t q) ho hp h1, h2⟩
  · obtain ⟨s₂, o, h1, h2⟩ := kF q T locs X N eT
    exact ⟨s₂, o, XS.icmpNo X.here hx rfl (hb hby hd) rfl (XT.ii_gt_f q) h1, h2⟩
theorem r_if_gt (C : Ok Z own nm bytes maxL ret K) (pcT pcF : Nat) {o : Int} {x : Int32} {st : List Value} (hd : decode bytes pc = .ok (.ifCond .gt o, 3)) (ho : 0 ≤ (pc : Int) + o) (hp : ((pc : Int) + o).toNat = pcT) (hf : pc + 3 = pcF)
    (kT : 0 < x → Run l R n0 Q K h cells slots pcT Ls st) (kF : ¬ 0 < x → Run l R n0 Q K h cells slots pcF Ls st) : Run l R n0 Q K h cells slots pc Ls (.int x :: st) := by
  obtain ⟨p, e, s, m, args, below, meth, c⟩ := K
  obtain ⟨hx, hby, hml, hown, hnm, hret, hlk, hZ⟩ := C
  dsimp only at hx hby hml hown hnm hret hlk hZ
  intro T locs X N eT
  subst hf
  by_cases q : 0 < x
  · obtain ⟨s₂, o, h1, h2⟩ := kT q T locs X N eT
    exact ⟨s₂, o, XS.ifYes X.here hx rfl rfl (hb hby hd) rfl (XT.i0_gt_t q) ho hp h1, h2⟩
  · obtain ⟨s₂, o, h1, h2⟩ := kF q T locs X N eT
    exact ⟨s₂, o, XS.ifNo X.here hx rfl (hb hby hd) rfl (XT.i0_gt_f q) h1, h2⟩
theorem r_lcmp_gt (C : Ok Z own nm bytes maxL ret K) (pcM pcT pcF : Nat) {o : Int} {x y : Int64} {st : List Value} (hdl : decode bytes pc = .ok (.lcmp, 1)) (hm : pc + 1 = pcM) (hd : decode bytes pcM = .ok (.ifCond .gt o, 3)) (ho : 0 ≤ (pcM : Int) + o) (hp : ((pcM : Int) + o).toNat = pcT) (hf : pcM + 3 = pcF)
    (kT : y < x → Run l R n0 Q K h cells slots pcT Ls st) (kF : ¬ y < x → Run l R n0 Q K h cells slots pcF Ls st) : Run l R n0 Q K h cells slots pc Ls (.long y :: .long x :: st) := by
  obtain ⟨p, e, s, m, args, below, meth, c⟩ := K
  obtain ⟨hx, hby, hml, hown, hnm, hret, hlk, hZ⟩ := C
  dsimp only at hx hby hml hown hnm hret hlk hZ
  intro T locs X N eT
  subst hm hf
  by_cases q : y < x
  · obtain ⟨s₂, o, h1, h2⟩ := kT q T locs X N eT
    exact ⟨s₂, o, XT.lcmp X.here hx rfl (hb hby hdl) rfl (XS.ifYes X.here hx rfl rfl (hb hby hd) rfl (XT.ll_gt_t q) ho hp h1), h2⟩
  · obtain ⟨s₂, o, h1, h2⟩ := kF q T locs X N eT
    exact ⟨s₂, o, XT.lcmp X.here hx rfl (hb hby hdl) rfl (XS.ifNo X.here hx rfl (hb hby hd) rfl (XT.ll_gt_f q) h1), h2⟩
theorem r_icmp_le (C : Ok Z own nm bytes maxL ret K) (pcT pcF : Nat) {o : Int} {x y : Int32} {st : List Value} (hd : decode bytes pc = .ok (.if_icmp .le o, 3)) (ho : 0 ≤ (pc : Int) + o) (hp : ((pc : Int) + o).toNat = pcT) (hf : pc + 3 = pcF)
    (kT : ¬ y < x → Run l R n0 Q K h cells slots pcT Ls st) (kF : y < x → Run l R n0 Q K h cells slots pcF Ls st) : Run l R n0 Q K h cells slots pc Ls (.int y :: .int x :: st) := by
  obtain ⟨p, e, s, m, args, below, meth, c⟩ := K
  obtain ⟨hx, hby, hml, hown, hnm, hret, hlk, hZ⟩ := C
  dsimp only at hx hby hml hown hnm hret hlk hZ
  intro T locs X N eT
  subst hf
  by_cases q : y < x
  · obtain ⟨s₂, o, h1, h2⟩ := kF q T locs X N eT
    exact ⟨s₂, o, XS.icmpNo X.here hx rfl (hb hby hd) rfl (XT.ii_le_f q) h1, h2⟩
  · obtain ⟨s₂, o, h1, h2⟩ := kT q T locs X N eT
    exact ⟨s₂, o, XS.icmpYes X.here hx rfl rfl (hb hby hd) rfl (XT.ii_le_t q) ho hp h1, h2⟩
theorem r_if_le (C : Ok Z own nm bytes maxL ret K) (pcT pcF : Nat) {o : Int} {x : Int32} {st : List Value} (hd : decode bytes pc = .ok (.ifCond .le o, 3)) (ho : 0 ≤ (pc : Int) + o) (hp : ((pc : Int) + o).toNat = pcT) (hf : pc + 3 = pcF)
    (kT : ¬ 0 < x → Run l R n0 Q K h cells slots pcT Ls st) (kF : 0 < x → Run l R n0 Q K h cells slots pcF Ls st) : Run l R n0 Q K h cells slots pc Ls (.int x :: st) := by
  obtain ⟨p, e, s, m, args, below, meth, c⟩ := K
  obtain ⟨hx, hby, hml, hown, hnm, hret, hlk, hZ⟩ := C
  dsimp only at hx hby hml hown hnm hret hlk hZ
  intro T locs X N eT
  subst hf
  by_cases q : 0 < x
  · obtain ⟨s₂, o, h1, h2⟩ := kF q T locs X N eT
    exact ⟨s₂, o, XS.ifNo X.here hx rfl (hb hby hd) rfl (XT.i0_le_f q) h1, h2⟩
  · obtain ⟨s₂, o, h1, h2⟩ := kT q T locs X N eT
    exact ⟨s₂, o, XS.ifYes X.here hx rfl rfl (hb hby hd) rfl (XT.i0_le_t q) ho hp h1, h2⟩
theorem r_lcmp_le (C : Ok Z own nm bytes maxL ret K) (pcM pcT pcF : Nat) {o : Int} {x y : Int64} {st : List Value} (hdl : decode bytes pc = .ok (.lcmp, 1)) (hm : pc + 1 = pcM) (hd : decode bytes pcM = .ok (.ifCond .le o, 3)) (ho : 0 ≤ (pcM : Int) + o) (hp : ((pcM : Int) + o).toNat = pcT) (hf : pcM + 3 = pcF)
    (kT : ¬ y < x → Run l R n0 Q K h cells slots pcT Ls st) (kF : y < x → Run l R n0 Q K h cells slots pcF Ls st) : Run l R n0 Q K h cells slots pc Ls (.long y :: .long x :: st) := by
  obtain ⟨p, e, s, m, args, below, meth, c⟩ := K
  obtain ⟨hx, hby, hml, hown, hnm, hret, hlk, hZ⟩ := C
  dsimp only at hx hby hml hown hnm hret hlk hZ
  intro T locs X N eT
  subst hm hf
  by_cases q : y < x
  · obtain ⟨s₂, o, h1, h2⟩ := kF q T locs X N eT
    exact ⟨s₂, o, XT.lcmp X.here hx rfl (hb hby hdl) rfl (XS.ifNo X.here hx rfl (hb hby hd) rfl (XT.ll_le_f q) h1), h2⟩
  · obtain ⟨s₂, o, h1, h2⟩ := kT q T locs X N eT
    exact ⟨s₂, o, XT.lcmp X.here hx rfl (hb hby hdl) rfl (XS.ifYes X.here hx rfl rfl (hb hby hd) rfl (XT.ll_le_t q) ho hp h1), h2⟩
theorem r_acmp_eq (C : Ok Z own nm bytes maxL ret K) (pcT pcF : Nat) {o : Int} {x y : Value} {st : List Value} (hd : decode bytes pc = .ok (.if_acmp .eq o, 3)) (ho : 0 ≤ (pc : Int) + o) (hp : ((pc : Int) + o).toNat = pcT) (hf : pc + 3 = pcF) (hx' : x.isRef = true) (hy' : y.isRef = true)
    (kT : x = y → Run l R n0 Q K h cells slots pcT Ls st) (kF : ¬ x = y → Run l R n0 Q K h cells slots pcF Ls st) : Run l R n0 Q K h cells slots pc Ls (y :: x :: st) := by
  obtain ⟨p, e, s, m, args, below, meth, c⟩ := K
  obtain ⟨hx, hby, hml, hown, hnm, hret, hlk, hZ⟩ := C
  dsimp only at hx hby hml hown hnm hret hlk hZ
  intro T locs X N eT
  subst hf
  by_cases q : x = y
  · obtain ⟨s₂, o, h1, h2⟩ := kT q T locs X N eT
    exact ⟨s₂, o, XT.acmpYes X.here hx rfl rfl (hb hby hd) rfl hx' hy' (XT.aa_eq_t q) ho hp h1, h2⟩
  · obtain ⟨s₂, o, h1, h2⟩ := kF q T locs X N eT
    exact ⟨s₂, o, XT.acmpNo X.here hx rfl (hb hby hd) rfl hx' hy' (XT.aa_eq_f q) h1, h2⟩
theorem r_acmp_ne (C : Ok Z own nm bytes maxL ret K) (pcT pcF : Nat) {o : Int} {x y : Value} {st : List Value} (hd : decode bytes pc = .ok (.if_acmp .ne o, 3)) (ho : 0 ≤ (pc : Int) + o) (hp : ((pc : Int) + o).toNat = pcT) (hf : pc + 3 = pcF) (hx' : x.isRef = true) (hy' : y.isRef = true)
    (kT : ¬ x = y → Run l R n0 Q K h cells slots pcT Ls st) (kF : x = y → Run l R n0 Q K h cells slots pcF Ls st) : Run l R n0 Q K h cells slots pc Ls (y :: x :: st) := by
  obtain ⟨p, e, s, m, args, below, meth, c⟩ := K
  obtain ⟨hx, hby, hml, hown, hnm, hret, hlk, hZ⟩ := C
  dsimp only at hx hby hml hown hnm hret hlk hZ
  intro T locs X N eT
  subst hf
  by_cases q : x = y
  · obtain ⟨s₂, o, h1, h2⟩ := kF q T locs X N eT
    exact ⟨s₂, o, XT.acmpNo X.here hx rfl (hb hby hd) rfl hx' hy' (XT.aa_ne_f q) h1, h2⟩
  · obtain ⟨s₂, o, h1, h2⟩ := kT q T locs X N eT
    exact ⟨s₂, o, XT.acmpYes X.here hx rfl rfl (hb hby hd) rfl hx' hy' (XT.aa_ne_t q) ho hp h1, h2⟩
theorem r_ifnull_t (C : Ok Z own nm bytes maxL ret K) (pc' : Nat) {o : Int} {st : List Value} (hd : decode bytes pc = .ok (.ifnull o, 3)) (ho : 0 ≤ (pc : Int) + o) (hp : ((pc : Int) + o).toNat = pc')
    (k : Run l R n0 Q K h cells slots pc' Ls st) : Run l R n0 Q K h cells slots pc Ls (.null :: st) := by
  obtain ⟨p, e, s, m, args, below, meth, c⟩ := K
  obtain ⟨hx, hby, hml, hown, hnm, hret, hlk, hZ⟩ := C
  dsimp only at hx hby hml hown hnm hret hlk hZ
  intro T locs X N eT
  obtain ⟨s₂, o, h1, h2⟩ := k T locs X N eT
  exact ⟨s₂, o, XS.ifnullYes X.here hx rfl rfl (hb hby hd) rfl ho hp h1, h2⟩
theorem r_ifnull_f (C : Ok Z own nm bytes maxL ret K) (pc' : Nat) {o : Int} {b : Addr} {st : List Value} (hd : decode bytes pc = .ok (.ifnull o, 3)) (hp : pc + 3 = pc')
    (k : Run l R n0 Q K h cells slots pc' Ls st) : Run l R n0 Q K h cells slots pc Ls (.ref b :: st) := by
  obtain ⟨p, e, s, m, args, below, meth, c⟩ := K
  obtain ⟨hx, hby, hml, hown, hnm, hret, hlk, hZ⟩ := C
  dsimp only at hx hby hml hown hnm hret hlk hZ
  intro T locs X N eT
  subst hp
  obtain ⟨s₂, o, h1, h2⟩ := k T locs X N eT
  exact ⟨s₂, o, XS.ifnullNo X.here hx rfl (hb hby hd) rfl h1, h2⟩
theorem r_ifnonnull_t (C : Ok Z own nm bytes maxL ret K) (pc' : Nat) {o : Int} {b : Addr} {st : List Value} (hd : decode bytes pc = .ok (.ifnonnull o, 3)) (ho : 0 ≤ (pc : Int) + o) (hp : ((pc : Int) + o).toNat = pc')
    (k : Run l R n0 Q K h cells slots pc' Ls st) : Run l R n0 Q K h cells slots pc Ls (.ref b :: st) := by
  obtain ⟨p, e, s, m, args, below, meth, c⟩ := K
  obtain ⟨hx, hby, hml, hown, hnm, hret, hlk, hZ⟩ := C
  dsimp only at hx hby hml hown hnm hret hlk hZ
  intro T locs X N eT
  obtain ⟨s₂, o, h1, h2⟩ := k T locs X N eT
  exact ⟨s₂, o, XS.ifnonnullYes X.here hx rfl rfl (hb hby hd) rfl ho hp h1, h2⟩
theorem r_ifnonnull_f (C : Ok Z own nm bytes maxL ret K) (pc' : Nat) {o : Int} {st : List Value} (hd : decode bytes pc = .ok (.ifnonnull o, 3)) (hp : pc + 3 = pc')
    (k : Run l R n0 Q K h cells slots pc' Ls st) : Run l R n0 Q K h cells slots pc Ls (.null :: st) := by
  obtain ⟨p, e, s, m, args, below, meth, c⟩ := K
  obtain ⟨hx, hby, hml, hown, hnm, hret, hlk, hZ⟩ := C
  dsimp only at hx hby hml hown hnm hret hlk hZ
  intro T locs X N eT
  subst hp
  obtain ⟨s₂, o, h1, h2⟩ := k T locs X N eT
  exact ⟨s₂, o, XS.ifnonnullNo X.here hx rfl (hb hby hd) rfl h1, h2⟩
theorem r_lsw_hit (C : Ok Z own nm bytes maxL ret K) (pc' : Nat) {x : Int32} {dflt : Int} {pairs : Array (Int × Int)} {len : Nat} {a off : Int} {st : List Value} (hd : decode bytes pc = .ok (.lookupswitch dflt pairs, len)) (hs : (pairs.toList.zip (pairs.toList.drop 1)).all (fun (a, next) => a.1 < next.1) = true) (hf : pairs.find? (·.1 == x.toInt) = some (a, off)) (ho : 0 ≤ (pc : Int) + off) (hp : ((pc : Int) + off).toNat = pc')
    (k : Run l R n0 Q K h cells slots pc' Ls st) : Run l R n0 Q K h cells slots pc Ls (.int x :: st) := by
  obtain ⟨p, e, s, m, args, below, meth, c⟩ := K
  obtain ⟨hx, hby, hml, hown, hnm, hret, hlk, hZ⟩ := C
  dsimp only at hx hby hml hown hnm hret hlk hZ
  intro T locs X N eT
  subst hp
  obtain ⟨s₂, o, h1, h2⟩ := k T locs X N eT
  exact ⟨s₂, o, X.lookupswitchHit hx (g := mkF m pc Ls (.int x :: st)) rfl rfl (hb hby hd) hs hf ho _ h1, h2⟩
theorem r_lsw_miss (C : Ok Z own nm bytes maxL ret K) (pc' : Nat) {x : Int32} {dflt : Int} {pairs : Array (Int × Int)} {len : Nat} {st : List Value} (hd : decode bytes pc = .ok (.lookupswitch dflt pairs, len)) (hs : (pairs.toList.zip (pairs.toList.drop 1)).all (fun (a, next) => a.1 < next.1) = true) (hf : pairs.find? (·.1 == x.toInt) = none) (ho : 0 ≤ (pc : Int) + dflt) (hp : ((pc : Int) + dflt).toNat = pc')
    (k : Run l R n0 Q K h cells slots pc' Ls st) : Run l R n0 Q K h cells slots pc Ls (.int x :: st) := by
  obtain ⟨p, e, s, m, args, below, meth, c⟩ := K
  obtain ⟨hx, hby, hml, hown, hnm, hret, hlk, hZ⟩ := C
  dsimp only at hx hby hml hown hnm hret hlk hZ
  intro T locs X N eT
  subst hp
  obtain ⟨s₂, o, h1, h2⟩ := k T locs X N eT
  exact ⟨s₂, o, X.lookupswitchMiss hx (g := mkF m pc Ls (.int x :: st)) rfl rfl (hb hby hd) hs hf ho _ h1, h2⟩
theorem r_tsw_in (C : Ok Z own nm bytes maxL ret K) (pc' : Nat) {x : Int32} {dflt low high : Int} {offs : Array Int} {len : Nat} {off : Int} {st : List Value} (hd : decode bytes pc = .ok (.tableswitch dflt low high offs, len)) (hin : ¬ (x.toInt < low ∨ x.toInt > high)) (hf : offs[(x.toInt - low).toNat]? = some off) (ho : 0 ≤ (pc : Int) + off) (hp : ((pc : Int) + off).toNat = pc')
    (k : Run l R n0 Q K h cells slots pc' Ls st) : Run l R n0 Q K h cells slots pc Ls (.int x :: st) := by
  obtain ⟨p, e, s, m, args, below, meth, c⟩ := K
  obtain ⟨hx, hby, hml, hown, hnm, hret, hlk, hZ⟩ := C
  dsimp only at hx hby hml hown hnm hret hlk hZ
  intro T locs X N eT
  obtain ⟨s₂, o, h1, h2⟩ := k T locs X N eT
  exact ⟨s₂, o, XS.tswIn X.here hx rfl rfl (hb hby hd) rfl hin hf ho hp h1, h2⟩
theorem r_tsw_out (C : Ok Z own nm bytes maxL ret K) (pc' : Nat) {x : Int32} {dflt low high : Int} {offs : Array Int} {len : Nat} {st : List Value} (hd : decode bytes pc = .ok (.tableswitch dflt low high offs, len)) (hout : x.toInt < low ∨ x.toInt > high) (ho : 0 ≤ (pc : Int) + dflt) (hp : ((pc : Int) + dflt).toNat = pc')
    (k : Run l R n0 Q K h cells slots pc' Ls st) : Run l R n0 Q K h cells slots pc Ls (.int x :: st) := by
  obtain ⟨p, e, s, m, args, below, meth, c⟩ := K
  obtain ⟨hx, hby, hml, hown, hnm, hret, hlk, hZ⟩ := C
  dsimp only at hx hby hml hown hnm hret hlk hZ
  intro T locs X N eT
  obtain ⟨s₂, o, h1, h2⟩ := k T locs X N eT
  exact ⟨s₂, o, XS.tswOut X.here hx rfl rfl (hb hby hd) rfl hout ho hp h1, h2⟩
theorem sumcat (L : List Value) (W : Nat) (q : (L.map fun v => v.category).sum = W) {m : MethodId} {pc : Nat} {Ls : Array Slot} {st : List Value} : 2 * (mkF m pc Ls st).monitorRoom + (L.map fun v => v.category).sum ≤ W := by
  rw [q]; show 2 * 0 + W ≤ W; omega
theorem r_getfield (C : Ok Z own nm bytes maxL ret K) (pc' : Nat) {R0 O n d host : String} {i : Nat} {a : Addr} {v : Value} {st : List Value} (w : (Jvm.Cond.fieldLink own i R0 n d).before a0 Z = true ∨ (Jvm.Cond.fieldLinkNest own i R0 n d host).before a0 Z = true) (via : Via Z R0 O n d) (F : Fld Z h a O n d v) (hd : decode bytes pc = .ok (.getfield i, 3)) (hp : pc + 3 = pc')
    (k : Run l R n0 Q K h cells slots pc' Ls (v :: st)) : Run l R n0 Q K h cells slots pc Ls (.ref a :: st) := by
  obtain ⟨p, e, s, m, args, below, meth, c⟩ := K
  obtain ⟨hx, hby, hml, hown, hnm, hret, hlk, hZ⟩ := C
  dsimp only at hx hby hml hown hnm hret hlk hZ
  intro T locs X N eT
  subst hp
  obtain ⟨T1, X1, e1, st1⟩ := getF X hx hZ hown w via eT F (g := mkF m pc Ls (.ref a :: st)) rfl rfl (hb hby hd)
  obtain ⟨s₂, o, h1, h2⟩ := k T1 locs X1 N e1
  exact ⟨s₂, o, st1 _ h1, h2⟩
theorem r_getstatic (C : Ok Z own nm bytes maxL ret K) (pc' : Nat) {R0 O n d host : String} {i : Nat} {v : Value} {st : List Value} (w : (Jvm.Cond.fieldLink own i R0 n d).before a0 Z = true ∨ (Jvm.Cond.fieldLinkNest own i R0 n d host).before a0 Z = true) (via : Via Z R0 O n d) (F : Sta Z h O n d v) (hd : decode bytes pc = .ok (.getstatic i, 3)) (hp : pc + 3 = pc')
    (k : Run l R n0 Q K h cells slots pc' Ls (v :: st)) : Run l R n0 Q K h cells slots pc Ls (st) := by
  obtain ⟨p, e, s, m, args, below, meth, c⟩ := K
  obtain ⟨hx, hby, hml, hown, hnm, hret, hlk, hZ⟩ := C
  dsimp only at hx hby hml hown hnm hret hlk hZ
  intro T locs X N eT
  subst hp
  obtain ⟨T1, X1, e1, st1⟩ := getS2 X hx hZ hown w via eT F (g := mkF m pc Ls st) rfl (hb hby hd)
  obtain ⟨s₂, o, h1, h2⟩ := k T1 locs X1 N e1
  exact ⟨s₂, o, st1 _ h1, h2⟩
theorem r_putfield (C : Ok Z own nm bytes maxL ret K) (pc' : Nat) {R0 O n d host D : String} {i kk : Nat} {ty : FieldType} {a : Addr} {v old : Value} {st : List Value} (w : (Jvm.Cond.fieldLink own i R0 n d).before a0 Z = true ∨ (Jvm.Cond.fieldLinkNest own i R0 n d host).before a0 Z = true) (via : Via Z R0 O n d) (F : Fld Z h a O n d old) (E : Exa Z h a D) (L : (Jvm.Cond.lays D O n d).before a0 Z = true ∨ ((Jvm.Cond.laysFinal D O n d).before a0 Z = true ∧ own = O ∧ nm = "<init>")) (wi : (Jvm.Cond.instantiable D kk).before a0 Z = true) (hty : parseFieldDescriptor d = some ty) (hn : narrow ty v = v) (hf : fits ty v = true) (hd : decode bytes pc = .ok (.putfield i, 3)) (hp : pc + 3 = pc') (hn0 : n0 ≤ a)
    (k : ∀ h', Wr h h' a (Jvm.RoadKit.slotOf Z O n d) v → Run l R n0 Q K h' cells slots pc' Ls st) : Run l R n0 Q K h cells slots pc Ls (v :: .ref a :: st) := by
  obtain ⟨p, e, s, m, args, below, meth, c⟩ := K
  obtain ⟨hx, hby, hml, hown, hnm, hret, hlk, hZ⟩ := C
  dsimp only at hx hby hml hown hnm hret hlk hZ
  intro T locs X N eT
  subst hp
  subst hnm
  obtain ⟨T1, h', X1, e1, W1, st1⟩ := putF X hx hZ hown w via eT F E L wi hty hn hf (g := mkF m pc Ls (v :: .ref a :: st)) rfl rfl (hb hby hd)
  obtain ⟨s₂, o, h1, h2⟩ := k h' W1 T1 _ X1 (Fr.snoc X1 N hn0) e1
  exact ⟨s₂, o, st1 _ h1, h2⟩
theorem r_putfieldN (C : Ok Z own nm bytes maxL ret K) (pc' : Nat) (v' : Value) {R0 O n d D : String} {i kk : Nat} {ty : FieldType} {a : Addr} {v old : Value} {st : List Value} (w : (Jvm.Cond.fieldLink own i R0 n d).before a0 Z = true) (via : Via Z R0 O n d) (F : Fld Z h a O n d old) (E : Exa Z h a D) (L : (Jvm.Cond.lays D O n d).before a0 Z = true ∨ ((Jvm.Cond.laysFinal D O n d).before a0 Z = true ∧ own = O ∧ nm = "<init>")) (wi : (Jvm.Cond.instantiable D kk).before a0 Z = true) (hty : parseFieldDescriptor d = some ty) (hn : narrow ty v = v') (hf : fits ty v' = true) (hd : decode bytes pc = .ok (.putfield i, 3)) (hp : pc + 3 = pc') (hn0 : n0 ≤ a)
    (k : ∀ h', Wr h h' a (Jvm.RoadKit.slotOf Z O n d) v' → Run l R n0 Q K h' cells slots pc' Ls st) : Run l R n0 Q K h cells slots pc Ls (v :: .ref a :: st) := by
  obtain ⟨p, e, s, m, args, below, meth, c⟩ := K
  obtain ⟨hx, hby, hml, hown, hnm, hret, hlk, hZ⟩ := C
  dsimp only at hx hby hml hown hnm hret hlk hZ
  intro T locs X N eT
  subst hp
  subst hnm
  obtain ⟨T1, h', X1, e1, W1, st1⟩ := putFN X hx hZ hown w via eT F E L wi hty hn hf (g := mkF m pc Ls (v :: .ref a :: st)) rfl rfl (hb hby hd)
  obtain ⟨s₂, o, h1, h2⟩ := k h' W1 T1 _ X1 (Fr.snoc X1 N hn0) e1
  exact ⟨s₂, o, st1 _ h1, h2⟩
theorem r_new (C : Ok Z own nm bytes maxL ret K) (pc' : Nat) {D : String} {i n : Nat} {st : List Value} (w : (Jvm.Cond.classLink own i D).before a0 Z = true) (wi : (Jvm.Cond.instantiable D n).before a0 Z = true) (wz : (Jvm.Cond.initialized D).before a0 Z = true) (hd : decode bytes pc = .ok (.new i, 3)) (hp : pc + 3 = pc') (hc : cells + 1 ≤ R.cells) (hl : slots + n ≤ R.slots)
    (k : ∀ h' b, b = h.size → Ext h h' → Exa Z h' b D → (∀ {O nm d : String} {ty : FieldType}, Laid Z a0 D O nm d → parseFieldDescriptor d = some ty → Fld Z h' b O nm d (defaultValue ty)) → Run l R n0 Q K h' (cells + 1) (slots + n) pc' Ls (.ref b :: st)) : Run l R n0 Q K h cells slots pc Ls (st) := by
  obtain ⟨p, e, s, m, args, below, meth, c⟩ := K
  obtain ⟨hx, hby, hml, hown, hnm, hret, hlk, hZ⟩ := C
  dsimp only at hx hby hml hown hnm hret hlk hZ
  intro T locs X N eT
  subst hp
  obtain ⟨T1, h', X1, e1, E1, A1, D1, -, st1⟩ := newO X hx hZ hown w wi wz eT (g := mkF m pc Ls st) rfl (hb hby hd) hc hl
  obtain ⟨s₂, o, h1, h2⟩ := k h' _ rfl E1 A1 D1 T1 locs X1 N e1
  exact ⟨s₂, o, st1 _ h1, h2⟩
theorem r_newarray (C : Ok Z own nm bytes maxL ret K) (pc' cap : Nat) {aty : ArrayType} {n : Int32} {st : List Value} (w : (Jvm.Cond.arrayClass (newarray.typeOf aty)).before a0 Z = true) (hd : decode bytes pc = .ok (.newarray aty, 2)) (hp : pc + 2 = pc') (hn : ¬ n < 0) (hcap : n.toNatClampNeg ≤ cap) (hbig : cap * 8 ≤ 536870912) (hc : cells + 1 ≤ R.cells) (hl : slots + cap ≤ R.slots)
    (k : ∀ h' b kA, b = h.size → Ext h h' → Arv Z h' b kA (newarray.typeOf aty) n [] (defaultValue (newarray.typeOf aty)) → Run l R n0 Q K h' (cells + 1) (slots + cap) pc' Ls (.ref b :: st)) : Run l R n0 Q K h cells slots pc Ls (.int n :: st) := by
  obtain ⟨p, e, s, m, args, below, meth, c⟩ := K
  obtain ⟨hx, hby, hml, hown, hnm, hret, hlk, hZ⟩ := C
  dsimp only at hx hby hml hown hnm hret hlk hZ
  intro T locs X N eT
  subst hp
  obtain ⟨T1, h', kA, X1, e1, E1, A1, st1⟩ := newP X hx hZ w eT (g := mkF m pc Ls (.int n :: st)) rfl (hb hby hd) rfl hn hcap hbig hc hl
  obtain ⟨s₂, o, h1, h2⟩ := k h' _ kA rfl E1 (Arv.new A1 hn) T1 locs X1 N e1
  exact ⟨s₂, o, st1 _ h1, h2⟩
theorem r_anewarray (C : Ok Z own nm bytes maxL ret K) (pc' cap : Nat) {D : String} {i : Nat} {n : Int32} {st : List Value} (w : (Jvm.Cond.classLink own i D).before a0 Z = true) (w2 : (Jvm.Cond.arrayOver (.object D)).before a0 Z = true) (hd : decode bytes pc = .ok (.anewarray i, 3)) (hp : pc + 3 = pc') (hn : ¬ n < 0) (hcap : n.toNatClampNeg ≤ cap) (hbig : cap * 8 ≤ 536870912) (hc : cells + 1 ≤ R.cells) (hl : slots + cap ≤ R.slots)
    (k : ∀ h' b kA, b = h.size → Ext h h' → Arv Z h' b kA (.object D) n [] .null → Ovr Z kA D → Run l R n0 Q K h' (cells + 1) (slots + cap) pc' Ls (.ref b :: st)) : Run l R n0 Q K h cells slots pc Ls (.int n :: st) := by
  obtain ⟨p, e, s, m, args, below, meth, c⟩ := K
  obtain ⟨hx, hby, hml, hown, hnm, hret, hlk, hZ⟩ := C
  dsimp only at hx hby hml hown hnm hret hlk hZ
  intro T locs X N eT
  subst hp
  obtain ⟨T1, h', kA, X1, e1, E1, A1, O1, st1⟩ := newR X hx hZ hown w w2 eT (g := mkF m pc Ls (.int n :: st)) rfl (hb hby hd) rfl hn hcap hbig hc hl
  obtain ⟨s₂, o, h1, h2⟩ := k h' _ kA rfl E1 (Arv.new A1 hn) O1 T1 locs X1 N e1
  exact ⟨s₂, o, st1 _ h1, h2⟩
theorem r_arraylength (C : Ok Z own nm bytes maxL ret K) (pc' : Nat) {a : Addr} {kA : ClassId} {ty : FieldType} {z : Int32} {vs : List Value} {dv : Value} {st : List Value} (F : Arv Z h a kA ty z vs dv) (hd : decode bytes pc = .ok (.arraylength, 1)) (hp : pc + 1 = pc')
    (k : Run l R n0 Q K h cells slots pc' Ls (.int z :: st)) : Run l R n0 Q K h cells slots pc Ls (.ref a :: st) := by
  obtain ⟨p, e, s, m, args, below, meth, c⟩ := K
  obtain ⟨hx, hby, hml, hown, hnm, hret, hlk, hZ⟩ := C
  dsimp only at hx hby hml hown hnm hret hlk hZ
  intro T locs X N eT
  subst hp
  obtain ⟨cl, A, -, S, Nn, -, -⟩ := F
  have ez := len_of S Nn
  obtain ⟨s₂, o, h1, h2⟩ := k T locs X N eT
  exact ⟨s₂, o, X.arraylength hx (by rw [eT]; exact A.1) (State.isArrayOf_alike hZ.alike A.2.1) (g := mkF m pc Ls (.ref a :: st)) rfl rfl (hb hby hd) _ (by rw [ez]; exact h1), h2⟩
theorem r_iaload (C : Ok Z own nm bytes maxL ret K) (pc' : Nat) {a : Addr} {kA : ClassId} {j z : Int32} {v : Value} {vs : List Value} {dv : Value} {st : List Value} (F : Arv Z h a kA .int z vs dv) (hj : ¬ j < 0 ∧ j < z) (hv : vs.getD j.toNatClampNeg dv = v) (hd : decode bytes pc = .ok (.iaload, 1)) (hp : pc + 1 = pc')
    (k : Run l R n0 Q K h cells slots pc' Ls (v :: st)) : Run l R n0 Q K h cells slots pc Ls (.int j :: .ref a :: st) := by
  obtain ⟨p, e, s, m, args, below, meth, c⟩ := K
  obtain ⟨hx, hby, hml, hown, hnm, hret, hlk, hZ⟩ := C
  dsimp only at hx hby hml hown hnm hret hlk hZ
  intro T locs X N eT
  subst hp
  obtain ⟨cl, A, -, S, Nn, H, -⟩ := F
  have hin := inb_of S hj
  obtain ⟨s₂, o, h1, h2⟩ := k T locs X N eT
  exact ⟨s₂, o, X.iaload hx (by rw [eT]; exact A.1) (State.isArrayOf_alike hZ.alike A.2.1) A.2.2 hin (Has.at H hin hv) (g := mkF m pc Ls (.int j :: .ref a :: st)) rfl rfl (hb hby hd) _ h1, h2⟩
theorem r_caload (C : Ok Z own nm bytes maxL ret K) (pc' : Nat) {a : Addr} {kA : ClassId} {j z : Int32} {v : Value} {vs : List Value} {dv : Value} {st : List Value} (F : Arv Z h a kA .char z vs dv) (hj : ¬ j < 0 ∧ j < z) (hv : vs.getD j.toNatClampNeg dv = v) (hd : decode bytes pc = .ok (.caload, 1)) (hp : pc + 1 = pc')
    (k : Run l R n0 Q K h cells slots pc' Ls (v :: st)) : Run l R n0 Q K h cells slots pc Ls (.int j :: .ref a :: st) := by
  obtain ⟨p, e, s, m, args, below, meth, c⟩ := K
  obtain ⟨hx, hby, hml, hown, hnm, hret, hlk, hZ⟩ := C
  dsimp only at hx hby hml hown hnm hret hlk hZ
  intro T locs X N eT
  subst hp
  obtain ⟨cl, A, -, S, Nn, H, -⟩ := F
  have hin := inb_of S hj
  obtain ⟨s₂, o, h1, h2⟩ := k T locs X N eT
  exact ⟨s₂, o, X.caload hx (by rw [eT]; exact A.1) (State.isArrayOf_alike hZ.alike A.2.1) A.2.2 hin (Has.at H hin hv) (g := mkF m pc Ls (.int j :: .ref a :: st)) rfl rfl (hb hby hd) _ h1, h2⟩
theorem r_baload (C : Ok Z own nm bytes maxL ret K) (pc' : Nat) {a : Addr} {kA : ClassId} {j z : Int32} {v : Value} {vs : List Value} {dv : Value} {st : List Value} (F : Arv Z h a kA .byte z vs dv) (hj : ¬ j < 0 ∧ j < z) (hv : vs.getD j.toNatClampNeg dv = v) (hd : decode bytes pc = .ok (.baload, 1)) (hp : pc + 1 = pc')
    (k : Run l R n0 Q K h cells slots pc' Ls (v :: st)) : Run l R n0 Q K h cells slots pc Ls (.int j :: .ref a :: st) := by
  obtain ⟨p, e, s, m, args, below, meth, c⟩ := K
  obtain ⟨hx, hby, hml, hown, hnm, hret, hlk, hZ⟩ := C
  dsimp only at hx hby hml hown hnm hret hlk hZ
  intro T locs X N eT
  subst hp
  obtain ⟨cl, A, -, S, Nn, H, -⟩ := F
  have hin := inb_of S hj
  obtain ⟨s₂, o, h1, h2⟩ := k T locs X N eT
  exact ⟨s₂, o, X.baloadBytes hx (by rw [eT]; exact A.1) (State.isArrayOf_alike hZ.alike A.2.1) A.2.2 hin (Has.at H hin hv) (g := mkF m pc Ls (.int j :: .ref a :: st)) rfl rfl (hb hby hd) _ h1, h2⟩
theorem r_laload (C : Ok Z own nm bytes maxL ret K) (pc' : Nat) {a : Addr} {kA : ClassId} {j z : Int32} {v : Value} {vs : List Value} {dv : Value} {st : List Value} (F : Arv Z h a kA .long z vs dv) (hj : ¬ j < 0 ∧ j < z) (hv : vs.getD j.toNatClampNeg dv = v) (hd : decode bytes pc = .ok (.laload, 1)) (hp : pc + 1 = pc')
    (k : Run l R n0 Q K h cells slots pc' Ls (v :: st)) : Run l R n0 Q K h cells slots pc Ls (.int j :: .ref a :: st) := by
  obtain ⟨p, e, s, m, args, below, meth, c⟩ := K
  obtain ⟨hx, hby, hml, hown, hnm, hret, hlk, hZ⟩ := C
  dsimp only at hx hby hml hown hnm hret hlk hZ
  intro T locs X N eT
  subst hp
  obtain ⟨cl, A, -, S, Nn, H, -⟩ := F
  have hin := inb_of S hj
  obtain ⟨s₂, o, h1, h2⟩ := k T locs X N eT
  exact ⟨s₂, o, X.laload hx (by rw [eT]; exact A.1) (State.isArrayOf_alike hZ.alike A.2.1) A.2.2 hin (Has.at H hin hv) (g := mkF m pc Ls (.int j :: .ref a :: st)) rfl rfl (hb hby hd) _ h1, h2⟩
theorem r_arraylengthC (C : Ok Z own nm bytes maxL ret K) (pc' : Nat) {a : Addr} {cl : Cell} {ty : FieldType} {z : Int32} {st : List Value} (A : Arr Z h a cl ty) (hz : cl.slots.size.toInt32 = z) (hd : decode bytes pc = .ok (.arraylength, 1)) (hp : pc + 1 = pc')
    (k : Run l R n0 Q K h cells slots pc' Ls (.int z :: st)) : Run l R n0 Q K h cells slots pc Ls (.ref a :: st) := by
  obtain ⟨p, e, s, m, args, below, meth, c⟩ := K
  obtain ⟨hx, hby, hml, hown, hnm, hret, hlk, hZ⟩ := C
  dsimp only at hx hby hml hown hnm hret hlk hZ
  intro T locs X N eT
  subst hp
  obtain ⟨s₂, o, h1, h2⟩ := k T locs X N eT
  exact ⟨s₂, o, X.arraylength hx (by rw [eT]; exact A.1) (State.isArrayOf_alike hZ.alike A.2.1) (g := mkF m pc Ls (.ref a :: st)) rfl rfl (hb hby hd) _ (by rw [hz]; exact h1), h2⟩
theorem r_ialoadC (C : Ok Z own nm bytes maxL ret K) (pc' : Nat) {a : Addr} {cl : Cell} {j : Int32} {v : Value} {st : List Value} (A : Arr Z h a cl .int) (hin : ¬ (j < 0 ∨ cl.slots.size ≤ j.toNatClampNeg)) (hv : cl.slots[j.toNatClampNeg]? = some v) (hd : decode bytes pc = .ok (.iaload, 1)) (hp : pc + 1 = pc')
    (k : Run l R n0 Q K h cells slots pc' Ls (v :: st)) : Run l R n0 Q K h cells slots pc Ls (.int j :: .ref a :: st) := by
  obtain ⟨p, e, s, m, args, below, meth, c⟩ := K
  obtain ⟨hx, hby, hml, hown, hnm, hret, hlk, hZ⟩ := C
  dsimp only at hx hby hml hown hnm hret hlk hZ
  intro T locs X N eT
  subst hp
  obtain ⟨s₂, o, h1, h2⟩ := k T locs X N eT
  exact ⟨s₂, o, X.iaload hx (by rw [eT]; exact A.1) (State.isArrayOf_alike hZ.alike A.2.1) A.2.2 hin hv (g := mkF m pc Ls (.int j :: .ref a :: st)) rfl rfl (hb hby hd) _ h1, h2⟩
theorem r_aaload (C : Ok Z own nm bytes maxL ret K) (pc' : Nat) {a : Addr} {kA : ClassId} {ty : FieldType} {j z : Int32} {v : Value} {vs : List Value} {dv : Value} {st : List Value} (F : Arv Z h a kA ty z vs dv) (hty : ty.isReference = true) (hj : ¬ j < 0 ∧ j < z) (hv : vs.getD j.toNatClampNeg dv = v) (hd : decode bytes pc = .ok (.aaload, 1)) (hp : pc + 1 = pc')
    (k : Run l R n0 Q K h cells slots pc' Ls (v :: st)) : Run l R n0 Q K h cells slots pc Ls (.int j :: .ref a :: st) := by
  obtain ⟨p, e, s, m, args, below, meth, c⟩ := K
  obtain ⟨hx, hby, hml, hown, hnm, hret, hlk, hZ⟩ := C
  dsimp only at hx hby hml hown hnm hret hlk hZ
  intro T locs X N eT
  subst hp
  obtain ⟨cl, A, -, S, Nn, H, -⟩ := F
  have hin := inb_of S hj
  obtain ⟨s₂, o, h1, h2⟩ := k T locs X N eT
  exact ⟨s₂, o, X.aaload hx (by rw [eT]; exact A.1) (State.isArrayOf_alike hZ.alike A.2.1) hty A.2.2 hin (Has.at H hin hv) (g := mkF m pc Ls (.int j :: .ref a :: st)) rfl rfl (hb hby hd) _ h1, h2⟩
theorem r_iastore (C : Ok Z own nm bytes maxL ret K) (pc' : Nat) {a : Addr} {kA : ClassId} {j z : Int32} {x : Int32} {vs : List Value} {dv : Value} {st : List Value} (F : Arv Z h a kA .int z vs dv) (hj : ¬ j < 0 ∧ j < z) (hlen : j.toNatClampNeg < vs.length) (hd : decode bytes pc = .ok (.iastore, 1)) (hp : pc + 1 = pc') (hn0 : n0 ≤ a)
    (k : ∀ h', Wr h h' a j.toNatClampNeg (.int x) → Arv Z h' a kA .int z (vs.set j.toNatClampNeg (.int x)) dv → Run l R n0 Q K h' cells slots pc' Ls st) : Run l R n0 Q K h cells slots pc Ls (.int x :: .int j :: .ref a :: st) := by
  obtain ⟨p, e, s, m, args, below, meth, c⟩ := K
  obtain ⟨hx, hby, hml, hown, hnm, hret, hlk, hZ⟩ := C
  dsimp only at hx hby hml hown hnm hret hlk hZ
  intro T locs X N eT
  subst hp
  obtain ⟨cl, A, q1, S, Nn, H, G⟩ := F
  have hin := inb_of S hj
  obtain ⟨T1, h', X1, e1, W1, st1⟩ := stI X hx hZ eT A hin (g := mkF m pc Ls (.int x :: .int j :: .ref a :: st)) rfl rfl (hb hby hd)
  obtain ⟨s₂, o, h1, h2⟩ := k h' W1 (Arv.set A q1 S Nn H G rfl W1 _ rfl hlen) T1 _ X1 (Fr.snoc X1 N hn0) e1
  exact ⟨s₂, o, st1 _ h1, h2⟩
theorem r_lastore (C : Ok Z own nm bytes maxL ret K) (pc' : Nat) {a : Addr} {kA : ClassId} {j z : Int32} {x : Int64} {vs : List Value} {dv : Value} {st : List Value} (F : Arv Z h a kA .long z vs dv) (hj : ¬ j < 0 ∧ j < z) (hlen : j.toNatClampNeg < vs.length) (hd : decode bytes pc = .ok (.lastore, 1)) (hp : pc + 1 = pc') (hn0 : n0 ≤ a)
    (k : ∀ h', Wr h h' a j.toNatClampNeg (.long x) → Arv Z h' a kA .long z (vs.set j.toNatClampNeg (.long x)) dv → Run l R n0 Q K h' cells slots pc' Ls st) : Run l R n0 Q K h cells slots pc Ls (.long x :: .int j :: .ref a :: st) := by
  obtain ⟨p, e, s, m, args, below, meth, c⟩ := K
  obtain ⟨hx, hby, hml, hown, hnm, hret, hlk, hZ⟩ := C
  dsimp only at hx hby hml hown hnm hret hlk hZ
  intro T locs X N eT
  subst hp
  obtain ⟨cl, A, q1, S, Nn, H, G⟩ := F
  have hin := inb_of S hj
  obtain ⟨T1, h', X1, e1, W1, st1⟩ := stJ X hx hZ eT A hin (g := mkF m pc Ls (.long x :: .int j :: .ref a :: st)) rfl rfl (hb hby hd)
  obtain ⟨s₂, o, h1, h2⟩ := k h' W1 (Arv.set A q1 S Nn H G rfl W1 _ rfl hlen) T1 _ X1 (Fr.snoc X1 N hn0) e1
  exact ⟨s₂, o, st1 _ h1, h2⟩
theorem r_castore (C : Ok Z own nm bytes maxL ret K) (pc' : Nat) {a : Addr} {kA : ClassId} {j z x : Int32} {vs : List Value} {dv : Value} {st : List Value} (F : Arv Z h a kA .char z vs dv) (hj : ¬ j < 0 ∧ j < z) (hlen : j.toNatClampNeg < vs.length) (hd : decode bytes pc = .ok (.castore, 1)) (hp : pc + 1 = pc') (hn0 : n0 ≤ a)
    (k : ∀ h', Wr h h' a j.toNatClampNeg (.int (nar .char x)) → Arv Z h' a kA .char z (vs.set j.toNatClampNeg (.int (nar .char x))) dv → Run l R n0 Q K h' cells slots pc' Ls st) : Run l R n0 Q K h cells slots pc Ls (.int x :: .int j :: .ref a :: st) := by
  obtain ⟨p, e, s, m, args, below, meth, c⟩ := K
  obtain ⟨hx, hby, hml, hown, hnm, hret, hlk, hZ⟩ := C
  dsimp only at hx hby hml hown hnm hret hlk hZ
  intro T locs X N eT
  subst hp
  obtain ⟨cl, A, q1, S, Nn, H, G⟩ := F
  have hin := inb_of S hj
  obtain ⟨T1, h', X1, e1, W1, st1⟩ := stC X hx hZ eT A hin (g := mkF m pc Ls (.int x :: .int j :: .ref a :: st)) rfl rfl (hb hby hd)
  obtain ⟨s₂, o, h1, h2⟩ := k h' W1 (Arv.set A q1 S Nn H G (fits_nar_char _) W1 _ rfl hlen) T1 _ X1 (Fr.snoc X1 N hn0) e1
  exact ⟨s₂, o, st1 _ h1, h2⟩
theorem r_sastore (C : Ok Z own nm bytes maxL ret K) (pc' : Nat) {a : Addr} {kA : ClassId} {j z x : Int32} {vs : List Value} {dv : Value} {st : List Value} (F : Arv Z h a kA .short z vs dv) (hj : ¬ j < 0 ∧ j < z) (hlen : j.toNatClampNeg < vs.length) (hd : decode bytes pc = .ok (.sastore, 1)) (hp : pc + 1 = pc') (hn0 : n0 ≤ a)
    (k : ∀ h', Wr h h' a j.toNatClampNeg (.int (nar .short x)) → Arv Z h' a kA .short z (vs.set j.toNatClampNeg (.int (nar .short x))) dv → Run l R n0 Q K h' cells slots pc' Ls st) : Run l R n0 Q K h cells slots pc Ls (.int x :: .int j :: .ref a :: st) := by
  obtain ⟨p, e, s, m, args, below, meth, c⟩ := K
  obtain ⟨hx, hby, hml, hown, hnm, hret, hlk, hZ⟩ := C
  dsimp only at hx hby hml hown hnm hret hlk hZ
  intro T locs X N eT
  subst hp
  obtain ⟨cl, A, q1, S, Nn, H, G⟩ := F
  have hin := inb_of S hj
  obtain ⟨T1, h', X1, e1, W1, st1⟩ := stS X hx hZ eT A hin (g := mkF m pc Ls (.int x :: .int j :: .ref a :: st)) rfl rfl (hb hby hd)
  obtain ⟨s₂, o, h1, h2⟩ := k h' W1 (Arv.set A q1 S Nn H G (fits_nar_short _) W1 _ rfl hlen) T1 _ X1 (Fr.snoc X1 N hn0) e1
  exact ⟨s₂, o, st1 _ h1, h2⟩
theorem r_bastore (C : Ok Z own nm bytes maxL ret K) (pc' : Nat) {a : Addr} {kA : ClassId} {j z x : Int32} {vs : List Value} {dv : Value} {st : List Value} (F : Arv Z h a kA .byte z vs dv) (hj : ¬ j < 0 ∧ j < z) (hlen : j.toNatClampNeg < vs.length) (hd : decode bytes pc = .ok (.bastore, 1)) (hp : pc + 1 = pc') (hn0 : n0 ≤ a)
    (k : ∀ h', Wr h h' a j.toNatClampNeg (.int (x.toInt8.toInt32)) → Arv Z h' a kA .byte z (vs.set j.toNatClampNeg (.int (x.toInt8.toInt32))) dv → Run l R n0 Q K h' cells slots pc' Ls st) : Run l R n0 Q K h cells slots pc Ls (.int x :: .int j :: .ref a :: st) := by
  obtain ⟨p, e, s, m, args, below, meth, c⟩ := K
  obtain ⟨hx, hby, hml, hown, hnm, hret, hlk, hZ⟩ := C
  dsimp only at hx hby hml hown hnm hret hlk hZ
  intro T locs X N eT
  subst hp
  obtain ⟨cl, A, q1, S, Nn, H, G⟩ := F
  have hin := inb_of S hj
  obtain ⟨T1, h', X1, e1, W1, st1⟩ := stB X hx hZ eT A hin (g := mkF m pc Ls (.int x :: .int j :: .ref a :: st)) rfl rfl (hb hby hd)
  obtain ⟨s₂, o, h1, h2⟩ := k h' W1 (Arv.set A q1 S Nn H G (fits_nar_byte _) W1 _ rfl hlen) T1 _ X1 (Fr.snoc X1 N hn0) e1
  exact ⟨s₂, o, st1 _ h1, h2⟩
theorem r_aastore (C : Ok Z own nm bytes maxL ret K) (pc' : Nat) {a : Addr} {kA : ClassId} {ty : FieldType} {j z : Int32} {v : Value} {vs : List Value} {dv : Value} {st : List Value} (F : Arv Z h a kA ty z vs dv) (hty : ty.isReference = true) (S' : Sto Z h a v) (hfit : fits ty v = true) (hj : ¬ j < 0 ∧ j < z) (hlen : j.toNatClampNeg < vs.length) (hd : decode bytes pc = .ok (.aastore, 1)) (hp : pc + 1 = pc') (hn0 : n0 ≤ a)
    (k : ∀ h', Wr h h' a j.toNatClampNeg v → Arv Z h' a kA ty z (vs.set j.toNatClampNeg v) dv → Run l R n0 Q K h' cells slots pc' Ls st) : Run l R n0 Q K h cells slots pc Ls (v :: .int j :: .ref a :: st) := by
  obtain ⟨p, e, s, m, args, below, meth, c⟩ := K
  obtain ⟨hx, hby, hml, hown, hnm, hret, hlk, hZ⟩ := C
  dsimp only at hx hby hml hown hnm hret hlk hZ
  intro T locs X N eT
  subst hp
  obtain ⟨cl, A, q1, S, Nn, H, G⟩ := F
  have hin := inb_of S hj
  obtain ⟨T1, h', X1, e1, W1, st1⟩ := stR X hx hZ eT A hin hty S' (g := mkF m pc Ls (v :: .int j :: .ref a :: st)) rfl rfl (hb hby hd)
  obtain ⟨s₂, o, h1, h2⟩ := k h' W1 (Arv.set A q1 S Nn H G hfit W1 _ rfl hlen) T1 _ X1 (Fr.snoc X1 N hn0) e1
  exact ⟨s₂, o, st1 _ h1, h2⟩
theorem r_checkcast (C : Ok Z own nm bytes maxL ret K) (pc' : Nat) {D : String} {i : Nat} {a : Addr} {st : List Value} (w : (Jvm.Cond.classLink own i D).before a0 Z = true) (F : Ins Z h a D true) (hd : decode bytes pc = .ok (.checkcast i, 3)) (hp : pc + 3 = pc')
    (k : Run l R n0 Q K h cells slots pc' Ls (.ref a :: st)) : Run l R n0 Q K h cells slots pc Ls (.ref a :: st) := by
  obtain ⟨p, e, s, m, args, below, meth, c⟩ := K
  obtain ⟨hx, hby, hml, hown, hnm, hret, hlk, hZ⟩ := C
  dsimp only at hx hby hml hown hnm hret hlk hZ
  intro T locs X N eT
  subst hp
  obtain ⟨T1, X1, e1, st1⟩ := castY X hx hZ hown w eT F (g := mkF m pc Ls (.ref a :: st)) rfl rfl (hb hby hd)
  obtain ⟨s₂, o, h1, h2⟩ := k T1 locs X1 N e1
  exact ⟨s₂, o, st1 _ h1, h2⟩
theorem r_checkcast_null (C : Ok Z own nm bytes maxL ret K) (pc' : Nat) {i : Nat} {st : List Value} (hd : decode bytes pc = .ok (.checkcast i, 3)) (hp : pc + 3 = pc')
    (k : Run l R n0 Q K h cells slots pc' Ls (.null :: st)) : Run l R n0 Q K h cells slots pc Ls (.null :: st) := by
  obtain ⟨p, e, s, m, args, below, meth, c⟩ := K
  obtain ⟨hx, hby, hml, hown, hnm, hret, hlk, hZ⟩ := C
  dsimp only at hx hby hml hown hnm hret hlk hZ
  intro T locs X N eT
  subst hp
  obtain ⟨s₂, o, h1, h2⟩ := k T locs X N eT
  exact ⟨s₂, o, X.checkcastNull hx (g := mkF m pc Ls (.null :: st)) rfl rfl (hb hby hd) _ h1, h2⟩
theorem r_newarrayE (C : Ok Z own nm bytes maxL ret K) (pc' cap : Nat) (ad : String) {aty : ArrayType} {n : Int32} {st : List Value} (w : (Jvm.Cond.arrayClass (newarray.typeOf aty)).before a0 Z = true) (hd : decode bytes pc = .ok (.newarray aty, 2)) (hp : pc + 2 = pc') (hn : ¬ n < 0) (hcap : n.toNatClampNeg ≤ cap) (hbig : cap * 8 ≤ 536870912) (hc : cells + 1 ≤ R.cells) (hl : slots + cap ≤ R.slots) (had : "[" ++ (newarray.typeOf aty).toString = ad)
    (k : ∀ h' b kA, b = h.size → Ext h h' → Arv Z h' b kA (newarray.typeOf aty) n [] (defaultValue (newarray.typeOf aty)) → Exa Z h' b ad → Run l R n0 Q K h' (cells + 1) (slots + cap) pc' Ls (.ref b :: st)) : Run l R n0 Q K h cells slots pc Ls (.int n :: st) := by
  obtain ⟨p, e, s, m, args, below, meth, c⟩ := K
  obtain ⟨hx, hby, hml, hown, hnm, hret, hlk, hZ⟩ := C
  dsimp only at hx hby hml hown hnm hret hlk hZ
  intro T locs X N eT
  subst hp
  obtain ⟨T1, h', kA, X1, e1, E1, A1, Ex1, st1⟩ := newPE X hx hZ w eT (g := mkF m pc Ls (.int n :: st)) rfl (hb hby hd) rfl hn hcap hbig hc hl had
  obtain ⟨s₂, o, h1, h2⟩ := k h' _ kA rfl E1 (Arv.new A1 hn) Ex1 T1 locs X1 N e1
  exact ⟨s₂, o, st1 _ h1, h2⟩
theorem r_arraycopy (C : Ok Z own nm bytes maxL ret K) (pc' : Nat) (us : List Value) {a b : Addr} {i : Nat} {kA kB : ClassId} {ty ty' : FieldType} {z z' sp dp nn : Int32} {vs vd : List Value} {dv dd : Value} {st : List Value} (w1 : (Jvm.Cond.methodLink own i Jvm.Stand.acN).before a0 Z = true) (w2 : (Jvm.Cond.native Jvm.Stand.acN).before a0 Z = true) (w3 : (Jvm.Cond.static Jvm.Stand.acN).before a0 Z = true) (w4 : (Jvm.Cond.initialized "java/lang/System").before a0 Z = true) (A : Arv Z h a kA ty z vs dv) (B : Arv Z h b kB ty' z' vd dd) (hty : (ty = ty' ∧ refKind ty = false) ∨ (refKind ty = true ∧ refKind ty' = true ∧ StoL Z h b us)) (h1 : ¬ sp < 0) (h2 : ¬ dp < 0) (h3 : ¬ nn < 0) (h4 : sp.toNatClampNeg + nn.toNatClampNeg ≤ z.toNatClampNeg) (h5 : dp.toNatClampNeg + nn.toNatClampNeg ≤ z'.toNatClampNeg) (hus : us = (List.range nn.toNatClampNeg).map fun i => vs.getD (sp.toNatClampNeg + i) dv) (hlv : dp.toNatClampNeg + nn.toNatClampNeg ≤ vd.length) (ge : n0 ≤ b) (hsz : Ls.size = maxL) (hd : decode bytes pc = .ok (.invokestatic i, 3)) (hp : pc + 3 = pc') (hf : 1 ≤ R.frames) (hlo : (st.map fun v => v.category).sum + (nativeFrameWords "java/lang/System" "arraycopy" 5 + 11) ≤ R.locals)
    (k : ∀ h', Keep h h' [b] → Arv Z h' b kB ty' z' (vd.take dp.toNatClampNeg ++ us ++ vd.drop (dp.toNatClampNeg + nn.toNatClampNeg)) dd → Run l R n0 Q K h' cells slots pc' Ls st) : Run l R n0 Q K h cells slots pc Ls (.int nn :: .int dp :: .ref b :: .int sp :: .ref a :: st) := by
  obtain ⟨p, e, s, m, args, below, meth, c⟩ := K
  obtain ⟨hx, hby, hml, hown, hnm, hret, hlk, hZ⟩ := C
  dsimp only at hx hby hml hown hnm hret hlk hZ
  intro T locs X N eT
  subst hp
  have hsize : (mkF m pc Ls (.int nn :: .int dp :: .ref b :: .int sp :: .ref a :: st)).locals.size = c.maxLocals := by rw [hml]; exact hsz
  obtain ⟨T1, h', L1, X1, e1, N1, K1, V1, st1⟩ := cpA X hx hZ hown w1 w2 w3 w4 eT A B hty h1 h2 h3 h4 h5 hus hlv N ge (g := mkF m pc Ls (.int nn :: .int dp :: .ref b :: .int sp :: .ref a :: st)) rfl hsize rfl (hb hby hd) hf (W := (st.map fun v => v.category).sum) (sumcat st _ rfl) hlo
  obtain ⟨s₂, o, h1, h2⟩ := k h' K1 V1 T1 L1 X1 N1 e1
  exact ⟨s₂, o, st1 _ h1, h2⟩
theorem r_clone (C : Ok Z own nm bytes maxL ret K) (pc' cap : Nat) {a : Addr} {i : Nat} {ad : String} {kA : ClassId} {ty : FieldType} {z : Int32} {vs : List Value} {dv : Value} {st : List Value} (w1 : (Jvm.Cond.methodLink own i ⟨ad, "clone", "()Ljava/lang/Object;"⟩).before a0 Z = true) (w2 : (Jvm.Cond.sameMethod ad "java/lang/Object" "clone" "()Ljava/lang/Object;").before a0 Z = true) (w3 : (Jvm.Cond.native ⟨"java/lang/Object", "clone", "()Ljava/lang/Object;"⟩).before a0 Z = true) (w4 : (Jvm.Cond.instanceMethod ⟨"java/lang/Object", "clone", "()Ljava/lang/Object;"⟩).before a0 Z = true) (w5 : (Jvm.Cond.selects ad ⟨ad, "clone", "()Ljava/lang/Object;"⟩ ⟨"java/lang/Object", "clone", "()Ljava/lang/Object;"⟩).before a0 Z = true) (w6 : (Jvm.Cond.castable ad "java/lang/Cloneable").before a0 Z = true) (F : Arv Z h a kA ty z vs dv) (E : Exa Z h a ad) (hsz : Ls.size = maxL) (hd : decode bytes pc = .ok (.invokevirtual i, 3)) (hp : pc + 3 = pc') (hf : 1 ≤ R.frames) (hlo : (st.map fun v => v.category).sum + 14 ≤ R.locals) (hcap : z.toNatClampNeg ≤ cap) (hc : cells + 1 ≤ R.cells) (hl : slots + cap ≤ R.slots)
    (k : ∀ h' b, b = h.size → Ext h h' → Arv Z h' b kA ty z vs dv → Exa Z h' b ad → Run l R n0 Q K h' (cells + 1) (slots + cap) pc' Ls (.ref b :: st)) : Run l R n0 Q K h cells slots pc Ls (.ref a :: st) := by
  obtain ⟨p, e, s, m, args, below, meth, c⟩ := K
  obtain ⟨hx, hby, hml, hown, hnm, hret, hlk, hZ⟩ := C
  dsimp only at hx hby hml hown hnm hret hlk hZ
  intro T locs X N eT
  subst hp
  have hsize : (mkF m pc Ls (.ref a :: st)).locals.size = c.maxLocals := by rw [hml]; exact hsz
  obtain ⟨T1, h', X1, e1, E1, V1, Ex1, st1⟩ := cloneH X hx hZ hown w1 w2 w3 w4 w5 w6 eT F.arh E (g := mkF m pc Ls (.ref a :: st)) rfl hsize rfl (hb hby hd) hf (W := (st.map fun v => v.category).sum) (sumcat st _ rfl) hlo hcap hc hl
  obtain ⟨s₂, o, h1, h2⟩ := k h' _ rfl E1 V1 Ex1 T1 locs X1 N e1
  exact ⟨s₂, o, st1 _ h1, h2⟩
theorem r_ireturn (C : Ok Z own nm bytes maxL ret K) {z : Int32} {st : List Value} (hr : ret = some .int) (hd : decode bytes pc = .ok (.ireturn, 1)) (hc : cells ≤ R.cells) (hs : slots ≤ R.slots) (hQ : Q (some (.int z)) h) : Run l R n0 Q K h cells slots pc Ls (.int z :: st) := by
  obtain ⟨p, e, s, m, args, below, meth, c⟩ := K
  obtain ⟨hx, hby, hml, hown, hnm, hret, hlk, hZ⟩ := C
  dsimp only at hx hby hml hown hnm hret hlk hZ
  intro T locs X N eT
  subst eT
  rw [hr] at hret
  obtain ⟨fs, hr', hrun, hended, hW, hsame⟩ := X.leave (v := some (.int z)) (fun hh => by rw [hret] at hh; cases hh) hlk
  exact ⟨_, _, retOut X hx hret rfl (Or.inl ⟨rfl, Or.inl rfl, z, rfl⟩) (hb hby hd) hr', hrun, hended, _, _, rfl, ⟨hQ, N⟩, ⟨_, rfl⟩, hW, hsame.mono hc hs⟩
theorem r_nreturn (C : Ok Z own nm bytes maxL ret K) {z : Int32} {t : FieldType} (z' : Int32) {st : List Value} (hr : ret = some t) (ht : t = .boolean ∨ t = .byte ∨ t = .char ∨ t = .short) (hz : nar t z = z') (hd : decode bytes pc = .ok (.ireturn, 1)) (hc : cells ≤ R.cells) (hs : slots ≤ R.slots) (hQ : Q (some (.int z')) h) : Run l R n0 Q K h cells slots pc Ls (.int z :: st) := by
  obtain ⟨p, e, s, m, args, below, meth, c⟩ := K
  obtain ⟨hx, hby, hml, hown, hnm, hret, hlk, hZ⟩ := C
  dsimp only at hx hby hml hown hnm hret hlk hZ
  intro T locs X N eT
  subst eT
  rw [hr] at hret
  obtain ⟨fs, hr', hrun, hended, hW, hsame⟩ := X.leave (v := some (.int z')) (fun hh => by rw [hret] at hh; cases hh) hlk
  exact ⟨_, _, retN X hx hret ht (hb hby hd) (by rw [hz]; exact hr'), hrun, hended, _, _, rfl, ⟨hQ, N⟩, ⟨_, rfl⟩, hW, hsame.mono hc hs⟩
theorem r_lreturn (C : Ok Z own nm bytes maxL ret K) {z : Int64} {st : List Value} (hr : ret = some .long) (hd : decode bytes pc = .ok (.lreturn, 1)) (hc : cells ≤ R.cells) (hs : slots ≤ R.slots) (hQ : Q (some (.long z)) h) : Run l R n0 Q K h cells slots pc Ls (.long z :: st) := by
  obtain ⟨p, e, s, m, args, below, meth, c⟩ := K
  obtain ⟨hx, hby, hml, hown, hnm, hret, hlk, hZ⟩ := C
  dsimp only at hx hby hml hown hnm hret hlk hZ
  intro T locs X N eT
  subst eT
  rw [hr] at hret
  obtain ⟨fs, hr', hrun, hended, hW, hsame⟩ := X.leave (v := some (.long z)) (fun hh => by rw [hret] at hh; cases hh) hlk
  exact ⟨_, _, retOut X hx hret rfl (Or.inr (Or.inl ⟨rfl, rfl, z, rfl⟩)) (hb hby hd) hr', hrun, hended, _, _, rfl, ⟨hQ, N⟩, ⟨_, rfl⟩, hW, hsame.mono hc hs⟩
theorem r_areturn (C : Ok Z own nm bytes maxL ret K) {z : Value} {t : FieldType} {st : List Value} (hr : ret = some t) (ht : t.isReference = true) (hz : z.isRef = true) (hn : narrow t z = z) (hd : decode bytes pc = .ok (.areturn, 1)) (hc : cells ≤ R.cells) (hs : slots ≤ R.slots) (hQ : Q (some z) h) : Run l R n0 Q K h cells slots pc Ls (z :: st) := by
  obtain ⟨p, e, s, m, args, below, meth, c⟩ := K
  obtain ⟨hx, hby, hml, hown, hnm, hret, hlk, hZ⟩ := C
  dsimp only at hx hby hml hown hnm hret hlk hZ
  intro T locs X N eT
  subst eT
  rw [hr] at hret
  obtain ⟨fs, hr', hrun, hended, hW, hsame⟩ := X.leave (v := some z) (fun hh => by rw [hret] at hh; cases hh) hlk
  exact ⟨_, _, retOut X hx hret hn (Or.inr (Or.inr (Or.inr (Or.inr ⟨rfl, ht, hz⟩)))) (hb hby hd) hr', hrun, hended, _, _, rfl, ⟨hQ, N⟩, ⟨_, rfl⟩, hW, hsame.mono hc hs⟩
theorem r_return (C : Ok Z own nm bytes maxL ret K)  (hr : ret = none) (hd : decode bytes pc = .ok (.return_, 1)) (hc : cells ≤ R.cells) (hs : slots ≤ R.slots) (hQ : Q none h) : Run l R n0 Q K h cells slots pc Ls [] := by
  obtain ⟨p, e, s, m, args, below, meth, c⟩ := K
  obtain ⟨hx, hby, hml, hown, hnm, hret, hlk, hZ⟩ := C
  dsimp only at hx hby hml hown hnm hret hlk hZ
  intro T locs X N eT
  subst eT
  rw [hr] at hret
  obtain ⟨fs, hr', hrun, hended, hW, hsame⟩ := X.leave (v := none) (fun _ => rfl) hlk
  exact ⟨_, _, X.returnOut hx hret (hb hby hd) hr', hrun, hended, _, _, rfl, ⟨hQ, N⟩, ⟨_, rfl⟩, hW, hsame.mono hc hs⟩
theorem r_callS (C : Ok Z own nm bytes maxL ret K) (pc' : Nat) {y : MethodName} {bytes' : ByteArray} {maxL' : Nat} {ret' : Option FieldType} {rm : Room} {i : Nat} {as' : Array Value} {Q' : Option Value → Heap → Prop} {a : Addr} (argsL rest : List Value)  (hM : Con l Z y bytes' maxL' ret' [] rm n0 as' h Q') (w : (Jvm.Cond.methodLink own i y).before a0 Z = true) (ws : (Jvm.Cond.static y).before a0 Z = true) (wz : (Jvm.Cond.initialized y.cls).before a0 Z = true) (wc : (Jvm.Cond.code y bytes' maxL' ret').before a0 Z = true) (hy : y.cls ≠ "java/lang/invoke/MethodHandle" ∧ y.cls ≠ "java/lang/invoke/VarHandle") (hlen : ∀ sig, parseMethodDescriptor y.desc = some sig → argsL.length = sig.parameters.length) (hst : st = argsL.reverse ++ rest) (hass : as' = argsL.toArray) (hf : rm.frames + 1 ≤ R.frames) (hl : (rest.map fun v => v.category).sum + (maxL' + 11) + rm.locals ≤ R.locals) (hc : cells + rm.cells ≤ R.cells) (hsl : slots + rm.slots ≤ R.slots) (hsz : Ls.size = maxL) (hd : decode bytes pc = .ok (.invokestatic i, 3)) (hp : pc + 3 = pc')
    (k : ∀ v h', Q' v h' → h.size ≤ h'.size → Run l R n0 Q K h' (cells + rm.cells) (slots + rm.slots) pc' Ls (v.toList ++ rest)) : Run l R n0 Q K h cells slots pc Ls st := by
  obtain ⟨p, e, s, m, args, below, meth, c⟩ := K
  obtain ⟨hx, hby, hml, hown, hnm, hret, hlk, hZ⟩ := C
  dsimp only at hx hby hml hown hnm hret hlk hZ
  subst hp
  subst hst
  subst hass
  intro T locs X N eT
  have hsize : (mkF m pc Ls (argsL.reverse ++ rest)).locals.size = c.maxLocals := by rw [hml]; exact hsz
  obtain ⟨v, _, ⟨T1, L1, k1, n1⟩, -, X1, ⟨Lc, hQ1, l1, y1, z1⟩, st1⟩ := Jvm.LawKit.callS X hx hown (mvT hZ w) (mvT hZ ws) (mvT hZ wz) (mvT hZ wc) hy (backOf (W := (rest.map fun v => v.category).sum) (Q := fun v h' L => (Q' v h' ∧ h.size ≤ h'.size) ∧ Fr n0 L) hM hZ wc wz hf hl) (g := mkF m pc Ls (argsL.reverse ++ rest)) rfl hsize (argsL := argsL) (rest := rest) hlen rfl (sumcat rest _ rfl) (hb hby hd) (fun _ _ => ⟨rfl, eT, hc, hsl⟩)
  dsimp only [Pt.U, Pt.locs, Pt.cells, Pt.slots] at X1 l1 y1 z1 st1 hQ1
  subst l1 y1 z1
  obtain ⟨s₂, o, h1, h2⟩ := k v T1.heap hQ1.1.1 hQ1.1.2 T1 _ X1 (N.app hQ1.2) rfl
  exact ⟨s₂, o, st1 _ h1, h2⟩
theorem r_callN (C : Ok Z own nm bytes maxL ret K) (pc' : Nat) {y : MethodName} {bytes' : ByteArray} {maxL' : Nat} {rm : Room} {i : Nat} {as' : Array Value} {Q' : Option Value → Heap → Prop} {a : Addr} (argsL rest : List Value) (hy1 : y.name = "<init>") (hM : Con l Z y bytes' maxL' none [] rm n0 as' h Q') (w : (Jvm.Cond.methodLink own i y).before a0 Z = true) (wi : (Jvm.Cond.instanceMethod y).before a0 Z = true) (wz : (Jvm.Cond.initialized y.cls).before a0 Z = true) (wc : (Jvm.Cond.code y bytes' maxL' none).before a0 Z = true) (hy : y.cls ≠ "java/lang/invoke/MethodHandle" ∧ y.cls ≠ "java/lang/invoke/VarHandle") (hlen : ∀ sig, parseMethodDescriptor y.desc = some sig → argsL.length = sig.parameters.length) (hst : st = argsL.reverse ++ .ref a :: rest) (hass : as' = (.ref a :: argsL).toArray) (hf : rm.frames + 1 ≤ R.frames) (hl : (rest.map fun v => v.category).sum + (maxL' + 11) + rm.locals ≤ R.locals) (hc : cells + rm.cells ≤ R.cells) (hsl : slots + rm.slots ≤ R.slots) (hsz : Ls.size = maxL) (hd : decode bytes pc = .ok (.invokespecial i, 3)) (hp : pc + 3 = pc')
    (k : ∀ v h', Q' v h' → h.size ≤ h'.size → Run l R n0 Q K h' (cells + rm.cells) (slots + rm.slots) pc' Ls (v.toList ++ rest)) : Run l R n0 Q K h cells slots pc Ls st := by
  obtain ⟨p, e, s, m, args, below, meth, c⟩ := K
  obtain ⟨hx, hby, hml, hown, hnm, hret, hlk, hZ⟩ := C
  dsimp only at hx hby hml hown hnm hret hlk hZ
  subst hp
  subst hst
  subst hass
  intro T locs X N eT
  have hsize : (mkF m pc Ls (argsL.reverse ++ .ref a :: rest)).locals.size = c.maxLocals := by rw [hml]; exact hsz
  obtain ⟨v, _, ⟨T1, L1, k1, n1⟩, -, X1, ⟨Lc, hQ1, l1, y1, z1⟩, st1⟩ := X.specialBack hx hy1 hown (mvT hZ w) (mvT hZ wi) (mvT hZ wc) hy (backOf (W := (rest.map fun v => v.category).sum) (Q := fun v h' L => (Q' v h' ∧ h.size ≤ h'.size) ∧ Fr n0 L) hM hZ wc wz hf hl) (g := mkF m pc Ls (argsL.reverse ++ .ref a :: rest)) rfl hsize (Steps.refl _) (a := a) (argsL := argsL) (rest := rest) hlen rfl (sumcat rest _ rfl) (hb hby hd) (fun _ _ => ⟨rfl, eT, hc, hsl⟩)
  dsimp only [Pt.U, Pt.locs, Pt.cells, Pt.slots] at X1 l1 y1 z1 st1 hQ1
  subst l1 y1 z1
  obtain ⟨s₂, o, h1, h2⟩ := k v T1.heap hQ1.1.1 hQ1.1.2 T1 _ X1 (N.app hQ1.2) rfl
  exact ⟨s₂, o, st1.trans h1, h2⟩
theorem r_callV (C : Ok Z own nm bytes maxL ret K) (pc' : Nat) {y : MethodName} {bytes' : ByteArray} {maxL' : Nat} {ret' : Option FieldType} {rm : Room} {i : Nat} {as' : Array Value} {Q' : Option Value → Heap → Prop} {z : MethodName} {D : String} {a : Addr} (argsL rest : List Value)  (hM : Con l Z z bytes' maxL' ret' [] rm n0 as' h Q') (w : (Jvm.Cond.methodLink own i y).before a0 Z = true) (wd : (Jvm.Cond.declares y).before a0 Z = true) (hnf : ∀ s : State, Z.Warmed39 s.vm → NotFace s y) (wsel : (Jvm.Cond.selects D y z).before a0 Z = true) (wi : (Jvm.Cond.instanceMethod z).before a0 Z = true) (wz : (Jvm.Cond.initialized z.cls).before a0 Z = true) (wc : (Jvm.Cond.code z bytes' maxL' ret').before a0 Z = true) (E : Exa Z h a D) (hy : y.cls ≠ "java/lang/invoke/MethodHandle" ∧ y.cls ≠ "java/lang/invoke/VarHandle") (hlen : ∀ sig, parseMethodDescriptor y.desc = some sig → argsL.length = sig.parameters.length) (hst : st = argsL.reverse ++ .ref a :: rest) (hass : as' = (.ref a :: argsL).toArray) (hf : rm.frames + 1 ≤ R.frames) (hl : (rest.map fun v => v.category).sum + (maxL' + 11) + rm.locals ≤ R.locals) (hc : cells + rm.cells ≤ R.cells) (hsl : slots + rm.slots ≤ R.slots) (hsz : Ls.size = maxL) (hd : decode bytes pc = .ok (.invokevirtual i, 3)) (hp : pc + 3 = pc')
    (k : ∀ v h', Q' v h' → h.size ≤ h'.size → Run l R n0 Q K h' (cells + rm.cells) (slots + rm.slots) pc' Ls (v.toList ++ rest)) : Run l R n0 Q K h cells slots pc Ls st := by
  obtain ⟨p, e, s, m, args, below, meth, c⟩ := K
  obtain ⟨hx, hby, hml, hown, hnm, hret, hlk, hZ⟩ := C
  dsimp only at hx hby hml hown hnm hret hlk hZ
  subst hp
  subst hst
  subst hass
  intro T locs X N eT
  obtain ⟨cq, kq, qa, qb, qc⟩ := isOf hZ eT E
  have hsize : (mkF m pc Ls (argsL.reverse ++ .ref a :: rest)).locals.size = c.maxLocals := by rw [hml]; exact hsz
  obtain ⟨v, _, ⟨T1, L1, k1, n1⟩, -, X1, ⟨Lc, hQ1, l1, y1, z1⟩, st1⟩ := X.virtualBack hx hown (mvT hZ w) (mvT hZ wd) (hnf _ hZ) (mvT hZ wsel) (mvT hZ wi) hy (backOf (W := (rest.map fun v => v.category).sum) (Q := fun v h' L => (Q' v h' ∧ h.size ≤ h'.size) ∧ Fr n0 L) hM hZ wc wz hf hl) qa qc (g := mkF m pc Ls (argsL.reverse ++ .ref a :: rest)) rfl hsize (Steps.refl _) (argsL := argsL) (rest := rest) hlen rfl (sumcat rest _ rfl) (hb hby hd) (fun _ _ => ⟨rfl, eT, hc, hsl⟩)
  dsimp only [Pt.U, Pt.locs, Pt.cells, Pt.slots] at X1 l1 y1 z1 st1 hQ1
  subst l1 y1 z1
  obtain ⟨s₂, o, h1, h2⟩ := k v T1.heap hQ1.1.1 hQ1.1.2 T1 _ X1 (N.app hQ1.2) rfl
  exact ⟨s₂, o, st1.trans h1, h2⟩
theorem r_callU (C : Ok Z own nm bytes maxL ret K) (pc' : Nat) {y : MethodName} {bytes' : ByteArray} {maxL' : Nat} {ret' : Option FieldType} {rm : Room} {i : Nat} {as' : Array Value} {Q' : Option Value → Heap → Prop} {owner D : String} {z : MethodName} {a : Addr} (argsL rest : List Value)  (hM : Con l Z z bytes' maxL' ret' [] rm n0 as' h Q') (w : (Jvm.Cond.methodLink own i y).before a0 Z = true) (wsm : (Jvm.Cond.sameMethod y.cls owner y.name y.desc).before a0 Z = true) (wd : (Jvm.Cond.declares ⟨owner, y.name, y.desc⟩).before a0 Z = true) (how : owner ≠ "java/lang/invoke/MethodHandle" ∧ owner ≠ "java/lang/invoke/VarHandle") (wsel : (Jvm.Cond.selects D y z).before a0 Z = true) (wi : (Jvm.Cond.instanceMethod z).before a0 Z = true) (wz : (Jvm.Cond.initialized z.cls).before a0 Z = true) (wc : (Jvm.Cond.code z bytes' maxL' ret').before a0 Z = true) (E : Exa Z h a D) (hy : y.cls ≠ "java/lang/invoke/MethodHandle" ∧ y.cls ≠ "java/lang/invoke/VarHandle") (hlen : ∀ sig, parseMethodDescriptor y.desc = some sig → argsL.length = sig.parameters.length) (hst : st = argsL.reverse ++ .ref a :: rest) (hass : as' = (.ref a :: argsL).toArray) (hf : rm.frames + 1 ≤ R.frames) (hl : (rest.map fun v => v.category).sum + (maxL' + 11) + rm.locals ≤ R.locals) (hc : cells + rm.cells ≤ R.cells) (hsl : slots + rm.slots ≤ R.slots) (hsz : Ls.size = maxL) (hd : decode bytes pc = .ok (.invokevirtual i, 3)) (hp : pc + 3 = pc')
    (k : ∀ v h', Q' v h' → h.size ≤ h'.size → Run l R n0 Q K h' (cells + rm.cells) (slots + rm.slots) pc' Ls (v.toList ++ rest)) : Run l R n0 Q K h cells slots pc Ls st := by
  obtain ⟨p, e, s, m, args, below, meth, c⟩ := K
  obtain ⟨hx, hby, hml, hown, hnm, hret, hlk, hZ⟩ := C
  dsimp only at hx hby hml hown hnm hret hlk hZ
  subst hp
  subst hst
  subst hass
  intro T locs X N eT
  obtain ⟨cq, kq, qa, qb, qc⟩ := isOf hZ eT E
  have hsize : (mkF m pc Ls (argsL.reverse ++ .ref a :: rest)).locals.size = c.maxLocals := by rw [hml]; exact hsz
  obtain ⟨v, _, ⟨T1, L1, k1, n1⟩, -, X1, ⟨Lc, hQ1, l1, y1, z1⟩, st1⟩ := X.virtualBackUp hx hown (mvT hZ w) (mvT hZ wsm) (mvT hZ wd) how (mvT hZ wsel) (mvT hZ wi) (backOf (W := (rest.map fun v => v.category).sum) (Q := fun v h' L => (Q' v h' ∧ h.size ≤ h'.size) ∧ Fr n0 L) hM hZ wc wz hf hl) qa qc (g := mkF m pc Ls (argsL.reverse ++ .ref a :: rest)) rfl hsize (Steps.refl _) (argsL := argsL) (rest := rest) hlen rfl (sumcat rest _ rfl) (hb hby hd) (fun _ _ => ⟨rfl, eT, hc, hsl⟩)
  dsimp only [Pt.U, Pt.locs, Pt.cells, Pt.slots] at X1 l1 y1 z1 st1 hQ1
  subst l1 y1 z1
  obtain ⟨s₂, o, h1, h2⟩ := k v T1.heap hQ1.1.1 hQ1.1.2 T1 _ X1 (N.app hQ1.2) rfl
  exact ⟨s₂, o, st1.trans h1, h2⟩
theorem r_callI (C : Ok Z own nm bytes maxL ret K) (pc' : Nat) {y : MethodName} {bytes' : ByteArray} {maxL' : Nat} {ret' : Option FieldType} {rm : Room} {i : Nat} {as' : Array Value} {Q' : Option Value → Heap → Prop} {z : MethodName} {D : String} {count : Nat} {a : Addr} (argsL rest : List Value)  (hM : Con l Z z bytes' maxL' ret' [] rm n0 as' h Q') (w : (Jvm.Cond.methodLink own i y).before a0 Z = true) (wd : (Jvm.Cond.declares y).before a0 Z = true) (wface : (Jvm.Cond.interfaceMethod y.cls y.cls y.name y.desc).before a0 Z = true) (wsel : (Jvm.Cond.selects D y z).before a0 Z = true) (wi : (Jvm.Cond.instanceMethod z).before a0 Z = true) (wpub : (Jvm.Cond.publicMethod z).before a0 Z = true) (wunh : (Jvm.Cond.unhidden D y.name y.desc).before a0 Z = true) (wcast : (Jvm.Cond.castable D y.cls).before a0 Z = true) (wz : (Jvm.Cond.initialized z.cls).before a0 Z = true) (wc : (Jvm.Cond.code z bytes' maxL' ret').before a0 Z = true) (E : Exa Z h a D) (hy : y.cls ≠ "java/lang/invoke/MethodHandle" ∧ y.cls ≠ "java/lang/invoke/VarHandle") (hlen : ∀ sig, parseMethodDescriptor y.desc = some sig → argsL.length = sig.parameters.length) (hst : st = argsL.reverse ++ .ref a :: rest) (hass : as' = (.ref a :: argsL).toArray) (hf : rm.frames + 1 ≤ R.frames) (hl : (rest.map fun v => v.category).sum + (maxL' + 11) + rm.locals ≤ R.locals) (hc : cells + rm.cells ≤ R.cells) (hsl : slots + rm.slots ≤ R.slots) (hsz : Ls.size = maxL) (hd : decode bytes pc = .ok (.invokeinterface i count, 5)) (hp : pc + 5 = pc')
    (k : ∀ v h', Q' v h' → h.size ≤ h'.size → Run l R n0 Q K h' (cells + rm.cells) (slots + rm.slots) pc' Ls (v.toList ++ rest)) : Run l R n0 Q K h cells slots pc Ls st := by
  obtain ⟨p, e, s, m, args, below, meth, c⟩ := K
  obtain ⟨hx, hby, hml, hown, hnm, hret, hlk, hZ⟩ := C
  dsimp only at hx hby hml hown hnm hret hlk hZ
  subst hp
  subst hst
  subst hass
  intro T locs X N eT
  obtain ⟨cq, kq, qa, qb, qc⟩ := isOf hZ eT E
  have hsize : (mkF m pc Ls (argsL.reverse ++ .ref a :: rest)).locals.size = c.maxLocals := by rw [hml]; exact hsz
  obtain ⟨v, _, ⟨T1, L1, k1, n1⟩, -, X1, ⟨Lc, hQ1, l1, y1, z1⟩, st1⟩ := X.interfaceBack hx hown (mvT hZ w) (mvT hZ wd) (mvT hZ wface (by simp [Cond.onTables, Cond.keepsFace, Cond.keeps, Cond.steady, Cond.faceAtom, hy.1, hy.2])) (mvT hZ wsel) (mvT hZ wi) (mvT hZ wpub) (mvT hZ wunh) (mvT hZ wcast) hy (backOf (W := (rest.map fun v => v.category).sum) (Q := fun v h' L => (Q' v h' ∧ h.size ≤ h'.size) ∧ Fr n0 L) hM hZ wc wz hf hl) qa qb qc (g := mkF m pc Ls (argsL.reverse ++ .ref a :: rest)) rfl hsize (Steps.refl _) (argsL := argsL) (rest := rest) hlen rfl (sumcat rest _ rfl) (hb hby hd) (fun _ _ => ⟨rfl, eT, hc, hsl⟩)
  dsimp only [Pt.U, Pt.locs, Pt.cells, Pt.slots] at X1 l1 y1 z1 st1 hQ1
  subst l1 y1 z1
  obtain ⟨s₂, o, h1, h2⟩ := k v T1.heap hQ1.1.1 hQ1.1.2 T1 _ X1 (N.app hQ1.2) rfl
  exact ⟨s₂, o, st1.trans h1, h2⟩
theorem r_callP (C : Ok Z own nm bytes maxL ret K) (pc' : Nat) {y : MethodName} {bytes' : ByteArray} {maxL' : Nat} {ret' : Option FieldType} {rm : Room} {i : Nat} {as' : Array Value} {Q' : Option Value → Heap → Prop} {a : Addr} (argsL rest : List Value)  (hM : Con l Z y bytes' maxL' ret' [] rm n0 as' h Q') (w : (Jvm.Cond.methodLink own i y).before a0 Z = true) (wi : (Jvm.Cond.instanceMethod y).before a0 Z = true) (wsel : (Jvm.Cond.selects y.cls y y).before a0 Z = true) (wpriv : (Jvm.Cond.privateMethod y).before a0 Z = true) (wz : (Jvm.Cond.initialized y.cls).before a0 Z = true) (wc : (Jvm.Cond.code y bytes' maxL' ret').before a0 Z = true) (E : ∃ cell : Cell, h[a]? = some cell ∧ ∀ q, cell.vm ≠ .statics q) (hy : y.cls ≠ "java/lang/invoke/MethodHandle" ∧ y.cls ≠ "java/lang/invoke/VarHandle") (hlen : ∀ sig, parseMethodDescriptor y.desc = some sig → argsL.length = sig.parameters.length) (hst : st = argsL.reverse ++ .ref a :: rest) (hass : as' = (.ref a :: argsL).toArray) (hf : rm.frames + 1 ≤ R.frames) (hl : (rest.map fun v => v.category).sum + (maxL' + 11) + rm.locals ≤ R.locals) (hc : cells + rm.cells ≤ R.cells) (hsl : slots + rm.slots ≤ R.slots) (hsz : Ls.size = maxL) (hd : decode bytes pc = .ok (.invokevirtual i, 3)) (hp : pc + 3 = pc')
    (k : ∀ v h', Q' v h' → h.size ≤ h'.size → Run l R n0 Q K h' (cells + rm.cells) (slots + rm.slots) pc' Ls (v.toList ++ rest)) : Run l R n0 Q K h cells slots pc Ls st := by
  obtain ⟨p, e, s, m, args, below, meth, c⟩ := K
  obtain ⟨hx, hby, hml, hown, hnm, hret, hlk, hZ⟩ := C
  dsimp only at hx hby hml hown hnm hret hlk hZ
  subst hp
  subst hst
  subst hass
  intro T locs X N eT
  obtain ⟨cq, qa, qc⟩ := E
  have hsize : (mkF m pc Ls (argsL.reverse ++ .ref a :: rest)).locals.size = c.maxLocals := by rw [hml]; exact hsz
  obtain ⟨v, _, ⟨T1, L1, k1, n1⟩, -, X1, ⟨Lc, hQ1, l1, y1, z1⟩, st1⟩ := X.privateBack hx hown (mvT hZ w) (mvT hZ wi) (mvT hZ wsel) (Cond.privateMethod_at (mvP hZ wpriv (args := #[]))) (mvT hZ wc) hy (backOf (W := (rest.map fun v => v.category).sum) (Q := fun v h' L => (Q' v h' ∧ h.size ≤ h'.size) ∧ Fr n0 L) hM hZ wc wz hf hl) (g := mkF m pc Ls (argsL.reverse ++ .ref a :: rest)) rfl hsize (Steps.refl _) (a := a) (by rw [eT]; exact qa) qc (argsL := argsL) (rest := rest) hlen rfl (sumcat rest _ rfl) (hb hby hd) (fun _ _ => ⟨rfl, eT, hc, hsl⟩)
  dsimp only [Pt.U, Pt.locs, Pt.cells, Pt.slots] at X1 l1 y1 z1 st1 hQ1
  subst l1 y1 z1
  obtain ⟨s₂, o, h1, h2⟩ := k v T1.heap hQ1.1.1 hQ1.1.2 T1 _ X1 (N.app hQ1.2) rfl
  exact ⟨s₂, o, st1.trans h1, h2⟩
theorem r_initO (C : Ok Z own nm bytes maxL ret K) (pc' : Nat) {i : Nat} {a : Addr} {st : List Value} (w1 : (Jvm.Cond.methodLink own i Lib.objectInit).before a0 Z = true) (w2 : (Jvm.Cond.instanceMethod Lib.objectInit).before a0 Z = true) (w3 : (Jvm.Cond.code Lib.objectInit ⟨#[0xb1]⟩ 1 none).before a0 Z = true) (hd : decode bytes pc = .ok (.invokespecial i, 3)) (hp : pc + 3 = pc') (hsz : Ls.size = maxL) (hf : 1 ≤ R.frames) (hl : (st.map fun v => v.category).sum + 12 ≤ R.locals)
    (k : Run l R n0 Q K h cells slots pc' Ls st) : Run l R n0 Q K h cells slots pc Ls (.ref a :: st) := by
  obtain ⟨p, e, s, m, args, below, meth, c⟩ := K
  obtain ⟨hx, hby, hml, hown, hnm, hret, hlk, hZ⟩ := C
  dsimp only at hx hby hml hown hnm hret hlk hZ
  intro T locs X N eT
  subst hp
  have hsize : (mkF m pc Ls (.ref a :: st)).locals.size = c.maxLocals := by rw [hml]; exact hsz
  obtain ⟨T1, X1, e1, st1⟩ := initO X hx hZ hown w1 w2 w3 eT (g := mkF m pc Ls (.ref a :: st)) rfl hsize rfl (hb hby hd) hf (W := (st.map fun v => v.category).sum) (sumcat st _ rfl) hl
  obtain ⟨s₂, o, h1, h2⟩ := k T1 locs X1 N e1
  exact ⟨s₂, o, st1 _ h1, h2⟩
end W
end Jvm.OwnW

namespace Jvm.Pilot.@@N@@
open Jvm Jvm.ClassFile Sem Op Lib Jvm.Free Jvm.Stand Jvm.LawKit Jvm.RoadKit Jvm.OwnW Bundle Jvm.Pilot.@@N@@.Jvm.D
theorem eqv {args : Array Value} {s : State} {idx : List Nat} {a b : Term} {x : Value} (h : (Jvm.Cond.eq a b).value args s none s idx = some true) (hb : b.eval args s none idx s = some x) : a.eval args s none idx s = some x := by
  obtain ⟨u, v, h1, h2, -⟩ := cmp_v (Or.inl h)
  rw [hb] at h2
  cases h2
  rw [h1]
  cases u <;> cases x <;> simp_all [Cond.value]
theorem neqv {args : Array Value} {s : State} {idx : List Nat} {a b : Term} {x y : Addr} (h : (Jvm.Cond.not (Jvm.Cond.eq a b)).value args s none s idx = some true) (ha : a.eval args s none idx s = some (.ref x)) (hb : b.eval args s none idx s = some (.ref y)) : ¬ x = y := by
  have h1 := not_v h
  simpa [Cond.value, ha, hb] using h1

theorem dp_0 : decode method_2_code 0 = .ok (.iload_n 0, 1) := by decide +kernel
theorem dp_1 : decode method_2_code 1 = .ok (.ifCond .ne 7, 3) := by decide +kernel
theorem dp_4 : decode method_2_code 4 = .ok (.getstatic 7, 3) := by decide +kernel
theorem dp_7 : decode method_2_code 7 = .ok (.areturn, 1) := by decide +kernel
theorem dp_8 : decode method_2_code 8 = .ok (.iload_n 0, 1) := by decide +kernel
theorem dp_9 : decode method_2_code 9 = .ok (.iconst 1, 1) := by decide +kernel
theorem dp_10 : decode method_2_code 10 = .ok (.if_icmp .ne 7, 3) := by decide +kernel
theorem dp_13 : decode method_2_code 13 = .ok (.getstatic 13, 3) := by decide +kernel
theorem dp_16 : decode method_2_code 16 = .ok (.areturn, 1) := by decide +kernel
theorem dp_17 : decode method_2_code 17 = .ok (.iload_n 0, 1) := by decide +kernel
theorem dp_18 : decode method_2_code 18 = .ok (.iconst 2, 1) := by decide +kernel
theorem dp_19 : decode method_2_code 19 = .ok (.if_icmp .ne 7, 3) := by decide +kernel
theorem dp_22 : decode method_2_code 22 = .ok (.getstatic 16, 3) := by decide +kernel
theorem dp_25 : decode method_2_code 25 = .ok (.areturn, 1) := by decide +kernel
theorem dp_26 : decode method_2_code 26 = .ok (.iload_n 0, 1) := by decide +kernel
theorem dp_27 : decode method_2_code 27 = .ok (.iconst 3, 1) := by decide +kernel
theorem dp_28 : decode method_2_code 28 = .ok (.if_icmp .ne 7, 3) := by decide +kernel
theorem dp_31 : decode method_2_code 31 = .ok (.getstatic 19, 3) := by decide +kernel
theorem dp_34 : decode method_2_code 34 = .ok (.areturn, 1) := by decide +kernel
theorem dp_35 : decode method_2_code 35 = .ok (.iload_n 0, 1) := by decide +kernel
theorem dp_36 : decode method_2_code 36 = .ok (.iconst 4, 1) := by decide +kernel
theorem dp_37 : decode method_2_code 37 = .ok (.if_icmp .ne 7, 3) := by decide +kernel
theorem dp_40 : decode method_2_code 40 = .ok (.getstatic 22, 3) := by decide +kernel
theorem dp_43 : decode method_2_code 43 = .ok (.areturn, 1) := by decide +kernel
theorem dp_44 : decode method_2_code 44 = .ok (.iload_n 0, 1) := by decide +kernel
theorem dp_45 : decode method_2_code 45 = .ok (.iconst 5, 1) := by decide +kernel
theorem dp_46 : decode method_2_code 46 = .ok (.if_icmp .ne 7, 3) := by decide +kernel
theorem dp_49 : decode method_2_code 49 = .ok (.getstatic 25, 3) := by decide +kernel
theorem dp_52 : decode method_2_code 52 = .ok (.areturn, 1) := by decide +kernel
theorem dp_53 : decode method_2_code 53 = .ok (.iload_n 0, 1) := by decide +kernel
theorem dp_54 : decode method_2_code 54 = .ok (.bipush 6, 2) := by decide +kernel
theorem dp_56 : decode method_2_code 56 = .ok (.if_icmp .ne 7, 3) := by decide +kernel
theorem dp_59 : decode method_2_code 59 = .ok (.getstatic 28, 3) := by decide +kernel
theorem dp_62 : decode method_2_code 62 = .ok (.areturn, 1) := by decide +kernel
theorem dp_63 : decode method_2_code 63 = .ok (.getstatic 31, 3) := by decide +kernel
theorem dp_66 : decode method_2_code 66 = .ok (.areturn, 1) := by decide +kernel
theorem df_0 : decode prog_1_method_6_code 0 = .ok (.aload_n 0, 1) := by decide +kernel
theorem df_1 : decode prog_1_method_6_code 1 = .ok (.invokevirtual 57, 3) := by decide +kernel
theorem df_4 : decode prog_1_method_6_code 4 = .ok (.tableswitch 68 0 4 #[36, 57, 57, 47, 57], 36) := by decide +kernel
theorem df_40 : decode prog_1_method_6_code 40 = .ok (.iload_n 1, 1) := by decide +kernel
theorem df_41 : decode prog_1_method_6_code 41 = .ok (.iconst 1, 1) := by decide +kernel
theorem df_42 : decode prog_1_method_6_code 42 = .ok (.if_icmp .eq 7, 3) := by decide +kernel
theorem df_45 : decode prog_1_method_6_code 45 = .ok (.iconst 1, 1) := by decide +kernel
theorem df_46 : decode prog_1_method_6_code 46 = .ok (.goto 4, 3) := by decide +kernel
theorem df_49 : decode prog_1_method_6_code 49 = .ok (.iconst 0, 1) := by decide +kernel
theorem df_50 : decode prog_1_method_6_code 50 = .ok (.ireturn, 1) := by decide +kernel
theorem df_51 : decode prog_1_method_6_code 51 = .ok (.iload_n 1, 1) := by decide +kernel
theorem df_52 : decode prog_1_method_6_code 52 = .ok (.ifCond .ne 7, 3) := by decide +kernel
theorem df_55 : decode prog_1_method_6_code 55 = .ok (.iconst 1, 1) := by decide +kernel
theorem df_56 : decode prog_1_method_6_code 56 = .ok (.goto 4, 3) := by decide +kernel
theorem df_59 : decode prog_1_method_6_code 59 = .ok (.iconst 0, 1) := by decide +kernel
theorem df_60 : decode prog_1_method_6_code 60 = .ok (.ireturn, 1) := by decide +kernel
theorem df_61 : decode prog_1_method_6_code 61 = .ok (.iload_n 1, 1) := by decide +kernel
theorem df_62 : decode prog_1_method_6_code 62 = .ok (.iconst 1, 1) := by decide +kernel
theorem df_63 : decode prog_1_method_6_code 63 = .ok (.if_icmp .ne 7, 3) := by decide +kernel
theorem df_66 : decode prog_1_method_6_code 66 = .ok (.iconst 1, 1) := by decide +kernel
theorem df_67 : decode prog_1_method_6_code 67 = .ok (.goto 4, 3) := by decide +kernel
theorem df_70 : decode prog_1_method_6_code 70 = .ok (.iconst 0, 1) := by decide +kernel
theorem df_71 : decode prog_1_method_6_code 71 = .ok (.ireturn, 1) := by decide +kernel
theorem df_72 : decode prog_1_method_6_code 72 = .ok (.iconst 0, 1) := by decide +kernel
theorem df_73 : decode prog_1_method_6_code 73 = .ok (.ireturn, 1) := by decide +kernel
theorem do_0 : decode jdk_37_method_2_code 0 = .ok (.aload_n 0, 1) := by decide +kernel
theorem do_1 : decode jdk_37_method_2_code 1 = .ok (.getfield 7, 3) := by decide +kernel
theorem do_4 : decode jdk_37_method_2_code 4 = .ok (.ireturn, 1) := by decide +kernel
theorem pn_v : plainName "com/example/bicameral/bicameral/analysis/Verdict" = true := by first | (simp [plainName, overriddenIn]; done) | decide +kernel
theorem pn_l : plainName "com/example/bicameral/bicameral/analysis/VerdictFailsPinLaw" = true := by first | (simp [plainName, overriddenIn]; done) | decide +kernel
theorem pn_e : plainName "java/lang/Enum" = true := by first | (simp [plainName, overriddenIn]; done) | decide +kernel
theorem pd__I_Z : parseMethodDescriptor "(I)Z" = some ⟨[.int], some .boolean⟩ := by decide +kernel
theorem pd___I : parseMethodDescriptor "()I" = some ⟨[], some .int⟩ := by decide +kernel
theorem pd__I_Lcom_example_bicameral_bicameral_analysis_Verdict_ : parseMethodDescriptor "(I)Lcom/example/bicameral/bicameral/analysis/Verdict;" = some ⟨[.int], some (.object "com/example/bicameral/bicameral/analysis/Verdict")⟩ := by decide +kernel
theorem ef_o (a : Addr) : ∀ m, entryFrame m #[(.ref a)] 1 = mkF m 0 #[.val (.ref a)] [] := fun m => by first | (simp [entryFrame, mkF, argsToLocals, Value.category]; done) | rfl
theorem ef_k (k : Int32) : ∀ m, entryFrame m #[(.int k)] 1 = mkF m 0 #[.val (.int k)] [] := fun m => by first | (simp [entryFrame, mkF, argsToLocals, Value.category]; done) | rfl
theorem ef_f (a : Addr) (k : Int32) : ∀ m, entryFrame m #[(.ref a), (.int k)] 2 = mkF m 0 #[.val (.ref a), .val (.int k)] [] := fun m => by first | (simp [entryFrame, mkF, argsToLocals, Value.category]; done) | rfl
theorem ef_law (a b c : Int32) : ∀ m, entryFrame m #[(.int a), (.int b), (.int c)] maxLocals = mkF m 0 #[.val (.int a), .val (.int b), .val (.int c), .unset, .unset, .unset, .unset, .unset, .unset, .unset, .unset] [] := fun m => by first | (simp [entryFrame, mkF, argsToLocals, Value.category, maxLocals]; done) | rfl
set_option maxRecDepth 65536 in
set_option maxHeartbeats 40000000 in
theorem rmO (l : Launch) (Z : State) (a0 : Array Value) (hw : ∀ d ∈ tables_1, d.before a0 Z = true) (a : Addr) (o : Int32) (h0 : Heap) (n0 : Nat) (Zs : n0 ≤ h0.size) (F : Fld Z h0 a "java/lang/Enum" "ordinal" "I" (.int o)) :
    Con l Z (⟨"java/lang/Enum", "ordinal", "()I"⟩ : MethodName) jdk_37_method_2_code 1 (some .int) [] ({ frames := 0, cells := 0, slots := 0, locals := 0 } : Room) n0 #[(.ref a)] h0 (fun v h => h0 = h ∧ v = some (.int o)) := by
  refine Con.of (plainFor_of_name pn_e) (ef_o a) ?_
  intro K C
  replace C : Ok Z "java/lang/Enum" "ordinal" jdk_37_method_2_code 1 (some .int) K := C
  refine r_aloadN C 1 do_0 rfl rfl rfl ?_
  refine r_getfield C 4 (host := "") (Or.inl (hw _ (List.mem_of_getElem? (i := 19) rfl))) Via.refl F do_1 rfl ?_
  exact r_ireturn C rfl do_4 (by decide) (by decide) ⟨rfl, rfl⟩
set_option maxRecDepth 65536 in
set_option maxHeartbeats 40000000 in
theorem rmP0 (l : Launch) (Z : State) (a0 : Array Value) (hw : ∀ d ∈ tables_1, d.before a0 Z = true) (a : Addr) (h0 : Heap) (n0 : Nat) (Zs : n0 ≤ h0.size) (S : Sta Z h0 "com/example/bicameral/bicameral/analysis/Verdict" "COUNTEREXAMPLE" "Lcom/example/bicameral/bicameral/analysis/Verdict;" (.ref a)) :
    Con l Z (⟨"com/example/bicameral/bicameral/analysis/VerdictFailsPinLaw", "pickVerdict", "(I)Lcom/example/bicameral/bicameral/analysis/Verdict;"⟩ : MethodName) method_2_code 1 (some (.object "com/example/bicameral/bicameral/analysis/Verdict")) [] ({ frames := 0, cells := 0, slots := 0, locals := 0 } : Room) n0 #[(.int (0 : Int32))] h0 (fun v h => h0 = h ∧ v = some (.ref a)) := by
  refine Con.of (plainFor_of_name pn_l) (ef_k 0) ?_
  intro K C
  replace C : Ok Z "com/example/bicameral/bicameral/analysis/VerdictFailsPinLaw" "pickVerdict" method_2_code 1 (some (.object "com/example/bicameral/bicameral/analysis/Verdict")) K := C
  refine r_iloadN C 1 dp_0 rfl rfl ?_
  refine r_if_ne C 8 4 dp_1 (by decide) (by decide) rfl (fun q => absurd q (by decide)) (fun _ => ?_)
  refine r_getstatic C 7 (host := "") (Or.inl (hw _ (List.mem_of_getElem? (i := 4) rfl))) Via.refl S dp_4 rfl ?_
  exact r_areturn C rfl rfl rfl rfl dp_7 (by decide) (by decide) ⟨rfl, rfl⟩
set_option maxRecDepth 65536 in
set_option maxHeartbeats 40000000 in
theorem rmP1 (l : Launch) (Z : State) (a0 : Array Value) (hw : ∀ d ∈ tables_1, d.before a0 Z = true) (a : Addr) (h0 : Heap) (n0 : Nat) (Zs : n0 ≤ h0.size) (S : Sta Z h0 "com/example/bicameral/bicameral/analysis/Verdict" "NO_COUNTEREXAMPLE" "Lcom/example/bicameral/bicameral/analysis/Verdict;" (.ref a)) :
    Con l Z (⟨"com/example/bicameral/bicameral/analysis/VerdictFailsPinLaw", "pickVerdict", "(I)Lcom/example/bicameral/bicameral/analysis/Verdict;"⟩ : MethodName) method_2_code 1 (some (.object "com/example/bicameral/bicameral/analysis/Verdict")) [] ({ frames := 0, cells := 0, slots := 0, locals := 0 } : Room) n0 #[(.int (1 : Int32))] h0 (fun v h => h0 = h ∧ v = some (.ref a)) := by
  refine Con.of (plainFor_of_name pn_l) (ef_k 1) ?_
  intro K C
  replace C : Ok Z "com/example/bicameral/bicameral/analysis/VerdictFailsPinLaw" "pickVerdict" method_2_code 1 (some (.object "com/example/bicameral/bicameral/analysis/Verdict")) K := C
  refine r_iloadN C 1 dp_0 rfl rfl ?_
  refine r_if_ne C 8 4 dp_1 (by decide) (by decide) rfl (fun _ => ?_) (fun q => absurd q (by decide))
  refine r_iloadN C 9 dp_8 rfl rfl ?_
  refine r_iconst C 10 (1 : Int32) dp_9 rfl rfl ?_
  refine r_icmp_ne C 17 13 dp_10 (by decide) (by decide) rfl (fun q => absurd q (by decide)) (fun _ => ?_)
  refine r_getstatic C 16 (host := "") (Or.inl (hw _ (List.mem_of_getElem? (i := 21) rfl))) Via.refl S dp_13 rfl ?_
  exact r_areturn C rfl rfl rfl rfl dp_16 (by decide) (by decide) ⟨rfl, rfl⟩
set_option maxRecDepth 65536 in
set_option maxHeartbeats 40000000 in
theorem rmP2 (l : Launch) (Z : State) (a0 : Array Value) (hw : ∀ d ∈ tables_1, d.before a0 Z = true) (a : Addr) (h0 : Heap) (n0 : Nat) (Zs : n0 ≤ h0.size) (S : Sta Z h0 "com/example/bicameral/bicameral/analysis/Verdict" "PROVED" "Lcom/example/bicameral/bicameral/analysis/Verdict;" (.ref a)) :
    Con l Z (⟨"com/example/bicameral/bicameral/analysis/VerdictFailsPinLaw", "pickVerdict", "(I)Lcom/example/bicameral/bicameral/analysis/Verdict;"⟩ : MethodName) method_2_code 1 (some (.object "com/example/bicameral/bicameral/analysis/Verdict")) [] ({ frames := 0, cells := 0, slots := 0, locals := 0 } : Room) n0 #[(.int (2 : Int32))] h0 (fun v h => h0 = h ∧ v = some (.ref a)) := by
  refine Con.of (plainFor_of_name pn_l) (ef_k 2) ?_
  intro K C
  replace C : Ok Z "com/example/bicameral/bicameral/analysis/VerdictFailsPinLaw" "pickVerdict" method_2_code 1 (some (.object "com/example/bicameral/bicameral/analysis/Verdict")) K := C
  refine r_iloadN C 1 dp_0 rfl rfl ?_
  refine r_if_ne C 8 4 dp_1 (by decide) (by decide) rfl (fun _ => ?_) (fun q => absurd q (by decide))
  refine r_iloadN C 9 dp_8 rfl rfl ?_
  refine r_iconst C 10 (1 : Int32) dp_9 rfl rfl ?_
  refine r_icmp_ne C 17 13 dp_10 (by decide) (by decide) rfl (fun _ => ?_) (fun q => absurd q (by decide))
  refine r_iloadN C 18 dp_17 rfl rfl ?_
  refine r_iconst C 19 (2 : Int32) dp_18 rfl rfl ?_
  refine r_icmp_ne C 26 22 dp_19 (by decide) (by decide) rfl (fun q => absurd q (by decide)) (fun _ => ?_)
  refine r_getstatic C 25 (host := "") (Or.inl (hw _ (List.mem_of_getElem? (i := 27) rfl))) Via.refl S dp_22 rfl ?_
  exact r_areturn C rfl rfl rfl rfl dp_25 (by decide) (by decide) ⟨rfl, rfl⟩
set_option maxRecDepth 65536 in
set_option maxHeartbeats 40000000 in
theorem rmP3 (l : Launch) (Z : State) (a0 : Array Value) (hw : ∀ d ∈ tables_1, d.before a0 Z = true) (a : Addr) (h0 : Heap) (n0 : Nat) (Zs : n0 ≤ h0.size) (S : Sta Z h0 "com/example/bicameral/bicameral/analysis/Verdict" "INSTANCE" "Lcom/example/bicameral/bicameral/analysis/Verdict;" (.ref a)) :
    Con l Z (⟨"com/example/bicameral/bicameral/analysis/VerdictFailsPinLaw", "pickVerdict", "(I)Lcom/example/bicameral/bicameral/analysis/Verdict;"⟩ : MethodName) method_2_code 1 (some (.object "com/example/bicameral/bicameral/analysis/Verdict")) [] ({ frames := 0, cells := 0, slots := 0, locals := 0 } : Room) n0 #[(.int (3 : Int32))] h0 (fun v h => h0 = h ∧ v = some (.ref a)) := by
  refine Con.of (plainFor_of_name pn_l) (ef_k 3) ?_
  intro K C
  replace C : Ok Z "com/example/bicameral/bicameral/analysis/VerdictFailsPinLaw" "pickVerdict" method_2_code 1 (some (.object "com/example/bicameral/bicameral/analysis/Verdict")) K := C
  refine r_iloadN C 1 dp_0 rfl rfl ?_
  refine r_if_ne C 8 4 dp_1 (by decide) (by decide) rfl (fun _ => ?_) (fun q => absurd q (by decide))
  refine r_iloadN C 9 dp_8 rfl rfl ?_
  refine r_iconst C 10 (1 : Int32) dp_9 rfl rfl ?_
  refine r_icmp_ne C 17 13 dp_10 (by decide) (by decide) rfl (fun _ => ?_) (fun q => absurd q (by decide))
  refine r_iloadN C 18 dp_17 rfl rfl ?_
  refine r_iconst C 19 (2 : Int32) dp_18 rfl rfl ?_
  refine r_icmp_ne C 26 22 dp_19 (by decide) (by decide) rfl (fun _ => ?_) (fun q => absurd q (by decide))
  refine r_iloadN C 27 dp_26 rfl rfl ?_
  refine r_iconst C 28 (3 : Int32) dp_27 rfl rfl ?_
  refine r_icmp_ne C 35 31 dp_28 (by decide) (by decide) rfl (fun q => absurd q (by decide)) (fun _ => ?_)
  refine r_getstatic C 34 (host := "") (Or.inl (hw _ (List.mem_of_getElem? (i := 29) rfl))) Via.refl S dp_31 rfl ?_
  exact r_areturn C rfl rfl rfl rfl dp_34 (by decide) (by decide) ⟨rfl, rfl⟩
set_option maxRecDepth 65536 in
set_option maxHeartbeats 40000000 in
theorem rmP4 (l : Launch) (Z : State) (a0 : Array Value) (hw : ∀ d ∈ tables_1, d.before a0 Z = true) (a : Addr) (h0 : Heap) (n0 : Nat) (Zs : n0 ≤ h0.size) (S : Sta Z h0 "com/example/bicameral/bicameral/analysis/Verdict" "NO_INSTANCE" "Lcom/example/bicameral/bicameral/analysis/Verdict;" (.ref a)) :
    Con l Z (⟨"com/example/bicameral/bicameral/analysis/VerdictFailsPinLaw", "pickVerdict", "(I)Lcom/example/bicameral/bicameral/analysis/Verdict;"⟩ : MethodName) method_2_code 1 (some (.object "com/example/bicameral/bicameral/analysis/Verdict")) [] ({ frames := 0, cells := 0, slots := 0, locals := 0 } : Room) n0 #[(.int (4 : Int32))] h0 (fun v h => h0 = h ∧ v = some (.ref a)) := by
  refine Con.of (plainFor_of_name pn_l) (ef_k 4) ?_
  intro K C
  replace C : Ok Z "com/example/bicameral/bicameral/analysis/VerdictFailsPinLaw" "pickVerdict" method_2_code 1 (some (.object "com/example/bicameral/bicameral/analysis/Verdict")) K := C
  refine r_iloadN C 1 dp_0 rfl rfl ?_
  refine r_if_ne C 8 4 dp_1 (by decide) (by decide) rfl (fun _ => ?_) (fun q => absurd q (by decide))
  refine r_iloadN C 9 dp_8 rfl rfl ?_
  refine r_iconst C 10 (1 : Int32) dp_9 rfl rfl ?_
  refine r_icmp_ne C 17 13 dp_10 (by decide) (by decide) rfl (fun _ => ?_) (fun q => absurd q (by decide))
  refine r_iloadN C 18 dp_17 rfl rfl ?_
  refine r_iconst C 19 (2 : Int32) dp_18 rfl rfl ?_
  refine r_icmp_ne C 26 22 dp_19 (by decide) (by decide) rfl (fun _ => ?_) (fun q => absurd q (by decide))
  refine r_iloadN C 27 dp_26 rfl rfl ?_
  refine r_iconst C 28 (3 : Int32) dp_27 rfl rfl ?_
  refine r_icmp_ne C 35 31 dp_28 (by decide) (by decide) rfl (fun _ => ?_) (fun q => absurd q (by decide))
  refine r_iloadN C 36 dp_35 rfl rfl ?_
  refine r_iconst C 37 (4 : Int32) dp_36 rfl rfl ?_
  refine r_icmp_ne C 44 40 dp_37 (by decide) (by decide) rfl (fun q => absurd q (by decide)) (fun _ => ?_)
  refine r_getstatic C 43 (host := "") (Or.inl (hw _ (List.mem_of_getElem? (i := 23) rfl))) Via.refl S dp_40 rfl ?_
  exact r_areturn C rfl rfl rfl rfl dp_43 (by decide) (by decide) ⟨rfl, rfl⟩
set_option maxRecDepth 65536 in
set_option maxHeartbeats 40000000 in
theorem rmP5 (l : Launch) (Z : State) (a0 : Array Value) (hw : ∀ d ∈ tables_1, d.before a0 Z = true) (a : Addr) (h0 : Heap) (n0 : Nat) (Zs : n0 ≤ h0.size) (S : Sta Z h0 "com/example/bicameral/bicameral/analysis/Verdict" "UNSUPPORTED" "Lcom/example/bicameral/bicameral/analysis/Verdict;" (.ref a)) :
    Con l Z (⟨"com/example/bicameral/bicameral/analysis/VerdictFailsPinLaw", "pickVerdict", "(I)Lcom/example/bicameral/bicameral/analysis/Verdict;"⟩ : MethodName) method_2_code 1 (some (.object "com/example/bicameral/bicameral/analysis/Verdict")) [] ({ frames := 0, cells := 0, slots := 0, locals := 0 } : Room) n0 #[(.int (5 : Int32))] h0 (fun v h => h0 = h ∧ v = some (.ref a)) := by
  refine Con.of (plainFor_of_name pn_l) (ef_k 5) ?_
  intro K C
  replace C : Ok Z "com/example/bicameral/bicameral/analysis/VerdictFailsPinLaw" "pickVerdict" method_2_code 1 (some (.object "com/example/bicameral/bicameral/analysis/Verdict")) K := C
  refine r_iloadN C 1 dp_0 rfl rfl ?_
  refine r_if_ne C 8 4 dp_1 (by decide) (by decide) rfl (fun _ => ?_) (fun q => absurd q (by decide))
  refine r_iloadN C 9 dp_8 rfl rfl ?_
  refine r_iconst C 10 (1 : Int32) dp_9 rfl rfl ?_
  refine r_icmp_ne C 17 13 dp_10 (by decide) (by decide) rfl (fun _ => ?_) (fun q => absurd q (by decide))
  refine r_iloadN C 18 dp_17 rfl rfl ?_
  refine r_iconst C 19 (2 : Int32) dp_18 rfl rfl ?_
  refine r_icmp_ne C 26 22 dp_19 (by decide) (by decide) rfl (fun _ => ?_) (fun q => absurd q (by decide))
  refine r_iloadN C 27 dp_26 rfl rfl ?_
  refine r_iconst C 28 (3 : Int32) dp_27 rfl rfl ?_
  refine r_icmp_ne C 35 31 dp_28 (by decide) (by decide) rfl (fun _ => ?_) (fun q => absurd q (by decide))
  refine r_iloadN C 36 dp_35 rfl rfl ?_
  refine r_iconst C 37 (4 : Int32) dp_36 rfl rfl ?_
  refine r_icmp_ne C 44 40 dp_37 (by decide) (by decide) rfl (fun _ => ?_) (fun q => absurd q (by decide))
  refine r_iloadN C 45 dp_44 rfl rfl ?_
  refine r_iconst C 46 (5 : Int32) dp_45 rfl rfl ?_
  refine r_icmp_ne C 53 49 dp_46 (by decide) (by decide) rfl (fun q => absurd q (by decide)) (fun _ => ?_)
  refine r_getstatic C 52 (host := "") (Or.inl (hw _ (List.mem_of_getElem? (i := 31) rfl))) Via.refl S dp_49 rfl ?_
  exact r_areturn C rfl rfl rfl rfl dp_52 (by decide) (by decide) ⟨rfl, rfl⟩
set_option maxRecDepth 65536 in
set_option maxHeartbeats 40000000 in
theorem rmP6 (l : Launch) (Z : State) (a0 : Array Value) (hw : ∀ d ∈ tables_1, d.before a0 Z = true) (a : Addr) (h0 : Heap) (n0 : Nat) (Zs : n0 ≤ h0.size) (S : Sta Z h0 "com/example/bicameral/bicameral/analysis/Verdict" "UNKNOWN" "Lcom/example/bicameral/bicameral/analysis/Verdict;" (.ref a)) :
    Con l Z (⟨"com/example/bicameral/bicameral/analysis/VerdictFailsPinLaw", "pickVerdict", "(I)Lcom/example/bicameral/bicameral/analysis/Verdict;"⟩ : MethodName) method_2_code 1 (some (.object "com/example/bicameral/bicameral/analysis/Verdict")) [] ({ frames := 0, cells := 0, slots := 0, locals := 0 } : Room) n0 #[(.int (6 : Int32))] h0 (fun v h => h0 = h ∧ v = some (.ref a)) := by
  refine Con.of (plainFor_of_name pn_l) (ef_k 6) ?_
  intro K C
  replace C : Ok Z "com/example/bicameral/bicameral/analysis/VerdictFailsPinLaw" "pickVerdict" method_2_code 1 (some (.object "com/example/bicameral/bicameral/analysis/Verdict")) K := C
  refine r_iloadN C 1 dp_0 rfl rfl ?_
  refine r_if_ne C 8 4 dp_1 (by decide) (by decide) rfl (fun _ => ?_) (fun q => absurd q (by decide))
  refine r_iloadN C 9 dp_8 rfl rfl ?_
  refine r_iconst C 10 (1 : Int32) dp_9 rfl rfl ?_
  refine r_icmp_ne C 17 13 dp_10 (by decide) (by decide) rfl (fun _ => ?_) (fun q => absurd q (by decide))
  refine r_iloadN C 18 dp_17 rfl rfl ?_
  refine r_iconst C 19 (2 : Int32) dp_18 rfl rfl ?_
  refine r_icmp_ne C 26 22 dp_19 (by decide) (by decide) rfl (fun _ => ?_) (fun q => absurd q (by decide))
  refine r_iloadN C 27 dp_26 rfl rfl ?_
  refine r_iconst C 28 (3 : Int32) dp_27 rfl rfl ?_
  refine r_icmp_ne C 35 31 dp_28 (by decide) (by decide) rfl (fun _ => ?_) (fun q => absurd q (by decide))
  refine r_iloadN C 36 dp_35 rfl rfl ?_
  refine r_iconst C 37 (4 : Int32) dp_36 rfl rfl ?_
  refine r_icmp_ne C 44 40 dp_37 (by decide) (by decide) rfl (fun _ => ?_) (fun q => absurd q (by decide))
  refine r_iloadN C 45 dp_44 rfl rfl ?_
  refine r_iconst C 46 (5 : Int32) dp_45 rfl rfl ?_
  refine r_icmp_ne C 53 49 dp_46 (by decide) (by decide) rfl (fun _ => ?_) (fun q => absurd q (by decide))
  refine r_iloadN C 54 dp_53 rfl rfl ?_
  refine r_bipush C 56 (6 : Int32) dp_54 rfl rfl ?_
  refine r_icmp_ne C 63 59 dp_56 (by decide) (by decide) rfl (fun q => absurd q (by decide)) (fun _ => ?_)
  refine r_getstatic C 62 (host := "") (Or.inl (hw _ (List.mem_of_getElem? (i := 33) rfl))) Via.refl S dp_59 rfl ?_
  exact r_areturn C rfl rfl rfl rfl dp_62 (by decide) (by decide) ⟨rfl, rfl⟩
set_option maxRecDepth 65536 in
set_option maxHeartbeats 40000000 in
theorem rmP7 (l : Launch) (Z : State) (a0 : Array Value) (hw : ∀ d ∈ tables_1, d.before a0 Z = true) (a : Addr) (h0 : Heap) (n0 : Nat) (Zs : n0 ≤ h0.size) (S : Sta Z h0 "com/example/bicameral/bicameral/analysis/Verdict" "TIMEOUT" "Lcom/example/bicameral/bicameral/analysis/Verdict;" (.ref a)) :
    Con l Z (⟨"com/example/bicameral/bicameral/analysis/VerdictFailsPinLaw", "pickVerdict", "(I)Lcom/example/bicameral/bicameral/analysis/Verdict;"⟩ : MethodName) method_2_code 1 (some (.object "com/example/bicameral/bicameral/analysis/Verdict")) [] ({ frames := 0, cells := 0, slots := 0, locals := 0 } : Room) n0 #[(.int (7 : Int32))] h0 (fun v h => h0 = h ∧ v = some (.ref a)) := by
  refine Con.of (plainFor_of_name pn_l) (ef_k 7) ?_
  intro K C
  replace C : Ok Z "com/example/bicameral/bicameral/analysis/VerdictFailsPinLaw" "pickVerdict" method_2_code 1 (some (.object "com/example/bicameral/bicameral/analysis/Verdict")) K := C
  refine r_iloadN C 1 dp_0 rfl rfl ?_
  refine r_if_ne C 8 4 dp_1 (by decide) (by decide) rfl (fun _ => ?_) (fun q => absurd q (by decide))
  refine r_iloadN C 9 dp_8 rfl rfl ?_
  refine r_iconst C 10 (1 : Int32) dp_9 rfl rfl ?_
  refine r_icmp_ne C 17 13 dp_10 (by decide) (by decide) rfl (fun _ => ?_) (fun q => absurd q (by decide))
  refine r_iloadN C 18 dp_17 rfl rfl ?_
  refine r_iconst C 19 (2 : Int32) dp_18 rfl rfl ?_
  refine r_icmp_ne C 26 22 dp_19 (by decide) (by decide) rfl (fun _ => ?_) (fun q => absurd q (by decide))
  refine r_iloadN C 27 dp_26 rfl rfl ?_
  refine r_iconst C 28 (3 : Int32) dp_27 rfl rfl ?_
  refine r_icmp_ne C 35 31 dp_28 (by decide) (by decide) rfl (fun _ => ?_) (fun q => absurd q (by decide))
  refine r_iloadN C 36 dp_35 rfl rfl ?_
  refine r_iconst C 37 (4 : Int32) dp_36 rfl rfl ?_
  refine r_icmp_ne C 44 40 dp_37 (by decide) (by decide) rfl (fun _ => ?_) (fun q => absurd q (by decide))
  refine r_iloadN C 45 dp_44 rfl rfl ?_
  refine r_iconst C 46 (5 : Int32) dp_45 rfl rfl ?_
  refine r_icmp_ne C 53 49 dp_46 (by decide) (by decide) rfl (fun _ => ?_) (fun q => absurd q (by decide))
  refine r_iloadN C 54 dp_53 rfl rfl ?_
  refine r_bipush C 56 (6 : Int32) dp_54 rfl rfl ?_
  refine r_icmp_ne C 63 59 dp_56 (by decide) (by decide) rfl (fun _ => ?_) (fun q => absurd q (by decide))
  refine r_getstatic C 66 (host := "") (Or.inl (hw _ (List.mem_of_getElem? (i := 25) rfl))) Via.refl S dp_63 rfl ?_
  exact r_areturn C rfl rfl rfl rfl dp_66 (by decide) (by decide) ⟨rfl, rfl⟩
def failsv (k e : Int32) : Int32 := if k = 0 then (if e = 1 then 0 else 1) else if k = 3 then (if e = 0 then 1 else 0) else if k = 1 ∨ k = 2 ∨ k = 4 then (if e = 1 then 1 else 0) else 0
set_option maxRecDepth 65536 in
set_option maxHeartbeats 40000000 in
theorem rmF0 (l : Launch) (Z : State) (a0 : Array Value) (hw : ∀ d ∈ tables_1, d.before a0 Z = true) (a : Addr) (e : Int32) (h0 : Heap) (n0 : Nat) (Zs : n0 ≤ h0.size) (E : Exa Z h0 a "com/example/bicameral/bicameral/analysis/Verdict") (F : Fld Z h0 a "java/lang/Enum" "ordinal" "I" (.int 0)) :
    Con l Z (⟨"com/example/bicameral/bicameral/analysis/Verdict", "fails", "(I)Z"⟩ : MethodName) prog_1_method_6_code 2 (some .boolean) [] ({ frames := 1, cells := 0, slots := 0, locals := 12 } : Room) n0 #[(.ref a), (.int e)] h0 (fun v h => h0 = h ∧ v = some (.int (failsv 0 e))) := by
  refine Con.of (plainFor_of_name pn_v) (ef_f a e) ?_
  intro K C
  replace C : Ok Z "com/example/bicameral/bicameral/analysis/Verdict" "fails" prog_1_method_6_code 2 (some .boolean) K := C
  refine r_aloadN C 1 df_0 rfl rfl rfl ?_
  refine r_callU C 4 (y := (⟨"com/example/bicameral/bicameral/analysis/Verdict", "ordinal", "()I"⟩ : MethodName)) (z := (⟨"java/lang/Enum", "ordinal", "()I"⟩ : MethodName)) (D := "com/example/bicameral/bicameral/analysis/Verdict") (owner := "java/lang/Enum") (a := a) [] [] (rmO l Z a0 hw a 0 h0 n0 Zs F) (hw _ (List.mem_of_getElem? (i := 12) rfl)) (hw _ (List.mem_of_getElem? (i := 13) rfl)) (hw _ (List.mem_of_getElem? (i := 14) rfl)) (by decide) (hw _ (List.mem_of_getElem? (i := 16) rfl)) (hw _ (List.mem_of_getElem? (i := 15) rfl)) (hw _ (List.mem_of_getElem? (i := 17) rfl)) (hw _ (List.mem_of_getElem? (i := 18) rfl)) E (by decide) (lenOf pd___I rfl) rfl rfl (by decide) (by decide) (by decide) (by decide) rfl df_1 rfl ?_
  intro v1 h1 q1 z1
  obtain ⟨rfl, rfl⟩ := q1
  show Run _ _ _ _ _ _ _ _ 4 #[.val (.ref a), .val (.int e)] [(.int (0 : Int32))]
  refine r_tsw_in C 40 (off := 36) df_4 (by decide) (by decide) (by decide) (by decide) ?_
  refine r_iloadN C 41 df_40 rfl rfl ?_
  refine r_iconst C 42 (1 : Int32) df_41 rfl rfl ?_
  refine r_icmp_eq C 49 45 df_42 (by decide) (by decide) rfl ?_ ?_
  · intro c1
    refine r_iconst C 50 (0 : Int32) df_49 rfl rfl ?_
    exact r_nreturn C (0 : Int32) rfl (t := .boolean) (by simp) rfl df_50 (by decide) (by decide) ⟨rfl, by simp [failsv, c1]⟩
  · intro c1
    refine r_iconst C 46 (1 : Int32) df_45 rfl rfl ?_
    refine r_goto C 50 df_46 (by decide) (by decide) ?_
    exact r_nreturn C (1 : Int32) rfl (t := .boolean) (by simp) rfl df_50 (by decide) (by decide) ⟨rfl, by simp [failsv, c1]⟩
set_option maxRecDepth 65536 in
set_option maxHeartbeats 40000000 in
theorem rmF1 (l : Launch) (Z : State) (a0 : Array Value) (hw : ∀ d ∈ tables_1, d.before a0 Z = true) (a : Addr) (e : Int32) (h0 : Heap) (n0 : Nat) (Zs : n0 ≤ h0.size) (E : Exa Z h0 a "com/example/bicameral/bicameral/analysis/Verdict") (F : Fld Z h0 a "java/lang/Enum" "ordinal" "I" (.int 1)) :
    Con l Z (⟨"com/example/bicameral/bicameral/analysis/Verdict", "fails", "(I)Z"⟩ : MethodName) prog_1_method_6_code 2 (some .boolean) [] ({ frames := 1, cells := 0, slots := 0, locals := 12 } : Room) n0 #[(.ref a), (.int e)] h0 (fun v h => h0 = h ∧ v = some (.int (failsv 1 e))) := by
  refine Con.of (plainFor_of_name pn_v) (ef_f a e) ?_
  intro K C
  replace C : Ok Z "com/example/bicameral/bicameral/analysis/Verdict" "fails" prog_1_method_6_code 2 (some .boolean) K := C
  refine r_aloadN C 1 df_0 rfl rfl rfl ?_
  refine r_callU C 4 (y := (⟨"com/example/bicameral/bicameral/analysis/Verdict", "ordinal", "()I"⟩ : MethodName)) (z := (⟨"java/lang/Enum", "ordinal", "()I"⟩ : MethodName)) (D := "com/example/bicameral/bicameral/analysis/Verdict") (owner := "java/lang/Enum") (a := a) [] [] (rmO l Z a0 hw a 1 h0 n0 Zs F) (hw _ (List.mem_of_getElem? (i := 12) rfl)) (hw _ (List.mem_of_getElem? (i := 13) rfl)) (hw _ (List.mem_of_getElem? (i := 14) rfl)) (by decide) (hw _ (List.mem_of_getElem? (i := 16) rfl)) (hw _ (List.mem_of_getElem? (i := 15) rfl)) (hw _ (List.mem_of_getElem? (i := 17) rfl)) (hw _ (List.mem_of_getElem? (i := 18) rfl)) E (by decide) (lenOf pd___I rfl) rfl rfl (by decide) (by decide) (by decide) (by decide) rfl df_1 rfl ?_
  intro v1 h1 q1 z1
  obtain ⟨rfl, rfl⟩ := q1
  show Run _ _ _ _ _ _ _ _ 4 #[.val (.ref a), .val (.int e)] [(.int (1 : Int32))]
  refine r_tsw_in C 61 (off := 57) df_4 (by decide) (by decide) (by decide) (by decide) ?_
  refine r_iloadN C 62 df_61 rfl rfl ?_
  refine r_iconst C 63 (1 : Int32) df_62 rfl rfl ?_
  refine r_icmp_ne C 70 66 df_63 (by decide) (by decide) rfl ?_ ?_
  · intro c1
    refine r_iconst C 71 (0 : Int32) df_70 rfl rfl ?_
    exact r_nreturn C (0 : Int32) rfl (t := .boolean) (by simp) rfl df_71 (by decide) (by decide) ⟨rfl, by simp [failsv, c1]⟩
  · intro c1
    refine r_iconst C 67 (1 : Int32) df_66 rfl rfl ?_
    refine r_goto C 71 df_67 (by decide) (by decide) ?_
    exact r_nreturn C (1 : Int32) rfl (t := .boolean) (by simp) rfl df_71 (by decide) (by decide) ⟨rfl, by simp [failsv, c1]⟩
set_option maxRecDepth 65536 in
set_option maxHeartbeats 40000000 in
theorem rmF2 (l : Launch) (Z : State) (a0 : Array Value) (hw : ∀ d ∈ tables_1, d.before a0 Z = true) (a : Addr) (e : Int32) (h0 : Heap) (n0 : Nat) (Zs : n0 ≤ h0.size) (E : Exa Z h0 a "com/example/bicameral/bicameral/analysis/Verdict") (F : Fld Z h0 a "java/lang/Enum" "ordinal" "I" (.int 2)) :
    Con l Z (⟨"com/example/bicameral/bicameral/analysis/Verdict", "fails", "(I)Z"⟩ : MethodName) prog_1_method_6_code 2 (some .boolean) [] ({ frames := 1, cells := 0, slots := 0, locals := 12 } : Room) n0 #[(.ref a), (.int e)] h0 (fun v h => h0 = h ∧ v = some (.int (failsv 2 e))) := by
  refine Con.of (plainFor_of_name pn_v) (ef_f a e) ?_
  intro K C
  replace C : Ok Z "com/example/bicameral/bicameral/analysis/Verdict" "fails" prog_1_method_6_code 2 (some .boolean) K := C
  refine r_aloadN C 1 df_0 rfl rfl rfl ?_
  refine r_callU C 4 (y := (⟨"com/example/bicameral/bicameral/analysis/Verdict", "ordinal", "()I"⟩ : MethodName)) (z := (⟨"java/lang/Enum", "ordinal", "()I"⟩ : MethodName)) (D := "com/example/bicameral/bicameral/analysis/Verdict") (owner := "java/lang/Enum") (a := a) [] [] (rmO l Z a0 hw a 2 h0 n0 Zs F) (hw _ (List.mem_of_getElem? (i := 12) rfl)) (hw _ (List.mem_of_getElem? (i := 13) rfl)) (hw _ (List.mem_of_getElem? (i := 14) rfl)) (by decide) (hw _ (List.mem_of_getElem? (i := 16) rfl)) (hw _ (List.mem_of_getElem? (i := 15) rfl)) (hw _ (List.mem_of_getElem? (i := 17) rfl)) (hw _ (List.mem_of_getElem? (i := 18) rfl)) E (by decide) (lenOf pd___I rfl) rfl rfl (by decide) (by decide) (by decide) (by decide) rfl df_1 rfl ?_
  intro v1 h1 q1 z1
  obtain ⟨rfl, rfl⟩ := q1
  show Run _ _ _ _ _ _ _ _ 4 #[.val (.ref a), .val (.int e)] [(.int (2 : Int32))]
  refine r_tsw_in C 61 (off := 57) df_4 (by decide) (by decide) (by decide) (by decide) ?_
  refine r_iloadN C 62 df_61 rfl rfl ?_
  refine r_iconst C 63 (1 : Int32) df_62 rfl rfl ?_
  refine r_icmp_ne C 70 66 df_63 (by decide) (by decide) rfl ?_ ?_
  · intro c1
    refine r_iconst C 71 (0 : Int32) df_70 rfl rfl ?_
    exact r_nreturn C (0 : Int32) rfl (t := .boolean) (by simp) rfl df_71 (by decide) (by decide) ⟨rfl, by simp [failsv, c1]⟩
  · intro c1
    refine r_iconst C 67 (1 : Int32) df_66 rfl rfl ?_
    refine r_goto C 71 df_67 (by decide) (by decide) ?_
    exact r_nreturn C (1 : Int32) rfl (t := .boolean) (by simp) rfl df_71 (by decide) (by decide) ⟨rfl, by simp [failsv, c1]⟩
set_option maxRecDepth 65536 in
set_option maxHeartbeats 40000000 in
theorem rmF3 (l : Launch) (Z : State) (a0 : Array Value) (hw : ∀ d ∈ tables_1, d.before a0 Z = true) (a : Addr) (e : Int32) (h0 : Heap) (n0 : Nat) (Zs : n0 ≤ h0.size) (E : Exa Z h0 a "com/example/bicameral/bicameral/analysis/Verdict") (F : Fld Z h0 a "java/lang/Enum" "ordinal" "I" (.int 3)) :
    Con l Z (⟨"com/example/bicameral/bicameral/analysis/Verdict", "fails", "(I)Z"⟩ : MethodName) prog_1_method_6_code 2 (some .boolean) [] ({ frames := 1, cells := 0, slots := 0, locals := 12 } : Room) n0 #[(.ref a), (.int e)] h0 (fun v h => h0 = h ∧ v = some (.int (failsv 3 e))) := by
  refine Con.of (plainFor_of_name pn_v) (ef_f a e) ?_
  intro K C
  replace C : Ok Z "com/example/bicameral/bicameral/analysis/Verdict" "fails" prog_1_method_6_code 2 (some .boolean) K := C
  refine r_aloadN C 1 df_0 rfl rfl rfl ?_
  refine r_callU C 4 (y := (⟨"com/example/bicameral/bicameral/analysis/Verdict", "ordinal", "()I"⟩ : MethodName)) (z := (⟨"java/lang/Enum", "ordinal", "()I"⟩ : MethodName)) (D := "com/example/bicameral/bicameral/analysis/Verdict") (owner := "java/lang/Enum") (a := a) [] [] (rmO l Z a0 hw a 3 h0 n0 Zs F) (hw _ (List.mem_of_getElem? (i := 12) rfl)) (hw _ (List.mem_of_getElem? (i := 13) rfl)) (hw _ (List.mem_of_getElem? (i := 14) rfl)) (by decide) (hw _ (List.mem_of_getElem? (i := 16) rfl)) (hw _ (List.mem_of_getElem? (i := 15) rfl)) (hw _ (List.mem_of_getElem? (i := 17) rfl)) (hw _ (List.mem_of_getElem? (i := 18) rfl)) E (by decide) (lenOf pd___I rfl) rfl rfl (by decide) (by decide) (by decide) (by decide) rfl df_1 rfl ?_
  intro v1 h1 q1 z1
  obtain ⟨rfl, rfl⟩ := q1
  show Run _ _ _ _ _ _ _ _ 4 #[.val (.ref a), .val (.int e)] [(.int (3 : Int32))]
  refine r_tsw_in C 51 (off := 47) df_4 (by decide) (by decide) (by decide) (by decide) ?_
  refine r_iloadN C 52 df_51 rfl rfl ?_
  refine r_if_ne C 59 55 df_52 (by decide) (by decide) rfl ?_ ?_
  · intro c1
    refine r_iconst C 60 (0 : Int32) df_59 rfl rfl ?_
    exact r_nreturn C (0 : Int32) rfl (t := .boolean) (by simp) rfl df_60 (by decide) (by decide) ⟨rfl, by simp [failsv, c1]⟩
  · intro c1
    refine r_iconst C 56 (1 : Int32) df_55 rfl rfl ?_
    refine r_goto C 60 df_56 (by decide) (by decide) ?_
    exact r_nreturn C (1 : Int32) rfl (t := .boolean) (by simp) rfl df_60 (by decide) (by decide) ⟨rfl, by simp [failsv, c1]⟩
set_option maxRecDepth 65536 in
set_option maxHeartbeats 40000000 in
theorem rmF4 (l : Launch) (Z : State) (a0 : Array Value) (hw : ∀ d ∈ tables_1, d.before a0 Z = true) (a : Addr) (e : Int32) (h0 : Heap) (n0 : Nat) (Zs : n0 ≤ h0.size) (E : Exa Z h0 a "com/example/bicameral/bicameral/analysis/Verdict") (F : Fld Z h0 a "java/lang/Enum" "ordinal" "I" (.int 4)) :
    Con l Z (⟨"com/example/bicameral/bicameral/analysis/Verdict", "fails", "(I)Z"⟩ : MethodName) prog_1_method_6_code 2 (some .boolean) [] ({ frames := 1, cells := 0, slots := 0, locals := 12 } : Room) n0 #[(.ref a), (.int e)] h0 (fun v h => h0 = h ∧ v = some (.int (failsv 4 e))) := by
  refine Con.of (plainFor_of_name pn_v) (ef_f a e) ?_
  intro K C
  replace C : Ok Z "com/example/bicameral/bicameral/analysis/Verdict" "fails" prog_1_method_6_code 2 (some .boolean) K := C
  refine r_aloadN C 1 df_0 rfl rfl rfl ?_
  refine r_callU C 4 (y := (⟨"com/example/bicameral/bicameral/analysis/Verdict", "ordinal", "()I"⟩ : MethodName)) (z := (⟨"java/lang/Enum", "ordinal", "()I"⟩ : MethodName)) (D := "com/example/bicameral/bicameral/analysis/Verdict") (owner := "java/lang/Enum") (a := a) [] [] (rmO l Z a0 hw a 4 h0 n0 Zs F) (hw _ (List.mem_of_getElem? (i := 12) rfl)) (hw _ (List.mem_of_getElem? (i := 13) rfl)) (hw _ (List.mem_of_getElem? (i := 14) rfl)) (by decide) (hw _ (List.mem_of_getElem? (i := 16) rfl)) (hw _ (List.mem_of_getElem? (i := 15) rfl)) (hw _ (List.mem_of_getElem? (i := 17) rfl)) (hw _ (List.mem_of_getElem? (i := 18) rfl)) E (by decide) (lenOf pd___I rfl) rfl rfl (by decide) (by decide) (by decide) (by decide) rfl df_1 rfl ?_
  intro v1 h1 q1 z1
  obtain ⟨rfl, rfl⟩ := q1
  show Run _ _ _ _ _ _ _ _ 4 #[.val (.ref a), .val (.int e)] [(.int (4 : Int32))]
  refine r_tsw_in C 61 (off := 57) df_4 (by decide) (by decide) (by decide) (by decide) ?_
  refine r_iloadN C 62 df_61 rfl rfl ?_
  refine r_iconst C 63 (1 : Int32) df_62 rfl rfl ?_
  refine r_icmp_ne C 70 66 df_63 (by decide) (by decide) rfl ?_ ?_
  · intro c1
    refine r_iconst C 71 (0 : Int32) df_70 rfl rfl ?_
    exact r_nreturn C (0 : Int32) rfl (t := .boolean) (by simp) rfl df_71 (by decide) (by decide) ⟨rfl, by simp [failsv, c1]⟩
  · intro c1
    refine r_iconst C 67 (1 : Int32) df_66 rfl rfl ?_
    refine r_goto C 71 df_67 (by decide) (by decide) ?_
    exact r_nreturn C (1 : Int32) rfl (t := .boolean) (by simp) rfl df_71 (by decide) (by decide) ⟨rfl, by simp [failsv, c1]⟩
set_option maxRecDepth 65536 in
set_option maxHeartbeats 40000000 in
theorem rmF5 (l : Launch) (Z : State) (a0 : Array Value) (hw : ∀ d ∈ tables_1, d.before a0 Z = true) (a : Addr) (e : Int32) (h0 : Heap) (n0 : Nat) (Zs : n0 ≤ h0.size) (E : Exa Z h0 a "com/example/bicameral/bicameral/analysis/Verdict") (F : Fld Z h0 a "java/lang/Enum" "ordinal" "I" (.int 5)) :
    Con l Z (⟨"com/example/bicameral/bicameral/analysis/Verdict", "fails", "(I)Z"⟩ : MethodName) prog_1_method_6_code 2 (some .boolean) [] ({ frames := 1, cells := 0, slots := 0, locals := 12 } : Room) n0 #[(.ref a), (.int e)] h0 (fun v h => h0 = h ∧ v = some (.int (failsv 5 e))) := by
  refine Con.of (plainFor_of_name pn_v) (ef_f a e) ?_
  intro K C
  replace C : Ok Z "com/example/bicameral/bicameral/analysis/Verdict" "fails" prog_1_method_6_code 2 (some .boolean) K := C
  refine r_aloadN C 1 df_0 rfl rfl rfl ?_
  refine r_callU C 4 (y := (⟨"com/example/bicameral/bicameral/analysis/Verdict", "ordinal", "()I"⟩ : MethodName)) (z := (⟨"java/lang/Enum", "ordinal", "()I"⟩ : MethodName)) (D := "com/example/bicameral/bicameral/analysis/Verdict") (owner := "java/lang/Enum") (a := a) [] [] (rmO l Z a0 hw a 5 h0 n0 Zs F) (hw _ (List.mem_of_getElem? (i := 12) rfl)) (hw _ (List.mem_of_getElem? (i := 13) rfl)) (hw _ (List.mem_of_getElem? (i := 14) rfl)) (by decide) (hw _ (List.mem_of_getElem? (i := 16) rfl)) (hw _ (List.mem_of_getElem? (i := 15) rfl)) (hw _ (List.mem_of_getElem? (i := 17) rfl)) (hw _ (List.mem_of_getElem? (i := 18) rfl)) E (by decide) (lenOf pd___I rfl) rfl rfl (by decide) (by decide) (by decide) (by decide) rfl df_1 rfl ?_
  intro v1 h1 q1 z1
  obtain ⟨rfl, rfl⟩ := q1
  show Run _ _ _ _ _ _ _ _ 4 #[.val (.ref a), .val (.int e)] [(.int (5 : Int32))]
  refine r_tsw_out C 72 df_4 (by decide) (by decide) (by decide) ?_
  refine r_iconst C 73 (0 : Int32) df_72 rfl rfl ?_
  exact r_nreturn C (0 : Int32) rfl (t := .boolean) (by simp) rfl df_73 (by decide) (by decide) ⟨rfl, rfl⟩
set_option maxRecDepth 65536 in
set_option maxHeartbeats 40000000 in
theorem rmF6 (l : Launch) (Z : State) (a0 : Array Value) (hw : ∀ d ∈ tables_1, d.before a0 Z = true) (a : Addr) (e : Int32) (h0 : Heap) (n0 : Nat) (Zs : n0 ≤ h0.size) (E : Exa Z h0 a "com/example/bicameral/bicameral/analysis/Verdict") (F : Fld Z h0 a "java/lang/Enum" "ordinal" "I" (.int 6)) :
    Con l Z (⟨"com/example/bicameral/bicameral/analysis/Verdict", "fails", "(I)Z"⟩ : MethodName) prog_1_method_6_code 2 (some .boolean) [] ({ frames := 1, cells := 0, slots := 0, locals := 12 } : Room) n0 #[(.ref a), (.int e)] h0 (fun v h => h0 = h ∧ v = some (.int (failsv 6 e))) := by
  refine Con.of (plainFor_of_name pn_v) (ef_f a e) ?_
  intro K C
  replace C : Ok Z "com/example/bicameral/bicameral/analysis/Verdict" "fails" prog_1_method_6_code 2 (some .boolean) K := C
  refine r_aloadN C 1 df_0 rfl rfl rfl ?_
  refine r_callU C 4 (y := (⟨"com/example/bicameral/bicameral/analysis/Verdict", "ordinal", "()I"⟩ : MethodName)) (z := (⟨"java/lang/Enum", "ordinal", "()I"⟩ : MethodName)) (D := "com/example/bicameral/bicameral/analysis/Verdict") (owner := "java/lang/Enum") (a := a) [] [] (rmO l Z a0 hw a 6 h0 n0 Zs F) (hw _ (List.mem_of_getElem? (i := 12) rfl)) (hw _ (List.mem_of_getElem? (i := 13) rfl)) (hw _ (List.mem_of_getElem? (i := 14) rfl)) (by decide) (hw _ (List.mem_of_getElem? (i := 16) rfl)) (hw _ (List.mem_of_getElem? (i := 15) rfl)) (hw _ (List.mem_of_getElem? (i := 17) rfl)) (hw _ (List.mem_of_getElem? (i := 18) rfl)) E (by decide) (lenOf pd___I rfl) rfl rfl (by decide) (by decide) (by decide) (by decide) rfl df_1 rfl ?_
  intro v1 h1 q1 z1
  obtain ⟨rfl, rfl⟩ := q1
  show Run _ _ _ _ _ _ _ _ 4 #[.val (.ref a), .val (.int e)] [(.int (6 : Int32))]
  refine r_tsw_out C 72 df_4 (by decide) (by decide) (by decide) ?_
  refine r_iconst C 73 (0 : Int32) df_72 rfl rfl ?_
  exact r_nreturn C (0 : Int32) rfl (t := .boolean) (by simp) rfl df_73 (by decide) (by decide) ⟨rfl, rfl⟩
set_option maxRecDepth 65536 in
set_option maxHeartbeats 40000000 in
theorem rmF7 (l : Launch) (Z : State) (a0 : Array Value) (hw : ∀ d ∈ tables_1, d.before a0 Z = true) (a : Addr) (e : Int32) (h0 : Heap) (n0 : Nat) (Zs : n0 ≤ h0.size) (E : Exa Z h0 a "com/example/bicameral/bicameral/analysis/Verdict") (F : Fld Z h0 a "java/lang/Enum" "ordinal" "I" (.int 7)) :
    Con l Z (⟨"com/example/bicameral/bicameral/analysis/Verdict", "fails", "(I)Z"⟩ : MethodName) prog_1_method_6_code 2 (some .boolean) [] ({ frames := 1, cells := 0, slots := 0, locals := 12 } : Room) n0 #[(.ref a), (.int e)] h0 (fun v h => h0 = h ∧ v = some (.int (failsv 7 e))) := by
  refine Con.of (plainFor_of_name pn_v) (ef_f a e) ?_
  intro K C
  replace C : Ok Z "com/example/bicameral/bicameral/analysis/Verdict" "fails" prog_1_method_6_code 2 (some .boolean) K := C
  refine r_aloadN C 1 df_0 rfl rfl rfl ?_
  refine r_callU C 4 (y := (⟨"com/example/bicameral/bicameral/analysis/Verdict", "ordinal", "()I"⟩ : MethodName)) (z := (⟨"java/lang/Enum", "ordinal", "()I"⟩ : MethodName)) (D := "com/example/bicameral/bicameral/analysis/Verdict") (owner := "java/lang/Enum") (a := a) [] [] (rmO l Z a0 hw a 7 h0 n0 Zs F) (hw _ (List.mem_of_getElem? (i := 12) rfl)) (hw _ (List.mem_of_getElem? (i := 13) rfl)) (hw _ (List.mem_of_getElem? (i := 14) rfl)) (by decide) (hw _ (List.mem_of_getElem? (i := 16) rfl)) (hw _ (List.mem_of_getElem? (i := 15) rfl)) (hw _ (List.mem_of_getElem? (i := 17) rfl)) (hw _ (List.mem_of_getElem? (i := 18) rfl)) E (by decide) (lenOf pd___I rfl) rfl rfl (by decide) (by decide) (by decide) (by decide) rfl df_1 rfl ?_
  intro v1 h1 q1 z1
  obtain ⟨rfl, rfl⟩ := q1
  show Run _ _ _ _ _ _ _ _ 4 #[.val (.ref a), .val (.int e)] [(.int (7 : Int32))]
  refine r_tsw_out C 72 df_4 (by decide) (by decide) (by decide) ?_
  refine r_iconst C 73 (0 : Int32) df_72 rfl rfl ?_
  exact r_nreturn C (0 : Int32) rfl (t := .boolean) (by simp) rfl df_73 (by decide) (by decide) ⟨rfl, rfl⟩
theorem and7 (x : Int32) : x &&& (7 : Int32) = 0 ∨ x &&& (7 : Int32) = 1 ∨ x &&& (7 : Int32) = 2 ∨ x &&& (7 : Int32) = 3 ∨ x &&& (7 : Int32) = 4 ∨ x &&& (7 : Int32) = 5 ∨ x &&& (7 : Int32) = 6 ∨ x &&& (7 : Int32) = 7 := by
  have h1 := c_mask x 7 3 (by decide) (by decide)
  simp only [← Int32.toInt_inj, show (0 : Int32).toInt = 0 by decide, show (1 : Int32).toInt = 1 by decide, show (2 : Int32).toInt = 2 by decide, show (3 : Int32).toInt = 3 by decide, show (4 : Int32).toInt = 4 by decide, show (5 : Int32).toInt = 5 by decide, show (6 : Int32).toInt = 6 by decide, show (7 : Int32).toInt = 7 by decide]
  omega
set_option maxRecDepth 65536 in
set_option maxHeartbeats 40000000 in
theorem rm0 (l : Launch) (Z : State) (a0 : Array Value) (hw : ∀ d ∈ tables_1, d.before a0 Z = true) (ws : List Jvm.Cond) (p0 p1 p2 : Int32) (h0 : Heap) (n0 : Nat) (Zs : n0 ≤ h0.size) (a_COUNTEREXAMPLE : Addr) (a_NO_COUNTEREXAMPLE : Addr) (a_NO_INSTANCE : Addr) (a_TIMEOUT : Addr) (a_PROVED : Addr) (a_INSTANCE : Addr) (a_UNSUPPORTED : Addr) (a_UNKNOWN : Addr) (S_COUNTEREXAMPLE : Sta Z h0 "com/example/bicameral/bicameral/analysis/Verdict" "COUNTEREXAMPLE" "Lcom/example/bicameral/bicameral/analysis/Verdict;" (.ref a_COUNTEREXAMPLE)) (E_a_COUNTEREXAMPLE : Exa Z h0 a_COUNTEREXAMPLE "com/example/bicameral/bicameral/analysis/Verdict") (F_ordinal_a_COUNTEREXAMPLE : Fld Z h0 a_COUNTEREXAMPLE "java/lang/Enum" "ordinal" "I" (.int (0 : Int32))) (S_NO_COUNTEREXAMPLE : Sta Z h0 "com/example/bicameral/bicameral/analysis/Verdict" "NO_COUNTEREXAMPLE" "Lcom/example/bicameral/bicameral/analysis/Verdict;" (.ref a_NO_COUNTEREXAMPLE)) (E_a_NO_COUNTEREXAMPLE : Exa Z h0 a_NO_COUNTEREXAMPLE "com/example/bicameral/bicameral/analysis/Verdict") (F_ordinal_a_NO_COUNTEREXAMPLE : Fld Z h0 a_NO_COUNTEREXAMPLE "java/lang/Enum" "ordinal" "I" (.int (1 : Int32))) (S_NO_INSTANCE : Sta Z h0 "com/example/bicameral/bicameral/analysis/Verdict" "NO_INSTANCE" "Lcom/example/bicameral/bicameral/analysis/Verdict;" (.ref a_NO_INSTANCE)) (E_a_NO_INSTANCE : Exa Z h0 a_NO_INSTANCE "com/example/bicameral/bicameral/analysis/Verdict") (F_ordinal_a_NO_INSTANCE : Fld Z h0 a_NO_INSTANCE "java/lang/Enum" "ordinal" "I" (.int (4 : Int32))) (S_TIMEOUT : Sta Z h0 "com/example/bicameral/bicameral/analysis/Verdict" "TIMEOUT" "Lcom/example/bicameral/bicameral/analysis/Verdict;" (.ref a_TIMEOUT)) (E_a_TIMEOUT : Exa Z h0 a_TIMEOUT "com/example/bicameral/bicameral/analysis/Verdict") (F_ordinal_a_TIMEOUT : Fld Z h0 a_TIMEOUT "java/lang/Enum" "ordinal" "I" (.int (7 : Int32))) (S_PROVED : Sta Z h0 "com/example/bicameral/bicameral/analysis/Verdict" "PROVED" "Lcom/example/bicameral/bicameral/analysis/Verdict;" (.ref a_PROVED)) (E_a_PROVED : Exa Z h0 a_PROVED "com/example/bicameral/bicameral/analysis/Verdict") (F_ordinal_a_PROVED : Fld Z h0 a_PROVED "java/lang/Enum" "ordinal" "I" (.int (2 : Int32))) (S_INSTANCE : Sta Z h0 "com/example/bicameral/bicameral/analysis/Verdict" "INSTANCE" "Lcom/example/bicameral/bicameral/analysis/Verdict;" (.ref a_INSTANCE)) (E_a_INSTANCE : Exa Z h0 a_INSTANCE "com/example/bicameral/bicameral/analysis/Verdict") (F_ordinal_a_INSTANCE : Fld Z h0 a_INSTANCE "java/lang/Enum" "ordinal" "I" (.int (3 : Int32))) (S_UNSUPPORTED : Sta Z h0 "com/example/bicameral/bicameral/analysis/Verdict" "UNSUPPORTED" "Lcom/example/bicameral/bicameral/analysis/Verdict;" (.ref a_UNSUPPORTED)) (E_a_UNSUPPORTED : Exa Z h0 a_UNSUPPORTED "com/example/bicameral/bicameral/analysis/Verdict") (F_ordinal_a_UNSUPPORTED : Fld Z h0 a_UNSUPPORTED "java/lang/Enum" "ordinal" "I" (.int (5 : Int32))) (S_UNKNOWN : Sta Z h0 "com/example/bicameral/bicameral/analysis/Verdict" "UNKNOWN" "Lcom/example/bicameral/bicameral/analysis/Verdict;" (.ref a_UNKNOWN)) (E_a_UNKNOWN : Exa Z h0 a_UNKNOWN "com/example/bicameral/bicameral/analysis/Verdict") (F_ordinal_a_UNKNOWN : Fld Z h0 a_UNKNOWN "java/lang/Enum" "ordinal" "I" (.int (6 : Int32))) :
    Con l Z x code maxLocals ret ws room_1 n0 #[(.int p0), (.int p1), (.int p2)] h0 (fun v _ => v = some (.int 1)) := by
  refine Con.of (plainFor_of_name pn_l) (ef_law p0 p1 p2) ?_
  intro K C
  replace C : Ok Z "com/example/bicameral/bicameral/analysis/VerdictFailsPinLaw" "law" code maxLocals ret K := C
  refine r_iloadN C 1 at_0 rfl rfl ?_
  refine r_bipush C 3 (7 : Int32) at_1 rfl rfl ?_
  refine r_iand C 4 at_3 rfl ?_
  rcases and7 p0 with hk | hk | hk | hk | hk | hk | hk | hk <;> rw [hk]
  · refine r_istoreN C 5 #[.val (.int p0), .val (.int p1), .val (.int p2), .val (.int (0 : Int32)), .unset, .unset, .unset, .unset, .unset, .unset, .unset] at_4 rfl rfl ?_
    refine r_iloadN C 6 at_5 rfl rfl ?_
    refine r_callS C 9 (y := (⟨"com/example/bicameral/bicameral/analysis/VerdictFailsPinLaw", "pickVerdict", "(I)Lcom/example/bicameral/bicameral/analysis/Verdict;"⟩ : MethodName)) (a := 0) [(.int (0 : Int32))] [] (rmP0 l Z a0 hw a_COUNTEREXAMPLE h0 n0 Zs S_COUNTEREXAMPLE) (hw _ (List.mem_of_getElem? (i := 0) rfl)) (hw _ (List.mem_of_getElem? (i := 1) rfl)) (hw _ (List.mem_of_getElem? (i := 2) rfl)) (hw _ (List.mem_of_getElem? (i := 3) rfl)) (by decide) (lenOf pd__I_Lcom_example_bicameral_bicameral_analysis_Verdict_ rfl) rfl rfl (by decide) (by decide) (by decide) (by decide) rfl at_6 rfl ?_
    intro v1 h1 q1 z1
    obtain ⟨rfl, rfl⟩ := q1
    show Run _ _ _ _ _ _ _ _ 9 #[.val (.int p0), .val (.int p1), .val (.int p2), .val (.int (0 : Int32)), .unset, .unset, .unset, .unset, .unset, .unset, .unset] [(.ref a_COUNTEREXAMPLE)]
    refine r_astore C 11 #[.val (.int p0), .val (.int p1), .val (.int p2), .val (.int (0 : Int32)), .val (.ref a_COUNTEREXAMPLE), .unset, .unset, .unset, .unset, .unset, .unset] at_9 rfl rfl rfl ?_
    refine r_iloadN C 12 at_11 rfl rfl ?_
    refine r_iconst C 13 (3 : Int32) at_12 rfl rfl ?_
    refine r_iand C 14 at_13 rfl ?_
    refine r_istore C 16 #[.val (.int p0), .val (.int p1), .val (.int p2), .val (.int (0 : Int32)), .val (.ref a_COUNTEREXAMPLE), .val (.int (p1 &&& (3 : Int32))), .unset, .unset, .unset, .unset, .unset] at_14 rfl rfl ?_
    have J : ∀ e : Int32, Run l room_1 n0 (fun v _ => v = some (.int 1)) K h0 (0 + 0) (0 + 0) 42 #[.val (.int p0), .val (.int p1), .val (.int p2), .val (.int (0 : Int32)), .val (.ref a_COUNTEREXAMPLE), .val (.int (p1 &&& (3 : Int32))), .val (.int e), .unset, .unset, .unset, .unset] [] := by
      intro e
      refine r_iloadN C 43 at_42 rfl rfl ?_
      refine r_if_eq C 51 46 at_43 (by decide) (by decide) rfl (fun _ => ?_) (fun q => absurd q (by decide))
      refine r_iconst C 52 (1 : Int32) at_51 rfl rfl ?_
      refine r_goto C 56 at_52 (by decide) (by decide) ?_
      refine r_istore C 58 #[.val (.int p0), .val (.int p1), .val (.int p2), .val (.int (0 : Int32)), .val (.ref a_COUNTEREXAMPLE), .val (.int (p1 &&& (3 : Int32))), .val (.int e), .val (.int (1 : Int32)), .unset, .unset, .unset] at_56 rfl rfl ?_
      refine r_iloadN C 59 at_58 rfl rfl ?_
      refine r_iconst C 60 (1 : Int32) at_59 rfl rfl ?_
      refine r_icmp_eq C 73 63 at_60 (by decide) (by decide) rfl (fun q => absurd q (by decide)) (fun _ => ?_)
      refine r_iloadN C 64 at_63 rfl rfl ?_
      refine r_iconst C 65 (2 : Int32) at_64 rfl rfl ?_
      refine r_icmp_eq C 73 68 at_65 (by decide) (by decide) rfl (fun q => absurd q (by decide)) (fun _ => ?_)
      refine r_iloadN C 69 at_68 rfl rfl ?_
      refine r_iconst C 70 (4 : Int32) at_69 rfl rfl ?_
      refine r_icmp_ne C 77 73 at_70 (by decide) (by decide) rfl (fun _ => ?_) (fun q => absurd q (by decide))
      refine r_iconst C 78 (0 : Int32) at_77 rfl rfl ?_
      refine r_istore C 80 #[.val (.int p0), .val (.int p1), .val (.int p2), .val (.int (0 : Int32)), .val (.ref a_COUNTEREXAMPLE), .val (.int (p1 &&& (3 : Int32))), .val (.int e), .val (.int (1 : Int32)), .val (.int (0 : Int32)), .unset, .unset] at_78 rfl rfl ?_
      refine r_iload C 82 at_80 rfl rfl ?_
      refine r_if_eq C 95 85 at_82 (by decide) (by decide) rfl ?_ ?_
      · intro c2
        subst c2
        refine r_iconst C 96 (0 : Int32) at_95 rfl rfl ?_
        refine r_istore C 98 #[.val (.int p0), .val (.int p1), .val (.int p2), .val (.int (0 : Int32)), .val (.ref a_COUNTEREXAMPLE), .val (.int (p1 &&& (3 : Int32))), .val (.int (0 : Int32)), .val (.int (1 : Int32)), .val (.int (0 : Int32)), .val (.int (0 : Int32)), .unset] at_96 rfl rfl ?_
        refine r_iload C 100 at_98 rfl rfl ?_
        refine r_if_eq C 108 103 at_100 (by decide) (by decide) rfl (fun q => absurd q (by decide)) (fun _ => ?_)
        refine r_iload C 105 at_103 rfl rfl ?_
        refine r_if_eq C 128 108 at_105 (by decide) (by decide) rfl (fun _ => ?_) (fun q => absurd q (by decide))
        refine r_iconst C 129 (1 : Int32) at_128 rfl rfl ?_
        refine r_goto C 133 at_129 (by decide) (by decide) ?_
        refine r_istore C 135 #[.val (.int p0), .val (.int p1), .val (.int p2), .val (.int (0 : Int32)), .val (.ref a_COUNTEREXAMPLE), .val (.int (p1 &&& (3 : Int32))), .val (.int (0 : Int32)), .val (.int (1 : Int32)), .val (.int (0 : Int32)), .val (.int (0 : Int32)), .val (.int (1 : Int32))] at_133 rfl rfl ?_
        refine r_aload C 137 at_135 rfl rfl rfl ?_
        refine r_iload C 139 at_137 rfl rfl ?_
        refine r_callV C 142 (y := (⟨"com/example/bicameral/bicameral/analysis/Verdict", "fails", "(I)Z"⟩ : MethodName)) (z := (⟨"com/example/bicameral/bicameral/analysis/Verdict", "fails", "(I)Z"⟩ : MethodName)) (D := "com/example/bicameral/bicameral/analysis/Verdict") (a := a_COUNTEREXAMPLE) [(.int (0 : Int32))] [] (rmF0 l Z a0 hw a_COUNTEREXAMPLE (0 : Int32) h0 n0 Zs E_a_COUNTEREXAMPLE F_ordinal_a_COUNTEREXAMPLE) (hw _ (List.mem_of_getElem? (i := 7) rfl)) (hw _ (List.mem_of_getElem? (i := 8) rfl)) (fun s hZ' => notFace_of_selects (args := #[]) (mvT hZ' (hw _ (List.mem_of_getElem? (i := 10) rfl)))) (hw _ (List.mem_of_getElem? (i := 10) rfl)) (hw _ (List.mem_of_getElem? (i := 9) rfl)) (hw _ (List.mem_of_getElem? (i := 5) rfl)) (hw _ (List.mem_of_getElem? (i := 11) rfl)) E_a_COUNTEREXAMPLE (by decide) (lenOf pd__I_Z rfl) rfl rfl (by decide) (by decide) (by decide) (by decide) rfl at_139 rfl ?_
        intro v3 h3 q3 z3
        obtain ⟨rfl, rfl⟩ := q3
        show Run _ _ _ _ _ _ _ _ 142 #[.val (.int p0), .val (.int p1), .val (.int p2), .val (.int (0 : Int32)), .val (.ref a_COUNTEREXAMPLE), .val (.int (p1 &&& (3 : Int32))), .val (.int (0 : Int32)), .val (.int (1 : Int32)), .val (.int (0 : Int32)), .val (.int (0 : Int32)), .val (.int (1 : Int32))] [(.int (failsv 0 (0 : Int32)))]
        rw [show failsv 0 (0 : Int32) = (1 : Int32) from by simp [failsv]]
        refine r_iload C 144 at_142 rfl rfl ?_
        refine r_icmp_ne C 151 147 at_144 (by decide) (by decide) rfl (fun q => absurd q (by decide)) (fun _ => ?_)
        refine r_iconst C 148 (1 : Int32) at_147 rfl rfl ?_
        refine r_goto C 152 at_148 (by decide) (by decide) ?_
        exact r_nreturn C (1 : Int32) rfl (t := .boolean) (by simp) rfl at_152 (by decide) (by decide) rfl
      · intro c2
        refine r_iload C 87 at_85 rfl rfl ?_
        refine r_iconst C 88 (1 : Int32) at_87 rfl rfl ?_
        refine r_icmp_eq C 95 91 at_88 (by decide) (by decide) rfl ?_ ?_
        · intro c4
          subst c4
          refine r_iconst C 96 (0 : Int32) at_95 rfl rfl ?_
          refine r_istore C 98 #[.val (.int p0), .val (.int p1), .val (.int p2), .val (.int (0 : Int32)), .val (.ref a_COUNTEREXAMPLE), .val (.int (p1 &&& (3 : Int32))), .val (.int (1 : Int32)), .val (.int (1 : Int32)), .val (.int (0 : Int32)), .val (.int (0 : Int32)), .unset] at_96 rfl rfl ?_
          refine r_iload C 100 at_98 rfl rfl ?_
          refine r_if_eq C 108 103 at_100 (by decide) (by decide) rfl (fun q => absurd q (by decide)) (fun _ => ?_)
          refine r_iload C 105 at_103 rfl rfl ?_
          refine r_if_eq C 128 108 at_105 (by decide) (by decide) rfl (fun q => absurd q (by decide)) (fun _ => ?_)
          refine r_iload C 110 at_108 rfl rfl ?_
          refine r_if_eq C 119 113 at_110 (by decide) (by decide) rfl (fun _ => ?_) (fun q => absurd q (by decide))
          refine r_iloadN C 120 at_119 rfl rfl ?_
          refine r_if_ne C 132 123 at_120 (by decide) (by decide) rfl (fun q => absurd q (by decide)) (fun _ => ?_)
          refine r_iload C 125 at_123 rfl rfl ?_
          refine r_if_eq C 132 128 at_125 (by decide) (by decide) rfl (fun _ => ?_) (fun q => absurd q (by decide))
          refine r_iconst C 133 (0 : Int32) at_132 rfl rfl ?_
          refine r_istore C 135 #[.val (.int p0), .val (.int p1), .val (.int p2), .val (.int (0 : Int32)), .val (.ref a_COUNTEREXAMPLE), .val (.int (p1 &&& (3 : Int32))), .val (.int (1 : Int32)), .val (.int (1 : Int32)), .val (.int (0 : Int32)), .val (.int (0 : Int32)), .val (.int (0 : Int32))] at_133 rfl rfl ?_
          refine r_aload C 137 at_135 rfl rfl rfl ?_
          refine r_iload C 139 at_137 rfl rfl ?_
          refine r_callV C 142 (y := (⟨"com/example/bicameral/bicameral/analysis/Verdict", "fails", "(I)Z"⟩ : MethodName)) (z := (⟨"com/example/bicameral/bicameral/analysis/Verdict", "fails", "(I)Z"⟩ : MethodName)) (D := "com/example/bicameral/bicameral/analysis/Verdict") (a := a_COUNTEREXAMPLE) [(.int (1 : Int32))] [] (rmF0 l Z a0 hw a_COUNTEREXAMPLE (1 : Int32) h0 n0 Zs E_a_COUNTEREXAMPLE F_ordinal_a_COUNTEREXAMPLE) (hw _ (List.mem_of_getElem? (i := 7) rfl)) (hw _ (List.mem_of_getElem? (i := 8) rfl)) (fun s hZ' => notFace_of_selects (args := #[]) (mvT hZ' (hw _ (List.mem_of_getElem? (i := 10) rfl)))) (hw _ (List.mem_of_getElem? (i := 10) rfl)) (hw _ (List.mem_of_getElem? (i := 9) rfl)) (hw _ (List.mem_of_getElem? (i := 5) rfl)) (hw _ (List.mem_of_getElem? (i := 11) rfl)) E_a_COUNTEREXAMPLE (by decide) (lenOf pd__I_Z rfl) rfl rfl (by decide) (by decide) (by decide) (by decide) rfl at_139 rfl ?_
          intro v5 h5 q5 z5
          obtain ⟨rfl, rfl⟩ := q5
          show Run _ _ _ _ _ _ _ _ 142 #[.val (.int p0), .val (.int p1), .val (.int p2), .val (.int (0 : Int32)), .val (.ref a_COUNTEREXAMPLE), .val (.int (p1 &&& (3 : Int32))), .val (.int (1 : Int32)), .val (.int (1 : Int32)), .val (.int (0 : Int32)), .val (.int (0 : Int32)), .val (.int (0 : Int32))] [(.int (failsv 0 (1 : Int32)))]
          rw [show failsv 0 (1 : Int32) = (0 : Int32) from by simp [failsv, c2]]
          refine r_iload C 144 at_142 rfl rfl ?_
          refine r_icmp_ne C 151 147 at_144 (by decide) (by decide) rfl (fun q => absurd q (by decide)) (fun _ => ?_)
          refine r_iconst C 148 (1 : Int32) at_147 rfl rfl ?_
          refine r_goto C 152 at_148 (by decide) (by decide) ?_
          exact r_nreturn C (1 : Int32) rfl (t := .boolean) (by simp) rfl at_152 (by decide) (by decide) rfl
        · intro c4
          refine r_iconst C 92 (1 : Int32) at_91 rfl rfl ?_
          refine r_goto C 96 at_92 (by decide) (by decide) ?_
          refine r_istore C 98 #[.val (.int p0), .val (.int p1), .val (.int p2), .val (.int (0 : Int32)), .val (.ref a_COUNTEREXAMPLE), .val (.int (p1 &&& (3 : Int32))), .val (.int e), .val (.int (1 : Int32)), .val (.int (0 : Int32)), .val (.int (1 : Int32)), .unset] at_96 rfl rfl ?_
          refine r_iload C 100 at_98 rfl rfl ?_
          refine r_if_eq C 108 103 at_100 (by decide) (by decide) rfl (fun q => absurd q (by decide)) (fun _ => ?_)
          refine r_iload C 105 at_103 rfl rfl ?_
          refine r_if_eq C 128 108 at_105 (by decide) (by decide) rfl (fun q => absurd q c2) (fun _ => ?_)
          refine r_iload C 110 at_108 rfl rfl ?_
          refine r_if_eq C 119 113 at_110 (by decide) (by decide) rfl (fun _ => ?_) (fun q => absurd q (by decide))
          refine r_iloadN C 120 at_119 rfl rfl ?_
          refine r_if_ne C 132 123 at_120 (by decide) (by decide) rfl (fun q => absurd q (by decide)) (fun _ => ?_)
          refine r_iload C 125 at_123 rfl rfl ?_
          refine r_if_eq C 132 128 at_125 (by decide) (by decide) rfl (fun q => absurd q (by decide)) (fun _ => ?_)
          refine r_iconst C 129 (1 : Int32) at_128 rfl rfl ?_
          refine r_goto C 133 at_129 (by decide) (by decide) ?_
          refine r_istore C 135 #[.val (.int p0), .val (.int p1), .val (.int p2), .val (.int (0 : Int32)), .val (.ref a_COUNTEREXAMPLE), .val (.int (p1 &&& (3 : Int32))), .val (.int e), .val (.int (1 : Int32)), .val (.int (0 : Int32)), .val (.int (1 : Int32)), .val (.int (1 : Int32))] at_133 rfl rfl ?_
          refine r_aload C 137 at_135 rfl rfl rfl ?_
          refine r_iload C 139 at_137 rfl rfl ?_
          refine r_callV C 142 (y := (⟨"com/example/bicameral/bicameral/analysis/Verdict", "fails", "(I)Z"⟩ : MethodName)) (z := (⟨"com/example/bicameral/bicameral/analysis/Verdict", "fails", "(I)Z"⟩ : MethodName)) (D := "com/example/bicameral/bicameral/analysis/Verdict") (a := a_COUNTEREXAMPLE) [(.int e)] [] (rmF0 l Z a0 hw a_COUNTEREXAMPLE e h0 n0 Zs E_a_COUNTEREXAMPLE F_ordinal_a_COUNTEREXAMPLE) (hw _ (List.mem_of_getElem? (i := 7) rfl)) (hw _ (List.mem_of_getElem? (i := 8) rfl)) (fun s hZ' => notFace_of_selects (args := #[]) (mvT hZ' (hw _ (List.mem_of_getElem? (i := 10) rfl)))) (hw _ (List.mem_of_getElem? (i := 10) rfl)) (hw _ (List.mem_of_getElem? (i := 9) rfl)) (hw _ (List.mem_of_getElem? (i := 5) rfl)) (hw _ (List.mem_of_getElem? (i := 11) rfl)) E_a_COUNTEREXAMPLE (by decide) (lenOf pd__I_Z rfl) rfl rfl (by decide) (by decide) (by decide) (by decide) rfl at_139 rfl ?_
          intro v6 h6 q6 z6
          obtain ⟨rfl, rfl⟩ := q6
          show Run _ _ _ _ _ _ _ _ 142 #[.val (.int p0), .val (.int p1), .val (.int p2), .val (.int (0 : Int32)), .val (.ref a_COUNTEREXAMPLE), .val (.int (p1 &&& (3 : Int32))), .val (.int e), .val (.int (1 : Int32)), .val (.int (0 : Int32)), .val (.int (1 : Int32)), .val (.int (1 : Int32))] [(.int (failsv 0 e))]
          rw [show failsv 0 e = (1 : Int32) from by simp [failsv, c2, c4]]
          refine r_iload C 144 at_142 rfl rfl ?_
          refine r_icmp_ne C 151 147 at_144 (by decide) (by decide) rfl (fun q => absurd q (by decide)) (fun _ => ?_)
          refine r_iconst C 148 (1 : Int32) at_147 rfl rfl ?_
          refine r_goto C 152 at_148 (by decide) (by decide) ?_
          exact r_nreturn C (1 : Int32) rfl (t := .boolean) (by simp) rfl at_152 (by decide) (by decide) rfl
    refine r_iload C 18 at_16 rfl rfl ?_
    refine r_if_ne C 27 21 at_18 (by decide) (by decide) rfl ?_ ?_
    · intro c1
      refine r_iload C 29 at_27 rfl rfl ?_
      refine r_iconst C 30 (1 : Int32) at_29 rfl rfl ?_
      refine r_icmp_ne C 39 33 at_30 (by decide) (by decide) rfl ?_ ?_
      · intro c2
        refine r_iloadN C 40 at_39 rfl rfl ?_
        refine r_istore C 42 #[.val (.int p0), .val (.int p1), .val (.int p2), .val (.int (0 : Int32)), .val (.ref a_COUNTEREXAMPLE), .val (.int (p1 &&& (3 : Int32))), .val (.int p2), .unset, .unset, .unset, .unset] at_40 rfl rfl ?_
        exact J _
      · intro c2
        refine r_iconst C 34 (1 : Int32) at_33 rfl rfl ?_
        refine r_istore C 36 #[.val (.int p0), .val (.int p1), .val (.int p2), .val (.int (0 : Int32)), .val (.ref a_COUNTEREXAMPLE), .val (.int (p1 &&& (3 : Int32))), .val (.int (1 : Int32)), .unset, .unset, .unset, .unset] at_34 rfl rfl ?_
        refine r_goto C 42 at_36 (by decide) (by decide) ?_
        exact J _
    · intro c1
      refine r_iconst C 22 (0 : Int32) at_21 rfl rfl ?_
      refine r_istore C 24 #[.val (.int p0), .val (.int p1), .val (.int p2), .val (.int (0 : Int32)), .val (.ref a_COUNTEREXAMPLE), .val (.int (p1 &&& (3 : Int32))), .val (.int (0 : Int32)), .unset, .unset, .unset, .unset] at_22 rfl rfl ?_
      refine r_goto C 42 at_24 (by decide) (by decide) ?_
      exact J _
  · refine r_istoreN C 5 #[.val (.int p0), .val (.int p1), .val (.int p2), .val (.int (1 : Int32)), .unset, .unset, .unset, .unset, .unset, .unset, .unset] at_4 rfl rfl ?_
    refine r_iloadN C 6 at_5 rfl rfl ?_
    refine r_callS C 9 (y := (⟨"com/example/bicameral/bicameral/analysis/VerdictFailsPinLaw", "pickVerdict", "(I)Lcom/example/bicameral/bicameral/analysis/Verdict;"⟩ : MethodName)) (a := 0) [(.int (1 : Int32))] [] (rmP1 l Z a0 hw a_NO_COUNTEREXAMPLE h0 n0 Zs S_NO_COUNTEREXAMPLE) (hw _ (List.mem_of_getElem? (i := 0) rfl)) (hw _ (List.mem_of_getElem? (i := 1) rfl)) (hw _ (List.mem_of_getElem? (i := 2) rfl)) (hw _ (List.mem_of_getElem? (i := 3) rfl)) (by decide) (lenOf pd__I_Lcom_example_bicameral_bicameral_analysis_Verdict_ rfl) rfl rfl (by decide) (by decide) (by decide) (by decide) rfl at_6 rfl ?_
    intro v9 h9 q9 z9
    obtain ⟨rfl, rfl⟩ := q9
    show Run _ _ _ _ _ _ _ _ 9 #[.val (.int p0), .val (.int p1), .val (.int p2), .val (.int (1 : Int32)), .unset, .unset, .unset, .unset, .unset, .unset, .unset] [(.ref a_NO_COUNTEREXAMPLE)]
    refine r_astore C 11 #[.val (.int p0), .val (.int p1), .val (.int p2), .val (.int (1 : Int32)), .val (.ref a_NO_COUNTEREXAMPLE), .unset, .unset, .unset, .unset, .unset, .unset] at_9 rfl rfl rfl ?_
    refine r_iloadN C 12 at_11 rfl rfl ?_
    refine r_iconst C 13 (3 : Int32) at_12 rfl rfl ?_
    refine r_iand C 14 at_13 rfl ?_
    refine r_istore C 16 #[.val (.int p0), .val (.int p1), .val (.int p2), .val (.int (1 : Int32)), .val (.ref a_NO_COUNTEREXAMPLE), .val (.int (p1 &&& (3 : Int32))), .unset, .unset, .unset, .unset, .unset] at_14 rfl rfl ?_
    have J : ∀ e : Int32, Run l room_1 n0 (fun v _ => v = some (.int 1)) K h0 (0 + 0) (0 + 0) 42 #[.val (.int p0), .val (.int p1), .val (.int p2), .val (.int (1 : Int32)), .val (.ref a_NO_COUNTEREXAMPLE), .val (.int (p1 &&& (3 : Int32))), .val (.int e), .unset, .unset, .unset, .unset] [] := by
      intro e
      refine r_iloadN C 43 at_42 rfl rfl ?_
      refine r_if_eq C 51 46 at_43 (by decide) (by decide) rfl (fun q => absurd q (by decide)) (fun _ => ?_)
      refine r_iloadN C 47 at_46 rfl rfl ?_
      refine r_iconst C 48 (3 : Int32) at_47 rfl rfl ?_
      refine r_icmp_ne C 55 51 at_48 (by decide) (by decide) rfl (fun _ => ?_) (fun q => absurd q (by decide))
      refine r_iconst C 56 (0 : Int32) at_55 rfl rfl ?_
      refine r_istore C 58 #[.val (.int p0), .val (.int p1), .val (.int p2), .val (.int (1 : Int32)), .val (.ref a_NO_COUNTEREXAMPLE), .val (.int (p1 &&& (3 : Int32))), .val (.int e), .val (.int (0 : Int32)), .unset, .unset, .unset] at_56 rfl rfl ?_
      refine r_iloadN C 59 at_58 rfl rfl ?_
      refine r_iconst C 60 (1 : Int32) at_59 rfl rfl ?_
      refine r_icmp_eq C 73 63 at_60 (by decide) (by decide) rfl (fun _ => ?_) (fun q => absurd q (by decide))
      refine r_iconst C 74 (1 : Int32) at_73 rfl rfl ?_
      refine r_goto C 78 at_74 (by decide) (by decide) ?_
      refine r_istore C 80 #[.val (.int p0), .val (.int p1), .val (.int p2), .val (.int (1 : Int32)), .val (.ref a_NO_COUNTEREXAMPLE), .val (.int (p1 &&& (3 : Int32))), .val (.int e), .val (.int (0 : Int32)), .val (.int (1 : Int32)), .unset, .unset] at_78 rfl rfl ?_
      refine r_iload C 82 at_80 rfl rfl ?_
      refine r_if_eq C 95 85 at_82 (by decide) (by decide) rfl ?_ ?_
      · intro c10
        subst c10
        refine r_iconst C 96 (0 : Int32) at_95 rfl rfl ?_
        refine r_istore C 98 #[.val (.int p0), .val (.int p1), .val (.int p2), .val (.int (1 : Int32)), .val (.ref a_NO_COUNTEREXAMPLE), .val (.int (p1 &&& (3 : Int32))), .val (.int (0 : Int32)), .val (.int (0 : Int32)), .val (.int (1 : Int32)), .val (.int (0 : Int32)), .unset] at_96 rfl rfl ?_
        refine r_iload C 100 at_98 rfl rfl ?_
        refine r_if_eq C 108 103 at_100 (by decide) (by decide) rfl (fun _ => ?_) (fun q => absurd q (by decide))
        refine r_iload C 110 at_108 rfl rfl ?_
        refine r_if_eq C 119 113 at_110 (by decide) (by decide) rfl (fun q => absurd q (by decide)) (fun _ => ?_)
        refine r_iload C 115 at_113 rfl rfl ?_
        refine r_iconst C 116 (1 : Int32) at_115 rfl rfl ?_
        refine r_icmp_eq C 128 119 at_116 (by decide) (by decide) rfl (fun q => absurd q (by decide)) (fun _ => ?_)
        refine r_iloadN C 120 at_119 rfl rfl ?_
        refine r_if_ne C 132 123 at_120 (by decide) (by decide) rfl (fun _ => ?_) (fun q => absurd q (by decide))
        refine r_iconst C 133 (0 : Int32) at_132 rfl rfl ?_
        refine r_istore C 135 #[.val (.int p0), .val (.int p1), .val (.int p2), .val (.int (1 : Int32)), .val (.ref a_NO_COUNTEREXAMPLE), .val (.int (p1 &&& (3 : Int32))), .val (.int (0 : Int32)), .val (.int (0 : Int32)), .val (.int (1 : Int32)), .val (.int (0 : Int32)), .val (.int (0 : Int32))] at_133 rfl rfl ?_
        refine r_aload C 137 at_135 rfl rfl rfl ?_
        refine r_iload C 139 at_137 rfl rfl ?_
        refine r_callV C 142 (y := (⟨"com/example/bicameral/bicameral/analysis/Verdict", "fails", "(I)Z"⟩ : MethodName)) (z := (⟨"com/example/bicameral/bicameral/analysis/Verdict", "fails", "(I)Z"⟩ : MethodName)) (D := "com/example/bicameral/bicameral/analysis/Verdict") (a := a_NO_COUNTEREXAMPLE) [(.int (0 : Int32))] [] (rmF1 l Z a0 hw a_NO_COUNTEREXAMPLE (0 : Int32) h0 n0 Zs E_a_NO_COUNTEREXAMPLE F_ordinal_a_NO_COUNTEREXAMPLE) (hw _ (List.mem_of_getElem? (i := 7) rfl)) (hw _ (List.mem_of_getElem? (i := 8) rfl)) (fun s hZ' => notFace_of_selects (args := #[]) (mvT hZ' (hw _ (List.mem_of_getElem? (i := 10) rfl)))) (hw _ (List.mem_of_getElem? (i := 10) rfl)) (hw _ (List.mem_of_getElem? (i := 9) rfl)) (hw _ (List.mem_of_getElem? (i := 5) rfl)) (hw _ (List.mem_of_getElem? (i := 11) rfl)) E_a_NO_COUNTEREXAMPLE (by decide) (lenOf pd__I_Z rfl) rfl rfl (by decide) (by decide) (by decide) (by decide) rfl at_139 rfl ?_
        intro v11 h11 q11 z11
        obtain ⟨rfl, rfl⟩ := q11
        show Run _ _ _ _ _ _ _ _ 142 #[.val (.int p0), .val (.int p1), .val (.int p2), .val (.int (1 : Int32)), .val (.ref a_NO_COUNTEREXAMPLE), .val (.int (p1 &&& (3 : Int32))), .val (.int (0 : Int32)), .val (.int (0 : Int32)), .val (.int (1 : Int32)), .val (.int (0 : Int32)), .val (.int (0 : Int32))] [(.int (failsv 1 (0 : Int32)))]
        rw [show failsv 1 (0 : Int32) = (0 : Int32) from by simp [failsv]]
        refine r_iload C 144 at_142 rfl rfl ?_
        refine r_icmp_ne C 151 147 at_144 (by decide) (by decide) rfl (fun q => absurd q (by decide)) (fun _ => ?_)
        refine r_iconst C 148 (1 : Int32) at_147 rfl rfl ?_
        refine r_goto C 152 at_148 (by decide) (by decide) ?_
        exact r_nreturn C (1 : Int32) rfl (t := .boolean) (by simp) rfl at_152 (by decide) (by decide) rfl
      · intro c10
        refine r_iload C 87 at_85 rfl rfl ?_
        refine r_iconst C 88 (1 : Int32) at_87 rfl rfl ?_
        refine r_icmp_eq C 95 91 at_88 (by decide) (by decide) rfl ?_ ?_
        · intro c12
          subst c12
          refine r_iconst C 96 (0 : Int32) at_95 rfl rfl ?_
          refine r_istore C 98 #[.val (.int p0), .val (.int p1), .val (.int p2), .val (.int (1 : Int32)), .val (.ref a_NO_COUNTEREXAMPLE), .val (.int (p1 &&& (3 : Int32))), .val (.int (1 : Int32)), .val (.int (0 : Int32)), .val (.int (1 : Int32)), .val (.int (0 : Int32)), .unset] at_96 rfl rfl ?_
          refine r_iload C 100 at_98 rfl rfl ?_
          refine r_if_eq C 108 103 at_100 (by decide) (by decide) rfl (fun _ => ?_) (fun q => absurd q (by decide))
          refine r_iload C 110 at_108 rfl rfl ?_
          refine r_if_eq C 119 113 at_110 (by decide) (by decide) rfl (fun q => absurd q (by decide)) (fun _ => ?_)
          refine r_iload C 115 at_113 rfl rfl ?_
          refine r_iconst C 116 (1 : Int32) at_115 rfl rfl ?_
          refine r_icmp_eq C 128 119 at_116 (by decide) (by decide) rfl (fun _ => ?_) (fun q => absurd q (by decide))
          refine r_iconst C 129 (1 : Int32) at_128 rfl rfl ?_
          refine r_goto C 133 at_129 (by decide) (by decide) ?_
          refine r_istore C 135 #[.val (.int p0), .val (.int p1), .val (.int p2), .val (.int (1 : Int32)), .val (.ref a_NO_COUNTEREXAMPLE), .val (.int (p1 &&& (3 : Int32))), .val (.int (1 : Int32)), .val (.int (0 : Int32)), .val (.int (1 : Int32)), .val (.int (0 : Int32)), .val (.int (1 : Int32))] at_133 rfl rfl ?_
          refine r_aload C 137 at_135 rfl rfl rfl ?_
          refine r_iload C 139 at_137 rfl rfl ?_
          refine r_callV C 142 (y := (⟨"com/example/bicameral/bicameral/analysis/Verdict", "fails", "(I)Z"⟩ : MethodName)) (z := (⟨"com/example/bicameral/bicameral/analysis/Verdict", "fails", "(I)Z"⟩ : MethodName)) (D := "com/example/bicameral/bicameral/analysis/Verdict") (a := a_NO_COUNTEREXAMPLE) [(.int (1 : Int32))] [] (rmF1 l Z a0 hw a_NO_COUNTEREXAMPLE (1 : Int32) h0 n0 Zs E_a_NO_COUNTEREXAMPLE F_ordinal_a_NO_COUNTEREXAMPLE) (hw _ (List.mem_of_getElem? (i := 7) rfl)) (hw _ (List.mem_of_getElem? (i := 8) rfl)) (fun s hZ' => notFace_of_selects (args := #[]) (mvT hZ' (hw _ (List.mem_of_getElem? (i := 10) rfl)))) (hw _ (List.mem_of_getElem? (i := 10) rfl)) (hw _ (List.mem_of_getElem? (i := 9) rfl)) (hw _ (List.mem_of_getElem? (i := 5) rfl)) (hw _ (List.mem_of_getElem? (i := 11) rfl)) E_a_NO_COUNTEREXAMPLE (by decide) (lenOf pd__I_Z rfl) rfl rfl (by decide) (by decide) (by decide) (by decide) rfl at_139 rfl ?_
          intro v13 h13 q13 z13
          obtain ⟨rfl, rfl⟩ := q13
          show Run _ _ _ _ _ _ _ _ 142 #[.val (.int p0), .val (.int p1), .val (.int p2), .val (.int (1 : Int32)), .val (.ref a_NO_COUNTEREXAMPLE), .val (.int (p1 &&& (3 : Int32))), .val (.int (1 : Int32)), .val (.int (0 : Int32)), .val (.int (1 : Int32)), .val (.int (0 : Int32)), .val (.int (1 : Int32))] [(.int (failsv 1 (1 : Int32)))]
          rw [show failsv 1 (1 : Int32) = (1 : Int32) from by simp [failsv, c10]]
          refine r_iload C 144 at_142 rfl rfl ?_
          refine r_icmp_ne C 151 147 at_144 (by decide) (by decide) rfl (fun q => absurd q (by decide)) (fun _ => ?_)
          refine r_iconst C 148 (1 : Int32) at_147 rfl rfl ?_
          refine r_goto C 152 at_148 (by decide) (by decide) ?_
          exact r_nreturn C (1 : Int32) rfl (t := .boolean) (by simp) rfl at_152 (by decide) (by decide) rfl
        · intro c12
          refine r_iconst C 92 (1 : Int32) at_91 rfl rfl ?_
          refine r_goto C 96 at_92 (by decide) (by decide) ?_
          refine r_istore C 98 #[.val (.int p0), .val (.int p1), .val (.int p2), .val (.int (1 : Int32)), .val (.ref a_NO_COUNTEREXAMPLE), .val (.int (p1 &&& (3 : Int32))), .val (.int e), .val (.int (0 : Int32)), .val (.int (1 : Int32)), .val (.int (1 : Int32)), .unset] at_96 rfl rfl ?_
          refine r_iload C 100 at_98 rfl rfl ?_
          refine r_if_eq C 108 103 at_100 (by decide) (by decide) rfl (fun _ => ?_) (fun q => absurd q (by decide))
          refine r_iload C 110 at_108 rfl rfl ?_
          refine r_if_eq C 119 113 at_110 (by decide) (by decide) rfl (fun q => absurd q (by decide)) (fun _ => ?_)
          refine r_iload C 115 at_113 rfl rfl ?_
          refine r_iconst C 116 (1 : Int32) at_115 rfl rfl ?_
          refine r_icmp_eq C 128 119 at_116 (by decide) (by decide) rfl (fun q => absurd q c12) (fun _ => ?_)
          refine r_iloadN C 120 at_119 rfl rfl ?_
          refine r_if_ne C 132 123 at_120 (by decide) (by decide) rfl (fun _ => ?_) (fun q => absurd q (by decide))
          refine r_iconst C 133 (0 : Int32) at_132 rfl rfl ?_
          refine r_istore C 135 #[.val (.int p0), .val (.int p1), .val (.int p2), .val (.int (1 : Int32)), .val (.ref a_NO_COUNTEREXAMPLE), .val (.int (p1 &&& (3 : Int32))), .val (.int e), .val (.int (0 : Int32)), .val (.int (1 : Int32)), .val (.int (1 : Int32)), .val (.int (0 : Int32))] at_133 rfl rfl ?_
          refine r_aload C 137 at_135 rfl rfl rfl ?_
          refine r_iload C 139 at_137 rfl rfl ?_
          refine r_callV C 142 (y := (⟨"com/example/bicameral/bicameral/analysis/Verdict", "fails", "(I)Z"⟩ : MethodName)) (z := (⟨"com/example/bicameral/bicameral/analysis/Verdict", "fails", "(I)Z"⟩ : MethodName)) (D := "com/example/bicameral/bicameral/analysis/Verdict") (a := a_NO_COUNTEREXAMPLE) [(.int e)] [] (rmF1 l Z a0 hw a_NO_COUNTEREXAMPLE e h0 n0 Zs E_a_NO_COUNTEREXAMPLE F_ordinal_a_NO_COUNTEREXAMPLE) (hw _ (List.mem_of_getElem? (i := 7) rfl)) (hw _ (List.mem_of_getElem? (i := 8) rfl)) (fun s hZ' => notFace_of_selects (args := #[]) (mvT hZ' (hw _ (List.mem_of_getElem? (i := 10) rfl)))) (hw _ (List.mem_of_getElem? (i := 10) rfl)) (hw _ (List.mem_of_getElem? (i := 9) rfl)) (hw _ (List.mem_of_getElem? (i := 5) rfl)) (hw _ (List.mem_of_getElem? (i := 11) rfl)) E_a_NO_COUNTEREXAMPLE (by decide) (lenOf pd__I_Z rfl) rfl rfl (by decide) (by decide) (by decide) (by decide) rfl at_139 rfl ?_
          intro v14 h14 q14 z14
          obtain ⟨rfl, rfl⟩ := q14
          show Run _ _ _ _ _ _ _ _ 142 #[.val (.int p0), .val (.int p1), .val (.int p2), .val (.int (1 : Int32)), .val (.ref a_NO_COUNTEREXAMPLE), .val (.int (p1 &&& (3 : Int32))), .val (.int e), .val (.int (0 : Int32)), .val (.int (1 : Int32)), .val (.int (1 : Int32)), .val (.int (0 : Int32))] [(.int (failsv 1 e))]
          rw [show failsv 1 e = (0 : Int32) from by simp [failsv, c10, c12]]
          refine r_iload C 144 at_142 rfl rfl ?_
          refine r_icmp_ne C 151 147 at_144 (by decide) (by decide) rfl (fun q => absurd q (by decide)) (fun _ => ?_)
          refine r_iconst C 148 (1 : Int32) at_147 rfl rfl ?_
          refine r_goto C 152 at_148 (by decide) (by decide) ?_
          exact r_nreturn C (1 : Int32) rfl (t := .boolean) (by simp) rfl at_152 (by decide) (by decide) rfl
    refine r_iload C 18 at_16 rfl rfl ?_
    refine r_if_ne C 27 21 at_18 (by decide) (by decide) rfl ?_ ?_
    · intro c1
      refine r_iload C 29 at_27 rfl rfl ?_
      refine r_iconst C 30 (1 : Int32) at_29 rfl rfl ?_
      refine r_icmp_ne C 39 33 at_30 (by decide) (by decide) rfl ?_ ?_
      · intro c2
        refine r_iloadN C 40 at_39 rfl rfl ?_
        refine r_istore C 42 #[.val (.int p0), .val (.int p1), .val (.int p2), .val (.int (1 : Int32)), .val (.ref a_NO_COUNTEREXAMPLE), .val (.int (p1 &&& (3 : Int32))), .val (.int p2), .unset, .unset, .unset, .unset] at_40 rfl rfl ?_
        exact J _
      · intro c2
        refine r_iconst C 34 (1 : Int32) at_33 rfl rfl ?_
        refine r_istore C 36 #[.val (.int p0), .val (.int p1), .val (.int p2), .val (.int (1 : Int32)), .val (.ref a_NO_COUNTEREXAMPLE), .val (.int (p1 &&& (3 : Int32))), .val (.int (1 : Int32)), .unset, .unset, .unset, .unset] at_34 rfl rfl ?_
        refine r_goto C 42 at_36 (by decide) (by decide) ?_
        exact J _
    · intro c1
      refine r_iconst C 22 (0 : Int32) at_21 rfl rfl ?_
      refine r_istore C 24 #[.val (.int p0), .val (.int p1), .val (.int p2), .val (.int (1 : Int32)), .val (.ref a_NO_COUNTEREXAMPLE), .val (.int (p1 &&& (3 : Int32))), .val (.int (0 : Int32)), .unset, .unset, .unset, .unset] at_22 rfl rfl ?_
      refine r_goto C 42 at_24 (by decide) (by decide) ?_
      exact J _
  · refine r_istoreN C 5 #[.val (.int p0), .val (.int p1), .val (.int p2), .val (.int (2 : Int32)), .unset, .unset, .unset, .unset, .unset, .unset, .unset] at_4 rfl rfl ?_
    refine r_iloadN C 6 at_5 rfl rfl ?_
    refine r_callS C 9 (y := (⟨"com/example/bicameral/bicameral/analysis/VerdictFailsPinLaw", "pickVerdict", "(I)Lcom/example/bicameral/bicameral/analysis/Verdict;"⟩ : MethodName)) (a := 0) [(.int (2 : Int32))] [] (rmP2 l Z a0 hw a_PROVED h0 n0 Zs S_PROVED) (hw _ (List.mem_of_getElem? (i := 0) rfl)) (hw _ (List.mem_of_getElem? (i := 1) rfl)) (hw _ (List.mem_of_getElem? (i := 2) rfl)) (hw _ (List.mem_of_getElem? (i := 3) rfl)) (by decide) (lenOf pd__I_Lcom_example_bicameral_bicameral_analysis_Verdict_ rfl) rfl rfl (by decide) (by decide) (by decide) (by decide) rfl at_6 rfl ?_
    intro v17 h17 q17 z17
    obtain ⟨rfl, rfl⟩ := q17
    show Run _ _ _ _ _ _ _ _ 9 #[.val (.int p0), .val (.int p1), .val (.int p2), .val (.int (2 : Int32)), .unset, .unset, .unset, .unset, .unset, .unset, .unset] [(.ref a_PROVED)]
    refine r_astore C 11 #[.val (.int p0), .val (.int p1), .val (.int p2), .val (.int (2 : Int32)), .val (.ref a_PROVED), .unset, .unset, .unset, .unset, .unset, .unset] at_9 rfl rfl rfl ?_
    refine r_iloadN C 12 at_11 rfl rfl ?_
    refine r_iconst C 13 (3 : Int32) at_12 rfl rfl ?_
    refine r_iand C 14 at_13 rfl ?_
    refine r_istore C 16 #[.val (.int p0), .val (.int p1), .val (.int p2), .val (.int (2 : Int32)), .val (.ref a_PROVED), .val (.int (p1 &&& (3 : Int32))), .unset, .unset, .unset, .unset, .unset] at_14 rfl rfl ?_
    have J : ∀ e : Int32, Run l room_1 n0 (fun v _ => v = some (.int 1)) K h0 (0 + 0) (0 + 0) 42 #[.val (.int p0), .val (.int p1), .val (.int p2), .val (.int (2 : Int32)), .val (.ref a_PROVED), .val (.int (p1 &&& (3 : Int32))), .val (.int e), .unset, .unset, .unset, .unset] [] := by
      intro e
      refine r_iloadN C 43 at_42 rfl rfl ?_
      refine r_if_eq C 51 46 at_43 (by decide) (by decide) rfl (fun q => absurd q (by decide)) (fun _ => ?_)
      refine r_iloadN C 47 at_46 rfl rfl ?_
      refine r_iconst C 48 (3 : Int32) at_47 rfl rfl ?_
      refine r_icmp_ne C 55 51 at_48 (by decide) (by decide) rfl (fun _ => ?_) (fun q => absurd q (by decide))
      refine r_iconst C 56 (0 : Int32) at_55 rfl rfl ?_
      refine r_istore C 58 #[.val (.int p0), .val (.int p1), .val (.int p2), .val (.int (2 : Int32)), .val (.ref a_PROVED), .val (.int (p1 &&& (3 : Int32))), .val (.int e), .val (.int (0 : Int32)), .unset, .unset, .unset] at_56 rfl rfl ?_
      refine r_iloadN C 59 at_58 rfl rfl ?_
      refine r_iconst C 60 (1 : Int32) at_59 rfl rfl ?_
      refine r_icmp_eq C 73 63 at_60 (by decide) (by decide) rfl (fun q => absurd q (by decide)) (fun _ => ?_)
      refine r_iloadN C 64 at_63 rfl rfl ?_
      refine r_iconst C 65 (2 : Int32) at_64 rfl rfl ?_
      refine r_icmp_eq C 73 68 at_65 (by decide) (by decide) rfl (fun _ => ?_) (fun q => absurd q (by decide))
      refine r_iconst C 74 (1 : Int32) at_73 rfl rfl ?_
      refine r_goto C 78 at_74 (by decide) (by decide) ?_
      refine r_istore C 80 #[.val (.int p0), .val (.int p1), .val (.int p2), .val (.int (2 : Int32)), .val (.ref a_PROVED), .val (.int (p1 &&& (3 : Int32))), .val (.int e), .val (.int (0 : Int32)), .val (.int (1 : Int32)), .unset, .unset] at_78 rfl rfl ?_
      refine r_iload C 82 at_80 rfl rfl ?_
      refine r_if_eq C 95 85 at_82 (by decide) (by decide) rfl ?_ ?_
      · intro c18
        subst c18
        refine r_iconst C 96 (0 : Int32) at_95 rfl rfl ?_
        refine r_istore C 98 #[.val (.int p0), .val (.int p1), .val (.int p2), .val (.int (2 : Int32)), .val (.ref a_PROVED), .val (.int (p1 &&& (3 : Int32))), .val (.int (0 : Int32)), .val (.int (0 : Int32)), .val (.int (1 : Int32)), .val (.int (0 : Int32)), .unset] at_96 rfl rfl ?_
        refine r_iload C 100 at_98 rfl rfl ?_
        refine r_if_eq C 108 103 at_100 (by decide) (by decide) rfl (fun _ => ?_) (fun q => absurd q (by decide))
        refine r_iload C 110 at_108 rfl rfl ?_
        refine r_if_eq C 119 113 at_110 (by decide) (by decide) rfl (fun q => absurd q (by decide)) (fun _ => ?_)
        refine r_iload C 115 at_113 rfl rfl ?_
        refine r_iconst C 116 (1 : Int32) at_115 rfl rfl ?_
        refine r_icmp_eq C 128 119 at_116 (by decide) (by decide) rfl (fun q => absurd q (by decide)) (fun _ => ?_)
        refine r_iloadN C 120 at_119 rfl rfl ?_
        refine r_if_ne C 132 123 at_120 (by decide) (by decide) rfl (fun _ => ?_) (fun q => absurd q (by decide))
        refine r_iconst C 133 (0 : Int32) at_132 rfl rfl ?_
        refine r_istore C 135 #[.val (.int p0), .val (.int p1), .val (.int p2), .val (.int (2 : Int32)), .val (.ref a_PROVED), .val (.int (p1 &&& (3 : Int32))), .val (.int (0 : Int32)), .val (.int (0 : Int32)), .val (.int (1 : Int32)), .val (.int (0 : Int32)), .val (.int (0 : Int32))] at_133 rfl rfl ?_
        refine r_aload C 137 at_135 rfl rfl rfl ?_
        refine r_iload C 139 at_137 rfl rfl ?_
        refine r_callV C 142 (y := (⟨"com/example/bicameral/bicameral/analysis/Verdict", "fails", "(I)Z"⟩ : MethodName)) (z := (⟨"com/example/bicameral/bicameral/analysis/Verdict", "fails", "(I)Z"⟩ : MethodName)) (D := "com/example/bicameral/bicameral/analysis/Verdict") (a := a_PROVED) [(.int (0 : Int32))] [] (rmF2 l Z a0 hw a_PROVED (0 : Int32) h0 n0 Zs E_a_PROVED F_ordinal_a_PROVED) (hw _ (List.mem_of_getElem? (i := 7) rfl)) (hw _ (List.mem_of_getElem? (i := 8) rfl)) (fun s hZ' => notFace_of_selects (args := #[]) (mvT hZ' (hw _ (List.mem_of_getElem? (i := 10) rfl)))) (hw _ (List.mem_of_getElem? (i := 10) rfl)) (hw _ (List.mem_of_getElem? (i := 9) rfl)) (hw _ (List.mem_of_getElem? (i := 5) rfl)) (hw _ (List.mem_of_getElem? (i := 11) rfl)) E_a_PROVED (by decide) (lenOf pd__I_Z rfl) rfl rfl (by decide) (by decide) (by decide) (by decide) rfl at_139 rfl ?_
        intro v19 h19 q19 z19
        obtain ⟨rfl, rfl⟩ := q19
        show Run _ _ _ _ _ _ _ _ 142 #[.val (.int p0), .val (.int p1), .val (.int p2), .val (.int (2 : Int32)), .val (.ref a_PROVED), .val (.int (p1 &&& (3 : Int32))), .val (.int (0 : Int32)), .val (.int (0 : Int32)), .val (.int (1 : Int32)), .val (.int (0 : Int32)), .val (.int (0 : Int32))] [(.int (failsv 2 (0 : Int32)))]
        rw [show failsv 2 (0 : Int32) = (0 : Int32) from by simp [failsv]]
        refine r_iload C 144 at_142 rfl rfl ?_
        refine r_icmp_ne C 151 147 at_144 (by decide) (by decide) rfl (fun q => absurd q (by decide)) (fun _ => ?_)
        refine r_iconst C 148 (1 : Int32) at_147 rfl rfl ?_
        refine r_goto C 152 at_148 (by decide) (by decide) ?_
        exact r_nreturn C (1 : Int32) rfl (t := .boolean) (by simp) rfl at_152 (by decide) (by decide) rfl
      · intro c18
        refine r_iload C 87 at_85 rfl rfl ?_
        refine r_iconst C 88 (1 : Int32) at_87 rfl rfl ?_
        refine r_icmp_eq C 95 91 at_88 (by decide) (by decide) rfl ?_ ?_
        · intro c20
          subst c20
          refine r_iconst C 96 (0 : Int32) at_95 rfl rfl ?_
          refine r_istore C 98 #[.val (.int p0), .val (.int p1), .val (.int p2), .val (.int (2 : Int32)), .val (.ref a_PROVED), .val (.int (p1 &&& (3 : Int32))), .val (.int (1 : Int32)), .val (.int (0 : Int32)), .val (.int (1 : Int32)), .val (.int (0 : Int32)), .unset] at_96 rfl rfl ?_
          refine r_iload C 100 at_98 rfl rfl ?_
          refine r_if_eq C 108 103 at_100 (by decide) (by decide) rfl (fun _ => ?_) (fun q => absurd q (by decide))
          refine r_iload C 110 at_108 rfl rfl ?_
          refine r_if_eq C 119 113 at_110 (by decide) (by decide) rfl (fun q => absurd q (by decide)) (fun _ => ?_)
          refine r_iload C 115 at_113 rfl rfl ?_
          refine r_iconst C 116 (1 : Int32) at_115 rfl rfl ?_
          refine r_icmp_eq C 128 119 at_116 (by decide) (by decide) rfl (fun _ => ?_) (fun q => absurd q (by decide))
          refine r_iconst C 129 (1 : Int32) at_128 rfl rfl ?_
          refine r_goto C 133 at_129 (by decide) (by decide) ?_
          refine r_istore C 135 #[.val (.int p0), .val (.int p1), .val (.int p2), .val (.int (2 : Int32)), .val (.ref a_PROVED), .val (.int (p1 &&& (3 : Int32))), .val (.int (1 : Int32)), .val (.int (0 : Int32)), .val (.int (1 : Int32)), .val (.int (0 : Int32)), .val (.int (1 : Int32))] at_133 rfl rfl ?_
          refine r_aload C 137 at_135 rfl rfl rfl ?_
          refine r_iload C 139 at_137 rfl rfl ?_
          refine r_callV C 142 (y := (⟨"com/example/bicameral/bicameral/analysis/Verdict", "fails", "(I)Z"⟩ : MethodName)) (z := (⟨"com/example/bicameral/bicameral/analysis/Verdict", "fails", "(I)Z"⟩ : MethodName)) (D := "com/example/bicameral/bicameral/analysis/Verdict") (a := a_PROVED) [(.int (1 : Int32))] [] (rmF2 l Z a0 hw a_PROVED (1 : Int32) h0 n0 Zs E_a_PROVED F_ordinal_a_PROVED) (hw _ (List.mem_of_getElem? (i := 7) rfl)) (hw _ (List.mem_of_getElem? (i := 8) rfl)) (fun s hZ' => notFace_of_selects (args := #[]) (mvT hZ' (hw _ (List.mem_of_getElem? (i := 10) rfl)))) (hw _ (List.mem_of_getElem? (i := 10) rfl)) (hw _ (List.mem_of_getElem? (i := 9) rfl)) (hw _ (List.mem_of_getElem? (i := 5) rfl)) (hw _ (List.mem_of_getElem? (i := 11) rfl)) E_a_PROVED (by decide) (lenOf pd__I_Z rfl) rfl rfl (by decide) (by decide) (by decide) (by decide) rfl at_139 rfl ?_
          intro v21 h21 q21 z21
          obtain ⟨rfl, rfl⟩ := q21
          show Run _ _ _ _ _ _ _ _ 142 #[.val (.int p0), .val (.int p1), .val (.int p2), .val (.int (2 : Int32)), .val (.ref a_PROVED), .val (.int (p1 &&& (3 : Int32))), .val (.int (1 : Int32)), .val (.int (0 : Int32)), .val (.int (1 : Int32)), .val (.int (0 : Int32)), .val (.int (1 : Int32))] [(.int (failsv 2 (1 : Int32)))]
          rw [show failsv 2 (1 : Int32) = (1 : Int32) from by simp [failsv, c18]]
          refine r_iload C 144 at_142 rfl rfl ?_
          refine r_icmp_ne C 151 147 at_144 (by decide) (by decide) rfl (fun q => absurd q (by decide)) (fun _ => ?_)
          refine r_iconst C 148 (1 : Int32) at_147 rfl rfl ?_
          refine r_goto C 152 at_148 (by decide) (by decide) ?_
          exact r_nreturn C (1 : Int32) rfl (t := .boolean) (by simp) rfl at_152 (by decide) (by decide) rfl
        · intro c20
          refine r_iconst C 92 (1 : Int32) at_91 rfl rfl ?_
          refine r_goto C 96 at_92 (by decide) (by decide) ?_
          refine r_istore C 98 #[.val (.int p0), .val (.int p1), .val (.int p2), .val (.int (2 : Int32)), .val (.ref a_PROVED), .val (.int (p1 &&& (3 : Int32))), .val (.int e), .val (.int (0 : Int32)), .val (.int (1 : Int32)), .val (.int (1 : Int32)), .unset] at_96 rfl rfl ?_
          refine r_iload C 100 at_98 rfl rfl ?_
          refine r_if_eq C 108 103 at_100 (by decide) (by decide) rfl (fun _ => ?_) (fun q => absurd q (by decide))
          refine r_iload C 110 at_108 rfl rfl ?_
          refine r_if_eq C 119 113 at_110 (by decide) (by decide) rfl (fun q => absurd q (by decide)) (fun _ => ?_)
          refine r_iload C 115 at_113 rfl rfl ?_
          refine r_iconst C 116 (1 : Int32) at_115 rfl rfl ?_
          refine r_icmp_eq C 128 119 at_116 (by decide) (by decide) rfl (fun q => absurd q c20) (fun _ => ?_)
          refine r_iloadN C 120 at_119 rfl rfl ?_
          refine r_if_ne C 132 123 at_120 (by decide) (by decide) rfl (fun _ => ?_) (fun q => absurd q (by decide))
          refine r_iconst C 133 (0 : Int32) at_132 rfl rfl ?_
          refine r_istore C 135 #[.val (.int p0), .val (.int p1), .val (.int p2), .val (.int (2 : Int32)), .val (.ref a_PROVED), .val (.int (p1 &&& (3 : Int32))), .val (.int e), .val (.int (0 : Int32)), .val (.int (1 : Int32)), .val (.int (1 : Int32)), .val (.int (0 : Int32))] at_133 rfl rfl ?_
          refine r_aload C 137 at_135 rfl rfl rfl ?_
          refine r_iload C 139 at_137 rfl rfl ?_
          refine r_callV C 142 (y := (⟨"com/example/bicameral/bicameral/analysis/Verdict", "fails", "(I)Z"⟩ : MethodName)) (z := (⟨"com/example/bicameral/bicameral/analysis/Verdict", "fails", "(I)Z"⟩ : MethodName)) (D := "com/example/bicameral/bicameral/analysis/Verdict") (a := a_PROVED) [(.int e)] [] (rmF2 l Z a0 hw a_PROVED e h0 n0 Zs E_a_PROVED F_ordinal_a_PROVED) (hw _ (List.mem_of_getElem? (i := 7) rfl)) (hw _ (List.mem_of_getElem? (i := 8) rfl)) (fun s hZ' => notFace_of_selects (args := #[]) (mvT hZ' (hw _ (List.mem_of_getElem? (i := 10) rfl)))) (hw _ (List.mem_of_getElem? (i := 10) rfl)) (hw _ (List.mem_of_getElem? (i := 9) rfl)) (hw _ (List.mem_of_getElem? (i := 5) rfl)) (hw _ (List.mem_of_getElem? (i := 11) rfl)) E_a_PROVED (by decide) (lenOf pd__I_Z rfl) rfl rfl (by decide) (by decide) (by decide) (by decide) rfl at_139 rfl ?_
          intro v22 h22 q22 z22
          obtain ⟨rfl, rfl⟩ := q22
          show Run _ _ _ _ _ _ _ _ 142 #[.val (.int p0), .val (.int p1), .val (.int p2), .val (.int (2 : Int32)), .val (.ref a_PROVED), .val (.int (p1 &&& (3 : Int32))), .val (.int e), .val (.int (0 : Int32)), .val (.int (1 : Int32)), .val (.int (1 : Int32)), .val (.int (0 : Int32))] [(.int (failsv 2 e))]
          rw [show failsv 2 e = (0 : Int32) from by simp [failsv, c18, c20]]
          refine r_iload C 144 at_142 rfl rfl ?_
          refine r_icmp_ne C 151 147 at_144 (by decide) (by decide) rfl (fun q => absurd q (by decide)) (fun _ => ?_)
          refine r_iconst C 148 (1 : Int32) at_147 rfl rfl ?_
          refine r_goto C 152 at_148 (by decide) (by decide) ?_
          exact r_nreturn C (1 : Int32) rfl (t := .boolean) (by simp) rfl at_152 (by decide) (by decide) rfl
    refine r_iload C 18 at_16 rfl rfl ?_
    refine r_if_ne C 27 21 at_18 (by decide) (by decide) rfl ?_ ?_
    · intro c1
      refine r_iload C 29 at_27 rfl rfl ?_
      refine r_iconst C 30 (1 : Int32) at_29 rfl rfl ?_
      refine r_icmp_ne C 39 33 at_30 (by decide) (by decide) rfl ?_ ?_
      · intro c2
        refine r_iloadN C 40 at_39 rfl rfl ?_
        refine r_istore C 42 #[.val (.int p0), .val (.int p1), .val (.int p2), .val (.int (2 : Int32)), .val (.ref a_PROVED), .val (.int (p1 &&& (3 : Int32))), .val (.int p2), .unset, .unset, .unset, .unset] at_40 rfl rfl ?_
        exact J _
      · intro c2
        refine r_iconst C 34 (1 : Int32) at_33 rfl rfl ?_
        refine r_istore C 36 #[.val (.int p0), .val (.int p1), .val (.int p2), .val (.int (2 : Int32)), .val (.ref a_PROVED), .val (.int (p1 &&& (3 : Int32))), .val (.int (1 : Int32)), .unset, .unset, .unset, .unset] at_34 rfl rfl ?_
        refine r_goto C 42 at_36 (by decide) (by decide) ?_
        exact J _
    · intro c1
      refine r_iconst C 22 (0 : Int32) at_21 rfl rfl ?_
      refine r_istore C 24 #[.val (.int p0), .val (.int p1), .val (.int p2), .val (.int (2 : Int32)), .val (.ref a_PROVED), .val (.int (p1 &&& (3 : Int32))), .val (.int (0 : Int32)), .unset, .unset, .unset, .unset] at_22 rfl rfl ?_
      refine r_goto C 42 at_24 (by decide) (by decide) ?_
      exact J _
  · refine r_istoreN C 5 #[.val (.int p0), .val (.int p1), .val (.int p2), .val (.int (3 : Int32)), .unset, .unset, .unset, .unset, .unset, .unset, .unset] at_4 rfl rfl ?_
    refine r_iloadN C 6 at_5 rfl rfl ?_
    refine r_callS C 9 (y := (⟨"com/example/bicameral/bicameral/analysis/VerdictFailsPinLaw", "pickVerdict", "(I)Lcom/example/bicameral/bicameral/analysis/Verdict;"⟩ : MethodName)) (a := 0) [(.int (3 : Int32))] [] (rmP3 l Z a0 hw a_INSTANCE h0 n0 Zs S_INSTANCE) (hw _ (List.mem_of_getElem? (i := 0) rfl)) (hw _ (List.mem_of_getElem? (i := 1) rfl)) (hw _ (List.mem_of_getElem? (i := 2) rfl)) (hw _ (List.mem_of_getElem? (i := 3) rfl)) (by decide) (lenOf pd__I_Lcom_example_bicameral_bicameral_analysis_Verdict_ rfl) rfl rfl (by decide) (by decide) (by decide) (by decide) rfl at_6 rfl ?_
    intro v25 h25 q25 z25
    obtain ⟨rfl, rfl⟩ := q25
    show Run _ _ _ _ _ _ _ _ 9 #[.val (.int p0), .val (.int p1), .val (.int p2), .val (.int (3 : Int32)), .unset, .unset, .unset, .unset, .unset, .unset, .unset] [(.ref a_INSTANCE)]
    refine r_astore C 11 #[.val (.int p0), .val (.int p1), .val (.int p2), .val (.int (3 : Int32)), .val (.ref a_INSTANCE), .unset, .unset, .unset, .unset, .unset, .unset] at_9 rfl rfl rfl ?_
    refine r_iloadN C 12 at_11 rfl rfl ?_
    refine r_iconst C 13 (3 : Int32) at_12 rfl rfl ?_
    refine r_iand C 14 at_13 rfl ?_
    refine r_istore C 16 #[.val (.int p0), .val (.int p1), .val (.int p2), .val (.int (3 : Int32)), .val (.ref a_INSTANCE), .val (.int (p1 &&& (3 : Int32))), .unset, .unset, .unset, .unset, .unset] at_14 rfl rfl ?_
    have J : ∀ e : Int32, Run l room_1 n0 (fun v _ => v = some (.int 1)) K h0 (0 + 0) (0 + 0) 42 #[.val (.int p0), .val (.int p1), .val (.int p2), .val (.int (3 : Int32)), .val (.ref a_INSTANCE), .val (.int (p1 &&& (3 : Int32))), .val (.int e), .unset, .unset, .unset, .unset] [] := by
      intro e
      refine r_iloadN C 43 at_42 rfl rfl ?_
      refine r_if_eq C 51 46 at_43 (by decide) (by decide) rfl (fun q => absurd q (by decide)) (fun _ => ?_)
      refine r_iloadN C 47 at_46 rfl rfl ?_
      refine r_iconst C 48 (3 : Int32) at_47 rfl rfl ?_
      refine r_icmp_ne C 55 51 at_48 (by decide) (by decide) rfl (fun q => absurd q (by decide)) (fun _ => ?_)
      refine r_iconst C 52 (1 : Int32) at_51 rfl rfl ?_
      refine r_goto C 56 at_52 (by decide) (by decide) ?_
      refine r_istore C 58 #[.val (.int p0), .val (.int p1), .val (.int p2), .val (.int (3 : Int32)), .val (.ref a_INSTANCE), .val (.int (p1 &&& (3 : Int32))), .val (.int e), .val (.int (1 : Int32)), .unset, .unset, .unset] at_56 rfl rfl ?_
      refine r_iloadN C 59 at_58 rfl rfl ?_
      refine r_iconst C 60 (1 : Int32) at_59 rfl rfl ?_
      refine r_icmp_eq C 73 63 at_60 (by decide) (by decide) rfl (fun q => absurd q (by decide)) (fun _ => ?_)
      refine r_iloadN C 64 at_63 rfl rfl ?_
      refine r_iconst C 65 (2 : Int32) at_64 rfl rfl ?_
      refine r_icmp_eq C 73 68 at_65 (by decide) (by decide) rfl (fun q => absurd q (by decide)) (fun _ => ?_)
      refine r_iloadN C 69 at_68 rfl rfl ?_
      refine r_iconst C 70 (4 : Int32) at_69 rfl rfl ?_
      refine r_icmp_ne C 77 73 at_70 (by decide) (by decide) rfl (fun _ => ?_) (fun q => absurd q (by decide))
      refine r_iconst C 78 (0 : Int32) at_77 rfl rfl ?_
      refine r_istore C 80 #[.val (.int p0), .val (.int p1), .val (.int p2), .val (.int (3 : Int32)), .val (.ref a_INSTANCE), .val (.int (p1 &&& (3 : Int32))), .val (.int e), .val (.int (1 : Int32)), .val (.int (0 : Int32)), .unset, .unset] at_78 rfl rfl ?_
      refine r_iload C 82 at_80 rfl rfl ?_
      refine r_if_eq C 95 85 at_82 (by decide) (by decide) rfl ?_ ?_
      · intro c26
        subst c26
        refine r_iconst C 96 (0 : Int32) at_95 rfl rfl ?_
        refine r_istore C 98 #[.val (.int p0), .val (.int p1), .val (.int p2), .val (.int (3 : Int32)), .val (.ref a_INSTANCE), .val (.int (p1 &&& (3 : Int32))), .val (.int (0 : Int32)), .val (.int (1 : Int32)), .val (.int (0 : Int32)), .val (.int (0 : Int32)), .unset] at_96 rfl rfl ?_
        refine r_iload C 100 at_98 rfl rfl ?_
        refine r_if_eq C 108 103 at_100 (by decide) (by decide) rfl (fun q => absurd q (by decide)) (fun _ => ?_)
        refine r_iload C 105 at_103 rfl rfl ?_
        refine r_if_eq C 128 108 at_105 (by decide) (by decide) rfl (fun _ => ?_) (fun q => absurd q (by decide))
        refine r_iconst C 129 (1 : Int32) at_128 rfl rfl ?_
        refine r_goto C 133 at_129 (by decide) (by decide) ?_
        refine r_istore C 135 #[.val (.int p0), .val (.int p1), .val (.int p2), .val (.int (3 : Int32)), .val (.ref a_INSTANCE), .val (.int (p1 &&& (3 : Int32))), .val (.int (0 : Int32)), .val (.int (1 : Int32)), .val (.int (0 : Int32)), .val (.int (0 : Int32)), .val (.int (1 : Int32))] at_133 rfl rfl ?_
        refine r_aload C 137 at_135 rfl rfl rfl ?_
        refine r_iload C 139 at_137 rfl rfl ?_
        refine r_callV C 142 (y := (⟨"com/example/bicameral/bicameral/analysis/Verdict", "fails", "(I)Z"⟩ : MethodName)) (z := (⟨"com/example/bicameral/bicameral/analysis/Verdict", "fails", "(I)Z"⟩ : MethodName)) (D := "com/example/bicameral/bicameral/analysis/Verdict") (a := a_INSTANCE) [(.int (0 : Int32))] [] (rmF3 l Z a0 hw a_INSTANCE (0 : Int32) h0 n0 Zs E_a_INSTANCE F_ordinal_a_INSTANCE) (hw _ (List.mem_of_getElem? (i := 7) rfl)) (hw _ (List.mem_of_getElem? (i := 8) rfl)) (fun s hZ' => notFace_of_selects (args := #[]) (mvT hZ' (hw _ (List.mem_of_getElem? (i := 10) rfl)))) (hw _ (List.mem_of_getElem? (i := 10) rfl)) (hw _ (List.mem_of_getElem? (i := 9) rfl)) (hw _ (List.mem_of_getElem? (i := 5) rfl)) (hw _ (List.mem_of_getElem? (i := 11) rfl)) E_a_INSTANCE (by decide) (lenOf pd__I_Z rfl) rfl rfl (by decide) (by decide) (by decide) (by decide) rfl at_139 rfl ?_
        intro v27 h27 q27 z27
        obtain ⟨rfl, rfl⟩ := q27
        show Run _ _ _ _ _ _ _ _ 142 #[.val (.int p0), .val (.int p1), .val (.int p2), .val (.int (3 : Int32)), .val (.ref a_INSTANCE), .val (.int (p1 &&& (3 : Int32))), .val (.int (0 : Int32)), .val (.int (1 : Int32)), .val (.int (0 : Int32)), .val (.int (0 : Int32)), .val (.int (1 : Int32))] [(.int (failsv 3 (0 : Int32)))]
        rw [show failsv 3 (0 : Int32) = (1 : Int32) from by simp [failsv]]
        refine r_iload C 144 at_142 rfl rfl ?_
        refine r_icmp_ne C 151 147 at_144 (by decide) (by decide) rfl (fun q => absurd q (by decide)) (fun _ => ?_)
        refine r_iconst C 148 (1 : Int32) at_147 rfl rfl ?_
        refine r_goto C 152 at_148 (by decide) (by decide) ?_
        exact r_nreturn C (1 : Int32) rfl (t := .boolean) (by simp) rfl at_152 (by decide) (by decide) rfl
      · intro c26
        refine r_iload C 87 at_85 rfl rfl ?_
        refine r_iconst C 88 (1 : Int32) at_87 rfl rfl ?_
        refine r_icmp_eq C 95 91 at_88 (by decide) (by decide) rfl ?_ ?_
        · intro c28
          subst c28
          refine r_iconst C 96 (0 : Int32) at_95 rfl rfl ?_
          refine r_istore C 98 #[.val (.int p0), .val (.int p1), .val (.int p2), .val (.int (3 : Int32)), .val (.ref a_INSTANCE), .val (.int (p1 &&& (3 : Int32))), .val (.int (1 : Int32)), .val (.int (1 : Int32)), .val (.int (0 : Int32)), .val (.int (0 : Int32)), .unset] at_96 rfl rfl ?_
          refine r_iload C 100 at_98 rfl rfl ?_
          refine r_if_eq C 108 103 at_100 (by decide) (by decide) rfl (fun q => absurd q (by decide)) (fun _ => ?_)
          refine r_iload C 105 at_103 rfl rfl ?_
          refine r_if_eq C 128 108 at_105 (by decide) (by decide) rfl (fun q => absurd q (by decide)) (fun _ => ?_)
          refine r_iload C 110 at_108 rfl rfl ?_
          refine r_if_eq C 119 113 at_110 (by decide) (by decide) rfl (fun _ => ?_) (fun q => absurd q (by decide))
          refine r_iloadN C 120 at_119 rfl rfl ?_
          refine r_if_ne C 132 123 at_120 (by decide) (by decide) rfl (fun _ => ?_) (fun q => absurd q (by decide))
          refine r_iconst C 133 (0 : Int32) at_132 rfl rfl ?_
          refine r_istore C 135 #[.val (.int p0), .val (.int p1), .val (.int p2), .val (.int (3 : Int32)), .val (.ref a_INSTANCE), .val (.int (p1 &&& (3 : Int32))), .val (.int (1 : Int32)), .val (.int (1 : Int32)), .val (.int (0 : Int32)), .val (.int (0 : Int32)), .val (.int (0 : Int32))] at_133 rfl rfl ?_
          refine r_aload C 137 at_135 rfl rfl rfl ?_
          refine r_iload C 139 at_137 rfl rfl ?_
          refine r_callV C 142 (y := (⟨"com/example/bicameral/bicameral/analysis/Verdict", "fails", "(I)Z"⟩ : MethodName)) (z := (⟨"com/example/bicameral/bicameral/analysis/Verdict", "fails", "(I)Z"⟩ : MethodName)) (D := "com/example/bicameral/bicameral/analysis/Verdict") (a := a_INSTANCE) [(.int (1 : Int32))] [] (rmF3 l Z a0 hw a_INSTANCE (1 : Int32) h0 n0 Zs E_a_INSTANCE F_ordinal_a_INSTANCE) (hw _ (List.mem_of_getElem? (i := 7) rfl)) (hw _ (List.mem_of_getElem? (i := 8) rfl)) (fun s hZ' => notFace_of_selects (args := #[]) (mvT hZ' (hw _ (List.mem_of_getElem? (i := 10) rfl)))) (hw _ (List.mem_of_getElem? (i := 10) rfl)) (hw _ (List.mem_of_getElem? (i := 9) rfl)) (hw _ (List.mem_of_getElem? (i := 5) rfl)) (hw _ (List.mem_of_getElem? (i := 11) rfl)) E_a_INSTANCE (by decide) (lenOf pd__I_Z rfl) rfl rfl (by decide) (by decide) (by decide) (by decide) rfl at_139 rfl ?_
          intro v29 h29 q29 z29
          obtain ⟨rfl, rfl⟩ := q29
          show Run _ _ _ _ _ _ _ _ 142 #[.val (.int p0), .val (.int p1), .val (.int p2), .val (.int (3 : Int32)), .val (.ref a_INSTANCE), .val (.int (p1 &&& (3 : Int32))), .val (.int (1 : Int32)), .val (.int (1 : Int32)), .val (.int (0 : Int32)), .val (.int (0 : Int32)), .val (.int (0 : Int32))] [(.int (failsv 3 (1 : Int32)))]
          rw [show failsv 3 (1 : Int32) = (0 : Int32) from by simp [failsv, c26]]
          refine r_iload C 144 at_142 rfl rfl ?_
          refine r_icmp_ne C 151 147 at_144 (by decide) (by decide) rfl (fun q => absurd q (by decide)) (fun _ => ?_)
          refine r_iconst C 148 (1 : Int32) at_147 rfl rfl ?_
          refine r_goto C 152 at_148 (by decide) (by decide) ?_
          exact r_nreturn C (1 : Int32) rfl (t := .boolean) (by simp) rfl at_152 (by decide) (by decide) rfl
        · intro c28
          refine r_iconst C 92 (1 : Int32) at_91 rfl rfl ?_
          refine r_goto C 96 at_92 (by decide) (by decide) ?_
          refine r_istore C 98 #[.val (.int p0), .val (.int p1), .val (.int p2), .val (.int (3 : Int32)), .val (.ref a_INSTANCE), .val (.int (p1 &&& (3 : Int32))), .val (.int e), .val (.int (1 : Int32)), .val (.int (0 : Int32)), .val (.int (1 : Int32)), .unset] at_96 rfl rfl ?_
          refine r_iload C 100 at_98 rfl rfl ?_
          refine r_if_eq C 108 103 at_100 (by decide) (by decide) rfl (fun q => absurd q (by decide)) (fun _ => ?_)
          refine r_iload C 105 at_103 rfl rfl ?_
          refine r_if_eq C 128 108 at_105 (by decide) (by decide) rfl (fun q => absurd q c26) (fun _ => ?_)
          refine r_iload C 110 at_108 rfl rfl ?_
          refine r_if_eq C 119 113 at_110 (by decide) (by decide) rfl (fun _ => ?_) (fun q => absurd q (by decide))
          refine r_iloadN C 120 at_119 rfl rfl ?_
          refine r_if_ne C 132 123 at_120 (by decide) (by decide) rfl (fun _ => ?_) (fun q => absurd q (by decide))
          refine r_iconst C 133 (0 : Int32) at_132 rfl rfl ?_
          refine r_istore C 135 #[.val (.int p0), .val (.int p1), .val (.int p2), .val (.int (3 : Int32)), .val (.ref a_INSTANCE), .val (.int (p1 &&& (3 : Int32))), .val (.int e), .val (.int (1 : Int32)), .val (.int (0 : Int32)), .val (.int (1 : Int32)), .val (.int (0 : Int32))] at_133 rfl rfl ?_
          refine r_aload C 137 at_135 rfl rfl rfl ?_
          refine r_iload C 139 at_137 rfl rfl ?_
          refine r_callV C 142 (y := (⟨"com/example/bicameral/bicameral/analysis/Verdict", "fails", "(I)Z"⟩ : MethodName)) (z := (⟨"com/example/bicameral/bicameral/analysis/Verdict", "fails", "(I)Z"⟩ : MethodName)) (D := "com/example/bicameral/bicameral/analysis/Verdict") (a := a_INSTANCE) [(.int e)] [] (rmF3 l Z a0 hw a_INSTANCE e h0 n0 Zs E_a_INSTANCE F_ordinal_a_INSTANCE) (hw _ (List.mem_of_getElem? (i := 7) rfl)) (hw _ (List.mem_of_getElem? (i := 8) rfl)) (fun s hZ' => notFace_of_selects (args := #[]) (mvT hZ' (hw _ (List.mem_of_getElem? (i := 10) rfl)))) (hw _ (List.mem_of_getElem? (i := 10) rfl)) (hw _ (List.mem_of_getElem? (i := 9) rfl)) (hw _ (List.mem_of_getElem? (i := 5) rfl)) (hw _ (List.mem_of_getElem? (i := 11) rfl)) E_a_INSTANCE (by decide) (lenOf pd__I_Z rfl) rfl rfl (by decide) (by decide) (by decide) (by decide) rfl at_139 rfl ?_
          intro v30 h30 q30 z30
          obtain ⟨rfl, rfl⟩ := q30
          show Run _ _ _ _ _ _ _ _ 142 #[.val (.int p0), .val (.int p1), .val (.int p2), .val (.int (3 : Int32)), .val (.ref a_INSTANCE), .val (.int (p1 &&& (3 : Int32))), .val (.int e), .val (.int (1 : Int32)), .val (.int (0 : Int32)), .val (.int (1 : Int32)), .val (.int (0 : Int32))] [(.int (failsv 3 e))]
          rw [show failsv 3 e = (0 : Int32) from by simp [failsv, c26, c28]]
          refine r_iload C 144 at_142 rfl rfl ?_
          refine r_icmp_ne C 151 147 at_144 (by decide) (by decide) rfl (fun q => absurd q (by decide)) (fun _ => ?_)
          refine r_iconst C 148 (1 : Int32) at_147 rfl rfl ?_
          refine r_goto C 152 at_148 (by decide) (by decide) ?_
          exact r_nreturn C (1 : Int32) rfl (t := .boolean) (by simp) rfl at_152 (by decide) (by decide) rfl
    refine r_iload C 18 at_16 rfl rfl ?_
    refine r_if_ne C 27 21 at_18 (by decide) (by decide) rfl ?_ ?_
    · intro c1
      refine r_iload C 29 at_27 rfl rfl ?_
      refine r_iconst C 30 (1 : Int32) at_29 rfl rfl ?_
      refine r_icmp_ne C 39 33 at_30 (by decide) (by decide) rfl ?_ ?_
      · intro c2
        refine r_iloadN C 40 at_39 rfl rfl ?_
        refine r_istore C 42 #[.val (.int p0), .val (.int p1), .val (.int p2), .val (.int (3 : Int32)), .val (.ref a_INSTANCE), .val (.int (p1 &&& (3 : Int32))), .val (.int p2), .unset, .unset, .unset, .unset] at_40 rfl rfl ?_
        exact J _
      · intro c2
        refine r_iconst C 34 (1 : Int32) at_33 rfl rfl ?_
        refine r_istore C 36 #[.val (.int p0), .val (.int p1), .val (.int p2), .val (.int (3 : Int32)), .val (.ref a_INSTANCE), .val (.int (p1 &&& (3 : Int32))), .val (.int (1 : Int32)), .unset, .unset, .unset, .unset] at_34 rfl rfl ?_
        refine r_goto C 42 at_36 (by decide) (by decide) ?_
        exact J _
    · intro c1
      refine r_iconst C 22 (0 : Int32) at_21 rfl rfl ?_
      refine r_istore C 24 #[.val (.int p0), .val (.int p1), .val (.int p2), .val (.int (3 : Int32)), .val (.ref a_INSTANCE), .val (.int (p1 &&& (3 : Int32))), .val (.int (0 : Int32)), .unset, .unset, .unset, .unset] at_22 rfl rfl ?_
      refine r_goto C 42 at_24 (by decide) (by decide) ?_
      exact J _
  · refine r_istoreN C 5 #[.val (.int p0), .val (.int p1), .val (.int p2), .val (.int (4 : Int32)), .unset, .unset, .unset, .unset, .unset, .unset, .unset] at_4 rfl rfl ?_
    refine r_iloadN C 6 at_5 rfl rfl ?_
    refine r_callS C 9 (y := (⟨"com/example/bicameral/bicameral/analysis/VerdictFailsPinLaw", "pickVerdict", "(I)Lcom/example/bicameral/bicameral/analysis/Verdict;"⟩ : MethodName)) (a := 0) [(.int (4 : Int32))] [] (rmP4 l Z a0 hw a_NO_INSTANCE h0 n0 Zs S_NO_INSTANCE) (hw _ (List.mem_of_getElem? (i := 0) rfl)) (hw _ (List.mem_of_getElem? (i := 1) rfl)) (hw _ (List.mem_of_getElem? (i := 2) rfl)) (hw _ (List.mem_of_getElem? (i := 3) rfl)) (by decide) (lenOf pd__I_Lcom_example_bicameral_bicameral_analysis_Verdict_ rfl) rfl rfl (by decide) (by decide) (by decide) (by decide) rfl at_6 rfl ?_
    intro v33 h33 q33 z33
    obtain ⟨rfl, rfl⟩ := q33
    show Run _ _ _ _ _ _ _ _ 9 #[.val (.int p0), .val (.int p1), .val (.int p2), .val (.int (4 : Int32)), .unset, .unset, .unset, .unset, .unset, .unset, .unset] [(.ref a_NO_INSTANCE)]
    refine r_astore C 11 #[.val (.int p0), .val (.int p1), .val (.int p2), .val (.int (4 : Int32)), .val (.ref a_NO_INSTANCE), .unset, .unset, .unset, .unset, .unset, .unset] at_9 rfl rfl rfl ?_
    refine r_iloadN C 12 at_11 rfl rfl ?_
    refine r_iconst C 13 (3 : Int32) at_12 rfl rfl ?_
    refine r_iand C 14 at_13 rfl ?_
    refine r_istore C 16 #[.val (.int p0), .val (.int p1), .val (.int p2), .val (.int (4 : Int32)), .val (.ref a_NO_INSTANCE), .val (.int (p1 &&& (3 : Int32))), .unset, .unset, .unset, .unset, .unset] at_14 rfl rfl ?_
    have J : ∀ e : Int32, Run l room_1 n0 (fun v _ => v = some (.int 1)) K h0 (0 + 0) (0 + 0) 42 #[.val (.int p0), .val (.int p1), .val (.int p2), .val (.int (4 : Int32)), .val (.ref a_NO_INSTANCE), .val (.int (p1 &&& (3 : Int32))), .val (.int e), .unset, .unset, .unset, .unset] [] := by
      intro e
      refine r_iloadN C 43 at_42 rfl rfl ?_
      refine r_if_eq C 51 46 at_43 (by decide) (by decide) rfl (fun q => absurd q (by decide)) (fun _ => ?_)
      refine r_iloadN C 47 at_46 rfl rfl ?_
      refine r_iconst C 48 (3 : Int32) at_47 rfl rfl ?_
      refine r_icmp_ne C 55 51 at_48 (by decide) (by decide) rfl (fun _ => ?_) (fun q => absurd q (by decide))
      refine r_iconst C 56 (0 : Int32) at_55 rfl rfl ?_
      refine r_istore C 58 #[.val (.int p0), .val (.int p1), .val (.int p2), .val (.int (4 : Int32)), .val (.ref a_NO_INSTANCE), .val (.int (p1 &&& (3 : Int32))), .val (.int e), .val (.int (0 : Int32)), .unset, .unset, .unset] at_56 rfl rfl ?_
      refine r_iloadN C 59 at_58 rfl rfl ?_
      refine r_iconst C 60 (1 : Int32) at_59 rfl rfl ?_
      refine r_icmp_eq C 73 63 at_60 (by decide) (by decide) rfl (fun q => absurd q (by decide)) (fun _ => ?_)
      refine r_iloadN C 64 at_63 rfl rfl ?_
      refine r_iconst C 65 (2 : Int32) at_64 rfl rfl ?_
      refine r_icmp_eq C 73 68 at_65 (by decide) (by decide) rfl (fun q => absurd q (by decide)) (fun _ => ?_)
      refine r_iloadN C 69 at_68 rfl rfl ?_
      refine r_iconst C 70 (4 : Int32) at_69 rfl rfl ?_
      refine r_icmp_ne C 77 73 at_70 (by decide) (by decide) rfl (fun q => absurd q (by decide)) (fun _ => ?_)
      refine r_iconst C 74 (1 : Int32) at_73 rfl rfl ?_
      refine r_goto C 78 at_74 (by decide) (by decide) ?_
      refine r_istore C 80 #[.val (.int p0), .val (.int p1), .val (.int p2), .val (.int (4 : Int32)), .val (.ref a_NO_INSTANCE), .val (.int (p1 &&& (3 : Int32))), .val (.int e), .val (.int (0 : Int32)), .val (.int (1 : Int32)), .unset, .unset] at_78 rfl rfl ?_
      refine r_iload C 82 at_80 rfl rfl ?_
      refine r_if_eq C 95 85 at_82 (by decide) (by decide) rfl ?_ ?_
      · intro c34
        subst c34
        refine r_iconst C 96 (0 : Int32) at_95 rfl rfl ?_
        refine r_istore C 98 #[.val (.int p0), .val (.int p1), .val (.int p2), .val (.int (4 : Int32)), .val (.ref a_NO_INSTANCE), .val (.int (p1 &&& (3 : Int32))), .val (.int (0 : Int32)), .val (.int (0 : Int32)), .val (.int (1 : Int32)), .val (.int (0 : Int32)), .unset] at_96 rfl rfl ?_
        refine r_iload C 100 at_98 rfl rfl ?_
        refine r_if_eq C 108 103 at_100 (by decide) (by decide) rfl (fun _ => ?_) (fun q => absurd q (by decide))
        refine r_iload C 110 at_108 rfl rfl ?_
        refine r_if_eq C 119 113 at_110 (by decide) (by decide) rfl (fun q => absurd q (by decide)) (fun _ => ?_)
        refine r_iload C 115 at_113 rfl rfl ?_
        refine r_iconst C 116 (1 : Int32) at_115 rfl rfl ?_
        refine r_icmp_eq C 128 119 at_116 (by decide) (by decide) rfl (fun q => absurd q (by decide)) (fun _ => ?_)
        refine r_iloadN C 120 at_119 rfl rfl ?_
        refine r_if_ne C 132 123 at_120 (by decide) (by decide) rfl (fun _ => ?_) (fun q => absurd q (by decide))
        refine r_iconst C 133 (0 : Int32) at_132 rfl rfl ?_
        refine r_istore C 135 #[.val (.int p0), .val (.int p1), .val (.int p2), .val (.int (4 : Int32)), .val (.ref a_NO_INSTANCE), .val (.int (p1 &&& (3 : Int32))), .val (.int (0 : Int32)), .val (.int (0 : Int32)), .val (.int (1 : Int32)), .val (.int (0 : Int32)), .val (.int (0 : Int32))] at_133 rfl rfl ?_
        refine r_aload C 137 at_135 rfl rfl rfl ?_
        refine r_iload C 139 at_137 rfl rfl ?_
        refine r_callV C 142 (y := (⟨"com/example/bicameral/bicameral/analysis/Verdict", "fails", "(I)Z"⟩ : MethodName)) (z := (⟨"com/example/bicameral/bicameral/analysis/Verdict", "fails", "(I)Z"⟩ : MethodName)) (D := "com/example/bicameral/bicameral/analysis/Verdict") (a := a_NO_INSTANCE) [(.int (0 : Int32))] [] (rmF4 l Z a0 hw a_NO_INSTANCE (0 : Int32) h0 n0 Zs E_a_NO_INSTANCE F_ordinal_a_NO_INSTANCE) (hw _ (List.mem_of_getElem? (i := 7) rfl)) (hw _ (List.mem_of_getElem? (i := 8) rfl)) (fun s hZ' => notFace_of_selects (args := #[]) (mvT hZ' (hw _ (List.mem_of_getElem? (i := 10) rfl)))) (hw _ (List.mem_of_getElem? (i := 10) rfl)) (hw _ (List.mem_of_getElem? (i := 9) rfl)) (hw _ (List.mem_of_getElem? (i := 5) rfl)) (hw _ (List.mem_of_getElem? (i := 11) rfl)) E_a_NO_INSTANCE (by decide) (lenOf pd__I_Z rfl) rfl rfl (by decide) (by decide) (by decide) (by decide) rfl at_139 rfl ?_
        intro v35 h35 q35 z35
        obtain ⟨rfl, rfl⟩ := q35
        show Run _ _ _ _ _ _ _ _ 142 #[.val (.int p0), .val (.int p1), .val (.int p2), .val (.int (4 : Int32)), .val (.ref a_NO_INSTANCE), .val (.int (p1 &&& (3 : Int32))), .val (.int (0 : Int32)), .val (.int (0 : Int32)), .val (.int (1 : Int32)), .val (.int (0 : Int32)), .val (.int (0 : Int32))] [(.int (failsv 4 (0 : Int32)))]
        rw [show failsv 4 (0 : Int32) = (0 : Int32) from by simp [failsv]]
        refine r_iload C 144 at_142 rfl rfl ?_
        refine r_icmp_ne C 151 147 at_144 (by decide) (by decide) rfl (fun q => absurd q (by decide)) (fun _ => ?_)
        refine r_iconst C 148 (1 : Int32) at_147 rfl rfl ?_
        refine r_goto C 152 at_148 (by decide) (by decide) ?_
        exact r_nreturn C (1 : Int32) rfl (t := .boolean) (by simp) rfl at_152 (by decide) (by decide) rfl
      · intro c34
        refine r_iload C 87 at_85 rfl rfl ?_
        refine r_iconst C 88 (1 : Int32) at_87 rfl rfl ?_
        refine r_icmp_eq C 95 91 at_88 (by decide) (by decide) rfl ?_ ?_
        · intro c36
          subst c36
          refine r_iconst C 96 (0 : Int32) at_95 rfl rfl ?_
          refine r_istore C 98 #[.val (.int p0), .val (.int p1), .val (.int p2), .val (.int (4 : Int32)), .val (.ref a_NO_INSTANCE), .val (.int (p1 &&& (3 : Int32))), .val (.int (1 : Int32)), .val (.int (0 : Int32)), .val (.int (1 : Int32)), .val (.int (0 : Int32)), .unset] at_96 rfl rfl ?_
          refine r_iload C 100 at_98 rfl rfl ?_
          refine r_if_eq C 108 103 at_100 (by decide) (by decide) rfl (fun _ => ?_) (fun q => absurd q (by decide))
          refine r_iload C 110 at_108 rfl rfl ?_
          refine r_if_eq C 119 113 at_110 (by decide) (by decide) rfl (fun q => absurd q (by decide)) (fun _ => ?_)
          refine r_iload C 115 at_113 rfl rfl ?_
          refine r_iconst C 116 (1 : Int32) at_115 rfl rfl ?_
          refine r_icmp_eq C 128 119 at_116 (by decide) (by decide) rfl (fun _ => ?_) (fun q => absurd q (by decide))
          refine r_iconst C 129 (1 : Int32) at_128 rfl rfl ?_
          refine r_goto C 133 at_129 (by decide) (by decide) ?_
          refine r_istore C 135 #[.val (.int p0), .val (.int p1), .val (.int p2), .val (.int (4 : Int32)), .val (.ref a_NO_INSTANCE), .val (.int (p1 &&& (3 : Int32))), .val (.int (1 : Int32)), .val (.int (0 : Int32)), .val (.int (1 : Int32)), .val (.int (0 : Int32)), .val (.int (1 : Int32))] at_133 rfl rfl ?_
          refine r_aload C 137 at_135 rfl rfl rfl ?_
          refine r_iload C 139 at_137 rfl rfl ?_
          refine r_callV C 142 (y := (⟨"com/example/bicameral/bicameral/analysis/Verdict", "fails", "(I)Z"⟩ : MethodName)) (z := (⟨"com/example/bicameral/bicameral/analysis/Verdict", "fails", "(I)Z"⟩ : MethodName)) (D := "com/example/bicameral/bicameral/analysis/Verdict") (a := a_NO_INSTANCE) [(.int (1 : Int32))] [] (rmF4 l Z a0 hw a_NO_INSTANCE (1 : Int32) h0 n0 Zs E_a_NO_INSTANCE F_ordinal_a_NO_INSTANCE) (hw _ (List.mem_of_getElem? (i := 7) rfl)) (hw _ (List.mem_of_getElem? (i := 8) rfl)) (fun s hZ' => notFace_of_selects (args := #[]) (mvT hZ' (hw _ (List.mem_of_getElem? (i := 10) rfl)))) (hw _ (List.mem_of_getElem? (i := 10) rfl)) (hw _ (List.mem_of_getElem? (i := 9) rfl)) (hw _ (List.mem_of_getElem? (i := 5) rfl)) (hw _ (List.mem_of_getElem? (i := 11) rfl)) E_a_NO_INSTANCE (by decide) (lenOf pd__I_Z rfl) rfl rfl (by decide) (by decide) (by decide) (by decide) rfl at_139 rfl ?_
          intro v37 h37 q37 z37
          obtain ⟨rfl, rfl⟩ := q37
          show Run _ _ _ _ _ _ _ _ 142 #[.val (.int p0), .val (.int p1), .val (.int p2), .val (.int (4 : Int32)), .val (.ref a_NO_INSTANCE), .val (.int (p1 &&& (3 : Int32))), .val (.int (1 : Int32)), .val (.int (0 : Int32)), .val (.int (1 : Int32)), .val (.int (0 : Int32)), .val (.int (1 : Int32))] [(.int (failsv 4 (1 : Int32)))]
          rw [show failsv 4 (1 : Int32) = (1 : Int32) from by simp [failsv, c34]]
          refine r_iload C 144 at_142 rfl rfl ?_
          refine r_icmp_ne C 151 147 at_144 (by decide) (by decide) rfl (fun q => absurd q (by decide)) (fun _ => ?_)
          refine r_iconst C 148 (1 : Int32) at_147 rfl rfl ?_
          refine r_goto C 152 at_148 (by decide) (by decide) ?_
          exact r_nreturn C (1 : Int32) rfl (t := .boolean) (by simp) rfl at_152 (by decide) (by decide) rfl
        · intro c36
          refine r_iconst C 92 (1 : Int32) at_91 rfl rfl ?_
          refine r_goto C 96 at_92 (by decide) (by decide) ?_
          refine r_istore C 98 #[.val (.int p0), .val (.int p1), .val (.int p2), .val (.int (4 : Int32)), .val (.ref a_NO_INSTANCE), .val (.int (p1 &&& (3 : Int32))), .val (.int e), .val (.int (0 : Int32)), .val (.int (1 : Int32)), .val (.int (1 : Int32)), .unset] at_96 rfl rfl ?_
          refine r_iload C 100 at_98 rfl rfl ?_
          refine r_if_eq C 108 103 at_100 (by decide) (by decide) rfl (fun _ => ?_) (fun q => absurd q (by decide))
          refine r_iload C 110 at_108 rfl rfl ?_
          refine r_if_eq C 119 113 at_110 (by decide) (by decide) rfl (fun q => absurd q (by decide)) (fun _ => ?_)
          refine r_iload C 115 at_113 rfl rfl ?_
          refine r_iconst C 116 (1 : Int32) at_115 rfl rfl ?_
          refine r_icmp_eq C 128 119 at_116 (by decide) (by decide) rfl (fun q => absurd q c36) (fun _ => ?_)
          refine r_iloadN C 120 at_119 rfl rfl ?_
          refine r_if_ne C 132 123 at_120 (by decide) (by decide) rfl (fun _ => ?_) (fun q => absurd q (by decide))
          refine r_iconst C 133 (0 : Int32) at_132 rfl rfl ?_
          refine r_istore C 135 #[.val (.int p0), .val (.int p1), .val (.int p2), .val (.int (4 : Int32)), .val (.ref a_NO_INSTANCE), .val (.int (p1 &&& (3 : Int32))), .val (.int e), .val (.int (0 : Int32)), .val (.int (1 : Int32)), .val (.int (1 : Int32)), .val (.int (0 : Int32))] at_133 rfl rfl ?_
          refine r_aload C 137 at_135 rfl rfl rfl ?_
          refine r_iload C 139 at_137 rfl rfl ?_
          refine r_callV C 142 (y := (⟨"com/example/bicameral/bicameral/analysis/Verdict", "fails", "(I)Z"⟩ : MethodName)) (z := (⟨"com/example/bicameral/bicameral/analysis/Verdict", "fails", "(I)Z"⟩ : MethodName)) (D := "com/example/bicameral/bicameral/analysis/Verdict") (a := a_NO_INSTANCE) [(.int e)] [] (rmF4 l Z a0 hw a_NO_INSTANCE e h0 n0 Zs E_a_NO_INSTANCE F_ordinal_a_NO_INSTANCE) (hw _ (List.mem_of_getElem? (i := 7) rfl)) (hw _ (List.mem_of_getElem? (i := 8) rfl)) (fun s hZ' => notFace_of_selects (args := #[]) (mvT hZ' (hw _ (List.mem_of_getElem? (i := 10) rfl)))) (hw _ (List.mem_of_getElem? (i := 10) rfl)) (hw _ (List.mem_of_getElem? (i := 9) rfl)) (hw _ (List.mem_of_getElem? (i := 5) rfl)) (hw _ (List.mem_of_getElem? (i := 11) rfl)) E_a_NO_INSTANCE (by decide) (lenOf pd__I_Z rfl) rfl rfl (by decide) (by decide) (by decide) (by decide) rfl at_139 rfl ?_
          intro v38 h38 q38 z38
          obtain ⟨rfl, rfl⟩ := q38
          show Run _ _ _ _ _ _ _ _ 142 #[.val (.int p0), .val (.int p1), .val (.int p2), .val (.int (4 : Int32)), .val (.ref a_NO_INSTANCE), .val (.int (p1 &&& (3 : Int32))), .val (.int e), .val (.int (0 : Int32)), .val (.int (1 : Int32)), .val (.int (1 : Int32)), .val (.int (0 : Int32))] [(.int (failsv 4 e))]
          rw [show failsv 4 e = (0 : Int32) from by simp [failsv, c34, c36]]
          refine r_iload C 144 at_142 rfl rfl ?_
          refine r_icmp_ne C 151 147 at_144 (by decide) (by decide) rfl (fun q => absurd q (by decide)) (fun _ => ?_)
          refine r_iconst C 148 (1 : Int32) at_147 rfl rfl ?_
          refine r_goto C 152 at_148 (by decide) (by decide) ?_
          exact r_nreturn C (1 : Int32) rfl (t := .boolean) (by simp) rfl at_152 (by decide) (by decide) rfl
    refine r_iload C 18 at_16 rfl rfl ?_
    refine r_if_ne C 27 21 at_18 (by decide) (by decide) rfl ?_ ?_
    · intro c1
      refine r_iload C 29 at_27 rfl rfl ?_
      refine r_iconst C 30 (1 : Int32) at_29 rfl rfl ?_
      refine r_icmp_ne C 39 33 at_30 (by decide) (by decide) rfl ?_ ?_
      · intro c2
        refine r_iloadN C 40 at_39 rfl rfl ?_
        refine r_istore C 42 #[.val (.int p0), .val (.int p1), .val (.int p2), .val (.int (4 : Int32)), .val (.ref a_NO_INSTANCE), .val (.int (p1 &&& (3 : Int32))), .val (.int p2), .unset, .unset, .unset, .unset] at_40 rfl rfl ?_
        exact J _
      · intro c2
        refine r_iconst C 34 (1 : Int32) at_33 rfl rfl ?_
        refine r_istore C 36 #[.val (.int p0), .val (.int p1), .val (.int p2), .val (.int (4 : Int32)), .val (.ref a_NO_INSTANCE), .val (.int (p1 &&& (3 : Int32))), .val (.int (1 : Int32)), .unset, .unset, .unset, .unset] at_34 rfl rfl ?_
        refine r_goto C 42 at_36 (by decide) (by decide) ?_
        exact J _
    · intro c1
      refine r_iconst C 22 (0 : Int32) at_21 rfl rfl ?_
      refine r_istore C 24 #[.val (.int p0), .val (.int p1), .val (.int p2), .val (.int (4 : Int32)), .val (.ref a_NO_INSTANCE), .val (.int (p1 &&& (3 : Int32))), .val (.int (0 : Int32)), .unset, .unset, .unset, .unset] at_22 rfl rfl ?_
      refine r_goto C 42 at_24 (by decide) (by decide) ?_
      exact J _
  · refine r_istoreN C 5 #[.val (.int p0), .val (.int p1), .val (.int p2), .val (.int (5 : Int32)), .unset, .unset, .unset, .unset, .unset, .unset, .unset] at_4 rfl rfl ?_
    refine r_iloadN C 6 at_5 rfl rfl ?_
    refine r_callS C 9 (y := (⟨"com/example/bicameral/bicameral/analysis/VerdictFailsPinLaw", "pickVerdict", "(I)Lcom/example/bicameral/bicameral/analysis/Verdict;"⟩ : MethodName)) (a := 0) [(.int (5 : Int32))] [] (rmP5 l Z a0 hw a_UNSUPPORTED h0 n0 Zs S_UNSUPPORTED) (hw _ (List.mem_of_getElem? (i := 0) rfl)) (hw _ (List.mem_of_getElem? (i := 1) rfl)) (hw _ (List.mem_of_getElem? (i := 2) rfl)) (hw _ (List.mem_of_getElem? (i := 3) rfl)) (by decide) (lenOf pd__I_Lcom_example_bicameral_bicameral_analysis_Verdict_ rfl) rfl rfl (by decide) (by decide) (by decide) (by decide) rfl at_6 rfl ?_
    intro v41 h41 q41 z41
    obtain ⟨rfl, rfl⟩ := q41
    show Run _ _ _ _ _ _ _ _ 9 #[.val (.int p0), .val (.int p1), .val (.int p2), .val (.int (5 : Int32)), .unset, .unset, .unset, .unset, .unset, .unset, .unset] [(.ref a_UNSUPPORTED)]
    refine r_astore C 11 #[.val (.int p0), .val (.int p1), .val (.int p2), .val (.int (5 : Int32)), .val (.ref a_UNSUPPORTED), .unset, .unset, .unset, .unset, .unset, .unset] at_9 rfl rfl rfl ?_
    refine r_iloadN C 12 at_11 rfl rfl ?_
    refine r_iconst C 13 (3 : Int32) at_12 rfl rfl ?_
    refine r_iand C 14 at_13 rfl ?_
    refine r_istore C 16 #[.val (.int p0), .val (.int p1), .val (.int p2), .val (.int (5 : Int32)), .val (.ref a_UNSUPPORTED), .val (.int (p1 &&& (3 : Int32))), .unset, .unset, .unset, .unset, .unset] at_14 rfl rfl ?_
    have J : ∀ e : Int32, Run l room_1 n0 (fun v _ => v = some (.int 1)) K h0 (0 + 0) (0 + 0) 42 #[.val (.int p0), .val (.int p1), .val (.int p2), .val (.int (5 : Int32)), .val (.ref a_UNSUPPORTED), .val (.int (p1 &&& (3 : Int32))), .val (.int e), .unset, .unset, .unset, .unset] [] := by
      intro e
      refine r_iloadN C 43 at_42 rfl rfl ?_
      refine r_if_eq C 51 46 at_43 (by decide) (by decide) rfl (fun q => absurd q (by decide)) (fun _ => ?_)
      refine r_iloadN C 47 at_46 rfl rfl ?_
      refine r_iconst C 48 (3 : Int32) at_47 rfl rfl ?_
      refine r_icmp_ne C 55 51 at_48 (by decide) (by decide) rfl (fun _ => ?_) (fun q => absurd q (by decide))
      refine r_iconst C 56 (0 : Int32) at_55 rfl rfl ?_
      refine r_istore C 58 #[.val (.int p0), .val (.int p1), .val (.int p2), .val (.int (5 : Int32)), .val (.ref a_UNSUPPORTED), .val (.int (p1 &&& (3 : Int32))), .val (.int e), .val (.int (0 : Int32)), .unset, .unset, .unset] at_56 rfl rfl ?_
      refine r_iloadN C 59 at_58 rfl rfl ?_
      refine r_iconst C 60 (1 : Int32) at_59 rfl rfl ?_
      refine r_icmp_eq C 73 63 at_60 (by decide) (by decide) rfl (fun q => absurd q (by decide)) (fun _ => ?_)
      refine r_iloadN C 64 at_63 rfl rfl ?_
      refine r_iconst C 65 (2 : Int32) at_64 rfl rfl ?_
      refine r_icmp_eq C 73 68 at_65 (by decide) (by decide) rfl (fun q => absurd q (by decide)) (fun _ => ?_)
      refine r_iloadN C 69 at_68 rfl rfl ?_
      refine r_iconst C 70 (4 : Int32) at_69 rfl rfl ?_
      refine r_icmp_ne C 77 73 at_70 (by decide) (by decide) rfl (fun _ => ?_) (fun q => absurd q (by decide))
      refine r_iconst C 78 (0 : Int32) at_77 rfl rfl ?_
      refine r_istore C 80 #[.val (.int p0), .val (.int p1), .val (.int p2), .val (.int (5 : Int32)), .val (.ref a_UNSUPPORTED), .val (.int (p1 &&& (3 : Int32))), .val (.int e), .val (.int (0 : Int32)), .val (.int (0 : Int32)), .unset, .unset] at_78 rfl rfl ?_
      refine r_iload C 82 at_80 rfl rfl ?_
      refine r_if_eq C 95 85 at_82 (by decide) (by decide) rfl ?_ ?_
      · intro c42
        subst c42
        refine r_iconst C 96 (0 : Int32) at_95 rfl rfl ?_
        refine r_istore C 98 #[.val (.int p0), .val (.int p1), .val (.int p2), .val (.int (5 : Int32)), .val (.ref a_UNSUPPORTED), .val (.int (p1 &&& (3 : Int32))), .val (.int (0 : Int32)), .val (.int (0 : Int32)), .val (.int (0 : Int32)), .val (.int (0 : Int32)), .unset] at_96 rfl rfl ?_
        refine r_iload C 100 at_98 rfl rfl ?_
        refine r_if_eq C 108 103 at_100 (by decide) (by decide) rfl (fun _ => ?_) (fun q => absurd q (by decide))
        refine r_iload C 110 at_108 rfl rfl ?_
        refine r_if_eq C 119 113 at_110 (by decide) (by decide) rfl (fun _ => ?_) (fun q => absurd q (by decide))
        refine r_iloadN C 120 at_119 rfl rfl ?_
        refine r_if_ne C 132 123 at_120 (by decide) (by decide) rfl (fun _ => ?_) (fun q => absurd q (by decide))
        refine r_iconst C 133 (0 : Int32) at_132 rfl rfl ?_
        refine r_istore C 135 #[.val (.int p0), .val (.int p1), .val (.int p2), .val (.int (5 : Int32)), .val (.ref a_UNSUPPORTED), .val (.int (p1 &&& (3 : Int32))), .val (.int (0 : Int32)), .val (.int (0 : Int32)), .val (.int (0 : Int32)), .val (.int (0 : Int32)), .val (.int (0 : Int32))] at_133 rfl rfl ?_
        refine r_aload C 137 at_135 rfl rfl rfl ?_
        refine r_iload C 139 at_137 rfl rfl ?_
        refine r_callV C 142 (y := (⟨"com/example/bicameral/bicameral/analysis/Verdict", "fails", "(I)Z"⟩ : MethodName)) (z := (⟨"com/example/bicameral/bicameral/analysis/Verdict", "fails", "(I)Z"⟩ : MethodName)) (D := "com/example/bicameral/bicameral/analysis/Verdict") (a := a_UNSUPPORTED) [(.int (0 : Int32))] [] (rmF5 l Z a0 hw a_UNSUPPORTED (0 : Int32) h0 n0 Zs E_a_UNSUPPORTED F_ordinal_a_UNSUPPORTED) (hw _ (List.mem_of_getElem? (i := 7) rfl)) (hw _ (List.mem_of_getElem? (i := 8) rfl)) (fun s hZ' => notFace_of_selects (args := #[]) (mvT hZ' (hw _ (List.mem_of_getElem? (i := 10) rfl)))) (hw _ (List.mem_of_getElem? (i := 10) rfl)) (hw _ (List.mem_of_getElem? (i := 9) rfl)) (hw _ (List.mem_of_getElem? (i := 5) rfl)) (hw _ (List.mem_of_getElem? (i := 11) rfl)) E_a_UNSUPPORTED (by decide) (lenOf pd__I_Z rfl) rfl rfl (by decide) (by decide) (by decide) (by decide) rfl at_139 rfl ?_
        intro v43 h43 q43 z43
        obtain ⟨rfl, rfl⟩ := q43
        show Run _ _ _ _ _ _ _ _ 142 #[.val (.int p0), .val (.int p1), .val (.int p2), .val (.int (5 : Int32)), .val (.ref a_UNSUPPORTED), .val (.int (p1 &&& (3 : Int32))), .val (.int (0 : Int32)), .val (.int (0 : Int32)), .val (.int (0 : Int32)), .val (.int (0 : Int32)), .val (.int (0 : Int32))] [(.int (failsv 5 (0 : Int32)))]
        rw [show failsv 5 (0 : Int32) = (0 : Int32) from by simp [failsv]]
        refine r_iload C 144 at_142 rfl rfl ?_
        refine r_icmp_ne C 151 147 at_144 (by decide) (by decide) rfl (fun q => absurd q (by decide)) (fun _ => ?_)
        refine r_iconst C 148 (1 : Int32) at_147 rfl rfl ?_
        refine r_goto C 152 at_148 (by decide) (by decide) ?_
        exact r_nreturn C (1 : Int32) rfl (t := .boolean) (by simp) rfl at_152 (by decide) (by decide) rfl
      · intro c42
        refine r_iload C 87 at_85 rfl rfl ?_
        refine r_iconst C 88 (1 : Int32) at_87 rfl rfl ?_
        refine r_icmp_eq C 95 91 at_88 (by decide) (by decide) rfl ?_ ?_
        · intro c44
          subst c44
          refine r_iconst C 96 (0 : Int32) at_95 rfl rfl ?_
          refine r_istore C 98 #[.val (.int p0), .val (.int p1), .val (.int p2), .val (.int (5 : Int32)), .val (.ref a_UNSUPPORTED), .val (.int (p1 &&& (3 : Int32))), .val (.int (1 : Int32)), .val (.int (0 : Int32)), .val (.int (0 : Int32)), .val (.int (0 : Int32)), .unset] at_96 rfl rfl ?_
          refine r_iload C 100 at_98 rfl rfl ?_
          refine r_if_eq C 108 103 at_100 (by decide) (by decide) rfl (fun _ => ?_) (fun q => absurd q (by decide))
          refine r_iload C 110 at_108 rfl rfl ?_
          refine r_if_eq C 119 113 at_110 (by decide) (by decide) rfl (fun _ => ?_) (fun q => absurd q (by decide))
          refine r_iloadN C 120 at_119 rfl rfl ?_
          refine r_if_ne C 132 123 at_120 (by decide) (by decide) rfl (fun _ => ?_) (fun q => absurd q (by decide))
          refine r_iconst C 133 (0 : Int32) at_132 rfl rfl ?_
          refine r_istore C 135 #[.val (.int p0), .val (.int p1), .val (.int p2), .val (.int (5 : Int32)), .val (.ref a_UNSUPPORTED), .val (.int (p1 &&& (3 : Int32))), .val (.int (1 : Int32)), .val (.int (0 : Int32)), .val (.int (0 : Int32)), .val (.int (0 : Int32)), .val (.int (0 : Int32))] at_133 rfl rfl ?_
          refine r_aload C 137 at_135 rfl rfl rfl ?_
          refine r_iload C 139 at_137 rfl rfl ?_
          refine r_callV C 142 (y := (⟨"com/example/bicameral/bicameral/analysis/Verdict", "fails", "(I)Z"⟩ : MethodName)) (z := (⟨"com/example/bicameral/bicameral/analysis/Verdict", "fails", "(I)Z"⟩ : MethodName)) (D := "com/example/bicameral/bicameral/analysis/Verdict") (a := a_UNSUPPORTED) [(.int (1 : Int32))] [] (rmF5 l Z a0 hw a_UNSUPPORTED (1 : Int32) h0 n0 Zs E_a_UNSUPPORTED F_ordinal_a_UNSUPPORTED) (hw _ (List.mem_of_getElem? (i := 7) rfl)) (hw _ (List.mem_of_getElem? (i := 8) rfl)) (fun s hZ' => notFace_of_selects (args := #[]) (mvT hZ' (hw _ (List.mem_of_getElem? (i := 10) rfl)))) (hw _ (List.mem_of_getElem? (i := 10) rfl)) (hw _ (List.mem_of_getElem? (i := 9) rfl)) (hw _ (List.mem_of_getElem? (i := 5) rfl)) (hw _ (List.mem_of_getElem? (i := 11) rfl)) E_a_UNSUPPORTED (by decide) (lenOf pd__I_Z rfl) rfl rfl (by decide) (by decide) (by decide) (by decide) rfl at_139 rfl ?_
          intro v45 h45 q45 z45
          obtain ⟨rfl, rfl⟩ := q45
          show Run _ _ _ _ _ _ _ _ 142 #[.val (.int p0), .val (.int p1), .val (.int p2), .val (.int (5 : Int32)), .val (.ref a_UNSUPPORTED), .val (.int (p1 &&& (3 : Int32))), .val (.int (1 : Int32)), .val (.int (0 : Int32)), .val (.int (0 : Int32)), .val (.int (0 : Int32)), .val (.int (0 : Int32))] [(.int (failsv 5 (1 : Int32)))]
          rw [show failsv 5 (1 : Int32) = (0 : Int32) from by simp [failsv, c42]]
          refine r_iload C 144 at_142 rfl rfl ?_
          refine r_icmp_ne C 151 147 at_144 (by decide) (by decide) rfl (fun q => absurd q (by decide)) (fun _ => ?_)
          refine r_iconst C 148 (1 : Int32) at_147 rfl rfl ?_
          refine r_goto C 152 at_148 (by decide) (by decide) ?_
          exact r_nreturn C (1 : Int32) rfl (t := .boolean) (by simp) rfl at_152 (by decide) (by decide) rfl
        · intro c44
          refine r_iconst C 92 (1 : Int32) at_91 rfl rfl ?_
          refine r_goto C 96 at_92 (by decide) (by decide) ?_
          refine r_istore C 98 #[.val (.int p0), .val (.int p1), .val (.int p2), .val (.int (5 : Int32)), .val (.ref a_UNSUPPORTED), .val (.int (p1 &&& (3 : Int32))), .val (.int e), .val (.int (0 : Int32)), .val (.int (0 : Int32)), .val (.int (1 : Int32)), .unset] at_96 rfl rfl ?_
          refine r_iload C 100 at_98 rfl rfl ?_
          refine r_if_eq C 108 103 at_100 (by decide) (by decide) rfl (fun _ => ?_) (fun q => absurd q (by decide))
          refine r_iload C 110 at_108 rfl rfl ?_
          refine r_if_eq C 119 113 at_110 (by decide) (by decide) rfl (fun _ => ?_) (fun q => absurd q (by decide))
          refine r_iloadN C 120 at_119 rfl rfl ?_
          refine r_if_ne C 132 123 at_120 (by decide) (by decide) rfl (fun _ => ?_) (fun q => absurd q (by decide))
          refine r_iconst C 133 (0 : Int32) at_132 rfl rfl ?_
          refine r_istore C 135 #[.val (.int p0), .val (.int p1), .val (.int p2), .val (.int (5 : Int32)), .val (.ref a_UNSUPPORTED), .val (.int (p1 &&& (3 : Int32))), .val (.int e), .val (.int (0 : Int32)), .val (.int (0 : Int32)), .val (.int (1 : Int32)), .val (.int (0 : Int32))] at_133 rfl rfl ?_
          refine r_aload C 137 at_135 rfl rfl rfl ?_
          refine r_iload C 139 at_137 rfl rfl ?_
          refine r_callV C 142 (y := (⟨"com/example/bicameral/bicameral/analysis/Verdict", "fails", "(I)Z"⟩ : MethodName)) (z := (⟨"com/example/bicameral/bicameral/analysis/Verdict", "fails", "(I)Z"⟩ : MethodName)) (D := "com/example/bicameral/bicameral/analysis/Verdict") (a := a_UNSUPPORTED) [(.int e)] [] (rmF5 l Z a0 hw a_UNSUPPORTED e h0 n0 Zs E_a_UNSUPPORTED F_ordinal_a_UNSUPPORTED) (hw _ (List.mem_of_getElem? (i := 7) rfl)) (hw _ (List.mem_of_getElem? (i := 8) rfl)) (fun s hZ' => notFace_of_selects (args := #[]) (mvT hZ' (hw _ (List.mem_of_getElem? (i := 10) rfl)))) (hw _ (List.mem_of_getElem? (i := 10) rfl)) (hw _ (List.mem_of_getElem? (i := 9) rfl)) (hw _ (List.mem_of_getElem? (i := 5) rfl)) (hw _ (List.mem_of_getElem? (i := 11) rfl)) E_a_UNSUPPORTED (by decide) (lenOf pd__I_Z rfl) rfl rfl (by decide) (by decide) (by decide) (by decide) rfl at_139 rfl ?_
          intro v46 h46 q46 z46
          obtain ⟨rfl, rfl⟩ := q46
          show Run _ _ _ _ _ _ _ _ 142 #[.val (.int p0), .val (.int p1), .val (.int p2), .val (.int (5 : Int32)), .val (.ref a_UNSUPPORTED), .val (.int (p1 &&& (3 : Int32))), .val (.int e), .val (.int (0 : Int32)), .val (.int (0 : Int32)), .val (.int (1 : Int32)), .val (.int (0 : Int32))] [(.int (failsv 5 e))]
          rw [show failsv 5 e = (0 : Int32) from by simp [failsv, c42, c44]]
          refine r_iload C 144 at_142 rfl rfl ?_
          refine r_icmp_ne C 151 147 at_144 (by decide) (by decide) rfl (fun q => absurd q (by decide)) (fun _ => ?_)
          refine r_iconst C 148 (1 : Int32) at_147 rfl rfl ?_
          refine r_goto C 152 at_148 (by decide) (by decide) ?_
          exact r_nreturn C (1 : Int32) rfl (t := .boolean) (by simp) rfl at_152 (by decide) (by decide) rfl
    refine r_iload C 18 at_16 rfl rfl ?_
    refine r_if_ne C 27 21 at_18 (by decide) (by decide) rfl ?_ ?_
    · intro c1
      refine r_iload C 29 at_27 rfl rfl ?_
      refine r_iconst C 30 (1 : Int32) at_29 rfl rfl ?_
      refine r_icmp_ne C 39 33 at_30 (by decide) (by decide) rfl ?_ ?_
      · intro c2
        refine r_iloadN C 40 at_39 rfl rfl ?_
        refine r_istore C 42 #[.val (.int p0), .val (.int p1), .val (.int p2), .val (.int (5 : Int32)), .val (.ref a_UNSUPPORTED), .val (.int (p1 &&& (3 : Int32))), .val (.int p2), .unset, .unset, .unset, .unset] at_40 rfl rfl ?_
        exact J _
      · intro c2
        refine r_iconst C 34 (1 : Int32) at_33 rfl rfl ?_
        refine r_istore C 36 #[.val (.int p0), .val (.int p1), .val (.int p2), .val (.int (5 : Int32)), .val (.ref a_UNSUPPORTED), .val (.int (p1 &&& (3 : Int32))), .val (.int (1 : Int32)), .unset, .unset, .unset, .unset] at_34 rfl rfl ?_
        refine r_goto C 42 at_36 (by decide) (by decide) ?_
        exact J _
    · intro c1
      refine r_iconst C 22 (0 : Int32) at_21 rfl rfl ?_
      refine r_istore C 24 #[.val (.int p0), .val (.int p1), .val (.int p2), .val (.int (5 : Int32)), .val (.ref a_UNSUPPORTED), .val (.int (p1 &&& (3 : Int32))), .val (.int (0 : Int32)), .unset, .unset, .unset, .unset] at_22 rfl rfl ?_
      refine r_goto C 42 at_24 (by decide) (by decide) ?_
      exact J _
  · refine r_istoreN C 5 #[.val (.int p0), .val (.int p1), .val (.int p2), .val (.int (6 : Int32)), .unset, .unset, .unset, .unset, .unset, .unset, .unset] at_4 rfl rfl ?_
    refine r_iloadN C 6 at_5 rfl rfl ?_
    refine r_callS C 9 (y := (⟨"com/example/bicameral/bicameral/analysis/VerdictFailsPinLaw", "pickVerdict", "(I)Lcom/example/bicameral/bicameral/analysis/Verdict;"⟩ : MethodName)) (a := 0) [(.int (6 : Int32))] [] (rmP6 l Z a0 hw a_UNKNOWN h0 n0 Zs S_UNKNOWN) (hw _ (List.mem_of_getElem? (i := 0) rfl)) (hw _ (List.mem_of_getElem? (i := 1) rfl)) (hw _ (List.mem_of_getElem? (i := 2) rfl)) (hw _ (List.mem_of_getElem? (i := 3) rfl)) (by decide) (lenOf pd__I_Lcom_example_bicameral_bicameral_analysis_Verdict_ rfl) rfl rfl (by decide) (by decide) (by decide) (by decide) rfl at_6 rfl ?_
    intro v49 h49 q49 z49
    obtain ⟨rfl, rfl⟩ := q49
    show Run _ _ _ _ _ _ _ _ 9 #[.val (.int p0), .val (.int p1), .val (.int p2), .val (.int (6 : Int32)), .unset, .unset, .unset, .unset, .unset, .unset, .unset] [(.ref a_UNKNOWN)]
    refine r_astore C 11 #[.val (.int p0), .val (.int p1), .val (.int p2), .val (.int (6 : Int32)), .val (.ref a_UNKNOWN), .unset, .unset, .unset, .unset, .unset, .unset] at_9 rfl rfl rfl ?_
    refine r_iloadN C 12 at_11 rfl rfl ?_
    refine r_iconst C 13 (3 : Int32) at_12 rfl rfl ?_
    refine r_iand C 14 at_13 rfl ?_
    refine r_istore C 16 #[.val (.int p0), .val (.int p1), .val (.int p2), .val (.int (6 : Int32)), .val (.ref a_UNKNOWN), .val (.int (p1 &&& (3 : Int32))), .unset, .unset, .unset, .unset, .unset] at_14 rfl rfl ?_
    have J : ∀ e : Int32, Run l room_1 n0 (fun v _ => v = some (.int 1)) K h0 (0 + 0) (0 + 0) 42 #[.val (.int p0), .val (.int p1), .val (.int p2), .val (.int (6 : Int32)), .val (.ref a_UNKNOWN), .val (.int (p1 &&& (3 : Int32))), .val (.int e), .unset, .unset, .unset, .unset] [] := by
      intro e
      refine r_iloadN C 43 at_42 rfl rfl ?_
      refine r_if_eq C 51 46 at_43 (by decide) (by decide) rfl (fun q => absurd q (by decide)) (fun _ => ?_)
      refine r_iloadN C 47 at_46 rfl rfl ?_
      refine r_iconst C 48 (3 : Int32) at_47 rfl rfl ?_
      refine r_icmp_ne C 55 51 at_48 (by decide) (by decide) rfl (fun _ => ?_) (fun q => absurd q (by decide))
      refine r_iconst C 56 (0 : Int32) at_55 rfl rfl ?_
      refine r_istore C 58 #[.val (.int p0), .val (.int p1), .val (.int p2), .val (.int (6 : Int32)), .val (.ref a_UNKNOWN), .val (.int (p1 &&& (3 : Int32))), .val (.int e), .val (.int (0 : Int32)), .unset, .unset, .unset] at_56 rfl rfl ?_
      refine r_iloadN C 59 at_58 rfl rfl ?_
      refine r_iconst C 60 (1 : Int32) at_59 rfl rfl ?_
      refine r_icmp_eq C 73 63 at_60 (by decide) (by decide) rfl (fun q => absurd q (by decide)) (fun _ => ?_)
      refine r_iloadN C 64 at_63 rfl rfl ?_
      refine r_iconst C 65 (2 : Int32) at_64 rfl rfl ?_
      refine r_icmp_eq C 73 68 at_65 (by decide) (by decide) rfl (fun q => absurd q (by decide)) (fun _ => ?_)
      refine r_iloadN C 69 at_68 rfl rfl ?_
      refine r_iconst C 70 (4 : Int32) at_69 rfl rfl ?_
      refine r_icmp_ne C 77 73 at_70 (by decide) (by decide) rfl (fun _ => ?_) (fun q => absurd q (by decide))
      refine r_iconst C 78 (0 : Int32) at_77 rfl rfl ?_
      refine r_istore C 80 #[.val (.int p0), .val (.int p1), .val (.int p2), .val (.int (6 : Int32)), .val (.ref a_UNKNOWN), .val (.int (p1 &&& (3 : Int32))), .val (.int e), .val (.int (0 : Int32)), .val (.int (0 : Int32)), .unset, .unset] at_78 rfl rfl ?_
      refine r_iload C 82 at_80 rfl rfl ?_
      refine r_if_eq C 95 85 at_82 (by decide) (by decide) rfl ?_ ?_
      · intro c50
        subst c50
        refine r_iconst C 96 (0 : Int32) at_95 rfl rfl ?_
        refine r_istore C 98 #[.val (.int p0), .val (.int p1), .val (.int p2), .val (.int (6 : Int32)), .val (.ref a_UNKNOWN), .val (.int (p1 &&& (3 : Int32))), .val (.int (0 : Int32)), .val (.int (0 : Int32)), .val (.int (0 : Int32)), .val (.int (0 : Int32)), .unset] at_96 rfl rfl ?_
        refine r_iload C 100 at_98 rfl rfl ?_
        refine r_if_eq C 108 103 at_100 (by decide) (by decide) rfl (fun _ => ?_) (fun q => absurd q (by decide))
        refine r_iload C 110 at_108 rfl rfl ?_
        refine r_if_eq C 119 113 at_110 (by decide) (by decide) rfl (fun _ => ?_) (fun q => absurd q (by decide))
        refine r_iloadN C 120 at_119 rfl rfl ?_
        refine r_if_ne C 132 123 at_120 (by decide) (by decide) rfl (fun _ => ?_) (fun q => absurd q (by decide))
        refine r_iconst C 133 (0 : Int32) at_132 rfl rfl ?_
        refine r_istore C 135 #[.val (.int p0), .val (.int p1), .val (.int p2), .val (.int (6 : Int32)), .val (.ref a_UNKNOWN), .val (.int (p1 &&& (3 : Int32))), .val (.int (0 : Int32)), .val (.int (0 : Int32)), .val (.int (0 : Int32)), .val (.int (0 : Int32)), .val (.int (0 : Int32))] at_133 rfl rfl ?_
        refine r_aload C 137 at_135 rfl rfl rfl ?_
        refine r_iload C 139 at_137 rfl rfl ?_
        refine r_callV C 142 (y := (⟨"com/example/bicameral/bicameral/analysis/Verdict", "fails", "(I)Z"⟩ : MethodName)) (z := (⟨"com/example/bicameral/bicameral/analysis/Verdict", "fails", "(I)Z"⟩ : MethodName)) (D := "com/example/bicameral/bicameral/analysis/Verdict") (a := a_UNKNOWN) [(.int (0 : Int32))] [] (rmF6 l Z a0 hw a_UNKNOWN (0 : Int32) h0 n0 Zs E_a_UNKNOWN F_ordinal_a_UNKNOWN) (hw _ (List.mem_of_getElem? (i := 7) rfl)) (hw _ (List.mem_of_getElem? (i := 8) rfl)) (fun s hZ' => notFace_of_selects (args := #[]) (mvT hZ' (hw _ (List.mem_of_getElem? (i := 10) rfl)))) (hw _ (List.mem_of_getElem? (i := 10) rfl)) (hw _ (List.mem_of_getElem? (i := 9) rfl)) (hw _ (List.mem_of_getElem? (i := 5) rfl)) (hw _ (List.mem_of_getElem? (i := 11) rfl)) E_a_UNKNOWN (by decide) (lenOf pd__I_Z rfl) rfl rfl (by decide) (by decide) (by decide) (by decide) rfl at_139 rfl ?_
        intro v51 h51 q51 z51
        obtain ⟨rfl, rfl⟩ := q51
        show Run _ _ _ _ _ _ _ _ 142 #[.val (.int p0), .val (.int p1), .val (.int p2), .val (.int (6 : Int32)), .val (.ref a_UNKNOWN), .val (.int (p1 &&& (3 : Int32))), .val (.int (0 : Int32)), .val (.int (0 : Int32)), .val (.int (0 : Int32)), .val (.int (0 : Int32)), .val (.int (0 : Int32))] [(.int (failsv 6 (0 : Int32)))]
        rw [show failsv 6 (0 : Int32) = (0 : Int32) from by simp [failsv]]
        refine r_iload C 144 at_142 rfl rfl ?_
        refine r_icmp_ne C 151 147 at_144 (by decide) (by decide) rfl (fun q => absurd q (by decide)) (fun _ => ?_)
        refine r_iconst C 148 (1 : Int32) at_147 rfl rfl ?_
        refine r_goto C 152 at_148 (by decide) (by decide) ?_
        exact r_nreturn C (1 : Int32) rfl (t := .boolean) (by simp) rfl at_152 (by decide) (by decide) rfl
      · intro c50
        refine r_iload C 87 at_85 rfl rfl ?_
        refine r_iconst C 88 (1 : Int32) at_87 rfl rfl ?_
        refine r_icmp_eq C 95 91 at_88 (by decide) (by decide) rfl ?_ ?_
        · intro c52
          subst c52
          refine r_iconst C 96 (0 : Int32) at_95 rfl rfl ?_
          refine r_istore C 98 #[.val (.int p0), .val (.int p1), .val (.int p2), .val (.int (6 : Int32)), .val (.ref a_UNKNOWN), .val (.int (p1 &&& (3 : Int32))), .val (.int (1 : Int32)), .val (.int (0 : Int32)), .val (.int (0 : Int32)), .val (.int (0 : Int32)), .unset] at_96 rfl rfl ?_
          refine r_iload C 100 at_98 rfl rfl ?_
          refine r_if_eq C 108 103 at_100 (by decide) (by decide) rfl (fun _ => ?_) (fun q => absurd q (by decide))
          refine r_iload C 110 at_108 rfl rfl ?_
          refine r_if_eq C 119 113 at_110 (by decide) (by decide) rfl (fun _ => ?_) (fun q => absurd q (by decide))
          refine r_iloadN C 120 at_119 rfl rfl ?_
          refine r_if_ne C 132 123 at_120 (by decide) (by decide) rfl (fun _ => ?_) (fun q => absurd q (by decide))
          refine r_iconst C 133 (0 : Int32) at_132 rfl rfl ?_
          refine r_istore C 135 #[.val (.int p0), .val (.int p1), .val (.int p2), .val (.int (6 : Int32)), .val (.ref a_UNKNOWN), .val (.int (p1 &&& (3 : Int32))), .val (.int (1 : Int32)), .val (.int (0 : Int32)), .val (.int (0 : Int32)), .val (.int (0 : Int32)), .val (.int (0 : Int32))] at_133 rfl rfl ?_
          refine r_aload C 137 at_135 rfl rfl rfl ?_
          refine r_iload C 139 at_137 rfl rfl ?_
          refine r_callV C 142 (y := (⟨"com/example/bicameral/bicameral/analysis/Verdict", "fails", "(I)Z"⟩ : MethodName)) (z := (⟨"com/example/bicameral/bicameral/analysis/Verdict", "fails", "(I)Z"⟩ : MethodName)) (D := "com/example/bicameral/bicameral/analysis/Verdict") (a := a_UNKNOWN) [(.int (1 : Int32))] [] (rmF6 l Z a0 hw a_UNKNOWN (1 : Int32) h0 n0 Zs E_a_UNKNOWN F_ordinal_a_UNKNOWN) (hw _ (List.mem_of_getElem? (i := 7) rfl)) (hw _ (List.mem_of_getElem? (i := 8) rfl)) (fun s hZ' => notFace_of_selects (args := #[]) (mvT hZ' (hw _ (List.mem_of_getElem? (i := 10) rfl)))) (hw _ (List.mem_of_getElem? (i := 10) rfl)) (hw _ (List.mem_of_getElem? (i := 9) rfl)) (hw _ (List.mem_of_getElem? (i := 5) rfl)) (hw _ (List.mem_of_getElem? (i := 11) rfl)) E_a_UNKNOWN (by decide) (lenOf pd__I_Z rfl) rfl rfl (by decide) (by decide) (by decide) (by decide) rfl at_139 rfl ?_
          intro v53 h53 q53 z53
          obtain ⟨rfl, rfl⟩ := q53
          show Run _ _ _ _ _ _ _ _ 142 #[.val (.int p0), .val (.int p1), .val (.int p2), .val (.int (6 : Int32)), .val (.ref a_UNKNOWN), .val (.int (p1 &&& (3 : Int32))), .val (.int (1 : Int32)), .val (.int (0 : Int32)), .val (.int (0 : Int32)), .val (.int (0 : Int32)), .val (.int (0 : Int32))] [(.int (failsv 6 (1 : Int32)))]
          rw [show failsv 6 (1 : Int32) = (0 : Int32) from by simp [failsv, c50]]
          refine r_iload C 144 at_142 rfl rfl ?_
          refine r_icmp_ne C 151 147 at_144 (by decide) (by decide) rfl (fun q => absurd q (by decide)) (fun _ => ?_)
          refine r_iconst C 148 (1 : Int32) at_147 rfl rfl ?_
          refine r_goto C 152 at_148 (by decide) (by decide) ?_
          exact r_nreturn C (1 : Int32) rfl (t := .boolean) (by simp) rfl at_152 (by decide) (by decide) rfl
        · intro c52
          refine r_iconst C 92 (1 : Int32) at_91 rfl rfl ?_
          refine r_goto C 96 at_92 (by decide) (by decide) ?_
          refine r_istore C 98 #[.val (.int p0), .val (.int p1), .val (.int p2), .val (.int (6 : Int32)), .val (.ref a_UNKNOWN), .val (.int (p1 &&& (3 : Int32))), .val (.int e), .val (.int (0 : Int32)), .val (.int (0 : Int32)), .val (.int (1 : Int32)), .unset] at_96 rfl rfl ?_
          refine r_iload C 100 at_98 rfl rfl ?_
          refine r_if_eq C 108 103 at_100 (by decide) (by decide) rfl (fun _ => ?_) (fun q => absurd q (by decide))
          refine r_iload C 110 at_108 rfl rfl ?_
          refine r_if_eq C 119 113 at_110 (by decide) (by decide) rfl (fun _ => ?_) (fun q => absurd q (by decide))
          refine r_iloadN C 120 at_119 rfl rfl ?_
          refine r_if_ne C 132 123 at_120 (by decide) (by decide) rfl (fun _ => ?_) (fun q => absurd q (by decide))
          refine r_iconst C 133 (0 : Int32) at_132 rfl rfl ?_
          refine r_istore C 135 #[.val (.int p0), .val (.int p1), .val (.int p2), .val (.int (6 : Int32)), .val (.ref a_UNKNOWN), .val (.int (p1 &&& (3 : Int32))), .val (.int e), .val (.int (0 : Int32)), .val (.int (0 : Int32)), .val (.int (1 : Int32)), .val (.int (0 : Int32))] at_133 rfl rfl ?_
          refine r_aload C 137 at_135 rfl rfl rfl ?_
          refine r_iload C 139 at_137 rfl rfl ?_
          refine r_callV C 142 (y := (⟨"com/example/bicameral/bicameral/analysis/Verdict", "fails", "(I)Z"⟩ : MethodName)) (z := (⟨"com/example/bicameral/bicameral/analysis/Verdict", "fails", "(I)Z"⟩ : MethodName)) (D := "com/example/bicameral/bicameral/analysis/Verdict") (a := a_UNKNOWN) [(.int e)] [] (rmF6 l Z a0 hw a_UNKNOWN e h0 n0 Zs E_a_UNKNOWN F_ordinal_a_UNKNOWN) (hw _ (List.mem_of_getElem? (i := 7) rfl)) (hw _ (List.mem_of_getElem? (i := 8) rfl)) (fun s hZ' => notFace_of_selects (args := #[]) (mvT hZ' (hw _ (List.mem_of_getElem? (i := 10) rfl)))) (hw _ (List.mem_of_getElem? (i := 10) rfl)) (hw _ (List.mem_of_getElem? (i := 9) rfl)) (hw _ (List.mem_of_getElem? (i := 5) rfl)) (hw _ (List.mem_of_getElem? (i := 11) rfl)) E_a_UNKNOWN (by decide) (lenOf pd__I_Z rfl) rfl rfl (by decide) (by decide) (by decide) (by decide) rfl at_139 rfl ?_
          intro v54 h54 q54 z54
          obtain ⟨rfl, rfl⟩ := q54
          show Run _ _ _ _ _ _ _ _ 142 #[.val (.int p0), .val (.int p1), .val (.int p2), .val (.int (6 : Int32)), .val (.ref a_UNKNOWN), .val (.int (p1 &&& (3 : Int32))), .val (.int e), .val (.int (0 : Int32)), .val (.int (0 : Int32)), .val (.int (1 : Int32)), .val (.int (0 : Int32))] [(.int (failsv 6 e))]
          rw [show failsv 6 e = (0 : Int32) from by simp [failsv, c50, c52]]
          refine r_iload C 144 at_142 rfl rfl ?_
          refine r_icmp_ne C 151 147 at_144 (by decide) (by decide) rfl (fun q => absurd q (by decide)) (fun _ => ?_)
          refine r_iconst C 148 (1 : Int32) at_147 rfl rfl ?_
          refine r_goto C 152 at_148 (by decide) (by decide) ?_
          exact r_nreturn C (1 : Int32) rfl (t := .boolean) (by simp) rfl at_152 (by decide) (by decide) rfl
    refine r_iload C 18 at_16 rfl rfl ?_
    refine r_if_ne C 27 21 at_18 (by decide) (by decide) rfl ?_ ?_
    · intro c1
      refine r_iload C 29 at_27 rfl rfl ?_
      refine r_iconst C 30 (1 : Int32) at_29 rfl rfl ?_
      refine r_icmp_ne C 39 33 at_30 (by decide) (by decide) rfl ?_ ?_
      · intro c2
        refine r_iloadN C 40 at_39 rfl rfl ?_
        refine r_istore C 42 #[.val (.int p0), .val (.int p1), .val (.int p2), .val (.int (6 : Int32)), .val (.ref a_UNKNOWN), .val (.int (p1 &&& (3 : Int32))), .val (.int p2), .unset, .unset, .unset, .unset] at_40 rfl rfl ?_
        exact J _
      · intro c2
        refine r_iconst C 34 (1 : Int32) at_33 rfl rfl ?_
        refine r_istore C 36 #[.val (.int p0), .val (.int p1), .val (.int p2), .val (.int (6 : Int32)), .val (.ref a_UNKNOWN), .val (.int (p1 &&& (3 : Int32))), .val (.int (1 : Int32)), .unset, .unset, .unset, .unset] at_34 rfl rfl ?_
        refine r_goto C 42 at_36 (by decide) (by decide) ?_
        exact J _
    · intro c1
      refine r_iconst C 22 (0 : Int32) at_21 rfl rfl ?_
      refine r_istore C 24 #[.val (.int p0), .val (.int p1), .val (.int p2), .val (.int (6 : Int32)), .val (.ref a_UNKNOWN), .val (.int (p1 &&& (3 : Int32))), .val (.int (0 : Int32)), .unset, .unset, .unset, .unset] at_22 rfl rfl ?_
      refine r_goto C 42 at_24 (by decide) (by decide) ?_
      exact J _
  · refine r_istoreN C 5 #[.val (.int p0), .val (.int p1), .val (.int p2), .val (.int (7 : Int32)), .unset, .unset, .unset, .unset, .unset, .unset, .unset] at_4 rfl rfl ?_
    refine r_iloadN C 6 at_5 rfl rfl ?_
    refine r_callS C 9 (y := (⟨"com/example/bicameral/bicameral/analysis/VerdictFailsPinLaw", "pickVerdict", "(I)Lcom/example/bicameral/bicameral/analysis/Verdict;"⟩ : MethodName)) (a := 0) [(.int (7 : Int32))] [] (rmP7 l Z a0 hw a_TIMEOUT h0 n0 Zs S_TIMEOUT) (hw _ (List.mem_of_getElem? (i := 0) rfl)) (hw _ (List.mem_of_getElem? (i := 1) rfl)) (hw _ (List.mem_of_getElem? (i := 2) rfl)) (hw _ (List.mem_of_getElem? (i := 3) rfl)) (by decide) (lenOf pd__I_Lcom_example_bicameral_bicameral_analysis_Verdict_ rfl) rfl rfl (by decide) (by decide) (by decide) (by decide) rfl at_6 rfl ?_
    intro v57 h57 q57 z57
    obtain ⟨rfl, rfl⟩ := q57
    show Run _ _ _ _ _ _ _ _ 9 #[.val (.int p0), .val (.int p1), .val (.int p2), .val (.int (7 : Int32)), .unset, .unset, .unset, .unset, .unset, .unset, .unset] [(.ref a_TIMEOUT)]
    refine r_astore C 11 #[.val (.int p0), .val (.int p1), .val (.int p2), .val (.int (7 : Int32)), .val (.ref a_TIMEOUT), .unset, .unset, .unset, .unset, .unset, .unset] at_9 rfl rfl rfl ?_
    refine r_iloadN C 12 at_11 rfl rfl ?_
    refine r_iconst C 13 (3 : Int32) at_12 rfl rfl ?_
    refine r_iand C 14 at_13 rfl ?_
    refine r_istore C 16 #[.val (.int p0), .val (.int p1), .val (.int p2), .val (.int (7 : Int32)), .val (.ref a_TIMEOUT), .val (.int (p1 &&& (3 : Int32))), .unset, .unset, .unset, .unset, .unset] at_14 rfl rfl ?_
    have J : ∀ e : Int32, Run l room_1 n0 (fun v _ => v = some (.int 1)) K h0 (0 + 0) (0 + 0) 42 #[.val (.int p0), .val (.int p1), .val (.int p2), .val (.int (7 : Int32)), .val (.ref a_TIMEOUT), .val (.int (p1 &&& (3 : Int32))), .val (.int e), .unset, .unset, .unset, .unset] [] := by
      intro e
      refine r_iloadN C 43 at_42 rfl rfl ?_
      refine r_if_eq C 51 46 at_43 (by decide) (by decide) rfl (fun q => absurd q (by decide)) (fun _ => ?_)
      refine r_iloadN C 47 at_46 rfl rfl ?_
      refine r_iconst C 48 (3 : Int32) at_47 rfl rfl ?_
      refine r_icmp_ne C 55 51 at_48 (by decide) (by decide) rfl (fun _ => ?_) (fun q => absurd q (by decide))
      refine r_iconst C 56 (0 : Int32) at_55 rfl rfl ?_
      refine r_istore C 58 #[.val (.int p0), .val (.int p1), .val (.int p2), .val (.int (7 : Int32)), .val (.ref a_TIMEOUT), .val (.int (p1 &&& (3 : Int32))), .val (.int e), .val (.int (0 : Int32)), .unset, .unset, .unset] at_56 rfl rfl ?_
      refine r_iloadN C 59 at_58 rfl rfl ?_
      refine r_iconst C 60 (1 : Int32) at_59 rfl rfl ?_
      refine r_icmp_eq C 73 63 at_60 (by decide) (by decide) rfl (fun q => absurd q (by decide)) (fun _ => ?_)
      refine r_iloadN C 64 at_63 rfl rfl ?_
      refine r_iconst C 65 (2 : Int32) at_64 rfl rfl ?_
      refine r_icmp_eq C 73 68 at_65 (by decide) (by decide) rfl (fun q => absurd q (by decide)) (fun _ => ?_)
      refine r_iloadN C 69 at_68 rfl rfl ?_
      refine r_iconst C 70 (4 : Int32) at_69 rfl rfl ?_
      refine r_icmp_ne C 77 73 at_70 (by decide) (by decide) rfl (fun _ => ?_) (fun q => absurd q (by decide))
      refine r_iconst C 78 (0 : Int32) at_77 rfl rfl ?_
      refine r_istore C 80 #[.val (.int p0), .val (.int p1), .val (.int p2), .val (.int (7 : Int32)), .val (.ref a_TIMEOUT), .val (.int (p1 &&& (3 : Int32))), .val (.int e), .val (.int (0 : Int32)), .val (.int (0 : Int32)), .unset, .unset] at_78 rfl rfl ?_
      refine r_iload C 82 at_80 rfl rfl ?_
      refine r_if_eq C 95 85 at_82 (by decide) (by decide) rfl ?_ ?_
      · intro c58
        subst c58
        refine r_iconst C 96 (0 : Int32) at_95 rfl rfl ?_
        refine r_istore C 98 #[.val (.int p0), .val (.int p1), .val (.int p2), .val (.int (7 : Int32)), .val (.ref a_TIMEOUT), .val (.int (p1 &&& (3 : Int32))), .val (.int (0 : Int32)), .val (.int (0 : Int32)), .val (.int (0 : Int32)), .val (.int (0 : Int32)), .unset] at_96 rfl rfl ?_
        refine r_iload C 100 at_98 rfl rfl ?_
        refine r_if_eq C 108 103 at_100 (by decide) (by decide) rfl (fun _ => ?_) (fun q => absurd q (by decide))
        refine r_iload C 110 at_108 rfl rfl ?_
        refine r_if_eq C 119 113 at_110 (by decide) (by decide) rfl (fun _ => ?_) (fun q => absurd q (by decide))
        refine r_iloadN C 120 at_119 rfl rfl ?_
        refine r_if_ne C 132 123 at_120 (by decide) (by decide) rfl (fun _ => ?_) (fun q => absurd q (by decide))
        refine r_iconst C 133 (0 : Int32) at_132 rfl rfl ?_
        refine r_istore C 135 #[.val (.int p0), .val (.int p1), .val (.int p2), .val (.int (7 : Int32)), .val (.ref a_TIMEOUT), .val (.int (p1 &&& (3 : Int32))), .val (.int (0 : Int32)), .val (.int (0 : Int32)), .val (.int (0 : Int32)), .val (.int (0 : Int32)), .val (.int (0 : Int32))] at_133 rfl rfl ?_
        refine r_aload C 137 at_135 rfl rfl rfl ?_
        refine r_iload C 139 at_137 rfl rfl ?_
        refine r_callV C 142 (y := (⟨"com/example/bicameral/bicameral/analysis/Verdict", "fails", "(I)Z"⟩ : MethodName)) (z := (⟨"com/example/bicameral/bicameral/analysis/Verdict", "fails", "(I)Z"⟩ : MethodName)) (D := "com/example/bicameral/bicameral/analysis/Verdict") (a := a_TIMEOUT) [(.int (0 : Int32))] [] (rmF7 l Z a0 hw a_TIMEOUT (0 : Int32) h0 n0 Zs E_a_TIMEOUT F_ordinal_a_TIMEOUT) (hw _ (List.mem_of_getElem? (i := 7) rfl)) (hw _ (List.mem_of_getElem? (i := 8) rfl)) (fun s hZ' => notFace_of_selects (args := #[]) (mvT hZ' (hw _ (List.mem_of_getElem? (i := 10) rfl)))) (hw _ (List.mem_of_getElem? (i := 10) rfl)) (hw _ (List.mem_of_getElem? (i := 9) rfl)) (hw _ (List.mem_of_getElem? (i := 5) rfl)) (hw _ (List.mem_of_getElem? (i := 11) rfl)) E_a_TIMEOUT (by decide) (lenOf pd__I_Z rfl) rfl rfl (by decide) (by decide) (by decide) (by decide) rfl at_139 rfl ?_
        intro v59 h59 q59 z59
        obtain ⟨rfl, rfl⟩ := q59
        show Run _ _ _ _ _ _ _ _ 142 #[.val (.int p0), .val (.int p1), .val (.int p2), .val (.int (7 : Int32)), .val (.ref a_TIMEOUT), .val (.int (p1 &&& (3 : Int32))), .val (.int (0 : Int32)), .val (.int (0 : Int32)), .val (.int (0 : Int32)), .val (.int (0 : Int32)), .val (.int (0 : Int32))] [(.int (failsv 7 (0 : Int32)))]
        rw [show failsv 7 (0 : Int32) = (0 : Int32) from by simp [failsv]]
        refine r_iload C 144 at_142 rfl rfl ?_
        refine r_icmp_ne C 151 147 at_144 (by decide) (by decide) rfl (fun q => absurd q (by decide)) (fun _ => ?_)
        refine r_iconst C 148 (1 : Int32) at_147 rfl rfl ?_
        refine r_goto C 152 at_148 (by decide) (by decide) ?_
        exact r_nreturn C (1 : Int32) rfl (t := .boolean) (by simp) rfl at_152 (by decide) (by decide) rfl
      · intro c58
        refine r_iload C 87 at_85 rfl rfl ?_
        refine r_iconst C 88 (1 : Int32) at_87 rfl rfl ?_
        refine r_icmp_eq C 95 91 at_88 (by decide) (by decide) rfl ?_ ?_
        · intro c60
          subst c60
          refine r_iconst C 96 (0 : Int32) at_95 rfl rfl ?_
          refine r_istore C 98 #[.val (.int p0), .val (.int p1), .val (.int p2), .val (.int (7 : Int32)), .val (.ref a_TIMEOUT), .val (.int (p1 &&& (3 : Int32))), .val (.int (1 : Int32)), .val (.int (0 : Int32)), .val (.int (0 : Int32)), .val (.int (0 : Int32)), .unset] at_96 rfl rfl ?_
          refine r_iload C 100 at_98 rfl rfl ?_
          refine r_if_eq C 108 103 at_100 (by decide) (by decide) rfl (fun _ => ?_) (fun q => absurd q (by decide))
          refine r_iload C 110 at_108 rfl rfl ?_
          refine r_if_eq C 119 113 at_110 (by decide) (by decide) rfl (fun _ => ?_) (fun q => absurd q (by decide))
          refine r_iloadN C 120 at_119 rfl rfl ?_
          refine r_if_ne C 132 123 at_120 (by decide) (by decide) rfl (fun _ => ?_) (fun q => absurd q (by decide))
          refine r_iconst C 133 (0 : Int32) at_132 rfl rfl ?_
          refine r_istore C 135 #[.val (.int p0), .val (.int p1), .val (.int p2), .val (.int (7 : Int32)), .val (.ref a_TIMEOUT), .val (.int (p1 &&& (3 : Int32))), .val (.int (1 : Int32)), .val (.int (0 : Int32)), .val (.int (0 : Int32)), .val (.int (0 : Int32)), .val (.int (0 : Int32))] at_133 rfl rfl ?_
          refine r_aload C 137 at_135 rfl rfl rfl ?_
          refine r_iload C 139 at_137 rfl rfl ?_
          refine r_callV C 142 (y := (⟨"com/example/bicameral/bicameral/analysis/Verdict", "fails", "(I)Z"⟩ : MethodName)) (z := (⟨"com/example/bicameral/bicameral/analysis/Verdict", "fails", "(I)Z"⟩ : MethodName)) (D := "com/example/bicameral/bicameral/analysis/Verdict") (a := a_TIMEOUT) [(.int (1 : Int32))] [] (rmF7 l Z a0 hw a_TIMEOUT (1 : Int32) h0 n0 Zs E_a_TIMEOUT F_ordinal_a_TIMEOUT) (hw _ (List.mem_of_getElem? (i := 7) rfl)) (hw _ (List.mem_of_getElem? (i := 8) rfl)) (fun s hZ' => notFace_of_selects (args := #[]) (mvT hZ' (hw _ (List.mem_of_getElem? (i := 10) rfl)))) (hw _ (List.mem_of_getElem? (i := 10) rfl)) (hw _ (List.mem_of_getElem? (i := 9) rfl)) (hw _ (List.mem_of_getElem? (i := 5) rfl)) (hw _ (List.mem_of_getElem? (i := 11) rfl)) E_a_TIMEOUT (by decide) (lenOf pd__I_Z rfl) rfl rfl (by decide) (by decide) (by decide) (by decide) rfl at_139 rfl ?_
          intro v61 h61 q61 z61
          obtain ⟨rfl, rfl⟩ := q61
          show Run _ _ _ _ _ _ _ _ 142 #[.val (.int p0), .val (.int p1), .val (.int p2), .val (.int (7 : Int32)), .val (.ref a_TIMEOUT), .val (.int (p1 &&& (3 : Int32))), .val (.int (1 : Int32)), .val (.int (0 : Int32)), .val (.int (0 : Int32)), .val (.int (0 : Int32)), .val (.int (0 : Int32))] [(.int (failsv 7 (1 : Int32)))]
          rw [show failsv 7 (1 : Int32) = (0 : Int32) from by simp [failsv, c58]]
          refine r_iload C 144 at_142 rfl rfl ?_
          refine r_icmp_ne C 151 147 at_144 (by decide) (by decide) rfl (fun q => absurd q (by decide)) (fun _ => ?_)
          refine r_iconst C 148 (1 : Int32) at_147 rfl rfl ?_
          refine r_goto C 152 at_148 (by decide) (by decide) ?_
          exact r_nreturn C (1 : Int32) rfl (t := .boolean) (by simp) rfl at_152 (by decide) (by decide) rfl
        · intro c60
          refine r_iconst C 92 (1 : Int32) at_91 rfl rfl ?_
          refine r_goto C 96 at_92 (by decide) (by decide) ?_
          refine r_istore C 98 #[.val (.int p0), .val (.int p1), .val (.int p2), .val (.int (7 : Int32)), .val (.ref a_TIMEOUT), .val (.int (p1 &&& (3 : Int32))), .val (.int e), .val (.int (0 : Int32)), .val (.int (0 : Int32)), .val (.int (1 : Int32)), .unset] at_96 rfl rfl ?_
          refine r_iload C 100 at_98 rfl rfl ?_
          refine r_if_eq C 108 103 at_100 (by decide) (by decide) rfl (fun _ => ?_) (fun q => absurd q (by decide))
          refine r_iload C 110 at_108 rfl rfl ?_
          refine r_if_eq C 119 113 at_110 (by decide) (by decide) rfl (fun _ => ?_) (fun q => absurd q (by decide))
          refine r_iloadN C 120 at_119 rfl rfl ?_
          refine r_if_ne C 132 123 at_120 (by decide) (by decide) rfl (fun _ => ?_) (fun q => absurd q (by decide))
          refine r_iconst C 133 (0 : Int32) at_132 rfl rfl ?_
          refine r_istore C 135 #[.val (.int p0), .val (.int p1), .val (.int p2), .val (.int (7 : Int32)), .val (.ref a_TIMEOUT), .val (.int (p1 &&& (3 : Int32))), .val (.int e), .val (.int (0 : Int32)), .val (.int (0 : Int32)), .val (.int (1 : Int32)), .val (.int (0 : Int32))] at_133 rfl rfl ?_
          refine r_aload C 137 at_135 rfl rfl rfl ?_
          refine r_iload C 139 at_137 rfl rfl ?_
          refine r_callV C 142 (y := (⟨"com/example/bicameral/bicameral/analysis/Verdict", "fails", "(I)Z"⟩ : MethodName)) (z := (⟨"com/example/bicameral/bicameral/analysis/Verdict", "fails", "(I)Z"⟩ : MethodName)) (D := "com/example/bicameral/bicameral/analysis/Verdict") (a := a_TIMEOUT) [(.int e)] [] (rmF7 l Z a0 hw a_TIMEOUT e h0 n0 Zs E_a_TIMEOUT F_ordinal_a_TIMEOUT) (hw _ (List.mem_of_getElem? (i := 7) rfl)) (hw _ (List.mem_of_getElem? (i := 8) rfl)) (fun s hZ' => notFace_of_selects (args := #[]) (mvT hZ' (hw _ (List.mem_of_getElem? (i := 10) rfl)))) (hw _ (List.mem_of_getElem? (i := 10) rfl)) (hw _ (List.mem_of_getElem? (i := 9) rfl)) (hw _ (List.mem_of_getElem? (i := 5) rfl)) (hw _ (List.mem_of_getElem? (i := 11) rfl)) E_a_TIMEOUT (by decide) (lenOf pd__I_Z rfl) rfl rfl (by decide) (by decide) (by decide) (by decide) rfl at_139 rfl ?_
          intro v62 h62 q62 z62
          obtain ⟨rfl, rfl⟩ := q62
          show Run _ _ _ _ _ _ _ _ 142 #[.val (.int p0), .val (.int p1), .val (.int p2), .val (.int (7 : Int32)), .val (.ref a_TIMEOUT), .val (.int (p1 &&& (3 : Int32))), .val (.int e), .val (.int (0 : Int32)), .val (.int (0 : Int32)), .val (.int (1 : Int32)), .val (.int (0 : Int32))] [(.int (failsv 7 e))]
          rw [show failsv 7 e = (0 : Int32) from by simp [failsv, c58, c60]]
          refine r_iload C 144 at_142 rfl rfl ?_
          refine r_icmp_ne C 151 147 at_144 (by decide) (by decide) rfl (fun q => absurd q (by decide)) (fun _ => ?_)
          refine r_iconst C 148 (1 : Int32) at_147 rfl rfl ?_
          refine r_goto C 152 at_148 (by decide) (by decide) ?_
          exact r_nreturn C (1 : Int32) rfl (t := .boolean) (by simp) rfl at_152 (by decide) (by decide) rfl
    refine r_iload C 18 at_16 rfl rfl ?_
    refine r_if_ne C 27 21 at_18 (by decide) (by decide) rfl ?_ ?_
    · intro c1
      refine r_iload C 29 at_27 rfl rfl ?_
      refine r_iconst C 30 (1 : Int32) at_29 rfl rfl ?_
      refine r_icmp_ne C 39 33 at_30 (by decide) (by decide) rfl ?_ ?_
      · intro c2
        refine r_iloadN C 40 at_39 rfl rfl ?_
        refine r_istore C 42 #[.val (.int p0), .val (.int p1), .val (.int p2), .val (.int (7 : Int32)), .val (.ref a_TIMEOUT), .val (.int (p1 &&& (3 : Int32))), .val (.int p2), .unset, .unset, .unset, .unset] at_40 rfl rfl ?_
        exact J _
      · intro c2
        refine r_iconst C 34 (1 : Int32) at_33 rfl rfl ?_
        refine r_istore C 36 #[.val (.int p0), .val (.int p1), .val (.int p2), .val (.int (7 : Int32)), .val (.ref a_TIMEOUT), .val (.int (p1 &&& (3 : Int32))), .val (.int (1 : Int32)), .unset, .unset, .unset, .unset] at_34 rfl rfl ?_
        refine r_goto C 42 at_36 (by decide) (by decide) ?_
        exact J _
    · intro c1
      refine r_iconst C 22 (0 : Int32) at_21 rfl rfl ?_
      refine r_istore C 24 #[.val (.int p0), .val (.int p1), .val (.int p2), .val (.int (7 : Int32)), .val (.ref a_TIMEOUT), .val (.int (p1 &&& (3 : Int32))), .val (.int (0 : Int32)), .unset, .unset, .unset, .unset] at_22 rfl rfl ?_
      refine r_goto C 42 at_24 (by decide) (by decide) ?_
      exact J _
set_option maxRecDepth 65536 in
set_option maxHeartbeats 40000000 in
theorem comes_1 {Post : Tables → Env → Array Value → State → Outcome → State → Prop} (hpost : ∀ tb e args s v u, (limb_1_1.after args s (.returned v) u = true ∧ limb_1_2.after args s (.returned v) u = true ∧ True) → FrameEnd s (.returned v) u (Jvm.fieldLocs frame_1_writes args s ++ Jvm.arrayLocs frame_1_arrays args s ++ Jvm.staticLocs frame_1_statics s) 0 0 → Post tb e args s (.returned v) u) :
    ArmFor flags0 classFile x code maxLocals ret World_1 tables_1 room_1 Calls_1 rest_1 Pre_1 Post := by
  intro l hfl _ _ p e ha hc hk s m args below hf hA hF happ hP
  obtain ⟨hcalls, hrest, hpre⟩ := hP
  obtain ⟨-, -, -, hnamed, -, -, -, hat⟩ := (Spec.applies_iff hf).mp happ
  obtain ⟨hg, hn⟩ := and_e (Cond.before_iff.mp (show (Jvm.Cond.and given_1 narrow_1).before args s = true from hpre))
  obtain ⟨hcnt, hg⟩ := and_e hg
  obtain ⟨ha0, hg⟩ := and_e hg
  obtain ⟨ha1, hg⟩ := and_e hg
  have ha2 := hg
  obtain ⟨w0, w1, w2, rfl⟩ : ∃ w0 w1 w2 : Value, args = #[w0, w1, w2] := by
    have hs : args.size = 3 := by simpa [Cond.value, given_1] using hcnt
    obtain ⟨L⟩ := args
    match L, hs with
    | [w0, w1, w2], _ => exact ⟨w0, w1, w2, rfl⟩
  have hw := fun d (hd : d ∈ tables_1) => atoms_spec (ws := Jvm.Cond.code x code maxLocals ret :: tables_1) hat d (List.mem_cons_of_mem _ hd)
  have hfit : Fit s := fun {y c} hc i hi => by
    obtain ⟨ha, rfl⟩ := Array.getElem?_eq_some_iff.mp hc
    have q := List.all_eq_true.mp ((Array.all_eq_true_iff_forall_mem.mp hF) _ (Array.getElem_mem ha)) i (List.mem_range.mpr hi)
    simpa [Array.getElem?_eq_getElem hi] using q
  obtain ⟨i0, ei0⟩ := is_v ha0
  obtain rfl : w0 = (.int i0) := Option.some.inj ei0
  obtain ⟨i1, ei1⟩ := is_v ha1
  obtain rfl : w1 = (.int i1) := Option.some.inj ei1
  obtain ⟨i2, ei2⟩ := is_v ha2
  obtain rfl : w2 = (.int i2) := Option.some.inj ei2
  obtain ⟨m0, hn⟩ := and_e hn
  obtain ⟨a_COUNTEREXAMPLE, e_a_COUNTEREXAMPLE⟩ := exa_v m0
  have S_COUNTEREXAMPLE : Sta s s.heap "com/example/bicameral/bicameral/analysis/Verdict" "COUNTEREXAMPLE" "Lcom/example/bicameral/bicameral/analysis/Verdict;" (.ref a_COUNTEREXAMPLE) := Sta.start e_a_COUNTEREXAMPLE (Or.inr ⟨(hw _ (List.mem_of_getElem? (i := 5) rfl)), (hw _ (List.mem_of_getElem? (i := 6) rfl))⟩)
  have E_a_COUNTEREXAMPLE : Exa s s.heap a_COUNTEREXAMPLE "com/example/bicameral/bicameral/analysis/Verdict" := Exa.start e_a_COUNTEREXAMPLE m0
  obtain ⟨m1, hn⟩ := and_e hn
  have F_ordinal_a_COUNTEREXAMPLE : Fld s s.heap a_COUNTEREXAMPLE "java/lang/Enum" "ordinal" "I" (.int (0 : Int32)) := Fld.start ((fld_at e_a_COUNTEREXAMPLE).symm.trans (eqv m1 rfl))
  obtain ⟨m2, hn⟩ := and_e hn
  obtain ⟨a_NO_COUNTEREXAMPLE, e_a_NO_COUNTEREXAMPLE⟩ := exa_v m2
  have S_NO_COUNTEREXAMPLE : Sta s s.heap "com/example/bicameral/bicameral/analysis/Verdict" "NO_COUNTEREXAMPLE" "Lcom/example/bicameral/bicameral/analysis/Verdict;" (.ref a_NO_COUNTEREXAMPLE) := Sta.start e_a_NO_COUNTEREXAMPLE (Or.inr ⟨(hw _ (List.mem_of_getElem? (i := 5) rfl)), (hw _ (List.mem_of_getElem? (i := 22) rfl))⟩)
  have E_a_NO_COUNTEREXAMPLE : Exa s s.heap a_NO_COUNTEREXAMPLE "com/example/bicameral/bicameral/analysis/Verdict" := Exa.start e_a_NO_COUNTEREXAMPLE m2
  obtain ⟨m3, hn⟩ := and_e hn
  have F_ordinal_a_NO_COUNTEREXAMPLE : Fld s s.heap a_NO_COUNTEREXAMPLE "java/lang/Enum" "ordinal" "I" (.int (1 : Int32)) := Fld.start ((fld_at e_a_NO_COUNTEREXAMPLE).symm.trans (eqv m3 rfl))
  obtain ⟨m4, hn⟩ := and_e hn
  obtain ⟨a_NO_INSTANCE, e_a_NO_INSTANCE⟩ := exa_v m4
  have S_NO_INSTANCE : Sta s s.heap "com/example/bicameral/bicameral/analysis/Verdict" "NO_INSTANCE" "Lcom/example/bicameral/bicameral/analysis/Verdict;" (.ref a_NO_INSTANCE) := Sta.start e_a_NO_INSTANCE (Or.inr ⟨(hw _ (List.mem_of_getElem? (i := 5) rfl)), (hw _ (List.mem_of_getElem? (i := 24) rfl))⟩)
  have E_a_NO_INSTANCE : Exa s s.heap a_NO_INSTANCE "com/example/bicameral/bicameral/analysis/Verdict" := Exa.start e_a_NO_INSTANCE m4
  obtain ⟨m5, hn⟩ := and_e hn
  have F_ordinal_a_NO_INSTANCE : Fld s s.heap a_NO_INSTANCE "java/lang/Enum" "ordinal" "I" (.int (4 : Int32)) := Fld.start ((fld_at e_a_NO_INSTANCE).symm.trans (eqv m5 rfl))
  obtain ⟨m6, hn⟩ := and_e hn
  obtain ⟨a_TIMEOUT, e_a_TIMEOUT⟩ := exa_v m6
  have S_TIMEOUT : Sta s s.heap "com/example/bicameral/bicameral/analysis/Verdict" "TIMEOUT" "Lcom/example/bicameral/bicameral/analysis/Verdict;" (.ref a_TIMEOUT) := Sta.start e_a_TIMEOUT (Or.inr ⟨(hw _ (List.mem_of_getElem? (i := 5) rfl)), (hw _ (List.mem_of_getElem? (i := 26) rfl))⟩)
  have E_a_TIMEOUT : Exa s s.heap a_TIMEOUT "com/example/bicameral/bicameral/analysis/Verdict" := Exa.start e_a_TIMEOUT m6
  obtain ⟨m7, hn⟩ := and_e hn
  have F_ordinal_a_TIMEOUT : Fld s s.heap a_TIMEOUT "java/lang/Enum" "ordinal" "I" (.int (7 : Int32)) := Fld.start ((fld_at e_a_TIMEOUT).symm.trans (eqv m7 rfl))
  obtain ⟨m8, hn⟩ := and_e hn
  obtain ⟨a_PROVED, e_a_PROVED⟩ := exa_v m8
  have S_PROVED : Sta s s.heap "com/example/bicameral/bicameral/analysis/Verdict" "PROVED" "Lcom/example/bicameral/bicameral/analysis/Verdict;" (.ref a_PROVED) := Sta.start e_a_PROVED (Or.inr ⟨(hw _ (List.mem_of_getElem? (i := 5) rfl)), (hw _ (List.mem_of_getElem? (i := 28) rfl))⟩)
  have E_a_PROVED : Exa s s.heap a_PROVED "com/example/bicameral/bicameral/analysis/Verdict" := Exa.start e_a_PROVED m8
  obtain ⟨m9, hn⟩ := and_e hn
  have F_ordinal_a_PROVED : Fld s s.heap a_PROVED "java/lang/Enum" "ordinal" "I" (.int (2 : Int32)) := Fld.start ((fld_at e_a_PROVED).symm.trans (eqv m9 rfl))
  obtain ⟨m10, hn⟩ := and_e hn
  obtain ⟨a_INSTANCE, e_a_INSTANCE⟩ := exa_v m10
  have S_INSTANCE : Sta s s.heap "com/example/bicameral/bicameral/analysis/Verdict" "INSTANCE" "Lcom/example/bicameral/bicameral/analysis/Verdict;" (.ref a_INSTANCE) := Sta.start e_a_INSTANCE (Or.inr ⟨(hw _ (List.mem_of_getElem? (i := 5) rfl)), (hw _ (List.mem_of_getElem? (i := 30) rfl))⟩)
  have E_a_INSTANCE : Exa s s.heap a_INSTANCE "com/example/bicameral/bicameral/analysis/Verdict" := Exa.start e_a_INSTANCE m10
  obtain ⟨m11, hn⟩ := and_e hn
  have F_ordinal_a_INSTANCE : Fld s s.heap a_INSTANCE "java/lang/Enum" "ordinal" "I" (.int (3 : Int32)) := Fld.start ((fld_at e_a_INSTANCE).symm.trans (eqv m11 rfl))
  obtain ⟨m12, hn⟩ := and_e hn
  obtain ⟨a_UNSUPPORTED, e_a_UNSUPPORTED⟩ := exa_v m12
  have S_UNSUPPORTED : Sta s s.heap "com/example/bicameral/bicameral/analysis/Verdict" "UNSUPPORTED" "Lcom/example/bicameral/bicameral/analysis/Verdict;" (.ref a_UNSUPPORTED) := Sta.start e_a_UNSUPPORTED (Or.inr ⟨(hw _ (List.mem_of_getElem? (i := 5) rfl)), (hw _ (List.mem_of_getElem? (i := 32) rfl))⟩)
  have E_a_UNSUPPORTED : Exa s s.heap a_UNSUPPORTED "com/example/bicameral/bicameral/analysis/Verdict" := Exa.start e_a_UNSUPPORTED m12
  obtain ⟨m13, hn⟩ := and_e hn
  have F_ordinal_a_UNSUPPORTED : Fld s s.heap a_UNSUPPORTED "java/lang/Enum" "ordinal" "I" (.int (5 : Int32)) := Fld.start ((fld_at e_a_UNSUPPORTED).symm.trans (eqv m13 rfl))
  obtain ⟨m14, hn⟩ := and_e hn
  obtain ⟨a_UNKNOWN, e_a_UNKNOWN⟩ := exa_v m14
  have S_UNKNOWN : Sta s s.heap "com/example/bicameral/bicameral/analysis/Verdict" "UNKNOWN" "Lcom/example/bicameral/bicameral/analysis/Verdict;" (.ref a_UNKNOWN) := Sta.start e_a_UNKNOWN (Or.inr ⟨(hw _ (List.mem_of_getElem? (i := 5) rfl)), (hw _ (List.mem_of_getElem? (i := 34) rfl))⟩)
  have E_a_UNKNOWN : Exa s s.heap a_UNKNOWN "com/example/bicameral/bicameral/analysis/Verdict" := Exa.start e_a_UNKNOWN m14
  have m15 := hn
  have F_ordinal_a_UNKNOWN : Fld s s.heap a_UNKNOWN "java/lang/Enum" "ordinal" "I" (.int (6 : Int32)) := Fld.start ((fld_at e_a_UNKNOWN).symm.trans (eqv m15 rfl))
  obtain ⟨n, o, h1, h2, h3, _, L, rfl, ⟨⟨rfl, -⟩, N⟩, hq⟩ := rm0 l s _ hw tables_1 i0 i1 i2 s.heap s.heap.size (Nat.le_refl _) a_COUNTEREXAMPLE a_NO_COUNTEREXAMPLE a_NO_INSTANCE a_TIMEOUT a_PROVED a_INSTANCE a_UNSUPPORTED a_UNKNOWN S_COUNTEREXAMPLE E_a_COUNTEREXAMPLE F_ordinal_a_COUNTEREXAMPLE S_NO_COUNTEREXAMPLE E_a_NO_COUNTEREXAMPLE F_ordinal_a_NO_COUNTEREXAMPLE S_NO_INSTANCE E_a_NO_INSTANCE F_ordinal_a_NO_INSTANCE S_TIMEOUT E_a_TIMEOUT F_ordinal_a_TIMEOUT S_PROVED E_a_PROVED F_ordinal_a_PROVED S_INSTANCE E_a_INSTANCE F_ordinal_a_INSTANCE S_UNSUPPORTED E_a_UNSUPPORTED F_ordinal_a_UNSUPPORTED S_UNKNOWN E_a_UNKNOWN F_ordinal_a_UNKNOWN p e ha hc hk s m _ below hf ((Spec.applies_iff_loose hf).mp happ).1 ⟨rfl, State.Warmed39.refl s, rfl⟩ trivial
  refine ⟨n, _, h1, h2, h3, hpost _ _ _ _ _ _ ⟨Cond.after_iff.mpr rfl, Cond.after_iff.mpr (eq_i res_at (Term.int_eval (1)) rfl), trivial⟩ ⟨hq.1, hq.2.1, (hq.2.2.sift fun y hy => Or.inr (N y hy)).mono (by decide) (by decide)⟩⟩
theorem main_1_1 : Claimed_1_1 := comes_1 fun _ _ _ _ _ _ h hF => ⟨h.1, hF⟩
theorem main_1_2 : Claimed_1_2 := comes_1 fun _ _ _ _ _ _ h hF => ⟨h.2.1, hF⟩
end Jvm.Pilot.@@N@@
namespace Jvm.Pilot.@@N@@
open Jvm Jvm.ClassFile Sem Op Lib Jvm.Free Jvm.Stand Jvm.Pilot.@@N@@.Jvm.D
/-! MADE BY PROGRAM (witnessworld.py) out of the Statement's table words and the real class files: 12 classes; the members and pool entries that the words name. The judged class is class 1, her method 2. -/
namespace start1
open Jvm.ClassFile
def u (s : String) : CpInfo := .utf8 (stringToUtf16 s)
/-- a pool by its gaps: so many unusable entries, then the entry; so many at the end -/
def gap : Nat → List CpInfo → List CpInfo
  | 0, r => r
  | n + 1, r => .unusable :: gap n r
def poolList (es : List (Nat × CpInfo)) (last : Nat) : List CpInfo := es.foldr (fun e r => gap e.1 (e.2 :: r)) (gap last [])
def pool (es : List (Nat × CpInfo)) (last : Nat) : Array CpInfo := ⟨poolList es last⟩
def fileOf (pool : Array CpInfo) (this : Nat) (attrs : Array Attribute := #[]) (ms : Array MethodInfo := #[]) (fl : Nat := 33) (sup : Nat := 0) (ifs : Array Nat := #[]) (fds : Array FieldInfo := #[]) : ClassFile where
  minorVersion := 0
  majorVersion := 65
  constantPool := pool
  accessFlags := fl
  thisClass := this
  superClass := sup
  interfaces := ifs
  fields := fds
  methods := ms
  attributes := attrs
def plain (name : String) (sup : Option ClassId) : Class where
  name := name
  kind := .ordinary
  loader := none
  accessFlags := 33
  super := sup
  interfaces := #[]
  cf := none
  fields := #[]
  methods := #[]
  instanceTypes := #[]
  staticTypes := #[]
  resolved := #[]
  callSites := []
  init := .initialized
  statics := none
  mirror := none

def pool0 : Array CpInfo := pool [(5, u "<init>"), (0, u "()V"), (1, .class_ 10), (1, u "java/lang/Object")] 113

def k0m0 : Method := { name := "<init>", desc := "()V", sig := { parameters := [], returnType := none }, accessFlags := 1, code := none }
/-- java/lang/Object -/
def k0 : Class := { plain "java/lang/Object" none with
  accessFlags := 33
  interfaces := #[]
  cf := some (fileOf pool0 8 #[] #[{ accessFlags := 1, nameIndex := 5, descriptorIndex := 6, attributes := #[] }] 33 0 #[] #[])
  fields := #[]
  methods := #[k0m0]
  instanceTypes := #[]
  staticTypes := #[]
  resolved := Array.replicate 124 none
  statics := none }

def pool1 : Array CpInfo := pool [(2, .class_ 4), (1, u "java/lang/Object"), (0, u "<init>"), (0, u "()V"), (0, .fieldref 8 9), (0, .class_ 10), (0, .nameAndType 11 12), (0, u "com/example/bicameral/bicameral/analysis/Verdict"), (0, u "COUNTEREXAMPLE"), (0, u "Lcom/example/bicameral/bicameral/analysis/Verdict;"), (0, .fieldref 8 14), (0, .nameAndType 15 12), (0, u "NO_COUNTEREXAMPLE"), (0, .fieldref 8 17), (0, .nameAndType 18 12), (0, u "PROVED"), (0, .fieldref 8 20), (0, .nameAndType 21 12), (0, u "INSTANCE"), (0, .fieldref 8 23), (0, .nameAndType 24 12), (0, u "NO_INSTANCE"), (0, .fieldref 8 26), (0, .nameAndType 27 12), (0, u "UNSUPPORTED"), (0, .fieldref 8 29), (0, .nameAndType 30 12), (0, u "UNKNOWN"), (0, .fieldref 8 32), (0, .nameAndType 33 12), (0, u "TIMEOUT"), (0, .methodref 35 36), (0, .class_ 37), (0, .nameAndType 38 39), (0, u "com/example/bicameral/bicameral/analysis/VerdictFailsPinLaw"), (0, u "pickVerdict"), (0, u "(I)Lcom/example/bicameral/bicameral/analysis/Verdict;"), (0, .methodref 8 41), (0, .nameAndType 42 43), (0, u "fails"), (0, u "(I)Z"), (3, u "law"), (0, u "(III)Z")] 2

def k1m0 : Method := { name := "<init>", desc := "()V", sig := { parameters := [], returnType := none }, accessFlags := 1, code := none }
def k1c1 : Code := { maxStack := 2, maxLocals := 1, code := method_2_code, exceptionTable := #[], attributes := #[] }
def k1m1 : Method := { name := "pickVerdict", desc := "(I)Lcom/example/bicameral/bicameral/analysis/Verdict;", sig := { parameters := [.int], returnType := some (.object "com/example/bicameral/bicameral/analysis/Verdict") }, accessFlags := 10, code := some k1c1 }
def k1c2 : Code := { maxStack := 2, maxLocals := 11, code := code, exceptionTable := #[], attributes := #[] }
def k1m2 : Method := { name := "law", desc := "(III)Z", sig := { parameters := [.int, .int, .int], returnType := some .boolean }, accessFlags := 9, code := some k1c2 }
/-- com/example/bicameral/bicameral/analysis/VerdictFailsPinLaw -/
def k1 : Class := { plain "com/example/bicameral/bicameral/analysis/VerdictFailsPinLaw" (some 0) with
  accessFlags := 49
  interfaces := #[]
  cf := some (fileOf pool1 35 #[] #[{ accessFlags := 1, nameIndex := 5, descriptorIndex := 6, attributes := #[] }, { accessFlags := 10, nameIndex := 38, descriptorIndex := 39, attributes := #[] }, { accessFlags := 9, nameIndex := 47, descriptorIndex := 48, attributes := #[] }] 49 2 #[] #[])
  fields := #[]
  methods := #[k1m0, k1m1, k1m2]
  instanceTypes := #[]
  staticTypes := #[]
  resolved := Array.replicate 51 none
  statics := none }

def pool2 : Array CpInfo := pool [(1, .class_ 2), (0, u "java/lang/constant/Constable"), (0, .class_ 4), (0, u "java/lang/Object")] 6

/-- java/lang/constant/Constable -/
def k2 : Class := { plain "java/lang/constant/Constable" (some 0) with
  accessFlags := 1537
  interfaces := #[]
  cf := some (fileOf pool2 1 #[] #[] 1537 3 #[] #[])
  fields := #[]
  methods := #[]
  instanceTypes := #[]
  staticTypes := #[]
  resolved := Array.replicate 11 none
  statics := none }

def pool3 : Array CpInfo := pool [(1, .class_ 2), (0, u "java/lang/Comparable"), (0, .class_ 4), (0, u "java/lang/Object")] 7

/-- java/lang/Comparable -/
def k3 : Class := { plain "java/lang/Comparable" (some 0) with
  accessFlags := 1537
  interfaces := #[]
  cf := some (fileOf pool3 1 #[] #[] 1537 3 #[] #[])
  fields := #[]
  methods := #[]
  instanceTypes := #[]
  staticTypes := #[]
  resolved := Array.replicate 12 none
  statics := none }

def pool4 : Array CpInfo := pool [(1, .class_ 2), (0, u "java/io/Serializable"), (0, .class_ 4), (0, u "java/lang/Object")] 2

/-- java/io/Serializable -/
def k4 : Class := { plain "java/io/Serializable" (some 0) with
  accessFlags := 1537
  interfaces := #[]
  cf := some (fileOf pool4 1 #[] #[] 1537 3 #[] #[])
  fields := #[]
  methods := #[]
  instanceTypes := #[]
  staticTypes := #[]
  resolved := Array.replicate 7 none
  statics := none }

def pool5 : Array CpInfo := pool [(2, .class_ 4), (1, u "java/lang/Enum"), (0, u "name"), (0, u "Ljava/lang/String;"), (0, .fieldref 2 8), (0, .nameAndType 9 10), (0, u "ordinal"), (0, u "I"), (1, .class_ 14), (1, u "java/lang/Object"), (4, u "hash"), (86, .class_ 108), (1, u "java/lang/Enum$EnumDesc"), (2, .class_ 112), (0, u "java/lang/constant/Constable"), (0, .class_ 114), (0, u "java/lang/Comparable"), (0, .class_ 116), (0, u "java/io/Serializable"), (9, u "()I")] 77

def k5c0 : Code := { maxStack := 1, maxLocals := 1, code := jdk_37_method_2_code, exceptionTable := #[], attributes := #[] }
def k5m0 : Method := { name := "ordinal", desc := "()I", sig := { parameters := [], returnType := some .int }, accessFlags := 17, code := some k5c0 }
/-- java/lang/Enum -/
def k5 : Class := { plain "java/lang/Enum" (some 0) with
  accessFlags := 1057
  interfaces := #[2, 3, 4]
  cf := some (fileOf pool5 2 #[.nestMembers #[106]] #[{ accessFlags := 17, nameIndex := 9, descriptorIndex := 126, attributes := #[] }] 1057 12 #[111, 113, 115] #[{ accessFlags := 18, nameIndex := 5, descriptorIndex := 6, attributes := #[] }, { accessFlags := 18, nameIndex := 9, descriptorIndex := 10, attributes := #[] }, { accessFlags := 2, nameIndex := 19, descriptorIndex := 10, attributes := #[] }])
  fields := #[{ name := "name", type := (.object "java/lang/String"), accessFlags := 18, slot := 0, constantValue := 0 }, { name := "ordinal", type := .int, accessFlags := 18, slot := 1, constantValue := 0 }, { name := "hash", type := .int, accessFlags := 2, slot := 2, constantValue := 0 }]
  methods := #[k5m0]
  instanceTypes := #[(.object "java/lang/String"), .int, .int]
  staticTypes := #[]
  resolved := Array.replicate 204 none
  statics := none }

def pool6 : Array CpInfo := pool [(1, .class_ 2), (0, u "com/example/bicameral/bicameral/analysis/Verdict"), (2, u "COUNTEREXAMPLE"), (0, u "Lcom/example/bicameral/bicameral/analysis/Verdict;"), (2, u "NO_COUNTEREXAMPLE"), (2, u "PROVED"), (2, u "INSTANCE"), (2, u "NO_INSTANCE"), (2, u "UNSUPPORTED"), (2, u "UNKNOWN"), (2, u "TIMEOUT"), (2, u "$VALUES"), (0, u "[Lcom/example/bicameral/bicameral/analysis/Verdict;"), (6, .class_ 40), (1, u "java/lang/Enum"), (16, .methodref 1 58), (0, .nameAndType 59 60), (0, u "ordinal"), (0, u "()I"), (24, u "fails"), (0, u "(I)Z")] 4

def k6c0 : Code := { maxStack := 2, maxLocals := 2, code := prog_1_method_6_code, exceptionTable := #[], attributes := #[] }
def k6m0 : Method := { name := "fails", desc := "(I)Z", sig := { parameters := [.int], returnType := some .boolean }, accessFlags := 1, code := some k6c0 }
/-- com/example/bicameral/bicameral/analysis/Verdict -/
def k6 : Class := { plain "com/example/bicameral/bicameral/analysis/Verdict" (some 5) with
  accessFlags := 16433
  interfaces := #[]
  cf := some (fileOf pool6 1 #[] #[{ accessFlags := 1, nameIndex := 85, descriptorIndex := 86, attributes := #[] }] 16433 38 #[] #[{ accessFlags := 16409, nameIndex := 5, descriptorIndex := 6, attributes := #[] }, { accessFlags := 16409, nameIndex := 9, descriptorIndex := 6, attributes := #[] }, { accessFlags := 16409, nameIndex := 12, descriptorIndex := 6, attributes := #[] }, { accessFlags := 16409, nameIndex := 15, descriptorIndex := 6, attributes := #[] }, { accessFlags := 16409, nameIndex := 18, descriptorIndex := 6, attributes := #[] }, { accessFlags := 16409, nameIndex := 21, descriptorIndex := 6, attributes := #[] }, { accessFlags := 16409, nameIndex := 24, descriptorIndex := 6, attributes := #[] }, { accessFlags := 16409, nameIndex := 27, descriptorIndex := 6, attributes := #[] }, { accessFlags := 4122, nameIndex := 30, descriptorIndex := 31, attributes := #[] }])
  fields := #[{ name := "COUNTEREXAMPLE", type := (.object "com/example/bicameral/bicameral/analysis/Verdict"), accessFlags := 16409, slot := 0, constantValue := 0 }, { name := "NO_COUNTEREXAMPLE", type := (.object "com/example/bicameral/bicameral/analysis/Verdict"), accessFlags := 16409, slot := 1, constantValue := 0 }, { name := "PROVED", type := (.object "com/example/bicameral/bicameral/analysis/Verdict"), accessFlags := 16409, slot := 2, constantValue := 0 }, { name := "INSTANCE", type := (.object "com/example/bicameral/bicameral/analysis/Verdict"), accessFlags := 16409, slot := 3, constantValue := 0 }, { name := "NO_INSTANCE", type := (.object "com/example/bicameral/bicameral/analysis/Verdict"), accessFlags := 16409, slot := 4, constantValue := 0 }, { name := "UNSUPPORTED", type := (.object "com/example/bicameral/bicameral/analysis/Verdict"), accessFlags := 16409, slot := 5, constantValue := 0 }, { name := "UNKNOWN", type := (.object "com/example/bicameral/bicameral/analysis/Verdict"), accessFlags := 16409, slot := 6, constantValue := 0 }, { name := "TIMEOUT", type := (.object "com/example/bicameral/bicameral/analysis/Verdict"), accessFlags := 16409, slot := 7, constantValue := 0 }, { name := "$VALUES", type := (.array (.object "com/example/bicameral/bicameral/analysis/Verdict")), accessFlags := 4122, slot := 8, constantValue := 0 }]
  methods := #[k6m0]
  instanceTypes := #[(.object "java/lang/String"), .int, .int]
  staticTypes := #[(.object "com/example/bicameral/bicameral/analysis/Verdict"), (.object "com/example/bicameral/bicameral/analysis/Verdict"), (.object "com/example/bicameral/bicameral/analysis/Verdict"), (.object "com/example/bicameral/bicameral/analysis/Verdict"), (.object "com/example/bicameral/bicameral/analysis/Verdict"), (.object "com/example/bicameral/bicameral/analysis/Verdict"), (.object "com/example/bicameral/bicameral/analysis/Verdict"), (.object "com/example/bicameral/bicameral/analysis/Verdict"), (.array (.object "com/example/bicameral/bicameral/analysis/Verdict"))]
  resolved := Array.replicate 91 none
  statics := some 0 }

def pool7 : Array CpInfo := pool [(1, u "java/lang/Cloneable"), (0, .class_ 1), (0, u "java/lang/Object"), (0, .class_ 3)] 3

/-- java/lang/Cloneable -/
def k7 : Class := { plain "java/lang/Cloneable" (some 0) with
  accessFlags := 1537
  interfaces := #[]
  cf := some (fileOf pool7 2 #[] #[] 1537 4 #[] #[])
  fields := #[]
  methods := #[]
  instanceTypes := #[]
  staticTypes := #[]
  resolved := Array.replicate 8 none
  statics := none }

/-- the primitive byte -/
def k8 : Class := { plain "byte" none with kind := .primitive 'B', accessFlags := 0x411 }
/-- [B -/
def k9 : Class := { plain "[B" (some 0) with kind := .array 8 .byte, interfaces := #[7, 4], accessFlags := 1041 }

/-- the primitive int -/
def k10 : Class := { plain "int" none with kind := .primitive 'I', accessFlags := 0x411 }
/-- [I -/
def k11 : Class := { plain "[I" (some 0) with kind := .array 10 .int, interfaces := #[7, 4], accessFlags := 1041 }

def heap : Heap := #[{ cls := 6, slots := #[.ref 1, .ref 2, .ref 3, .ref 4, .ref 5, .ref 6, .ref 7, .ref 8, .null], vm := .statics 6 },
  { cls := 6, slots := #[.null, .int 0, .int 0], vm := .none },
  { cls := 6, slots := #[.null, .int 1, .int 0], vm := .none },
  { cls := 6, slots := #[.null, .int 2, .int 0], vm := .none },
  { cls := 6, slots := #[.null, .int 3, .int 0], vm := .none },
  { cls := 6, slots := #[.null, .int 4, .int 0], vm := .none },
  { cls := 6, slots := #[.null, .int 5, .int 0], vm := .none },
  { cls := 6, slots := #[.null, .int 6, .int 0], vm := .none },
  { cls := 6, slots := #[.null, .int 7, .int 0], vm := .none }]
def classes : Array Class := #[k0, k1, k2, k3, k4, k5, k6, k7, k8, k9, k10, k11]
def interned : List (Array UInt16 × Addr) := []
def slotsUsed : Nat := 33
def theMethod : MethodId := ⟨1, 2⟩
def args0 : Array Value := #[.int 5, .int 1, .int 2]
def aboutOver (below : List Frame) : State where
  vm := { classes := classes, interned := interned.toArray }
  heap := heap
  slotsUsed := slotsUsed
  threads := #[{ frames := .invoking theMethod args0 :: below }]
def below0 : List Frame := [.native { method := ⟨0, 0⟩, args := #[] }]
def about1 : State := aboutOver below0
def p0 : Program := .bare "" "" ""
def e0 : Env := launch0.env 0 0 0
theorem w_frames : about1.frames = Frame.invoking theMethod args0 :: below0 := rfl
set_option maxRecDepth 65536 in
theorem w_args : argsFit about1.vm theMethod args0 = true := by decide +kernel
set_option maxRecDepth 65536 in
theorem w_heap : heapFits about1 = true := by decide +kernel
set_option maxRecDepth 65536 in
theorem w_runnable : about1.curStatus? = some .runnable := by decide +kernel
set_option maxRecDepth 65536 in
theorem w_alone : about1.alone = true := by decide +kernel
set_option maxRecDepth 65536 in
theorem w_named : about1.methodNamed? x = some theMethod := by decide +kernel
set_option maxRecDepth 65536 in
theorem w_hears : about1.hears theMethod below0 = true := by decide +kernel
set_option maxRecDepth 65536 in
theorem w_ripe : about1.ripe theMethod args0 below0 = true := by decide +kernel
theorem w_running : about1.status = .running := rfl
set_option maxRecDepth 65536 in
theorem w_room : about1.hasRoom e0.platform room_1 = true :=
  launch0.hasRoom_least _ room_1 (by decide +kernel) (by decide +kernel) (by decide +kernel) (by decide +kernel) (by decide +kernel) (by decide +kernel)
theorem allAtoms_all (ts : List Jvm.Cond) (a : Array Jvm.Value) (st : Jvm.State) : (allAtoms ts).before a st = ts.all (fun c => c.before a st) := by
  induction ts with
  | nil => rfl
  | cons c t ih =>
    show (Jvm.Cond.and c (allAtoms t)).before a st = _
    rw [Jvm.Cond.before_and, ih, List.all_cons]
def words1 : List Jvm.Cond := Jvm.Cond.code x code maxLocals ret :: tables_1
/-- a 'code' word, met by the world's own term for the bytes: nothing is compared byte by byte -/
theorem code_word {y : MethodName} {bytes : ByteArray} {mx : Nat} {rt : Option FieldType} {a : Array Value} {s : State} {m : MethodId} {meth : Method} {c : Code} (h1 : s.methodNamed? y = some m) (h2 : s.vm.method? m = some meth) (h3 : meth.code = some c) (h4 : c.code = bytes)
    (h5 : (c.maxLocals == mx && c.exceptionTable.isEmpty && decide (c.maxStack ≤ mostOperands) && decide (meth.sig.returnType = rt) && !meth.locks && decide (parseMethodDescriptor y.desc = some meth.sig)) = true) : (Jvm.Cond.code y bytes mx rt).before a s = true := by
  simp only [Bool.and_eq_true, beq_iff_eq, Bool.not_eq_true', decide_eq_true_eq] at h5
  obtain ⟨⟨⟨⟨⟨g1, g2⟩, g3⟩, g4⟩, g5⟩, g6⟩ := h5
  simp [Cond.before, Cond.holds, Cond.value, h1, h2, h3, h4, g1, g2, g3, g4, g5, g6]
def isCode : Jvm.Cond → Bool
  | .code _ _ _ _ => true
  | _ => false
theorem all_split {L : List Jvm.Cond} {P : Jvm.Cond → Bool} (h1 : L.all (fun c => isCode c || P c) = true) (h2 : ∀ c ∈ L.filter isCode, P c = true) : L.all P = true := by
  refine List.all_eq_true.mpr fun c hc => ?_
  have h := List.all_eq_true.mp h1 c hc
  rcases Bool.eq_false_or_eq_true (isCode c) with hi | hi
  · exact h2 c (List.mem_filter.mpr ⟨hc, hi⟩)
  · simpa [hi] using h
set_option maxRecDepth 65536 in
theorem w_c0 : (Jvm.Cond.code x code maxLocals ret).before args0 about1 = true := code_word (m := ⟨1, 2⟩) (meth := k1m2) (c := k1c2) (by decide +kernel) rfl rfl rfl (by decide +kernel)
set_option maxRecDepth 65536 in
theorem w_c1 : (Jvm.Cond.code ({ cls := "com/example/bicameral/bicameral/analysis/VerdictFailsPinLaw", name := "pickVerdict", desc := "(I)Lcom/example/bicameral/bicameral/analysis/Verdict;" } : Jvm.MethodName) method_2_code (1 : Nat) (Option.some (Jvm.ClassFile.FieldType.object "com/example/bicameral/bicameral/analysis/Verdict"))).before args0 about1 = true := code_word (m := ⟨1, 1⟩) (meth := k1m1) (c := k1c1) (by decide +kernel) rfl rfl rfl (by decide +kernel)
set_option maxRecDepth 65536 in
theorem w_c2 : (Jvm.Cond.code ({ cls := "com/example/bicameral/bicameral/analysis/Verdict", name := "fails", desc := "(I)Z" } : Jvm.MethodName) prog_1_method_6_code (2 : Nat) (Option.some Jvm.ClassFile.FieldType.boolean)).before args0 about1 = true := code_word (m := ⟨6, 0⟩) (meth := k6m0) (c := k6c0) (by decide +kernel) rfl rfl rfl (by decide +kernel)
set_option maxRecDepth 65536 in
theorem w_c3 : (Jvm.Cond.code ({ cls := "java/lang/Enum", name := "ordinal", desc := "()I" } : Jvm.MethodName) jdk_37_method_2_code (1 : Nat) (Option.some Jvm.ClassFile.FieldType.int)).before args0 about1 = true := code_word (m := ⟨5, 0⟩) (meth := k5m0) (c := k5c0) (by decide +kernel) rfl rfl rfl (by decide +kernel)
def codes1 : List Jvm.Cond := [Jvm.Cond.code x code maxLocals ret, Jvm.Cond.code ({ cls := "com/example/bicameral/bicameral/analysis/VerdictFailsPinLaw", name := "pickVerdict", desc := "(I)Lcom/example/bicameral/bicameral/analysis/Verdict;" } : Jvm.MethodName) method_2_code (1 : Nat) (Option.some (Jvm.ClassFile.FieldType.object "com/example/bicameral/bicameral/analysis/Verdict")), Jvm.Cond.code ({ cls := "com/example/bicameral/bicameral/analysis/Verdict", name := "fails", desc := "(I)Z" } : Jvm.MethodName) prog_1_method_6_code (2 : Nat) (Option.some Jvm.ClassFile.FieldType.boolean), Jvm.Cond.code ({ cls := "java/lang/Enum", name := "ordinal", desc := "()I" } : Jvm.MethodName) jdk_37_method_2_code (1 : Nat) (Option.some Jvm.ClassFile.FieldType.int)]
set_option maxRecDepth 65536 in
theorem codes_eq : words1.filter isCode = codes1 := rfl
theorem w_codes : ∀ c ∈ words1.filter isCode, c.before args0 about1 = true := by
  rw [codes_eq]
  intro c hc
  simp only [codes1, List.mem_cons, List.not_mem_nil, or_false] at hc
  rcases hc with rfl | rfl | rfl | rfl
  · exact w_c0
  · exact w_c1
  · exact w_c2
  · exact w_c3
set_option maxRecDepth 65536 in
theorem w_t1 : (words1.take 24).all (fun c => isCode c || c.before args0 about1) = true := by decide +kernel
set_option maxRecDepth 65536 in
theorem w_t2 : (words1.drop 24).all (fun c => isCode c || c.before args0 about1) = true := by decide +kernel
theorem w_tables : (allAtoms (Jvm.Cond.code x code maxLocals ret :: tables_1)).before args0 about1 = true := by
  rw [allAtoms_all]
  show words1.all (fun c => c.before args0 about1) = true
  refine all_split ?_ w_codes
  rw [← List.take_append_drop 24 words1, List.all_append, w_t1, w_t2]
  rfl
set_option maxRecDepth 65536 in
theorem w_case : (Jvm.Cond.and given_1 narrow_1).before args0 about1 = true := by decide +kernel
theorem w_applies : (headSpec (Jvm.Cond.code x code maxLocals ret :: tables_1) room_1).applies x e0.platform about1 = true :=
  (Spec.applies_iff w_frames).mpr ⟨w_running, w_runnable, w_alone, w_named, w_hears, w_ripe, w_room, w_tables⟩
theorem atStart : AtStart classFile x code maxLocals ret World_1 tables_1 room_1 Calls_1 rest_1 Pre_1 launch0 p0 e0 about1 theMethod args0 below0 :=
  ⟨lists_1, trivial, launch0.admits_env _ _ _, launch0.least_env, fairChoices_fair.cas, fairChoices_fair.clock, w_frames, w_args, w_heap, w_applies, trivial, trivial, w_case⟩
end start1
theorem witness_1 : WitnessClaimed_1 := ⟨start1.p0, start1.e0, start1.about1, start1.theMethod, start1.args0, start1.below0, start1.atStart⟩
end Jvm.Pilot.@@N@@
