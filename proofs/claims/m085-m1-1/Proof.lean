import JvmDerived
import JvmDerived.Pilot.@@N@@Statement
import JvmDerived.Pilot.@@N@@Code
set_option linter.unusedVariables false
set_option linter.unusedSimpArgs false
namespace Jvm.OwnKit
open Sem ClassFile Op Lib Jvm.Stand Jvm.Free Jvm.LawKit Jvm.RoadKit Bundle
/-- the run's own things: program, environment, start state, method, arguments, frames below, its record, its code -/
abbrev Cx := Program × Env × State × MethodId × Array Value × List Frame × Method × Code
def Ok (K : Cx) (Z : State) (n0 : Nat) (own : String) (code : ByteArray) (maxL : Nat) (ret : Option FieldType) (nm : String) : Prop :=
  match K with
  | (p, _, s, m, _, _, meth, c) => p.tables.exec = Jvm.exec ∧ Z.Warmed39 s.vm ∧ s.vm.findClass own = some m.cls ∧ c.code = code ∧ c.maxLocals = maxL ∧ meth.sig.returnType = ret ∧ meth.name = nm ∧ meth.locks = false ∧ Old Z n0 s.heap
/-- from heap h, with k cells and n slots made, at pc with locals L and stack S, the run comes to a return that P likes -/
def W (K : Cx) (l : Launch) (R : Room) (n0 : Nat) (P : Option Value → Heap → Prop) (h : Heap) (k n pc : Nat) (L : Array Slot) (S : List Value) : Prop :=
  match K with
  | (p, e, s, m, args, below, meth, c) => ∀ T locs, Stand p l e R s m args below meth c T locs k n → T.heap = h → Fr n0 locs →
    ∃ s₂ o, Steps p.tables e below (T.setTop (mkF m pc L S)) s₂ ∧ s₂.status = .running ∧ Ended s₂ below o ∧ ∃ v L', o = .returned v ∧ (P v s₂.heap ∧ Fr n0 L') ∧ FrameEnd s o s₂ L' R.cells R.slots
/-- a method's contract: called with as' at heap h it returns what Q likes -/
abbrev Met (l : Launch) (Z : State) (n0 : Nat) (y : MethodName) (bytes : ByteArray) (mL : Nat) (rt : Option FieldType) (ws : List Cond) (rm : Room) (as' : Array Value) (h : Heap) (Q : Option Value → Heap → Prop) : Prop :=
  MetFree l y (head1 (Cond.code y bytes mL rt :: ws) rm) (fun a U => a = as' ∧ Z.Warmed39 U.vm ∧ U.heap = h) (fun _ _ _ _ _ => True) (fun _ U o U' => ∃ v L, o = .returned v ∧ (Q v U'.heap ∧ Fr n0 L) ∧ FrameEnd U o U' L rm.cells rm.slots)
theorem old_now {p : Program} {l : Launch} {e : Env} {R : Room} {s : State} {m : MethodId} {args : Array Value} {below : List Frame} {meth : Method} {c : Code} {T : State} {locs : List Loc} {k n : Nat} {Z : State} {n0 : Nat} (O : Old Z n0 s.heap) (X : Stand p l e R s m args below meth c T locs k n) (N : Fr n0 locs) : Old Z n0 T.heap := by
  refine ⟨O.1, Nat.le_trans O.2.1 X.same.2.1, fun a c hc => ?_⟩
  have h1 := O.2.2 a c hc
  have ha : a < n0 := O.1 ▸ (Array.getElem?_eq_some_iff.mp hc).1
  obtain ⟨c', q1, q2, q3, q4⟩ := X.same.2.2.2.2.2 a c h1
  have q5 : c'.slots = c.slots := Array.ext_getElem? fun i => q4 i fun hm => Nat.lt_irrefl _ (Nat.lt_of_lt_of_le ha (N _ hm))
  rw [q5] at q2
  have q6 : T.heap[a]? = some c' := q1
  rw [q6, q2]
theorem old_ge {p : Program} {l : Launch} {e : Env} {R : Room} {s : State} {m : MethodId} {args : Array Value} {below : List Frame} {meth : Method} {c : Code} {T : State} {locs : List Loc} {k n : Nat} {Z : State} {n0 : Nat} (O : Old Z n0 s.heap) (X : Stand p l e R s m args below meth c T locs k n) (N : Fr n0 locs) : n0 ≤ T.heap.size := by
  have q := old_now O X N
  rw [← q.1]; exact q.2.1
theorem met_of {l : Launch} {Z : State} {n0 : Nat} {y : MethodName} {bytes : ByteArray} {mL : Nat} {rt : Option FieldType} {ws : List Cond} {rm : Room} {as' : Array Value} {h : Heap} {Q : Option Value → Heap → Prop} (Z0 : Old Z n0 h) (pn : plainFor y = true) {Ls : Array Slot} (ef : ∀ m, entryFrame m as' mL = mkF m 0 Ls [])
    (H : ∀ K, Ok K Z n0 y.cls bytes mL rt y.name → W K l rm n0 Q h 0 0 0 Ls []) : Met l Z n0 y bytes mL rt ws rm as' h Q := by
  refine MetFree.of_bodySF pn hisR ?_
  intro p e s m args below meth c s₁ Bd hml0 hP hK
  obtain ⟨rfl, hZ, hh⟩ := hP
  have hnm := (name_of_methodNamed Bd.named Bd.method).1
  have X0 : Stand p l e rm s m args below meth c s₁ [] 0 0 := Stand.of_body Bd
  have e0 : s₁.heap = h := by rw [← hh, Bd.state]; rfl
  obtain ⟨s₂, o, st, r⟩ := H (p, e, s, m, args, below, meth, c) ⟨Bd.exec, hZ, findClass_of_methodNamed Bd.named, Bd.bytes, hml0, Bd.returns, hnm, Bd.notSynchronized, by show Old Z n0 s.heap; rw [hh]; exact Z0⟩ s₁ [] X0 e0 (Fr.nil n0)
  exact ⟨s₂, o, castTop (ef m) st, r⟩
section S
variable {K : Cx} {l : Launch} {R : Room} {Z : State} {n0 : Nat} {P : Option Value → Heap → Prop} {h : Heap} {k n pc : Nat} {L : Array Slot} {S : List Value} {own : String} {code : ByteArray} {maxL : Nat} {ret : Option FieldType} {nm : String} {a0 : Array Value}
theorem W.mono {P' : Option Value → Heap → Prop} (q : ∀ v h, P v h → P' v h) (w : W K l R n0 P h k n pc L S) : W K l R n0 P' h k n pc L S := by
  obtain ⟨p, e, s, m, args, below, meth, c⟩ := K
  intro T locs X eT N
  obtain ⟨s₂, o, st, r1, r2, v, L', r3, ⟨r4, r5⟩, r6⟩ := w T locs X eT N
  exact ⟨s₂, o, st, r1, r2, v, L', r3, ⟨q _ _ r4, r5⟩, r6⟩
theorem W.more {k' n' : Nat} (w : W K l R n0 P h k' n' pc L S) (hk : k ≤ k') (hn : n ≤ n') : W K l R n0 P h k n pc L S := by
  obtain ⟨p, e, s, m, args, below, meth, c⟩ := K
  intro T locs X eT N
  exact w T locs (X.more hk hn) eT N
theorem w_iloadN (ok : Ok K Z n0 own code maxL ret nm) {i : Fin 4} {v : Int32} (hd : decode code pc = .ok (.iload_n i, 1)) (hl : L[i.val]? = some (.val (.int v))) (w : W K l R n0 P h k n (pc + 1) L (.int v :: S)) : W K l R n0 P h k n pc L (S) := by
  obtain ⟨p, e, s, m, args, below, meth, c⟩ := K
  obtain ⟨hx, hZ, hown, hby, -⟩ := ok
  intro T locs X eT N
  obtain ⟨s₂, o, st, r⟩ := w T locs X eT N
  exact ⟨s₂, o, XS.iloadN X.here hx rfl (hb hby hd) hl st, r⟩
theorem w_iload (ok : Ok K Z n0 own code maxL ret nm) {i : Nat} {v : Int32} (hd : decode code pc = .ok (.iload i, 2)) (hl : L[i]? = some (.val (.int v))) (w : W K l R n0 P h k n (pc + 2) L (.int v :: S)) : W K l R n0 P h k n pc L (S) := by
  obtain ⟨p, e, s, m, args, below, meth, c⟩ := K
  obtain ⟨hx, hZ, hown, hby, -⟩ := ok
  intro T locs X eT N
  obtain ⟨s₂, o, st, r⟩ := w T locs X eT N
  exact ⟨s₂, o, XS.iload X.here hx rfl (hb hby hd) hl st, r⟩
theorem w_istoreN (ok : Ok K Z n0 own code maxL ret nm) {i : Fin 4} {v : Int32} {L' : Array Slot} (hd : decode code pc = .ok (.istore_n i, 1)) (hl : storeLocals L i.val (.int v) = some L') (w : W K l R n0 P h k n (pc + 1) L' (S)) : W K l R n0 P h k n pc L (.int v :: S) := by
  obtain ⟨p, e, s, m, args, below, meth, c⟩ := K
  obtain ⟨hx, hZ, hown, hby, -⟩ := ok
  intro T locs X eT N
  obtain ⟨s₂, o, st, r⟩ := w T locs X eT N
  exact ⟨s₂, o, XS.istoreN X.here hx rfl (hb hby hd) rfl hl st, r⟩
theorem w_istore (ok : Ok K Z n0 own code maxL ret nm) {i : Nat} {v : Int32} {L' : Array Slot} (hd : decode code pc = .ok (.istore i, 2)) (hl : storeLocals L i (.int v) = some L') (w : W K l R n0 P h k n (pc + 2) L' (S)) : W K l R n0 P h k n pc L (.int v :: S) := by
  obtain ⟨p, e, s, m, args, below, meth, c⟩ := K
  obtain ⟨hx, hZ, hown, hby, -⟩ := ok
  intro T locs X eT N
  obtain ⟨s₂, o, st, r⟩ := w T locs X eT N
  exact ⟨s₂, o, XS.istore X.here hx rfl (hb hby hd) rfl hl st, r⟩
theorem w_lloadN (ok : Ok K Z n0 own code maxL ret nm) {i : Fin 4} {v : Int64} (hd : decode code pc = .ok (.lload_n i, 1)) (hl : L[i.val]? = some (.val (.long v))) (w : W K l R n0 P h k n (pc + 1) L (.long v :: S)) : W K l R n0 P h k n pc L (S) := by
  obtain ⟨p, e, s, m, args, below, meth, c⟩ := K
  obtain ⟨hx, hZ, hown, hby, -⟩ := ok
  intro T locs X eT N
  obtain ⟨s₂, o, st, r⟩ := w T locs X eT N
  exact ⟨s₂, o, XS.lloadN X.here hx rfl (hb hby hd) hl st, r⟩
theorem w_lload (ok : Ok K Z n0 own code maxL ret nm) {i : Nat} {v : Int64} (hd : decode code pc = .ok (.lload i, 2)) (hl : L[i]? = some (.val (.long v))) (w : W K l R n0 P h k n (pc + 2) L (.long v :: S)) : W K l R n0 P h k n pc L (S) := by
  obtain ⟨p, e, s, m, args, below, meth, c⟩ := K
  obtain ⟨hx, hZ, hown, hby, -⟩ := ok
  intro T locs X eT N
  obtain ⟨s₂, o, st, r⟩ := w T locs X eT N
  exact ⟨s₂, o, XS.lload X.here hx rfl (hb hby hd) hl st, r⟩
theorem w_lstoreN (ok : Ok K Z n0 own code maxL ret nm) {i : Fin 4} {v : Int64} {L' : Array Slot} (hd : decode code pc = .ok (.lstore_n i, 1)) (hl : storeLocals L i.val (.long v) = some L') (w : W K l R n0 P h k n (pc + 1) L' (S)) : W K l R n0 P h k n pc L (.long v :: S) := by
  obtain ⟨p, e, s, m, args, below, meth, c⟩ := K
  obtain ⟨hx, hZ, hown, hby, -⟩ := ok
  intro T locs X eT N
  obtain ⟨s₂, o, st, r⟩ := w T locs X eT N
  exact ⟨s₂, o, XS.lstoreN X.here hx rfl (hb hby hd) rfl hl st, r⟩
theorem w_lstore (ok : Ok K Z n0 own code maxL ret nm) {i : Nat} {v : Int64} {L' : Array Slot} (hd : decode code pc = .ok (.lstore i, 2)) (hl : storeLocals L i (.long v) = some L') (w : W K l R n0 P h k n (pc + 2) L' (S)) : W K l R n0 P h k n pc L (.long v :: S) := by
  obtain ⟨p, e, s, m, args, below, meth, c⟩ := K
  obtain ⟨hx, hZ, hown, hby, -⟩ := ok
  intro T locs X eT N
  obtain ⟨s₂, o, st, r⟩ := w T locs X eT N
  exact ⟨s₂, o, XS.lstore X.here hx rfl (hb hby hd) rfl hl st, r⟩
theorem w_aloadN (ok : Ok K Z n0 own code maxL ret nm) {i : Fin 4} {v : Value} (hd : decode code pc = .ok (.aload_n i, 1)) (hl : L[i.val]? = some (.val v)) (hv : v.isRef = true) (w : W K l R n0 P h k n (pc + 1) L (v :: S)) : W K l R n0 P h k n pc L (S) := by
  obtain ⟨p, e, s, m, args, below, meth, c⟩ := K
  obtain ⟨hx, hZ, hown, hby, -⟩ := ok
  intro T locs X eT N
  obtain ⟨s₂, o, st, r⟩ := w T locs X eT N
  exact ⟨s₂, o, XS.aloadN X.here hx rfl (hb hby hd) hl hv st, r⟩
theorem w_aload (ok : Ok K Z n0 own code maxL ret nm) {i : Nat} {v : Value} (hd : decode code pc = .ok (.aload i, 2)) (hl : L[i]? = some (.val v)) (hv : v.isRef = true) (w : W K l R n0 P h k n (pc + 2) L (v :: S)) : W K l R n0 P h k n pc L (S) := by
  obtain ⟨p, e, s, m, args, below, meth, c⟩ := K
  obtain ⟨hx, hZ, hown, hby, -⟩ := ok
  intro T locs X eT N
  obtain ⟨s₂, o, st, r⟩ := w T locs X eT N
  exact ⟨s₂, o, XS.aload X.here hx rfl (hb hby hd) hl hv st, r⟩
theorem w_astoreN (ok : Ok K Z n0 own code maxL ret nm) {i : Fin 4} {v : Value} {L' : Array Slot} (hd : decode code pc = .ok (.astore_n i, 1)) (hv : v.isRef = true) (hl : storeLocals L i.val v = some L') (w : W K l R n0 P h k n (pc + 1) L' (S)) : W K l R n0 P h k n pc L (v :: S) := by
  obtain ⟨p, e, s, m, args, below, meth, c⟩ := K
  obtain ⟨hx, hZ, hown, hby, -⟩ := ok
  intro T locs X eT N
  obtain ⟨s₂, o, st, r⟩ := w T locs X eT N
  exact ⟨s₂, o, XS.astoreN X.here hx rfl (hb hby hd) rfl hv hl st, r⟩
theorem w_astore (ok : Ok K Z n0 own code maxL ret nm) {i : Nat} {v : Value} {L' : Array Slot} (hd : decode code pc = .ok (.astore i, 2)) (hv : v.isRef = true) (hl : storeLocals L i v = some L') (w : W K l R n0 P h k n (pc + 2) L' (S)) : W K l R n0 P h k n pc L (v :: S) := by
  obtain ⟨p, e, s, m, args, below, meth, c⟩ := K
  obtain ⟨hx, hZ, hown, hby, -⟩ := ok
  intro T locs X eT N
  obtain ⟨s₂, o, st, r⟩ := w T locs X eT N
  exact ⟨s₂, o, XS.astore X.here hx rfl (hb hby hd) rfl hv hl st, r⟩
theorem w_iconst (ok : Ok K Z n0 own code maxL ret nm) {i : Int} {v : Int32} (hd : decode code pc = .ok (.iconst i, 1)) (hv : Int32.ofInt i = v) (w : W K l R n0 P h k n (pc + 1) L (.int v :: S)) : W K l R n0 P h k n pc L (S) := by
  obtain ⟨p, e, s, m, args, below, meth, c⟩ := K
  obtain ⟨hx, hZ, hown, hby, -⟩ := ok
  intro T locs X eT N
  obtain ⟨s₂, o, st, r⟩ := w T locs X eT N
  exact ⟨s₂, o, XS.iconst X.here hx rfl (hb hby hd) (hv ▸ st), r⟩
theorem w_bipush (ok : Ok K Z n0 own code maxL ret nm) {i : Int} {v : Int32} (hd : decode code pc = .ok (.bipush i, 2)) (hv : (Int8.ofInt i).toInt32 = v) (w : W K l R n0 P h k n (pc + 2) L (.int v :: S)) : W K l R n0 P h k n pc L (S) := by
  obtain ⟨p, e, s, m, args, below, meth, c⟩ := K
  obtain ⟨hx, hZ, hown, hby, -⟩ := ok
  intro T locs X eT N
  obtain ⟨s₂, o, st, r⟩ := w T locs X eT N
  exact ⟨s₂, o, XS.bipush X.here hx rfl (hb hby hd) (hv ▸ st), r⟩
theorem w_sipush (ok : Ok K Z n0 own code maxL ret nm) {i : Int} {v : Int32} (hd : decode code pc = .ok (.sipush i, 3)) (hv : (Int16.ofInt i).toInt32 = v) (w : W K l R n0 P h k n (pc + 3) L (.int v :: S)) : W K l R n0 P h k n pc L (S) := by
  obtain ⟨p, e, s, m, args, below, meth, c⟩ := K
  obtain ⟨hx, hZ, hown, hby, -⟩ := ok
  intro T locs X eT N
  obtain ⟨s₂, o, st, r⟩ := w T locs X eT N
  exact ⟨s₂, o, XS.sipush X.here hx rfl (hb hby hd) (hv ▸ st), r⟩
theorem w_lconst (ok : Ok K Z n0 own code maxL ret nm) {i : Fin 2} {v : Int64} (hd : decode code pc = .ok (.lconst i, 1)) (hv : Int64.ofNat i = v) (w : W K l R n0 P h k n (pc + 1) L (.long v :: S)) : W K l R n0 P h k n pc L (S) := by
  obtain ⟨p, e, s, m, args, below, meth, c⟩ := K
  obtain ⟨hx, hZ, hown, hby, -⟩ := ok
  intro T locs X eT N
  obtain ⟨s₂, o, st, r⟩ := w T locs X eT N
  exact ⟨s₂, o, XS.lconst X.here hx rfl (hb hby hd) (hv ▸ st), r⟩
theorem w_aconstNull (ok : Ok K Z n0 own code maxL ret nm)  (hd : decode code pc = .ok (.aconst_null, 1)) (w : W K l R n0 P h k n (pc + 1) L (.null :: S)) : W K l R n0 P h k n pc L (S) := by
  obtain ⟨p, e, s, m, args, below, meth, c⟩ := K
  obtain ⟨hx, hZ, hown, hby, -⟩ := ok
  intro T locs X eT N
  obtain ⟨s₂, o, st, r⟩ := w T locs X eT N
  exact ⟨s₂, o, XS.aconstNull X.here hx rfl (hb hby hd)  st, r⟩
theorem w_dup (ok : Ok K Z n0 own code maxL ret nm) {v : Value} (hd : decode code pc = .ok (.dup, 1)) (hv : v.category = 1) (w : W K l R n0 P h k n (pc + 1) L (v :: v :: S)) : W K l R n0 P h k n pc L (v :: S) := by
  obtain ⟨p, e, s, m, args, below, meth, c⟩ := K
  obtain ⟨hx, hZ, hown, hby, -⟩ := ok
  intro T locs X eT N
  obtain ⟨s₂, o, st, r⟩ := w T locs X eT N
  exact ⟨s₂, o, XS.dup X.here hx rfl (hb hby hd) rfl hv st, r⟩
theorem w_dupX1 (ok : Ok K Z n0 own code maxL ret nm) {v u : Value} (hd : decode code pc = .ok (.dup_x1, 1)) (hv : v.category = 1) (hu : u.category = 1) (w : W K l R n0 P h k n (pc + 1) L (v :: u :: v :: S)) : W K l R n0 P h k n pc L (v :: u :: S) := by
  obtain ⟨p, e, s, m, args, below, meth, c⟩ := K
  obtain ⟨hx, hZ, hown, hby, -⟩ := ok
  intro T locs X eT N
  obtain ⟨s₂, o, st, r⟩ := w T locs X eT N
  exact ⟨s₂, o, XS.dupX1 X.here hx rfl (hb hby hd) rfl hv hu st, r⟩
theorem w_pop (ok : Ok K Z n0 own code maxL ret nm) {v : Value} (hd : decode code pc = .ok (.pop, 1)) (hv : v.category = 1) (w : W K l R n0 P h k n (pc + 1) L (S)) : W K l R n0 P h k n pc L (v :: S) := by
  obtain ⟨p, e, s, m, args, below, meth, c⟩ := K
  obtain ⟨hx, hZ, hown, hby, -⟩ := ok
  intro T locs X eT N
  obtain ⟨s₂, o, st, r⟩ := w T locs X eT N
  exact ⟨s₂, o, XS.pop X.here hx rfl (hb hby hd) rfl hv st, r⟩
theorem w_dup2 (ok : Ok K Z n0 own code maxL ret nm) {v u : Value} (hd : decode code pc = .ok (.dup2, 1)) (hv : v.category = 1) (hu : u.category = 1) (w : W K l R n0 P h k n (pc + 1) L (v :: u :: v :: u :: S)) : W K l R n0 P h k n pc L (v :: u :: S) := by
  obtain ⟨p, e, s, m, args, below, meth, c⟩ := K
  obtain ⟨hx, hZ, hown, hby, -⟩ := ok
  intro T locs X eT N
  obtain ⟨s₂, o, st, r⟩ := w T locs X eT N
  exact ⟨s₂, o, XT.dup2 X.here hx rfl (hb hby hd) rfl hv hu st, r⟩
theorem w_iinc (ok : Ok K Z n0 own code maxL ret nm) {i : Nat} {c : Int} {v u : Int32} {L' : Array Slot} (hd : decode code pc = .ok (.iinc i c, 3)) (hu : Int32.ofInt c = u) (hl : L[i]? = some (.val (.int v))) (hl' : storeLocals L i (.int (v + u)) = some L') (w : W K l R n0 P h k n (pc + 3) L' (S)) : W K l R n0 P h k n pc L (S) := by
  obtain ⟨p, e, s, m, args, below, meth, c⟩ := K
  obtain ⟨hx, hZ, hown, hby, -⟩ := ok
  intro T locs X eT N
  obtain ⟨s₂, o, st, r⟩ := w T locs X eT N
  exact ⟨s₂, o, XS.iinc X.here hx rfl (hb hby hd) hl (by rw [hu]; exact hl') st, r⟩
theorem w_iadd (ok : Ok K Z n0 own code maxL ret nm) {x y : Int32} (hd : decode code pc = .ok (.iadd, 1)) (w : W K l R n0 P h k n (pc + 1) L (.int (x + y) :: S)) : W K l R n0 P h k n pc L (.int y :: .int x :: S) := by
  obtain ⟨p, e, s, m, args, below, meth, c⟩ := K
  obtain ⟨hx, hZ, hown, hby, -⟩ := ok
  intro T locs X eT N
  obtain ⟨s₂, o, st, r⟩ := w T locs X eT N
  exact ⟨s₂, o, XS.iadd X.here hx rfl (hb hby hd) rfl st, r⟩
theorem w_isub (ok : Ok K Z n0 own code maxL ret nm) {x y : Int32} (hd : decode code pc = .ok (.isub, 1)) (w : W K l R n0 P h k n (pc + 1) L (.int (x - y) :: S)) : W K l R n0 P h k n pc L (.int y :: .int x :: S) := by
  obtain ⟨p, e, s, m, args, below, meth, c⟩ := K
  obtain ⟨hx, hZ, hown, hby, -⟩ := ok
  intro T locs X eT N
  obtain ⟨s₂, o, st, r⟩ := w T locs X eT N
  exact ⟨s₂, o, XS.isub X.here hx rfl (hb hby hd) rfl st, r⟩
theorem w_imul (ok : Ok K Z n0 own code maxL ret nm) {x y : Int32} (hd : decode code pc = .ok (.imul, 1)) (w : W K l R n0 P h k n (pc + 1) L (.int (x * y) :: S)) : W K l R n0 P h k n pc L (.int y :: .int x :: S) := by
  obtain ⟨p, e, s, m, args, below, meth, c⟩ := K
  obtain ⟨hx, hZ, hown, hby, -⟩ := ok
  intro T locs X eT N
  obtain ⟨s₂, o, st, r⟩ := w T locs X eT N
  exact ⟨s₂, o, XS.imul X.here hx rfl (hb hby hd) rfl st, r⟩
theorem w_iand (ok : Ok K Z n0 own code maxL ret nm) {x y : Int32} (hd : decode code pc = .ok (.iand, 1)) (w : W K l R n0 P h k n (pc + 1) L (.int (x &&& y) :: S)) : W K l R n0 P h k n pc L (.int y :: .int x :: S) := by
  obtain ⟨p, e, s, m, args, below, meth, c⟩ := K
  obtain ⟨hx, hZ, hown, hby, -⟩ := ok
  intro T locs X eT N
  obtain ⟨s₂, o, st, r⟩ := w T locs X eT N
  exact ⟨s₂, o, XS.iand X.here hx rfl (hb hby hd) rfl st, r⟩
theorem w_ior (ok : Ok K Z n0 own code maxL ret nm) {x y : Int32} (hd : decode code pc = .ok (.ior, 1)) (w : W K l R n0 P h k n (pc + 1) L (.int (x ||| y) :: S)) : W K l R n0 P h k n pc L (.int y :: .int x :: S) := by
  obtain ⟨p, e, s, m, args, below, meth, c⟩ := K
  obtain ⟨hx, hZ, hown, hby, -⟩ := ok
  intro T locs X eT N
  obtain ⟨s₂, o, st, r⟩ := w T locs X eT N
  exact ⟨s₂, o, XS.ior X.here hx rfl (hb hby hd) rfl st, r⟩
theorem w_ixor (ok : Ok K Z n0 own code maxL ret nm) {x y : Int32} (hd : decode code pc = .ok (.ixor, 1)) (w : W K l R n0 P h k n (pc + 1) L (.int (x ^^^ y) :: S)) : W K l R n0 P h k n pc L (.int y :: .int x :: S) := by
  obtain ⟨p, e, s, m, args, below, meth, c⟩ := K
  obtain ⟨hx, hZ, hown, hby, -⟩ := ok
  intro T locs X eT N
  obtain ⟨s₂, o, st, r⟩ := w T locs X eT N
  exact ⟨s₂, o, XS.ixor X.here hx rfl (hb hby hd) rfl st, r⟩
theorem w_ishl (ok : Ok K Z n0 own code maxL ret nm) {x y : Int32} (hd : decode code pc = .ok (.ishl, 1)) (w : W K l R n0 P h k n (pc + 1) L (.int (x <<< (y &&& 31)) :: S)) : W K l R n0 P h k n pc L (.int y :: .int x :: S) := by
  obtain ⟨p, e, s, m, args, below, meth, c⟩ := K
  obtain ⟨hx, hZ, hown, hby, -⟩ := ok
  intro T locs X eT N
  obtain ⟨s₂, o, st, r⟩ := w T locs X eT N
  exact ⟨s₂, o, XS.ishl X.here hx rfl (hb hby hd) rfl st, r⟩
theorem w_ishr (ok : Ok K Z n0 own code maxL ret nm) {x y : Int32} (hd : decode code pc = .ok (.ishr, 1)) (w : W K l R n0 P h k n (pc + 1) L (.int (x >>> (y &&& 31)) :: S)) : W K l R n0 P h k n pc L (.int y :: .int x :: S) := by
  obtain ⟨p, e, s, m, args, below, meth, c⟩ := K
  obtain ⟨hx, hZ, hown, hby, -⟩ := ok
  intro T locs X eT N
  obtain ⟨s₂, o, st, r⟩ := w T locs X eT N
  exact ⟨s₂, o, XS.ishr X.here hx rfl (hb hby hd) rfl st, r⟩
theorem w_iushr (ok : Ok K Z n0 own code maxL ret nm) {x y : Int32} (hd : decode code pc = .ok (.iushr, 1)) (w : W K l R n0 P h k n (pc + 1) L (.int (XT.ushr x y) :: S)) : W K l R n0 P h k n pc L (.int y :: .int x :: S) := by
  obtain ⟨p, e, s, m, args, below, meth, c⟩ := K
  obtain ⟨hx, hZ, hown, hby, -⟩ := ok
  intro T locs X eT N
  obtain ⟨s₂, o, st, r⟩ := w T locs X eT N
  exact ⟨s₂, o, XS.iushr X.here hx rfl (hb hby hd) rfl st, r⟩
theorem w_ladd (ok : Ok K Z n0 own code maxL ret nm) {x y : Int64} (hd : decode code pc = .ok (.ladd, 1)) (w : W K l R n0 P h k n (pc + 1) L (.long (x + y) :: S)) : W K l R n0 P h k n pc L (.long y :: .long x :: S) := by
  obtain ⟨p, e, s, m, args, below, meth, c⟩ := K
  obtain ⟨hx, hZ, hown, hby, -⟩ := ok
  intro T locs X eT N
  obtain ⟨s₂, o, st, r⟩ := w T locs X eT N
  exact ⟨s₂, o, XS.ladd X.here hx rfl (hb hby hd) rfl st, r⟩
theorem w_lsub (ok : Ok K Z n0 own code maxL ret nm) {x y : Int64} (hd : decode code pc = .ok (.lsub, 1)) (w : W K l R n0 P h k n (pc + 1) L (.long (x - y) :: S)) : W K l R n0 P h k n pc L (.long y :: .long x :: S) := by
  obtain ⟨p, e, s, m, args, below, meth, c⟩ := K
  obtain ⟨hx, hZ, hown, hby, -⟩ := ok
  intro T locs X eT N
  obtain ⟨s₂, o, st, r⟩ := w T locs X eT N
  exact ⟨s₂, o, XS.lsub X.here hx rfl (hb hby hd) rfl st, r⟩
theorem w_lmul (ok : Ok K Z n0 own code maxL ret nm) {x y : Int64} (hd : decode code pc = .ok (.lmul, 1)) (w : W K l R n0 P h k n (pc + 1) L (.long (x * y) :: S)) : W K l R n0 P h k n pc L (.long y :: .long x :: S) := by
  obtain ⟨p, e, s, m, args, below, meth, c⟩ := K
  obtain ⟨hx, hZ, hown, hby, -⟩ := ok
  intro T locs X eT N
  obtain ⟨s₂, o, st, r⟩ := w T locs X eT N
  exact ⟨s₂, o, XS.lmul X.here hx rfl (hb hby hd) rfl st, r⟩
theorem w_land (ok : Ok K Z n0 own code maxL ret nm) {x y : Int64} (hd : decode code pc = .ok (.land, 1)) (w : W K l R n0 P h k n (pc + 1) L (.long (x &&& y) :: S)) : W K l R n0 P h k n pc L (.long y :: .long x :: S) := by
  obtain ⟨p, e, s, m, args, below, meth, c⟩ := K
  obtain ⟨hx, hZ, hown, hby, -⟩ := ok
  intro T locs X eT N
  obtain ⟨s₂, o, st, r⟩ := w T locs X eT N
  exact ⟨s₂, o, XS.land X.here hx rfl (hb hby hd) rfl st, r⟩
theorem w_lor (ok : Ok K Z n0 own code maxL ret nm) {x y : Int64} (hd : decode code pc = .ok (.lor, 1)) (w : W K l R n0 P h k n (pc + 1) L (.long (x ||| y) :: S)) : W K l R n0 P h k n pc L (.long y :: .long x :: S) := by
  obtain ⟨p, e, s, m, args, below, meth, c⟩ := K
  obtain ⟨hx, hZ, hown, hby, -⟩ := ok
  intro T locs X eT N
  obtain ⟨s₂, o, st, r⟩ := w T locs X eT N
  exact ⟨s₂, o, XS.lor X.here hx rfl (hb hby hd) rfl st, r⟩
theorem w_lxor (ok : Ok K Z n0 own code maxL ret nm) {x y : Int64} (hd : decode code pc = .ok (.lxor, 1)) (w : W K l R n0 P h k n (pc + 1) L (.long (x ^^^ y) :: S)) : W K l R n0 P h k n pc L (.long y :: .long x :: S) := by
  obtain ⟨p, e, s, m, args, below, meth, c⟩ := K
  obtain ⟨hx, hZ, hown, hby, -⟩ := ok
  intro T locs X eT N
  obtain ⟨s₂, o, st, r⟩ := w T locs X eT N
  exact ⟨s₂, o, XS.lxor X.here hx rfl (hb hby hd) rfl st, r⟩
theorem w_lshl (ok : Ok K Z n0 own code maxL ret nm) {x : Int64} {y : Int32} (hd : decode code pc = .ok (.lshl, 1)) (w : W K l R n0 P h k n (pc + 1) L (.long (x <<< (y &&& 0x3f).toInt64) :: S)) : W K l R n0 P h k n pc L (.int y :: .long x :: S) := by
  obtain ⟨p, e, s, m, args, below, meth, c⟩ := K
  obtain ⟨hx, hZ, hown, hby, -⟩ := ok
  intro T locs X eT N
  obtain ⟨s₂, o, st, r⟩ := w T locs X eT N
  exact ⟨s₂, o, XS.lshl X.here hx rfl (hb hby hd) rfl st, r⟩
theorem w_lshr (ok : Ok K Z n0 own code maxL ret nm) {x : Int64} {y : Int32} (hd : decode code pc = .ok (.lshr, 1)) (w : W K l R n0 P h k n (pc + 1) L (.long (x >>> (y &&& 0x3f).toInt64) :: S)) : W K l R n0 P h k n pc L (.int y :: .long x :: S) := by
  obtain ⟨p, e, s, m, args, below, meth, c⟩ := K
  obtain ⟨hx, hZ, hown, hby, -⟩ := ok
  intro T locs X eT N
  obtain ⟨s₂, o, st, r⟩ := w T locs X eT N
  exact ⟨s₂, o, XS.lshr X.here hx rfl (hb hby hd) rfl st, r⟩
theorem w_lushr (ok : Ok K Z n0 own code maxL ret nm) {x : Int64} {y : Int32} (hd : decode code pc = .ok (.lushr, 1)) (w : W K l R n0 P h k n (pc + 1) L (.long ((x.toUInt64 >>> (y &&& 0x3f).toInt64.toUInt64).toInt64) :: S)) : W K l R n0 P h k n pc L (.int y :: .long x :: S) := by
  obtain ⟨p, e, s, m, args, below, meth, c⟩ := K
  obtain ⟨hx, hZ, hown, hby, -⟩ := ok
  intro T locs X eT N
  obtain ⟨s₂, o, st, r⟩ := w T locs X eT N
  exact ⟨s₂, o, XS.lushr X.here hx rfl (hb hby hd) rfl st, r⟩
theorem w_i2l (ok : Ok K Z n0 own code maxL ret nm) {x : Int32} (hd : decode code pc = .ok (.i2l, 1)) (w : W K l R n0 P h k n (pc + 1) L (.long (x.toInt64) :: S)) : W K l R n0 P h k n pc L (.int x :: S) := by
  obtain ⟨p, e, s, m, args, below, meth, c⟩ := K
  obtain ⟨hx, hZ, hown, hby, -⟩ := ok
  intro T locs X eT N
  obtain ⟨s₂, o, st, r⟩ := w T locs X eT N
  exact ⟨s₂, o, XS.i2l X.here hx rfl (hb hby hd) rfl st, r⟩
theorem w_l2i (ok : Ok K Z n0 own code maxL ret nm) {x : Int64} (hd : decode code pc = .ok (.l2i, 1)) (w : W K l R n0 P h k n (pc + 1) L (.int (x.toInt32) :: S)) : W K l R n0 P h k n pc L (.long x :: S) := by
  obtain ⟨p, e, s, m, args, below, meth, c⟩ := K
  obtain ⟨hx, hZ, hown, hby, -⟩ := ok
  intro T locs X eT N
  obtain ⟨s₂, o, st, r⟩ := w T locs X eT N
  exact ⟨s₂, o, XS.l2i X.here hx rfl (hb hby hd) rfl st, r⟩
theorem w_i2b (ok : Ok K Z n0 own code maxL ret nm) {x : Int32} (hd : decode code pc = .ok (.i2b, 1)) (w : W K l R n0 P h k n (pc + 1) L (.int (x.toInt8.toInt32) :: S)) : W K l R n0 P h k n pc L (.int x :: S) := by
  obtain ⟨p, e, s, m, args, below, meth, c⟩ := K
  obtain ⟨hx, hZ, hown, hby, -⟩ := ok
  intro T locs X eT N
  obtain ⟨s₂, o, st, r⟩ := w T locs X eT N
  exact ⟨s₂, o, XS.i2b X.here hx rfl (hb hby hd) rfl st, r⟩
theorem w_i2c (ok : Ok K Z n0 own code maxL ret nm) {x : Int32} (hd : decode code pc = .ok (.i2c, 1)) (w : W K l R n0 P h k n (pc + 1) L (.int (x.toUInt32.toUInt16.toUInt32.toInt32) :: S)) : W K l R n0 P h k n pc L (.int x :: S) := by
  obtain ⟨p, e, s, m, args, below, meth, c⟩ := K
  obtain ⟨hx, hZ, hown, hby, -⟩ := ok
  intro T locs X eT N
  obtain ⟨s₂, o, st, r⟩ := w T locs X eT N
  exact ⟨s₂, o, XS.i2c X.here hx rfl (hb hby hd) rfl st, r⟩
theorem w_ineg (ok : Ok K Z n0 own code maxL ret nm) {x : Int32} (hd : decode code pc = .ok (.ineg, 1)) (w : W K l R n0 P h k n (pc + 1) L (.int (-x) :: S)) : W K l R n0 P h k n pc L (.int x :: S) := by
  obtain ⟨p, e, s, m, args, below, meth, c⟩ := K
  obtain ⟨hx, hZ, hown, hby, -⟩ := ok
  intro T locs X eT N
  obtain ⟨s₂, o, st, r⟩ := w T locs X eT N
  exact ⟨s₂, o, XS.ineg X.here hx rfl (hb hby hd) rfl st, r⟩
theorem w_idiv (ok : Ok K Z n0 own code maxL ret nm) {x y : Int32} (hd : decode code pc = .ok (.idiv, 1)) (hy : y ≠ 0) (w : W K l R n0 P h k n (pc + 1) L (.int (x / y) :: S)) : W K l R n0 P h k n pc L (.int y :: .int x :: S) := by
  obtain ⟨p, e, s, m, args, below, meth, c⟩ := K
  obtain ⟨hx, hZ, hown, hby, -⟩ := ok
  intro T locs X eT N
  obtain ⟨s₂, o, st, r⟩ := w T locs X eT N
  exact ⟨s₂, o, XS.idiv X.here hx rfl (hb hby hd) rfl hy st, r⟩
theorem w_irem (ok : Ok K Z n0 own code maxL ret nm) {x y : Int32} (hd : decode code pc = .ok (.irem, 1)) (hy : y ≠ 0) (w : W K l R n0 P h k n (pc + 1) L (.int (x % y) :: S)) : W K l R n0 P h k n pc L (.int y :: .int x :: S) := by
  obtain ⟨p, e, s, m, args, below, meth, c⟩ := K
  obtain ⟨hx, hZ, hown, hby, -⟩ := ok
  intro T locs X eT N
  obtain ⟨s₂, o, st, r⟩ := w T locs X eT N
  exact ⟨s₂, o, iremM X hx rfl (hb hby hd) rfl hy st, r⟩
theorem w_ldiv (ok : Ok K Z n0 own code maxL ret nm) {x y : Int64} (hd : decode code pc = .ok (.ldiv, 1)) (hy : y ≠ 0) (w : W K l R n0 P h k n (pc + 1) L (.long (x / y) :: S)) : W K l R n0 P h k n pc L (.long y :: .long x :: S) := by
  obtain ⟨p, e, s, m, args, below, meth, c⟩ := K
  obtain ⟨hx, hZ, hown, hby, -⟩ := ok
  intro T locs X eT N
  obtain ⟨s₂, o, st, r⟩ := w T locs X eT N
  exact ⟨s₂, o, XS.ldiv X.here hx rfl (hb hby hd) rfl hy st, r⟩
theorem w_lrem (ok : Ok K Z n0 own code maxL ret nm) {x y : Int64} (hd : decode code pc = .ok (.lrem, 1)) (hy : y ≠ 0) (w : W K l R n0 P h k n (pc + 1) L (.long (x % y) :: S)) : W K l R n0 P h k n pc L (.long y :: .long x :: S) := by
  obtain ⟨p, e, s, m, args, below, meth, c⟩ := K
  obtain ⟨hx, hZ, hown, hby, -⟩ := ok
  intro T locs X eT N
  obtain ⟨s₂, o, st, r⟩ := w T locs X eT N
  exact ⟨s₂, o, XS.lrem X.here hx rfl (hb hby hd) rfl hy (by rw [lrem_mod]; exact st), r⟩
theorem w_goto (ok : Ok K Z n0 own code maxL ret nm) {o : Int} {pc' : Nat} (hd : decode code pc = .ok (.goto o, 3)) (hp : (pc : Int) + o = (pc' : Int)) (w : W K l R n0 P h k n (pc') L (S)) : W K l R n0 P h k n pc L (S) := by
  obtain ⟨p, e, s, m, args, below, meth, c⟩ := K
  obtain ⟨hx, hZ, hown, hby, -⟩ := ok
  intro T locs X eT N
  obtain ⟨s₂, o, st, r⟩ := w T locs X eT N
  exact ⟨s₂, o, XS.goto X.here hx rfl (pc0 := pc) (pc' := pc') rfl (hb hby hd) (by rw [hp]; exact Int.natCast_nonneg _) (by rw [hp]; rfl) st, r⟩
theorem w_ldcI (ok : Ok K Z n0 own code maxL ret nm) {i : Nat} {v : Int32} (hd : decode code pc = .ok (.ldc i, 2)) (w1 : (Cond.constant own i v).before a0 Z = true) (w : W K l R n0 P h k n (pc + 2) L (.int v :: S)) : W K l R n0 P h k n pc L (S) := by
  obtain ⟨p, e, s, m, args, below, meth, c⟩ := K
  obtain ⟨hx, hZ, hown, hby, -⟩ := ok
  intro T locs X eT N
  obtain ⟨s₂, o, st, r⟩ := w T locs X eT N
  exact ⟨s₂, o, X.ldcInt hx hown (mvT hZ w1) (g := mkF m pc L S) rfl (hb hby hd) _ st, r⟩
theorem w_ldc2J (ok : Ok K Z n0 own code maxL ret nm) {i : Nat} {v : Int64} (hd : decode code pc = .ok (.ldc2_w i, 3)) (w1 : (Cond.constantLong own i v).before a0 Z = true) (w : W K l R n0 P h k n (pc + 3) L (.long v :: S)) : W K l R n0 P h k n pc L (S) := by
  obtain ⟨p, e, s, m, args, below, meth, c⟩ := K
  obtain ⟨hx, hZ, hown, hby, -⟩ := ok
  intro T locs X eT N
  obtain ⟨s₂, o, st, r⟩ := w T locs X eT N
  exact ⟨s₂, o, X.ldc2Long hx hown (mvT hZ w1) (g := mkF m pc L S) rfl (hb hby hd) _ st, r⟩
theorem w_icmp_eq (ok : Ok K Z n0 own code maxL ret nm) {x y : Int32} {o : Int} {pc' : Nat} (hd : decode code pc = .ok (.if_icmp .eq o, 3)) (hp : (pc : Int) + o = (pc' : Int)) (wy : x = y → W K l R n0 P h k n pc' L S) (wn : ¬ x = y → W K l R n0 P h k n (pc + 3) L S) : W K l R n0 P h k n pc L (.int y :: .int x :: S) := by
  obtain ⟨p, e, s, m, args, below, meth, c⟩ := K
  obtain ⟨hx, hZ, hown, hby, -⟩ := ok
  intro T locs X eT N
  by_cases hc : x = y
  · obtain ⟨s₂, o, st, r⟩ := wy hc T locs X eT N
    exact ⟨s₂, o, XS.icmpYes X.here hx rfl (pc0 := pc) (pc' := pc') rfl (hb hby hd) rfl (teq hc).1 (by rw [hp]; exact Int.natCast_nonneg _) (by rw [hp]; rfl) st, r⟩
  · obtain ⟨s₂, o, st, r⟩ := wn hc T locs X eT N
    exact ⟨s₂, o, XS.icmpNo X.here hx rfl (hb hby hd) rfl (feq hc).1 st, r⟩
theorem w_if_eq (ok : Ok K Z n0 own code maxL ret nm) {x : Int32} {o : Int} {pc' : Nat} (hd : decode code pc = .ok (.ifCond .eq o, 3)) (hp : (pc : Int) + o = (pc' : Int)) (wy : x = 0 → W K l R n0 P h k n pc' L S) (wn : ¬ x = 0 → W K l R n0 P h k n (pc + 3) L S) : W K l R n0 P h k n pc L (.int x :: S) := by
  obtain ⟨p, e, s, m, args, below, meth, c⟩ := K
  obtain ⟨hx, hZ, hown, hby, -⟩ := ok
  intro T locs X eT N
  by_cases hc : x = 0
  · obtain ⟨s₂, o, st, r⟩ := wy hc T locs X eT N
    exact ⟨s₂, o, XS.ifYes X.here hx rfl (pc0 := pc) (pc' := pc') rfl (hb hby hd) rfl ((if0 _ _).trans (teq hc).1) (by rw [hp]; exact Int.natCast_nonneg _) (by rw [hp]; rfl) st, r⟩
  · obtain ⟨s₂, o, st, r⟩ := wn hc T locs X eT N
    exact ⟨s₂, o, XS.ifNo X.here hx rfl (hb hby hd) rfl ((if0 _ _).trans (feq hc).1) st, r⟩
theorem w_icmp_ne (ok : Ok K Z n0 own code maxL ret nm) {x y : Int32} {o : Int} {pc' : Nat} (hd : decode code pc = .ok (.if_icmp .ne o, 3)) (hp : (pc : Int) + o = (pc' : Int)) (wy : ¬ x = y → W K l R n0 P h k n pc' L S) (wn : x = y → W K l R n0 P h k n (pc + 3) L S) : W K l R n0 P h k n pc L (.int y :: .int x :: S) := by
  obtain ⟨p, e, s, m, args, below, meth, c⟩ := K
  obtain ⟨hx, hZ, hown, hby, -⟩ := ok
  intro T locs X eT N
  by_cases hc : x = y
  · obtain ⟨s₂, o, st, r⟩ := wn hc T locs X eT N
    exact ⟨s₂, o, XS.icmpNo X.here hx rfl (hb hby hd) rfl (teq hc).2 st, r⟩
  · obtain ⟨s₂, o, st, r⟩ := wy hc T locs X eT N
    exact ⟨s₂, o, XS.icmpYes X.here hx rfl (pc0 := pc) (pc' := pc') rfl (hb hby hd) rfl (feq hc).2 (by rw [hp]; exact Int.natCast_nonneg _) (by rw [hp]; rfl) st, r⟩
theorem w_if_ne (ok : Ok K Z n0 own code maxL ret nm) {x : Int32} {o : Int} {pc' : Nat} (hd : decode code pc = .ok (.ifCond .ne o, 3)) (hp : (pc : Int) + o = (pc' : Int)) (wy : ¬ x = 0 → W K l R n0 P h k n pc' L S) (wn : x = 0 → W K l R n0 P h k n (pc + 3) L S) : W K l R n0 P h k n pc L (.int x :: S) := by
  obtain ⟨p, e, s, m, args, below, meth, c⟩ := K
  obtain ⟨hx, hZ, hown, hby, -⟩ := ok
  intro T locs X eT N
  by_cases hc : x = 0
  · obtain ⟨s₂, o, st, r⟩ := wn hc T locs X eT N
    exact ⟨s₂, o, XS.ifNo X.here hx rfl (hb hby hd) rfl ((if0 _ _).trans (teq hc).2) st, r⟩
  · obtain ⟨s₂, o, st, r⟩ := wy hc T locs X eT N
    exact ⟨s₂, o, XS.ifYes X.here hx rfl (pc0 := pc) (pc' := pc') rfl (hb hby hd) rfl ((if0 _ _).trans (feq hc).2) (by rw [hp]; exact Int.natCast_nonneg _) (by rw [hp]; rfl) st, r⟩
theorem w_icmp_lt (ok : Ok K Z n0 own code maxL ret nm) {x y : Int32} {o : Int} {pc' : Nat} (hd : decode code pc = .ok (.if_icmp .lt o, 3)) (hp : (pc : Int) + o = (pc' : Int)) (wy : x < y → W K l R n0 P h k n pc' L S) (wn : ¬ x < y → W K l R n0 P h k n (pc + 3) L S) : W K l R n0 P h k n pc L (.int y :: .int x :: S) := by
  obtain ⟨p, e, s, m, args, below, meth, c⟩ := K
  obtain ⟨hx, hZ, hown, hby, -⟩ := ok
  intro T locs X eT N
  by_cases hc : x < y
  · obtain ⟨s₂, o, st, r⟩ := wy hc T locs X eT N
    exact ⟨s₂, o, XS.icmpYes X.here hx rfl (pc0 := pc) (pc' := pc') rfl (hb hby hd) rfl (tlt hc).1 (by rw [hp]; exact Int.natCast_nonneg _) (by rw [hp]; rfl) st, r⟩
  · obtain ⟨s₂, o, st, r⟩ := wn hc T locs X eT N
    exact ⟨s₂, o, XS.icmpNo X.here hx rfl (hb hby hd) rfl (flt hc).1 st, r⟩
theorem w_if_lt (ok : Ok K Z n0 own code maxL ret nm) {x : Int32} {o : Int} {pc' : Nat} (hd : decode code pc = .ok (.ifCond .lt o, 3)) (hp : (pc : Int) + o = (pc' : Int)) (wy : x < 0 → W K l R n0 P h k n pc' L S) (wn : ¬ x < 0 → W K l R n0 P h k n (pc + 3) L S) : W K l R n0 P h k n pc L (.int x :: S) := by
  obtain ⟨p, e, s, m, args, below, meth, c⟩ := K
  obtain ⟨hx, hZ, hown, hby, -⟩ := ok
  intro T locs X eT N
  by_cases hc : x < 0
  · obtain ⟨s₂, o, st, r⟩ := wy hc T locs X eT N
    exact ⟨s₂, o, XS.ifYes X.here hx rfl (pc0 := pc) (pc' := pc') rfl (hb hby hd) rfl ((if0 _ _).trans (tlt hc).1) (by rw [hp]; exact Int.natCast_nonneg _) (by rw [hp]; rfl) st, r⟩
  · obtain ⟨s₂, o, st, r⟩ := wn hc T locs X eT N
    exact ⟨s₂, o, XS.ifNo X.here hx rfl (hb hby hd) rfl ((if0 _ _).trans (flt hc).1) st, r⟩
theorem w_icmp_ge (ok : Ok K Z n0 own code maxL ret nm) {x y : Int32} {o : Int} {pc' : Nat} (hd : decode code pc = .ok (.if_icmp .ge o, 3)) (hp : (pc : Int) + o = (pc' : Int)) (wy : ¬ x < y → W K l R n0 P h k n pc' L S) (wn : x < y → W K l R n0 P h k n (pc + 3) L S) : W K l R n0 P h k n pc L (.int y :: .int x :: S) := by
  obtain ⟨p, e, s, m, args, below, meth, c⟩ := K
  obtain ⟨hx, hZ, hown, hby, -⟩ := ok
  intro T locs X eT N
  by_cases hc : x < y
  · obtain ⟨s₂, o, st, r⟩ := wn hc T locs X eT N
    exact ⟨s₂, o, XS.icmpNo X.here hx rfl (hb hby hd) rfl (tlt hc).2.1 st, r⟩
  · obtain ⟨s₂, o, st, r⟩ := wy hc T locs X eT N
    exact ⟨s₂, o, XS.icmpYes X.here hx rfl (pc0 := pc) (pc' := pc') rfl (hb hby hd) rfl (flt hc).2.1 (by rw [hp]; exact Int.natCast_nonneg _) (by rw [hp]; rfl) st, r⟩
theorem w_if_ge (ok : Ok K Z n0 own code maxL ret nm) {x : Int32} {o : Int} {pc' : Nat} (hd : decode code pc = .ok (.ifCond .ge o, 3)) (hp : (pc : Int) + o = (pc' : Int)) (wy : ¬ x < 0 → W K l R n0 P h k n pc' L S) (wn : x < 0 → W K l R n0 P h k n (pc + 3) L S) : W K l R n0 P h k n pc L (.int x :: S) := by
  obtain ⟨p, e, s, m, args, below, meth, c⟩ := K
  obtain ⟨hx, hZ, hown, hby, -⟩ := ok
  intro T locs X eT N
  by_cases hc : x < 0
  · obtain ⟨s₂, o, st, r⟩ := wn hc T locs X eT N
    exact ⟨s₂, o, XS.ifNo X.here hx rfl (hb hby hd) rfl ((if0 _ _).trans (tlt hc).2.1) st, r⟩
  · obtain ⟨s₂, o, st, r⟩ := wy hc T locs X eT N
    exact ⟨s₂, o, XS.ifYes X.here hx rfl (pc0 := pc) (pc' := pc') rfl (hb hby hd) rfl ((if0 _ _).trans (flt hc).2.1) (by rw [hp]; exact Int.natCast_nonneg _) (by rw [hp]; rfl) st, r⟩
theorem w_icmp_gt (ok : Ok K Z n0 own code maxL ret nm) {x y : Int32} {o : Int} {pc' : Nat} (hd : decode code pc = .ok (.if_icmp .gt o, 3)) (hp : (pc : Int) + o = (pc' : Int)) (wy : y < x → W K l R n0 P h k n pc' L S) (wn : ¬ y < x → W K l R n0 P h k n (pc + 3) L S) : W K l R n0 P h k n pc L (.int y :: .int x :: S) := by
  obtain ⟨p, e, s, m, args, below, meth, c⟩ := K
  obtain ⟨hx, hZ, hown, hby, -⟩ := ok
  intro T locs X eT N
  by_cases hc : y < x
  · obtain ⟨s₂, o, st, r⟩ := wy hc T locs X eT N
    exact ⟨s₂, o, XS.icmpYes X.here hx rfl (pc0 := pc) (pc' := pc') rfl (hb hby hd) rfl (tlt hc).2.2.1 (by rw [hp]; exact Int.natCast_nonneg _) (by rw [hp]; rfl) st, r⟩
  · obtain ⟨s₂, o, st, r⟩ := wn hc T locs X eT N
    exact ⟨s₂, o, XS.icmpNo X.here hx rfl (hb hby hd) rfl (flt hc).2.2.1 st, r⟩
theorem w_if_gt (ok : Ok K Z n0 own code maxL ret nm) {x : Int32} {o : Int} {pc' : Nat} (hd : decode code pc = .ok (.ifCond .gt o, 3)) (hp : (pc : Int) + o = (pc' : Int)) (wy : 0 < x → W K l R n0 P h k n pc' L S) (wn : ¬ 0 < x → W K l R n0 P h k n (pc + 3) L S) : W K l R n0 P h k n pc L (.int x :: S) := by
  obtain ⟨p, e, s, m, args, below, meth, c⟩ := K
  obtain ⟨hx, hZ, hown, hby, -⟩ := ok
  intro T locs X eT N
  by_cases hc : 0 < x
  · obtain ⟨s₂, o, st, r⟩ := wy hc T locs X eT N
    exact ⟨s₂, o, XS.ifYes X.here hx rfl (pc0 := pc) (pc' := pc') rfl (hb hby hd) rfl ((if0 _ _).trans (tlt hc).2.2.1) (by rw [hp]; exact Int.natCast_nonneg _) (by rw [hp]; rfl) st, r⟩
  · obtain ⟨s₂, o, st, r⟩ := wn hc T locs X eT N
    exact ⟨s₂, o, XS.ifNo X.here hx rfl (hb hby hd) rfl ((if0 _ _).trans (flt hc).2.2.1) st, r⟩
theorem w_icmp_le (ok : Ok K Z n0 own code maxL ret nm) {x y : Int32} {o : Int} {pc' : Nat} (hd : decode code pc = .ok (.if_icmp .le o, 3)) (hp : (pc : Int) + o = (pc' : Int)) (wy : ¬ y < x → W K l R n0 P h k n pc' L S) (wn : y < x → W K l R n0 P h k n (pc + 3) L S) : W K l R n0 P h k n pc L (.int y :: .int x :: S) := by
  obtain ⟨p, e, s, m, args, below, meth, c⟩ := K
  obtain ⟨hx, hZ, hown, hby, -⟩ := ok
  intro T locs X eT N
  by_cases hc : y < x
  · obtain ⟨s₂, o, st, r⟩ := wn hc T locs X eT N
    exact ⟨s₂, o, XS.icmpNo X.here hx rfl (hb hby hd) rfl (tlt hc).2.2.2 st, r⟩
  · obtain ⟨s₂, o, st, r⟩ := wy hc T locs X eT N
    exact ⟨s₂, o, XS.icmpYes X.here hx rfl (pc0 := pc) (pc' := pc') rfl (hb hby hd) rfl (flt hc).2.2.2 (by rw [hp]; exact Int.natCast_nonneg _) (by rw [hp]; rfl) st, r⟩
theorem w_if_le (ok : Ok K Z n0 own code maxL ret nm) {x : Int32} {o : Int} {pc' : Nat} (hd : decode code pc = .ok (.ifCond .le o, 3)) (hp : (pc : Int) + o = (pc' : Int)) (wy : ¬ 0 < x → W K l R n0 P h k n pc' L S) (wn : 0 < x → W K l R n0 P h k n (pc + 3) L S) : W K l R n0 P h k n pc L (.int x :: S) := by
  obtain ⟨p, e, s, m, args, below, meth, c⟩ := K
  obtain ⟨hx, hZ, hown, hby, -⟩ := ok
  intro T locs X eT N
  by_cases hc : 0 < x
  · obtain ⟨s₂, o, st, r⟩ := wn hc T locs X eT N
    exact ⟨s₂, o, XS.ifNo X.here hx rfl (hb hby hd) rfl ((if0 _ _).trans (tlt hc).2.2.2) st, r⟩
  · obtain ⟨s₂, o, st, r⟩ := wy hc T locs X eT N
    exact ⟨s₂, o, XS.ifYes X.here hx rfl (pc0 := pc) (pc' := pc') rfl (hb hby hd) rfl ((if0 _ _).trans (flt hc).2.2.2) (by rw [hp]; exact Int.natCast_nonneg _) (by rw [hp]; rfl) st, r⟩
theorem w_lcmp (ok : Ok K Z n0 own code maxL ret nm) {x y : Int64} (hd : decode code pc = .ok (.lcmp, 1)) (w : W K l R n0 P h k n (pc + 1) L (.int (lcmpW x y) :: S)) : W K l R n0 P h k n pc L (.long y :: .long x :: S) := by
  obtain ⟨p, e, s, m, args, below, meth, c⟩ := K
  obtain ⟨hx, hZ, hown, hby, -⟩ := ok
  intro T locs X eT N
  obtain ⟨s₂, o, st, r⟩ := w T locs X eT N
  exact ⟨s₂, o, XS.lcmp X.here hx rfl (hb hby hd) rfl st, r⟩
theorem w_lcmp_eq (ok : Ok K Z n0 own code maxL ret nm) {x y : Int64} {o : Int} {pc' : Nat} (hd : decode code pc = .ok (.lcmp, 1)) (hd2 : decode code (pc + 1) = .ok (.ifCond .eq o, 3)) (hp : ((pc + 1 : Nat) : Int) + o = (pc' : Int)) (wy : x = y → W K l R n0 P h k n pc' L S) (wn : ¬ x = y → W K l R n0 P h k n (pc + 4) L S) : W K l R n0 P h k n pc L (.long y :: .long x :: S) :=
  w_lcmp ok hd (w_if_eq ok hd2 hp (fun hc => wy ((lw_eq x y).mp hc)) (fun hc => wn (fun q => hc ((lw_eq x y).mpr q))))
theorem w_lcmp_ne (ok : Ok K Z n0 own code maxL ret nm) {x y : Int64} {o : Int} {pc' : Nat} (hd : decode code pc = .ok (.lcmp, 1)) (hd2 : decode code (pc + 1) = .ok (.ifCond .ne o, 3)) (hp : ((pc + 1 : Nat) : Int) + o = (pc' : Int)) (wy : ¬ x = y → W K l R n0 P h k n pc' L S) (wn : x = y → W K l R n0 P h k n (pc + 4) L S) : W K l R n0 P h k n pc L (.long y :: .long x :: S) :=
  w_lcmp ok hd (w_if_ne ok hd2 hp (fun hc => wy (fun q => hc ((lw_eq x y).mpr q))) (fun hc => wn ((lw_eq x y).mp hc)))
theorem w_lcmp_lt (ok : Ok K Z n0 own code maxL ret nm) {x y : Int64} {o : Int} {pc' : Nat} (hd : decode code pc = .ok (.lcmp, 1)) (hd2 : decode code (pc + 1) = .ok (.ifCond .lt o, 3)) (hp : ((pc + 1 : Nat) : Int) + o = (pc' : Int)) (wy : x < y → W K l R n0 P h k n pc' L S) (wn : ¬ x < y → W K l R n0 P h k n (pc + 4) L S) : W K l R n0 P h k n pc L (.long y :: .long x :: S) :=
  w_lcmp ok hd (w_if_lt ok hd2 hp (fun hc => wy ((lw_lt x y).mp hc)) (fun hc => wn (fun q => hc ((lw_lt x y).mpr q))))
theorem w_lcmp_ge (ok : Ok K Z n0 own code maxL ret nm) {x y : Int64} {o : Int} {pc' : Nat} (hd : decode code pc = .ok (.lcmp, 1)) (hd2 : decode code (pc + 1) = .ok (.ifCond .ge o, 3)) (hp : ((pc + 1 : Nat) : Int) + o = (pc' : Int)) (wy : ¬ x < y → W K l R n0 P h k n pc' L S) (wn : x < y → W K l R n0 P h k n (pc + 4) L S) : W K l R n0 P h k n pc L (.long y :: .long x :: S) :=
  w_lcmp ok hd (w_if_ge ok hd2 hp (fun hc => wy (fun q => hc ((lw_lt x y).mpr q))) (fun hc => wn ((lw_lt x y).mp hc)))
theorem w_lcmp_gt (ok : Ok K Z n0 own code maxL ret nm) {x y : Int64} {o : Int} {pc' : Nat} (hd : decode code pc = .ok (.lcmp, 1)) (hd2 : decode code (pc + 1) = .ok (.ifCond .gt o, 3)) (hp : ((pc + 1 : Nat) : Int) + o = (pc' : Int)) (wy : y < x → W K l R n0 P h k n pc' L S) (wn : ¬ y < x → W K l R n0 P h k n (pc + 4) L S) : W K l R n0 P h k n pc L (.long y :: .long x :: S) :=
  w_lcmp ok hd (w_if_gt ok hd2 hp (fun hc => wy ((lw_gt x y).mp hc)) (fun hc => wn (fun q => hc ((lw_gt x y).mpr q))))
theorem w_lcmp_le (ok : Ok K Z n0 own code maxL ret nm) {x y : Int64} {o : Int} {pc' : Nat} (hd : decode code pc = .ok (.lcmp, 1)) (hd2 : decode code (pc + 1) = .ok (.ifCond .le o, 3)) (hp : ((pc + 1 : Nat) : Int) + o = (pc' : Int)) (wy : ¬ y < x → W K l R n0 P h k n pc' L S) (wn : y < x → W K l R n0 P h k n (pc + 4) L S) : W K l R n0 P h k n pc L (.long y :: .long x :: S) :=
  w_lcmp ok hd (w_if_le ok hd2 hp (fun hc => wy (fun q => hc ((lw_gt x y).mpr q))) (fun hc => wn ((lw_gt x y).mp hc)))
theorem w_out {t : FieldType} {i : Instr} {w : Value} (ok : Ok K Z n0 own code maxL (some t) nm) (hn : narrow t w = w) (hi : (i = .ireturn ∧ (t = .int ∨ t = .boolean ∨ t = .byte ∨ t = .char ∨ t = .short) ∧ ∃ z, w = .int z) ∨ (i = .lreturn ∧ t = .long ∧ ∃ z, w = .long z) ∨ (i = .dreturn ∧ t = .double ∧ ∃ z, w = .double z) ∨ (i = .freturn ∧ t = .float ∧ ∃ z, w = .float z) ∨ (i = .areturn ∧ t.isReference = true ∧ w.isRef = true))
    (hd : decode code pc = .ok (i, 1)) (hk : k ≤ R.cells) (hs : n ≤ R.slots) (hP : P (some w) h) : W K l R n0 P h k n pc L (w :: S) := by
  obtain ⟨p, e, s, m, args, below, meth, c⟩ := K
  obtain ⟨hx, hZ, hown, hby, hml, hret, hnm, hlk, hn0⟩ := ok
  intro T locs X eT N
  obtain ⟨fs, hr, hrun, hended, hW, hsame⟩ := X.leave (v := some w) (fun q => by rw [hret] at q; cases q)
  exact ⟨_, _, retOut X hx hret hn hi (hb hby hd) hr, hrun, hended, _, _, rfl, ⟨by show P (some w) T.heap; rw [eT]; exact hP, N⟩, ⟨_, rfl⟩, hW, hsame.mono hk hs⟩
theorem w_iret {z : Int32} (ok : Ok K Z n0 own code maxL (some .int) nm) (hd : decode code pc = .ok (.ireturn, 1)) (hk : k ≤ R.cells) (hs : n ≤ R.slots) (hP : P (some (.int z)) h) : W K l R n0 P h k n pc L (.int z :: S) :=
  w_out ok rfl (Or.inl ⟨rfl, by simp, z, rfl⟩) hd hk hs hP
theorem w_lret {z : Int64} (ok : Ok K Z n0 own code maxL (some .long) nm) (hd : decode code pc = .ok (.lreturn, 1)) (hk : k ≤ R.cells) (hs : n ≤ R.slots) (hP : P (some (.long z)) h) : W K l R n0 P h k n pc L (.long z :: S) :=
  w_out ok rfl (Or.inr (Or.inl ⟨rfl, rfl, z, rfl⟩)) hd hk hs hP
theorem w_aret {w : Value} {t : FieldType} (ok : Ok K Z n0 own code maxL (some t) nm) (ht : t.isReference = true) (hw : w.isRef = true) (hd : decode code pc = .ok (.areturn, 1)) (hk : k ≤ R.cells) (hs : n ≤ R.slots) (hP : P (some w) h) : W K l R n0 P h k n pc L (w :: S) :=
  w_out ok (by rcases ref_cases hw with rfl | ⟨_, rfl⟩ <;> cases t <;> first | rfl | cases ht) (Or.inr (Or.inr (Or.inr (Or.inr ⟨rfl, ht, hw⟩)))) hd hk hs hP
theorem w_bret {z : Int32} {t : FieldType} (ok : Ok K Z n0 own code maxL (some t) nm) (ht : t = .boolean ∨ t = .byte ∨ t = .char ∨ t = .short) (hd : decode code pc = .ok (.ireturn, 1)) (hk : k ≤ R.cells) (hs : n ≤ R.slots) (hP : P (some (.int (nar t z))) h) : W K l R n0 P h k n pc L (.int z :: S) := by
  obtain ⟨p, e, s, m, args, below, meth, c⟩ := K
  obtain ⟨hx, hZ, hown, hby, hml, hret, hnm, hlk, hn0⟩ := ok
  intro T locs X eT N
  obtain ⟨fs, hr, hrun, hended, hW, hsame⟩ := X.leave (v := some (.int (nar t z))) (fun q => by rw [hret] at q; cases q)
  exact ⟨_, _, retN X hx hret ht (hb hby hd) hr, hrun, hended, _, _, rfl, ⟨by show P (some (.int (nar t z))) T.heap; rw [eT]; exact hP, N⟩, ⟨_, rfl⟩, hW, hsame.mono hk hs⟩
theorem w_ret (ok : Ok K Z n0 own code maxL none nm) (hd : decode code pc = .ok (.return_, 1)) (hk : k ≤ R.cells) (hs : n ≤ R.slots) (hP : P none h) : W K l R n0 P h k n pc L [] := by
  obtain ⟨p, e, s, m, args, below, meth, c⟩ := K
  obtain ⟨hx, hZ, hown, hby, hml, hret, hnm, hlk, hn0⟩ := ok
  intro T locs X eT N
  obtain ⟨fs, hr, hrun, hended, hW, hsame⟩ := X.leave (v := none) (fun _ => rfl)
  exact ⟨_, _, X.returnOut hx hret (hb hby hd) hr, hrun, hended, _, _, rfl, ⟨by show P none T.heap; rw [eT]; exact hP, N⟩, ⟨_, rfl⟩, hW, hsame.mono hk hs⟩
abbrev notHandle (y : MethodName) : Prop := y.cls ≠ "java/lang/invoke/MethodHandle" ∧ y.cls ≠ "java/lang/invoke/VarHandle"
theorem w_callS (ok : Ok K Z n0 own code maxL ret nm) {index : Nat} {y : MethodName} {bytes : ByteArray} {mL : Nat} {rt : Option FieldType} {rm : Room} {argsL rest : List Value} {Q : Option Value → Heap → Prop} {ps : List FieldType} {r : Option FieldType}
    (hd : decode code pc = .ok (.invokestatic index, 3)) (w1 : (Cond.methodLink own index y).before a0 Z = true) (w2 : (Cond.static y).before a0 Z = true) (w3 : (Cond.initialized y.cls).before a0 Z = true) (w4 : (Cond.code y bytes mL rt).before a0 Z = true) (hy : notHandle y)
    (pd : parseMethodDescriptor y.desc = some ⟨ps, r⟩) (hlen : argsL.length = ps.length) (hL : L.size = maxL) (hf : rm.frames + 1 ≤ R.frames) (hl : (rest.map fun v => v.category).sum + (mL + 11) + rm.locals ≤ R.locals) (hc : k + rm.cells ≤ R.cells) (hs : n + rm.slots ≤ R.slots)
    (hM : Old Z n0 h → Met l Z n0 y bytes mL rt [] rm argsL.toArray h Q) (w : ∀ v h', Q v h' → W K l R n0 P h' (k + rm.cells) (n + rm.slots) (pc + 3) L (v.toList ++ rest)) : W K l R n0 P h k n pc L (argsL.reverse ++ rest) := by
  obtain ⟨p, e, s, m, args, below, meth, c⟩ := K
  obtain ⟨hx, hZ, hown, hby, hml, hret, hnm, hlk, hn0⟩ := ok
  intro T locs X eT N
  have hM := hM (by rw [← eT]; exact old_now hn0 X N)
  obtain ⟨v, _, ⟨T1, L1, k1, n1⟩, -, X1, ⟨Lc, ⟨hQ, N1⟩, l1, y1, z1⟩, st⟩ := Jvm.LawKit.callS X hx (y := y) hown (mvT hZ w1) (mvT hZ w2) (mvT hZ w3) (mvT hZ w4) hy (backOf (W := (rest.map fun v => v.category).sum) (Q := fun v h L => Q v h ∧ Fr n0 L) hM hZ w4 w3 hf hl) (g := mkF m pc L (argsL.reverse ++ rest)) rfl (hL.trans hml.symm) (argsL := argsL) (rest := rest) (lenOf pd hlen) rfl (by show 2 * 0 + _ ≤ _; omega) (hb hby hd) (fun _ _ => ⟨rfl, eT, hc, hs⟩)
  dsimp only [Pt.U, Pt.locs, Pt.cells, Pt.slots] at X1 l1 y1 z1 st hQ
  subst l1 y1 z1
  obtain ⟨s₂, o, st2, r2⟩ := w v _ hQ T1 _ X1 rfl (Fr.app N N1)
  exact ⟨s₂, o, st _ st2, r2⟩
theorem pa_z {N : Nat} (q : N < 2 ^ 31) : ∃ z : Int32, N = z.toNatClampNeg ∧ ¬ z < 0 := by
  have e : (Int32.ofNat N).toInt = N := Int32.toInt_ofNat_of_lt q
  refine ⟨Int32.ofNat N, ?_, ?_⟩
  · simp [Int32.toNatClampNeg, e]
  · rw [Int32.lt_iff_toInt_lt, e]; simp
def PA (ty : FieldType) (Z : State) (h : Heap) (a : Addr) (vs : List Value) : Prop := ∃ c : Cell, Arr Z h a c ty ∧ vs.length < 2 ^ 31 ∧ c.slots = vs.toArray ∧ ∀ v ∈ vs, fits ty v = true
theorem pa_in {c : Cell} {vs : List Value} {j : Int32} (q : c.slots = vs.toArray) (h0 : ¬ j < 0) (hj : j.toNatClampNeg < vs.length) : ¬ (j < 0 ∨ c.slots.size ≤ j.toNatClampNeg) := by
  rw [q]; rintro (y | y)
  · exact h0 y
  · simp at y; omega
section PAs
variable {ty : FieldType} {h' : Heap} {a b : Addr} {vs : List Value} {v : Value} {sl : Nat} {ws : List Addr}
theorem PA.lt (A : PA ty Z h a vs) : a < h.size := by obtain ⟨c, A, -⟩ := A; exact A.lt
theorem PA.len (A : PA ty Z h a vs) : vs.length < 2 ^ 31 := by obtain ⟨c, A, q, -⟩ := A; exact q
theorem PA.ext (A : PA ty Z h a vs) (E : Ext h h') : PA ty Z h' a vs := by obtain ⟨c, A, r⟩ := A; exact ⟨c, A.ext E, r⟩
theorem PA.other (A : PA ty Z h b vs) (W1 : Wr h h' a sl v) (ne : b ≠ a) : PA ty Z h' b vs := by obtain ⟨c, A, r⟩ := A; exact ⟨c, A.other W1 ne, r⟩
theorem PA.keep (A : PA ty Z h a vs) (K1 : Keep h h' ws) (q : a ∉ ws) : PA ty Z h' a vs := by obtain ⟨c, A, r⟩ := A; exact ⟨c, ⟨K1.2.1 a c A.1 q, A.2⟩, r⟩
theorem PA.set (A : PA ty Z h a vs) (W1 : Wr h h' a sl v) (hv : fits ty v = true) : PA ty Z h' a (vs.set sl v) := by
  obtain ⟨c, A, hl, hs, hf⟩ := A
  refine ⟨c.setSlot sl v, A.same W1, by rw [List.length_set]; exact hl, ?_, ?_⟩
  · show c.slots.setIfInBounds sl v = _
    rw [hs]; simp
  · intro u hu
    rcases List.mem_or_eq_of_mem_set hu with q | rfl
    · exact hf _ q
    · exact hv
theorem PA.arv (A : PA ty Z h a vs) {z : Int32} (hz : vs.length = z.toNatClampNeg) (hz0 : ¬ z < 0) (d : Value) : ∃ k, Arv Z h a k ty z vs d := by
  obtain ⟨c, A, hl, hs, hf⟩ := A
  refine ⟨c.cls, c, A, rfl, by rw [hs]; simpa using hz, hz0, fun i hi => ?_, fun i hi => ?_⟩
  · rw [hs] at hi ⊢
    simp at hi
    simp [List.getD_eq_getElem?_getD, List.getElem?_eq_getElem hi]
  · rw [hs] at hi
    simp at hi
    rw [List.getD_eq_getElem?_getD, List.getElem?_eq_getElem hi]
    exact hf _ (List.getElem_mem hi)
theorem PA.of_arv {k : ClassId} {z : Int32} {d : Value} (B : Arv Z h a k ty z vs d) (hl : vs.length = z.toNatClampNeg) : PA ty Z h a vs := by
  obtain ⟨c, A, -, S1, N1, H, G⟩ := B
  have e : c.slots = vs.toArray := by
    apply Array.ext_getElem?
    intro i
    by_cases q : i < c.slots.size
    · rw [H i q]
      have q2 : i < vs.length := by omega
      simp [List.getD_eq_getElem?_getD, List.getElem?_eq_getElem q2]
    · rw [Array.getElem?_eq_none (by omega)]
      simp; omega
  refine ⟨c, A, by have := (back32 N1).2; omega, e, fun v hv => ?_⟩
  obtain ⟨i, hi, rfl⟩ := List.getElem_of_mem hv
  have q := G i (by omega)
  rw [List.getD_eq_getElem?_getD, List.getElem?_eq_getElem hi] at q
  exact q
end PAs
theorem w_arraylength (ok : Ok K Z n0 own code maxL ret nm) {ty : FieldType} {a : Addr} {vs : List Value} {z : Int32} (hd : decode code pc = .ok (.arraylength, 1)) (A : PA ty Z h a vs) (hz : vs.length = z.toNatClampNeg) (hz0 : ¬ z < 0) (w : W K l R n0 P h k n (pc + 1) L (.int z :: S)) : W K l R n0 P h k n pc L (.ref a :: S) := by
  obtain ⟨p, e, s, m, args, below, meth, c⟩ := K
  obtain ⟨hx, hZ, hown, hby, -⟩ := ok
  intro T locs X eT N
  obtain ⟨s₂, o, st, r⟩ := w T locs X eT N
  obtain ⟨cl, A, q1, q2, q3⟩ := A
  have e1 : cl.slots.size.toInt32 = z := len_of (by rw [q2]; simpa using hz) hz0
  exact ⟨s₂, o, X.arraylength hx (by rw [eT]; exact A.1) (State.isArrayOf_alike hZ.alike A.2.1) (g := mkF m pc L (.ref a :: S)) rfl rfl (hb hby hd) _ (by rw [e1]; exact st), r⟩
theorem w_newarray (ok : Ok K Z n0 own code maxL ret nm) {aty : ArrayType} {z : Int32} (hd : decode code pc = .ok (.newarray aty, 2)) (w1 : (Cond.arrayClass (newarray.typeOf aty)).before a0 Z = true) (hz : ¬ z < 0) {cap : Nat} (hcap : z.toNatClampNeg ≤ cap) (hb1 : cap * 8 ≤ 536870912) (hc : k + 1 ≤ R.cells) (hl : n + cap ≤ R.slots)
    (w : ∀ h' a, a = h.size → n0 ≤ a → Ext h h' → PA (newarray.typeOf aty) Z h' a (List.replicate z.toNatClampNeg (defaultValue (newarray.typeOf aty))) → W K l R n0 P h' (k + 1) (n + cap) (pc + 2) L (.ref a :: S)) : W K l R n0 P h k n pc L (.int z :: S) := by
  obtain ⟨p, e, s, m, args, below, meth, c⟩ := K
  obtain ⟨hx, hZ, hown, hby, hml, hret, hnm, hlk, hn0⟩ := ok
  intro T locs X eT N
  obtain ⟨T1, h1, cA, X1, e1, E1, A1, st⟩ := newP X hx hZ w1 eT (g := mkF m pc L (.int z :: S)) rfl (hb hby hd) rfl hz hcap hb1 hc hl
  have A2 : PA (newarray.typeOf aty) Z h1 h.size (List.replicate z.toNatClampNeg (defaultValue (newarray.typeOf aty))) := by
    refine ⟨_, A1, by simpa using (back32 hz).2, by simp [newA], fun v hv => ?_⟩
    rw [List.eq_of_mem_replicate hv]
    cases aty <;> rfl
  obtain ⟨s₂, o, st2, r⟩ := w h1 h.size rfl (by rw [← eT]; exact old_ge hn0 X N) E1 A2 T1 _ X1 e1 N
  exact ⟨s₂, o, st _ st2, r⟩
theorem w_arraycopy (ok : Ok K Z n0 own code maxL ret nm) {index : Nat} {ty : FieldType} {a b : Addr} {vs vd : List Value} {sp dp nn : Int32} {sp' dp' nn' : Nat} (hd : decode code pc = .ok (.invokestatic index, 3)) (w1 : (Cond.methodLink own index Jvm.Stand.acN).before a0 Z = true) (w2 : (Cond.native Jvm.Stand.acN).before a0 Z = true) (w3 : (Cond.static Jvm.Stand.acN).before a0 Z = true) (w4 : (Cond.initialized "java/lang/System").before a0 Z = true)
    (A : PA ty Z h a vs) (B : PA ty Z h b vd) (hty : refKind ty = false) (ge : n0 ≤ b) (h1 : ¬ sp < 0) (h2 : ¬ dp < 0) (h3 : ¬ nn < 0) (es : sp.toNatClampNeg = sp') (ed : dp.toNatClampNeg = dp') (en : nn.toNatClampNeg = nn') (h4 : sp' + nn' ≤ vs.length) (h5 : dp' + nn' ≤ vd.length) (hL : L.size = maxL) (hf : 1 ≤ R.frames) (hlo : (S.map fun v => v.category).sum + (nativeFrameWords "java/lang/System" "arraycopy" 5 + 11) ≤ R.locals)
    (w : ∀ h', Keep h h' [b] → PA ty Z h' b (vd.take dp' ++ (vs.drop sp').take nn' ++ vd.drop (dp' + nn')) → W K l R n0 P h' k n (pc + 3) L S) : W K l R n0 P h k n pc L (.int nn :: .int dp :: .ref b :: .int sp :: .ref a :: S) := by
  obtain ⟨p, e, s, m, args, below, meth, c⟩ := K
  obtain ⟨hx, hZ, hown, hby, hml, hret, hnm, hlk, hn0⟩ := ok
  intro T locs X eT N
  subst es ed en
  obtain ⟨z1, hz1, hz2⟩ : ∃ z : Int32, vs.length = z.toNatClampNeg ∧ ¬ z < 0 := pa_z A.len
  obtain ⟨z3, hz3, hz4⟩ : ∃ z : Int32, vd.length = z.toNatClampNeg ∧ ¬ z < 0 := pa_z B.len
  obtain ⟨k1, A1⟩ := A.arv hz1 hz2 .null
  obtain ⟨k2, B1⟩ := B.arv hz3 hz4 .null
  obtain ⟨T1, h1', L1, X1, e1, N1, K1, B2, st⟩ := cpA X hx hZ hown w1 w2 w3 w4 eT A1 B1 (Or.inl ⟨rfl, hty⟩) h1 h2 h3 (by omega) (by omega) rfl h5 N ge (g := mkF m pc L (.int nn :: .int dp :: .ref b :: .int sp :: .ref a :: S)) rfl (hL.trans hml.symm) rfl (hb hby hd) hf (W := (S.map fun v => v.category).sum) (by show 2 * 0 + _ ≤ _; omega) hlo
  have e2 : ((List.range nn.toNatClampNeg).map fun i => vs.getD (sp.toNatClampNeg + i) Value.null) = (vs.drop sp.toNatClampNeg).take nn.toNatClampNeg := by
    apply List.ext_getElem
    · simp; omega
    · intro i q1 q2
      simp at q1
      simp [List.getD_eq_getElem?_getD, List.getElem?_eq_getElem (show sp.toNatClampNeg + i < vs.length by omega)]
  rw [e2] at B2
  obtain ⟨s₂, o, st2, r⟩ := w h1' K1 (PA.of_arv B2 (by simp; omega)) T1 _ X1 e1 N1
  exact ⟨s₂, o, st _ st2, r⟩
theorem w_iaload (ok : Ok K Z n0 own code maxL ret nm) {a : Addr} {vs : List Value} {j : Int32} {v : Value} (hd : decode code pc = .ok (.iaload, 1)) (A : PA .int Z h a vs) (h0 : ¬ j < 0) (hj : vs[j.toNatClampNeg]? = some v) (w : W K l R n0 P h k n (pc + 1) L (v :: S)) : W K l R n0 P h k n pc L (.int j :: .ref a :: S) := by
  obtain ⟨p, e, s, m, args, below, meth, c⟩ := K
  obtain ⟨hx, hZ, hown, hby, -⟩ := ok
  intro T locs X eT N
  obtain ⟨s₂, o, st, r⟩ := w T locs X eT N
  obtain ⟨cl, A, q1, q2, q3⟩ := A
  exact ⟨s₂, o, X.iaload hx (j := j) (v := v) (by rw [eT]; exact A.1) (State.isArrayOf_alike hZ.alike A.2.1) A.2.2 (pa_in q2 h0 (List.getElem?_eq_some_iff.mp hj).1) (by rw [q2]; simpa using hj) (g := mkF m pc L (.int j :: .ref a :: S)) rfl rfl (hb hby hd) _ st, r⟩
theorem w_laload (ok : Ok K Z n0 own code maxL ret nm) {a : Addr} {vs : List Value} {j : Int32} {v : Value} (hd : decode code pc = .ok (.laload, 1)) (A : PA .long Z h a vs) (h0 : ¬ j < 0) (hj : vs[j.toNatClampNeg]? = some v) (w : W K l R n0 P h k n (pc + 1) L (v :: S)) : W K l R n0 P h k n pc L (.int j :: .ref a :: S) := by
  obtain ⟨p, e, s, m, args, below, meth, c⟩ := K
  obtain ⟨hx, hZ, hown, hby, -⟩ := ok
  intro T locs X eT N
  obtain ⟨s₂, o, st, r⟩ := w T locs X eT N
  obtain ⟨cl, A, q1, q2, q3⟩ := A
  exact ⟨s₂, o, X.laload hx (j := j) (v := v) (by rw [eT]; exact A.1) (State.isArrayOf_alike hZ.alike A.2.1) A.2.2 (pa_in q2 h0 (List.getElem?_eq_some_iff.mp hj).1) (by rw [q2]; simpa using hj) (g := mkF m pc L (.int j :: .ref a :: S)) rfl rfl (hb hby hd) _ st, r⟩
theorem w_caload (ok : Ok K Z n0 own code maxL ret nm) {a : Addr} {vs : List Value} {j : Int32} {v : Value} (hd : decode code pc = .ok (.caload, 1)) (A : PA .char Z h a vs) (h0 : ¬ j < 0) (hj : vs[j.toNatClampNeg]? = some v) (w : W K l R n0 P h k n (pc + 1) L (v :: S)) : W K l R n0 P h k n pc L (.int j :: .ref a :: S) := by
  obtain ⟨p, e, s, m, args, below, meth, c⟩ := K
  obtain ⟨hx, hZ, hown, hby, -⟩ := ok
  intro T locs X eT N
  obtain ⟨s₂, o, st, r⟩ := w T locs X eT N
  obtain ⟨cl, A, q1, q2, q3⟩ := A
  exact ⟨s₂, o, X.caload hx (j := j) (v := v) (by rw [eT]; exact A.1) (State.isArrayOf_alike hZ.alike A.2.1) A.2.2 (pa_in q2 h0 (List.getElem?_eq_some_iff.mp hj).1) (by rw [q2]; simpa using hj) (g := mkF m pc L (.int j :: .ref a :: S)) rfl rfl (hb hby hd) _ st, r⟩
theorem w_baload (ok : Ok K Z n0 own code maxL ret nm) {a : Addr} {vs : List Value} {j : Int32} {v : Value} (hd : decode code pc = .ok (.baload, 1)) (A : PA .byte Z h a vs) (h0 : ¬ j < 0) (hj : vs[j.toNatClampNeg]? = some v) (w : W K l R n0 P h k n (pc + 1) L (v :: S)) : W K l R n0 P h k n pc L (.int j :: .ref a :: S) := by
  obtain ⟨p, e, s, m, args, below, meth, c⟩ := K
  obtain ⟨hx, hZ, hown, hby, -⟩ := ok
  intro T locs X eT N
  obtain ⟨s₂, o, st, r⟩ := w T locs X eT N
  obtain ⟨cl, A, q1, q2, q3⟩ := A
  exact ⟨s₂, o, X.baloadBytes hx (j := j) (v := v) (by rw [eT]; exact A.1) (State.isArrayOf_alike hZ.alike A.2.1) A.2.2 (pa_in q2 h0 (List.getElem?_eq_some_iff.mp hj).1) (by rw [q2]; simpa using hj) (g := mkF m pc L (.int j :: .ref a :: S)) rfl rfl (hb hby hd) _ st, r⟩
theorem w_zaload (ok : Ok K Z n0 own code maxL ret nm) {a : Addr} {vs : List Value} {j : Int32} {v : Value} (hd : decode code pc = .ok (.baload, 1)) (A : PA .boolean Z h a vs) (h0 : ¬ j < 0) (hj : vs[j.toNatClampNeg]? = some v) (w : W K l R n0 P h k n (pc + 1) L (v :: S)) : W K l R n0 P h k n pc L (.int j :: .ref a :: S) := by
  obtain ⟨p, e, s, m, args, below, meth, c⟩ := K
  obtain ⟨hx, hZ, hown, hby, -⟩ := ok
  intro T locs X eT N
  obtain ⟨s₂, o, st, r⟩ := w T locs X eT N
  obtain ⟨cl, A, q1, q2, q3⟩ := A
  exact ⟨s₂, o, X.baloadBooleans hx (j := j) (v := v) (by rw [eT]; exact A.1) (State.isArrayOf_alike hZ.alike A.2.1) A.2.2 (pa_in q2 h0 (List.getElem?_eq_some_iff.mp hj).1) (by rw [q2]; simpa using hj) (g := mkF m pc L (.int j :: .ref a :: S)) rfl rfl (hb hby hd) _ st, r⟩
theorem w_aaload (ok : Ok K Z n0 own code maxL ret nm) {ty : FieldType} {a : Addr} {vs : List Value} {j : Int32} {v : Value} (hd : decode code pc = .ok (.aaload, 1)) (A : PA ty Z h a vs) (ht : ty.isReference = true) (h0 : ¬ j < 0) (hj : vs[j.toNatClampNeg]? = some v) (w : W K l R n0 P h k n (pc + 1) L (v :: S)) : W K l R n0 P h k n pc L (.int j :: .ref a :: S) := by
  obtain ⟨p, e, s, m, args, below, meth, c⟩ := K
  obtain ⟨hx, hZ, hown, hby, -⟩ := ok
  intro T locs X eT N
  obtain ⟨s₂, o, st, r⟩ := w T locs X eT N
  obtain ⟨cl, A, q1, q2, q3⟩ := A
  exact ⟨s₂, o, X.aaload hx (j := j) (v := v) (by rw [eT]; exact A.1) (State.isArrayOf_alike hZ.alike A.2.1) ht A.2.2 (pa_in q2 h0 (List.getElem?_eq_some_iff.mp hj).1) (by rw [q2]; simpa using hj) (g := mkF m pc L (.int j :: .ref a :: S)) rfl rfl (hb hby hd) _ st, r⟩
theorem w_iastore (ok : Ok K Z n0 own code maxL ret nm) {a : Addr} {vs : List Value} {j : Int32} {x : Int32} (hd : decode code pc = .ok (.iastore, 1)) (A : PA .int Z h a vs) (ge : n0 ≤ a) (h0 : ¬ j < 0) (hj : j.toNatClampNeg < vs.length) (w : ∀ h', Wr h h' a j.toNatClampNeg (.int x) → PA .int Z h' a (vs.set j.toNatClampNeg (.int x)) → W K l R n0 P h' k n (pc + 1) L S) : W K l R n0 P h k n pc L (.int x :: .int j :: .ref a :: S) := by
  obtain ⟨p, e, s, m, args, below, meth, c⟩ := K
  obtain ⟨hx, hZ, hown, hby, -⟩ := ok
  intro T locs X eT N
  have A0 := A
  obtain ⟨cl, A, q1, q2, q3⟩ := A
  obtain ⟨T1, h1, X1, e1, W1, st⟩ := stI X hx hZ eT A (j := j) (pa_in q2 h0 hj) (g := mkF m pc L (.int x :: .int j :: .ref a :: S)) rfl rfl (hb hby hd)
  obtain ⟨s₂, o, st2, r⟩ := w h1 W1 (A0.set W1 rfl) T1 _ X1 e1 (Fr.snoc X1 N ge)
  exact ⟨s₂, o, st _ st2, r⟩
theorem w_lastore (ok : Ok K Z n0 own code maxL ret nm) {a : Addr} {vs : List Value} {j : Int32} {x : Int64} (hd : decode code pc = .ok (.lastore, 1)) (A : PA .long Z h a vs) (ge : n0 ≤ a) (h0 : ¬ j < 0) (hj : j.toNatClampNeg < vs.length) (w : ∀ h', Wr h h' a j.toNatClampNeg (.long x) → PA .long Z h' a (vs.set j.toNatClampNeg (.long x)) → W K l R n0 P h' k n (pc + 1) L S) : W K l R n0 P h k n pc L (.long x :: .int j :: .ref a :: S) := by
  obtain ⟨p, e, s, m, args, below, meth, c⟩ := K
  obtain ⟨hx, hZ, hown, hby, -⟩ := ok
  intro T locs X eT N
  have A0 := A
  obtain ⟨cl, A, q1, q2, q3⟩ := A
  obtain ⟨T1, h1, X1, e1, W1, st⟩ := stJ X hx hZ eT A (j := j) (pa_in q2 h0 hj) (g := mkF m pc L (.long x :: .int j :: .ref a :: S)) rfl rfl (hb hby hd)
  obtain ⟨s₂, o, st2, r⟩ := w h1 W1 (A0.set W1 rfl) T1 _ X1 e1 (Fr.snoc X1 N ge)
  exact ⟨s₂, o, st _ st2, r⟩
theorem w_castore (ok : Ok K Z n0 own code maxL ret nm) {a : Addr} {vs : List Value} {j : Int32} {x : Int32} (hd : decode code pc = .ok (.castore, 1)) (A : PA .char Z h a vs) (ge : n0 ≤ a) (h0 : ¬ j < 0) (hj : j.toNatClampNeg < vs.length) (w : ∀ h', Wr h h' a j.toNatClampNeg (.int (nar .char x)) → PA .char Z h' a (vs.set j.toNatClampNeg (.int (nar .char x))) → W K l R n0 P h' k n (pc + 1) L S) : W K l R n0 P h k n pc L (.int x :: .int j :: .ref a :: S) := by
  obtain ⟨p, e, s, m, args, below, meth, c⟩ := K
  obtain ⟨hx, hZ, hown, hby, -⟩ := ok
  intro T locs X eT N
  have A0 := A
  obtain ⟨cl, A, q1, q2, q3⟩ := A
  obtain ⟨T1, h1, X1, e1, W1, st⟩ := stC X hx hZ eT A (j := j) (pa_in q2 h0 hj) (g := mkF m pc L (.int x :: .int j :: .ref a :: S)) rfl rfl (hb hby hd)
  obtain ⟨s₂, o, st2, r⟩ := w h1 W1 (A0.set W1 (fits_nar_char x)) T1 _ X1 e1 (Fr.snoc X1 N ge)
  exact ⟨s₂, o, st _ st2, r⟩
theorem w_bastore (ok : Ok K Z n0 own code maxL ret nm) {a : Addr} {vs : List Value} {j : Int32} {x : Int32} (hd : decode code pc = .ok (.bastore, 1)) (A : PA .byte Z h a vs) (ge : n0 ≤ a) (h0 : ¬ j < 0) (hj : j.toNatClampNeg < vs.length) (w : ∀ h', Wr h h' a j.toNatClampNeg (.int (nar .byte x)) → PA .byte Z h' a (vs.set j.toNatClampNeg (.int (nar .byte x))) → W K l R n0 P h' k n (pc + 1) L S) : W K l R n0 P h k n pc L (.int x :: .int j :: .ref a :: S) := by
  obtain ⟨p, e, s, m, args, below, meth, c⟩ := K
  obtain ⟨hx, hZ, hown, hby, -⟩ := ok
  intro T locs X eT N
  have A0 := A
  obtain ⟨cl, A, q1, q2, q3⟩ := A
  obtain ⟨T1, h1, X1, e1, W1, st⟩ := stB X hx hZ eT A (j := j) (pa_in q2 h0 hj) (g := mkF m pc L (.int x :: .int j :: .ref a :: S)) rfl rfl (hb hby hd)
  obtain ⟨s₂, o, st2, r⟩ := w h1 W1 (A0.set W1 (fits_nar_byte x)) T1 _ X1 e1 (Fr.snoc X1 N ge)
  exact ⟨s₂, o, st _ st2, r⟩
theorem w_zastore (ok : Ok K Z n0 own code maxL ret nm) {a : Addr} {vs : List Value} {j : Int32} {x : Int32} (hd : decode code pc = .ok (.bastore, 1)) (A : PA .boolean Z h a vs) (ge : n0 ≤ a) (h0 : ¬ j < 0) (hj : j.toNatClampNeg < vs.length) (w : ∀ h', Wr h h' a j.toNatClampNeg (.int (nar .boolean x)) → PA .boolean Z h' a (vs.set j.toNatClampNeg (.int (nar .boolean x))) → W K l R n0 P h' k n (pc + 1) L S) : W K l R n0 P h k n pc L (.int x :: .int j :: .ref a :: S) := by
  obtain ⟨p, e, s, m, args, below, meth, c⟩ := K
  obtain ⟨hx, hZ, hown, hby, -⟩ := ok
  intro T locs X eT N
  have A0 := A
  obtain ⟨cl, A, q1, q2, q3⟩ := A
  obtain ⟨T1, h1, X1, e1, W1, st⟩ := stZ X hx hZ eT A (j := j) (pa_in q2 h0 hj) (g := mkF m pc L (.int x :: .int j :: .ref a :: S)) rfl rfl (hb hby hd)
  obtain ⟨s₂, o, st2, r⟩ := w h1 W1 (A0.set W1 (fits_nar_bool x)) T1 _ X1 e1 (Fr.snoc X1 N ge)
  exact ⟨s₂, o, st _ st2, r⟩
/-! objects -/
abbrev Fl := List (String × String × String × FieldType)
def Ob (Z : State) (h : Heap) (a : Addr) (C : String) (fl : Fl) (vals : List Value) : Prop := Exa Z h a C ∧ ∀ (i : Nat) f v, fl[i]? = some f → vals[i]? = some v → Fld Z h a f.1 f.2.1 f.2.2.1 v
def LA (Z : State) (a0 : Array Value) (C : String) (fl : Fl) : Prop := (∀ f ∈ fl, Laid Z a0 C f.1 f.2.1 f.2.2.1 ∧ parseFieldDescriptor f.2.2.1 = some f.2.2.2) ∧ (fl.map (·.2.1)).Nodup
section Obs
variable {h' : Heap} {a b : Addr} {C : String} {fl : Fl} {vals : List Value} {v : Value} {sl : Nat} {ws : List Addr}
theorem Ob.lt (O : Ob Z h a C fl vals) : a < h.size := O.1.lt
theorem Ob.ext (O : Ob Z h a C fl vals) (E : Ext h h') : Ob Z h' a C fl vals := ⟨O.1.ext E, fun i f v q r => (O.2 i f v q r).ext E⟩
theorem Ob.other (O : Ob Z h b C fl vals) (W1 : Wr h h' a sl v) (ne : b ≠ a) : Ob Z h' b C fl vals := ⟨O.1.wr W1, fun i f v q r => (O.2 i f v q r).other W1 (Or.inl ne)⟩
theorem Ob.keep (O : Ob Z h a C fl vals) (K1 : Keep h h' ws) (q : a ∉ ws) : Ob Z h' a C fl vals := ⟨O.1.keep K1, fun i f v r r' => (O.2 i f v r r').keep K1 q⟩
theorem Ob.put (O : Ob Z h a C fl vals) (LAs : LA Z a0 C fl) {i : Nat} {f : String × String × String × FieldType} {u : Value} (hf : fl[i]? = some f) (hv : vals[i]? = some u) (W1 : Wr h h' a (Jvm.RoadKit.slotOf Z f.1 f.2.1 f.2.2.1) v) : Ob Z h' a C fl (vals.set i v) := by
  refine ⟨O.1.wr W1, fun j g w hg hw => ?_⟩
  by_cases e : i = j
  · subst e
    cases hf.symm.trans hg
    rw [List.getElem?_set_self (List.getElem?_eq_some_iff.mp hv).1] at hw
    cases hw
    exact (O.2 i f u hf hv).same W1
  · rw [List.getElem?_set_ne e] at hw
    refine (O.2 j g w hg hw).other W1 (Or.inr ?_)
    have m1 := LAs.1 f (List.mem_of_getElem? hf)
    have m2 := LAs.1 g (List.mem_of_getElem? hg)
    refine slot_ne m2.1 m1.1 (fun q => e ?_) m2.2 m1.2
    have hi := (List.getElem?_eq_some_iff.mp hf)
    have hj := (List.getElem?_eq_some_iff.mp hg)
    have nd := LAs.2
    have q1 : (fl.map (·.2.1))[i]? = some f.2.1 := by simp [hf]
    have q2 : (fl.map (·.2.1))[j]? = some f.2.1 := by simp [hg, q]
    exact (List.getElem?_inj (by simpa using hi.1) nd).mp (q1.trans q2.symm)
end Obs
theorem w_getfield (ok : Ok K Z n0 own code maxL ret nm) {index : Nat} {a : Addr} {C R0 host : String} {fl : Fl} {vals : List Value} {v : Value} {f : String × String × String × FieldType} (i : Nat) (hd : decode code pc = .ok (.getfield index, 3)) (w1 : (Cond.fieldLink own index R0 f.2.1 f.2.2.1).before a0 Z = true ∨ (Cond.fieldLinkNest own index R0 f.2.1 f.2.2.1 host).before a0 Z = true) (via : Via Z R0 f.1 f.2.1 f.2.2.1) (O : Ob Z h a C fl vals) (hf : fl[i]? = some f) (hv : vals[i]? = some v)
    (w : W K l R n0 P h k n (pc + 3) L (v :: S)) : W K l R n0 P h k n pc L (.ref a :: S) := by
  obtain ⟨p, e, s, m, args, below, meth, c⟩ := K
  obtain ⟨hx, hZ, hown, hby, -⟩ := ok
  intro T locs X eT N
  obtain ⟨T1, X1, e1, st⟩ := getF X hx hZ hown w1 via eT (O.2 i f v hf hv) (g := mkF m pc L (.ref a :: S)) rfl rfl (hb hby hd)
  obtain ⟨s₂, o, st2, r⟩ := w T1 locs X1 e1 N
  exact ⟨s₂, o, st _ st2, r⟩
theorem w_getfieldR (ok : Ok K Z n0 own code maxL ret nm) {index : Nat} {a : Addr} {C : String} {fl : Fl} {vals : List Value} {v : Value} {f : String × String × String × FieldType} (i : Nat) (hd : decode code pc = .ok (.getfield index, 3)) (w1 : (Cond.fieldRef own index f.1 f.2.1 f.2.2.1).before a0 Z = true) (O : Ob Z h a C fl vals) (hf : fl[i]? = some f) (hv : vals[i]? = some v)
    (w : W K l R n0 P h k n (pc + 3) L (v :: S)) : W K l R n0 P h k n pc L (.ref a :: S) := by
  obtain ⟨p, e, s, m, args, below, meth, c⟩ := K
  obtain ⟨hx, hZ, hown, hby, -⟩ := ok
  intro T locs X eT N
  obtain ⟨s₂, o, st, r⟩ := w T locs X eT N
  refine ⟨s₂, o, ?_, r⟩
  obtain ⟨cell, cf, kk, j, fd, h1, h2, h3, h4, -, -, h7⟩ := O.2 i f v hf hv
  have hW : Z.Warmed39 T.vm := wtrans hZ X.warmed
  obtain ⟨k', hi, -⟩ := State.fieldFound?_setVm (s := Z) hW.alike h2
  have hc : (Z.setVm T.vm).vm.findClass own = some m.cls := by rw [State.vm_setVm, X.warmed.alike.findClass]; exact hown
  obtain ⟨c2, k2, i2, f2, q1, q2⟩ := Cond.fieldRef_spec hc (Cond.fieldRef_warmed39 hW w1)
  cases hi.symm.trans q1
  have q2 : T.vm.fieldReady m.cls index cf fd := q2
  jvm_step X.here [hx, hb hby hd, getfield.wp_ready (e := e) (s := T) (f := mkF m pc L (.ref a :: S)) X.here.top q2 h3 rfl (by rw [eT]; exact h1) h4 h7]
  exact st
theorem w_putfield (ok : Ok K Z n0 own code maxL ret nm) {index kk : Nat} {a : Addr} {C R0 host : String} {fl : Fl} {vals : List Value} {v u : Value} {f : String × String × String × FieldType} (i : Nat) (hd : decode code pc = .ok (.putfield index, 3)) (w1 : (Cond.fieldLink own index R0 f.2.1 f.2.2.1).before a0 Z = true ∨ (Cond.fieldLinkNest own index R0 f.2.1 f.2.2.1 host).before a0 Z = true) (via : Via Z R0 f.1 f.2.1 f.2.2.1) (O : Ob Z h a C fl vals) (LAs : LA Z a0 C fl) (hf : fl[i]? = some f) (hv : vals[i]? = some u)
    (w2 : (Cond.lays C f.1 f.2.1 f.2.2.1).before a0 Z = true ∨ ((Cond.laysFinal C f.1 f.2.1 f.2.2.1).before a0 Z = true ∧ own = f.1 ∧ nm = "<init>")) (w3 : (Cond.instantiable C kk).before a0 Z = true) (hn : narrow f.2.2.2 v = v) (hfit : fits f.2.2.2 v = true) (ge : n0 ≤ a)
    (w : ∀ h', Wr h h' a (Jvm.RoadKit.slotOf Z f.1 f.2.1 f.2.2.1) v → Ob Z h' a C fl (vals.set i v) → W K l R n0 P h' k n (pc + 3) L S) : W K l R n0 P h k n pc L (v :: .ref a :: S) := by
  obtain ⟨p, e, s, m, args, below, meth, c⟩ := K
  obtain ⟨hx, hZ, hown, hby, hml, hret, hnm, hlk, hn0⟩ := ok
  intro T locs X eT N
  obtain ⟨T1, h1, X1, e1, W1, st⟩ := putF X hx hZ hown w1 via eT (O.2 i f u hf hv) O.1 (w2.imp id fun q => ⟨q.1, q.2.1, hnm.trans q.2.2⟩) w3 (LAs.1 f (List.mem_of_getElem? hf)).2 hn hfit (g := mkF m pc L (v :: .ref a :: S)) rfl rfl (hb hby hd)
  obtain ⟨s₂, o, st2, r⟩ := w h1 W1 (O.put LAs hf hv W1) T1 _ X1 e1 (Fr.snoc X1 N ge)
  exact ⟨s₂, o, st _ st2, r⟩
theorem w_new (ok : Ok K Z n0 own code maxL ret nm) {index kk : Nat} {C : String} {fl : Fl} (hd : decode code pc = .ok (.new index, 3)) (w1 : (Cond.classLink own index C).before a0 Z = true) (w2 : (Cond.instantiable C kk).before a0 Z = true) (w3 : (Cond.initialized C).before a0 Z = true) (LAs : LA Z a0 C fl) (hc : k + 1 ≤ R.cells) (hl : n + kk ≤ R.slots)
    (w : ∀ h' a, a = h.size → n0 ≤ a → Ext h h' → Ob Z h' a C fl (fl.map fun f => defaultValue f.2.2.2) → W K l R n0 P h' (k + 1) (n + kk) (pc + 3) L (.ref a :: S)) : W K l R n0 P h k n pc L S := by
  obtain ⟨p, e, s, m, args, below, meth, c⟩ := K
  obtain ⟨hx, hZ, hown, hby, hml, hret, hnm, hlk, hn0⟩ := ok
  intro T locs X eT N
  obtain ⟨T1, h1, X1, e1, E1, A1, D1, -, st⟩ := newO X hx hZ hown w1 w2 w3 eT (g := mkF m pc L S) rfl (hb hby hd) hc hl
  obtain ⟨s₂, o, st2, r⟩ := w h1 h.size rfl (by rw [← eT]; exact old_ge hn0 X N) E1 ⟨A1, fun i f v hf hv => by
    simp [hf] at hv; subst hv
    exact D1 (LAs.1 f (List.mem_of_getElem? hf)).1 (LAs.1 f (List.mem_of_getElem? hf)).2⟩ T1 _ X1 e1 N
  exact ⟨s₂, o, st _ st2, r⟩
theorem w_initO (ok : Ok K Z n0 own code maxL ret nm) {index : Nat} {a : Addr} (hd : decode code pc = .ok (.invokespecial index, 3)) (w1 : (Cond.methodLink own index Lib.objectInit).before a0 Z = true) (w2 : (Cond.instanceMethod Lib.objectInit).before a0 Z = true) (w3 : (Cond.code Lib.objectInit ⟨#[0xb1]⟩ 1 none).before a0 Z = true) (hL : L.size = maxL) (hf : 1 ≤ R.frames) (hl : (S.map fun v => v.category).sum + 12 ≤ R.locals)
    (w : W K l R n0 P h k n (pc + 3) L S) : W K l R n0 P h k n pc L (.ref a :: S) := by
  obtain ⟨p, e, s, m, args, below, meth, c⟩ := K
  obtain ⟨hx, hZ, hown, hby, hml, hret, hnm, hlk, hn0⟩ := ok
  intro T locs X eT N
  obtain ⟨T1, X1, e1, st⟩ := initO X hx hZ hown w1 w2 w3 eT (g := mkF m pc L (.ref a :: S)) rfl (hL.trans hml.symm) rfl (hb hby hd) hf (W := (S.map fun v => v.category).sum) (by show 2 * 0 + _ ≤ _; omega) hl
  obtain ⟨s₂, o, st2, r⟩ := w T1 locs X1 e1 N
  exact ⟨s₂, o, st _ st2, r⟩
theorem w_callI (ok : Ok K Z n0 own code maxL ret nm) {index : Nat} {y : MethodName} {bytes : ByteArray} {mL : Nat} {rm : Room} {a : Addr} {argsL rest : List Value} {Q : Option Value → Heap → Prop} {ps : List FieldType} {r : Option FieldType}
    (hd : decode code pc = .ok (.invokespecial index, 3)) (hy1 : y.name = "<init>") (w1 : (Cond.methodLink own index y).before a0 Z = true) (w2 : (Cond.instanceMethod y).before a0 Z = true) (w3 : (Cond.initialized y.cls).before a0 Z = true) (w4 : (Cond.code y bytes mL none).before a0 Z = true) (hy : notHandle y)
    (pd : parseMethodDescriptor y.desc = some ⟨ps, r⟩) (hlen : argsL.length = ps.length) (hL : L.size = maxL) (hf : rm.frames + 1 ≤ R.frames) (hl : (rest.map fun v => v.category).sum + (mL + 11) + rm.locals ≤ R.locals) (hc : k + rm.cells ≤ R.cells) (hs : n + rm.slots ≤ R.slots)
    (hM : Old Z n0 h → Met l Z n0 y bytes mL none [] rm (.ref a :: argsL).toArray h Q) (w : ∀ v h', Q v h' → W K l R n0 P h' (k + rm.cells) (n + rm.slots) (pc + 3) L (v.toList ++ rest)) : W K l R n0 P h k n pc L (argsL.reverse ++ .ref a :: rest) := by
  obtain ⟨p, e, s, m, args, below, meth, c⟩ := K
  obtain ⟨hx, hZ, hown, hby, hml, hret, hnm, hlk, hn0⟩ := ok
  intro T locs X eT N
  have hM := hM (by rw [← eT]; exact old_now hn0 X N)
  obtain ⟨v, _, ⟨T1, L1, k1, n1⟩, -, X1, ⟨Lc, ⟨hQ, N1⟩, l1, y1, z1⟩, st⟩ := X.specialBack hx (y := y) hy1 hown (mvT hZ w1) (mvT hZ w2) (mvT hZ w4) hy (backOf (W := (rest.map fun v => v.category).sum) (Q := fun v h L => Q v h ∧ Fr n0 L) hM hZ w4 w3 hf hl) (g := mkF m pc L (argsL.reverse ++ .ref a :: rest)) rfl (hL.trans hml.symm) (Steps.refl _) (a := a) (argsL := argsL) (rest := rest) (lenOf pd hlen) rfl (by show 2 * 0 + _ ≤ _; omega) (hb hby hd) (fun _ _ => ⟨rfl, eT, hc, hs⟩)
  dsimp only [Pt.U, Pt.locs, Pt.cells, Pt.slots] at X1 l1 y1 z1 st hQ
  subst l1 y1 z1
  obtain ⟨s₂, o, st2, r2⟩ := w v _ hQ T1 _ X1 rfl (Fr.app N N1)
  exact ⟨s₂, o, st.trans st2, r2⟩
theorem w_callV (ok : Ok K Z n0 own code maxL ret nm) {index : Nat} {C : String} {y : MethodName} {bytes : ByteArray} {mL : Nat} {rt : Option FieldType} {rm : Room} {a : Addr} {argsL rest : List Value} {Q : Option Value → Heap → Prop} {ps : List FieldType} {r : Option FieldType}
    (hd : decode code pc = .ok (.invokevirtual index, 3)) (w1 : (Cond.methodLink own index y).before a0 Z = true) (w2 : (Cond.declares y).before a0 Z = true) (w3 : (Cond.selects C y y).before a0 Z = true) (w4 : (Cond.instanceMethod y).before a0 Z = true) (w5 : (Cond.initialized y.cls).before a0 Z = true) (w6 : (Cond.code y bytes mL rt).before a0 Z = true) (hy : notHandle y)
    (E : Exa Z h a C) (pd : parseMethodDescriptor y.desc = some ⟨ps, r⟩) (hlen : argsL.length = ps.length) (hL : L.size = maxL) (hf : rm.frames + 1 ≤ R.frames) (hl : (rest.map fun v => v.category).sum + (mL + 11) + rm.locals ≤ R.locals) (hc : k + rm.cells ≤ R.cells) (hs : n + rm.slots ≤ R.slots)
    (hM : Old Z n0 h → Met l Z n0 y bytes mL rt [] rm (.ref a :: argsL).toArray h Q) (w : ∀ v h', Q v h' → W K l R n0 P h' (k + rm.cells) (n + rm.slots) (pc + 3) L (v.toList ++ rest)) : W K l R n0 P h k n pc L (argsL.reverse ++ .ref a :: rest) := by
  obtain ⟨p, e, s, m, args, below, meth, c⟩ := K
  obtain ⟨hx, hZ, hown, hby, hml, hret, hnm, hlk, hn0⟩ := ok
  intro T locs X eT N
  have hM := hM (by rw [← eT]; exact old_now hn0 X N)
  obtain ⟨cq, kq, qa, qb, qc⟩ := isOf hZ eT E
  obtain ⟨v, _, ⟨T1, L1, k1, n1⟩, -, X1, ⟨Lc, ⟨hQ, N1⟩, l1, y1, z1⟩, st⟩ := X.virtualBack hx (y := y) (z := y) hown (mvT hZ w1) (mvT hZ w2) (notFace_of_selects (args := #[]) (mvT hZ w3)) (mvT hZ w3) (mvT hZ w4) hy (backOf (W := (rest.map fun v => v.category).sum) (Q := fun v h L => Q v h ∧ Fr n0 L) hM hZ w6 w5 hf hl) qa qc (g := mkF m pc L (argsL.reverse ++ .ref a :: rest)) rfl (hL.trans hml.symm) (Steps.refl _) (argsL := argsL) (rest := rest) (lenOf pd hlen) rfl (by show 2 * 0 + _ ≤ _; omega) (hb hby hd) (fun _ _ => ⟨rfl, eT, hc, hs⟩)
  dsimp only [Pt.U, Pt.locs, Pt.cells, Pt.slots] at X1 l1 y1 z1 st hQ
  subst l1 y1 z1
  obtain ⟨s₂, o, st2, r2⟩ := w v _ hQ T1 _ X1 rfl (Fr.app N N1)
  exact ⟨s₂, o, st.trans st2, r2⟩
theorem w_callP (ok : Ok K Z n0 own code maxL ret nm) {index kk : Nat} {y : MethodName} {bytes : ByteArray} {mL : Nat} {rt : Option FieldType} {rm : Room} {a : Addr} {argsL rest : List Value} {Q : Option Value → Heap → Prop} {ps : List FieldType} {r : Option FieldType}
    (hd : decode code pc = .ok (.invokevirtual index, 3)) (w1 : (Cond.methodLink own index y).before a0 Z = true) (w2 : (Cond.instanceMethod y).before a0 Z = true) (w3 : (Cond.privateMethod y).before a0 Z = true) (w4 : (Cond.instantiable y.cls kk).before a0 Z = true) (w5 : (Cond.initialized y.cls).before a0 Z = true) (w6 : (Cond.code y bytes mL rt).before a0 Z = true) (hy : notHandle y)
    (E : Exa Z h a y.cls) (pd : parseMethodDescriptor y.desc = some ⟨ps, r⟩) (hlen : argsL.length = ps.length) (hL : L.size = maxL) (hf : rm.frames + 1 ≤ R.frames) (hl : (rest.map fun v => v.category).sum + (mL + 11) + rm.locals ≤ R.locals) (hc : k + rm.cells ≤ R.cells) (hs : n + rm.slots ≤ R.slots)
    (hM : Old Z n0 h → Met l Z n0 y bytes mL rt [] rm (.ref a :: argsL).toArray h Q) (w : ∀ v h', Q v h' → W K l R n0 P h' (k + rm.cells) (n + rm.slots) (pc + 3) L (v.toList ++ rest)) : W K l R n0 P h k n pc L (argsL.reverse ++ .ref a :: rest) := by
  obtain ⟨p, e, s, m, args, below, meth, c⟩ := K
  obtain ⟨hx, hZ, hown, hby, hml, hret, hnm, hlk, hn0⟩ := ok
  intro T locs X eT N
  have hM := hM (by rw [← eT]; exact old_now hn0 X N)
  have hP : s.PrivateAt y := Cond.privateMethod_at (mvP hZ w3 (args := #[]))
  obtain ⟨ci, ki, i1, i2, i3, i4, -⟩ := Cond.instantiable_spec (mvT (args := args) hZ w4)
  have hni : ki.isInterface = false := by
    cases q : ki.isInterface
    · rfl
    · rw [q] at i4; cases i4
  have hsel := selects_self_of_private (args := args) i1 i2 hni hP (mvT hZ w2) hy
  obtain ⟨cell, hcell, hobj⟩ := E.cell
  obtain ⟨v, _, ⟨T1, L1, k1, n1⟩, -, X1, ⟨Lc, ⟨hQ, N1⟩, l1, y1, z1⟩, st⟩ := X.privateBack hx (y := y) hown (mvT hZ w1) (mvT hZ w2) hsel hP (mvT hZ w6) hy (backOf (W := (rest.map fun v => v.category).sum) (Q := fun v h L => Q v h ∧ Fr n0 L) hM hZ w6 w5 hf hl) (g := mkF m pc L (argsL.reverse ++ .ref a :: rest)) rfl (hL.trans hml.symm) (Steps.refl _) (a := a) (by rw [eT]; exact hcell) hobj (argsL := argsL) (rest := rest) (lenOf pd hlen) rfl (by show 2 * 0 + _ ≤ _; omega) (hb hby hd) (fun _ _ => ⟨rfl, eT, hc, hs⟩)
  dsimp only [Pt.U, Pt.locs, Pt.cells, Pt.slots] at X1 l1 y1 z1 st hQ
  subst l1 y1 z1
  obtain ⟨s₂, o, st2, r2⟩ := w v _ hQ T1 _ X1 rfl (Fr.app N N1)
  exact ⟨s₂, o, st.trans st2, r2⟩
theorem w_getstatic (ok : Ok K Z n0 own code maxL ret nm) {index : Nat} {R0 O n' d : String} {v : Value} (hd : decode code pc = .ok (.getstatic index, 3)) (w1 : (Cond.fieldLink own index R0 n' d).before a0 Z = true) (via : Via Z R0 O n' d) (F : Sta Z Z.heap O n' d v) (w : W K l R n0 P h k n (pc + 3) L (v :: S)) : W K l R n0 P h k n pc L S := by
  obtain ⟨p, e, s, m, args, below, meth, c⟩ := K
  obtain ⟨hx, hZ, hown, hby, hml, hret, hnm, hlk, hn0⟩ := ok
  intro T locs X eT N
  have O := old_now hn0 X N
  obtain ⟨T1, X1, e1, st⟩ := getS (host := "") X hx hZ hown w1 via rfl (F.ext O.2) (g := mkF m pc L S) rfl (hb hby hd)
  obtain ⟨s₂, o, st2, r⟩ := w T1 locs X1 (e1.trans eT) N
  exact ⟨s₂, o, st _ st2, r⟩
theorem w_acmp (ok : Ok K Z n0 own code maxL ret nm) {cd : ACond} {x y : Value} {o : Int} {pc1 pc' : Nat} (hd : decode code pc = .ok (.if_acmp cd o, 3)) (hp : (pc : Int) + o = (pc1 : Int)) (h1 : x.isRef = true) (h2 : y.isRef = true) (same : Bool) (hq : decide (x = y) = same) (hpc : pc' = if acV cd same = true then pc1 else pc + 3) (w : W K l R n0 P h k n pc' L S) : W K l R n0 P h k n pc L (y :: x :: S) := by
  obtain ⟨p, e, s, m, args, below, meth, c⟩ := K
  obtain ⟨hx, hZ, hown, hby, -⟩ := ok
  intro T locs X eT N
  obtain ⟨s₂, o, st, r⟩ := w T locs X eT N
  exact ⟨s₂, o, acmp X hx rfl h1 h2 (pc0 := pc) (pc' := pc') (same := same) rfl (hb hby hd) rfl hq (by rw [hp]; exact Int.natCast_nonneg _) (by rw [hp]; exact hpc) st, r⟩
theorem w_ifnullY (ok : Ok K Z n0 own code maxL ret nm) {o : Int} {pc' : Nat} (hd : decode code pc = .ok (.ifnull o, 3)) (hp : (pc : Int) + o = (pc' : Int)) (w : W K l R n0 P h k n pc' L S) : W K l R n0 P h k n pc L (.null :: S) := by
  obtain ⟨p, e, s, m, args, below, meth, c⟩ := K
  obtain ⟨hx, hZ, hown, hby, -⟩ := ok
  intro T locs X eT N
  obtain ⟨s₂, o, st, r⟩ := w T locs X eT N
  exact ⟨s₂, o, XS.ifnullYes X.here hx rfl (pc0 := pc) (pc' := pc') rfl (hb hby hd) rfl (by rw [hp]; exact Int.natCast_nonneg _) (by rw [hp]; rfl) st, r⟩
theorem w_ifnullN (ok : Ok K Z n0 own code maxL ret nm) {o : Int} {a : Addr} (hd : decode code pc = .ok (.ifnull o, 3)) (w : W K l R n0 P h k n (pc + 3) L S) : W K l R n0 P h k n pc L (.ref a :: S) := by
  obtain ⟨p, e, s, m, args, below, meth, c⟩ := K
  obtain ⟨hx, hZ, hown, hby, -⟩ := ok
  intro T locs X eT N
  obtain ⟨s₂, o, st, r⟩ := w T locs X eT N
  exact ⟨s₂, o, XS.ifnullNo X.here hx rfl (hb hby hd) rfl st, r⟩
theorem w_ifnonnullY (ok : Ok K Z n0 own code maxL ret nm) {o : Int} {pc' : Nat} {a : Addr} (hd : decode code pc = .ok (.ifnonnull o, 3)) (hp : (pc : Int) + o = (pc' : Int)) (w : W K l R n0 P h k n pc' L S) : W K l R n0 P h k n pc L (.ref a :: S) := by
  obtain ⟨p, e, s, m, args, below, meth, c⟩ := K
  obtain ⟨hx, hZ, hown, hby, -⟩ := ok
  intro T locs X eT N
  obtain ⟨s₂, o, st, r⟩ := w T locs X eT N
  exact ⟨s₂, o, XS.ifnonnullYes X.here hx rfl (pc0 := pc) (pc' := pc') rfl (hb hby hd) rfl (by rw [hp]; exact Int.natCast_nonneg _) (by rw [hp]; rfl) st, r⟩
theorem w_ifnonnullN (ok : Ok K Z n0 own code maxL ret nm) {o : Int} (hd : decode code pc = .ok (.ifnonnull o, 3)) (w : W K l R n0 P h k n (pc + 3) L S) : W K l R n0 P h k n pc L (.null :: S) := by
  obtain ⟨p, e, s, m, args, below, meth, c⟩ := K
  obtain ⟨hx, hZ, hown, hby, -⟩ := ok
  intro T locs X eT N
  obtain ⟨s₂, o, st, r⟩ := w T locs X eT N
  exact ⟨s₂, o, XS.ifnonnullNo X.here hx rfl (hb hby hd) rfl st, r⟩
/-- what may lie in the array at a: objects of C -/
def OvA (Z : State) (h : Heap) (a : Addr) (C : String) : Prop := ∃ c : Cell, h[a]? = some c ∧ Ovr Z c.cls C
theorem OvA.ext {h' : Heap} {a : Addr} {C : String} (A : OvA Z h a C) (E : Ext h h') : OvA Z h' a C := by obtain ⟨c, q, r⟩ := A; exact ⟨c, E.2 _ _ q, r⟩
theorem OvA.keep {h' : Heap} {a : Addr} {C : String} {ws : List Addr} (A : OvA Z h a C) (K1 : Keep h h' ws) : OvA Z h' a C := by obtain ⟨c, q, r⟩ := A; obtain ⟨c', q', r1, r2⟩ := K1.2.2 a c q; exact ⟨c', q', by rw [r1]; exact r⟩
theorem w_anewarray (ok : Ok K Z n0 own code maxL ret nm) {index : Nat} {C : String} {z : Int32} (hd : decode code pc = .ok (.anewarray index, 3)) (w1 : (Cond.classLink own index C).before a0 Z = true) (w2 : (Cond.arrayOver (.object C)).before a0 Z = true) (hz : ¬ z < 0) {cap : Nat} (hcap : z.toNatClampNeg ≤ cap) (hb1 : cap * 8 ≤ 536870912) (hc : k + 1 ≤ R.cells) (hl : n + cap ≤ R.slots)
    (w : ∀ h' a, a = h.size → n0 ≤ a → Ext h h' → PA (.object C) Z h' a (List.replicate z.toNatClampNeg .null) → OvA Z h' a C → W K l R n0 P h' (k + 1) (n + cap) (pc + 3) L (.ref a :: S)) : W K l R n0 P h k n pc L (.int z :: S) := by
  obtain ⟨p, e, s, m, args, below, meth, c⟩ := K
  obtain ⟨hx, hZ, hown, hby, hml, hret, hnm, hlk, hn0⟩ := ok
  intro T locs X eT N
  obtain ⟨T1, h1, cA, X1, e1, E1, A1, O1, st⟩ := newR X hx hZ hown w1 w2 eT (g := mkF m pc L (.int z :: S)) rfl (hb hby hd) rfl hz hcap hb1 hc hl
  have A2 : PA (.object C) Z h1 h.size (List.replicate z.toNatClampNeg .null) := by
    refine ⟨_, A1, by simpa using (back32 hz).2, by simp [newA, defaultValue], fun v hv => ?_⟩
    rw [List.eq_of_mem_replicate hv]; rfl
  obtain ⟨s₂, o, st2, r⟩ := w h1 h.size rfl (by rw [← eT]; exact old_ge hn0 X N) E1 A2 ⟨_, A1.1, O1⟩ T1 _ X1 e1 N
  exact ⟨s₂, o, st _ st2, r⟩
theorem w_aastore (ok : Ok K Z n0 own code maxL ret nm) {ty : FieldType} {C : String} {a b : Addr} {vs : List Value} {j : Int32} (hd : decode code pc = .ok (.aastore, 1)) (A : PA ty Z h a vs) (OA : OvA Z h a C) (I1 : Ins Z h b C true) (hty : ty.isReference = true) (hfit : fits ty (.ref b) = true) (ge : n0 ≤ a) (h0 : ¬ j < 0) (hj : j.toNatClampNeg < vs.length)
    (w : ∀ h', Wr h h' a j.toNatClampNeg (.ref b) → PA ty Z h' a (vs.set j.toNatClampNeg (.ref b)) → W K l R n0 P h' k n (pc + 1) L S) : W K l R n0 P h k n pc L (.ref b :: .int j :: .ref a :: S) := by
  obtain ⟨p, e, s, m, args, below, meth, c⟩ := K
  obtain ⟨hx, hZ, hown, hby, -⟩ := ok
  intro T locs X eT N
  have A0 := A
  obtain ⟨cl, A, q1, q2, q3⟩ := A
  obtain ⟨c2, y1, y2⟩ := OA
  cases A.1.symm.trans y1
  obtain ⟨T1, h1, X1, e1, W1, st⟩ := stR X hx hZ eT A (j := j) (pa_in q2 h0 hj) hty (Sto.of A y2 I1) (g := mkF m pc L (.ref b :: .int j :: .ref a :: S)) rfl rfl (hb hby hd)
  obtain ⟨s₂, o, st2, r⟩ := w h1 W1 (A0.set W1 hfit) T1 _ X1 e1 (Fr.snoc X1 N ge)
  exact ⟨s₂, o, st _ st2, r⟩
theorem frame_fin {s u : State} {L L' : List Loc} {v : Option Value} {c c' n n' : Nat} (hq : FrameEnd s (.returned v) u L c n) (N : Fr s.heap.size L) (h1 : c ≤ c') (h2 : n ≤ n') : FrameEnd s (.returned v) u L' c' n' :=
  ⟨hq.1, hq.2.1, (hq.2.2.sift fun y hy => Or.inr (N y hy)).mono h1 h2⟩
end S
end Jvm.OwnKit
namespace Jvm.Pilot.@@N@@
open Jvm Jvm.ClassFile Sem Op Lib Jvm.Free Jvm.Stand Jvm.LawKit Jvm.RoadKit Bundle Jvm.OwnKit Jvm.Pilot.@@N@@.Jvm.D
abbrev fl_FactTable : Fl := [("com/example/hornconv/hornconv/FactTable", "unary", "[I", (.array .int)), ("com/example/hornconv/hornconv/FactTable", "members", "[J", (.array .long)), ("com/example/hornconv/hornconv/FactTable", "arity", "I", .int), ("com/example/hornconv/hornconv/FactTable", "arguments", "[I", (.array .int)), ("com/example/hornconv/hornconv/FactTable", "dead", "[Z", (.array .boolean)), ("com/example/hornconv/hornconv/FactTable", "slots", "[I", (.array .int)), ("com/example/hornconv/hornconv/FactTable", "positions", "[Lcom/example/hornconv/hornconv/FactTable$PositionIndex;", (.array (.object "com/example/hornconv/hornconv/FactTable$PositionIndex"))), ("com/example/hornconv/hornconv/FactTable", "rows", "I", .int), ("com/example/hornconv/hornconv/FactTable", "live", "I", .int), ("com/example/hornconv/hornconv/FactTable", "used", "I", .int)]
theorem la_FactTable {Z : State} {a0 : Array Value} (hw : ∀ d ∈ tables_1, d.before a0 Z = true) : LA Z a0 "com/example/hornconv/hornconv/FactTable" fl_FactTable := by
  refine ⟨fun f hf => ?_, by decide⟩
  simp only [fl_FactTable, List.mem_cons, List.not_mem_nil, or_false] at hf
  rcases hf with rfl | rfl | rfl | rfl | rfl | rfl | rfl | rfl | rfl | rfl
  · exact ⟨Or.inr (hw _ (List.mem_of_getElem? (i := 16) rfl)), by decide⟩
  · exact ⟨Or.inl (hw _ (List.mem_of_getElem? (i := 19) rfl)), by decide⟩
  · exact ⟨Or.inr (hw _ (List.mem_of_getElem? (i := 21) rfl)), by decide⟩
  · exact ⟨Or.inl (hw _ (List.mem_of_getElem? (i := 23) rfl)), by decide⟩
  · exact ⟨Or.inl (hw _ (List.mem_of_getElem? (i := 26) rfl)), by decide⟩
  · exact ⟨Or.inl (hw _ (List.mem_of_getElem? (i := 28) rfl)), by decide⟩
  · exact ⟨Or.inr (hw _ (List.mem_of_getElem? (i := 36) rfl)), by decide⟩
  · exact ⟨Or.inl (hw _ (List.mem_of_getElem? (i := 52) rfl)), by decide⟩
  · exact ⟨Or.inl (hw _ (List.mem_of_getElem? (i := 58) rfl)), by decide⟩
  · exact ⟨Or.inl (hw _ (List.mem_of_getElem? (i := 60) rfl)), by decide⟩
abbrev fl_FactTable_PositionIndex : Fl := [("com/example/hornconv/hornconv/FactTable$PositionIndex", "keys", "[I", (.array .int)), ("com/example/hornconv/hornconv/FactTable$PositionIndex", "heads", "[I", (.array .int)), ("com/example/hornconv/hornconv/FactTable$PositionIndex", "counts", "[I", (.array .int)), ("com/example/hornconv/hornconv/FactTable$PositionIndex", "next", "[I", (.array .int)), ("com/example/hornconv/hornconv/FactTable$PositionIndex", "size", "I", .int)]
theorem la_FactTable_PositionIndex {Z : State} {a0 : Array Value} (hw : ∀ d ∈ tables_1, d.before a0 Z = true) : LA Z a0 "com/example/hornconv/hornconv/FactTable$PositionIndex" fl_FactTable_PositionIndex := by
  refine ⟨fun f hf => ?_, by decide⟩
  simp only [fl_FactTable_PositionIndex, List.mem_cons, List.not_mem_nil, or_false] at hf
  rcases hf with rfl | rfl | rfl | rfl | rfl
  · exact ⟨Or.inl (hw _ (List.mem_of_getElem? (i := 96) rfl)), by decide⟩
  · exact ⟨Or.inl (hw _ (List.mem_of_getElem? (i := 98) rfl)), by decide⟩
  · exact ⟨Or.inl (hw _ (List.mem_of_getElem? (i := 100) rfl)), by decide⟩
  · exact ⟨Or.inl (hw _ (List.mem_of_getElem? (i := 102) rfl)), by decide⟩
  · exact ⟨Or.inl (hw _ (List.mem_of_getElem? (i := 123) rfl)), by decide⟩
def sv (N : Nat) (f : Nat → Int32) : List Value := (List.range N).map fun j => Value.int (f j)
def lv (N : Nat) (f : Nat → Int64) : List Value := (List.range N).map fun j => Value.long (f j)
def pv (N p : Nat) (x : Value) : List Value := (List.range N).map fun j => if j = p then x else .null
def upd (f : Nat → Int32) (r : Nat) (v : Int32) : Nat → Int32 := fun j => if j = r then v else f j
def updL (f : Nat → Int64) (r : Nat) (v : Int64) : Nat → Int64 := fun j => if j = r then v else f j
theorem upd_same (f : Nat → Int32) (r : Nat) (v : Int32) : upd f r v r = v := if_pos rfl
theorem upd_ne {f : Nat → Int32} {r j : Nat} {v : Int32} (h : j ≠ r) : upd f r v j = f j := if_neg h
theorem sv_len (N : Nat) (f : Nat → Int32) : (sv N f).length = N := by simp [sv]
theorem lv_len (N : Nat) (f : Nat → Int64) : (lv N f).length = N := by simp [lv]
theorem pv_len (N p : Nat) (x : Value) : (pv N p x).length = N := by simp [pv]
theorem sv_get {N : Nat} {f : Nat → Int32} {j : Nat} (h : j < N) : (sv N f)[j]? = some (.int (f j)) := by simp [sv, h]
theorem lv_get {N : Nat} {f : Nat → Int64} {j : Nat} (h : j < N) : (lv N f)[j]? = some (.long (f j)) := by simp [lv, h]
theorem pv_get {N p : Nat} {x : Value} {j : Nat} (h : j < N) : (pv N p x)[j]? = some (if j = p then x else .null) := by simp [pv, h]
theorem sv_ext {N : Nat} {f g : Nat → Int32} (h : ∀ j, j < N → f j = g j) : sv N f = sv N g := by
  apply List.map_congr_left
  intro j hj
  rw [h j (List.mem_range.mp hj)]
theorem sv_set (N : Nat) (f : Nat → Int32) (r : Nat) (v : Int32) : (sv N f).set r (.int v) = sv N (upd f r v) := by
  apply List.ext_getElem?
  intro i
  by_cases hi : i < N
  · rw [sv_get hi]
    by_cases e : r = i
    · subst e; rw [List.getElem?_set_self (by rw [sv_len]; exact hi), upd_same]
    · rw [List.getElem?_set_ne e, sv_get hi, upd_ne (Ne.symm e)]
  · rw [List.getElem?_eq_none (by rw [List.length_set, sv_len]; omega), List.getElem?_eq_none (by rw [sv_len]; omega)]
theorem lv_set (N : Nat) (f : Nat → Int64) (r : Nat) (v : Int64) : (lv N f).set r (.long v) = lv N (updL f r v) := by
  apply List.ext_getElem?
  intro i
  by_cases hi : i < N
  · rw [lv_get hi]
    by_cases e : r = i
    · subst e; rw [List.getElem?_set_self (by rw [lv_len]; exact hi), updL, if_pos rfl]
    · rw [List.getElem?_set_ne e, lv_get hi, updL, if_neg (Ne.symm e)]
  · rw [List.getElem?_eq_none (by rw [List.length_set, lv_len]; omega), List.getElem?_eq_none (by rw [lv_len]; omega)]
theorem pv_set {N p : Nat} (x y : Value) (h : p < N) : (pv N p x).set p y = pv N p y := by
  apply List.ext_getElem?
  intro i
  by_cases hi : i < N
  · rw [pv_get hi]
    by_cases e : p = i
    · subst e; rw [List.getElem?_set_self (by rw [pv_len]; exact hi), if_pos rfl]
    · rw [List.getElem?_set_ne e, pv_get hi, if_neg (Ne.symm e), if_neg (Ne.symm e)]
  · rw [List.getElem?_eq_none (by rw [List.length_set, pv_len]; omega), List.getElem?_eq_none (by rw [pv_len]; omega)]
theorem sv_rep (N : Nat) (v : Int32) : List.replicate N (Value.int v) = sv N (fun _ => v) := by
  apply List.ext_getElem?
  intro i
  by_cases hi : i < N
  · rw [sv_get hi, List.getElem?_replicate, if_pos hi]
  · rw [List.getElem?_eq_none (by rw [List.length_replicate]; omega), List.getElem?_eq_none (by rw [sv_len]; omega)]
theorem pv_rep (N p : Nat) : List.replicate N Value.null = pv N p .null := by
  apply List.ext_getElem?
  intro i
  by_cases hi : i < N
  · rw [pv_get hi, List.getElem?_replicate, if_pos hi, ite_self]
  · rw [List.getElem?_eq_none (by rw [List.length_replicate]; omega), List.getElem?_eq_none (by rw [pv_len]; omega)]
theorem sv_grow {N M : Nat} (f : Nat → Int32) (h : N ≤ M) : sv N f ++ List.replicate (M - N) (Value.int 0) = sv M (fun j => if j < N then f j else 0) := by
  apply List.ext_getElem?
  intro i
  by_cases hi : i < N
  · rw [List.getElem?_append_left (by rw [sv_len]; exact hi), sv_get hi, sv_get (by omega), if_pos hi]
  · rw [List.getElem?_append_right (by rw [sv_len]; omega), sv_len]
    by_cases hm : i < M
    · rw [sv_get hm, List.getElem?_replicate, if_pos (by omega), if_neg hi]
    · rw [List.getElem?_eq_none (by rw [List.length_replicate]; omega), List.getElem?_eq_none (by rw [sv_len]; omega)]
theorem lv_grow {N M : Nat} (f : Nat → Int64) (h : N ≤ M) : lv N f ++ List.replicate (M - N) (Value.long 0) = lv M (fun j => if j < N then f j else 0) := by
  apply List.ext_getElem?
  intro i
  by_cases hi : i < N
  · rw [List.getElem?_append_left (by rw [lv_len]; exact hi), lv_get hi, lv_get (by omega), if_pos hi]
  · rw [List.getElem?_append_right (by rw [lv_len]; omega), lv_len]
    by_cases hm : i < M
    · rw [lv_get hm, List.getElem?_replicate, if_pos (by omega), if_neg hi]
    · rw [List.getElem?_eq_none (by rw [List.length_replicate]; omega), List.getElem?_eq_none (by rw [lv_len]; omega)]
theorem own_ofNat {j : Nat} (h : j < 2147483648) : (Int32.ofNat j).toInt = j := Int32.toInt_ofNat_of_lt h
theorem own_clamp {z : Int32} {n : Nat} (h : z.toInt = n) : z.toNatClampNeg = n := by rw [Int32.toNatClampNeg, h]; rfl
theorem own_nn {z : Int32} {n : Nat} (h : z.toInt = n) : ¬ z < 0 := by rw [Int32.lt_iff_toInt_lt, h]; show ¬ (n : Int) < 0; omega
theorem own_ix {j : Nat} (h : j < 1000) : (Int32.ofNat j).toNatClampNeg = j := own_clamp (own_ofNat (by omega))
theorem own_ix0 {j : Nat} (h : j < 1000) : ¬ Int32.ofNat j < 0 := own_nn (own_ofNat (by omega))
theorem own_add (a b : Nat) : Int32.ofNat a + Int32.ofNat b = Int32.ofNat (a + b) := (Int32.ofNat_add a b).symm
theorem own_mul (a b : Nat) : Int32.ofNat a * Int32.ofNat b = Int32.ofNat (a * b) := (Int32.ofNat_mul a b).symm
theorem own_inc (a : Nat) : Int32.ofNat a + (1 : Int32) = Int32.ofNat (a + 1) := own_add a 1
theorem own_m2 (a : Nat) : (2 : Int32) * Int32.ofNat a = Int32.ofNat (2 * a) := own_mul 2 a
theorem own_m4 (a : Nat) : (4 : Int32) * Int32.ofNat a = Int32.ofNat (4 * a) := own_mul 4 a
theorem own_m8 (a : Nat) : (8 : Int32) * Int32.ofNat a = Int32.ofNat (8 * a) := own_mul 8 a
theorem own_lt {a b : Nat} (ha : a < 1000) (hb : b < 1000) : Int32.ofNat a < Int32.ofNat b ↔ a < b := by
  rw [Int32.lt_iff_toInt_lt, own_ofNat (by omega), own_ofNat (by omega)]; omega
theorem own_eqn {a b : Nat} (ha : a < 1000) (hb : b < 1000) : Int32.ofNat a = Int32.ofNat b ↔ a = b := by
  rw [← Int32.toInt_inj, own_ofNat (by omega), own_ofNat (by omega)]; omega
theorem own_n1 {a : Nat} (ha : a < 1000) : ¬ Int32.ofNat a = -1 := fun q => own_ix0 ha (by rw [q]; decide)
theorem own_n2 {a : Nat} (ha : a < 1000) : ¬ Int32.ofNat a = -2 := fun q => own_ix0 ha (by rw [q]; decide)
theorem svg {N j : Nat} {f : Nat → Int32} (h : j < N) (hN : N < 1000) : (sv N f)[(Int32.ofNat j).toNatClampNeg]? = some (.int (f j)) := by rw [own_ix (by omega)]; exact sv_get h
theorem svl {N j : Nat} {f : Nat → Int32} (h : j < N) (hN : N < 1000) : (Int32.ofNat j).toNatClampNeg < (sv N f).length := by rw [own_ix (by omega), sv_len]; exact h
theorem lvg {N j : Nat} {f : Nat → Int64} (h : j < N) (hN : N < 1000) : (lv N f)[(Int32.ofNat j).toNatClampNeg]? = some (.long (f j)) := by rw [own_ix (by omega)]; exact lv_get h
theorem lvl {N j : Nat} {f : Nat → Int64} (h : j < N) (hN : N < 1000) : (Int32.ofNat j).toNatClampNeg < (lv N f).length := by rw [own_ix (by omega), lv_len]; exact h
theorem pvn {N p j : Nat} {x : Value} (h : j < N) (hN : N < 1000) (q : j = p → x = .null) : (pv N p x)[(Int32.ofNat j).toNatClampNeg]? = some .null := by
  rw [own_ix (by omega), pv_get h]
  by_cases e : j = p
  · rw [if_pos e, q e]
  · rw [if_neg e]
theorem pvp {N p : Nat} {x : Value} (h : p < N) (hN : N < 1000) : (pv N p x)[(Int32.ofNat p).toNatClampNeg]? = some x := by
  rw [own_ix (by omega), pv_get h, if_pos rfl]
theorem pvl {N p j : Nat} {x : Value} (h : j < N) (hN : N < 1000) : (Int32.ofNat j).toNatClampNeg < (pv N p x).length := by rw [own_ix (by omega), pv_len]; exact h
theorem sv_z {N : Nat} {f : Nat → Int32} (h : N < 1000) : (sv N f).length = (Int32.ofNat N).toNatClampNeg := by rw [own_ix h, sv_len]
theorem lv_z {N : Nat} {f : Nat → Int64} (h : N < 1000) : (lv N f).length = (Int32.ofNat N).toNatClampNeg := by rw [own_ix h, lv_len]
theorem pv_z {N p : Nat} {x : Value} (h : N < 1000) : (pv N p x).length = (Int32.ofNat N).toNatClampNeg := by rw [own_ix h, pv_len]
theorem own_oN {N : Nat} (hN : N = 8 ∨ N = 16) (x : Nat) : x % N < 1000 ∧ x % N < N := by
  rcases hN with rfl | rfl <;> omega
theorem own_nxt {N : Nat} (hN : N = 8 ∨ N = 16) (x : Nat) : (Int32.ofNat (x % N) + 1) &&& Int32.ofNat (N - 1) = Int32.ofNat ((x + 1) % N) := by
  rw [own_inc]
  rcases hN with rfl | rfl
  · have e : (x + 1) % 8 = (x % 8 + 1) % 8 := by omega
    rw [e]
    exact (by decide : ∀ y, y < 8 → Int32.ofNat (y + 1) &&& Int32.ofNat (8 - 1) = Int32.ofNat ((y + 1) % 8)) _ (Nat.mod_lt _ (by decide))
  · have e : (x + 1) % 16 = (x % 16 + 1) % 16 := by omega
    rw [e]
    exact (by decide : ∀ y, y < 16 → Int32.ofNat (y + 1) &&& Int32.ofNat (16 - 1) = Int32.ofNat ((y + 1) % 16)) _ (Nat.mod_lt _ (by decide))
theorem own_strt {N : Nat} (hN : N = 8 ∨ N = 16) (z : Int32) : ∃ s, z &&& Int32.ofNat (N - 1) = Int32.ofNat ((s + 0) % N) ∧ s = (z &&& Int32.ofNat (N - 1)).toNatClampNeg := by
  refine ⟨_, ?_, rfl⟩
  apply Int32.toInt_inj.mp
  have b1 : 0 ≤ (z &&& Int32.ofNat (N - 1)).toInt ∧ (z &&& Int32.ofNat (N - 1)).toInt < N := by
    rcases hN with rfl | rfl
    · have := c_mask z 7 3 (by decide) (by decide); have e : Int32.ofNat (8 - 1) = 7 := rfl; rw [e]; constructor <;> omega
    · have := c_mask z 15 4 (by decide) (by decide); have e : Int32.ofNat (16 - 1) = 15 := rfl; rw [e]; constructor <;> omega
  generalize z &&& Int32.ofNat (N - 1) = y at b1 ⊢
  have e : y.toNatClampNeg = y.toInt.toNat := rfl
  have m : (y.toNatClampNeg + 0) % N = y.toInt.toNat := by rw [e, Nat.add_zero, Nat.mod_eq_of_lt (by omega)]
  have b2 : y.toInt.toNat < 2147483648 := by rcases hN with rfl | rfl <;> omega
  rw [m, own_ofNat b2]
  omega
/-- a place that is in no list of fewer than N -/
theorem own_pig : ∀ (N : Nat) (L : List Nat), L.length < N → ∃ j, j < N ∧ j ∉ L
  | 0, _, h => absurd h (Nat.not_lt_zero _)
  | N + 1, L, h => by
    by_cases q : N ∈ L
    · obtain ⟨j, h1, h2⟩ := own_pig N (L.erase N) (by have := List.length_pos_of_mem q; rw [List.length_erase_of_mem q]; omega)
      exact ⟨j, by omega, fun m => h2 ((List.mem_erase_of_ne (by omega)).mpr m)⟩
    · exact ⟨N, by omega, q⟩
theorem own_cyc {N : Nat} (hN : N = 8 ∨ N = 16) (s : Nat) {j : Nat} (hj : j < N) : ∃ m, (s + m) % N = j := by
  rcases hN with rfl | rfl
  · exact ⟨j + 8 - s % 8, by omega⟩
  · exact ⟨j + 16 - s % 16, by omega⟩
/-- the row set's slots: f holds rows below r, each of them, and is free but for r places -/
def IR (r N : Nat) (f : Nat → Int32) : Prop := (∀ j, j < N → f j = -1 ∨ ∃ x, x < r ∧ f j = Int32.ofNat x) ∧ (∀ x, x < r → ∃ j, j < N ∧ f j = Int32.ofNat x) ∧ ∃ L : List Nat, L.length ≤ r ∧ ∀ j, j < N → j ∉ L → f j = -1
theorem IR.zero (N : Nat) : IR 0 N (fun _ => -1) := ⟨fun _ _ => Or.inl rfl, fun _ h => absurd h (Nat.not_lt_zero _), [], Nat.le_refl _, fun _ _ _ => rfl⟩
theorem IR.free {r N : Nat} {f : Nat → Int32} (I : IR r N f) (hN : N = 8 ∨ N = 16) (h : r < N) (s : Nat) : ∃ m, f ((s + m) % N) = -1 := by
  obtain ⟨-, -, L, h1, h2⟩ := I
  obtain ⟨j, hj, q⟩ := own_pig N L (by omega)
  obtain ⟨m, e⟩ := own_cyc hN s hj
  exact ⟨m, by rw [e]; exact h2 j hj q⟩
theorem IR.put {r N : Nat} {f : Nat → Int32} (I : IR r N f) {s : Nat} (hs : s < N) (hr : r < 1000) (e : f s = -1) : IR (r + 1) N (upd f s (Int32.ofNat r)) := by
  obtain ⟨a, b, L, h1, h2⟩ := I
  refine ⟨fun j hj => ?_, fun x hx => ?_, s :: L, by simp only [List.length_cons]; omega, fun j hj q => ?_⟩
  · by_cases q : j = s
    · rw [q, upd_same]; exact Or.inr ⟨r, by omega, rfl⟩
    · rw [upd_ne q]; exact (a j hj).imp id fun ⟨x, h, e⟩ => ⟨x, by omega, e⟩
  · by_cases q : x = r
    · exact ⟨s, hs, by rw [q, upd_same]⟩
    · obtain ⟨j, hj, e'⟩ := b x (by omega)
      have : j ≠ s := fun w => by rw [w, e] at e'; exact own_n1 (a := x) (by omega) e'.symm
      exact ⟨j, hj, by rw [upd_ne this]; exact e'⟩
  · have q1 : j ≠ s := fun w => q (by rw [w]; exact List.mem_cons_self ..)
    rw [upd_ne q1]; exact h2 j hj fun w => q (List.mem_cons_of_mem _ w)
/-- the newest row below k that holds x -/
def prv (c : Nat → Int32) (x : Int32) : Nat → Int32
  | 0 => -1
  | k + 1 => if c k = x then Int32.ofNat k else prv c x k
def ndc (c : Nat → Int32) : Nat → Nat
  | 0 => 0
  | k + 1 => ndc c k + if prv c (c k) k = -1 then 1 else 0
theorem prv_none {c : Nat → Int32} {x : Int32} : ∀ {k : Nat}, (∀ j, j < k → c j ≠ x) → prv c x k = -1
  | 0, _ => rfl
  | k + 1, h => by rw [prv, if_neg (h k (by omega))]; exact prv_none fun j hj => h j (by omega)
theorem prv_some {c : Nat → Int32} {x : Int32} : ∀ {k j : Nat}, k < 1000 → j < k → c j = x → prv c x k ≠ -1
  | 0, _, _, h, _ => absurd h (Nat.not_lt_zero _)
  | k + 1, j, hk, hj, e => by
    rw [prv]
    by_cases q : c k = x
    · rw [if_pos q]; exact own_n1 (by omega)
    · rw [if_neg q]
      have : j ≠ k := fun w => q (by rw [← w]; exact e)
      exact prv_some (j := j) (by omega) (by omega) e
def seen (c : Nat → Int32) (x : Int32) (k : Nat) : Nat := if prv c x k = -1 then 0 else 1
theorem seen_le (c : Nat → Int32) (x : Int32) (k : Nat) : seen c x k ≤ 1 := by unfold seen; split <;> omega
theorem seen_eq {c : Nat → Int32} {x : Int32} {k : Nat} (hk : k < 1000) (e : c k = x) : seen c x (k + 1) = 1 := by
  have h : prv c x (k + 1) = Int32.ofNat k := if_pos e
  rw [seen, h, if_neg (own_n1 hk)]
theorem seen_ne {c : Nat → Int32} {x : Int32} {k : Nat} (e : c k ≠ x) : seen c x (k + 1) = seen c x k := by
  have h : prv c x (k + 1) = prv c x k := if_neg e
  rw [seen, h, seen]
theorem ndc_s (c : Nat → Int32) (k : Nat) : ndc c (k + 1) = ndc c k + (1 - seen c (c k) k) := by
  rw [ndc, seen]; split <;> rfl
theorem ndc_le {c : Nat → Int32} {a b : Int32} (h : ∀ j, c j = a ∨ c j = b) : ∀ {k : Nat}, k < 1000 → ndc c k ≤ seen c a k + seen c b k
  | 0, _ => Nat.zero_le _
  | k + 1, hk => by
    have ih := ndc_le h (k := k) (by omega)
    have ha := seen_le c a k; have hb := seen_le c b k
    have e1 := ndc_s c k
    have fa := seen_eq (c := c) (x := a) (k := k) (by omega); have fb := seen_eq (c := c) (x := b) (k := k) (by omega)
    have ga := seen_ne (c := c) (x := a) (k := k); have gb := seen_ne (c := c) (x := b) (k := k)
    by_cases wa : c k = a
    · have := fa wa
      rw [wa] at e1
      by_cases wb : c k = b
      · have := fb wb; have := seen_le c a k; rw [← wa, wb] at ha ih e1; omega
      · have := gb wb; omega
    · have wb := (h k).resolve_left wa
      have := fb wb; have := ga wa
      rw [wb] at e1
      omega
theorem ndc_2 {c : Nat → Int32} {a b : Int32} (h : ∀ j, c j = a ∨ c j = b) {k : Nat} (hk : k < 1000) : ndc c k ≤ 2 := by
  have := ndc_le h hk; have := seen_le c a k; have := seen_le c b k; omega
def own_mix (x : Int32) : Int32 := (x * (-1640531527)) ^^^ Jvm.Free.XT.ushr (x * (-1640531527)) 16
def own_s (x : Int32) : Nat := (own_mix x &&& 7).toNatClampNeg
def stop (K : Nat → Int32) (x : Int32) (i : Nat) : Prop := ∀ j, j < i → K ((own_s x + j) % 8) ≠ -1 ∧ K ((own_s x + j) % 8) ≠ x
theorem stop_uniq {K : Nat → Int32} {x : Int32} {i j : Nat} (h1 : stop K x i) (h2 : stop K x j) (e1 : K ((own_s x + i) % 8) = -1 ∨ K ((own_s x + i) % 8) = x) (e2 : K ((own_s x + j) % 8) = -1 ∨ K ((own_s x + j) % 8) = x) : i = j := by
  rcases Nat.lt_trichotomy i j with h | h | h
  · rcases e1 with e | e
    · exact absurd e (h2 i h).1
    · exact absurd e (h2 i h).2
  · exact h
  · rcases e2 with e | e
    · exact absurd e (h1 j h).1
    · exact absurd e (h1 j h).2
/-- a position's index over the first k rows -/
def PX (k : Nat) (c K H N : Nat → Int32) (sz : Int32) : Prop :=
  (∀ j, j < k → ∃ i, stop K (c j) i ∧ K ((own_s (c j) + i) % 8) = c j ∧ H ((own_s (c j) + i) % 8) = prv c (c j) k) ∧
  (∀ s, s < 8 → K s ≠ -1 → ∃ j, j < k ∧ K s = c j) ∧ (∃ L : List Nat, L.length ≤ k ∧ ∀ j, j < 8 → j ∉ L → K j = -1) ∧
  (∀ j, j < k → N j = prv c (c j) j) ∧ sz = Int32.ofNat (ndc c k)
theorem PX.zero (c H N : Nat → Int32) : PX 0 c (fun _ => -1) H N 0 :=
  ⟨fun _ h => absurd h (Nat.not_lt_zero _), fun _ _ h => absurd rfl h, ⟨[], Nat.le_refl _, fun _ _ _ => rfl⟩, fun _ h => absurd h (Nat.not_lt_zero _), rfl⟩
theorem PX.free {k : Nat} {c K H N : Nat → Int32} {sz : Int32} (P : PX k c K H N sz) (h : k < 8) (s : Nat) : ∃ m, K ((s + m) % 8) = -1 := by
  obtain ⟨-, -, ⟨L, h1, h2⟩, -, -⟩ := P
  obtain ⟨j, hj, q⟩ := own_pig 8 L (by omega)
  obtain ⟨m, e⟩ := own_cyc (Or.inl rfl) s hj
  exact ⟨m, by rw [e]; exact h2 j hj q⟩
theorem PX.grow {k : Nat} {c K H N N' : Nat → Int32} {sz : Int32} (P : PX k c K H N sz) (e : ∀ j, j < k → N' j = N j) : PX k c K H N' sz :=
  ⟨P.1, P.2.1, P.2.2.1, fun j hj => by rw [e j hj]; exact P.2.2.2.1 j hj, P.2.2.2.2⟩
section PXs
variable {k i : Nat} {c K H N : Nat → Int32} {sz : Int32}
/-- a constant that isn't there yet -/
theorem PX.absent (P : PX k c K H N sz) (hx : c k ≠ -1) (hs : stop K (c k) i) (e : K ((own_s (c k) + i) % 8) = -1) : ∀ j, j < k → c j ≠ c k := fun j hj q => by
  obtain ⟨i', h1, h2, -⟩ := P.1 j hj
  rw [q] at h1 h2
  have := stop_uniq hs h1 (Or.inl e) (Or.inr h2)
  rw [← this, e] at h2; exact hx h2.symm
theorem PX.others (P : PX k c K H N sz) {r : Nat} {K' H' : Nat → Int32} (hc : ∀ j, c j ≠ -1) (hK : ∀ s, s ≠ r → K' s = K s) (hH : ∀ s, s ≠ r → H' s = H s) (hr : K' r = c k) (e : K r = -1 ∨ K r = c k) {j : Nat} (hj : j < k) (q : c j ≠ c k) :
    ∃ i, stop K' (c j) i ∧ K' ((own_s (c j) + i) % 8) = c j ∧ H' ((own_s (c j) + i) % 8) = prv c (c j) (k + 1) := by
  obtain ⟨i', h1, h2, h3⟩ := P.1 j hj
  have n : (own_s (c j) + i') % 8 ≠ r := fun w => by
    rw [w] at h2
    rcases e with e | e
    · rw [e] at h2; exact hc j h2.symm
    · rw [e] at h2; exact q h2.symm
  refine ⟨i', fun x hx => ?_, by rw [hK _ n]; exact h2, by rw [hH _ n, h3, prv, if_neg (Ne.symm q)]⟩
  by_cases w : (own_s (c j) + x) % 8 = r
  · rw [w, hr]; exact ⟨hc k, Ne.symm q⟩
  · rw [hK _ w]; exact h1 x hx
theorem PX.new (P : PX k c K H N sz) (hk : k < 8) (hc : ∀ j, c j ≠ -1) (hs : stop K (c k) i) (e : K ((own_s (c k) + i) % 8) = -1) :
    PX (k + 1) c (upd K ((own_s (c k) + i) % 8) (c k)) (upd (upd H ((own_s (c k) + i) % 8) (-1)) ((own_s (c k) + i) % 8) (Int32.ofNat k)) (upd N k (upd H ((own_s (c k) + i) % 8) (-1) ((own_s (c k) + i) % 8))) (sz + 1) := by
  have ab := P.absent (hc k) hs e
  have pn := prv_none ab
  refine ⟨fun j hj => ?_, fun s h8 hne => ?_, ?_, fun j hj => ?_, ?_⟩
  · by_cases q : c j = c k
    · rw [q]
      refine ⟨i, fun x hx => ?_, upd_same _ _ _, by rw [upd_same, prv, if_pos rfl]⟩
      have hx' := hs x hx
      by_cases w : (own_s (c k) + x) % 8 = (own_s (c k) + i) % 8
      · rw [w] at hx'; exact absurd e hx'.1
      · rw [upd_ne w]; exact hx'
    · have hjk : j ≠ k := fun w => q (by rw [w])
      exact P.others (r := (own_s (c k) + i) % 8) (K' := upd K ((own_s (c k) + i) % 8) (c k)) (H' := upd (upd H ((own_s (c k) + i) % 8) (-1)) ((own_s (c k) + i) % 8) (Int32.ofNat k)) hc (fun s w => upd_ne w) (fun s w => by rw [upd_ne w, upd_ne w]) (upd_same _ _ _) (Or.inl e) (by omega) q
  · by_cases w : s = (own_s (c k) + i) % 8
    · exact ⟨k, by omega, by rw [w, upd_same]⟩
    · rw [upd_ne w] at hne ⊢
      obtain ⟨j, hj, ej⟩ := P.2.1 s h8 hne
      exact ⟨j, by omega, ej⟩
  · obtain ⟨L, h1, h2⟩ := P.2.2.1
    refine ⟨(own_s (c k) + i) % 8 :: L, by simp only [List.length_cons]; omega, fun j hj q => ?_⟩
    have q1 : j ≠ (own_s (c k) + i) % 8 := fun w => q (by rw [w]; exact List.mem_cons_self ..)
    rw [upd_ne q1]; exact h2 j hj fun w => q (List.mem_cons_of_mem _ w)
  · by_cases q : j = k
    · rw [q, upd_same, upd_same, pn]
    · rw [upd_ne q]; exact P.2.2.2.1 j (by omega)
  · rw [P.2.2.2.2, ndc, if_pos pn, own_inc]
theorem PX.old (P : PX k c K H N sz) (hk : k < 8) (hc : ∀ j, c j ≠ -1) (hs : stop K (c k) i) (e : K ((own_s (c k) + i) % 8) = c k) :
    PX (k + 1) c K (upd H ((own_s (c k) + i) % 8) (Int32.ofNat k)) (upd N k (H ((own_s (c k) + i) % 8))) sz := by
  obtain ⟨j0, hj0, e0⟩ := P.2.1 _ (Nat.mod_lt _ (by decide)) (by rw [e]; exact hc k)
  rw [e] at e0
  have ps := prv_some (c := c) (x := c k) (k := k) (j := j0) (by omega) hj0 e0.symm
  obtain ⟨i', h1, h2, h3⟩ := P.1 j0 hj0
  rw [← e0] at h1 h2 h3
  have ei := stop_uniq hs h1 (Or.inr e) (Or.inr h2)
  rw [← ei] at h3
  refine ⟨fun j hj => ?_, fun s h8 hne => ?_, ?_, fun j hj => ?_, ?_⟩
  · by_cases q : c j = c k
    · rw [q]
      exact ⟨i, hs, e, by rw [upd_same, prv, if_pos rfl]⟩
    · have hjk : j ≠ k := fun w => q (by rw [w])
      exact P.others (r := (own_s (c k) + i) % 8) (K' := K) (H' := upd H ((own_s (c k) + i) % 8) (Int32.ofNat k)) hc (fun s w => rfl) (fun s w => upd_ne w) e (Or.inr e) (by omega) q
  · obtain ⟨j, hj, ej⟩ := P.2.1 s h8 hne
    exact ⟨j, by omega, ej⟩
  · obtain ⟨L, h1, h2⟩ := P.2.2.1
    exact ⟨L, by omega, h2⟩
  · by_cases q : j = k
    · rw [q, upd_same, h3]
    · rw [upd_ne q]; exact P.2.2.2.1 j (by omega)
  · rw [P.2.2.2.2, ndc, if_neg ps]; rfl
end PXs
theorem own_dec {a : Nat} (h : 1 ≤ a) : Int32.ofNat a - (1 : Int32) = Int32.ofNat (a - 1) := by
  have e : Int32.ofNat a = Int32.ofNat (a - 1) + 1 := by rw [own_inc, Nat.sub_add_cancel h]
  rw [e, Int32.add_sub_cancel]
theorem own_fl {g : Nat → Int32} {i : Nat} {v : Int32} (hg : ∀ j, j < i → g j = v) : ∀ j, j < i + 1 → upd g i v j = v := fun j hj => by
  by_cases e : j = i
  · rw [e, upd_same]
  · rw [upd_ne e]; exact hg j (by omega)
theorem ex_le {c : Nat → Int32} {r k : Nat} {e : Int32} (hr : r < 5) (hk : k < 5) (h : ¬ Int32.ofNat k < Int32.ofNat r) (he : e = prv c (c r) (min r k)) : e = prv c (c r) (min r (k + 1)) := by
  rw [own_lt (by omega) (by omega)] at h
  rw [he, Nat.min_eq_left (show r ≤ k by omega), Nat.min_eq_left (show r ≤ k + 1 by omega)]
theorem ex_hit {c : Nat → Int32} {r k : Nat} (hr : r < 5) (hk : k < 5) (h : Int32.ofNat k < Int32.ofNat r) (q : c k = c r) : Int32.ofNat k = prv c (c r) (min r (k + 1)) := by
  rw [own_lt (by omega) (by omega)] at h
  rw [Nat.min_eq_right (show k + 1 ≤ r by omega), prv, if_pos q]
theorem ex_miss {c : Nat → Int32} {r k : Nat} {e : Int32} (hr : r < 5) (hk : k < 5) (h : Int32.ofNat k < Int32.ofNat r) (q : ¬ c k = c r) (he : e = prv c (c r) (min r k)) : e = prv c (c r) (min r (k + 1)) := by
  rw [own_lt (by omega) (by omega)] at h
  rw [he, Nat.min_eq_right (show k + 1 ≤ r by omega), Nat.min_eq_right (show k ≤ r by omega), prv, if_neg q]
def own_max (a b : Int32) : Int32 := if a < b then b else a
theorem own_mx {L w g : Nat} (h : ¬ Int32.ofNat w < Int32.ofNat L) (hL : L < 200) (hw : w < 200) (hg : 2 * L ≤ g ∧ w + 1 ≤ g) : ∃ M, own_max (Int32.ofNat (2 * L)) (Int32.ofNat (w + 1)) = Int32.ofNat M ∧ w < M ∧ L < M ∧ M ≤ g := by
  rw [own_lt (by omega) (by omega)] at h
  unfold own_max
  by_cases q : 2 * L < w + 1
  · rw [if_pos ((own_lt (by omega) (by omega)).mpr q)]; exact ⟨w + 1, rfl, by omega, by omega, by omega⟩
  · rw [if_neg (fun z => q ((own_lt (by omega) (by omega)).mp z))]; exact ⟨2 * L, rfl, by omega, by omega, by omega⟩
theorem own_orne {P : Nat → Prop} {m m' s : Nat} (hm : m' = m ∨ s ≤ m') (h1 : P m) (h2 : s ≤ m' → P m') : P m' := by
  rcases hm with e | e
  · rw [e]; exact h1
  · exact h2 e
theorem own_sz1 {sz : Int32} {z : Nat} (e : sz = Int32.ofNat z) (h : z ≤ 2) : ¬ (8 : Int32) < 2 * (sz + 1) := by
  rw [e, own_inc, own_m2]; exact fun q => absurd ((own_lt (a := 8) (by omega) (by omega)).mp q) (by omega)
theorem own_sz0 {sz : Int32} {z : Nat} (e : sz = Int32.ofNat z) (h : z ≤ 2) : ¬ (8 : Int32) < 2 * sz := by
  rw [e, own_m2]; exact fun q => absurd ((own_lt (a := 8) (by omega) (by omega)).mp q) (by omega)
theorem own_st8 (x : Int32) : own_mix x &&& 7 = Int32.ofNat ((own_s x + 0) % 8) := by
  obtain ⟨s, e, es⟩ := own_strt (Or.inl rfl : (8 : Nat) = 8 ∨ 8 = 16) (own_mix x)
  have q : s = own_s x := es
  rw [← q]; exact e
/-- nothing below B is touched -/
def Sm (B : Nat) (h h' : Heap) : Prop := B ≤ h.size ∧ h.size ≤ h'.size ∧ ∀ (a : Addr) (c : Cell), a < B → h[a]? = some c → h'[a]? = some c
section Sms
variable {B : Nat} {h0 h h' : Heap} {a sl : Nat} {v : Value} {ws : List Addr}
theorem Sm.refl (q : B ≤ h.size) : Sm B h h := ⟨q, Nat.le_refl _, fun _ _ _ e => e⟩
theorem Sm.ge (S : Sm B h0 h) (q : h.size ≤ a) : B ≤ a := Nat.le_trans S.1 (Nat.le_trans S.2.1 q)
theorem Sm.ext (S : Sm B h0 h) (E : Ext h h') : Sm B h0 h' := ⟨S.1, Nat.le_trans S.2.1 E.1, fun a c q e => E.2 a c (S.2.2 a c q e)⟩
theorem Sm.keep (S : Sm B h0 h) (K : Keep h h' ws) (q : ∀ w ∈ ws, B ≤ w) : Sm B h0 h' := ⟨S.1, Nat.le_trans S.2.1 K.1, fun a c l e => K.2.1 a c (S.2.2 a c l e) fun m => absurd (q a m) (Nat.not_le.mpr l)⟩
theorem Sm.other (S : Sm B h0 h) (W1 : Wr h h' a sl v) (q : B ≤ a) : Sm B h0 h' := S.keep (Keep.of_wr W1) (allS q all0)
theorem Sm.trans {h1 : Heap} (S : Sm B h0 h) (S' : Sm B h h1) : Sm B h0 h1 := ⟨S.1, Nat.le_trans S.2.1 S'.2.1, fun a c l e => S'.2.2 a c l (S.2.2 a c l e)⟩
theorem pa_sm {Z : State} {ty : FieldType} {vs : List Value} (A : PA ty Z h a vs) (S : Sm B h h') (q : a < B) : PA ty Z h' a vs := by obtain ⟨c, A, r⟩ := A; exact ⟨c, ⟨S.2.2 a c q A.1, A.2⟩, r⟩
end Sms
abbrev FO (Z : State) (h : Heap) (t un me ag de sl po : Addr) (n rw lw us : Int32) : Prop := Ob Z h t "com/example/hornconv/hornconv/FactTable" fl_FactTable [.ref un, .ref me, .int n, .ref ag, .ref de, .ref sl, .ref po, .int rw, .int lw, .int us]
abbrev PO (Z : State) (h : Heap) (q ke he co nx : Addr) (sz : Int32) : Prop := Ob Z h q "com/example/hornconv/hornconv/FactTable$PositionIndex" fl_FactTable_PositionIndex [.ref ke, .ref he, .ref co, .ref nx, .int sz]
def cap4 (k : Nat) : Nat := if k ≤ 4 then 4 else 8
def capS (k : Nat) : Nat := if k ≤ 4 then 8 else 16
def pm (n : Nat) : Nat := if n = 1 then 0 else n
/-- the array of the positions, and what may lie there -/
def PP (Z : State) (h : Heap) (a : Addr) (N p : Nat) (x : Value) : Prop := PA (.object "com/example/hornconv/hornconv/FactTable$PositionIndex") Z h a (pv N p x) ∧ OvA Z h a "com/example/hornconv/hornconv/FactTable$PositionIndex"
/-- the index q, made over the addresses D, of the first k rows -/
def IX (Z : State) (h : Heap) (D : List Addr) (q : Addr) (k : Nat) (c : Nat → Int32) : Prop :=
  ∃ ke he co nx sz K H G N, D = [q, ke, he, co, nx] ∧ (q ≠ ke ∧ q ≠ he ∧ q ≠ co ∧ q ≠ nx ∧ ke ≠ he ∧ ke ≠ co ∧ ke ≠ nx ∧ he ≠ co ∧ he ≠ nx ∧ co ≠ nx) ∧ PX k c K H N sz ∧ PO Z h q ke he co nx sz ∧ PA .int Z h ke (sv 8 K) ∧ PA .int Z h he (sv 8 H) ∧ PA .int Z h co (sv 8 G) ∧ PA .int Z h nx (sv (cap4 k) N)
def IXo (Z : State) (h : Heap) (D : List Addr) (mk : Bool) (x : Value) (k : Nat) (c : Nat → Int32) : Prop := (mk = false ∧ x = .null ∧ D = []) ∨ (mk = true ∧ ∃ q, x = .ref q ∧ IX Z h D q k c)
section IXs
variable {Z : State} {h h' : Heap} {D : List Addr} {a q : Addr} {k N p : Nat} {c : Nat → Int32} {ws : List Addr} {sl : Nat} {v x : Value} {mk : Bool}
theorem PP.lt (A : PP Z h a N p x) : a < h.size := A.1.lt
theorem PP.ext (A : PP Z h a N p x) (E : Ext h h') : PP Z h' a N p x := ⟨A.1.ext E, A.2.ext E⟩
theorem PP.keep (A : PP Z h a N p x) (K : Keep h h' ws) (q : a ∉ ws) : PP Z h' a N p x := ⟨A.1.keep K q, A.2.keep K⟩
theorem PP.other {b : Addr} (A : PP Z h a N p x) (W1 : Wr h h' b sl v) (q : a ≠ b) : PP Z h' a N p x := A.keep (Keep.of_wr W1) (ninS q nin0)
theorem PP.set {b : Addr} (A : PP Z h a N p x) (hp : p < N) (hN : N < 1000) (W1 : Wr h h' a (Int32.ofNat p).toNatClampNeg (.ref b)) (A1 : PA (.object "com/example/hornconv/hornconv/FactTable$PositionIndex") Z h' a ((pv N p x).set (Int32.ofNat p).toNatClampNeg (.ref b))) : PP Z h' a N p (.ref b) := by
  rw [own_ix (by omega), pv_set _ _ hp] at A1
  exact ⟨A1, A.2.keep (Keep.of_wr W1)⟩
theorem IX.keep (X : IX Z h D q k c) (K : Keep h h' ws) (d : ∀ w ∈ ws, w ∉ D) : IX Z h' D q k c := by
  obtain ⟨ke, he, co, nx, sz, K0, H, G, N, rfl, ne, P, A1, A2, A3, A4, A5⟩ := X
  have nn : ∀ a ∈ [q, ke, he, co, nx], a ∉ ws := fun a ha hm => d a hm ha
  exact ⟨ke, he, co, nx, sz, K0, H, G, N, rfl, ne, P, A1.keep K (nn _ (by simp)), A2.keep K (nn _ (by simp)), A3.keep K (nn _ (by simp)), A4.keep K (nn _ (by simp)), A5.keep K (nn _ (by simp))⟩
theorem IX.ext (X : IX Z h D q k c) (E : Ext h h') : IX Z h' D q k c := by
  obtain ⟨ke, he, co, nx, sz, K0, H, G, N, rfl, ne, P, A1, A2, A3, A4, A5⟩ := X
  exact ⟨ke, he, co, nx, sz, K0, H, G, N, rfl, ne, P, A1.ext E, A2.ext E, A3.ext E, A4.ext E, A5.ext E⟩
theorem IX.other (X : IX Z h D q k c) (W1 : Wr h h' a sl v) (d : a ∉ D) : IX Z h' D q k c := X.keep (Keep.of_wr W1) (allS d all0)
theorem IX.nin (X : IX Z h D q k c) (g : h.size ≤ a) : a ∉ D := by
  obtain ⟨ke, he, co, nx, sz, K0, H, G, N, rfl, ne, P, A1, A2, A3, A4, A5⟩ := X
  have b1 := A1.lt; have b2 := A2.lt; have b3 := A3.lt; have b4 := A4.lt; have b5 := A5.lt
  intro m
  simp only [List.mem_cons, List.not_mem_nil, or_false] at m
  rcases m with rfl | rfl | rfl | rfl | rfl
  · exact Nat.lt_irrefl _ (Nat.lt_of_lt_of_le b1 g)
  · exact Nat.lt_irrefl _ (Nat.lt_of_lt_of_le b2 g)
  · exact Nat.lt_irrefl _ (Nat.lt_of_lt_of_le b3 g)
  · exact Nat.lt_irrefl _ (Nat.lt_of_lt_of_le b4 g)
  · exact Nat.lt_irrefl _ (Nat.lt_of_lt_of_le b5 g)
theorem IX.exa (X : IX Z h D q k c) : Exa Z h q "com/example/hornconv/hornconv/FactTable$PositionIndex" := by
  obtain ⟨ke, he, co, nx, sz, K0, H, G, N, rfl, ne, P, A1, -⟩ := X
  exact A1.1
theorem IX.mem (X : IX Z h D q k c) : q ∈ D := by
  obtain ⟨ke, he, co, nx, sz, K0, H, G, N, rfl, -⟩ := X
  exact List.mem_cons_self ..
theorem IXo.keep (X : IXo Z h D mk x k c) (K : Keep h h' ws) (d : ∀ w ∈ ws, w ∉ D) : IXo Z h' D mk x k c := X.imp id fun ⟨a, q, b, e⟩ => ⟨a, q, b, e.keep K d⟩
theorem IXo.ext (X : IXo Z h D mk x k c) (E : Ext h h') : IXo Z h' D mk x k c := X.imp id fun ⟨a, q, b, e⟩ => ⟨a, q, b, e.ext E⟩
theorem IXo.other (X : IXo Z h D mk x k c) (W1 : Wr h h' a sl v) (d : a ∉ D) : IXo Z h' D mk x k c := X.imp id fun ⟨a, q, b, e⟩ => ⟨a, q, b, e.other W1 d⟩
theorem IXo.nin (X : IXo Z h D mk x k c) (g : h.size ≤ a) : a ∉ D := by
  rcases X with ⟨-, -, rfl⟩ | ⟨-, q, -, X⟩
  · exact nin0
  · exact X.nin g
theorem IXo.any (X : IXo Z h D false x k c) (k' : Nat) : IXo Z h D false x k' c := by
  rcases X with X | ⟨X, -⟩
  · exact Or.inl X
  · cases X
theorem IXo.null (X : IXo Z h D false x k c) : x = .null := by
  rcases X with X | ⟨X, -⟩
  · exact X.2.1
  · cases X
theorem IXo.made (X : IXo Z h D true x k c) : ∃ q, x = .ref q ∧ IX Z h D q k c := by
  rcases X with ⟨X, -⟩ | X
  · cases X
  · exact X.2
end IXs
def vrow (p : Nat) (c : Nat → Int32) (i : Nat) : Nat → Int32 := upd (fun _ => Int32.ofNat i) p (c i)
def RA (n p r : Nat) (c A : Nat → Int32) (Lm : Nat) : Prop := (2 ≤ n → ∀ i, i < r → ∀ j, j < n → A (i * n + j) = vrow p c i j) ∧ (n = 1 → ∀ i, i < r → ∃ w, Jvm.Free.XT.ushr (A i) 6 = Int32.ofNat w ∧ w < Lm)
/-- a table: r rows of n arguments, position p's index made or not; al: no row was removed -/
def TB (Z : State) (h : Heap) (B : Nat) (t : Addr) (n p r : Nat) (c : Nat → Int32) (Lm : Nat) (mk al : Bool) : Prop :=
  ∃ (un me ag de sl po : Addr) (x : Value) (D : List Addr) (A f uu : Nat → Int32) (μ : Nat → Int64) (lw us : Int32) (dd : Nat → Int32),
    FO Z h t un me ag de sl po (Int32.ofNat n) (Int32.ofNat r) lw us ∧ PA .int Z h un (sv 1 uu) ∧ PA .long Z h me (lv Lm μ) ∧ PA .int Z h ag (sv (cap4 r * n) A) ∧ PA .boolean Z h de (sv (cap4 r) dd) ∧ PA .int Z h sl (sv (capS r) f) ∧ PP Z h po (pm n) p x ∧ IXo Z h D mk x r c ∧
    (t ≠ un ∧ t ≠ me ∧ t ≠ ag ∧ t ≠ de ∧ t ≠ sl ∧ t ≠ po ∧ un ≠ me ∧ un ≠ ag ∧ un ≠ de ∧ un ≠ sl ∧ un ≠ po ∧ me ≠ ag ∧ me ≠ de ∧ me ≠ sl ∧ me ≠ po ∧ ag ≠ de ∧ ag ≠ sl ∧ ag ≠ po ∧ de ≠ sl ∧ de ≠ po ∧ sl ≠ po) ∧ (t ∉ D ∧ un ∉ D ∧ me ∉ D ∧ ag ∉ D ∧ de ∉ D ∧ sl ∉ D ∧ po ∉ D) ∧ (B ≤ t ∧ B ≤ un ∧ B ≤ me ∧ B ≤ ag ∧ B ≤ de ∧ B ≤ sl ∧ B ≤ po) ∧ (∀ a ∈ D, B ≤ a) ∧ RA n p r c A Lm ∧ Lm ≤ 126 ∧ (al = true → lw = Int32.ofNat r ∧ us = Int32.ofNat r ∧ dd = (fun _ => 0) ∧ IR r (capS r) f)
def ins (A : Nat → Int32) (o n : Nat) (v : Nat → Int32) : Nat → Int32 := fun j => if o ≤ j ∧ j < o + n then v (j - o) else A j
theorem sv_copy {La M o n : Nat} {A v : Nat → Int32} (h : o + n ≤ La) (hm : n ≤ M) : (sv La A).take o ++ ((sv M v).drop 0).take n ++ (sv La A).drop (o + n) = sv La (ins A o n v) := by
  apply List.ext_getElem?
  intro i
  have l1 : ((sv La A).take o).length = o := by rw [List.length_take, sv_len]; omega
  have l2 : (((sv M v).drop 0).take n).length = n := by rw [List.length_take, List.length_drop, sv_len]; omega
  by_cases c1 : i < o
  · rw [List.append_assoc, List.getElem?_append_left (by omega), List.getElem?_take, if_pos c1, sv_get (by omega), sv_get (by omega), ins, if_neg (by omega)]
  · by_cases c2 : i < o + n
    · rw [List.append_assoc, List.getElem?_append_right (by omega), l1, List.getElem?_append_left (by omega), List.getElem?_take, if_pos (by omega), List.getElem?_drop, sv_get (by omega), sv_get (by omega), ins, if_pos (by omega), Nat.zero_add]
    · rw [List.getElem?_append_right (by rw [List.length_append]; omega), List.length_append, l1, l2, List.getElem?_drop]
      by_cases c3 : i < La
      · rw [sv_get (by omega), sv_get c3, ins, if_neg (by omega), show o + n + (i - (o + n)) = i by omega]
      · rw [List.getElem?_eq_none (by rw [sv_len]; omega), List.getElem?_eq_none (by rw [sv_len]; omega)]
theorem own_mn {i r n : Nat} (h : i < r) : i * n + n ≤ r * n := by
  have := Nat.mul_le_mul_right n (show i + 1 ≤ r from h)
  rw [Nat.add_mul, Nat.one_mul] at this; exact this
theorem RA.put2 {n p r Lm : Nat} {c A v : Nat → Int32} (R : RA n p r c A Lm) (hn : 2 ≤ n) (hv : v = vrow p c r) : RA n p (r + 1) c (ins A (r * n) n v) Lm := by
  refine ⟨fun _ i hi j hj => ?_, fun e => absurd e (by omega)⟩
  by_cases e : i = r
  · subst e; rw [ins, if_pos (by omega), Nat.add_sub_cancel_left, hv]
  · have := own_mn (n := n) (show i < r by omega)
    rw [ins, if_neg (by omega)]; exact R.1 hn i (by omega) j hj
theorem RA.put1 {p r Lm Lm' w : Nat} {c A v : Nat → Int32} (R : RA 1 p r c A Lm) (hL : Lm ≤ Lm') (h6 : Jvm.Free.XT.ushr (v 0) 6 = Int32.ofNat w) (hw : w < Lm') : RA 1 p (r + 1) c (ins A (r * 1) 1 v) Lm' := by
  refine ⟨fun e => absurd e (by omega), fun _ i hi => ?_⟩
  by_cases e : i = r
  · subst e; rw [ins, if_pos (by omega)]; exact ⟨w, by rw [show i - i * 1 = 0 by omega]; exact h6, hw⟩
  · rw [ins, if_neg (by omega)]
    obtain ⟨w', e1, e2⟩ := R.2 rfl i (by omega)
    exact ⟨w', e1, by omega⟩
theorem RA.grow {n p Lm : Nat} {c A : Nat → Int32} (R : RA n p 4 c A Lm) : RA n p 4 c (fun j => if j < 4 * n then A j else 0) Lm := by
  refine ⟨fun hn i hi j hj => ?_, fun e i hi => ?_⟩
  · have := own_mn (n := n) (show i < 4 from hi)
    show (if i * n + j < 4 * n then _ else _) = _
    rw [if_pos (by omega)]; exact R.1 hn i hi j hj
  · show ∃ w, Jvm.Free.XT.ushr (if i < 4 * n then _ else _) 6 = _ ∧ _
    rw [if_pos (by omega)]; exact R.2 e i hi
/-- rows that hold their own numbers differ -/
theorem RA.diff {n p r y Lm : Nat} {c A v : Nat → Int32} (R : RA n p r c A Lm) (hn : 2 ≤ n ∧ n ≤ 3) (hv : v = vrow p c r) (hy : y < r) (hr : r < 1000) (h : ∀ j, j < n → A (y * n + j) = v j) : False := by
  obtain ⟨j, hj, hp⟩ : ∃ j, j < n ∧ j ≠ p := by
    by_cases e : p = 0
    · exact ⟨1, by omega, by omega⟩
    · exact ⟨0, by omega, by omega⟩
  have h1 := h j hj
  rw [R.1 hn.1 y hy j hj, hv, vrow, vrow, upd_ne hp, upd_ne hp, own_eqn (by omega) (by omega)] at h1
  omega
theorem RA.at {n p r i Lm : Nat} {c A : Nat → Int32} (R : RA n p r c A Lm) (hn : 2 ≤ n) (hp : p < n) (hi : i < r) : A (i * n + p) = c i := by
  rw [R.1 hn i hi p hp, vrow, upd_same]
theorem RA.put1' {n p r Lm Lm' w : Nat} {c A v : Nat → Int32} (R : RA n p r c A Lm) (hn : n = 1) (hL : Lm ≤ Lm') (h6 : Jvm.Free.XT.ushr (v 0) 6 = Int32.ofNat w) (hw : w < Lm') : RA n p (r + 1) c (ins A (r * n) n v) Lm' := by
  subst hn; exact R.put1 hL h6 hw
theorem RA.cov {n p r y w Lm : Nat} {c A v : Nat → Int32} (R : RA n p r c A Lm) (hn : n = 1) (hy : y < r) (he : ∀ j, j < n → A (y * n + j) = v j) (h6 : Jvm.Free.XT.ushr (v 0) 6 = Int32.ofNat w) (hw : w < 64) (hL : Lm ≤ 126) : w < Lm := by
  subst hn
  obtain ⟨w', e1, e2⟩ := R.2 rfl y hy
  have e3 := he 0 (by omega)
  rw [show y * 1 + 0 = y by omega] at e3
  rw [e3, h6, own_eqn (by omega) (by omega)] at e1
  omega
theorem own_cb {r n : Nat} (hr : r ≤ 4) (hn : n ≤ 3) : r * n + n ≤ cap4 (r + 1) * n ∧ cap4 (r + 1) * n < 1000 := by
  have h : r + 1 ≤ cap4 (r + 1) ∧ cap4 (r + 1) ≤ 8 := by unfold cap4; split <;> omega
  have h1 := Nat.mul_le_mul_right n h.1
  have h2 := Nat.mul_le_mul h.2 hn
  rw [Nat.add_mul, Nat.one_mul] at h1
  omega
theorem own_pm {n : Nat} (hn : 1 ≤ n ∧ n ≤ 3) : pm n ≤ 3 := by unfold pm; split <;> omega
theorem cap4_lo {k : Nat} (h : k ≤ 4) : cap4 k = 4 := if_pos h
theorem cap4_hi {k : Nat} (h : ¬ k ≤ 4) : cap4 k = 8 := if_neg h
theorem capS_lo {k : Nat} (h : k ≤ 4) : capS k = 8 := if_pos h
theorem capS_hi {k : Nat} (h : ¬ k ≤ 4) : capS k = 16 := if_neg h
theorem d4_0 : decode jdk_65_method_103_code 0 = .ok (.iconst 0, 1) := by decide +kernel
theorem d4_1 : decode jdk_65_method_103_code 1 = .ok (.istore_n 2, 1) := by decide +kernel
theorem d4_2 : decode jdk_65_method_103_code 2 = .ok (.aload_n 0, 1) := by decide +kernel
theorem d4_3 : decode jdk_65_method_103_code 3 = .ok (.arraylength, 1) := by decide +kernel
theorem d4_4 : decode jdk_65_method_103_code 4 = .ok (.istore_n 3, 1) := by decide +kernel
theorem d4_5 : decode jdk_65_method_103_code 5 = .ok (.iload_n 2, 1) := by decide +kernel
theorem d4_6 : decode jdk_65_method_103_code 6 = .ok (.iload_n 3, 1) := by decide +kernel
theorem d4_7 : decode jdk_65_method_103_code 7 = .ok (.if_icmp .ge 13, 3) := by decide +kernel
theorem d4_10 : decode jdk_65_method_103_code 10 = .ok (.aload_n 0, 1) := by decide +kernel
theorem d4_11 : decode jdk_65_method_103_code 11 = .ok (.iload_n 2, 1) := by decide +kernel
theorem d4_12 : decode jdk_65_method_103_code 12 = .ok (.iload_n 1, 1) := by decide +kernel
theorem d4_13 : decode jdk_65_method_103_code 13 = .ok (.iastore, 1) := by decide +kernel
theorem d4_14 : decode jdk_65_method_103_code 14 = .ok (.iinc 2 1, 3) := by decide +kernel
theorem d4_17 : decode jdk_65_method_103_code 17 = .ok (.goto (-12), 3) := by decide +kernel
theorem d4_20 : decode jdk_65_method_103_code 20 = .ok (.return_, 1) := by decide +kernel
theorem pn_java_util_Arrays : plainName "java/util/Arrays" = true := by first | (simp [plainName, overriddenIn]; done) | decide +kernel
set_option maxRecDepth 65536 in
set_option maxHeartbeats 40000000 in
theorem lp_fill (l : Launch) (Z : State) (a0 : Array Value) (hw : ∀ d ∈ tables_1, d.before a0 Z = true) (n0 : Nat) (h0 : Heap) (K : Cx) (ok : Ok K Z n0 "java/util/Arrays" jdk_65_method_103_code 4 none "fill") (a : Addr) (v : Int32) (N : Nat) (hN : N < 1000) (ge_a : n0 ≤ a) :
    ∀ (cc i : Nat) (h1 : Heap) (g : Nat → Int32), i + cc = N → Keep h0 h1 [a] → PA .int Z h1 a (sv N g) → (∀ j, j < i → g j = v) → W K l ({ frames := 0, cells := 0, slots := 0, locals := 0 } : Room) n0 (fun u h => u = none ∧ Keep h0 h [a] ∧ PA .int Z h a (sv N (fun _ => v))) h1 0 0 5 #[.val (.ref a), .val (.int v), .val (.int (Int32.ofNat i)), .val (.int (Int32.ofNat N))] [] := by
  intro cc
  induction cc with
  | zero =>
    intro i h1 g hi Kp A_a hg
    show W K l _ n0 _ h1 0 0 5 #[.val (.ref a), .val (.int v), .val (.int (Int32.ofNat i)), .val (.int (Int32.ofNat N))] []
    refine w_iloadN ok d4_5 rfl ?_
    refine w_iloadN ok d4_6 rfl ?_
    refine w_icmp_ge ok d4_7 (pc' := 20) (by decide) (fun hc1 => ?_) (fun hc1 => False.elim (by rw [own_lt (by omega) (by omega)] at hc1; omega))
    refine w_ret ok d4_20 (by decide) (by decide) ?_
    exact ⟨rfl, Kp, by rw [← sv_ext (f := g) (fun j hj => hg j (by omega))]; exact A_a⟩
  | succ cc ih =>
    intro i h1 g hi Kp A_a hg
    show W K l _ n0 _ h1 0 0 5 #[.val (.ref a), .val (.int v), .val (.int (Int32.ofNat i)), .val (.int (Int32.ofNat N))] []
    refine w_iloadN ok d4_5 rfl ?_
    refine w_iloadN ok d4_6 rfl ?_
    refine w_icmp_ge ok d4_7 (pc' := 20) (by decide) (fun hc3 => False.elim (by exact hc3 ((own_lt (by omega) (by omega)).mpr (by omega)))) (fun hc3 => ?_)
    refine w_aloadN ok d4_10 rfl rfl ?_
    refine w_iloadN ok d4_11 rfl ?_
    refine w_iloadN ok d4_12 rfl ?_
    refine w_iastore ok d4_13 A_a ge_a (own_ix0 (by omega)) (svl (j := i) (by omega) (by omega)) (fun h4 W_h4 A1_h4 => ?_)
    replace Kp := Kp.wr W_h4 (Or.inl (by simp))
    replace A_a : PA .int Z h4 a ((sv N g).set (Int32.ofNat i).toNatClampNeg (.int v)) := A1_h4
    rw [own_ix (j := i) (by omega), sv_set] at A_a
    refine w_iinc ok d4_14 (u := (1 : Int32)) rfl rfl (L' := #[.val (.ref a), .val (.int v), .val (.int ((Int32.ofNat i) + (1 : Int32))), .val (.int (Int32.ofNat N))]) rfl ?_
    show W K l _ n0 _ h4 0 0 17 #[.val (.ref a), .val (.int v), .val (.int ((Int32.ofNat i) + (1 : Int32))), .val (.int (Int32.ofNat N))] []
    refine w_goto ok d4_17 (pc' := 5) (by decide) ?_
    show W K l _ n0 _ h4 0 0 5 #[.val (.ref a), .val (.int v), .val (.int ((Int32.ofNat i) + (1 : Int32))), .val (.int (Int32.ofNat N))] []
    rw [own_inc]
    exact ih (i + 1) _ _ (by omega) Kp A_a (own_fl hg)
abbrev mn_4 : MethodName := ⟨"java/util/Arrays", "fill", "([II)V"⟩
set_option maxRecDepth 65536 in
set_option maxHeartbeats 40000000 in
theorem rm_fill (l : Launch) (Z : State) (a0 : Array Value) (hw : ∀ d ∈ tables_1, d.before a0 Z = true) (ws : List Jvm.Cond) (n0 : Nat) (h0 : Heap) (Z0 : Old Z n0 h0) (a : Addr) (v : Int32) (N : Nat) (g : Nat → Int32) (hN : N < 1000) (A_a : PA .int Z h0 a (sv N g)) (ge_a : n0 ≤ a)  :
    Met l Z n0 mn_4 jdk_65_method_103_code 4 none ws ({ frames := 0, cells := 0, slots := 0, locals := 0 } : Room) #[(.ref a), (.int v)] h0 (fun u h => u = none ∧ Keep h0 h [a] ∧ PA .int Z h a (sv N (fun _ => v))) := by
  refine met_of Z0 (plainFor_of_name pn_java_util_Arrays) (Ls := #[.val (.ref a), .val (.int v), .unset, .unset]) (fun m => by first | (simp [entryFrame, mkF, argsToLocals, Value.category]; done) | rfl) ?_
  intro K ok
  have Kp : Keep h0 h0 [a] := Keep.refl _ _
  show W K l _ n0 _ h0 0 0 0 #[.val (.ref a), .val (.int v), .unset, .unset] []
  refine w_iconst ok d4_0 (v := (0 : Int32)) rfl ?_
  refine w_istoreN ok d4_1 (L' := #[.val (.ref a), .val (.int v), .val (.int (0 : Int32)), .unset]) rfl ?_
  refine w_aloadN ok d4_2 rfl rfl ?_
  refine w_arraylength ok (z := Int32.ofNat N) d4_3 A_a (sv_z (by omega)) (own_ix0 (by omega)) ?_
  show W K l _ n0 _ h0 0 0 4 #[.val (.ref a), .val (.int v), .val (.int (0 : Int32)), .unset] [(.int (Int32.ofNat N))]
  refine w_istoreN ok d4_4 (L' := #[.val (.ref a), .val (.int v), .val (.int (0 : Int32)), .val (.int (Int32.ofNat N))]) rfl ?_
  show W K l _ n0 _ h0 0 0 5 #[.val (.ref a), .val (.int v), .val (.int (0 : Int32)), .val (.int (Int32.ofNat N))] []
  exact lp_fill l Z a0 hw n0 h0 K ok a v N hN ge_a N 0 h0 g (by omega) Kp A_a (fun j hj => absurd hj (Nat.not_lt_zero _))
theorem d1_0 : decode method_3_code 0 = .ok (.iconst 3, 1) := by decide +kernel
theorem d1_1 : decode method_3_code 1 = .ok (.newarray .int, 2) := by decide +kernel
theorem d1_3 : decode method_3_code 3 = .ok (.astore_n 3, 1) := by decide +kernel
theorem d1_4 : decode method_3_code 4 = .ok (.aload_n 3, 1) := by decide +kernel
theorem d1_5 : decode method_3_code 5 = .ok (.iconst 0, 1) := by decide +kernel
theorem d1_6 : decode method_3_code 6 = .ok (.iload_n 2, 1) := by decide +kernel
theorem d1_7 : decode method_3_code 7 = .ok (.iastore, 1) := by decide +kernel
theorem d1_8 : decode method_3_code 8 = .ok (.aload_n 3, 1) := by decide +kernel
theorem d1_9 : decode method_3_code 9 = .ok (.iconst 1, 1) := by decide +kernel
theorem d1_10 : decode method_3_code 10 = .ok (.iload_n 2, 1) := by decide +kernel
theorem d1_11 : decode method_3_code 11 = .ok (.iastore, 1) := by decide +kernel
theorem d1_12 : decode method_3_code 12 = .ok (.aload_n 3, 1) := by decide +kernel
theorem d1_13 : decode method_3_code 13 = .ok (.iconst 2, 1) := by decide +kernel
theorem d1_14 : decode method_3_code 14 = .ok (.iload_n 2, 1) := by decide +kernel
theorem d1_15 : decode method_3_code 15 = .ok (.iastore, 1) := by decide +kernel
theorem d1_16 : decode method_3_code 16 = .ok (.aload_n 3, 1) := by decide +kernel
theorem d1_17 : decode method_3_code 17 = .ok (.iload_n 0, 1) := by decide +kernel
theorem d1_18 : decode method_3_code 18 = .ok (.iload_n 1, 1) := by decide +kernel
theorem d1_19 : decode method_3_code 19 = .ok (.iastore, 1) := by decide +kernel
theorem d1_20 : decode method_3_code 20 = .ok (.aload_n 3, 1) := by decide +kernel
theorem d1_21 : decode method_3_code 21 = .ok (.areturn, 1) := by decide +kernel
theorem pn_com_example_hornconv_hornconv_FactTableNextPinLaw : plainName "com/example/hornconv/hornconv/FactTableNextPinLaw" = true := by first | (simp [plainName, overriddenIn]; done) | decide +kernel
abbrev mn_1 : MethodName := ⟨"com/example/hornconv/hornconv/FactTableNextPinLaw", "row", "(III)[I"⟩
set_option maxRecDepth 65536 in
set_option maxHeartbeats 40000000 in
theorem rm_row (l : Launch) (Z : State) (a0 : Array Value) (hw : ∀ d ∈ tables_1, d.before a0 Z = true) (ws : List Jvm.Cond) (n0 : Nat) (h0 : Heap) (Z0 : Old Z n0 h0) (p : Nat) (x : Int32) (i : Nat) (hp : p < 3)  :
    Met l Z n0 mn_1 method_3_code 4 (some (.array .int)) ws ({ frames := 0, cells := 1, slots := 3, locals := 0 } : Room) #[(.int (Int32.ofNat p)), (.int x), (.int (Int32.ofNat i))] h0 (fun u h => ∃ b, u = some (.ref b) ∧ h0.size ≤ b ∧ n0 ≤ b ∧ Keep h0 h [] ∧ PA .int Z h b (sv 3 (upd (fun _ => Int32.ofNat i) p x))) := by
  refine met_of Z0 (plainFor_of_name pn_com_example_hornconv_hornconv_FactTableNextPinLaw) (Ls := #[.val (.int (Int32.ofNat p)), .val (.int x), .val (.int (Int32.ofNat i)), .unset]) (fun m => by first | (simp [entryFrame, mkF, argsToLocals, Value.category]; done) | rfl) ?_
  intro K ok
  have Kp : Keep h0 h0 [] := Keep.refl _ _
  show W K l _ n0 _ h0 0 0 0 #[.val (.int (Int32.ofNat p)), .val (.int x), .val (.int (Int32.ofNat i)), .unset] []
  refine w_iconst ok d1_0 (v := (3 : Int32)) rfl ?_
  refine w_newarray ok d1_1 (hw _ (List.mem_of_getElem? (i := 1) rfl)) (by decide) (cap := 3) (by decide) (by decide) (by decide) (by decide) (fun h2 b1 ea_b1 ge_b1 E_b1 A_b1 => ?_)
  have sz_b1 : h0.size ≤ b1 := Nat.le_trans Kp.1 (Nat.le_of_eq ea_b1.symm)
  replace Kp := Kp.ext E_b1
  replace A_b1 : PA .int Z h2 b1 [(.int (0 : Int32)), (.int (0 : Int32)), (.int (0 : Int32))] := A_b1
  refine w_astoreN ok d1_3 rfl (L' := #[.val (.int (Int32.ofNat p)), .val (.int x), .val (.int (Int32.ofNat i)), .val (.ref b1)]) rfl ?_
  refine w_aloadN ok d1_4 rfl rfl ?_
  refine w_iconst ok d1_5 (v := (0 : Int32)) rfl ?_
  refine w_iloadN ok d1_6 rfl ?_
  refine w_iastore ok d1_7 A_b1 ge_b1 (by decide) (Nat.le_of_ble_eq_true rfl) (fun h3 W_h3 A1_h3 => ?_)
  replace Kp := Kp.wr W_h3 (Or.inr sz_b1)
  replace A_b1 : PA .int Z h3 b1 [(.int (Int32.ofNat i)), (.int (0 : Int32)), (.int (0 : Int32))] := A1_h3
  refine w_aloadN ok d1_8 rfl rfl ?_
  refine w_iconst ok d1_9 (v := (1 : Int32)) rfl ?_
  refine w_iloadN ok d1_10 rfl ?_
  refine w_iastore ok d1_11 A_b1 ge_b1 (by decide) (Nat.le_of_ble_eq_true rfl) (fun h4 W_h4 A1_h4 => ?_)
  replace Kp := Kp.wr W_h4 (Or.inr sz_b1)
  replace A_b1 : PA .int Z h4 b1 [(.int (Int32.ofNat i)), (.int (Int32.ofNat i)), (.int (0 : Int32))] := A1_h4
  refine w_aloadN ok d1_12 rfl rfl ?_
  refine w_iconst ok d1_13 (v := (2 : Int32)) rfl ?_
  refine w_iloadN ok d1_14 rfl ?_
  refine w_iastore ok d1_15 A_b1 ge_b1 (by decide) (Nat.le_of_ble_eq_true rfl) (fun h5 W_h5 A1_h5 => ?_)
  replace Kp := Kp.wr W_h5 (Or.inr sz_b1)
  replace A_b1 : PA .int Z h5 b1 [(.int (Int32.ofNat i)), (.int (Int32.ofNat i)), (.int (Int32.ofNat i))] := A1_h5
  refine w_aloadN ok d1_16 rfl rfl ?_
  refine w_iloadN ok d1_17 rfl ?_
  refine w_iloadN ok d1_18 rfl ?_
  refine w_iastore ok d1_19 A_b1 ge_b1 (own_ix0 (by omega)) (by rw [own_ix (by omega)]; exact hp) (fun h6 W_h6 A1_h6 => ?_)
  replace Kp := Kp.wr W_h6 (Or.inr sz_b1)
  replace A_b1 : PA .int Z h6 b1 ([(.int (Int32.ofNat i)), (.int (Int32.ofNat i)), (.int (Int32.ofNat i))].set (Int32.ofNat p).toNatClampNeg (.int x)) := A1_h6
  rw [own_ix (j := p) (by omega)] at A_b1
  refine w_aloadN ok d1_20 rfl rfl ?_
  refine w_aret ok rfl rfl d1_21 (by decide) (by decide) ?_
  have e : PA .int Z _ b1 ((sv 3 (fun _ => Int32.ofNat i)).set p (.int x)) := A_b1
  rw [sv_set] at e
  exact ⟨b1, rfl, sz_b1, ge_b1, Kp, e⟩
theorem d22_0 : decode method_4_code 0 = .ok (.iconst (-1), 1) := by decide +kernel
theorem d22_1 : decode method_4_code 1 = .ok (.istore_n 2, 1) := by decide +kernel
theorem d22_2 : decode method_4_code 2 = .ok (.iload_n 1, 1) := by decide +kernel
theorem d22_3 : decode method_4_code 3 = .ok (.ifCond .le 14, 3) := by decide +kernel
theorem d22_6 : decode method_4_code 6 = .ok (.aload_n 0, 1) := by decide +kernel
theorem d22_7 : decode method_4_code 7 = .ok (.iconst 0, 1) := by decide +kernel
theorem d22_8 : decode method_4_code 8 = .ok (.iaload, 1) := by decide +kernel
theorem d22_9 : decode method_4_code 9 = .ok (.aload_n 0, 1) := by decide +kernel
theorem d22_10 : decode method_4_code 10 = .ok (.iload_n 1, 1) := by decide +kernel
theorem d22_11 : decode method_4_code 11 = .ok (.iaload, 1) := by decide +kernel
theorem d22_12 : decode method_4_code 12 = .ok (.if_icmp .ne 5, 3) := by decide +kernel
theorem d22_15 : decode method_4_code 15 = .ok (.iconst 0, 1) := by decide +kernel
theorem d22_16 : decode method_4_code 16 = .ok (.istore_n 2, 1) := by decide +kernel
theorem d22_17 : decode method_4_code 17 = .ok (.iload_n 1, 1) := by decide +kernel
theorem d22_18 : decode method_4_code 18 = .ok (.iconst 1, 1) := by decide +kernel
theorem d22_19 : decode method_4_code 19 = .ok (.if_icmp .le 14, 3) := by decide +kernel
theorem d22_22 : decode method_4_code 22 = .ok (.aload_n 0, 1) := by decide +kernel
theorem d22_23 : decode method_4_code 23 = .ok (.iconst 1, 1) := by decide +kernel
theorem d22_24 : decode method_4_code 24 = .ok (.iaload, 1) := by decide +kernel
theorem d22_25 : decode method_4_code 25 = .ok (.aload_n 0, 1) := by decide +kernel
theorem d22_26 : decode method_4_code 26 = .ok (.iload_n 1, 1) := by decide +kernel
theorem d22_27 : decode method_4_code 27 = .ok (.iaload, 1) := by decide +kernel
theorem d22_28 : decode method_4_code 28 = .ok (.if_icmp .ne 5, 3) := by decide +kernel
theorem d22_31 : decode method_4_code 31 = .ok (.iconst 1, 1) := by decide +kernel
theorem d22_32 : decode method_4_code 32 = .ok (.istore_n 2, 1) := by decide +kernel
theorem d22_33 : decode method_4_code 33 = .ok (.iload_n 1, 1) := by decide +kernel
theorem d22_34 : decode method_4_code 34 = .ok (.iconst 2, 1) := by decide +kernel
theorem d22_35 : decode method_4_code 35 = .ok (.if_icmp .le 14, 3) := by decide +kernel
theorem d22_38 : decode method_4_code 38 = .ok (.aload_n 0, 1) := by decide +kernel
theorem d22_39 : decode method_4_code 39 = .ok (.iconst 2, 1) := by decide +kernel
theorem d22_40 : decode method_4_code 40 = .ok (.iaload, 1) := by decide +kernel
theorem d22_41 : decode method_4_code 41 = .ok (.aload_n 0, 1) := by decide +kernel
theorem d22_42 : decode method_4_code 42 = .ok (.iload_n 1, 1) := by decide +kernel
theorem d22_43 : decode method_4_code 43 = .ok (.iaload, 1) := by decide +kernel
theorem d22_44 : decode method_4_code 44 = .ok (.if_icmp .ne 5, 3) := by decide +kernel
theorem d22_47 : decode method_4_code 47 = .ok (.iconst 2, 1) := by decide +kernel
theorem d22_48 : decode method_4_code 48 = .ok (.istore_n 2, 1) := by decide +kernel
theorem d22_49 : decode method_4_code 49 = .ok (.iload_n 1, 1) := by decide +kernel
theorem d22_50 : decode method_4_code 50 = .ok (.iconst 3, 1) := by decide +kernel
theorem d22_51 : decode method_4_code 51 = .ok (.if_icmp .le 14, 3) := by decide +kernel
theorem d22_54 : decode method_4_code 54 = .ok (.aload_n 0, 1) := by decide +kernel
theorem d22_55 : decode method_4_code 55 = .ok (.iconst 3, 1) := by decide +kernel
theorem d22_56 : decode method_4_code 56 = .ok (.iaload, 1) := by decide +kernel
theorem d22_57 : decode method_4_code 57 = .ok (.aload_n 0, 1) := by decide +kernel
theorem d22_58 : decode method_4_code 58 = .ok (.iload_n 1, 1) := by decide +kernel
theorem d22_59 : decode method_4_code 59 = .ok (.iaload, 1) := by decide +kernel
theorem d22_60 : decode method_4_code 60 = .ok (.if_icmp .ne 5, 3) := by decide +kernel
theorem d22_63 : decode method_4_code 63 = .ok (.iconst 3, 1) := by decide +kernel
theorem d22_64 : decode method_4_code 64 = .ok (.istore_n 2, 1) := by decide +kernel
theorem d22_65 : decode method_4_code 65 = .ok (.iload_n 2, 1) := by decide +kernel
theorem d22_66 : decode method_4_code 66 = .ok (.ireturn, 1) := by decide +kernel
set_option maxRecDepth 65536 in
set_option maxHeartbeats 40000000 in
theorem ex_4 (l : Launch) (Z : State) (a0 : Array Value) (hw : ∀ d ∈ tables_1, d.before a0 Z = true) (n0 : Nat) (h0 : Heap) (K : Cx) (ok : Ok K Z n0 "com/example/hornconv/hornconv/FactTableNextPinLaw" method_4_code 3 (some .int) "expect") (a : Addr) (c : Nat → Int32) (r : Nat) (hr : r < 5) (A_a : PA .int Z h0 a (sv 5 c)) (e : Int32) (he : e = prv c (c r) (min r 4)) :
    W K l ({ frames := 0, cells := 0, slots := 0, locals := 0 } : Room) n0 (fun u h => u = some (.int (prv c (c r) r)) ∧ h0 = h) h0 0 0 65 #[.val (.ref a), .val (.int (Int32.ofNat r)), .val (.int e)] [] := by
  show W K l _ n0 _ h0 0 0 65 #[.val (.ref a), .val (.int (Int32.ofNat r)), .val (.int e)] []
  refine w_iloadN ok d22_65 rfl ?_
  refine w_iret ok d22_66 (by decide) (by decide) ?_
  exact ⟨by rw [he, Nat.min_eq_left (show r ≤ 4 by omega)], rfl⟩
set_option maxRecDepth 65536 in
set_option maxHeartbeats 40000000 in
theorem ex_3 (l : Launch) (Z : State) (a0 : Array Value) (hw : ∀ d ∈ tables_1, d.before a0 Z = true) (n0 : Nat) (h0 : Heap) (K : Cx) (ok : Ok K Z n0 "com/example/hornconv/hornconv/FactTableNextPinLaw" method_4_code 3 (some .int) "expect") (a : Addr) (c : Nat → Int32) (r : Nat) (hr : r < 5) (A_a : PA .int Z h0 a (sv 5 c)) (e : Int32) (he : e = prv c (c r) (min r 3)) :
    W K l ({ frames := 0, cells := 0, slots := 0, locals := 0 } : Room) n0 (fun u h => u = some (.int (prv c (c r) r)) ∧ h0 = h) h0 0 0 49 #[.val (.ref a), .val (.int (Int32.ofNat r)), .val (.int e)] [] := by
  show W K l _ n0 _ h0 0 0 49 #[.val (.ref a), .val (.int (Int32.ofNat r)), .val (.int e)] []
  refine w_iloadN ok d22_49 rfl ?_
  refine w_iconst ok d22_50 (v := (3 : Int32)) rfl ?_
  refine w_icmp_le ok d22_51 (pc' := 65) (by decide) (fun hc1 => ?_) (fun hc1 => ?_)
  · skip
    exact ex_4 l Z a0 hw n0 h0 K ok a c r hr A_a _ (ex_le (k := 3) hr (by decide) hc1 he)
  · skip
    refine w_aloadN ok d22_54 rfl rfl ?_
    refine w_iconst ok d22_55 (v := (3 : Int32)) rfl ?_
    refine w_iaload ok (v := (.int (c 3))) d22_56 A_a (by decide) (svg (j := 3) (by omega) (by omega)) ?_
    refine w_aloadN ok d22_57 rfl rfl ?_
    refine w_iloadN ok d22_58 rfl ?_
    refine w_iaload ok (v := (.int (c r))) d22_59 A_a (own_ix0 (by omega)) (svg (j := r) (by omega) (by omega)) ?_
    refine w_icmp_ne ok d22_60 (pc' := 65) (by decide) (fun hc3 => ?_) (fun hc3 => ?_)
    · skip
      exact ex_4 l Z a0 hw n0 h0 K ok a c r hr A_a _ (ex_miss (k := 3) hr (by decide) hc1 hc3 he)
    · skip
      refine w_iconst ok d22_63 (v := (3 : Int32)) rfl ?_
      refine w_istoreN ok d22_64 (L' := #[.val (.ref a), .val (.int (Int32.ofNat r)), .val (.int (3 : Int32))]) rfl ?_
      show W K l _ n0 _ h0 0 0 65 #[.val (.ref a), .val (.int (Int32.ofNat r)), .val (.int (3 : Int32))] []
      exact ex_4 l Z a0 hw n0 h0 K ok a c r hr A_a _ (ex_hit (k := 3) hr (by decide) hc1 hc3)
set_option maxRecDepth 65536 in
set_option maxHeartbeats 40000000 in
theorem ex_2 (l : Launch) (Z : State) (a0 : Array Value) (hw : ∀ d ∈ tables_1, d.before a0 Z = true) (n0 : Nat) (h0 : Heap) (K : Cx) (ok : Ok K Z n0 "com/example/hornconv/hornconv/FactTableNextPinLaw" method_4_code 3 (some .int) "expect") (a : Addr) (c : Nat → Int32) (r : Nat) (hr : r < 5) (A_a : PA .int Z h0 a (sv 5 c)) (e : Int32) (he : e = prv c (c r) (min r 2)) :
    W K l ({ frames := 0, cells := 0, slots := 0, locals := 0 } : Room) n0 (fun u h => u = some (.int (prv c (c r) r)) ∧ h0 = h) h0 0 0 33 #[.val (.ref a), .val (.int (Int32.ofNat r)), .val (.int e)] [] := by
  show W K l _ n0 _ h0 0 0 33 #[.val (.ref a), .val (.int (Int32.ofNat r)), .val (.int e)] []
  refine w_iloadN ok d22_33 rfl ?_
  refine w_iconst ok d22_34 (v := (2 : Int32)) rfl ?_
  refine w_icmp_le ok d22_35 (pc' := 49) (by decide) (fun hc1 => ?_) (fun hc1 => ?_)
  · skip
    exact ex_3 l Z a0 hw n0 h0 K ok a c r hr A_a _ (ex_le (k := 2) hr (by decide) hc1 he)
  · skip
    refine w_aloadN ok d22_38 rfl rfl ?_
    refine w_iconst ok d22_39 (v := (2 : Int32)) rfl ?_
    refine w_iaload ok (v := (.int (c 2))) d22_40 A_a (by decide) (svg (j := 2) (by omega) (by omega)) ?_
    refine w_aloadN ok d22_41 rfl rfl ?_
    refine w_iloadN ok d22_42 rfl ?_
    refine w_iaload ok (v := (.int (c r))) d22_43 A_a (own_ix0 (by omega)) (svg (j := r) (by omega) (by omega)) ?_
    refine w_icmp_ne ok d22_44 (pc' := 49) (by decide) (fun hc3 => ?_) (fun hc3 => ?_)
    · skip
      exact ex_3 l Z a0 hw n0 h0 K ok a c r hr A_a _ (ex_miss (k := 2) hr (by decide) hc1 hc3 he)
    · skip
      refine w_iconst ok d22_47 (v := (2 : Int32)) rfl ?_
      refine w_istoreN ok d22_48 (L' := #[.val (.ref a), .val (.int (Int32.ofNat r)), .val (.int (2 : Int32))]) rfl ?_
      show W K l _ n0 _ h0 0 0 49 #[.val (.ref a), .val (.int (Int32.ofNat r)), .val (.int (2 : Int32))] []
      exact ex_3 l Z a0 hw n0 h0 K ok a c r hr A_a _ (ex_hit (k := 2) hr (by decide) hc1 hc3)
set_option maxRecDepth 65536 in
set_option maxHeartbeats 40000000 in
theorem ex_1 (l : Launch) (Z : State) (a0 : Array Value) (hw : ∀ d ∈ tables_1, d.before a0 Z = true) (n0 : Nat) (h0 : Heap) (K : Cx) (ok : Ok K Z n0 "com/example/hornconv/hornconv/FactTableNextPinLaw" method_4_code 3 (some .int) "expect") (a : Addr) (c : Nat → Int32) (r : Nat) (hr : r < 5) (A_a : PA .int Z h0 a (sv 5 c)) (e : Int32) (he : e = prv c (c r) (min r 1)) :
    W K l ({ frames := 0, cells := 0, slots := 0, locals := 0 } : Room) n0 (fun u h => u = some (.int (prv c (c r) r)) ∧ h0 = h) h0 0 0 17 #[.val (.ref a), .val (.int (Int32.ofNat r)), .val (.int e)] [] := by
  show W K l _ n0 _ h0 0 0 17 #[.val (.ref a), .val (.int (Int32.ofNat r)), .val (.int e)] []
  refine w_iloadN ok d22_17 rfl ?_
  refine w_iconst ok d22_18 (v := (1 : Int32)) rfl ?_
  refine w_icmp_le ok d22_19 (pc' := 33) (by decide) (fun hc1 => ?_) (fun hc1 => ?_)
  · skip
    exact ex_2 l Z a0 hw n0 h0 K ok a c r hr A_a _ (ex_le (k := 1) hr (by decide) hc1 he)
  · skip
    refine w_aloadN ok d22_22 rfl rfl ?_
    refine w_iconst ok d22_23 (v := (1 : Int32)) rfl ?_
    refine w_iaload ok (v := (.int (c 1))) d22_24 A_a (by decide) (svg (j := 1) (by omega) (by omega)) ?_
    refine w_aloadN ok d22_25 rfl rfl ?_
    refine w_iloadN ok d22_26 rfl ?_
    refine w_iaload ok (v := (.int (c r))) d22_27 A_a (own_ix0 (by omega)) (svg (j := r) (by omega) (by omega)) ?_
    refine w_icmp_ne ok d22_28 (pc' := 33) (by decide) (fun hc3 => ?_) (fun hc3 => ?_)
    · skip
      exact ex_2 l Z a0 hw n0 h0 K ok a c r hr A_a _ (ex_miss (k := 1) hr (by decide) hc1 hc3 he)
    · skip
      refine w_iconst ok d22_31 (v := (1 : Int32)) rfl ?_
      refine w_istoreN ok d22_32 (L' := #[.val (.ref a), .val (.int (Int32.ofNat r)), .val (.int (1 : Int32))]) rfl ?_
      show W K l _ n0 _ h0 0 0 33 #[.val (.ref a), .val (.int (Int32.ofNat r)), .val (.int (1 : Int32))] []
      exact ex_2 l Z a0 hw n0 h0 K ok a c r hr A_a _ (ex_hit (k := 1) hr (by decide) hc1 hc3)
set_option maxRecDepth 65536 in
set_option maxHeartbeats 40000000 in
theorem ex_0 (l : Launch) (Z : State) (a0 : Array Value) (hw : ∀ d ∈ tables_1, d.before a0 Z = true) (n0 : Nat) (h0 : Heap) (K : Cx) (ok : Ok K Z n0 "com/example/hornconv/hornconv/FactTableNextPinLaw" method_4_code 3 (some .int) "expect") (a : Addr) (c : Nat → Int32) (r : Nat) (hr : r < 5) (A_a : PA .int Z h0 a (sv 5 c)) (e : Int32) (he : e = prv c (c r) (min r 0)) :
    W K l ({ frames := 0, cells := 0, slots := 0, locals := 0 } : Room) n0 (fun u h => u = some (.int (prv c (c r) r)) ∧ h0 = h) h0 0 0 2 #[.val (.ref a), .val (.int (Int32.ofNat r)), .val (.int e)] [] := by
  show W K l _ n0 _ h0 0 0 2 #[.val (.ref a), .val (.int (Int32.ofNat r)), .val (.int e)] []
  refine w_iloadN ok d22_2 rfl ?_
  refine w_if_le ok d22_3 (pc' := 17) (by decide) (fun hc1 => ?_) (fun hc1 => ?_)
  · skip
    exact ex_1 l Z a0 hw n0 h0 K ok a c r hr A_a _ (ex_le (k := 0) hr (by decide) hc1 he)
  · skip
    refine w_aloadN ok d22_6 rfl rfl ?_
    refine w_iconst ok d22_7 (v := (0 : Int32)) rfl ?_
    refine w_iaload ok (v := (.int (c 0))) d22_8 A_a (by decide) (svg (j := 0) (by omega) (by omega)) ?_
    refine w_aloadN ok d22_9 rfl rfl ?_
    refine w_iloadN ok d22_10 rfl ?_
    refine w_iaload ok (v := (.int (c r))) d22_11 A_a (own_ix0 (by omega)) (svg (j := r) (by omega) (by omega)) ?_
    refine w_icmp_ne ok d22_12 (pc' := 17) (by decide) (fun hc3 => ?_) (fun hc3 => ?_)
    · skip
      exact ex_1 l Z a0 hw n0 h0 K ok a c r hr A_a _ (ex_miss (k := 0) hr (by decide) hc1 hc3 he)
    · skip
      refine w_iconst ok d22_15 (v := (0 : Int32)) rfl ?_
      refine w_istoreN ok d22_16 (L' := #[.val (.ref a), .val (.int (Int32.ofNat r)), .val (.int (0 : Int32))]) rfl ?_
      show W K l _ n0 _ h0 0 0 17 #[.val (.ref a), .val (.int (Int32.ofNat r)), .val (.int (0 : Int32))] []
      exact ex_1 l Z a0 hw n0 h0 K ok a c r hr A_a _ (ex_hit (k := 0) hr (by decide) hc1 hc3)
abbrev mn_22 : MethodName := ⟨"com/example/hornconv/hornconv/FactTableNextPinLaw", "expect", "([II)I"⟩
set_option maxRecDepth 65536 in
set_option maxHeartbeats 40000000 in
theorem rm_expect (l : Launch) (Z : State) (a0 : Array Value) (hw : ∀ d ∈ tables_1, d.before a0 Z = true) (ws : List Jvm.Cond) (n0 : Nat) (h0 : Heap) (Z0 : Old Z n0 h0) (a : Addr) (c : Nat → Int32) (r : Nat) (hr : r < 5) (A_a : PA .int Z h0 a (sv 5 c))  :
    Met l Z n0 mn_22 method_4_code 3 (some .int) ws ({ frames := 0, cells := 0, slots := 0, locals := 0 } : Room) #[(.ref a), (.int (Int32.ofNat r))] h0 (fun u h => u = some (.int (prv c (c r) r)) ∧ h0 = h) := by
  refine met_of Z0 (plainFor_of_name pn_com_example_hornconv_hornconv_FactTableNextPinLaw) (Ls := #[.val (.ref a), .val (.int (Int32.ofNat r)), .unset]) (fun m => by first | (simp [entryFrame, mkF, argsToLocals, Value.category]; done) | rfl) ?_
  intro K ok
  show W K l _ n0 _ h0 0 0 0 #[.val (.ref a), .val (.int (Int32.ofNat r)), .unset] []
  refine w_iconst ok d22_0 (v := (-1 : Int32)) rfl ?_
  refine w_istoreN ok d22_1 (L' := #[.val (.ref a), .val (.int (Int32.ofNat r)), .val (.int (-1 : Int32))]) rfl ?_
  show W K l _ n0 _ h0 0 0 2 #[.val (.ref a), .val (.int (Int32.ofNat r)), .val (.int (-1 : Int32))] []
  exact ex_0 l Z a0 hw n0 h0 K ok a c r hr A_a _ (by rw [Nat.min_eq_right (Nat.zero_le r)]; rfl)
def own_min (a b : Int32) : Int32 := if b < a then b else a
theorem own_min_lt {a b : Int32} (h : a.toNatClampNeg < b.toNatClampNeg) (h0 : ¬ a < 0) (h1 : ¬ b < 0) : own_min a b = a := by
  rw [own_min, if_neg]
  have e1 := nat_of h0; have e2 := nat_of h1
  rw [Int32.lt_iff_toInt_lt]; omega
theorem d10_0 : decode jdk_29_method_69_code 0 = .ok (.iload_n 0, 1) := by decide +kernel
theorem d10_1 : decode jdk_29_method_69_code 1 = .ok (.iload_n 1, 1) := by decide +kernel
theorem d10_2 : decode jdk_29_method_69_code 2 = .ok (.if_icmp .gt 7, 3) := by decide +kernel
theorem d10_5 : decode jdk_29_method_69_code 5 = .ok (.iload_n 0, 1) := by decide +kernel
theorem d10_6 : decode jdk_29_method_69_code 6 = .ok (.goto 4, 3) := by decide +kernel
theorem d10_9 : decode jdk_29_method_69_code 9 = .ok (.iload_n 1, 1) := by decide +kernel
theorem d10_10 : decode jdk_29_method_69_code 10 = .ok (.ireturn, 1) := by decide +kernel
abbrev mn_10 : MethodName := ⟨"java/lang/Math", "min", "(II)I"⟩
set_option maxRecDepth 65536 in
set_option maxHeartbeats 40000000 in
theorem rm_min (l : Launch) (Z : State) (a0 : Array Value) (hw : ∀ d ∈ tables_1, d.before a0 Z = true) (ws : List Jvm.Cond) (n0 : Nat) (h0 : Heap) (Z0 : Old Z n0 h0) (a b : Int32)  :
    Met l Z n0 mn_10 jdk_29_method_69_code 2 (some .int) ws ({ frames := 0, cells := 0, slots := 0, locals := 0 } : Room) #[(.int a), (.int b)] h0 (fun u h => u = some (.int (own_min a b)) ∧ h0 = h) := by
  refine met_of Z0 (Jvm.Free.JP.mathPlain rfl (by decide +kernel)) (Ls := #[.val (.int a), .val (.int b)]) (fun m => by first | (simp [entryFrame, mkF, argsToLocals, Value.category]; done) | rfl) ?_
  intro K ok
  show W K l _ n0 _ h0 0 0 0 #[.val (.int a), .val (.int b)] []
  refine w_iloadN ok d10_0 rfl ?_
  refine w_iloadN ok d10_1 rfl ?_
  refine w_icmp_gt ok d10_2 (pc' := 9) (by decide) (fun hc1 => ?_) (fun hc1 => ?_)
  · skip
    refine w_iloadN ok d10_9 rfl ?_
    refine w_iret ok d10_10 (by decide) (by decide) ?_
    exact ⟨by simp [own_min, *], rfl⟩
  · skip
    refine w_iloadN ok d10_5 rfl ?_
    refine w_goto ok d10_6 (pc' := 10) (by decide) ?_
    refine w_iret ok d10_10 (by decide) (by decide) ?_
    exact ⟨by simp [own_min, *], rfl⟩
theorem d25_0 : decode jdk_29_method_65_code 0 = .ok (.iload_n 0, 1) := by decide +kernel
theorem d25_1 : decode jdk_29_method_65_code 1 = .ok (.iload_n 1, 1) := by decide +kernel
theorem d25_2 : decode jdk_29_method_65_code 2 = .ok (.if_icmp .lt 7, 3) := by decide +kernel
theorem d25_5 : decode jdk_29_method_65_code 5 = .ok (.iload_n 0, 1) := by decide +kernel
theorem d25_6 : decode jdk_29_method_65_code 6 = .ok (.goto 4, 3) := by decide +kernel
theorem d25_9 : decode jdk_29_method_65_code 9 = .ok (.iload_n 1, 1) := by decide +kernel
theorem d25_10 : decode jdk_29_method_65_code 10 = .ok (.ireturn, 1) := by decide +kernel
abbrev mn_25 : MethodName := ⟨"java/lang/Math", "max", "(II)I"⟩
set_option maxRecDepth 65536 in
set_option maxHeartbeats 40000000 in
theorem rm_max (l : Launch) (Z : State) (a0 : Array Value) (hw : ∀ d ∈ tables_1, d.before a0 Z = true) (ws : List Jvm.Cond) (n0 : Nat) (h0 : Heap) (Z0 : Old Z n0 h0) (a b : Int32)  :
    Met l Z n0 mn_25 jdk_29_method_65_code 2 (some .int) ws ({ frames := 0, cells := 0, slots := 0, locals := 0 } : Room) #[(.int a), (.int b)] h0 (fun u h => u = some (.int (own_max a b)) ∧ h0 = h) := by
  refine met_of Z0 (Jvm.Free.JP.mathPlain rfl (by decide +kernel)) (Ls := #[.val (.int a), .val (.int b)]) (fun m => by first | (simp [entryFrame, mkF, argsToLocals, Value.category]; done) | rfl) ?_
  intro K ok
  show W K l _ n0 _ h0 0 0 0 #[.val (.int a), .val (.int b)] []
  refine w_iloadN ok d25_0 rfl ?_
  refine w_iloadN ok d25_1 rfl ?_
  refine w_icmp_lt ok d25_2 (pc' := 9) (by decide) (fun hc1 => ?_) (fun hc1 => ?_)
  · skip
    refine w_iloadN ok d25_9 rfl ?_
    refine w_iret ok d25_10 (by decide) (by decide) ?_
    exact ⟨by simp [own_max, *], rfl⟩
  · skip
    refine w_iloadN ok d25_5 rfl ?_
    refine w_goto ok d25_6 (pc' := 10) (by decide) ?_
    refine w_iret ok d25_10 (by decide) (by decide) ?_
    exact ⟨by simp [own_max, *], rfl⟩
theorem d11_0 : decode jdk_65_method_123_code 0 = .ok (.iload_n 1, 1) := by decide +kernel
theorem d11_1 : decode jdk_65_method_123_code 1 = .ok (.aload_n 0, 1) := by decide +kernel
theorem d11_2 : decode jdk_65_method_123_code 2 = .ok (.arraylength, 1) := by decide +kernel
theorem d11_3 : decode jdk_65_method_123_code 3 = .ok (.if_icmp .ne 11, 3) := by decide +kernel
theorem d11_6 : decode jdk_65_method_123_code 6 = .ok (.aload_n 0, 1) := by decide +kernel
theorem d11_7 : decode jdk_65_method_123_code 7 = .ok (.invokevirtual 316, 3) := by decide +kernel
theorem d11_10 : decode jdk_65_method_123_code 10 = .ok (.checkcast 317, 3) := by decide +kernel
theorem d11_13 : decode jdk_65_method_123_code 13 = .ok (.areturn, 1) := by decide +kernel
theorem d11_14 : decode jdk_65_method_123_code 14 = .ok (.iload_n 1, 1) := by decide +kernel
theorem d11_15 : decode jdk_65_method_123_code 15 = .ok (.newarray .int, 2) := by decide +kernel
theorem d11_17 : decode jdk_65_method_123_code 17 = .ok (.astore_n 2, 1) := by decide +kernel
theorem d11_18 : decode jdk_65_method_123_code 18 = .ok (.aload_n 0, 1) := by decide +kernel
theorem d11_19 : decode jdk_65_method_123_code 19 = .ok (.iconst 0, 1) := by decide +kernel
theorem d11_20 : decode jdk_65_method_123_code 20 = .ok (.aload_n 2, 1) := by decide +kernel
theorem d11_21 : decode jdk_65_method_123_code 21 = .ok (.iconst 0, 1) := by decide +kernel
theorem d11_22 : decode jdk_65_method_123_code 22 = .ok (.aload_n 0, 1) := by decide +kernel
theorem d11_23 : decode jdk_65_method_123_code 23 = .ok (.arraylength, 1) := by decide +kernel
theorem d11_24 : decode jdk_65_method_123_code 24 = .ok (.iload_n 1, 1) := by decide +kernel
theorem d11_25 : decode jdk_65_method_123_code 25 = .ok (.invokestatic 304, 3) := by decide +kernel
theorem d11_28 : decode jdk_65_method_123_code 28 = .ok (.invokestatic 150, 3) := by decide +kernel
theorem d11_31 : decode jdk_65_method_123_code 31 = .ok (.aload_n 2, 1) := by decide +kernel
theorem d11_32 : decode jdk_65_method_123_code 32 = .ok (.areturn, 1) := by decide +kernel
abbrev mn_11 : MethodName := ⟨"java/util/Arrays", "copyOf", "([II)[I"⟩
theorem pd_28II29I : parseMethodDescriptor "(II)I" = some ⟨[.int, .int], some .int⟩ := by decide +kernel
set_option maxRecDepth 65536 in
set_option maxHeartbeats 40000000 in
theorem cp_int (l : Launch) (Z : State) (a0 : Array Value) (hw : ∀ d ∈ tables_1, d.before a0 Z = true) (ws : List Jvm.Cond) (n0 : Nat) (h0 : Heap) (Z0 : Old Z n0 h0) (g : Nat) (hg : g ≤ 1000) (a : Addr) (vs : List Value) (z : Int32) (A_a : PA .int Z h0 a vs) (hz : vs.length < z.toNatClampNeg) (hz0 : ¬ z < 0) (hcap : z.toNatClampNeg ≤ g)  :
    Met l Z n0 mn_11 jdk_65_method_123_code 3 (some (.array .int)) ws ({ frames := 1, cells := 1, slots := (g + 0), locals := 18 } : Room) #[(.ref a), (.int z)] h0 (fun u h => ∃ b, u = some (.ref b) ∧ h0.size ≤ b ∧ n0 ≤ b ∧ Keep h0 h [] ∧ PA .int Z h b (vs ++ List.replicate (z.toNatClampNeg - vs.length) (Value.int 0))) := by
  refine met_of Z0 (plainFor_of_name pn_java_util_Arrays) (Ls := #[.val (.ref a), .val (.int z), .unset]) (fun m => by first | (simp [entryFrame, mkF, argsToLocals, Value.category]; done) | rfl) ?_
  intro K ok
  have Kp : Keep h0 h0 [] := Keep.refl _ _
  obtain ⟨q, hq, hq0⟩ := pa_z A_a.len
  show W K l _ n0 _ h0 0 0 0 #[.val (.ref a), .val (.int z), .unset] []
  refine w_iloadN ok d11_0 rfl ?_
  refine w_aloadN ok d11_1 rfl rfl ?_
  refine w_arraylength ok (z := q) d11_2 A_a hq hq0 ?_
  show W K l _ n0 _ h0 0 0 3 #[.val (.ref a), .val (.int z), .unset] [(.int q), (.int z)]
  refine w_icmp_ne ok d11_3 (pc' := 14) (by first | decide | omega | (dsimp only; omega)) (fun hc1 => ?_) (fun hc1 => False.elim (by rw [hc1] at hz; omega))
  refine w_iloadN ok d11_14 rfl ?_
  refine w_newarray ok d11_15 (hw _ (List.mem_of_getElem? (i := 1) rfl)) hz0 (cap := (g + 0)) hcap (by first | decide | omega | (dsimp only; omega)) (by first | decide | omega | (dsimp only; omega)) (by first | decide | omega | (dsimp only; omega)) (fun h3 b2 ea_b2 ge_b2 E_b2 A_b2 => ?_)
  have sz_b2 : h0.size ≤ b2 := Nat.le_trans Kp.1 (Nat.le_of_eq ea_b2.symm)
  have ne_a_b2 : a ≠ b2 := fun q => Nat.lt_irrefl _ (Nat.lt_of_lt_of_eq A_a.lt (ea_b2.symm.trans q.symm))
  replace Kp := Kp.ext E_b2
  replace A_a := A_a.ext E_b2
  replace A_b2 : PA .int Z h3 b2 (List.replicate z.toNatClampNeg (.int (0 : Int32))) := A_b2
  refine w_astoreN ok d11_17 rfl (L' := #[.val (.ref a), .val (.int z), .val (.ref b2)]) rfl ?_
  refine w_aloadN ok d11_18 rfl rfl ?_
  refine w_iconst ok d11_19 (v := (0 : Int32)) rfl ?_
  refine w_aloadN ok d11_20 rfl rfl ?_
  refine w_iconst ok d11_21 (v := (0 : Int32)) rfl ?_
  refine w_aloadN ok d11_22 rfl rfl ?_
  refine w_arraylength ok (z := q) d11_23 A_a hq hq0 ?_
  show W K l _ n0 _ h3 _ _ 24 #[.val (.ref a), .val (.int z), .val (.ref b2)] [(.int q), (.int (0 : Int32)), (.ref b2), (.int (0 : Int32)), (.ref a)]
  refine w_iloadN ok d11_24 rfl ?_
  refine w_callS ok (y := mn_10) (argsL := [(.int q), (.int z)]) (rest := [(.int (0 : Int32)), (.ref b2), (.int (0 : Int32)), (.ref a)]) d11_25 (hw _ (List.mem_of_getElem? (i := 68) rfl)) (hw _ (List.mem_of_getElem? (i := 69) rfl)) (hw _ (List.mem_of_getElem? (i := 70) rfl)) (hw _ (List.mem_of_getElem? (i := 71) rfl)) (by first | decide | omega | (dsimp only; omega)) pd_28II29I rfl rfl (by first | decide | omega | (dsimp only; omega)) (Nat.le_of_ble_eq_true rfl) (by first | decide | omega | (dsimp only; omega)) (by first | decide | omega | (dsimp only; omega)) (fun z0 => rm_min l Z a0 hw [] n0 h3 z0 q z) (fun v4 h5 qv4 => ?_)
  obtain ⟨rfl, rfl⟩ := qv4
  rw [own_min_lt (a := q) (b := z) (by omega) hq0 hz0]
  show W K l _ n0 _ h3 _ _ 28 #[.val (.ref a), .val (.int z), .val (.ref b2)] [(.int q), (.int (0 : Int32)), (.ref b2), (.int (0 : Int32)), (.ref a)]
  refine w_arraycopy ok (sp' := 0) (dp' := 0) (nn' := vs.length) d11_28 (hw _ (List.mem_of_getElem? (i := 72) rfl)) (hw _ (List.mem_of_getElem? (i := 56) rfl)) (hw _ (List.mem_of_getElem? (i := 54) rfl)) (hw _ (List.mem_of_getElem? (i := 55) rfl)) A_a A_b2 rfl ge_b2 (by first | decide | omega | (dsimp only; omega)) (by first | decide | omega | (dsimp only; omega)) hq0 rfl rfl hq.symm (by omega) (by simp; omega) rfl (by first | decide | omega | (dsimp only; omega)) (Nat.le_of_ble_eq_true rfl) (fun h6 K_h6 A1_h6 => ?_)
  replace Kp := Kp.trans K_h6 (allS (Or.inr sz_b2) all0)
  replace A_a := A_a.keep K_h6 (ninS ne_a_b2 nin0)
  replace A_b2 : PA .int Z h6 b2 (vs ++ List.replicate (z.toNatClampNeg - vs.length) (Value.int 0)) := (by simpa using A1_h6)
  show W K l _ n0 _ h6 _ _ 31 #[.val (.ref a), .val (.int z), .val (.ref b2)] []
  refine w_aloadN ok d11_31 rfl rfl ?_
  refine w_aret ok rfl rfl d11_32 (by first | decide | omega | (dsimp only; omega)) (by first | decide | omega | (dsimp only; omega)) ?_
  exact ⟨b2, rfl, sz_b2, ge_b2, Kp, A_b2⟩
theorem d9_0 : decode jdk_65_method_128_code 0 = .ok (.iload_n 1, 1) := by decide +kernel
theorem d9_1 : decode jdk_65_method_128_code 1 = .ok (.aload_n 0, 1) := by decide +kernel
theorem d9_2 : decode jdk_65_method_128_code 2 = .ok (.arraylength, 1) := by decide +kernel
theorem d9_3 : decode jdk_65_method_128_code 3 = .ok (.if_icmp .ne 11, 3) := by decide +kernel
theorem d9_6 : decode jdk_65_method_128_code 6 = .ok (.aload_n 0, 1) := by decide +kernel
theorem d9_7 : decode jdk_65_method_128_code 7 = .ok (.invokevirtual 331, 3) := by decide +kernel
theorem d9_10 : decode jdk_65_method_128_code 10 = .ok (.checkcast 332, 3) := by decide +kernel
theorem d9_13 : decode jdk_65_method_128_code 13 = .ok (.areturn, 1) := by decide +kernel
theorem d9_14 : decode jdk_65_method_128_code 14 = .ok (.iload_n 1, 1) := by decide +kernel
theorem d9_15 : decode jdk_65_method_128_code 15 = .ok (.newarray .boolean, 2) := by decide +kernel
theorem d9_17 : decode jdk_65_method_128_code 17 = .ok (.astore_n 2, 1) := by decide +kernel
theorem d9_18 : decode jdk_65_method_128_code 18 = .ok (.aload_n 0, 1) := by decide +kernel
theorem d9_19 : decode jdk_65_method_128_code 19 = .ok (.iconst 0, 1) := by decide +kernel
theorem d9_20 : decode jdk_65_method_128_code 20 = .ok (.aload_n 2, 1) := by decide +kernel
theorem d9_21 : decode jdk_65_method_128_code 21 = .ok (.iconst 0, 1) := by decide +kernel
theorem d9_22 : decode jdk_65_method_128_code 22 = .ok (.aload_n 0, 1) := by decide +kernel
theorem d9_23 : decode jdk_65_method_128_code 23 = .ok (.arraylength, 1) := by decide +kernel
theorem d9_24 : decode jdk_65_method_128_code 24 = .ok (.iload_n 1, 1) := by decide +kernel
theorem d9_25 : decode jdk_65_method_128_code 25 = .ok (.invokestatic 304, 3) := by decide +kernel
theorem d9_28 : decode jdk_65_method_128_code 28 = .ok (.invokestatic 150, 3) := by decide +kernel
theorem d9_31 : decode jdk_65_method_128_code 31 = .ok (.aload_n 2, 1) := by decide +kernel
theorem d9_32 : decode jdk_65_method_128_code 32 = .ok (.areturn, 1) := by decide +kernel
abbrev mn_9 : MethodName := ⟨"java/util/Arrays", "copyOf", "([ZI)[Z"⟩
set_option maxRecDepth 65536 in
set_option maxHeartbeats 40000000 in
theorem cp_boolean (l : Launch) (Z : State) (a0 : Array Value) (hw : ∀ d ∈ tables_1, d.before a0 Z = true) (ws : List Jvm.Cond) (n0 : Nat) (h0 : Heap) (Z0 : Old Z n0 h0) (g : Nat) (hg : g ≤ 1000) (a : Addr) (vs : List Value) (z : Int32) (A_a : PA .boolean Z h0 a vs) (hz : vs.length < z.toNatClampNeg) (hz0 : ¬ z < 0) (hcap : z.toNatClampNeg ≤ g)  :
    Met l Z n0 mn_9 jdk_65_method_128_code 3 (some (.array .boolean)) ws ({ frames := 1, cells := 1, slots := (g + 0), locals := 18 } : Room) #[(.ref a), (.int z)] h0 (fun u h => ∃ b, u = some (.ref b) ∧ h0.size ≤ b ∧ n0 ≤ b ∧ Keep h0 h [] ∧ PA .boolean Z h b (vs ++ List.replicate (z.toNatClampNeg - vs.length) (Value.int 0))) := by
  refine met_of Z0 (plainFor_of_name pn_java_util_Arrays) (Ls := #[.val (.ref a), .val (.int z), .unset]) (fun m => by first | (simp [entryFrame, mkF, argsToLocals, Value.category]; done) | rfl) ?_
  intro K ok
  have Kp : Keep h0 h0 [] := Keep.refl _ _
  obtain ⟨q, hq, hq0⟩ := pa_z A_a.len
  show W K l _ n0 _ h0 0 0 0 #[.val (.ref a), .val (.int z), .unset] []
  refine w_iloadN ok d9_0 rfl ?_
  refine w_aloadN ok d9_1 rfl rfl ?_
  refine w_arraylength ok (z := q) d9_2 A_a hq hq0 ?_
  show W K l _ n0 _ h0 0 0 3 #[.val (.ref a), .val (.int z), .unset] [(.int q), (.int z)]
  refine w_icmp_ne ok d9_3 (pc' := 14) (by first | decide | omega | (dsimp only; omega)) (fun hc1 => ?_) (fun hc1 => False.elim (by rw [hc1] at hz; omega))
  refine w_iloadN ok d9_14 rfl ?_
  refine w_newarray ok d9_15 (hw _ (List.mem_of_getElem? (i := 24) rfl)) hz0 (cap := (g + 0)) hcap (by first | decide | omega | (dsimp only; omega)) (by first | decide | omega | (dsimp only; omega)) (by first | decide | omega | (dsimp only; omega)) (fun h3 b2 ea_b2 ge_b2 E_b2 A_b2 => ?_)
  have sz_b2 : h0.size ≤ b2 := Nat.le_trans Kp.1 (Nat.le_of_eq ea_b2.symm)
  have ne_a_b2 : a ≠ b2 := fun q => Nat.lt_irrefl _ (Nat.lt_of_lt_of_eq A_a.lt (ea_b2.symm.trans q.symm))
  replace Kp := Kp.ext E_b2
  replace A_a := A_a.ext E_b2
  replace A_b2 : PA .boolean Z h3 b2 (List.replicate z.toNatClampNeg (.int (0 : Int32))) := A_b2
  refine w_astoreN ok d9_17 rfl (L' := #[.val (.ref a), .val (.int z), .val (.ref b2)]) rfl ?_
  refine w_aloadN ok d9_18 rfl rfl ?_
  refine w_iconst ok d9_19 (v := (0 : Int32)) rfl ?_
  refine w_aloadN ok d9_20 rfl rfl ?_
  refine w_iconst ok d9_21 (v := (0 : Int32)) rfl ?_
  refine w_aloadN ok d9_22 rfl rfl ?_
  refine w_arraylength ok (z := q) d9_23 A_a hq hq0 ?_
  show W K l _ n0 _ h3 _ _ 24 #[.val (.ref a), .val (.int z), .val (.ref b2)] [(.int q), (.int (0 : Int32)), (.ref b2), (.int (0 : Int32)), (.ref a)]
  refine w_iloadN ok d9_24 rfl ?_
  refine w_callS ok (y := mn_10) (argsL := [(.int q), (.int z)]) (rest := [(.int (0 : Int32)), (.ref b2), (.int (0 : Int32)), (.ref a)]) d9_25 (hw _ (List.mem_of_getElem? (i := 68) rfl)) (hw _ (List.mem_of_getElem? (i := 69) rfl)) (hw _ (List.mem_of_getElem? (i := 70) rfl)) (hw _ (List.mem_of_getElem? (i := 71) rfl)) (by first | decide | omega | (dsimp only; omega)) pd_28II29I rfl rfl (by first | decide | omega | (dsimp only; omega)) (Nat.le_of_ble_eq_true rfl) (by first | decide | omega | (dsimp only; omega)) (by first | decide | omega | (dsimp only; omega)) (fun z0 => rm_min l Z a0 hw [] n0 h3 z0 q z) (fun v4 h5 qv4 => ?_)
  obtain ⟨rfl, rfl⟩ := qv4
  rw [own_min_lt (a := q) (b := z) (by omega) hq0 hz0]
  show W K l _ n0 _ h3 _ _ 28 #[.val (.ref a), .val (.int z), .val (.ref b2)] [(.int q), (.int (0 : Int32)), (.ref b2), (.int (0 : Int32)), (.ref a)]
  refine w_arraycopy ok (sp' := 0) (dp' := 0) (nn' := vs.length) d9_28 (hw _ (List.mem_of_getElem? (i := 72) rfl)) (hw _ (List.mem_of_getElem? (i := 56) rfl)) (hw _ (List.mem_of_getElem? (i := 54) rfl)) (hw _ (List.mem_of_getElem? (i := 55) rfl)) A_a A_b2 rfl ge_b2 (by first | decide | omega | (dsimp only; omega)) (by first | decide | omega | (dsimp only; omega)) hq0 rfl rfl hq.symm (by omega) (by simp; omega) rfl (by first | decide | omega | (dsimp only; omega)) (Nat.le_of_ble_eq_true rfl) (fun h6 K_h6 A1_h6 => ?_)
  replace Kp := Kp.trans K_h6 (allS (Or.inr sz_b2) all0)
  replace A_a := A_a.keep K_h6 (ninS ne_a_b2 nin0)
  replace A_b2 : PA .boolean Z h6 b2 (vs ++ List.replicate (z.toNatClampNeg - vs.length) (Value.int 0)) := (by simpa using A1_h6)
  show W K l _ n0 _ h6 _ _ 31 #[.val (.ref a), .val (.int z), .val (.ref b2)] []
  refine w_aloadN ok d9_31 rfl rfl ?_
  refine w_aret ok rfl rfl d9_32 (by first | decide | omega | (dsimp only; omega)) (by first | decide | omega | (dsimp only; omega)) ?_
  exact ⟨b2, rfl, sz_b2, ge_b2, Kp, A_b2⟩
theorem d26_0 : decode jdk_65_method_124_code 0 = .ok (.iload_n 1, 1) := by decide +kernel
theorem d26_1 : decode jdk_65_method_124_code 1 = .ok (.aload_n 0, 1) := by decide +kernel
theorem d26_2 : decode jdk_65_method_124_code 2 = .ok (.arraylength, 1) := by decide +kernel
theorem d26_3 : decode jdk_65_method_124_code 3 = .ok (.if_icmp .ne 11, 3) := by decide +kernel
theorem d26_6 : decode jdk_65_method_124_code 6 = .ok (.aload_n 0, 1) := by decide +kernel
theorem d26_7 : decode jdk_65_method_124_code 7 = .ok (.invokevirtual 319, 3) := by decide +kernel
theorem d26_10 : decode jdk_65_method_124_code 10 = .ok (.checkcast 320, 3) := by decide +kernel
theorem d26_13 : decode jdk_65_method_124_code 13 = .ok (.areturn, 1) := by decide +kernel
theorem d26_14 : decode jdk_65_method_124_code 14 = .ok (.iload_n 1, 1) := by decide +kernel
theorem d26_15 : decode jdk_65_method_124_code 15 = .ok (.newarray .long, 2) := by decide +kernel
theorem d26_17 : decode jdk_65_method_124_code 17 = .ok (.astore_n 2, 1) := by decide +kernel
theorem d26_18 : decode jdk_65_method_124_code 18 = .ok (.aload_n 0, 1) := by decide +kernel
theorem d26_19 : decode jdk_65_method_124_code 19 = .ok (.iconst 0, 1) := by decide +kernel
theorem d26_20 : decode jdk_65_method_124_code 20 = .ok (.aload_n 2, 1) := by decide +kernel
theorem d26_21 : decode jdk_65_method_124_code 21 = .ok (.iconst 0, 1) := by decide +kernel
theorem d26_22 : decode jdk_65_method_124_code 22 = .ok (.aload_n 0, 1) := by decide +kernel
theorem d26_23 : decode jdk_65_method_124_code 23 = .ok (.arraylength, 1) := by decide +kernel
theorem d26_24 : decode jdk_65_method_124_code 24 = .ok (.iload_n 1, 1) := by decide +kernel
theorem d26_25 : decode jdk_65_method_124_code 25 = .ok (.invokestatic 304, 3) := by decide +kernel
theorem d26_28 : decode jdk_65_method_124_code 28 = .ok (.invokestatic 150, 3) := by decide +kernel
theorem d26_31 : decode jdk_65_method_124_code 31 = .ok (.aload_n 2, 1) := by decide +kernel
theorem d26_32 : decode jdk_65_method_124_code 32 = .ok (.areturn, 1) := by decide +kernel
abbrev mn_26 : MethodName := ⟨"java/util/Arrays", "copyOf", "([JI)[J"⟩
set_option maxRecDepth 65536 in
set_option maxHeartbeats 40000000 in
theorem cp_long (l : Launch) (Z : State) (a0 : Array Value) (hw : ∀ d ∈ tables_1, d.before a0 Z = true) (ws : List Jvm.Cond) (n0 : Nat) (h0 : Heap) (Z0 : Old Z n0 h0) (g : Nat) (hg : g ≤ 1000) (a : Addr) (vs : List Value) (z : Int32) (A_a : PA .long Z h0 a vs) (hz : vs.length < z.toNatClampNeg) (hz0 : ¬ z < 0) (hcap : z.toNatClampNeg ≤ g)  :
    Met l Z n0 mn_26 jdk_65_method_124_code 3 (some (.array .long)) ws ({ frames := 1, cells := 1, slots := (g + 0), locals := 18 } : Room) #[(.ref a), (.int z)] h0 (fun u h => ∃ b, u = some (.ref b) ∧ h0.size ≤ b ∧ n0 ≤ b ∧ Keep h0 h [] ∧ PA .long Z h b (vs ++ List.replicate (z.toNatClampNeg - vs.length) (Value.long 0))) := by
  refine met_of Z0 (plainFor_of_name pn_java_util_Arrays) (Ls := #[.val (.ref a), .val (.int z), .unset]) (fun m => by first | (simp [entryFrame, mkF, argsToLocals, Value.category]; done) | rfl) ?_
  intro K ok
  have Kp : Keep h0 h0 [] := Keep.refl _ _
  obtain ⟨q, hq, hq0⟩ := pa_z A_a.len
  show W K l _ n0 _ h0 0 0 0 #[.val (.ref a), .val (.int z), .unset] []
  refine w_iloadN ok d26_0 rfl ?_
  refine w_aloadN ok d26_1 rfl rfl ?_
  refine w_arraylength ok (z := q) d26_2 A_a hq hq0 ?_
  show W K l _ n0 _ h0 0 0 3 #[.val (.ref a), .val (.int z), .unset] [(.int q), (.int z)]
  refine w_icmp_ne ok d26_3 (pc' := 14) (by first | decide | omega | (dsimp only; omega)) (fun hc1 => ?_) (fun hc1 => False.elim (by rw [hc1] at hz; omega))
  refine w_iloadN ok d26_14 rfl ?_
  refine w_newarray ok d26_15 (hw _ (List.mem_of_getElem? (i := 17) rfl)) hz0 (cap := (g + 0)) hcap (by first | decide | omega | (dsimp only; omega)) (by first | decide | omega | (dsimp only; omega)) (by first | decide | omega | (dsimp only; omega)) (fun h3 b2 ea_b2 ge_b2 E_b2 A_b2 => ?_)
  have sz_b2 : h0.size ≤ b2 := Nat.le_trans Kp.1 (Nat.le_of_eq ea_b2.symm)
  have ne_a_b2 : a ≠ b2 := fun q => Nat.lt_irrefl _ (Nat.lt_of_lt_of_eq A_a.lt (ea_b2.symm.trans q.symm))
  replace Kp := Kp.ext E_b2
  replace A_a := A_a.ext E_b2
  replace A_b2 : PA .long Z h3 b2 (List.replicate z.toNatClampNeg (.long (0 : Int64))) := A_b2
  refine w_astoreN ok d26_17 rfl (L' := #[.val (.ref a), .val (.int z), .val (.ref b2)]) rfl ?_
  refine w_aloadN ok d26_18 rfl rfl ?_
  refine w_iconst ok d26_19 (v := (0 : Int32)) rfl ?_
  refine w_aloadN ok d26_20 rfl rfl ?_
  refine w_iconst ok d26_21 (v := (0 : Int32)) rfl ?_
  refine w_aloadN ok d26_22 rfl rfl ?_
  refine w_arraylength ok (z := q) d26_23 A_a hq hq0 ?_
  show W K l _ n0 _ h3 _ _ 24 #[.val (.ref a), .val (.int z), .val (.ref b2)] [(.int q), (.int (0 : Int32)), (.ref b2), (.int (0 : Int32)), (.ref a)]
  refine w_iloadN ok d26_24 rfl ?_
  refine w_callS ok (y := mn_10) (argsL := [(.int q), (.int z)]) (rest := [(.int (0 : Int32)), (.ref b2), (.int (0 : Int32)), (.ref a)]) d26_25 (hw _ (List.mem_of_getElem? (i := 68) rfl)) (hw _ (List.mem_of_getElem? (i := 69) rfl)) (hw _ (List.mem_of_getElem? (i := 70) rfl)) (hw _ (List.mem_of_getElem? (i := 71) rfl)) (by first | decide | omega | (dsimp only; omega)) pd_28II29I rfl rfl (by first | decide | omega | (dsimp only; omega)) (Nat.le_of_ble_eq_true rfl) (by first | decide | omega | (dsimp only; omega)) (by first | decide | omega | (dsimp only; omega)) (fun z0 => rm_min l Z a0 hw [] n0 h3 z0 q z) (fun v4 h5 qv4 => ?_)
  obtain ⟨rfl, rfl⟩ := qv4
  rw [own_min_lt (a := q) (b := z) (by omega) hq0 hz0]
  show W K l _ n0 _ h3 _ _ 28 #[.val (.ref a), .val (.int z), .val (.ref b2)] [(.int q), (.int (0 : Int32)), (.ref b2), (.int (0 : Int32)), (.ref a)]
  refine w_arraycopy ok (sp' := 0) (dp' := 0) (nn' := vs.length) d26_28 (hw _ (List.mem_of_getElem? (i := 72) rfl)) (hw _ (List.mem_of_getElem? (i := 56) rfl)) (hw _ (List.mem_of_getElem? (i := 54) rfl)) (hw _ (List.mem_of_getElem? (i := 55) rfl)) A_a A_b2 rfl ge_b2 (by first | decide | omega | (dsimp only; omega)) (by first | decide | omega | (dsimp only; omega)) hq0 rfl rfl hq.symm (by omega) (by simp; omega) rfl (by first | decide | omega | (dsimp only; omega)) (Nat.le_of_ble_eq_true rfl) (fun h6 K_h6 A1_h6 => ?_)
  replace Kp := Kp.trans K_h6 (allS (Or.inr sz_b2) all0)
  replace A_a := A_a.keep K_h6 (ninS ne_a_b2 nin0)
  replace A_b2 : PA .long Z h6 b2 (vs ++ List.replicate (z.toNatClampNeg - vs.length) (Value.long 0)) := (by simpa using A1_h6)
  show W K l _ n0 _ h6 _ _ 31 #[.val (.ref a), .val (.int z), .val (.ref b2)] []
  refine w_aloadN ok d26_31 rfl rfl ?_
  refine w_aret ok rfl rfl d26_32 (by first | decide | omega | (dsimp only; omega)) (by first | decide | omega | (dsimp only; omega)) ?_
  exact ⟨b2, rfl, sz_b2, ge_b2, Kp, A_b2⟩
theorem d6_0 : decode prog_3_method_18_code 0 = .ok (.iconst 0, 1) := by decide +kernel
theorem d6_1 : decode prog_3_method_18_code 1 = .ok (.istore_n 3, 1) := by decide +kernel
theorem d6_2 : decode prog_3_method_18_code 2 = .ok (.iconst 0, 1) := by decide +kernel
theorem d6_3 : decode prog_3_method_18_code 3 = .ok (.istore 4, 2) := by decide +kernel
theorem d6_5 : decode prog_3_method_18_code 5 = .ok (.iload 4, 2) := by decide +kernel
theorem d6_7 : decode prog_3_method_18_code 7 = .ok (.aload_n 0, 1) := by decide +kernel
theorem d6_8 : decode prog_3_method_18_code 8 = .ok (.getfield 17, 3) := by decide +kernel
theorem d6_11 : decode prog_3_method_18_code 11 = .ok (.if_icmp .ge 21, 3) := by decide +kernel
theorem d6_14 : decode prog_3_method_18_code 14 = .ok (.iload_n 3, 1) := by decide +kernel
theorem d6_15 : decode prog_3_method_18_code 15 = .ok (.aload_n 1, 1) := by decide +kernel
theorem d6_16 : decode prog_3_method_18_code 16 = .ok (.iload_n 2, 1) := by decide +kernel
theorem d6_17 : decode prog_3_method_18_code 17 = .ok (.iload 4, 2) := by decide +kernel
theorem d6_19 : decode prog_3_method_18_code 19 = .ok (.iadd, 1) := by decide +kernel
theorem d6_20 : decode prog_3_method_18_code 20 = .ok (.iaload, 1) := by decide +kernel
theorem d6_21 : decode prog_3_method_18_code 21 = .ok (.iadd, 1) := by decide +kernel
theorem d6_22 : decode prog_3_method_18_code 22 = .ok (.ldc 127, 2) := by decide +kernel
theorem d6_24 : decode prog_3_method_18_code 24 = .ok (.imul, 1) := by decide +kernel
theorem d6_25 : decode prog_3_method_18_code 25 = .ok (.istore_n 3, 1) := by decide +kernel
theorem d6_26 : decode prog_3_method_18_code 26 = .ok (.iinc 4 1, 3) := by decide +kernel
theorem d6_29 : decode prog_3_method_18_code 29 = .ok (.goto (-24), 3) := by decide +kernel
theorem d6_32 : decode prog_3_method_18_code 32 = .ok (.iload_n 3, 1) := by decide +kernel
theorem d6_33 : decode prog_3_method_18_code 33 = .ok (.iload_n 3, 1) := by decide +kernel
theorem d6_34 : decode prog_3_method_18_code 34 = .ok (.bipush 16, 2) := by decide +kernel
theorem d6_36 : decode prog_3_method_18_code 36 = .ok (.iushr, 1) := by decide +kernel
theorem d6_37 : decode prog_3_method_18_code 37 = .ok (.ixor, 1) := by decide +kernel
theorem d6_38 : decode prog_3_method_18_code 38 = .ok (.ireturn, 1) := by decide +kernel
theorem pn_com_example_hornconv_hornconv_FactTable : plainName "com/example/hornconv/hornconv/FactTable" = true := by first | (simp [plainName, overriddenIn]; done) | decide +kernel
set_option maxRecDepth 65536 in
set_option maxHeartbeats 40000000 in
theorem lp_hash (l : Launch) (Z : State) (a0 : Array Value) (hw : ∀ d ∈ tables_1, d.before a0 Z = true) (n0 : Nat) (h0 : Heap) (K : Cx) (ok : Ok K Z n0 "com/example/hornconv/hornconv/FactTable" prog_3_method_18_code 5 (some .int) "hash") (t un me ag de sl po : Addr) (n : Nat) (rw lw us : Int32) (A_t : FO Z h0 t un me ag de sl po (Int32.ofNat n) rw lw us) (hn : 1 ≤ n ∧ n ≤ 3) (vv : Addr) (M o : Nat) (v : Nat → Int32) (A_vv : PA .int Z h0 vv (sv M v)) (hM : M < 1000) (ho : o + n ≤ M) :
    ∀ (cc i : Nat) (z : Int32), i + cc = n → W K l ({ frames := 0, cells := 0, slots := 0, locals := 0 } : Room) n0 (fun u h => ∃ z, u = some (.int z) ∧ h0 = h) h0 0 0 5 #[.val (.ref t), .val (.ref vv), .val (.int (Int32.ofNat o)), .val (.int z), .val (.int (Int32.ofNat i))] [] := by
  intro cc
  induction cc with
  | zero =>
    intro i z hi
    show W K l _ n0 _ h0 0 0 5 #[.val (.ref t), .val (.ref vv), .val (.int (Int32.ofNat o)), .val (.int z), .val (.int (Int32.ofNat i))] []
    refine w_iload ok d6_5 rfl ?_
    refine w_aloadN ok d6_7 rfl rfl ?_
    refine w_getfield ok (v := (.int (Int32.ofNat n))) (host := "") (f := ("com/example/hornconv/hornconv/FactTable", "arity", "I", .int)) 2 d6_8 (Or.inl (hw _ (List.mem_of_getElem? (i := 20) rfl))) Via.refl A_t rfl rfl ?_
    refine w_icmp_ge ok d6_11 (pc' := 32) (by decide) (fun hc1 => ?_) (fun hc1 => False.elim (by rw [own_lt (by omega) (by omega)] at hc1; omega))
    refine w_iloadN ok d6_32 rfl ?_
    refine w_iloadN ok d6_33 rfl ?_
    refine w_bipush ok d6_34 (v := (16 : Int32)) rfl ?_
    refine w_iushr ok d6_36 ?_
    refine w_ixor ok d6_37 ?_
    refine w_iret ok d6_38 (by decide) (by decide) ?_
    exact ⟨_, rfl, rfl⟩
  | succ cc ih =>
    intro i z hi
    show W K l _ n0 _ h0 0 0 5 #[.val (.ref t), .val (.ref vv), .val (.int (Int32.ofNat o)), .val (.int z), .val (.int (Int32.ofNat i))] []
    refine w_iload ok d6_5 rfl ?_
    refine w_aloadN ok d6_7 rfl rfl ?_
    refine w_getfield ok (v := (.int (Int32.ofNat n))) (host := "") (f := ("com/example/hornconv/hornconv/FactTable", "arity", "I", .int)) 2 d6_8 (Or.inl (hw _ (List.mem_of_getElem? (i := 20) rfl))) Via.refl A_t rfl rfl ?_
    refine w_icmp_ge ok d6_11 (pc' := 32) (by decide) (fun hc3 => False.elim (by exact hc3 ((own_lt (by omega) (by omega)).mpr (by omega)))) (fun hc3 => ?_)
    refine w_iloadN ok d6_14 rfl ?_
    refine w_aloadN ok d6_15 rfl rfl ?_
    refine w_iloadN ok d6_16 rfl ?_
    refine w_iload ok d6_17 rfl ?_
    refine w_iadd ok d6_19 ?_
    refine w_iaload ok (v := (.int (v (o + i)))) d6_20 A_vv (by rw [own_add]; exact own_ix0 (by omega)) (by rw [own_add]; exact svg (by omega) (by omega)) ?_
    refine w_iadd ok d6_21 ?_
    refine w_ldcI (v := (-1640531527 : Int32)) ok d6_22 (hw _ (List.mem_of_getElem? (i := 46) rfl)) ?_
    refine w_imul ok d6_24 ?_
    refine w_istoreN ok d6_25 (L' := #[.val (.ref t), .val (.ref vv), .val (.int (Int32.ofNat o)), .val (.int ((z + (v (o + i))) * (-1640531527 : Int32))), .val (.int (Int32.ofNat i))]) rfl ?_
    refine w_iinc ok d6_26 (u := (1 : Int32)) rfl rfl (L' := #[.val (.ref t), .val (.ref vv), .val (.int (Int32.ofNat o)), .val (.int ((z + (v (o + i))) * (-1640531527 : Int32))), .val (.int ((Int32.ofNat i) + (1 : Int32)))]) rfl ?_
    show W K l _ n0 _ h0 0 0 29 #[.val (.ref t), .val (.ref vv), .val (.int (Int32.ofNat o)), .val (.int ((z + (v (o + i))) * (-1640531527 : Int32))), .val (.int ((Int32.ofNat i) + (1 : Int32)))] []
    refine w_goto ok d6_29 (pc' := 5) (by decide) ?_
    show W K l _ n0 _ h0 0 0 5 #[.val (.ref t), .val (.ref vv), .val (.int (Int32.ofNat o)), .val (.int ((z + (v (o + i))) * (-1640531527 : Int32))), .val (.int ((Int32.ofNat i) + (1 : Int32)))] []
    rw [own_inc]
    exact ih (i + 1) _ (by omega)
abbrev mn_6 : MethodName := ⟨"com/example/hornconv/hornconv/FactTable", "hash", "([II)I"⟩
set_option maxRecDepth 65536 in
set_option maxHeartbeats 40000000 in
theorem rm_hash (l : Launch) (Z : State) (a0 : Array Value) (hw : ∀ d ∈ tables_1, d.before a0 Z = true) (ws : List Jvm.Cond) (n0 : Nat) (h0 : Heap) (Z0 : Old Z n0 h0) (t un me ag de sl po : Addr) (n : Nat) (rw lw us : Int32) (A_t : FO Z h0 t un me ag de sl po (Int32.ofNat n) rw lw us) (hn : 1 ≤ n ∧ n ≤ 3) (vv : Addr) (M o : Nat) (v : Nat → Int32) (A_vv : PA .int Z h0 vv (sv M v)) (hM : M < 1000) (ho : o + n ≤ M)  :
    Met l Z n0 mn_6 prog_3_method_18_code 5 (some .int) ws ({ frames := 0, cells := 0, slots := 0, locals := 0 } : Room) #[(.ref t), (.ref vv), (.int (Int32.ofNat o))] h0 (fun u h => ∃ z, u = some (.int z) ∧ h0 = h) := by
  refine met_of Z0 (plainFor_of_name pn_com_example_hornconv_hornconv_FactTable) (Ls := #[.val (.ref t), .val (.ref vv), .val (.int (Int32.ofNat o)), .unset, .unset]) (fun m => by first | (simp [entryFrame, mkF, argsToLocals, Value.category]; done) | rfl) ?_
  intro K ok
  show W K l _ n0 _ h0 0 0 0 #[.val (.ref t), .val (.ref vv), .val (.int (Int32.ofNat o)), .unset, .unset] []
  refine w_iconst ok d6_0 (v := (0 : Int32)) rfl ?_
  refine w_istoreN ok d6_1 (L' := #[.val (.ref t), .val (.ref vv), .val (.int (Int32.ofNat o)), .val (.int (0 : Int32)), .unset]) rfl ?_
  refine w_iconst ok d6_2 (v := (0 : Int32)) rfl ?_
  refine w_istore ok d6_3 (L' := #[.val (.ref t), .val (.ref vv), .val (.int (Int32.ofNat o)), .val (.int (0 : Int32)), .val (.int (0 : Int32))]) rfl ?_
  show W K l _ n0 _ h0 0 0 5 #[.val (.ref t), .val (.ref vv), .val (.int (Int32.ofNat o)), .val (.int (0 : Int32)), .val (.int (0 : Int32))] []
  exact lp_hash l Z a0 hw n0 h0 K ok t un me ag de sl po n rw lw us A_t hn vv M o v A_vv hM ho n 0 _ (by omega)
theorem d8_0 : decode prog_3_method_17_code 0 = .ok (.iload_n 1, 1) := by decide +kernel
theorem d8_1 : decode prog_3_method_17_code 1 = .ok (.aload_n 0, 1) := by decide +kernel
theorem d8_2 : decode prog_3_method_17_code 2 = .ok (.getfield 17, 3) := by decide +kernel
theorem d8_5 : decode prog_3_method_17_code 5 = .ok (.imul, 1) := by decide +kernel
theorem d8_6 : decode prog_3_method_17_code 6 = .ok (.istore_n 3, 1) := by decide +kernel
theorem d8_7 : decode prog_3_method_17_code 7 = .ok (.iconst 0, 1) := by decide +kernel
theorem d8_8 : decode prog_3_method_17_code 8 = .ok (.istore 4, 2) := by decide +kernel
theorem d8_10 : decode prog_3_method_17_code 10 = .ok (.iload 4, 2) := by decide +kernel
theorem d8_12 : decode prog_3_method_17_code 12 = .ok (.aload_n 0, 1) := by decide +kernel
theorem d8_13 : decode prog_3_method_17_code 13 = .ok (.getfield 17, 3) := by decide +kernel
theorem d8_16 : decode prog_3_method_17_code 16 = .ok (.if_icmp .ge 27, 3) := by decide +kernel
theorem d8_19 : decode prog_3_method_17_code 19 = .ok (.aload_n 0, 1) := by decide +kernel
theorem d8_20 : decode prog_3_method_17_code 20 = .ok (.getfield 21, 3) := by decide +kernel
theorem d8_23 : decode prog_3_method_17_code 23 = .ok (.iload_n 3, 1) := by decide +kernel
theorem d8_24 : decode prog_3_method_17_code 24 = .ok (.iload 4, 2) := by decide +kernel
theorem d8_26 : decode prog_3_method_17_code 26 = .ok (.iadd, 1) := by decide +kernel
theorem d8_27 : decode prog_3_method_17_code 27 = .ok (.iaload, 1) := by decide +kernel
theorem d8_28 : decode prog_3_method_17_code 28 = .ok (.aload_n 2, 1) := by decide +kernel
theorem d8_29 : decode prog_3_method_17_code 29 = .ok (.iload 4, 2) := by decide +kernel
theorem d8_31 : decode prog_3_method_17_code 31 = .ok (.iaload, 1) := by decide +kernel
theorem d8_32 : decode prog_3_method_17_code 32 = .ok (.if_icmp .eq 5, 3) := by decide +kernel
theorem d8_35 : decode prog_3_method_17_code 35 = .ok (.iconst 0, 1) := by decide +kernel
theorem d8_36 : decode prog_3_method_17_code 36 = .ok (.ireturn, 1) := by decide +kernel
theorem d8_37 : decode prog_3_method_17_code 37 = .ok (.iinc 4 1, 3) := by decide +kernel
theorem d8_40 : decode prog_3_method_17_code 40 = .ok (.goto (-30), 3) := by decide +kernel
theorem d8_43 : decode prog_3_method_17_code 43 = .ok (.iconst 1, 1) := by decide +kernel
theorem d8_44 : decode prog_3_method_17_code 44 = .ok (.ireturn, 1) := by decide +kernel
set_option maxRecDepth 65536 in
set_option maxHeartbeats 40000000 in
theorem lp_eq (l : Launch) (Z : State) (a0 : Array Value) (hw : ∀ d ∈ tables_1, d.before a0 Z = true) (n0 : Nat) (h0 : Heap) (K : Cx) (ok : Ok K Z n0 "com/example/hornconv/hornconv/FactTable" prog_3_method_17_code 5 (some .boolean) "equalsRow") (t un me ag de sl po : Addr) (n : Nat) (rw lw us : Int32) (A_t : FO Z h0 t un me ag de sl po (Int32.ofNat n) rw lw us) (hn : 1 ≤ n ∧ n ≤ 3) (vv : Addr) (M La x : Nat) (v A : Nat → Int32) (A_vv : PA .int Z h0 vv (sv M v)) (A_ag : PA .int Z h0 ag (sv La A)) (hM : n ≤ M ∧ M < 1000) (hx : x * n + n ≤ La ∧ La < 1000) :
    ∀ (cc i : Nat), i + cc = n → (∀ j, j < i → A (x * n + j) = v j) → W K l ({ frames := 0, cells := 0, slots := 0, locals := 0 } : Room) n0 (fun u h => ((u = some (.int 1) ∧ ∀ j, j < n → A (x * n + j) = v j) ∨ u = some (.int 0)) ∧ h0 = h) h0 0 0 10 #[.val (.ref t), .val (.int (Int32.ofNat x)), .val (.ref vv), .val (.int (Int32.ofNat (x * n))), .val (.int (Int32.ofNat i))] [] := by
  intro cc
  induction cc with
  | zero =>
    intro i hi hg
    show W K l _ n0 _ h0 0 0 10 #[.val (.ref t), .val (.int (Int32.ofNat x)), .val (.ref vv), .val (.int (Int32.ofNat (x * n))), .val (.int (Int32.ofNat i))] []
    refine w_iload ok d8_10 rfl ?_
    refine w_aloadN ok d8_12 rfl rfl ?_
    refine w_getfield ok (v := (.int (Int32.ofNat n))) (host := "") (f := ("com/example/hornconv/hornconv/FactTable", "arity", "I", .int)) 2 d8_13 (Or.inl (hw _ (List.mem_of_getElem? (i := 20) rfl))) Via.refl A_t rfl rfl ?_
    refine w_icmp_ge ok d8_16 (pc' := 43) (by decide) (fun hc1 => ?_) (fun hc1 => False.elim (by rw [own_lt (by omega) (by omega)] at hc1; omega))
    refine w_iconst ok d8_43 (v := (1 : Int32)) rfl ?_
    refine w_bret ok (by simp) d8_44 (by decide) (by decide) ?_
    exact ⟨Or.inl ⟨rfl, fun j hj => hg j (by omega)⟩, rfl⟩
  | succ cc ih =>
    intro i hi hg
    show W K l _ n0 _ h0 0 0 10 #[.val (.ref t), .val (.int (Int32.ofNat x)), .val (.ref vv), .val (.int (Int32.ofNat (x * n))), .val (.int (Int32.ofNat i))] []
    refine w_iload ok d8_10 rfl ?_
    refine w_aloadN ok d8_12 rfl rfl ?_
    refine w_getfield ok (v := (.int (Int32.ofNat n))) (host := "") (f := ("com/example/hornconv/hornconv/FactTable", "arity", "I", .int)) 2 d8_13 (Or.inl (hw _ (List.mem_of_getElem? (i := 20) rfl))) Via.refl A_t rfl rfl ?_
    refine w_icmp_ge ok d8_16 (pc' := 43) (by decide) (fun hc3 => False.elim (by exact hc3 ((own_lt (by omega) (by omega)).mpr (by omega)))) (fun hc3 => ?_)
    refine w_aloadN ok d8_19 rfl rfl ?_
    refine w_getfield ok (v := (.ref ag)) (host := "") (f := ("com/example/hornconv/hornconv/FactTable", "arguments", "[I", (.array .int))) 3 d8_20 (Or.inl (hw _ (List.mem_of_getElem? (i := 22) rfl))) Via.refl A_t rfl rfl ?_
    refine w_iloadN ok d8_23 rfl ?_
    refine w_iload ok d8_24 rfl ?_
    refine w_iadd ok d8_26 ?_
    refine w_iaload ok (v := (.int (A (x * n + i)))) d8_27 A_ag (by rw [own_add]; exact own_ix0 (by omega)) (by rw [own_add]; exact svg (by omega) (by omega)) ?_
    refine w_aloadN ok d8_28 rfl rfl ?_
    refine w_iload ok d8_29 rfl ?_
    refine w_iaload ok (v := (.int (v i))) d8_31 A_vv (own_ix0 (by omega)) (svg (j := i) (by omega) (by omega)) ?_
    refine w_icmp_eq ok d8_32 (pc' := 37) (by decide) (fun hc5 => ?_) (fun hc5 => ?_)
    · skip
      refine w_iinc ok d8_37 (u := (1 : Int32)) rfl rfl (L' := #[.val (.ref t), .val (.int (Int32.ofNat x)), .val (.ref vv), .val (.int (Int32.ofNat (x * n))), .val (.int ((Int32.ofNat i) + (1 : Int32)))]) rfl ?_
      show W K l _ n0 _ h0 0 0 40 #[.val (.ref t), .val (.int (Int32.ofNat x)), .val (.ref vv), .val (.int (Int32.ofNat (x * n))), .val (.int ((Int32.ofNat i) + (1 : Int32)))] []
      refine w_goto ok d8_40 (pc' := 10) (by decide) ?_
      show W K l _ n0 _ h0 0 0 10 #[.val (.ref t), .val (.int (Int32.ofNat x)), .val (.ref vv), .val (.int (Int32.ofNat (x * n))), .val (.int ((Int32.ofNat i) + (1 : Int32)))] []
      rw [own_inc]
      exact ih (i + 1) (by omega) (fun j hj => if e : j = i then by rw [e]; exact hc5 else hg j (by omega))
    · skip
      refine w_iconst ok d8_35 (v := (0 : Int32)) rfl ?_
      refine w_bret ok (by simp) d8_36 (by decide) (by decide) ?_
      exact ⟨Or.inr rfl, rfl⟩
abbrev mn_8 : MethodName := ⟨"com/example/hornconv/hornconv/FactTable", "equalsRow", "(I[I)Z"⟩
set_option maxRecDepth 65536 in
set_option maxHeartbeats 40000000 in
theorem rm_eq (l : Launch) (Z : State) (a0 : Array Value) (hw : ∀ d ∈ tables_1, d.before a0 Z = true) (ws : List Jvm.Cond) (n0 : Nat) (h0 : Heap) (Z0 : Old Z n0 h0) (t un me ag de sl po : Addr) (n : Nat) (rw lw us : Int32) (A_t : FO Z h0 t un me ag de sl po (Int32.ofNat n) rw lw us) (hn : 1 ≤ n ∧ n ≤ 3) (vv : Addr) (M La x : Nat) (v A : Nat → Int32) (A_vv : PA .int Z h0 vv (sv M v)) (A_ag : PA .int Z h0 ag (sv La A)) (hM : n ≤ M ∧ M < 1000) (hx : x * n + n ≤ La ∧ La < 1000)  :
    Met l Z n0 mn_8 prog_3_method_17_code 5 (some .boolean) ws ({ frames := 0, cells := 0, slots := 0, locals := 0 } : Room) #[(.ref t), (.int (Int32.ofNat x)), (.ref vv)] h0 (fun u h => ((u = some (.int 1) ∧ ∀ j, j < n → A (x * n + j) = v j) ∨ u = some (.int 0)) ∧ h0 = h) := by
  refine met_of Z0 (plainFor_of_name pn_com_example_hornconv_hornconv_FactTable) (Ls := #[.val (.ref t), .val (.int (Int32.ofNat x)), .val (.ref vv), .unset, .unset]) (fun m => by first | (simp [entryFrame, mkF, argsToLocals, Value.category]; done) | rfl) ?_
  intro K ok
  show W K l _ n0 _ h0 0 0 0 #[.val (.ref t), .val (.int (Int32.ofNat x)), .val (.ref vv), .unset, .unset] []
  refine w_iloadN ok d8_0 rfl ?_
  refine w_aloadN ok d8_1 rfl rfl ?_
  refine w_getfield ok (v := (.int (Int32.ofNat n))) (host := "") (f := ("com/example/hornconv/hornconv/FactTable", "arity", "I", .int)) 2 d8_2 (Or.inl (hw _ (List.mem_of_getElem? (i := 20) rfl))) Via.refl A_t rfl rfl ?_
  refine w_imul ok d8_5 ?_
  refine w_istoreN ok d8_6 (L' := #[.val (.ref t), .val (.int (Int32.ofNat x)), .val (.ref vv), .val (.int ((Int32.ofNat x) * (Int32.ofNat n))), .unset]) rfl ?_
  refine w_iconst ok d8_7 (v := (0 : Int32)) rfl ?_
  refine w_istore ok d8_8 (L' := #[.val (.ref t), .val (.int (Int32.ofNat x)), .val (.ref vv), .val (.int ((Int32.ofNat x) * (Int32.ofNat n))), .val (.int (0 : Int32))]) rfl ?_
  show W K l _ n0 _ h0 0 0 10 #[.val (.ref t), .val (.int (Int32.ofNat x)), .val (.ref vv), .val (.int ((Int32.ofNat x) * (Int32.ofNat n))), .val (.int (0 : Int32))] []
  rw [own_mul]
  exact lp_eq l Z a0 hw n0 h0 K ok t un me ag de sl po n rw lw us A_t hn vv M La x v A A_vv A_ag hM hx n 0 (by omega) (fun j hj => absurd hj (Nat.not_lt_zero _))
theorem d7_0 : decode prog_3_method_16_code 0 = .ok (.aload_n 0, 1) := by decide +kernel
theorem d7_1 : decode prog_3_method_16_code 1 = .ok (.getfield 28, 3) := by decide +kernel
theorem d7_4 : decode prog_3_method_16_code 4 = .ok (.arraylength, 1) := by decide +kernel
theorem d7_5 : decode prog_3_method_16_code 5 = .ok (.iconst 1, 1) := by decide +kernel
theorem d7_6 : decode prog_3_method_16_code 6 = .ok (.isub, 1) := by decide +kernel
theorem d7_7 : decode prog_3_method_16_code 7 = .ok (.istore_n 3, 1) := by decide +kernel
theorem d7_8 : decode prog_3_method_16_code 8 = .ok (.iload_n 2, 1) := by decide +kernel
theorem d7_9 : decode prog_3_method_16_code 9 = .ok (.iload_n 3, 1) := by decide +kernel
theorem d7_10 : decode prog_3_method_16_code 10 = .ok (.iand, 1) := by decide +kernel
theorem d7_11 : decode prog_3_method_16_code 11 = .ok (.istore 4, 2) := by decide +kernel
theorem d7_13 : decode prog_3_method_16_code 13 = .ok (.iconst (-1), 1) := by decide +kernel
theorem d7_14 : decode prog_3_method_16_code 14 = .ok (.istore 5, 2) := by decide +kernel
theorem d7_16 : decode prog_3_method_16_code 16 = .ok (.aload_n 0, 1) := by decide +kernel
theorem d7_17 : decode prog_3_method_16_code 17 = .ok (.getfield 28, 3) := by decide +kernel
theorem d7_20 : decode prog_3_method_16_code 20 = .ok (.iload 4, 2) := by decide +kernel
theorem d7_22 : decode prog_3_method_16_code 22 = .ok (.iaload, 1) := by decide +kernel
theorem d7_23 : decode prog_3_method_16_code 23 = .ok (.iconst (-1), 1) := by decide +kernel
theorem d7_24 : decode prog_3_method_16_code 24 = .ok (.if_icmp .eq 56, 3) := by decide +kernel
theorem d7_27 : decode prog_3_method_16_code 27 = .ok (.aload_n 0, 1) := by decide +kernel
theorem d7_28 : decode prog_3_method_16_code 28 = .ok (.getfield 28, 3) := by decide +kernel
theorem d7_31 : decode prog_3_method_16_code 31 = .ok (.iload 4, 2) := by decide +kernel
theorem d7_33 : decode prog_3_method_16_code 33 = .ok (.iaload, 1) := by decide +kernel
theorem d7_34 : decode prog_3_method_16_code 34 = .ok (.istore 6, 2) := by decide +kernel
theorem d7_36 : decode prog_3_method_16_code 36 = .ok (.iload 6, 2) := by decide +kernel
theorem d7_38 : decode prog_3_method_16_code 38 = .ok (.bipush (-2), 2) := by decide +kernel
theorem d7_40 : decode prog_3_method_16_code 40 = .ok (.if_icmp .ne 16, 3) := by decide +kernel
theorem d7_43 : decode prog_3_method_16_code 43 = .ok (.iload 5, 2) := by decide +kernel
theorem d7_45 : decode prog_3_method_16_code 45 = .ok (.iconst (-1), 1) := by decide +kernel
theorem d7_46 : decode prog_3_method_16_code 46 = .ok (.if_icmp .ne 23, 3) := by decide +kernel
theorem d7_49 : decode prog_3_method_16_code 49 = .ok (.iload 4, 2) := by decide +kernel
theorem d7_51 : decode prog_3_method_16_code 51 = .ok (.istore 5, 2) := by decide +kernel
theorem d7_53 : decode prog_3_method_16_code 53 = .ok (.goto 16, 3) := by decide +kernel
theorem d7_56 : decode prog_3_method_16_code 56 = .ok (.aload_n 0, 1) := by decide +kernel
theorem d7_57 : decode prog_3_method_16_code 57 = .ok (.iload 6, 2) := by decide +kernel
theorem d7_59 : decode prog_3_method_16_code 59 = .ok (.aload_n 1, 1) := by decide +kernel
theorem d7_60 : decode prog_3_method_16_code 60 = .ok (.invokevirtual 123, 3) := by decide +kernel
theorem d7_63 : decode prog_3_method_16_code 63 = .ok (.ifCond .eq 6, 3) := by decide +kernel
theorem d7_66 : decode prog_3_method_16_code 66 = .ok (.iload 4, 2) := by decide +kernel
theorem d7_68 : decode prog_3_method_16_code 68 = .ok (.ireturn, 1) := by decide +kernel
theorem d7_69 : decode prog_3_method_16_code 69 = .ok (.iload 4, 2) := by decide +kernel
theorem d7_71 : decode prog_3_method_16_code 71 = .ok (.iconst 1, 1) := by decide +kernel
theorem d7_72 : decode prog_3_method_16_code 72 = .ok (.iadd, 1) := by decide +kernel
theorem d7_73 : decode prog_3_method_16_code 73 = .ok (.iload_n 3, 1) := by decide +kernel
theorem d7_74 : decode prog_3_method_16_code 74 = .ok (.iand, 1) := by decide +kernel
theorem d7_75 : decode prog_3_method_16_code 75 = .ok (.istore 4, 2) := by decide +kernel
theorem d7_77 : decode prog_3_method_16_code 77 = .ok (.goto (-61), 3) := by decide +kernel
theorem d7_80 : decode prog_3_method_16_code 80 = .ok (.iload 5, 2) := by decide +kernel
theorem d7_82 : decode prog_3_method_16_code 82 = .ok (.iconst (-1), 1) := by decide +kernel
theorem d7_83 : decode prog_3_method_16_code 83 = .ok (.if_icmp .ne 8, 3) := by decide +kernel
theorem d7_86 : decode prog_3_method_16_code 86 = .ok (.iload 4, 2) := by decide +kernel
theorem d7_88 : decode prog_3_method_16_code 88 = .ok (.goto 5, 3) := by decide +kernel
theorem d7_91 : decode prog_3_method_16_code 91 = .ok (.iload 5, 2) := by decide +kernel
theorem d7_93 : decode prog_3_method_16_code 93 = .ok (.ireturn, 1) := by decide +kernel
set_option maxRecDepth 65536 in
set_option maxHeartbeats 40000000 in
theorem ex_find (l : Launch) (Z : State) (a0 : Array Value) (hw : ∀ d ∈ tables_1, d.before a0 Z = true) (n0 : Nat) (h0 : Heap) (K : Cx) (ok : Ok K Z n0 "com/example/hornconv/hornconv/FactTable" prog_3_method_16_code 7 (some .int) "find") (t un me ag de sl po : Addr) (n : Nat) (rw lw us : Int32) (A_t : FO Z h0 t un me ag de sl po (Int32.ofNat n) rw lw us) (hn : 1 ≤ n ∧ n ≤ 3) (vv : Addr) (M La N r : Nat) (v A f : Nat → Int32) (hs : Int32) (A_vv : PA .int Z h0 vv (sv M v)) (A_ag : PA .int Z h0 ag (sv La A)) (A_sl : PA .int Z h0 sl (sv N f)) (hM : n ≤ M ∧ M < 1000) (hLa : r * n ≤ La ∧ La < 1000) (hN : N = 8 ∨ N = 16) (hI : IR r N f) (hr : r < N) :
    ∀ (s i : Nat) (s6 : Slot), f ((s + i) % N) = -1 → W K l ({ frames := 1, cells := 0, slots := 0, locals := 16 } : Room) n0 (fun u h => ∃ s, s < N ∧ u = some (.int (Int32.ofNat s)) ∧ (f s = -1 ∨ ∃ y, y < r ∧ f s = Int32.ofNat y ∧ ∀ j, j < n → A (y * n + j) = v j) ∧ h0 = h) h0 0 0 16 #[.val (.ref t), .val (.ref vv), .val (.int hs), .val (.int (Int32.ofNat (N - 1))), .val (.int (Int32.ofNat ((s + i) % N))), .val (.int (-1 : Int32)), s6] [] := by
  intro s i s6 hf
  have hb := own_oN hN (s + i)
  show W K l _ n0 _ h0 0 0 16 #[.val (.ref t), .val (.ref vv), .val (.int hs), .val (.int (Int32.ofNat (N - 1))), .val (.int (Int32.ofNat ((s + i) % N))), .val (.int (-1 : Int32)), s6] []
  refine w_aloadN ok d7_16 rfl rfl ?_
  refine w_getfield ok (v := (.ref sl)) (host := "") (f := ("com/example/hornconv/hornconv/FactTable", "slots", "[I", (.array .int))) 5 d7_17 (Or.inl (hw _ (List.mem_of_getElem? (i := 27) rfl))) Via.refl A_t rfl rfl ?_
  refine w_iload ok d7_20 rfl ?_
  refine w_iaload ok (v := (.int (-1 : Int32))) d7_22 A_sl (own_ix0 hb.1) (by have e := svg (f := f) hb.2 (by omega); rw [hf] at e; exact e) ?_
  refine w_iconst ok d7_23 (v := (-1 : Int32)) rfl ?_
  refine w_icmp_eq ok d7_24 (pc' := 80) (by decide) (fun hc1 => ?_) (fun hc1 => False.elim (by revert hc1; decide))
  refine w_iload ok d7_80 rfl ?_
  refine w_iconst ok d7_82 (v := (-1 : Int32)) rfl ?_
  refine w_icmp_ne ok d7_83 (pc' := 91) (by decide) (fun hc3 => False.elim (by revert hc3; decide)) (fun hc3 => ?_)
  refine w_iload ok d7_86 rfl ?_
  refine w_goto ok d7_88 (pc' := 93) (by decide) ?_
  refine w_iret ok d7_93 (by decide) (by decide) ?_
  exact ⟨(s + i) % N, hb.2, rfl, Or.inl hf, rfl⟩
theorem own_xn {x r n La : Nat} (hx : x < r) (h : r * n ≤ La ∧ La < 1000) : x * n + n ≤ La ∧ La < 1000 := by
  have := Nat.mul_le_mul_right n (show x + 1 ≤ r from hx)
  rw [Nat.add_mul, Nat.one_mul] at this; omega
theorem own_xr {x r n La : Nat} (hx : x < r) (hn : 1 ≤ n ∧ n ≤ 3) (h : r * n ≤ La ∧ La < 1000) : x < 1000 := by
  have := own_xn hx h; have := Nat.le_mul_of_pos_right x (show 0 < n by omega); omega
theorem pd_28I5bI29Z : parseMethodDescriptor "(I[I)Z" = some ⟨[.int, (.array .int)], some .boolean⟩ := by decide +kernel
set_option maxRecDepth 65536 in
set_option maxHeartbeats 40000000 in
theorem lp_find (l : Launch) (Z : State) (a0 : Array Value) (hw : ∀ d ∈ tables_1, d.before a0 Z = true) (n0 : Nat) (h0 : Heap) (K : Cx) (ok : Ok K Z n0 "com/example/hornconv/hornconv/FactTable" prog_3_method_16_code 7 (some .int) "find") (t un me ag de sl po : Addr) (n : Nat) (rw lw us : Int32) (A_t : FO Z h0 t un me ag de sl po (Int32.ofNat n) rw lw us) (hn : 1 ≤ n ∧ n ≤ 3) (vv : Addr) (M La N r : Nat) (v A f : Nat → Int32) (hs : Int32) (A_vv : PA .int Z h0 vv (sv M v)) (A_ag : PA .int Z h0 ag (sv La A)) (A_sl : PA .int Z h0 sl (sv N f)) (hM : n ≤ M ∧ M < 1000) (hLa : r * n ≤ La ∧ La < 1000) (hN : N = 8 ∨ N = 16) (hI : IR r N f) (hr : r < N) :
    ∀ (cc s i : Nat) (s6 : Slot), One s6 → f ((s + (i + cc)) % N) = -1 → W K l ({ frames := 1, cells := 0, slots := 0, locals := 16 } : Room) n0 (fun u h => ∃ s, s < N ∧ u = some (.int (Int32.ofNat s)) ∧ (f s = -1 ∨ ∃ y, y < r ∧ f s = Int32.ofNat y ∧ ∀ j, j < n → A (y * n + j) = v j) ∧ h0 = h) h0 0 0 16 #[.val (.ref t), .val (.ref vv), .val (.int hs), .val (.int (Int32.ofNat (N - 1))), .val (.int (Int32.ofNat ((s + i) % N))), .val (.int (-1 : Int32)), s6] [] := by
  intro cc
  induction cc with
  | zero =>
    intro s i s6 o6 hc
    exact ex_find l Z a0 hw n0 h0 K ok t un me ag de sl po n rw lw us A_t hn vv M La N r v A f hs A_vv A_ag A_sl hM hLa hN hI hr s i s6 hc
  | succ cc ih =>
    intro s i s6 o6 hc
    have hb := own_oN hN (s + i)
    rcases hI.1 _ hb.2 with hf | ⟨x, hx, hf⟩
    · exact ex_find l Z a0 hw n0 h0 K ok t un me ag de sl po n rw lw us A_t hn vv M La N r v A f hs A_vv A_ag A_sl hM hLa hN hI hr s i s6 hf
    · have hx3 := own_xr hx hn hLa
      show W K l _ n0 _ h0 0 0 16 #[.val (.ref t), .val (.ref vv), .val (.int hs), .val (.int (Int32.ofNat (N - 1))), .val (.int (Int32.ofNat ((s + i) % N))), .val (.int (-1 : Int32)), s6] []
      refine w_aloadN ok d7_16 rfl rfl ?_
      refine w_getfield ok (v := (.ref sl)) (host := "") (f := ("com/example/hornconv/hornconv/FactTable", "slots", "[I", (.array .int))) 5 d7_17 (Or.inl (hw _ (List.mem_of_getElem? (i := 27) rfl))) Via.refl A_t rfl rfl ?_
      refine w_iload ok d7_20 rfl ?_
      refine w_iaload ok (v := (.int (Int32.ofNat x))) d7_22 A_sl (own_ix0 hb.1) (by have e := svg (f := f) hb.2 (by omega); rw [hf] at e; exact e) ?_
      refine w_iconst ok d7_23 (v := (-1 : Int32)) rfl ?_
      refine w_icmp_eq ok d7_24 (pc' := 80) (by decide) (fun hc1 => False.elim (by exact own_n1 hx3 hc1)) (fun hc1 => ?_)
      refine w_aloadN ok d7_27 rfl rfl ?_
      refine w_getfield ok (v := (.ref sl)) (host := "") (f := ("com/example/hornconv/hornconv/FactTable", "slots", "[I", (.array .int))) 5 d7_28 (Or.inl (hw _ (List.mem_of_getElem? (i := 27) rfl))) Via.refl A_t rfl rfl ?_
      refine w_iload ok d7_31 rfl ?_
      refine w_iaload ok (v := (.int (Int32.ofNat x))) d7_33 A_sl (own_ix0 hb.1) (by have e := svg (f := f) hb.2 (by omega); rw [hf] at e; exact e) ?_
      refine w_istore ok d7_34 (L' := #[.val (.ref t), .val (.ref vv), .val (.int hs), .val (.int (Int32.ofNat (N - 1))), .val (.int (Int32.ofNat ((s + i) % N))), .val (.int (-1 : Int32)), .val (.int (Int32.ofNat x))]) (by exact XS.store1 (o := s6) rfl o6 rfl) ?_
      refine w_iload ok d7_36 rfl ?_
      refine w_bipush ok d7_38 (v := (-2 : Int32)) rfl ?_
      refine w_icmp_ne ok d7_40 (pc' := 56) (by decide) (fun hc3 => ?_) (fun hc3 => False.elim (by exact own_n2 hx3 hc3))
      refine w_aloadN ok d7_56 rfl rfl ?_
      refine w_iload ok d7_57 rfl ?_
      refine w_aloadN ok d7_59 rfl rfl ?_
      refine w_callP ok (y := mn_8) (a := t) (argsL := [(.int (Int32.ofNat x)), (.ref vv)]) (rest := []) d7_60 (hw _ (List.mem_of_getElem? (i := 61) rfl)) (hw _ (List.mem_of_getElem? (i := 62) rfl)) (hw _ (List.mem_of_getElem? (i := 63) rfl)) (hw _ (List.mem_of_getElem? (i := 7) rfl)) (hw _ (List.mem_of_getElem? (i := 8) rfl)) (hw _ (List.mem_of_getElem? (i := 64) rfl)) (by decide) A_t.1 pd_28I5bI29Z rfl rfl (by decide) (Nat.le_of_ble_eq_true rfl) (by decide) (by decide) (fun z0 => rm_eq l Z a0 hw [] n0 h0 z0 t un me ag de sl po n rw lw us A_t hn vv M La x v A A_vv A_ag hM (own_xn hx hLa)) (fun v4 h5 qv4 => ?_)
      obtain ⟨⟨rfl, he⟩ | rfl, rfl⟩ := qv4
      · skip
        show W K l _ n0 _ h0 0 0 63 #[.val (.ref t), .val (.ref vv), .val (.int hs), .val (.int (Int32.ofNat (N - 1))), .val (.int (Int32.ofNat ((s + i) % N))), .val (.int (-1 : Int32)), .val (.int (Int32.ofNat x))] [(.int (1 : Int32))]
        refine w_if_eq ok d7_63 (pc' := 69) (by decide) (fun hc7 => False.elim (by revert hc7; decide)) (fun hc7 => ?_)
        refine w_iload ok d7_66 rfl ?_
        refine w_iret ok d7_68 (by decide) (by decide) ?_
        exact ⟨(s + i) % N, hb.2, rfl, Or.inr ⟨x, hx, hf, he⟩, rfl⟩
      · skip
        show W K l _ n0 _ h0 0 0 63 #[.val (.ref t), .val (.ref vv), .val (.int hs), .val (.int (Int32.ofNat (N - 1))), .val (.int (Int32.ofNat ((s + i) % N))), .val (.int (-1 : Int32)), .val (.int (Int32.ofNat x))] [(.int (0 : Int32))]
        refine w_if_eq ok d7_63 (pc' := 69) (by decide) (fun hc9 => ?_) (fun hc9 => False.elim (by revert hc9; decide))
        refine w_iload ok d7_69 rfl ?_
        refine w_iconst ok d7_71 (v := (1 : Int32)) rfl ?_
        refine w_iadd ok d7_72 ?_
        refine w_iloadN ok d7_73 rfl ?_
        refine w_iand ok d7_74 ?_
        refine w_istore ok d7_75 (L' := #[.val (.ref t), .val (.ref vv), .val (.int hs), .val (.int (Int32.ofNat (N - 1))), .val (.int (((Int32.ofNat ((s + i) % N)) + (1 : Int32)) &&& (Int32.ofNat (N - 1)))), .val (.int (-1 : Int32)), .val (.int (Int32.ofNat x))]) rfl ?_
        refine w_goto ok d7_77 (pc' := 16) (by decide) ?_
        show W K l _ n0 _ h0 0 0 16 #[.val (.ref t), .val (.ref vv), .val (.int hs), .val (.int (Int32.ofNat (N - 1))), .val (.int (((Int32.ofNat ((s + i) % N)) + (1 : Int32)) &&& (Int32.ofNat (N - 1)))), .val (.int (-1 : Int32)), .val (.int (Int32.ofNat x))] []
        rw [own_nxt hN (s + i)]
        exact ih s (i + 1) _ (One.val rfl) (by rw [show i + 1 + cc = i + (cc + 1) by omega]; exact hc)
abbrev mn_7 : MethodName := ⟨"com/example/hornconv/hornconv/FactTable", "find", "([II)I"⟩
set_option maxRecDepth 65536 in
set_option maxHeartbeats 40000000 in
theorem rm_find (l : Launch) (Z : State) (a0 : Array Value) (hw : ∀ d ∈ tables_1, d.before a0 Z = true) (ws : List Jvm.Cond) (n0 : Nat) (h0 : Heap) (Z0 : Old Z n0 h0) (t un me ag de sl po : Addr) (n : Nat) (rw lw us : Int32) (A_t : FO Z h0 t un me ag de sl po (Int32.ofNat n) rw lw us) (hn : 1 ≤ n ∧ n ≤ 3) (vv : Addr) (M La N r : Nat) (v A f : Nat → Int32) (hs : Int32) (A_vv : PA .int Z h0 vv (sv M v)) (A_ag : PA .int Z h0 ag (sv La A)) (A_sl : PA .int Z h0 sl (sv N f)) (hM : n ≤ M ∧ M < 1000) (hLa : r * n ≤ La ∧ La < 1000) (hN : N = 8 ∨ N = 16) (hI : IR r N f) (hr : r < N)  :
    Met l Z n0 mn_7 prog_3_method_16_code 7 (some .int) ws ({ frames := 1, cells := 0, slots := 0, locals := 16 } : Room) #[(.ref t), (.ref vv), (.int hs)] h0 (fun u h => ∃ s, s < N ∧ u = some (.int (Int32.ofNat s)) ∧ (f s = -1 ∨ ∃ y, y < r ∧ f s = Int32.ofNat y ∧ ∀ j, j < n → A (y * n + j) = v j) ∧ h0 = h) := by
  refine met_of Z0 (plainFor_of_name pn_com_example_hornconv_hornconv_FactTable) (Ls := #[.val (.ref t), .val (.ref vv), .val (.int hs), .unset, .unset, .unset, .unset]) (fun m => by first | (simp [entryFrame, mkF, argsToLocals, Value.category]; done) | rfl) ?_
  intro K ok
  show W K l _ n0 _ h0 0 0 0 #[.val (.ref t), .val (.ref vv), .val (.int hs), .unset, .unset, .unset, .unset] []
  refine w_aloadN ok d7_0 rfl rfl ?_
  refine w_getfield ok (v := (.ref sl)) (host := "") (f := ("com/example/hornconv/hornconv/FactTable", "slots", "[I", (.array .int))) 5 d7_1 (Or.inl (hw _ (List.mem_of_getElem? (i := 27) rfl))) Via.refl A_t rfl rfl ?_
  refine w_arraylength ok (z := Int32.ofNat N) d7_4 A_sl (sv_z (by omega)) (own_ix0 (by omega)) ?_
  show W K l _ n0 _ h0 0 0 5 #[.val (.ref t), .val (.ref vv), .val (.int hs), .unset, .unset, .unset, .unset] [(.int (Int32.ofNat N))]
  refine w_iconst ok d7_5 (v := (1 : Int32)) rfl ?_
  refine w_isub ok d7_6 ?_
  refine w_istoreN ok d7_7 (L' := #[.val (.ref t), .val (.ref vv), .val (.int hs), .val (.int ((Int32.ofNat N) - (1 : Int32))), .unset, .unset, .unset]) rfl ?_
  show W K l _ n0 _ h0 0 0 8 #[.val (.ref t), .val (.ref vv), .val (.int hs), .val (.int ((Int32.ofNat N) - (1 : Int32))), .unset, .unset, .unset] []
  rw [own_dec (show 1 ≤ N by omega)]
  refine w_iloadN ok d7_8 rfl ?_
  refine w_iloadN ok d7_9 rfl ?_
  refine w_iand ok d7_10 ?_
  refine w_istore ok d7_11 (L' := #[.val (.ref t), .val (.ref vv), .val (.int hs), .val (.int (Int32.ofNat (N - 1))), .val (.int (hs &&& (Int32.ofNat (N - 1)))), .unset, .unset]) rfl ?_
  refine w_iconst ok d7_13 (v := (-1 : Int32)) rfl ?_
  refine w_istore ok d7_14 (L' := #[.val (.ref t), .val (.ref vv), .val (.int hs), .val (.int (Int32.ofNat (N - 1))), .val (.int (hs &&& (Int32.ofNat (N - 1)))), .val (.int (-1 : Int32)), .unset]) rfl ?_
  show W K l _ n0 _ h0 0 0 16 #[.val (.ref t), .val (.ref vv), .val (.int hs), .val (.int (Int32.ofNat (N - 1))), .val (.int (hs &&& (Int32.ofNat (N - 1)))), .val (.int (-1 : Int32)), .unset] []
  obtain ⟨s, e, -⟩ := own_strt hN hs
  rw [e]
  obtain ⟨c, hc⟩ := hI.free hN hr s
  exact lp_find l Z a0 hw n0 h0 K ok t un me ag de sl po n rw lw us A_t hn vv M La N r v A f hs A_vv A_ag A_sl hM hLa hN hI hr c s 0 _ One.u (by rw [Nat.zero_add]; exact hc)
theorem d16_0 : decode prog_3_method_6_code 0 = .ok (.aload_n 0, 1) := by decide +kernel
theorem d16_1 : decode prog_3_method_6_code 1 = .ok (.getfield 21, 3) := by decide +kernel
theorem d16_4 : decode prog_3_method_6_code 4 = .ok (.iload_n 1, 1) := by decide +kernel
theorem d16_5 : decode prog_3_method_6_code 5 = .ok (.aload_n 0, 1) := by decide +kernel
theorem d16_6 : decode prog_3_method_6_code 6 = .ok (.getfield 17, 3) := by decide +kernel
theorem d16_9 : decode prog_3_method_6_code 9 = .ok (.imul, 1) := by decide +kernel
theorem d16_10 : decode prog_3_method_6_code 10 = .ok (.iload_n 2, 1) := by decide +kernel
theorem d16_11 : decode prog_3_method_6_code 11 = .ok (.iadd, 1) := by decide +kernel
theorem d16_12 : decode prog_3_method_6_code 12 = .ok (.iaload, 1) := by decide +kernel
theorem d16_13 : decode prog_3_method_6_code 13 = .ok (.ireturn, 1) := by decide +kernel
abbrev mn_16 : MethodName := ⟨"com/example/hornconv/hornconv/FactTable", "argument", "(II)I"⟩
set_option maxRecDepth 65536 in
set_option maxHeartbeats 40000000 in
theorem rm_arg (l : Launch) (Z : State) (a0 : Array Value) (hw : ∀ d ∈ tables_1, d.before a0 Z = true) (ws : List Jvm.Cond) (n0 : Nat) (h0 : Heap) (Z0 : Old Z n0 h0) (t un me ag de sl po : Addr) (n : Nat) (rw lw us : Int32) (A_t : FO Z h0 t un me ag de sl po (Int32.ofNat n) rw lw us) (La x p : Nat) (A : Nat → Int32) (A_ag : PA .int Z h0 ag (sv La A)) (hx : x * n + p < La ∧ La < 1000)  :
    Met l Z n0 mn_16 prog_3_method_6_code 3 (some .int) ws ({ frames := 0, cells := 0, slots := 0, locals := 0 } : Room) #[(.ref t), (.int (Int32.ofNat x)), (.int (Int32.ofNat p))] h0 (fun u h => u = some (.int (A (x * n + p))) ∧ h0 = h) := by
  refine met_of Z0 (plainFor_of_name pn_com_example_hornconv_hornconv_FactTable) (Ls := #[.val (.ref t), .val (.int (Int32.ofNat x)), .val (.int (Int32.ofNat p))]) (fun m => by first | (simp [entryFrame, mkF, argsToLocals, Value.category]; done) | rfl) ?_
  intro K ok
  show W K l _ n0 _ h0 0 0 0 #[.val (.ref t), .val (.int (Int32.ofNat x)), .val (.int (Int32.ofNat p))] []
  refine w_aloadN ok d16_0 rfl rfl ?_
  refine w_getfield ok (v := (.ref ag)) (host := "") (f := ("com/example/hornconv/hornconv/FactTable", "arguments", "[I", (.array .int))) 3 d16_1 (Or.inl (hw _ (List.mem_of_getElem? (i := 22) rfl))) Via.refl A_t rfl rfl ?_
  refine w_iloadN ok d16_4 rfl ?_
  refine w_aloadN ok d16_5 rfl rfl ?_
  refine w_getfield ok (v := (.int (Int32.ofNat n))) (host := "") (f := ("com/example/hornconv/hornconv/FactTable", "arity", "I", .int)) 2 d16_6 (Or.inl (hw _ (List.mem_of_getElem? (i := 20) rfl))) Via.refl A_t rfl rfl ?_
  refine w_imul ok d16_9 ?_
  refine w_iloadN ok d16_10 rfl ?_
  refine w_iadd ok d16_11 ?_
  refine w_iaload ok (v := (.int (A (x * n + p)))) d16_12 A_ag (by rw [own_mul, own_add]; exact own_ix0 (by omega)) (by rw [own_mul, own_add]; exact svg (by omega) (by omega)) ?_
  refine w_iret ok d16_13 (by decide) (by decide) ?_
  exact ⟨rfl, rfl⟩
theorem d23_0 : decode prog_3_method_14_code 0 = .ok (.iload_n 1, 1) := by decide +kernel
theorem d23_1 : decode prog_3_method_14_code 1 = .ok (.bipush 6, 2) := by decide +kernel
theorem d23_3 : decode prog_3_method_14_code 3 = .ok (.iushr, 1) := by decide +kernel
theorem d23_4 : decode prog_3_method_14_code 4 = .ok (.istore_n 2, 1) := by decide +kernel
theorem d23_5 : decode prog_3_method_14_code 5 = .ok (.iload_n 2, 1) := by decide +kernel
theorem d23_6 : decode prog_3_method_14_code 6 = .ok (.aload_n 0, 1) := by decide +kernel
theorem d23_7 : decode prog_3_method_14_code 7 = .ok (.getfield 13, 3) := by decide +kernel
theorem d23_10 : decode prog_3_method_14_code 10 = .ok (.arraylength, 1) := by decide +kernel
theorem d23_11 : decode prog_3_method_14_code 11 = .ok (.if_icmp .ge 22, 3) := by decide +kernel
theorem d23_14 : decode prog_3_method_14_code 14 = .ok (.aload_n 0, 1) := by decide +kernel
theorem d23_15 : decode prog_3_method_14_code 15 = .ok (.getfield 13, 3) := by decide +kernel
theorem d23_18 : decode prog_3_method_14_code 18 = .ok (.iload_n 2, 1) := by decide +kernel
theorem d23_19 : decode prog_3_method_14_code 19 = .ok (.laload, 1) := by decide +kernel
theorem d23_20 : decode prog_3_method_14_code 20 = .ok (.lconst 1, 1) := by decide +kernel
theorem d23_21 : decode prog_3_method_14_code 21 = .ok (.iload_n 1, 1) := by decide +kernel
theorem d23_22 : decode prog_3_method_14_code 22 = .ok (.lshl, 1) := by decide +kernel
theorem d23_23 : decode prog_3_method_14_code 23 = .ok (.land, 1) := by decide +kernel
theorem d23_24 : decode prog_3_method_14_code 24 = .ok (.lconst 0, 1) := by decide +kernel
theorem d23_25 : decode prog_3_method_14_code 25 = .ok (.lcmp, 1) := by decide +kernel
theorem d23_26 : decode prog_3_method_14_code 26 = .ok (.ifCond .eq 7, 3) := by decide +kernel
theorem d23_29 : decode prog_3_method_14_code 29 = .ok (.iconst 1, 1) := by decide +kernel
theorem d23_30 : decode prog_3_method_14_code 30 = .ok (.goto 4, 3) := by decide +kernel
theorem d23_33 : decode prog_3_method_14_code 33 = .ok (.iconst 0, 1) := by decide +kernel
theorem d23_34 : decode prog_3_method_14_code 34 = .ok (.ireturn, 1) := by decide +kernel
abbrev mn_23 : MethodName := ⟨"com/example/hornconv/hornconv/FactTable", "isMember", "(I)Z"⟩
set_option maxRecDepth 65536 in
set_option maxHeartbeats 40000000 in
theorem rm_isM (l : Launch) (Z : State) (a0 : Array Value) (hw : ∀ d ∈ tables_1, d.before a0 Z = true) (ws : List Jvm.Cond) (n0 : Nat) (h0 : Heap) (Z0 : Old Z n0 h0) (t un me ag de sl po : Addr) (n : Nat) (rw lw us : Int32) (A_t : FO Z h0 t un me ag de sl po (Int32.ofNat n) rw lw us) (Lm w : Nat) (μ : Nat → Int64) (x : Int32) (A_me : PA .long Z h0 me (lv Lm μ)) (hw6 : Jvm.Free.XT.ushr x 6 = Int32.ofNat w) (hwb : w < 64) (hLm : Lm ≤ 126)  :
    Met l Z n0 mn_23 prog_3_method_14_code 3 (some .boolean) ws ({ frames := 0, cells := 0, slots := 0, locals := 0 } : Room) #[(.ref t), (.int x)] h0 (fun u h => ((u = some (.int 1) ∧ w < Lm) ∨ u = some (.int 0)) ∧ h0 = h) := by
  refine met_of Z0 (plainFor_of_name pn_com_example_hornconv_hornconv_FactTable) (Ls := #[.val (.ref t), .val (.int x), .unset]) (fun m => by first | (simp [entryFrame, mkF, argsToLocals, Value.category]; done) | rfl) ?_
  intro K ok
  show W K l _ n0 _ h0 0 0 0 #[.val (.ref t), .val (.int x), .unset] []
  refine w_iloadN ok d23_0 rfl ?_
  refine w_bipush ok d23_1 (v := (6 : Int32)) rfl ?_
  refine w_iushr ok d23_3 ?_
  show W K l _ n0 _ h0 0 0 4 #[.val (.ref t), .val (.int x), .unset] [(.int (Jvm.Free.XT.ushr x (6 : Int32)))]
  rw [hw6]
  refine w_istoreN ok d23_4 (L' := #[.val (.ref t), .val (.int x), .val (.int (Int32.ofNat w))]) rfl ?_
  refine w_iloadN ok d23_5 rfl ?_
  refine w_aloadN ok d23_6 rfl rfl ?_
  refine w_getfield ok (v := (.ref me)) (host := "") (f := ("com/example/hornconv/hornconv/FactTable", "members", "[J", (.array .long))) 1 d23_7 (Or.inl (hw _ (List.mem_of_getElem? (i := 18) rfl))) Via.refl A_t rfl rfl ?_
  refine w_arraylength ok (z := Int32.ofNat Lm) d23_10 A_me (lv_z (by omega)) (own_ix0 (by omega)) ?_
  show W K l _ n0 _ h0 0 0 11 #[.val (.ref t), .val (.int x), .val (.int (Int32.ofNat w))] [(.int (Int32.ofNat Lm)), (.int (Int32.ofNat w))]
  refine w_icmp_ge ok d23_11 (pc' := 33) (by decide) (fun hc1 => ?_) (fun hc1 => ?_)
  · skip
    refine w_iconst ok d23_33 (v := (0 : Int32)) rfl ?_
    refine w_bret ok (by simp) d23_34 (by decide) (by decide) ?_
    exact ⟨Or.inr rfl, rfl⟩
  · skip
    have hlt : w < Lm := (own_lt (by omega) (by omega)).mp hc1
    refine w_aloadN ok d23_14 rfl rfl ?_
    refine w_getfield ok (v := (.ref me)) (host := "") (f := ("com/example/hornconv/hornconv/FactTable", "members", "[J", (.array .long))) 1 d23_15 (Or.inl (hw _ (List.mem_of_getElem? (i := 18) rfl))) Via.refl A_t rfl rfl ?_
    refine w_iloadN ok d23_18 rfl ?_
    refine w_laload ok (v := (.long (μ w))) d23_19 A_me (own_ix0 (by omega)) (lvg (j := w) (by omega) (by omega)) ?_
    refine w_lconst ok d23_20 (v := (1 : Int64)) rfl ?_
    refine w_iloadN ok d23_21 rfl ?_
    refine w_lshl ok d23_22 ?_
    refine w_land ok d23_23 ?_
    refine w_lconst ok d23_24 (v := (0 : Int64)) rfl ?_
    refine w_lcmp_eq ok d23_25 d23_26 (pc' := 33) (by decide) (fun hc3 => ?_) (fun hc3 => ?_)
    · skip
      refine w_iconst ok d23_33 (v := (0 : Int32)) rfl ?_
      refine w_bret ok (by simp) d23_34 (by decide) (by decide) ?_
      exact ⟨Or.inr rfl, rfl⟩
    · skip
      refine w_iconst ok d23_29 (v := (1 : Int32)) rfl ?_
      refine w_goto ok d23_30 (pc' := 34) (by decide) ?_
      refine w_bret ok (by simp) d23_34 (by decide) (by decide) ?_
      exact ⟨Or.inl ⟨rfl, hlt⟩, rfl⟩
theorem d24_0 : decode prog_3_method_15_code 0 = .ok (.iload_n 1, 1) := by decide +kernel
theorem d24_1 : decode prog_3_method_15_code 1 = .ok (.bipush 6, 2) := by decide +kernel
theorem d24_3 : decode prog_3_method_15_code 3 = .ok (.iushr, 1) := by decide +kernel
theorem d24_4 : decode prog_3_method_15_code 4 = .ok (.istore_n 3, 1) := by decide +kernel
theorem d24_5 : decode prog_3_method_15_code 5 = .ok (.iload_n 3, 1) := by decide +kernel
theorem d24_6 : decode prog_3_method_15_code 6 = .ok (.aload_n 0, 1) := by decide +kernel
theorem d24_7 : decode prog_3_method_15_code 7 = .ok (.getfield 13, 3) := by decide +kernel
theorem d24_10 : decode prog_3_method_15_code 10 = .ok (.arraylength, 1) := by decide +kernel
theorem d24_11 : decode prog_3_method_15_code 11 = .ok (.if_icmp .lt 27, 3) := by decide +kernel
theorem d24_14 : decode prog_3_method_15_code 14 = .ok (.aload_n 0, 1) := by decide +kernel
theorem d24_15 : decode prog_3_method_15_code 15 = .ok (.aload_n 0, 1) := by decide +kernel
theorem d24_16 : decode prog_3_method_15_code 16 = .ok (.getfield 13, 3) := by decide +kernel
theorem d24_19 : decode prog_3_method_15_code 19 = .ok (.iconst 2, 1) := by decide +kernel
theorem d24_20 : decode prog_3_method_15_code 20 = .ok (.aload_n 0, 1) := by decide +kernel
theorem d24_21 : decode prog_3_method_15_code 21 = .ok (.getfield 13, 3) := by decide +kernel
theorem d24_24 : decode prog_3_method_15_code 24 = .ok (.arraylength, 1) := by decide +kernel
theorem d24_25 : decode prog_3_method_15_code 25 = .ok (.imul, 1) := by decide +kernel
theorem d24_26 : decode prog_3_method_15_code 26 = .ok (.iload_n 3, 1) := by decide +kernel
theorem d24_27 : decode prog_3_method_15_code 27 = .ok (.iconst 1, 1) := by decide +kernel
theorem d24_28 : decode prog_3_method_15_code 28 = .ok (.iadd, 1) := by decide +kernel
theorem d24_29 : decode prog_3_method_15_code 29 = .ok (.invokestatic 113, 3) := by decide +kernel
theorem d24_32 : decode prog_3_method_15_code 32 = .ok (.invokestatic 118, 3) := by decide +kernel
theorem d24_35 : decode prog_3_method_15_code 35 = .ok (.putfield 13, 3) := by decide +kernel
theorem d24_38 : decode prog_3_method_15_code 38 = .ok (.iload_n 2, 1) := by decide +kernel
theorem d24_39 : decode prog_3_method_15_code 39 = .ok (.ifCond .eq 18, 3) := by decide +kernel
theorem d24_42 : decode prog_3_method_15_code 42 = .ok (.aload_n 0, 1) := by decide +kernel
theorem d24_43 : decode prog_3_method_15_code 43 = .ok (.getfield 13, 3) := by decide +kernel
theorem d24_46 : decode prog_3_method_15_code 46 = .ok (.iload_n 3, 1) := by decide +kernel
theorem d24_47 : decode prog_3_method_15_code 47 = .ok (.dup2, 1) := by decide +kernel
theorem d24_48 : decode prog_3_method_15_code 48 = .ok (.laload, 1) := by decide +kernel
theorem d24_49 : decode prog_3_method_15_code 49 = .ok (.lconst 1, 1) := by decide +kernel
theorem d24_50 : decode prog_3_method_15_code 50 = .ok (.iload_n 1, 1) := by decide +kernel
theorem d24_51 : decode prog_3_method_15_code 51 = .ok (.lshl, 1) := by decide +kernel
theorem d24_52 : decode prog_3_method_15_code 52 = .ok (.lor, 1) := by decide +kernel
theorem d24_53 : decode prog_3_method_15_code 53 = .ok (.lastore, 1) := by decide +kernel
theorem d24_54 : decode prog_3_method_15_code 54 = .ok (.goto 19, 3) := by decide +kernel
theorem d24_57 : decode prog_3_method_15_code 57 = .ok (.aload_n 0, 1) := by decide +kernel
theorem d24_58 : decode prog_3_method_15_code 58 = .ok (.getfield 13, 3) := by decide +kernel
theorem d24_61 : decode prog_3_method_15_code 61 = .ok (.iload_n 3, 1) := by decide +kernel
theorem d24_62 : decode prog_3_method_15_code 62 = .ok (.dup2, 1) := by decide +kernel
theorem d24_63 : decode prog_3_method_15_code 63 = .ok (.laload, 1) := by decide +kernel
theorem d24_64 : decode prog_3_method_15_code 64 = .ok (.lconst 1, 1) := by decide +kernel
theorem d24_65 : decode prog_3_method_15_code 65 = .ok (.iload_n 1, 1) := by decide +kernel
theorem d24_66 : decode prog_3_method_15_code 66 = .ok (.lshl, 1) := by decide +kernel
theorem d24_67 : decode prog_3_method_15_code 67 = .ok (.ldc2_w 121, 3) := by decide +kernel
theorem d24_70 : decode prog_3_method_15_code 70 = .ok (.lxor, 1) := by decide +kernel
theorem d24_71 : decode prog_3_method_15_code 71 = .ok (.land, 1) := by decide +kernel
theorem d24_72 : decode prog_3_method_15_code 72 = .ok (.lastore, 1) := by decide +kernel
theorem d24_73 : decode prog_3_method_15_code 73 = .ok (.return_, 1) := by decide +kernel
abbrev mn_24 : MethodName := ⟨"com/example/hornconv/hornconv/FactTable", "setMember", "(IZ)V"⟩
theorem pd_285bJI295bJ : parseMethodDescriptor "([JI)[J" = some ⟨[(.array .long), .int], some (.array .long)⟩ := by decide +kernel
set_option maxRecDepth 65536 in
set_option maxHeartbeats 40000000 in
theorem rm_setM (l : Launch) (Z : State) (a0 : Array Value) (hw : ∀ d ∈ tables_1, d.before a0 Z = true) (ws : List Jvm.Cond) (n0 : Nat) (h0 : Heap) (Z0 : Old Z n0 h0) (t un me ag de sl po : Addr) (n : Nat) (rw lw us : Int32) (A_t : FO Z h0 t un me ag de sl po (Int32.ofNat n) rw lw us) (Lm w : Nat) (μ : Nat → Int64) (x : Int32) (A_me : PA .long Z h0 me (lv Lm μ)) (hw6 : Jvm.Free.XT.ushr x 6 = Int32.ofNat w) (hwb : w < 64) (hLm : Lm ≤ 126) (g : Nat) (hg : g ≤ 126) (hgr : ¬ w < Lm → 2 * Lm ≤ g ∧ w + 1 ≤ g) (ge_t : n0 ≤ t) (ge_me : n0 ≤ me) (ne_t_me : t ≠ me)  :
    Met l Z n0 mn_24 prog_3_method_15_code 4 none ws ({ frames := 2, cells := 1, slots := (g + 0), locals := 33 } : Room) #[(.ref t), (.int x), (.int (1 : Int32))] h0 (fun u h => u = none ∧ ∃ me' Lm' μ', (me' = me ∨ h0.size ≤ me') ∧ n0 ≤ me' ∧ t ≠ me' ∧ w < Lm' ∧ Lm ≤ Lm' ∧ Lm' ≤ 126 ∧ Keep h0 h [t, me] ∧ FO Z h t un me' ag de sl po (Int32.ofNat n) rw lw us ∧ PA .long Z h me' (lv Lm' μ')) := by
  refine met_of Z0 (plainFor_of_name pn_com_example_hornconv_hornconv_FactTable) (Ls := #[.val (.ref t), .val (.int x), .val (.int (1 : Int32)), .unset]) (fun m => by first | (simp [entryFrame, mkF, argsToLocals, Value.category]; done) | rfl) ?_
  intro K ok
  have Kp : Keep h0 h0 [t, me] := Keep.refl _ _
  show W K l _ n0 _ h0 0 0 0 #[.val (.ref t), .val (.int x), .val (.int (1 : Int32)), .unset] []
  refine w_iloadN ok d24_0 rfl ?_
  refine w_bipush ok d24_1 (v := (6 : Int32)) rfl ?_
  refine w_iushr ok d24_3 ?_
  show W K l _ n0 _ h0 0 0 4 #[.val (.ref t), .val (.int x), .val (.int (1 : Int32)), .unset] [(.int (Jvm.Free.XT.ushr x (6 : Int32)))]
  rw [hw6]
  refine w_istoreN ok d24_4 (L' := #[.val (.ref t), .val (.int x), .val (.int (1 : Int32)), .val (.int (Int32.ofNat w))]) rfl ?_
  refine w_iloadN ok d24_5 rfl ?_
  refine w_aloadN ok d24_6 rfl rfl ?_
  refine w_getfield ok (v := (.ref me)) (host := "") (f := ("com/example/hornconv/hornconv/FactTable", "members", "[J", (.array .long))) 1 d24_7 (Or.inl (hw _ (List.mem_of_getElem? (i := 18) rfl))) Via.refl A_t rfl rfl ?_
  refine w_arraylength ok (z := Int32.ofNat Lm) d24_10 A_me (lv_z (by omega)) (own_ix0 (by omega)) ?_
  show W K l _ n0 _ h0 0 0 11 #[.val (.ref t), .val (.int x), .val (.int (1 : Int32)), .val (.int (Int32.ofNat w))] [(.int (Int32.ofNat Lm)), (.int (Int32.ofNat w))]
  refine w_icmp_lt ok d24_11 (pc' := 38) (by first | decide | omega | (dsimp only; omega)) (fun hc1 => ?_) (fun hc1 => ?_)
  · skip
    have hM1 : w < Lm := (own_lt (by omega) (by omega)).mp hc1
    refine w_iloadN ok d24_38 rfl ?_
    refine w_if_eq ok d24_39 (pc' := 57) (by first | decide | omega | (dsimp only; omega)) (fun hc3 => False.elim (by revert hc3; decide)) (fun hc3 => ?_)
    refine w_aloadN ok d24_42 rfl rfl ?_
    refine w_getfield ok (v := (.ref me)) (host := "") (f := ("com/example/hornconv/hornconv/FactTable", "members", "[J", (.array .long))) 1 d24_43 (Or.inl (hw _ (List.mem_of_getElem? (i := 18) rfl))) Via.refl A_t rfl rfl ?_
    refine w_iloadN ok d24_46 rfl ?_
    refine w_dup2 ok d24_47 rfl rfl ?_
    refine w_laload ok (v := (.long (μ w))) d24_48 A_me (own_ix0 (by omega)) (lvg (j := w) (by omega) (by omega)) ?_
    refine w_lconst ok d24_49 (v := (1 : Int64)) rfl ?_
    refine w_iloadN ok d24_50 rfl ?_
    refine w_lshl ok d24_51 ?_
    refine w_lor ok d24_52 ?_
    refine w_lastore ok d24_53 A_me ge_me (own_ix0 (by omega)) (lvl (j := w) (by omega) (by omega)) (fun h4 W_h4 A1_h4 => ?_)
    replace Kp := Kp.wr W_h4 (Or.inl (by simp))
    replace A_t := A_t.other W_h4 ne_t_me
    replace A_me : PA .long Z h4 me ((lv Lm μ).set (Int32.ofNat w).toNatClampNeg (.long ((μ w) ||| ((1 : Int64) <<< (x &&& 0x3f).toInt64)))) := A1_h4
    rw [own_ix (j := w) (by omega), lv_set] at A_me
    refine w_goto ok d24_54 (pc' := 73) (by first | decide | omega | (dsimp only; omega)) ?_
    refine w_ret ok d24_73 (by first | decide | omega | (dsimp only; omega)) (by first | decide | omega | (dsimp only; omega)) ?_
    exact ⟨rfl, me, Lm, (updL μ w ((μ w) ||| ((1 : Int64) <<< (x &&& 0x3f).toInt64))), Or.inl rfl, ge_me, ne_t_me, hM1, Nat.le_refl _, hLm, Kp, A_t, A_me⟩
  · skip
    refine w_aloadN ok d24_14 rfl rfl ?_
    refine w_aloadN ok d24_15 rfl rfl ?_
    refine w_getfield ok (v := (.ref me)) (host := "") (f := ("com/example/hornconv/hornconv/FactTable", "members", "[J", (.array .long))) 1 d24_16 (Or.inl (hw _ (List.mem_of_getElem? (i := 18) rfl))) Via.refl A_t rfl rfl ?_
    refine w_iconst ok d24_19 (v := (2 : Int32)) rfl ?_
    refine w_aloadN ok d24_20 rfl rfl ?_
    refine w_getfield ok (v := (.ref me)) (host := "") (f := ("com/example/hornconv/hornconv/FactTable", "members", "[J", (.array .long))) 1 d24_21 (Or.inl (hw _ (List.mem_of_getElem? (i := 18) rfl))) Via.refl A_t rfl rfl ?_
    refine w_arraylength ok (z := Int32.ofNat Lm) d24_24 A_me (lv_z (by omega)) (own_ix0 (by omega)) ?_
    show W K l _ n0 _ h0 0 0 25 #[.val (.ref t), .val (.int x), .val (.int (1 : Int32)), .val (.int (Int32.ofNat w))] [(.int (Int32.ofNat Lm)), (.int (2 : Int32)), (.ref me), (.ref t)]
    refine w_imul ok d24_25 ?_
    refine w_iloadN ok d24_26 rfl ?_
    refine w_iconst ok d24_27 (v := (1 : Int32)) rfl ?_
    refine w_iadd ok d24_28 ?_
    show W K l _ n0 _ h0 0 0 29 #[.val (.ref t), .val (.int x), .val (.int (1 : Int32)), .val (.int (Int32.ofNat w))] [(.int ((Int32.ofNat w) + (1 : Int32))), (.int ((2 : Int32) * (Int32.ofNat Lm))), (.ref me), (.ref t)]
    rw [own_m2, own_inc]
    refine w_callS ok (y := mn_25) (argsL := [(.int (Int32.ofNat (2 * Lm))), (.int (Int32.ofNat (w + 1)))]) (rest := [(.ref me), (.ref t)]) d24_29 (hw _ (List.mem_of_getElem? (i := 148) rfl)) (hw _ (List.mem_of_getElem? (i := 149) rfl)) (hw _ (List.mem_of_getElem? (i := 70) rfl)) (hw _ (List.mem_of_getElem? (i := 150) rfl)) (by first | decide | omega | (dsimp only; omega)) pd_28II29I rfl rfl (by first | decide | omega | (dsimp only; omega)) (Nat.le_of_ble_eq_true rfl) (by first | decide | omega | (dsimp only; omega)) (by first | decide | omega | (dsimp only; omega)) (fun z0 => rm_max l Z a0 hw [] n0 h0 z0 (Int32.ofNat (2 * Lm)) (Int32.ofNat (w + 1))) (fun v5 h6 qv5 => ?_)
    obtain ⟨rfl, rfl⟩ := qv5
    obtain ⟨M, eM, hM1, hM2, hM3⟩ := own_mx (g := g) hc1 (by omega) (by omega) (hgr (fun q => hc1 ((own_lt (by omega) (by omega)).mpr q)))
    rw [eM]
    show W K l _ n0 _ h0 0 0 32 #[.val (.ref t), .val (.int x), .val (.int (1 : Int32)), .val (.int (Int32.ofNat w))] [(.int (Int32.ofNat M)), (.ref me), (.ref t)]
    refine w_callS ok (y := mn_26) (argsL := [(.ref me), (.int (Int32.ofNat M))]) (rest := [(.ref t)]) d24_32 (hw _ (List.mem_of_getElem? (i := 151) rfl)) (hw _ (List.mem_of_getElem? (i := 152) rfl)) (hw _ (List.mem_of_getElem? (i := 31) rfl)) (hw _ (List.mem_of_getElem? (i := 153) rfl)) (by first | decide | omega | (dsimp only; omega)) pd_285bJI295bJ rfl rfl (by first | decide | omega | (dsimp only; omega)) (Nat.le_of_ble_eq_true rfl) (by first | decide | omega | (dsimp only; omega)) (by first | decide | omega | (dsimp only; omega)) (fun z0 => cp_long l Z a0 hw [] n0 h0 z0 g (by omega) me (lv Lm μ) (Int32.ofNat M) A_me (by rw [lv_len, own_ix (by omega)]; omega) (own_ix0 (by omega)) (by rw [own_ix (by omega)]; omega)) (fun v7 h8 qv7 => ?_)
    obtain ⟨mc, rfl, sz_mc, ge_mc, K1, A_mc⟩ := qv7
    have ne_t_mc : t ≠ mc := Nat.ne_of_lt (Nat.lt_of_lt_of_le A_t.lt sz_mc)
    have ne_me_mc : me ≠ mc := Nat.ne_of_lt (Nat.lt_of_lt_of_le A_me.lt sz_mc)
    have szq_mc : h0.size ≤ mc := Nat.le_trans Kp.1 sz_mc
    replace Kp := Kp.trans K1 all0
    replace A_t := A_t.keep K1 nin0
    replace A_me := A_me.keep K1 nin0
    replace A_mc : PA .long Z h8 mc (lv M (fun j => if j < Lm then μ j else 0)) := by
      have e := A_mc
      rw [own_ix (j := M) (by omega), lv_len, lv_grow μ (by omega)] at e
      exact e
    show W K l _ n0 _ h8 _ _ 35 #[.val (.ref t), .val (.int x), .val (.int (1 : Int32)), .val (.int (Int32.ofNat w))] [(.ref mc), (.ref t)]
    refine w_putfield ok (host := "") (f := ("com/example/hornconv/hornconv/FactTable", "members", "[J", (.array .long))) 1 d24_35 (Or.inl (hw _ (List.mem_of_getElem? (i := 18) rfl))) Via.refl A_t (la_FactTable hw) rfl rfl (Or.inl (hw _ (List.mem_of_getElem? (i := 19) rfl))) (hw _ (List.mem_of_getElem? (i := 7) rfl)) rfl rfl ge_t (fun h9 W_h9 A1_h9 => ?_)
    replace Kp := Kp.wr W_h9 (Or.inl (by simp))
    replace A_me := A_me.other W_h9 (Ne.symm ne_t_me)
    replace A_mc := A_mc.other W_h9 (Ne.symm ne_t_mc)
    replace A_t : Ob Z h9 t "com/example/hornconv/hornconv/FactTable" fl_FactTable [(.ref un), (.ref mc), (.int (Int32.ofNat n)), (.ref ag), (.ref de), (.ref sl), (.ref po), (.int rw), (.int lw), (.int us)] := A1_h9
    show W K l _ n0 _ h9 _ _ 38 #[.val (.ref t), .val (.int x), .val (.int (1 : Int32)), .val (.int (Int32.ofNat w))] []
    refine w_iloadN ok d24_38 rfl ?_
    refine w_if_eq ok d24_39 (pc' := 57) (by first | decide | omega | (dsimp only; omega)) (fun hc11 => False.elim (by revert hc11; decide)) (fun hc11 => ?_)
    refine w_aloadN ok d24_42 rfl rfl ?_
    refine w_getfield ok (v := (.ref mc)) (host := "") (f := ("com/example/hornconv/hornconv/FactTable", "members", "[J", (.array .long))) 1 d24_43 (Or.inl (hw _ (List.mem_of_getElem? (i := 18) rfl))) Via.refl A_t rfl rfl ?_
    refine w_iloadN ok d24_46 rfl ?_
    refine w_dup2 ok d24_47 rfl rfl ?_
    refine w_laload ok (v := (.long ((fun j => if j < Lm then μ j else 0) w))) d24_48 A_mc (own_ix0 (by omega)) (lvg (j := w) (by omega) (by omega)) ?_
    refine w_lconst ok d24_49 (v := (1 : Int64)) rfl ?_
    refine w_iloadN ok d24_50 rfl ?_
    refine w_lshl ok d24_51 ?_
    refine w_lor ok d24_52 ?_
    refine w_lastore ok d24_53 A_mc ge_mc (own_ix0 (by omega)) (lvl (j := w) (by omega) (by omega)) (fun h12 W_h12 A1_h12 => ?_)
    replace Kp := Kp.wr W_h12 (Or.inr szq_mc)
    replace A_t := A_t.other W_h12 ne_t_mc
    replace A_me := A_me.other W_h12 ne_me_mc
    replace A_mc : PA .long Z h12 mc ((lv M (fun j => if j < Lm then μ j else 0)).set (Int32.ofNat w).toNatClampNeg (.long (((fun j => if j < Lm then μ j else 0) w) ||| ((1 : Int64) <<< (x &&& 0x3f).toInt64)))) := A1_h12
    rw [own_ix (j := w) (by omega), lv_set] at A_mc
    refine w_goto ok d24_54 (pc' := 73) (by first | decide | omega | (dsimp only; omega)) ?_
    refine w_ret ok d24_73 (by first | decide | omega | (dsimp only; omega)) (by first | decide | omega | (dsimp only; omega)) ?_
    exact ⟨rfl, mc, M, (updL (fun j => if j < Lm then μ j else 0) w (((fun j => if j < Lm then μ j else 0) w) ||| ((1 : Int64) <<< (x &&& 0x3f).toInt64))), Or.inr szq_mc, ge_mc, ne_t_mc, hM1, Nat.le_of_lt hM2, by omega, Kp, A_t, A_mc⟩
theorem d27_0 : decode prog_3_method_13_code 0 = .ok (.aload_n 0, 1) := by decide +kernel
theorem d27_1 : decode prog_3_method_13_code 1 = .ok (.iload_n 1, 1) := by decide +kernel
theorem d27_2 : decode prog_3_method_13_code 2 = .ok (.invokevirtual 49, 3) := by decide +kernel
theorem d27_5 : decode prog_3_method_13_code 5 = .ok (.ifCond .ne 5, 3) := by decide +kernel
theorem d27_8 : decode prog_3_method_13_code 8 = .ok (.iconst (-1), 1) := by decide +kernel
theorem d27_9 : decode prog_3_method_13_code 9 = .ok (.ireturn, 1) := by decide +kernel
theorem d27_10 : decode prog_3_method_13_code 10 = .ok (.aload_n 0, 1) := by decide +kernel
theorem d27_11 : decode prog_3_method_13_code 11 = .ok (.getfield 7, 3) := by decide +kernel
theorem d27_14 : decode prog_3_method_13_code 14 = .ok (.iconst 0, 1) := by decide +kernel
theorem d27_15 : decode prog_3_method_13_code 15 = .ok (.iload_n 1, 1) := by decide +kernel
theorem d27_16 : decode prog_3_method_13_code 16 = .ok (.iastore, 1) := by decide +kernel
theorem d27_17 : decode prog_3_method_13_code 17 = .ok (.aload_n 0, 1) := by decide +kernel
theorem d27_18 : decode prog_3_method_13_code 18 = .ok (.getfield 28, 3) := by decide +kernel
theorem d27_21 : decode prog_3_method_13_code 21 = .ok (.aload_n 0, 1) := by decide +kernel
theorem d27_22 : decode prog_3_method_13_code 22 = .ok (.aload_n 0, 1) := by decide +kernel
theorem d27_23 : decode prog_3_method_13_code 23 = .ok (.getfield 7, 3) := by decide +kernel
theorem d27_26 : decode prog_3_method_13_code 26 = .ok (.aload_n 0, 1) := by decide +kernel
theorem d27_27 : decode prog_3_method_13_code 27 = .ok (.aload_n 0, 1) := by decide +kernel
theorem d27_28 : decode prog_3_method_13_code 28 = .ok (.getfield 7, 3) := by decide +kernel
theorem d27_31 : decode prog_3_method_13_code 31 = .ok (.iconst 0, 1) := by decide +kernel
theorem d27_32 : decode prog_3_method_13_code 32 = .ok (.invokevirtual 53, 3) := by decide +kernel
theorem d27_35 : decode prog_3_method_13_code 35 = .ok (.invokevirtual 57, 3) := by decide +kernel
theorem d27_38 : decode prog_3_method_13_code 38 = .ok (.iaload, 1) := by decide +kernel
theorem d27_39 : decode prog_3_method_13_code 39 = .ok (.ireturn, 1) := by decide +kernel
abbrev mn_27 : MethodName := ⟨"com/example/hornconv/hornconv/FactTable", "single", "(I)I"⟩
theorem pd_28I29Z : parseMethodDescriptor "(I)Z" = some ⟨[.int], some .boolean⟩ := by decide +kernel
theorem pd_285bII29I : parseMethodDescriptor "([II)I" = some ⟨[(.array .int), .int], some .int⟩ := by decide +kernel
set_option maxRecDepth 65536 in
set_option maxHeartbeats 40000000 in
theorem rm_single (l : Launch) (Z : State) (a0 : Array Value) (hw : ∀ d ∈ tables_1, d.before a0 Z = true) (ws : List Jvm.Cond) (n0 : Nat) (h0 : Heap) (Z0 : Old Z n0 h0) (t un me ag de sl po : Addr) (n : Nat) (rw lw us : Int32) (A_t : FO Z h0 t un me ag de sl po (Int32.ofNat n) rw lw us) (hn : 1 ≤ n ∧ n ≤ 3) (h1n : n = 1) (Lm w La N r : Nat) (μ : Nat → Int64) (uu A f : Nat → Int32) (x : Int32) (A_un : PA .int Z h0 un (sv 1 uu)) (A_me : PA .long Z h0 me (lv Lm μ)) (A_ag : PA .int Z h0 ag (sv La A)) (A_sl : PA .int Z h0 sl (sv N f)) (hw6 : Jvm.Free.XT.ushr x 6 = Int32.ofNat w) (hwb : w < 64) (hLm : Lm ≤ 126) (hLa : r * n ≤ La ∧ La < 1000) (hN : N = 8 ∨ N = 16) (hI : IR r N f) (hr : r < N) (ge_un : n0 ≤ un) (ne_t_un : t ≠ un) (ne_un_me : un ≠ me) (ne_un_ag : un ≠ ag) (ne_un_de : un ≠ de) (ne_un_sl : un ≠ sl) (ne_un_po : un ≠ po)  :
    Met l Z n0 mn_27 prog_3_method_13_code 2 (some .int) ws ({ frames := 2, cells := 0, slots := 0, locals := 35 } : Room) #[(.ref t), (.int x)] h0 (fun u h => ∃ z uu', u = some (.int z) ∧ Keep h0 h [un] ∧ PA .int Z h un (sv 1 uu')) := by
  refine met_of Z0 (plainFor_of_name pn_com_example_hornconv_hornconv_FactTable) (Ls := #[.val (.ref t), .val (.int x)]) (fun m => by first | (simp [entryFrame, mkF, argsToLocals, Value.category]; done) | rfl) ?_
  intro K ok
  have Kp : Keep h0 h0 [un] := Keep.refl _ _
  show W K l _ n0 _ h0 0 0 0 #[.val (.ref t), .val (.int x)] []
  refine w_aloadN ok d27_0 rfl rfl ?_
  refine w_iloadN ok d27_1 rfl ?_
  refine w_callP ok (y := mn_23) (a := t) (argsL := [(.int x)]) (rest := []) d27_2 (hw _ (List.mem_of_getElem? (i := 140) rfl)) (hw _ (List.mem_of_getElem? (i := 141) rfl)) (hw _ (List.mem_of_getElem? (i := 142) rfl)) (hw _ (List.mem_of_getElem? (i := 7) rfl)) (hw _ (List.mem_of_getElem? (i := 8) rfl)) (hw _ (List.mem_of_getElem? (i := 143) rfl)) (by decide) A_t.1 pd_28I29Z rfl rfl (by decide) (Nat.le_of_ble_eq_true rfl) (by decide) (by decide) (fun z0 => rm_isM l Z a0 hw [] n0 h0 z0 t un me ag de sl po n rw lw us A_t Lm w μ x A_me hw6 hwb hLm) (fun v1 h2 qv1 => ?_)
  obtain ⟨⟨rfl, hcov⟩ | rfl, rfl⟩ := qv1
  · skip
    show W K l _ n0 _ h0 0 0 5 #[.val (.ref t), .val (.int x)] [(.int (1 : Int32))]
    refine w_if_ne ok d27_5 (pc' := 10) (by decide) (fun hc4 => ?_) (fun hc4 => False.elim (by revert hc4; decide))
    refine w_aloadN ok d27_10 rfl rfl ?_
    refine w_getfield ok (v := (.ref un)) (host := "") (f := ("com/example/hornconv/hornconv/FactTable", "unary", "[I", (.array .int))) 0 d27_11 (Or.inl (hw _ (List.mem_of_getElem? (i := 15) rfl))) Via.refl A_t rfl rfl ?_
    refine w_iconst ok d27_14 (v := (0 : Int32)) rfl ?_
    refine w_iloadN ok d27_15 rfl ?_
    refine w_iastore ok d27_16 A_un ge_un (by decide) (svl (j := 0) (by omega) (by omega)) (fun h5 W_h5 A1_h5 => ?_)
    replace Kp := Kp.wr W_h5 (Or.inl (by simp))
    replace A_t := A_t.other W_h5 ne_t_un
    replace A_me := A_me.other W_h5 (Ne.symm ne_un_me)
    replace A_ag := A_ag.other W_h5 (Ne.symm ne_un_ag)
    replace A_sl := A_sl.other W_h5 (Ne.symm ne_un_sl)
    replace A_un : PA .int Z h5 un ((sv 1 uu).set (0 : Int32).toNatClampNeg (.int x)) := A1_h5
    rw [show (0 : Int32).toNatClampNeg = 0 from rfl, sv_set] at A_un
    refine w_aloadN ok d27_17 rfl rfl ?_
    refine w_getfield ok (v := (.ref sl)) (host := "") (f := ("com/example/hornconv/hornconv/FactTable", "slots", "[I", (.array .int))) 5 d27_18 (Or.inl (hw _ (List.mem_of_getElem? (i := 27) rfl))) Via.refl A_t rfl rfl ?_
    refine w_aloadN ok d27_21 rfl rfl ?_
    refine w_aloadN ok d27_22 rfl rfl ?_
    refine w_getfield ok (v := (.ref un)) (host := "") (f := ("com/example/hornconv/hornconv/FactTable", "unary", "[I", (.array .int))) 0 d27_23 (Or.inl (hw _ (List.mem_of_getElem? (i := 15) rfl))) Via.refl A_t rfl rfl ?_
    refine w_aloadN ok d27_26 rfl rfl ?_
    refine w_aloadN ok d27_27 rfl rfl ?_
    refine w_getfield ok (v := (.ref un)) (host := "") (f := ("com/example/hornconv/hornconv/FactTable", "unary", "[I", (.array .int))) 0 d27_28 (Or.inl (hw _ (List.mem_of_getElem? (i := 15) rfl))) Via.refl A_t rfl rfl ?_
    refine w_iconst ok d27_31 (v := (0 : Int32)) rfl ?_
    refine w_callP ok (y := mn_6) (a := t) (argsL := [(.ref un), (.int (0 : Int32))]) (rest := [(.ref un), (.ref t), (.ref sl)]) d27_32 (hw _ (List.mem_of_getElem? (i := 42) rfl)) (hw _ (List.mem_of_getElem? (i := 43) rfl)) (hw _ (List.mem_of_getElem? (i := 44) rfl)) (hw _ (List.mem_of_getElem? (i := 7) rfl)) (hw _ (List.mem_of_getElem? (i := 8) rfl)) (hw _ (List.mem_of_getElem? (i := 45) rfl)) (by decide) A_t.1 pd_285bII29I rfl rfl (by decide) (Nat.le_of_ble_eq_true rfl) (by decide) (by decide) (fun z0 => rm_hash l Z a0 hw [] n0 h5 z0 t un me ag de sl po n rw lw us A_t (by omega) un 1 0 (upd uu 0 x) A_un (by omega) (by omega)) (fun v7 h8 qv7 => ?_)
    obtain ⟨hz6, rfl, rfl⟩ := qv7
    show W K l _ n0 _ h5 0 0 35 #[.val (.ref t), .val (.int x)] [(.int hz6), (.ref un), (.ref t), (.ref sl)]
    refine w_callP ok (y := mn_7) (a := t) (argsL := [(.ref un), (.int hz6)]) (rest := [(.ref sl)]) d27_35 (hw _ (List.mem_of_getElem? (i := 47) rfl)) (hw _ (List.mem_of_getElem? (i := 48) rfl)) (hw _ (List.mem_of_getElem? (i := 49) rfl)) (hw _ (List.mem_of_getElem? (i := 7) rfl)) (hw _ (List.mem_of_getElem? (i := 8) rfl)) (hw _ (List.mem_of_getElem? (i := 50) rfl)) (by decide) A_t.1 pd_285bII29I rfl rfl (by decide) (Nat.le_of_ble_eq_true rfl) (by decide) (by decide) (fun z0 => rm_find l Z a0 hw [] n0 h5 z0 t un me ag de sl po n rw lw us A_t (by omega) un 1 La N r (upd uu 0 x) A f hz6 A_un A_ag A_sl (by omega) hLa hN hI hr) (fun v10 h11 qv10 => ?_)
    obtain ⟨s9, h8_s9, rfl, hF_s9, rfl⟩ := qv10
    show W K l _ n0 _ h5 0 0 38 #[.val (.ref t), .val (.int x)] [(.int (Int32.ofNat s9)), (.ref sl)]
    refine w_iaload ok (v := (.int (f s9))) d27_38 A_sl (own_ix0 (by omega)) (svg h8_s9 (by omega)) ?_
    refine w_iret ok d27_39 (by decide) (by decide) ?_
    exact ⟨_, _, rfl, Kp, A_un⟩
  · skip
    show W K l _ n0 _ h0 0 0 5 #[.val (.ref t), .val (.int x)] [(.int (0 : Int32))]
    refine w_if_ne ok d27_5 (pc' := 10) (by decide) (fun hc13 => False.elim (by revert hc13; decide)) (fun hc13 => ?_)
    refine w_iconst ok d27_8 (v := (-1 : Int32)) rfl ?_
    refine w_iret ok d27_9 (by decide) (by decide) ?_
    exact ⟨_, _, rfl, Kp, A_un⟩
theorem END1 : True := trivial
theorem d19_0 : decode prog_4_method_8_code 0 = .ok (.iload_n 0, 1) := by decide +kernel
theorem d19_1 : decode prog_4_method_8_code 1 = .ok (.ldc 48, 2) := by decide +kernel
theorem d19_3 : decode prog_4_method_8_code 3 = .ok (.imul, 1) := by decide +kernel
theorem d19_4 : decode prog_4_method_8_code 4 = .ok (.istore_n 1, 1) := by decide +kernel
theorem d19_5 : decode prog_4_method_8_code 5 = .ok (.iload_n 1, 1) := by decide +kernel
theorem d19_6 : decode prog_4_method_8_code 6 = .ok (.iload_n 1, 1) := by decide +kernel
theorem d19_7 : decode prog_4_method_8_code 7 = .ok (.bipush 16, 2) := by decide +kernel
theorem d19_9 : decode prog_4_method_8_code 9 = .ok (.iushr, 1) := by decide +kernel
theorem d19_10 : decode prog_4_method_8_code 10 = .ok (.ixor, 1) := by decide +kernel
theorem d19_11 : decode prog_4_method_8_code 11 = .ok (.ireturn, 1) := by decide +kernel
theorem pn_com_example_hornconv_hornconv_FactTable_PositionIndex : plainName "com/example/hornconv/hornconv/FactTable$PositionIndex" = true := by first | (simp [plainName, overriddenIn]; done) | decide +kernel
abbrev mn_19 : MethodName := ⟨"com/example/hornconv/hornconv/FactTable$PositionIndex", "mix", "(I)I"⟩
set_option maxRecDepth 65536 in
set_option maxHeartbeats 40000000 in
theorem rm_mix (l : Launch) (Z : State) (a0 : Array Value) (hw : ∀ d ∈ tables_1, d.before a0 Z = true) (ws : List Jvm.Cond) (n0 : Nat) (h0 : Heap) (Z0 : Old Z n0 h0) (x : Int32)  :
    Met l Z n0 mn_19 prog_4_method_8_code 2 (some .int) ws ({ frames := 0, cells := 0, slots := 0, locals := 0 } : Room) #[(.int x)] h0 (fun u h => u = some (.int (own_mix x)) ∧ h0 = h) := by
  refine met_of Z0 (plainFor_of_name pn_com_example_hornconv_hornconv_FactTable_PositionIndex) (Ls := #[.val (.int x), .unset]) (fun m => by first | (simp [entryFrame, mkF, argsToLocals, Value.category]; done) | rfl) ?_
  intro K ok
  show W K l _ n0 _ h0 0 0 0 #[.val (.int x), .unset] []
  refine w_iloadN ok d19_0 rfl ?_
  refine w_ldcI (v := (-1640531527 : Int32)) ok d19_1 (hw _ (List.mem_of_getElem? (i := 121) rfl)) ?_
  refine w_imul ok d19_3 ?_
  refine w_istoreN ok d19_4 (L' := #[.val (.int x), .val (.int (x * (-1640531527 : Int32)))]) rfl ?_
  refine w_iloadN ok d19_5 rfl ?_
  refine w_iloadN ok d19_6 rfl ?_
  refine w_bipush ok d19_7 (v := (16 : Int32)) rfl ?_
  refine w_iushr ok d19_9 ?_
  refine w_ixor ok d19_10 ?_
  refine w_iret ok d19_11 (by decide) (by decide) ?_
  exact ⟨rfl, rfl⟩
theorem d18_0 : decode prog_4_method_6_code 0 = .ok (.aload_n 0, 1) := by decide +kernel
theorem d18_1 : decode prog_4_method_6_code 1 = .ok (.getfield 9, 3) := by decide +kernel
theorem d18_4 : decode prog_4_method_6_code 4 = .ok (.arraylength, 1) := by decide +kernel
theorem d18_5 : decode prog_4_method_6_code 5 = .ok (.iconst 1, 1) := by decide +kernel
theorem d18_6 : decode prog_4_method_6_code 6 = .ok (.isub, 1) := by decide +kernel
theorem d18_7 : decode prog_4_method_6_code 7 = .ok (.istore_n 2, 1) := by decide +kernel
theorem d18_8 : decode prog_4_method_6_code 8 = .ok (.iload_n 1, 1) := by decide +kernel
theorem d18_9 : decode prog_4_method_6_code 9 = .ok (.invokestatic 45, 3) := by decide +kernel
theorem d18_12 : decode prog_4_method_6_code 12 = .ok (.iload_n 2, 1) := by decide +kernel
theorem d18_13 : decode prog_4_method_6_code 13 = .ok (.iand, 1) := by decide +kernel
theorem d18_14 : decode prog_4_method_6_code 14 = .ok (.istore_n 3, 1) := by decide +kernel
theorem d18_15 : decode prog_4_method_6_code 15 = .ok (.aload_n 0, 1) := by decide +kernel
theorem d18_16 : decode prog_4_method_6_code 16 = .ok (.getfield 9, 3) := by decide +kernel
theorem d18_19 : decode prog_4_method_6_code 19 = .ok (.iload_n 3, 1) := by decide +kernel
theorem d18_20 : decode prog_4_method_6_code 20 = .ok (.iaload, 1) := by decide +kernel
theorem d18_21 : decode prog_4_method_6_code 21 = .ok (.iconst (-1), 1) := by decide +kernel
theorem d18_22 : decode prog_4_method_6_code 22 = .ok (.if_icmp .eq 22, 3) := by decide +kernel
theorem d18_25 : decode prog_4_method_6_code 25 = .ok (.aload_n 0, 1) := by decide +kernel
theorem d18_26 : decode prog_4_method_6_code 26 = .ok (.getfield 9, 3) := by decide +kernel
theorem d18_29 : decode prog_4_method_6_code 29 = .ok (.iload_n 3, 1) := by decide +kernel
theorem d18_30 : decode prog_4_method_6_code 30 = .ok (.iaload, 1) := by decide +kernel
theorem d18_31 : decode prog_4_method_6_code 31 = .ok (.iload_n 1, 1) := by decide +kernel
theorem d18_32 : decode prog_4_method_6_code 32 = .ok (.if_icmp .eq 12, 3) := by decide +kernel
theorem d18_35 : decode prog_4_method_6_code 35 = .ok (.iload_n 3, 1) := by decide +kernel
theorem d18_36 : decode prog_4_method_6_code 36 = .ok (.iconst 1, 1) := by decide +kernel
theorem d18_37 : decode prog_4_method_6_code 37 = .ok (.iadd, 1) := by decide +kernel
theorem d18_38 : decode prog_4_method_6_code 38 = .ok (.iload_n 2, 1) := by decide +kernel
theorem d18_39 : decode prog_4_method_6_code 39 = .ok (.iand, 1) := by decide +kernel
theorem d18_40 : decode prog_4_method_6_code 40 = .ok (.istore_n 3, 1) := by decide +kernel
theorem d18_41 : decode prog_4_method_6_code 41 = .ok (.goto (-26), 3) := by decide +kernel
theorem d18_44 : decode prog_4_method_6_code 44 = .ok (.iload_n 3, 1) := by decide +kernel
theorem d18_45 : decode prog_4_method_6_code 45 = .ok (.ireturn, 1) := by decide +kernel
set_option maxRecDepth 65536 in
set_option maxHeartbeats 40000000 in
theorem lp_slot (l : Launch) (Z : State) (a0 : Array Value) (hw : ∀ d ∈ tables_1, d.before a0 Z = true) (n0 : Nat) (h0 : Heap) (K : Cx) (ok : Ok K Z n0 "com/example/hornconv/hornconv/FactTable$PositionIndex" prog_4_method_6_code 4 (some .int) "slot") (q ke he co nx : Addr) (sz : Int32) (A_q : PO Z h0 q ke he co nx sz) (x : Int32) (Kf : Nat → Int32) (A_ke : PA .int Z h0 ke (sv 8 Kf)) :
    ∀ (cc i : Nat), Kf ((own_s x + (i + cc)) % 8) = -1 → stop Kf x i → W K l ({ frames := 1, cells := 0, slots := 0, locals := 13 } : Room) n0 (fun u h => ∃ i, u = some (.int (Int32.ofNat ((own_s x + i) % 8))) ∧ stop Kf x i ∧ (Kf ((own_s x + i) % 8) = -1 ∨ Kf ((own_s x + i) % 8) = x) ∧ h0 = h) h0 0 0 15 #[.val (.ref q), .val (.int x), .val (.int (7 : Int32)), .val (.int (Int32.ofNat ((own_s x + i) % 8)))] [] := by
  intro cc
  induction cc with
  | zero =>
    intro i hc hst
    show W K l _ n0 _ h0 0 0 15 #[.val (.ref q), .val (.int x), .val (.int (7 : Int32)), .val (.int (Int32.ofNat ((own_s x + i) % 8)))] []
    refine w_aloadN ok d18_15 rfl rfl ?_
    refine w_getfield ok (v := (.ref ke)) (host := "") (f := ("com/example/hornconv/hornconv/FactTable$PositionIndex", "keys", "[I", (.array .int))) 0 d18_16 (Or.inl (hw _ (List.mem_of_getElem? (i := 95) rfl))) Via.refl A_q rfl rfl ?_
    refine w_iloadN ok d18_19 rfl ?_
    refine w_iaload ok (v := (.int (Kf ((own_s x + i) % 8)))) d18_20 A_ke (own_ix0 (by omega)) (svg (j := ((own_s x + i) % 8)) (by omega) (by omega)) ?_
    refine w_iconst ok d18_21 (v := (-1 : Int32)) rfl ?_
    refine w_icmp_eq ok d18_22 (pc' := 44) (by decide) (fun hc1 => ?_) (fun hc1 => False.elim (by exact hc1 hc))
    refine w_iloadN ok d18_44 rfl ?_
    refine w_iret ok d18_45 (by decide) (by decide) ?_
    exact ⟨i, rfl, hst, Or.inl hc, rfl⟩
  | succ cc ih =>
    intro i hc hst
    show W K l _ n0 _ h0 0 0 15 #[.val (.ref q), .val (.int x), .val (.int (7 : Int32)), .val (.int (Int32.ofNat ((own_s x + i) % 8)))] []
    refine w_aloadN ok d18_15 rfl rfl ?_
    refine w_getfield ok (v := (.ref ke)) (host := "") (f := ("com/example/hornconv/hornconv/FactTable$PositionIndex", "keys", "[I", (.array .int))) 0 d18_16 (Or.inl (hw _ (List.mem_of_getElem? (i := 95) rfl))) Via.refl A_q rfl rfl ?_
    refine w_iloadN ok d18_19 rfl ?_
    refine w_iaload ok (v := (.int (Kf ((own_s x + i) % 8)))) d18_20 A_ke (own_ix0 (by omega)) (svg (j := ((own_s x + i) % 8)) (by omega) (by omega)) ?_
    refine w_iconst ok d18_21 (v := (-1 : Int32)) rfl ?_
    refine w_icmp_eq ok d18_22 (pc' := 44) (by decide) (fun hc3 => ?_) (fun hc3 => ?_)
    · skip
      refine w_iloadN ok d18_44 rfl ?_
      refine w_iret ok d18_45 (by decide) (by decide) ?_
      exact ⟨i, rfl, hst, Or.inl hc3, rfl⟩
    · skip
      refine w_aloadN ok d18_25 rfl rfl ?_
      refine w_getfield ok (v := (.ref ke)) (host := "") (f := ("com/example/hornconv/hornconv/FactTable$PositionIndex", "keys", "[I", (.array .int))) 0 d18_26 (Or.inl (hw _ (List.mem_of_getElem? (i := 95) rfl))) Via.refl A_q rfl rfl ?_
      refine w_iloadN ok d18_29 rfl ?_
      refine w_iaload ok (v := (.int (Kf ((own_s x + i) % 8)))) d18_30 A_ke (own_ix0 (by omega)) (svg (j := ((own_s x + i) % 8)) (by omega) (by omega)) ?_
      refine w_iloadN ok d18_31 rfl ?_
      refine w_icmp_eq ok d18_32 (pc' := 44) (by decide) (fun hc5 => ?_) (fun hc5 => ?_)
      · skip
        refine w_iloadN ok d18_44 rfl ?_
        refine w_iret ok d18_45 (by decide) (by decide) ?_
        exact ⟨i, rfl, hst, Or.inr hc5, rfl⟩
      · skip
        refine w_iloadN ok d18_35 rfl ?_
        refine w_iconst ok d18_36 (v := (1 : Int32)) rfl ?_
        refine w_iadd ok d18_37 ?_
        refine w_iloadN ok d18_38 rfl ?_
        refine w_iand ok d18_39 ?_
        refine w_istoreN ok d18_40 (L' := #[.val (.ref q), .val (.int x), .val (.int (7 : Int32)), .val (.int (((Int32.ofNat ((own_s x + i) % 8)) + (1 : Int32)) &&& (7 : Int32)))]) rfl ?_
        refine w_goto ok d18_41 (pc' := 15) (by decide) ?_
        show W K l _ n0 _ h0 0 0 15 #[.val (.ref q), .val (.int x), .val (.int (7 : Int32)), .val (.int (((Int32.ofNat ((own_s x + i) % 8)) + (1 : Int32)) &&& (7 : Int32)))] []
        rw [show (Int32.ofNat ((own_s x + i) % 8) + 1) &&& 7 = Int32.ofNat ((own_s x + (i + 1)) % 8) from own_nxt (Or.inl rfl) (own_s x + i)]
        exact ih (i + 1) (by rw [show i + 1 + cc = i + (cc + 1) by omega]; exact hc) (fun j hj => if e : j = i then by rw [e]; exact ⟨hc3, hc5⟩ else hst j (by omega))
abbrev mn_18 : MethodName := ⟨"com/example/hornconv/hornconv/FactTable$PositionIndex", "slot", "(I)I"⟩
theorem pd_28I29I : parseMethodDescriptor "(I)I" = some ⟨[.int], some .int⟩ := by decide +kernel
set_option maxRecDepth 65536 in
set_option maxHeartbeats 40000000 in
theorem rm_slot (l : Launch) (Z : State) (a0 : Array Value) (hw : ∀ d ∈ tables_1, d.before a0 Z = true) (ws : List Jvm.Cond) (n0 : Nat) (h0 : Heap) (Z0 : Old Z n0 h0) (q ke he co nx : Addr) (sz : Int32) (A_q : PO Z h0 q ke he co nx sz) (x : Int32) (Kf : Nat → Int32) (A_ke : PA .int Z h0 ke (sv 8 Kf)) (hfr : ∀ s, ∃ m, Kf ((s + m) % 8) = -1)  :
    Met l Z n0 mn_18 prog_4_method_6_code 4 (some .int) ws ({ frames := 1, cells := 0, slots := 0, locals := 13 } : Room) #[(.ref q), (.int x)] h0 (fun u h => ∃ i, u = some (.int (Int32.ofNat ((own_s x + i) % 8))) ∧ stop Kf x i ∧ (Kf ((own_s x + i) % 8) = -1 ∨ Kf ((own_s x + i) % 8) = x) ∧ h0 = h) := by
  refine met_of Z0 (plainFor_of_name pn_com_example_hornconv_hornconv_FactTable_PositionIndex) (Ls := #[.val (.ref q), .val (.int x), .unset, .unset]) (fun m => by first | (simp [entryFrame, mkF, argsToLocals, Value.category]; done) | rfl) ?_
  intro K ok
  show W K l _ n0 _ h0 0 0 0 #[.val (.ref q), .val (.int x), .unset, .unset] []
  refine w_aloadN ok d18_0 rfl rfl ?_
  refine w_getfield ok (v := (.ref ke)) (host := "") (f := ("com/example/hornconv/hornconv/FactTable$PositionIndex", "keys", "[I", (.array .int))) 0 d18_1 (Or.inl (hw _ (List.mem_of_getElem? (i := 95) rfl))) Via.refl A_q rfl rfl ?_
  refine w_arraylength ok (z := (8 : Int32)) d18_4 A_ke (sv_len 8 _) (by decide) ?_
  show W K l _ n0 _ h0 0 0 5 #[.val (.ref q), .val (.int x), .unset, .unset] [(.int (8 : Int32))]
  refine w_iconst ok d18_5 (v := (1 : Int32)) rfl ?_
  refine w_isub ok d18_6 ?_
  show W K l _ n0 _ h0 0 0 7 #[.val (.ref q), .val (.int x), .unset, .unset] [(.int (7 : Int32))]
  refine w_istoreN ok d18_7 (L' := #[.val (.ref q), .val (.int x), .val (.int (7 : Int32)), .unset]) rfl ?_
  refine w_iloadN ok d18_8 rfl ?_
  refine w_callS ok (y := mn_19) (argsL := [(.int x)]) (rest := []) d18_9 (hw _ (List.mem_of_getElem? (i := 118) rfl)) (hw _ (List.mem_of_getElem? (i := 119) rfl)) (hw _ (List.mem_of_getElem? (i := 90) rfl)) (hw _ (List.mem_of_getElem? (i := 120) rfl)) (by decide) pd_28I29I rfl rfl (by decide) (Nat.le_of_ble_eq_true rfl) (by decide) (by decide) (fun z0 => rm_mix l Z a0 hw [] n0 h0 z0 x) (fun v1 h2 qv1 => ?_)
  obtain ⟨rfl, rfl⟩ := qv1
  show W K l _ n0 _ h0 0 0 12 #[.val (.ref q), .val (.int x), .val (.int (7 : Int32)), .unset] [(.int (own_mix x))]
  refine w_iloadN ok d18_12 rfl ?_
  refine w_iand ok d18_13 ?_
  refine w_istoreN ok d18_14 (L' := #[.val (.ref q), .val (.int x), .val (.int (7 : Int32)), .val (.int ((own_mix x) &&& (7 : Int32)))]) rfl ?_
  show W K l _ n0 _ h0 0 0 15 #[.val (.ref q), .val (.int x), .val (.int (7 : Int32)), .val (.int ((own_mix x) &&& (7 : Int32)))] []
  rw [own_st8 x]
  obtain ⟨c, hc⟩ := hfr (own_s x)
  exact lp_slot l Z a0 hw n0 h0 K ok q ke he co nx sz A_q x Kf A_ke c 0 (by rw [Nat.zero_add]; exact hc) (fun j hj => absurd hj (Nat.not_lt_zero _))
theorem d15_0 : decode prog_4_method_1_code 0 = .ok (.aload_n 0, 1) := by decide +kernel
theorem d15_1 : decode prog_4_method_1_code 1 = .ok (.invokespecial 3, 3) := by decide +kernel
theorem d15_4 : decode prog_4_method_1_code 4 = .ok (.aload_n 0, 1) := by decide +kernel
theorem d15_5 : decode prog_4_method_1_code 5 = .ok (.bipush 8, 2) := by decide +kernel
theorem d15_7 : decode prog_4_method_1_code 7 = .ok (.newarray .int, 2) := by decide +kernel
theorem d15_9 : decode prog_4_method_1_code 9 = .ok (.putfield 9, 3) := by decide +kernel
theorem d15_12 : decode prog_4_method_1_code 12 = .ok (.aload_n 0, 1) := by decide +kernel
theorem d15_13 : decode prog_4_method_1_code 13 = .ok (.bipush 8, 2) := by decide +kernel
theorem d15_15 : decode prog_4_method_1_code 15 = .ok (.newarray .int, 2) := by decide +kernel
theorem d15_17 : decode prog_4_method_1_code 17 = .ok (.putfield 15, 3) := by decide +kernel
theorem d15_20 : decode prog_4_method_1_code 20 = .ok (.aload_n 0, 1) := by decide +kernel
theorem d15_21 : decode prog_4_method_1_code 21 = .ok (.bipush 8, 2) := by decide +kernel
theorem d15_23 : decode prog_4_method_1_code 23 = .ok (.newarray .int, 2) := by decide +kernel
theorem d15_25 : decode prog_4_method_1_code 25 = .ok (.putfield 18, 3) := by decide +kernel
theorem d15_28 : decode prog_4_method_1_code 28 = .ok (.aload_n 0, 1) := by decide +kernel
theorem d15_29 : decode prog_4_method_1_code 29 = .ok (.iconst 4, 1) := by decide +kernel
theorem d15_30 : decode prog_4_method_1_code 30 = .ok (.newarray .int, 2) := by decide +kernel
theorem d15_32 : decode prog_4_method_1_code 32 = .ok (.putfield 21, 3) := by decide +kernel
theorem d15_35 : decode prog_4_method_1_code 35 = .ok (.aload_n 0, 1) := by decide +kernel
theorem d15_36 : decode prog_4_method_1_code 36 = .ok (.getfield 9, 3) := by decide +kernel
theorem d15_39 : decode prog_4_method_1_code 39 = .ok (.iconst (-1), 1) := by decide +kernel
theorem d15_40 : decode prog_4_method_1_code 40 = .ok (.invokestatic 24, 3) := by decide +kernel
theorem d15_43 : decode prog_4_method_1_code 43 = .ok (.return_, 1) := by decide +kernel
abbrev mn_15 : MethodName := ⟨"com/example/hornconv/hornconv/FactTable$PositionIndex", "<init>", "()V"⟩
theorem pd_285bII29V : parseMethodDescriptor "([II)V" = some ⟨[(.array .int), .int], none⟩ := by decide +kernel
set_option maxRecDepth 65536 in
set_option maxHeartbeats 40000000 in
theorem rm_pctor (l : Launch) (Z : State) (a0 : Array Value) (hw : ∀ d ∈ tables_1, d.before a0 Z = true) (ws : List Jvm.Cond) (n0 : Nat) (h0 : Heap) (Z0 : Old Z n0 h0) (q : Addr) (c : Nat → Int32) (A_q : Ob Z h0 q "com/example/hornconv/hornconv/FactTable$PositionIndex" fl_FactTable_PositionIndex [.null, .null, .null, .null, .int 0]) (ge_q : n0 ≤ q)  :
    Met l Z n0 mn_15 prog_4_method_1_code 1 none ws ({ frames := 1, cells := 4, slots := 28, locals := 15 } : Room) #[(.ref q)] h0 (fun u h => u = none ∧ ∃ D, IX Z h D q 0 c ∧ Keep h0 h [q] ∧ ∀ a ∈ D, a = q ∨ (h0.size ≤ a ∧ n0 ≤ a)) := by
  refine met_of Z0 (plainFor_of_name pn_com_example_hornconv_hornconv_FactTable_PositionIndex) (Ls := #[.val (.ref q)]) (fun m => by first | (simp [entryFrame, mkF, argsToLocals, Value.category]; done) | rfl) ?_
  intro K ok
  have Kp : Keep h0 h0 [q] := Keep.refl _ _
  show W K l _ n0 _ h0 0 0 0 #[.val (.ref q)] []
  refine w_aloadN ok d15_0 rfl rfl ?_
  refine w_initO ok d15_1 (hw _ (List.mem_of_getElem? (i := 94) rfl)) (hw _ (List.mem_of_getElem? (i := 13) rfl)) (hw _ (List.mem_of_getElem? (i := 14) rfl)) rfl (by decide) (Nat.le_of_ble_eq_true rfl) ?_
  show W K l _ n0 _ h0 0 0 4 #[.val (.ref q)] []
  refine w_aloadN ok d15_4 rfl rfl ?_
  refine w_bipush ok d15_5 (v := (8 : Int32)) rfl ?_
  refine w_newarray ok d15_7 (hw _ (List.mem_of_getElem? (i := 1) rfl)) (by decide) (cap := 8) (by decide) (by decide) (by decide) (by decide) (fun h2 b1 ea_b1 ge_b1 E_b1 A_b1 => ?_)
  have sz_b1 : h0.size ≤ b1 := Nat.le_trans Kp.1 (Nat.le_of_eq ea_b1.symm)
  have ne_q_b1 : q ≠ b1 := fun q => Nat.lt_irrefl _ (Nat.lt_of_lt_of_eq A_q.lt (ea_b1.symm.trans q.symm))
  replace Kp := Kp.ext E_b1
  replace A_q := A_q.ext E_b1
  replace A_b1 : PA .int Z h2 b1 [(.int (0 : Int32)), (.int (0 : Int32)), (.int (0 : Int32)), (.int (0 : Int32)), (.int (0 : Int32)), (.int (0 : Int32)), (.int (0 : Int32)), (.int (0 : Int32))] := A_b1
  refine w_putfield ok (host := "") (f := ("com/example/hornconv/hornconv/FactTable$PositionIndex", "keys", "[I", (.array .int))) 0 d15_9 (Or.inl (hw _ (List.mem_of_getElem? (i := 95) rfl))) Via.refl A_q (la_FactTable_PositionIndex hw) rfl rfl (Or.inl (hw _ (List.mem_of_getElem? (i := 96) rfl))) (hw _ (List.mem_of_getElem? (i := 89) rfl)) rfl rfl ge_q (fun h3 W_h3 A1_h3 => ?_)
  replace Kp := Kp.wr W_h3 (Or.inl (by simp))
  replace A_b1 := A_b1.other W_h3 (Ne.symm ne_q_b1)
  replace A_q : Ob Z h3 q "com/example/hornconv/hornconv/FactTable$PositionIndex" fl_FactTable_PositionIndex [(.ref b1), .null, .null, .null, (.int (0 : Int32))] := A1_h3
  refine w_aloadN ok d15_12 rfl rfl ?_
  refine w_bipush ok d15_13 (v := (8 : Int32)) rfl ?_
  refine w_newarray ok d15_15 (hw _ (List.mem_of_getElem? (i := 1) rfl)) (by decide) (cap := 8) (by decide) (by decide) (by decide) (by decide) (fun h5 b4 ea_b4 ge_b4 E_b4 A_b4 => ?_)
  have sz_b4 : h0.size ≤ b4 := Nat.le_trans Kp.1 (Nat.le_of_eq ea_b4.symm)
  have ne_q_b4 : q ≠ b4 := fun q => Nat.lt_irrefl _ (Nat.lt_of_lt_of_eq A_q.lt (ea_b4.symm.trans q.symm))
  have ne_b1_b4 : b1 ≠ b4 := fun q => Nat.lt_irrefl _ (Nat.lt_of_lt_of_eq A_b1.lt (ea_b4.symm.trans q.symm))
  replace Kp := Kp.ext E_b4
  replace A_q := A_q.ext E_b4
  replace A_b1 := A_b1.ext E_b4
  replace A_b4 : PA .int Z h5 b4 [(.int (0 : Int32)), (.int (0 : Int32)), (.int (0 : Int32)), (.int (0 : Int32)), (.int (0 : Int32)), (.int (0 : Int32)), (.int (0 : Int32)), (.int (0 : Int32))] := A_b4
  refine w_putfield ok (host := "") (f := ("com/example/hornconv/hornconv/FactTable$PositionIndex", "heads", "[I", (.array .int))) 1 d15_17 (Or.inl (hw _ (List.mem_of_getElem? (i := 97) rfl))) Via.refl A_q (la_FactTable_PositionIndex hw) rfl rfl (Or.inl (hw _ (List.mem_of_getElem? (i := 98) rfl))) (hw _ (List.mem_of_getElem? (i := 89) rfl)) rfl rfl ge_q (fun h6 W_h6 A1_h6 => ?_)
  replace Kp := Kp.wr W_h6 (Or.inl (by simp))
  replace A_b1 := A_b1.other W_h6 (Ne.symm ne_q_b1)
  replace A_b4 := A_b4.other W_h6 (Ne.symm ne_q_b4)
  replace A_q : Ob Z h6 q "com/example/hornconv/hornconv/FactTable$PositionIndex" fl_FactTable_PositionIndex [(.ref b1), (.ref b4), .null, .null, (.int (0 : Int32))] := A1_h6
  refine w_aloadN ok d15_20 rfl rfl ?_
  refine w_bipush ok d15_21 (v := (8 : Int32)) rfl ?_
  refine w_newarray ok d15_23 (hw _ (List.mem_of_getElem? (i := 1) rfl)) (by decide) (cap := 8) (by decide) (by decide) (by decide) (by decide) (fun h8 b7 ea_b7 ge_b7 E_b7 A_b7 => ?_)
  have sz_b7 : h0.size ≤ b7 := Nat.le_trans Kp.1 (Nat.le_of_eq ea_b7.symm)
  have ne_q_b7 : q ≠ b7 := fun q => Nat.lt_irrefl _ (Nat.lt_of_lt_of_eq A_q.lt (ea_b7.symm.trans q.symm))
  have ne_b1_b7 : b1 ≠ b7 := fun q => Nat.lt_irrefl _ (Nat.lt_of_lt_of_eq A_b1.lt (ea_b7.symm.trans q.symm))
  have ne_b4_b7 : b4 ≠ b7 := fun q => Nat.lt_irrefl _ (Nat.lt_of_lt_of_eq A_b4.lt (ea_b7.symm.trans q.symm))
  replace Kp := Kp.ext E_b7
  replace A_q := A_q.ext E_b7
  replace A_b1 := A_b1.ext E_b7
  replace A_b4 := A_b4.ext E_b7
  replace A_b7 : PA .int Z h8 b7 [(.int (0 : Int32)), (.int (0 : Int32)), (.int (0 : Int32)), (.int (0 : Int32)), (.int (0 : Int32)), (.int (0 : Int32)), (.int (0 : Int32)), (.int (0 : Int32))] := A_b7
  refine w_putfield ok (host := "") (f := ("com/example/hornconv/hornconv/FactTable$PositionIndex", "counts", "[I", (.array .int))) 2 d15_25 (Or.inl (hw _ (List.mem_of_getElem? (i := 99) rfl))) Via.refl A_q (la_FactTable_PositionIndex hw) rfl rfl (Or.inl (hw _ (List.mem_of_getElem? (i := 100) rfl))) (hw _ (List.mem_of_getElem? (i := 89) rfl)) rfl rfl ge_q (fun h9 W_h9 A1_h9 => ?_)
  replace Kp := Kp.wr W_h9 (Or.inl (by simp))
  replace A_b1 := A_b1.other W_h9 (Ne.symm ne_q_b1)
  replace A_b4 := A_b4.other W_h9 (Ne.symm ne_q_b4)
  replace A_b7 := A_b7.other W_h9 (Ne.symm ne_q_b7)
  replace A_q : Ob Z h9 q "com/example/hornconv/hornconv/FactTable$PositionIndex" fl_FactTable_PositionIndex [(.ref b1), (.ref b4), (.ref b7), .null, (.int (0 : Int32))] := A1_h9
  refine w_aloadN ok d15_28 rfl rfl ?_
  refine w_iconst ok d15_29 (v := (4 : Int32)) rfl ?_
  refine w_newarray ok d15_30 (hw _ (List.mem_of_getElem? (i := 1) rfl)) (by decide) (cap := 4) (by decide) (by decide) (by decide) (by decide) (fun h11 b10 ea_b10 ge_b10 E_b10 A_b10 => ?_)
  have sz_b10 : h0.size ≤ b10 := Nat.le_trans Kp.1 (Nat.le_of_eq ea_b10.symm)
  have ne_q_b10 : q ≠ b10 := fun q => Nat.lt_irrefl _ (Nat.lt_of_lt_of_eq A_q.lt (ea_b10.symm.trans q.symm))
  have ne_b1_b10 : b1 ≠ b10 := fun q => Nat.lt_irrefl _ (Nat.lt_of_lt_of_eq A_b1.lt (ea_b10.symm.trans q.symm))
  have ne_b4_b10 : b4 ≠ b10 := fun q => Nat.lt_irrefl _ (Nat.lt_of_lt_of_eq A_b4.lt (ea_b10.symm.trans q.symm))
  have ne_b7_b10 : b7 ≠ b10 := fun q => Nat.lt_irrefl _ (Nat.lt_of_lt_of_eq A_b7.lt (ea_b10.symm.trans q.symm))
  replace Kp := Kp.ext E_b10
  replace A_q := A_q.ext E_b10
  replace A_b1 := A_b1.ext E_b10
  replace A_b4 := A_b4.ext E_b10
  replace A_b7 := A_b7.ext E_b10
  replace A_b10 : PA .int Z h11 b10 [(.int (0 : Int32)), (.int (0 : Int32)), (.int (0 : Int32)), (.int (0 : Int32))] := A_b10
  refine w_putfield ok (host := "") (f := ("com/example/hornconv/hornconv/FactTable$PositionIndex", "next", "[I", (.array .int))) 3 d15_32 (Or.inl (hw _ (List.mem_of_getElem? (i := 101) rfl))) Via.refl A_q (la_FactTable_PositionIndex hw) rfl rfl (Or.inl (hw _ (List.mem_of_getElem? (i := 102) rfl))) (hw _ (List.mem_of_getElem? (i := 89) rfl)) rfl rfl ge_q (fun h12 W_h12 A1_h12 => ?_)
  replace Kp := Kp.wr W_h12 (Or.inl (by simp))
  replace A_b1 := A_b1.other W_h12 (Ne.symm ne_q_b1)
  replace A_b4 := A_b4.other W_h12 (Ne.symm ne_q_b4)
  replace A_b7 := A_b7.other W_h12 (Ne.symm ne_q_b7)
  replace A_b10 := A_b10.other W_h12 (Ne.symm ne_q_b10)
  replace A_q : Ob Z h12 q "com/example/hornconv/hornconv/FactTable$PositionIndex" fl_FactTable_PositionIndex [(.ref b1), (.ref b4), (.ref b7), (.ref b10), (.int (0 : Int32))] := A1_h12
  refine w_aloadN ok d15_35 rfl rfl ?_
  refine w_getfield ok (v := (.ref b1)) (host := "") (f := ("com/example/hornconv/hornconv/FactTable$PositionIndex", "keys", "[I", (.array .int))) 0 d15_36 (Or.inl (hw _ (List.mem_of_getElem? (i := 95) rfl))) Via.refl A_q rfl rfl ?_
  refine w_iconst ok d15_39 (v := (-1 : Int32)) rfl ?_
  refine w_callS ok (y := mn_4) (argsL := [(.ref b1), (.int (-1 : Int32))]) (rest := []) d15_40 (hw _ (List.mem_of_getElem? (i := 103) rfl)) (hw _ (List.mem_of_getElem? (i := 30) rfl)) (hw _ (List.mem_of_getElem? (i := 31) rfl)) (hw _ (List.mem_of_getElem? (i := 32) rfl)) (by decide) pd_285bII29V rfl rfl (by decide) (Nat.le_of_ble_eq_true rfl) (by decide) (by decide) (fun z0 => rm_fill l Z a0 hw [] n0 h12 z0 b1 (-1) 8 (fun _ => (0 : Int32)) (by omega) A_b1 ge_b1) (fun v13 h14 qv13 => ?_)
  obtain ⟨rfl, K1, A1⟩ := qv13
  replace Kp := Kp.trans K1 (allS (Or.inr sz_b1) all0)
  replace A_q := A_q.keep K1 (ninS ne_q_b1 nin0)
  replace A_b4 := A_b4.keep K1 (ninS (Ne.symm ne_b1_b4) nin0)
  replace A_b7 := A_b7.keep K1 (ninS (Ne.symm ne_b1_b7) nin0)
  replace A_b10 := A_b10.keep K1 (ninS (Ne.symm ne_b1_b10) nin0)
  replace A_b1 := A1
  show W K l _ n0 _ h14 4 28 43 #[.val (.ref q)] []
  refine w_ret ok d15_43 (by decide) (by decide) ?_
  exact ⟨rfl, [q, b1, b4, b7, b10], ⟨b1, b4, b7, b10, 0, fun _ => -1, fun _ => 0, fun _ => 0, fun _ => 0, rfl, ⟨ne_q_b1, ne_q_b4, ne_q_b7, ne_q_b10, ne_b1_b4, ne_b1_b7, ne_b1_b10, ne_b4_b7, ne_b4_b10, ne_b7_b10⟩, PX.zero c _ _, A_q, A_b1, A_b4, A_b7, A_b10⟩, Kp, allS (Or.inl rfl) (allS (Or.inr ⟨sz_b1, ge_b1⟩) (allS (Or.inr ⟨sz_b4, ge_b4⟩) (allS (Or.inr ⟨sz_b7, ge_b7⟩) (allS (Or.inr ⟨sz_b10, ge_b10⟩) all0))))⟩
theorem d17_0 : decode prog_4_method_2_code 0 = .ok (.iload_n 2, 1) := by decide +kernel
theorem d17_1 : decode prog_4_method_2_code 1 = .ok (.aload_n 0, 1) := by decide +kernel
theorem d17_2 : decode prog_4_method_2_code 2 = .ok (.getfield 21, 3) := by decide +kernel
theorem d17_5 : decode prog_4_method_2_code 5 = .ok (.arraylength, 1) := by decide +kernel
theorem d17_6 : decode prog_4_method_2_code 6 = .ok (.if_icmp .ne 17, 3) := by decide +kernel
theorem d17_9 : decode prog_4_method_2_code 9 = .ok (.aload_n 0, 1) := by decide +kernel
theorem d17_10 : decode prog_4_method_2_code 10 = .ok (.aload_n 0, 1) := by decide +kernel
theorem d17_11 : decode prog_4_method_2_code 11 = .ok (.getfield 21, 3) := by decide +kernel
theorem d17_14 : decode prog_4_method_2_code 14 = .ok (.iconst 2, 1) := by decide +kernel
theorem d17_15 : decode prog_4_method_2_code 15 = .ok (.iload_n 2, 1) := by decide +kernel
theorem d17_16 : decode prog_4_method_2_code 16 = .ok (.imul, 1) := by decide +kernel
theorem d17_17 : decode prog_4_method_2_code 17 = .ok (.invokestatic 30, 3) := by decide +kernel
theorem d17_20 : decode prog_4_method_2_code 20 = .ok (.putfield 21, 3) := by decide +kernel
theorem d17_23 : decode prog_4_method_2_code 23 = .ok (.aload_n 0, 1) := by decide +kernel
theorem d17_24 : decode prog_4_method_2_code 24 = .ok (.iload_n 1, 1) := by decide +kernel
theorem d17_25 : decode prog_4_method_2_code 25 = .ok (.invokevirtual 34, 3) := by decide +kernel
theorem d17_28 : decode prog_4_method_2_code 28 = .ok (.istore_n 3, 1) := by decide +kernel
theorem d17_29 : decode prog_4_method_2_code 29 = .ok (.aload_n 0, 1) := by decide +kernel
theorem d17_30 : decode prog_4_method_2_code 30 = .ok (.getfield 9, 3) := by decide +kernel
theorem d17_33 : decode prog_4_method_2_code 33 = .ok (.iload_n 3, 1) := by decide +kernel
theorem d17_34 : decode prog_4_method_2_code 34 = .ok (.iaload, 1) := by decide +kernel
theorem d17_35 : decode prog_4_method_2_code 35 = .ok (.iconst (-1), 1) := by decide +kernel
theorem d17_36 : decode prog_4_method_2_code 36 = .ok (.if_icmp .ne 27, 3) := by decide +kernel
theorem d17_39 : decode prog_4_method_2_code 39 = .ok (.aload_n 0, 1) := by decide +kernel
theorem d17_40 : decode prog_4_method_2_code 40 = .ok (.getfield 9, 3) := by decide +kernel
theorem d17_43 : decode prog_4_method_2_code 43 = .ok (.iload_n 3, 1) := by decide +kernel
theorem d17_44 : decode prog_4_method_2_code 44 = .ok (.iload_n 1, 1) := by decide +kernel
theorem d17_45 : decode prog_4_method_2_code 45 = .ok (.iastore, 1) := by decide +kernel
theorem d17_46 : decode prog_4_method_2_code 46 = .ok (.aload_n 0, 1) := by decide +kernel
theorem d17_47 : decode prog_4_method_2_code 47 = .ok (.getfield 15, 3) := by decide +kernel
theorem d17_50 : decode prog_4_method_2_code 50 = .ok (.iload_n 3, 1) := by decide +kernel
theorem d17_51 : decode prog_4_method_2_code 51 = .ok (.iconst (-1), 1) := by decide +kernel
theorem d17_52 : decode prog_4_method_2_code 52 = .ok (.iastore, 1) := by decide +kernel
theorem d17_53 : decode prog_4_method_2_code 53 = .ok (.aload_n 0, 1) := by decide +kernel
theorem d17_54 : decode prog_4_method_2_code 54 = .ok (.dup, 1) := by decide +kernel
theorem d17_55 : decode prog_4_method_2_code 55 = .ok (.getfield 38, 3) := by decide +kernel
theorem d17_58 : decode prog_4_method_2_code 58 = .ok (.iconst 1, 1) := by decide +kernel
theorem d17_59 : decode prog_4_method_2_code 59 = .ok (.iadd, 1) := by decide +kernel
theorem d17_60 : decode prog_4_method_2_code 60 = .ok (.putfield 38, 3) := by decide +kernel
theorem d17_63 : decode prog_4_method_2_code 63 = .ok (.aload_n 0, 1) := by decide +kernel
theorem d17_64 : decode prog_4_method_2_code 64 = .ok (.getfield 21, 3) := by decide +kernel
theorem d17_67 : decode prog_4_method_2_code 67 = .ok (.iload_n 2, 1) := by decide +kernel
theorem d17_68 : decode prog_4_method_2_code 68 = .ok (.aload_n 0, 1) := by decide +kernel
theorem d17_69 : decode prog_4_method_2_code 69 = .ok (.getfield 15, 3) := by decide +kernel
theorem d17_72 : decode prog_4_method_2_code 72 = .ok (.iload_n 3, 1) := by decide +kernel
theorem d17_73 : decode prog_4_method_2_code 73 = .ok (.iaload, 1) := by decide +kernel
theorem d17_74 : decode prog_4_method_2_code 74 = .ok (.iastore, 1) := by decide +kernel
theorem d17_75 : decode prog_4_method_2_code 75 = .ok (.aload_n 0, 1) := by decide +kernel
theorem d17_76 : decode prog_4_method_2_code 76 = .ok (.getfield 15, 3) := by decide +kernel
theorem d17_79 : decode prog_4_method_2_code 79 = .ok (.iload_n 3, 1) := by decide +kernel
theorem d17_80 : decode prog_4_method_2_code 80 = .ok (.iload_n 2, 1) := by decide +kernel
theorem d17_81 : decode prog_4_method_2_code 81 = .ok (.iastore, 1) := by decide +kernel
theorem d17_82 : decode prog_4_method_2_code 82 = .ok (.aload_n 0, 1) := by decide +kernel
theorem d17_83 : decode prog_4_method_2_code 83 = .ok (.getfield 18, 3) := by decide +kernel
theorem d17_86 : decode prog_4_method_2_code 86 = .ok (.iload_n 3, 1) := by decide +kernel
theorem d17_87 : decode prog_4_method_2_code 87 = .ok (.dup2, 1) := by decide +kernel
theorem d17_88 : decode prog_4_method_2_code 88 = .ok (.iaload, 1) := by decide +kernel
theorem d17_89 : decode prog_4_method_2_code 89 = .ok (.iconst 1, 1) := by decide +kernel
theorem d17_90 : decode prog_4_method_2_code 90 = .ok (.iadd, 1) := by decide +kernel
theorem d17_91 : decode prog_4_method_2_code 91 = .ok (.iastore, 1) := by decide +kernel
theorem d17_92 : decode prog_4_method_2_code 92 = .ok (.iconst 2, 1) := by decide +kernel
theorem d17_93 : decode prog_4_method_2_code 93 = .ok (.aload_n 0, 1) := by decide +kernel
theorem d17_94 : decode prog_4_method_2_code 94 = .ok (.getfield 38, 3) := by decide +kernel
theorem d17_97 : decode prog_4_method_2_code 97 = .ok (.imul, 1) := by decide +kernel
theorem d17_98 : decode prog_4_method_2_code 98 = .ok (.aload_n 0, 1) := by decide +kernel
theorem d17_99 : decode prog_4_method_2_code 99 = .ok (.getfield 9, 3) := by decide +kernel
theorem d17_102 : decode prog_4_method_2_code 102 = .ok (.arraylength, 1) := by decide +kernel
theorem d17_103 : decode prog_4_method_2_code 103 = .ok (.if_icmp .le 7, 3) := by decide +kernel
theorem d17_106 : decode prog_4_method_2_code 106 = .ok (.aload_n 0, 1) := by decide +kernel
theorem d17_107 : decode prog_4_method_2_code 107 = .ok (.invokevirtual 42, 3) := by decide +kernel
theorem d17_110 : decode prog_4_method_2_code 110 = .ok (.return_, 1) := by decide +kernel
theorem pd_285bII295bI : parseMethodDescriptor "([II)[I" = some ⟨[(.array .int), .int], some (.array .int)⟩ := by decide +kernel
abbrev mn_17 : MethodName := ⟨"com/example/hornconv/hornconv/FactTable$PositionIndex", "add", "(II)V"⟩
set_option maxRecDepth 65536 in
set_option maxHeartbeats 40000000 in
theorem rm_padd (l : Launch) (Z : State) (a0 : Array Value) (hw : ∀ d ∈ tables_1, d.before a0 Z = true) (ws : List Jvm.Cond) (n0 : Nat) (h0 : Heap) (Z0 : Old Z n0 h0) (D : List Addr) (q : Addr) (k : Nat) (c : Nat → Int32) (A_q : IX Z h0 D q k c) (hD0 : ∀ a ∈ D, n0 ≤ a) (hk : k ≤ 4) (hc : ∀ j, c j ≠ -1) (hnd : ndc c k ≤ 2) :
    Met l Z n0 mn_17 prog_4_method_2_code 4 none ws ({ frames := 2, cells := 1, slots := 8, locals := 33 } : Room) #[(.ref q), (.int (c k)), (.int (Int32.ofNat k))] h0 (fun u h => u = none ∧ ∃ D', IX Z h D' q (k + 1) c ∧ Keep h0 h D ∧ ∀ a ∈ D', a ∈ D ∨ (h0.size ≤ a ∧ n0 ≤ a)) := by
  refine met_of Z0 (plainFor_of_name pn_com_example_hornconv_hornconv_FactTable_PositionIndex) (Ls := #[.val (.ref q), .val (.int (c k)), .val (.int (Int32.ofNat k)), .unset]) (fun m => by first | (simp [entryFrame, mkF, argsToLocals, Value.category]; done) | rfl) ?_
  intro K ok
  obtain ⟨ke, he, co, nx, sz, Kf, H, G, N, rfl, ⟨ne_q_ke, ne_q_he, ne_q_co, ne_q_nx, ne_ke_he, ne_ke_co, ne_ke_nx, ne_he_co, ne_he_nx, ne_co_nx⟩, P, A_q, A_ke, A_he, A_co, A_nx⟩ := A_q
  have ge_q : n0 ≤ q := hD0 _ (by simp)
  have ge_ke : n0 ≤ ke := hD0 _ (by simp)
  have ge_he : n0 ≤ he := hD0 _ (by simp)
  have ge_co : n0 ≤ co := hD0 _ (by simp)
  have ge_nx : n0 ≤ nx := hD0 _ (by simp)
  rw [cap4_lo (by omega)] at A_nx
  obtain hk4 | rfl : k < 4 ∨ k = 4 := by omega
  · skip
    have Kp : Keep h0 h0 [q, ke, he, co, nx] := Keep.refl _ _
    show W K l _ n0 _ h0 0 0 0 #[.val (.ref q), .val (.int (c k)), .val (.int (Int32.ofNat k)), .unset] []
    refine w_iloadN ok d17_0 rfl ?_
    refine w_aloadN ok d17_1 rfl rfl ?_
    refine w_getfield ok (v := (.ref nx)) (host := "") (f := ("com/example/hornconv/hornconv/FactTable$PositionIndex", "next", "[I", (.array .int))) 3 d17_2 (Or.inl (hw _ (List.mem_of_getElem? (i := 101) rfl))) Via.refl A_q rfl rfl ?_
    refine w_arraylength ok (z := (4 : Int32)) d17_5 A_nx (sv_len 4 _) (by decide) ?_
    show W K l _ n0 _ h0 0 0 6 #[.val (.ref q), .val (.int (c k)), .val (.int (Int32.ofNat k)), .unset] [(.int (4 : Int32)), (.int (Int32.ofNat k))]
    refine w_icmp_ne ok d17_6 (pc' := 23) (by decide) (fun hc1 => ?_) (fun hc1 => False.elim (by rw [show (4 : Int32) = Int32.ofNat 4 from rfl, own_eqn (by omega) (by omega)] at hc1; omega))
    refine w_aloadN ok d17_23 rfl rfl ?_
    refine w_iloadN ok d17_24 rfl ?_
    refine w_callP ok (y := mn_18) (a := q) (argsL := [(.int (c k))]) (rest := []) d17_25 (hw _ (List.mem_of_getElem? (i := 114) rfl)) (hw _ (List.mem_of_getElem? (i := 115) rfl)) (hw _ (List.mem_of_getElem? (i := 116) rfl)) (hw _ (List.mem_of_getElem? (i := 89) rfl)) (hw _ (List.mem_of_getElem? (i := 90) rfl)) (hw _ (List.mem_of_getElem? (i := 117) rfl)) (by decide) A_q.1 pd_28I29I rfl rfl (by decide) (Nat.le_of_ble_eq_true rfl) (by decide) (by decide) (fun z0 => rm_slot l Z a0 hw [] n0 h0 z0 q ke he co nx sz A_q (c k) Kf A_ke (PX.free P (by omega))) (fun v2 h3 qv2 => ?_)
    obtain ⟨i, rfl, hst, hki, rfl⟩ := qv2
    show W K l _ n0 _ h0 0 0 28 #[.val (.ref q), .val (.int (c k)), .val (.int (Int32.ofNat k)), .unset] [(.int (Int32.ofNat ((own_s (c k) + i) % 8)))]
    refine w_istoreN ok d17_28 (L' := #[.val (.ref q), .val (.int (c k)), .val (.int (Int32.ofNat k)), .val (.int (Int32.ofNat ((own_s (c k) + i) % 8)))]) rfl ?_
    refine w_aloadN ok d17_29 rfl rfl ?_
    refine w_getfield ok (v := (.ref ke)) (host := "") (f := ("com/example/hornconv/hornconv/FactTable$PositionIndex", "keys", "[I", (.array .int))) 0 d17_30 (Or.inl (hw _ (List.mem_of_getElem? (i := 95) rfl))) Via.refl A_q rfl rfl ?_
    refine w_iloadN ok d17_33 rfl ?_
    refine w_iaload ok (v := (.int (Kf ((own_s (c k) + i) % 8)))) d17_34 A_ke (own_ix0 (by omega)) (svg (j := ((own_s (c k) + i) % 8)) (by omega) (by omega)) ?_
    refine w_iconst ok d17_35 (v := (-1 : Int32)) rfl ?_
    refine w_icmp_ne ok d17_36 (pc' := 63) (by decide) (fun hc5 => ?_) (fun hc5 => ?_)
    · skip
      refine w_aloadN ok d17_63 rfl rfl ?_
      refine w_getfield ok (v := (.ref nx)) (host := "") (f := ("com/example/hornconv/hornconv/FactTable$PositionIndex", "next", "[I", (.array .int))) 3 d17_64 (Or.inl (hw _ (List.mem_of_getElem? (i := 101) rfl))) Via.refl A_q rfl rfl ?_
      refine w_iloadN ok d17_67 rfl ?_
      refine w_aloadN ok d17_68 rfl rfl ?_
      refine w_getfield ok (v := (.ref he)) (host := "") (f := ("com/example/hornconv/hornconv/FactTable$PositionIndex", "heads", "[I", (.array .int))) 1 d17_69 (Or.inl (hw _ (List.mem_of_getElem? (i := 97) rfl))) Via.refl A_q rfl rfl ?_
      refine w_iloadN ok d17_72 rfl ?_
      refine w_iaload ok (v := (.int (H ((own_s (c k) + i) % 8)))) d17_73 A_he (own_ix0 (by omega)) (svg (j := ((own_s (c k) + i) % 8)) (by omega) (by omega)) ?_
      refine w_iastore ok d17_74 A_nx ge_nx (own_ix0 (by omega)) (svl (j := k) (by omega) (by omega)) (fun h6 W_h6 A1_h6 => ?_)
      replace Kp := Kp.wr W_h6 (Or.inl (by simp))
      replace A_q := A_q.other W_h6 ne_q_nx
      replace A_ke := A_ke.other W_h6 ne_ke_nx
      replace A_he := A_he.other W_h6 ne_he_nx
      replace A_co := A_co.other W_h6 ne_co_nx
      replace A_nx : PA .int Z h6 nx ((sv 4 N).set (Int32.ofNat k).toNatClampNeg (.int (H ((own_s (c k) + i) % 8)))) := A1_h6
      rw [own_ix (j := k) (by omega), sv_set] at A_nx
      refine w_aloadN ok d17_75 rfl rfl ?_
      refine w_getfield ok (v := (.ref he)) (host := "") (f := ("com/example/hornconv/hornconv/FactTable$PositionIndex", "heads", "[I", (.array .int))) 1 d17_76 (Or.inl (hw _ (List.mem_of_getElem? (i := 97) rfl))) Via.refl A_q rfl rfl ?_
      refine w_iloadN ok d17_79 rfl ?_
      refine w_iloadN ok d17_80 rfl ?_
      refine w_iastore ok d17_81 A_he ge_he (own_ix0 (by omega)) (svl (j := ((own_s (c k) + i) % 8)) (by omega) (by omega)) (fun h7 W_h7 A1_h7 => ?_)
      replace Kp := Kp.wr W_h7 (Or.inl (by simp))
      replace A_q := A_q.other W_h7 ne_q_he
      replace A_ke := A_ke.other W_h7 ne_ke_he
      replace A_co := A_co.other W_h7 (Ne.symm ne_he_co)
      replace A_nx := A_nx.other W_h7 (Ne.symm ne_he_nx)
      replace A_he : PA .int Z h7 he ((sv 8 H).set (Int32.ofNat ((own_s (c k) + i) % 8)).toNatClampNeg (.int (Int32.ofNat k))) := A1_h7
      rw [own_ix (j := ((own_s (c k) + i) % 8)) (by omega), sv_set] at A_he
      refine w_aloadN ok d17_82 rfl rfl ?_
      refine w_getfield ok (v := (.ref co)) (host := "") (f := ("com/example/hornconv/hornconv/FactTable$PositionIndex", "counts", "[I", (.array .int))) 2 d17_83 (Or.inl (hw _ (List.mem_of_getElem? (i := 99) rfl))) Via.refl A_q rfl rfl ?_
      refine w_iloadN ok d17_86 rfl ?_
      refine w_dup2 ok d17_87 rfl rfl ?_
      refine w_iaload ok (v := (.int (G ((own_s (c k) + i) % 8)))) d17_88 A_co (own_ix0 (by omega)) (svg (j := ((own_s (c k) + i) % 8)) (by omega) (by omega)) ?_
      refine w_iconst ok d17_89 (v := (1 : Int32)) rfl ?_
      refine w_iadd ok d17_90 ?_
      refine w_iastore ok d17_91 A_co ge_co (own_ix0 (by omega)) (svl (j := ((own_s (c k) + i) % 8)) (by omega) (by omega)) (fun h8 W_h8 A1_h8 => ?_)
      replace Kp := Kp.wr W_h8 (Or.inl (by simp))
      replace A_q := A_q.other W_h8 ne_q_co
      replace A_ke := A_ke.other W_h8 ne_ke_co
      replace A_he := A_he.other W_h8 ne_he_co
      replace A_nx := A_nx.other W_h8 (Ne.symm ne_co_nx)
      replace A_co : PA .int Z h8 co ((sv 8 G).set (Int32.ofNat ((own_s (c k) + i) % 8)).toNatClampNeg (.int ((G ((own_s (c k) + i) % 8)) + (1 : Int32)))) := A1_h8
      rw [own_ix (j := ((own_s (c k) + i) % 8)) (by omega), sv_set] at A_co
      refine w_iconst ok d17_92 (v := (2 : Int32)) rfl ?_
      refine w_aloadN ok d17_93 rfl rfl ?_
      refine w_getfield ok (v := (.int sz)) (host := "") (f := ("com/example/hornconv/hornconv/FactTable$PositionIndex", "size", "I", .int)) 4 d17_94 (Or.inl (hw _ (List.mem_of_getElem? (i := 122) rfl))) Via.refl A_q rfl rfl ?_
      refine w_imul ok d17_97 ?_
      refine w_aloadN ok d17_98 rfl rfl ?_
      refine w_getfield ok (v := (.ref ke)) (host := "") (f := ("com/example/hornconv/hornconv/FactTable$PositionIndex", "keys", "[I", (.array .int))) 0 d17_99 (Or.inl (hw _ (List.mem_of_getElem? (i := 95) rfl))) Via.refl A_q rfl rfl ?_
      refine w_arraylength ok (z := (8 : Int32)) d17_102 A_ke (sv_len 8 _) (by decide) ?_
      show W K l _ n0 _ h8 0 0 103 #[.val (.ref q), .val (.int (c k)), .val (.int (Int32.ofNat k)), .val (.int (Int32.ofNat ((own_s (c k) + i) % 8)))] [(.int (8 : Int32)), (.int ((2 : Int32) * sz))]
      refine w_icmp_le ok d17_103 (pc' := 110) (by decide) (fun hc10 => ?_) (fun hc10 => False.elim (by exact own_sz0 P.2.2.2.2 hnd hc10))
      refine w_ret ok d17_110 (by decide) (by decide) ?_
      exact ⟨rfl, [q, ke, he, co, nx], ⟨ke, he, co, nx, sz, Kf, (upd H ((own_s (c k) + i) % 8) (Int32.ofNat k)), (upd G ((own_s (c k) + i) % 8) ((G ((own_s (c k) + i) % 8)) + (1 : Int32))), (upd N k (H ((own_s (c k) + i) % 8))), rfl, ⟨ne_q_ke, ne_q_he, ne_q_co, ne_q_nx, ne_ke_he, ne_ke_co, ne_ke_nx, ne_he_co, ne_he_nx, ne_co_nx⟩, P.old (i := i) (by omega) hc hst (hki.resolve_left hc5), A_q, A_ke, A_he, A_co, (by rw [cap4_lo (by omega)]; exact A_nx)⟩, Kp, fun a m => Or.inl m⟩
    · skip
      refine w_aloadN ok d17_39 rfl rfl ?_
      refine w_getfield ok (v := (.ref ke)) (host := "") (f := ("com/example/hornconv/hornconv/FactTable$PositionIndex", "keys", "[I", (.array .int))) 0 d17_40 (Or.inl (hw _ (List.mem_of_getElem? (i := 95) rfl))) Via.refl A_q rfl rfl ?_
      refine w_iloadN ok d17_43 rfl ?_
      refine w_iloadN ok d17_44 rfl ?_
      refine w_iastore ok d17_45 A_ke ge_ke (own_ix0 (by omega)) (svl (j := ((own_s (c k) + i) % 8)) (by omega) (by omega)) (fun h11 W_h11 A1_h11 => ?_)
      replace Kp := Kp.wr W_h11 (Or.inl (by simp))
      replace A_q := A_q.other W_h11 ne_q_ke
      replace A_he := A_he.other W_h11 (Ne.symm ne_ke_he)
      replace A_co := A_co.other W_h11 (Ne.symm ne_ke_co)
      replace A_nx := A_nx.other W_h11 (Ne.symm ne_ke_nx)
      replace A_ke : PA .int Z h11 ke ((sv 8 Kf).set (Int32.ofNat ((own_s (c k) + i) % 8)).toNatClampNeg (.int (c k))) := A1_h11
      rw [own_ix (j := ((own_s (c k) + i) % 8)) (by omega), sv_set] at A_ke
      refine w_aloadN ok d17_46 rfl rfl ?_
      refine w_getfield ok (v := (.ref he)) (host := "") (f := ("com/example/hornconv/hornconv/FactTable$PositionIndex", "heads", "[I", (.array .int))) 1 d17_47 (Or.inl (hw _ (List.mem_of_getElem? (i := 97) rfl))) Via.refl A_q rfl rfl ?_
      refine w_iloadN ok d17_50 rfl ?_
      refine w_iconst ok d17_51 (v := (-1 : Int32)) rfl ?_
      refine w_iastore ok d17_52 A_he ge_he (own_ix0 (by omega)) (svl (j := ((own_s (c k) + i) % 8)) (by omega) (by omega)) (fun h12 W_h12 A1_h12 => ?_)
      replace Kp := Kp.wr W_h12 (Or.inl (by simp))
      replace A_q := A_q.other W_h12 ne_q_he
      replace A_ke := A_ke.other W_h12 ne_ke_he
      replace A_co := A_co.other W_h12 (Ne.symm ne_he_co)
      replace A_nx := A_nx.other W_h12 (Ne.symm ne_he_nx)
      replace A_he : PA .int Z h12 he ((sv 8 H).set (Int32.ofNat ((own_s (c k) + i) % 8)).toNatClampNeg (.int (-1 : Int32))) := A1_h12
      rw [own_ix (j := ((own_s (c k) + i) % 8)) (by omega), sv_set] at A_he
      refine w_aloadN ok d17_53 rfl rfl ?_
      refine w_dup ok d17_54 rfl ?_
      refine w_getfield ok (v := (.int sz)) (host := "") (f := ("com/example/hornconv/hornconv/FactTable$PositionIndex", "size", "I", .int)) 4 d17_55 (Or.inl (hw _ (List.mem_of_getElem? (i := 122) rfl))) Via.refl A_q rfl rfl ?_
      refine w_iconst ok d17_58 (v := (1 : Int32)) rfl ?_
      refine w_iadd ok d17_59 ?_
      refine w_putfield ok (host := "") (f := ("com/example/hornconv/hornconv/FactTable$PositionIndex", "size", "I", .int)) 4 d17_60 (Or.inl (hw _ (List.mem_of_getElem? (i := 122) rfl))) Via.refl A_q (la_FactTable_PositionIndex hw) rfl rfl (Or.inl (hw _ (List.mem_of_getElem? (i := 123) rfl))) (hw _ (List.mem_of_getElem? (i := 89) rfl)) rfl rfl ge_q (fun h13 W_h13 A1_h13 => ?_)
      replace Kp := Kp.wr W_h13 (Or.inl (by simp))
      replace A_ke := A_ke.other W_h13 (Ne.symm ne_q_ke)
      replace A_he := A_he.other W_h13 (Ne.symm ne_q_he)
      replace A_co := A_co.other W_h13 (Ne.symm ne_q_co)
      replace A_nx := A_nx.other W_h13 (Ne.symm ne_q_nx)
      replace A_q : Ob Z h13 q "com/example/hornconv/hornconv/FactTable$PositionIndex" fl_FactTable_PositionIndex [(.ref ke), (.ref he), (.ref co), (.ref nx), (.int (sz + (1 : Int32)))] := A1_h13
      refine w_aloadN ok d17_63 rfl rfl ?_
      refine w_getfield ok (v := (.ref nx)) (host := "") (f := ("com/example/hornconv/hornconv/FactTable$PositionIndex", "next", "[I", (.array .int))) 3 d17_64 (Or.inl (hw _ (List.mem_of_getElem? (i := 101) rfl))) Via.refl A_q rfl rfl ?_
      refine w_iloadN ok d17_67 rfl ?_
      refine w_aloadN ok d17_68 rfl rfl ?_
      refine w_getfield ok (v := (.ref he)) (host := "") (f := ("com/example/hornconv/hornconv/FactTable$PositionIndex", "heads", "[I", (.array .int))) 1 d17_69 (Or.inl (hw _ (List.mem_of_getElem? (i := 97) rfl))) Via.refl A_q rfl rfl ?_
      refine w_iloadN ok d17_72 rfl ?_
      refine w_iaload ok (v := (.int ((upd H ((own_s (c k) + i) % 8) (-1 : Int32)) ((own_s (c k) + i) % 8)))) d17_73 A_he (own_ix0 (by omega)) (svg (j := ((own_s (c k) + i) % 8)) (by omega) (by omega)) ?_
      refine w_iastore ok d17_74 A_nx ge_nx (own_ix0 (by omega)) (svl (j := k) (by omega) (by omega)) (fun h14 W_h14 A1_h14 => ?_)
      replace Kp := Kp.wr W_h14 (Or.inl (by simp))
      replace A_q := A_q.other W_h14 ne_q_nx
      replace A_ke := A_ke.other W_h14 ne_ke_nx
      replace A_he := A_he.other W_h14 ne_he_nx
      replace A_co := A_co.other W_h14 ne_co_nx
      replace A_nx : PA .int Z h14 nx ((sv 4 N).set (Int32.ofNat k).toNatClampNeg (.int ((upd H ((own_s (c k) + i) % 8) (-1 : Int32)) ((own_s (c k) + i) % 8)))) := A1_h14
      rw [own_ix (j := k) (by omega), sv_set] at A_nx
      refine w_aloadN ok d17_75 rfl rfl ?_
      refine w_getfield ok (v := (.ref he)) (host := "") (f := ("com/example/hornconv/hornconv/FactTable$PositionIndex", "heads", "[I", (.array .int))) 1 d17_76 (Or.inl (hw _ (List.mem_of_getElem? (i := 97) rfl))) Via.refl A_q rfl rfl ?_
      refine w_iloadN ok d17_79 rfl ?_
      refine w_iloadN ok d17_80 rfl ?_
      refine w_iastore ok d17_81 A_he ge_he (own_ix0 (by omega)) (svl (j := ((own_s (c k) + i) % 8)) (by omega) (by omega)) (fun h15 W_h15 A1_h15 => ?_)
      replace Kp := Kp.wr W_h15 (Or.inl (by simp))
      replace A_q := A_q.other W_h15 ne_q_he
      replace A_ke := A_ke.other W_h15 ne_ke_he
      replace A_co := A_co.other W_h15 (Ne.symm ne_he_co)
      replace A_nx := A_nx.other W_h15 (Ne.symm ne_he_nx)
      replace A_he : PA .int Z h15 he ((sv 8 (upd H ((own_s (c k) + i) % 8) (-1 : Int32))).set (Int32.ofNat ((own_s (c k) + i) % 8)).toNatClampNeg (.int (Int32.ofNat k))) := A1_h15
      rw [own_ix (j := ((own_s (c k) + i) % 8)) (by omega), sv_set] at A_he
      refine w_aloadN ok d17_82 rfl rfl ?_
      refine w_getfield ok (v := (.ref co)) (host := "") (f := ("com/example/hornconv/hornconv/FactTable$PositionIndex", "counts", "[I", (.array .int))) 2 d17_83 (Or.inl (hw _ (List.mem_of_getElem? (i := 99) rfl))) Via.refl A_q rfl rfl ?_
      refine w_iloadN ok d17_86 rfl ?_
      refine w_dup2 ok d17_87 rfl rfl ?_
      refine w_iaload ok (v := (.int (G ((own_s (c k) + i) % 8)))) d17_88 A_co (own_ix0 (by omega)) (svg (j := ((own_s (c k) + i) % 8)) (by omega) (by omega)) ?_
      refine w_iconst ok d17_89 (v := (1 : Int32)) rfl ?_
      refine w_iadd ok d17_90 ?_
      refine w_iastore ok d17_91 A_co ge_co (own_ix0 (by omega)) (svl (j := ((own_s (c k) + i) % 8)) (by omega) (by omega)) (fun h16 W_h16 A1_h16 => ?_)
      replace Kp := Kp.wr W_h16 (Or.inl (by simp))
      replace A_q := A_q.other W_h16 ne_q_co
      replace A_ke := A_ke.other W_h16 ne_ke_co
      replace A_he := A_he.other W_h16 ne_he_co
      replace A_nx := A_nx.other W_h16 (Ne.symm ne_co_nx)
      replace A_co : PA .int Z h16 co ((sv 8 G).set (Int32.ofNat ((own_s (c k) + i) % 8)).toNatClampNeg (.int ((G ((own_s (c k) + i) % 8)) + (1 : Int32)))) := A1_h16
      rw [own_ix (j := ((own_s (c k) + i) % 8)) (by omega), sv_set] at A_co
      refine w_iconst ok d17_92 (v := (2 : Int32)) rfl ?_
      refine w_aloadN ok d17_93 rfl rfl ?_
      refine w_getfield ok (v := (.int (sz + (1 : Int32)))) (host := "") (f := ("com/example/hornconv/hornconv/FactTable$PositionIndex", "size", "I", .int)) 4 d17_94 (Or.inl (hw _ (List.mem_of_getElem? (i := 122) rfl))) Via.refl A_q rfl rfl ?_
      refine w_imul ok d17_97 ?_
      refine w_aloadN ok d17_98 rfl rfl ?_
      refine w_getfield ok (v := (.ref ke)) (host := "") (f := ("com/example/hornconv/hornconv/FactTable$PositionIndex", "keys", "[I", (.array .int))) 0 d17_99 (Or.inl (hw _ (List.mem_of_getElem? (i := 95) rfl))) Via.refl A_q rfl rfl ?_
      refine w_arraylength ok (z := (8 : Int32)) d17_102 A_ke (sv_len 8 _) (by decide) ?_
      show W K l _ n0 _ h16 0 0 103 #[.val (.ref q), .val (.int (c k)), .val (.int (Int32.ofNat k)), .val (.int (Int32.ofNat ((own_s (c k) + i) % 8)))] [(.int (8 : Int32)), (.int ((2 : Int32) * (sz + (1 : Int32))))]
      refine w_icmp_le ok d17_103 (pc' := 110) (by decide) (fun hc18 => ?_) (fun hc18 => False.elim (by exact own_sz1 P.2.2.2.2 hnd hc18))
      refine w_ret ok d17_110 (by decide) (by decide) ?_
      exact ⟨rfl, [q, ke, he, co, nx], ⟨ke, he, co, nx, (sz + (1 : Int32)), (upd Kf ((own_s (c k) + i) % 8) (c k)), (upd (upd H ((own_s (c k) + i) % 8) (-1 : Int32)) ((own_s (c k) + i) % 8) (Int32.ofNat k)), (upd G ((own_s (c k) + i) % 8) ((G ((own_s (c k) + i) % 8)) + (1 : Int32))), (upd N k ((upd H ((own_s (c k) + i) % 8) (-1 : Int32)) ((own_s (c k) + i) % 8))), rfl, ⟨ne_q_ke, ne_q_he, ne_q_co, ne_q_nx, ne_ke_he, ne_ke_co, ne_ke_nx, ne_he_co, ne_he_nx, ne_co_nx⟩, P.new (i := i) (by omega) hc hst hc5, A_q, A_ke, A_he, A_co, (by rw [cap4_lo (by omega)]; exact A_nx)⟩, Kp, fun a m => Or.inl m⟩
  · skip
    have Kp : Keep h0 h0 [q, ke, he, co, nx] := Keep.refl _ _
    show W K l _ n0 _ h0 0 0 0 #[.val (.ref q), .val (.int (c 4)), .val (.int (4 : Int32)), .unset] []
    refine w_iloadN ok d17_0 rfl ?_
    refine w_aloadN ok d17_1 rfl rfl ?_
    refine w_getfield ok (v := (.ref nx)) (host := "") (f := ("com/example/hornconv/hornconv/FactTable$PositionIndex", "next", "[I", (.array .int))) 3 d17_2 (Or.inl (hw _ (List.mem_of_getElem? (i := 101) rfl))) Via.refl A_q rfl rfl ?_
    refine w_arraylength ok (z := (4 : Int32)) d17_5 A_nx (sv_len 4 _) (by decide) ?_
    show W K l _ n0 _ h0 0 0 6 #[.val (.ref q), .val (.int (c 4)), .val (.int (4 : Int32)), .unset] [(.int (4 : Int32)), (.int (4 : Int32))]
    refine w_icmp_ne ok d17_6 (pc' := 23) (by decide) (fun hc1 => False.elim (by revert hc1; decide)) (fun hc1 => ?_)
    refine w_aloadN ok d17_9 rfl rfl ?_
    refine w_aloadN ok d17_10 rfl rfl ?_
    refine w_getfield ok (v := (.ref nx)) (host := "") (f := ("com/example/hornconv/hornconv/FactTable$PositionIndex", "next", "[I", (.array .int))) 3 d17_11 (Or.inl (hw _ (List.mem_of_getElem? (i := 101) rfl))) Via.refl A_q rfl rfl ?_
    refine w_iconst ok d17_14 (v := (2 : Int32)) rfl ?_
    refine w_iloadN ok d17_15 rfl ?_
    refine w_imul ok d17_16 ?_
    show W K l _ n0 _ h0 0 0 17 #[.val (.ref q), .val (.int (c 4)), .val (.int (4 : Int32)), .unset] [(.int (8 : Int32)), (.ref nx), (.ref q)]
    refine w_callS ok (y := mn_11) (argsL := [(.ref nx), (.int (8 : Int32))]) (rest := [(.ref q)]) d17_17 (hw _ (List.mem_of_getElem? (i := 124) rfl)) (hw _ (List.mem_of_getElem? (i := 74) rfl)) (hw _ (List.mem_of_getElem? (i := 31) rfl)) (hw _ (List.mem_of_getElem? (i := 75) rfl)) (by decide) pd_285bII295bI rfl rfl (by decide) (Nat.le_of_ble_eq_true rfl) (by decide) (by decide) (fun z0 => cp_int l Z a0 hw [] n0 h0 z0 8 (by omega) nx (sv 4 N) (Int32.ofNat 8) A_nx (by rw [sv_len, own_ix (by omega)]; omega) (own_ix0 (by omega)) (by rw [own_ix (by omega)]; omega)) (fun v2 h3 qv2 => ?_)
    obtain ⟨nc, rfl, sz_nc, ge_nc, K1, A_nc⟩ := qv2
    have ne_q_nc : q ≠ nc := Nat.ne_of_lt (Nat.lt_of_lt_of_le A_q.lt sz_nc)
    have ne_ke_nc : ke ≠ nc := Nat.ne_of_lt (Nat.lt_of_lt_of_le A_ke.lt sz_nc)
    have ne_he_nc : he ≠ nc := Nat.ne_of_lt (Nat.lt_of_lt_of_le A_he.lt sz_nc)
    have ne_co_nc : co ≠ nc := Nat.ne_of_lt (Nat.lt_of_lt_of_le A_co.lt sz_nc)
    have ne_nx_nc : nx ≠ nc := Nat.ne_of_lt (Nat.lt_of_lt_of_le A_nx.lt sz_nc)
    have szq_nc : h0.size ≤ nc := Nat.le_trans Kp.1 sz_nc
    replace Kp := Kp.trans K1 all0
    replace A_q := A_q.keep K1 nin0
    replace A_ke := A_ke.keep K1 nin0
    replace A_he := A_he.keep K1 nin0
    replace A_co := A_co.keep K1 nin0
    replace A_nx := A_nx.keep K1 nin0
    replace A_nc : PA .int Z h3 nc (sv 8 (fun j => if j < 4 then N j else 0)) := by
      have e := A_nc
      rw [own_ix (j := 8) (by omega), sv_len, sv_grow N (by omega)] at e
      exact e
    show W K l _ n0 _ h3 1 8 20 #[.val (.ref q), .val (.int (c 4)), .val (.int (4 : Int32)), .unset] [(.ref nc), (.ref q)]
    refine w_putfield ok (host := "") (f := ("com/example/hornconv/hornconv/FactTable$PositionIndex", "next", "[I", (.array .int))) 3 d17_20 (Or.inl (hw _ (List.mem_of_getElem? (i := 101) rfl))) Via.refl A_q (la_FactTable_PositionIndex hw) rfl rfl (Or.inl (hw _ (List.mem_of_getElem? (i := 102) rfl))) (hw _ (List.mem_of_getElem? (i := 89) rfl)) rfl rfl ge_q (fun h4 W_h4 A1_h4 => ?_)
    replace Kp := Kp.wr W_h4 (Or.inl (by simp))
    replace A_ke := A_ke.other W_h4 (Ne.symm ne_q_ke)
    replace A_he := A_he.other W_h4 (Ne.symm ne_q_he)
    replace A_co := A_co.other W_h4 (Ne.symm ne_q_co)
    replace A_nx := A_nx.other W_h4 (Ne.symm ne_q_nx)
    replace A_nc := A_nc.other W_h4 (Ne.symm ne_q_nc)
    replace A_q : Ob Z h4 q "com/example/hornconv/hornconv/FactTable$PositionIndex" fl_FactTable_PositionIndex [(.ref ke), (.ref he), (.ref co), (.ref nc), (.int sz)] := A1_h4
    show W K l _ n0 _ h4 1 8 23 #[.val (.ref q), .val (.int (c 4)), .val (.int (4 : Int32)), .unset] []
    replace P := P.grow (N' := (fun j => if j < 4 then N j else 0)) (fun j hj => if_pos (by omega))
    refine w_aloadN ok d17_23 rfl rfl ?_
    refine w_iloadN ok d17_24 rfl ?_
    refine w_callP ok (y := mn_18) (a := q) (argsL := [(.int (c 4))]) (rest := []) d17_25 (hw _ (List.mem_of_getElem? (i := 114) rfl)) (hw _ (List.mem_of_getElem? (i := 115) rfl)) (hw _ (List.mem_of_getElem? (i := 116) rfl)) (hw _ (List.mem_of_getElem? (i := 89) rfl)) (hw _ (List.mem_of_getElem? (i := 90) rfl)) (hw _ (List.mem_of_getElem? (i := 117) rfl)) (by decide) A_q.1 pd_28I29I rfl rfl (by decide) (Nat.le_of_ble_eq_true rfl) (by decide) (by decide) (fun z0 => rm_slot l Z a0 hw [] n0 h4 z0 q ke he co nc sz A_q (c 4) Kf A_ke (PX.free P (by omega))) (fun v5 h6 qv5 => ?_)
    obtain ⟨i, rfl, hst, hki, rfl⟩ := qv5
    show W K l _ n0 _ h4 1 8 28 #[.val (.ref q), .val (.int (c 4)), .val (.int (4 : Int32)), .unset] [(.int (Int32.ofNat ((own_s (c 4) + i) % 8)))]
    refine w_istoreN ok d17_28 (L' := #[.val (.ref q), .val (.int (c 4)), .val (.int (4 : Int32)), .val (.int (Int32.ofNat ((own_s (c 4) + i) % 8)))]) rfl ?_
    refine w_aloadN ok d17_29 rfl rfl ?_
    refine w_getfield ok (v := (.ref ke)) (host := "") (f := ("com/example/hornconv/hornconv/FactTable$PositionIndex", "keys", "[I", (.array .int))) 0 d17_30 (Or.inl (hw _ (List.mem_of_getElem? (i := 95) rfl))) Via.refl A_q rfl rfl ?_
    refine w_iloadN ok d17_33 rfl ?_
    refine w_iaload ok (v := (.int (Kf ((own_s (c 4) + i) % 8)))) d17_34 A_ke (own_ix0 (by omega)) (svg (j := ((own_s (c 4) + i) % 8)) (by omega) (by omega)) ?_
    refine w_iconst ok d17_35 (v := (-1 : Int32)) rfl ?_
    refine w_icmp_ne ok d17_36 (pc' := 63) (by decide) (fun hc8 => ?_) (fun hc8 => ?_)
    · skip
      refine w_aloadN ok d17_63 rfl rfl ?_
      refine w_getfield ok (v := (.ref nc)) (host := "") (f := ("com/example/hornconv/hornconv/FactTable$PositionIndex", "next", "[I", (.array .int))) 3 d17_64 (Or.inl (hw _ (List.mem_of_getElem? (i := 101) rfl))) Via.refl A_q rfl rfl ?_
      refine w_iloadN ok d17_67 rfl ?_
      refine w_aloadN ok d17_68 rfl rfl ?_
      refine w_getfield ok (v := (.ref he)) (host := "") (f := ("com/example/hornconv/hornconv/FactTable$PositionIndex", "heads", "[I", (.array .int))) 1 d17_69 (Or.inl (hw _ (List.mem_of_getElem? (i := 97) rfl))) Via.refl A_q rfl rfl ?_
      refine w_iloadN ok d17_72 rfl ?_
      refine w_iaload ok (v := (.int (H ((own_s (c 4) + i) % 8)))) d17_73 A_he (own_ix0 (by omega)) (svg (j := ((own_s (c 4) + i) % 8)) (by omega) (by omega)) ?_
      refine w_iastore ok d17_74 A_nc ge_nc (by decide) (svl (j := 4) (by omega) (by omega)) (fun h9 W_h9 A1_h9 => ?_)
      replace Kp := Kp.wr W_h9 (Or.inr szq_nc)
      replace A_q := A_q.other W_h9 ne_q_nc
      replace A_ke := A_ke.other W_h9 ne_ke_nc
      replace A_he := A_he.other W_h9 ne_he_nc
      replace A_co := A_co.other W_h9 ne_co_nc
      replace A_nx := A_nx.other W_h9 ne_nx_nc
      replace A_nc : PA .int Z h9 nc ((sv 8 (fun j => if j < 4 then N j else 0)).set (4 : Int32).toNatClampNeg (.int (H ((own_s (c 4) + i) % 8)))) := A1_h9
      rw [show (4 : Int32).toNatClampNeg = 4 from rfl, sv_set] at A_nc
      refine w_aloadN ok d17_75 rfl rfl ?_
      refine w_getfield ok (v := (.ref he)) (host := "") (f := ("com/example/hornconv/hornconv/FactTable$PositionIndex", "heads", "[I", (.array .int))) 1 d17_76 (Or.inl (hw _ (List.mem_of_getElem? (i := 97) rfl))) Via.refl A_q rfl rfl ?_
      refine w_iloadN ok d17_79 rfl ?_
      refine w_iloadN ok d17_80 rfl ?_
      refine w_iastore ok d17_81 A_he ge_he (own_ix0 (by omega)) (svl (j := ((own_s (c 4) + i) % 8)) (by omega) (by omega)) (fun h10 W_h10 A1_h10 => ?_)
      replace Kp := Kp.wr W_h10 (Or.inl (by simp))
      replace A_q := A_q.other W_h10 ne_q_he
      replace A_ke := A_ke.other W_h10 ne_ke_he
      replace A_co := A_co.other W_h10 (Ne.symm ne_he_co)
      replace A_nx := A_nx.other W_h10 (Ne.symm ne_he_nx)
      replace A_nc := A_nc.other W_h10 (Ne.symm ne_he_nc)
      replace A_he : PA .int Z h10 he ((sv 8 H).set (Int32.ofNat ((own_s (c 4) + i) % 8)).toNatClampNeg (.int (4 : Int32))) := A1_h10
      rw [own_ix (j := ((own_s (c 4) + i) % 8)) (by omega), sv_set] at A_he
      refine w_aloadN ok d17_82 rfl rfl ?_
      refine w_getfield ok (v := (.ref co)) (host := "") (f := ("com/example/hornconv/hornconv/FactTable$PositionIndex", "counts", "[I", (.array .int))) 2 d17_83 (Or.inl (hw _ (List.mem_of_getElem? (i := 99) rfl))) Via.refl A_q rfl rfl ?_
      refine w_iloadN ok d17_86 rfl ?_
      refine w_dup2 ok d17_87 rfl rfl ?_
      refine w_iaload ok (v := (.int (G ((own_s (c 4) + i) % 8)))) d17_88 A_co (own_ix0 (by omega)) (svg (j := ((own_s (c 4) + i) % 8)) (by omega) (by omega)) ?_
      refine w_iconst ok d17_89 (v := (1 : Int32)) rfl ?_
      refine w_iadd ok d17_90 ?_
      refine w_iastore ok d17_91 A_co ge_co (own_ix0 (by omega)) (svl (j := ((own_s (c 4) + i) % 8)) (by omega) (by omega)) (fun h11 W_h11 A1_h11 => ?_)
      replace Kp := Kp.wr W_h11 (Or.inl (by simp))
      replace A_q := A_q.other W_h11 ne_q_co
      replace A_ke := A_ke.other W_h11 ne_ke_co
      replace A_he := A_he.other W_h11 ne_he_co
      replace A_nx := A_nx.other W_h11 (Ne.symm ne_co_nx)
      replace A_nc := A_nc.other W_h11 (Ne.symm ne_co_nc)
      replace A_co : PA .int Z h11 co ((sv 8 G).set (Int32.ofNat ((own_s (c 4) + i) % 8)).toNatClampNeg (.int ((G ((own_s (c 4) + i) % 8)) + (1 : Int32)))) := A1_h11
      rw [own_ix (j := ((own_s (c 4) + i) % 8)) (by omega), sv_set] at A_co
      refine w_iconst ok d17_92 (v := (2 : Int32)) rfl ?_
      refine w_aloadN ok d17_93 rfl rfl ?_
      refine w_getfield ok (v := (.int sz)) (host := "") (f := ("com/example/hornconv/hornconv/FactTable$PositionIndex", "size", "I", .int)) 4 d17_94 (Or.inl (hw _ (List.mem_of_getElem? (i := 122) rfl))) Via.refl A_q rfl rfl ?_
      refine w_imul ok d17_97 ?_
      refine w_aloadN ok d17_98 rfl rfl ?_
      refine w_getfield ok (v := (.ref ke)) (host := "") (f := ("com/example/hornconv/hornconv/FactTable$PositionIndex", "keys", "[I", (.array .int))) 0 d17_99 (Or.inl (hw _ (List.mem_of_getElem? (i := 95) rfl))) Via.refl A_q rfl rfl ?_
      refine w_arraylength ok (z := (8 : Int32)) d17_102 A_ke (sv_len 8 _) (by decide) ?_
      show W K l _ n0 _ h11 1 8 103 #[.val (.ref q), .val (.int (c 4)), .val (.int (4 : Int32)), .val (.int (Int32.ofNat ((own_s (c 4) + i) % 8)))] [(.int (8 : Int32)), (.int ((2 : Int32) * sz))]
      refine w_icmp_le ok d17_103 (pc' := 110) (by decide) (fun hc13 => ?_) (fun hc13 => False.elim (by exact own_sz0 P.2.2.2.2 hnd hc13))
      refine w_ret ok d17_110 (by decide) (by decide) ?_
      exact ⟨rfl, [q, ke, he, co, nc], ⟨ke, he, co, nc, sz, Kf, (upd H ((own_s (c 4) + i) % 8) (4 : Int32)), (upd G ((own_s (c 4) + i) % 8) ((G ((own_s (c 4) + i) % 8)) + (1 : Int32))), (upd (fun j => if j < 4 then N j else 0) 4 (H ((own_s (c 4) + i) % 8))), rfl, ⟨ne_q_ke, ne_q_he, ne_q_co, ne_q_nc, ne_ke_he, ne_ke_co, ne_ke_nc, ne_he_co, ne_he_nc, ne_co_nc⟩, P.old (i := i) (by omega) hc hst (hki.resolve_left hc8), A_q, A_ke, A_he, A_co, A_nc⟩, Kp, allS (Or.inl (by simp)) (allS (Or.inl (by simp)) (allS (Or.inl (by simp)) (allS (Or.inl (by simp)) (allS (Or.inr ⟨szq_nc, ge_nc⟩) all0))))⟩
    · skip
      refine w_aloadN ok d17_39 rfl rfl ?_
      refine w_getfield ok (v := (.ref ke)) (host := "") (f := ("com/example/hornconv/hornconv/FactTable$PositionIndex", "keys", "[I", (.array .int))) 0 d17_40 (Or.inl (hw _ (List.mem_of_getElem? (i := 95) rfl))) Via.refl A_q rfl rfl ?_
      refine w_iloadN ok d17_43 rfl ?_
      refine w_iloadN ok d17_44 rfl ?_
      refine w_iastore ok d17_45 A_ke ge_ke (own_ix0 (by omega)) (svl (j := ((own_s (c 4) + i) % 8)) (by omega) (by omega)) (fun h14 W_h14 A1_h14 => ?_)
      replace Kp := Kp.wr W_h14 (Or.inl (by simp))
      replace A_q := A_q.other W_h14 ne_q_ke
      replace A_he := A_he.other W_h14 (Ne.symm ne_ke_he)
      replace A_co := A_co.other W_h14 (Ne.symm ne_ke_co)
      replace A_nx := A_nx.other W_h14 (Ne.symm ne_ke_nx)
      replace A_nc := A_nc.other W_h14 (Ne.symm ne_ke_nc)
      replace A_ke : PA .int Z h14 ke ((sv 8 Kf).set (Int32.ofNat ((own_s (c 4) + i) % 8)).toNatClampNeg (.int (c 4))) := A1_h14
      rw [own_ix (j := ((own_s (c 4) + i) % 8)) (by omega), sv_set] at A_ke
      refine w_aloadN ok d17_46 rfl rfl ?_
      refine w_getfield ok (v := (.ref he)) (host := "") (f := ("com/example/hornconv/hornconv/FactTable$PositionIndex", "heads", "[I", (.array .int))) 1 d17_47 (Or.inl (hw _ (List.mem_of_getElem? (i := 97) rfl))) Via.refl A_q rfl rfl ?_
      refine w_iloadN ok d17_50 rfl ?_
      refine w_iconst ok d17_51 (v := (-1 : Int32)) rfl ?_
      refine w_iastore ok d17_52 A_he ge_he (own_ix0 (by omega)) (svl (j := ((own_s (c 4) + i) % 8)) (by omega) (by omega)) (fun h15 W_h15 A1_h15 => ?_)
      replace Kp := Kp.wr W_h15 (Or.inl (by simp))
      replace A_q := A_q.other W_h15 ne_q_he
      replace A_ke := A_ke.other W_h15 ne_ke_he
      replace A_co := A_co.other W_h15 (Ne.symm ne_he_co)
      replace A_nx := A_nx.other W_h15 (Ne.symm ne_he_nx)
      replace A_nc := A_nc.other W_h15 (Ne.symm ne_he_nc)
      replace A_he : PA .int Z h15 he ((sv 8 H).set (Int32.ofNat ((own_s (c 4) + i) % 8)).toNatClampNeg (.int (-1 : Int32))) := A1_h15
      rw [own_ix (j := ((own_s (c 4) + i) % 8)) (by omega), sv_set] at A_he
      refine w_aloadN ok d17_53 rfl rfl ?_
      refine w_dup ok d17_54 rfl ?_
      refine w_getfield ok (v := (.int sz)) (host := "") (f := ("com/example/hornconv/hornconv/FactTable$PositionIndex", "size", "I", .int)) 4 d17_55 (Or.inl (hw _ (List.mem_of_getElem? (i := 122) rfl))) Via.refl A_q rfl rfl ?_
      refine w_iconst ok d17_58 (v := (1 : Int32)) rfl ?_
      refine w_iadd ok d17_59 ?_
      refine w_putfield ok (host := "") (f := ("com/example/hornconv/hornconv/FactTable$PositionIndex", "size", "I", .int)) 4 d17_60 (Or.inl (hw _ (List.mem_of_getElem? (i := 122) rfl))) Via.refl A_q (la_FactTable_PositionIndex hw) rfl rfl (Or.inl (hw _ (List.mem_of_getElem? (i := 123) rfl))) (hw _ (List.mem_of_getElem? (i := 89) rfl)) rfl rfl ge_q (fun h16 W_h16 A1_h16 => ?_)
      replace Kp := Kp.wr W_h16 (Or.inl (by simp))
      replace A_ke := A_ke.other W_h16 (Ne.symm ne_q_ke)
      replace A_he := A_he.other W_h16 (Ne.symm ne_q_he)
      replace A_co := A_co.other W_h16 (Ne.symm ne_q_co)
      replace A_nx := A_nx.other W_h16 (Ne.symm ne_q_nx)
      replace A_nc := A_nc.other W_h16 (Ne.symm ne_q_nc)
      replace A_q : Ob Z h16 q "com/example/hornconv/hornconv/FactTable$PositionIndex" fl_FactTable_PositionIndex [(.ref ke), (.ref he), (.ref co), (.ref nc), (.int (sz + (1 : Int32)))] := A1_h16
      refine w_aloadN ok d17_63 rfl rfl ?_
      refine w_getfield ok (v := (.ref nc)) (host := "") (f := ("com/example/hornconv/hornconv/FactTable$PositionIndex", "next", "[I", (.array .int))) 3 d17_64 (Or.inl (hw _ (List.mem_of_getElem? (i := 101) rfl))) Via.refl A_q rfl rfl ?_
      refine w_iloadN ok d17_67 rfl ?_
      refine w_aloadN ok d17_68 rfl rfl ?_
      refine w_getfield ok (v := (.ref he)) (host := "") (f := ("com/example/hornconv/hornconv/FactTable$PositionIndex", "heads", "[I", (.array .int))) 1 d17_69 (Or.inl (hw _ (List.mem_of_getElem? (i := 97) rfl))) Via.refl A_q rfl rfl ?_
      refine w_iloadN ok d17_72 rfl ?_
      refine w_iaload ok (v := (.int ((upd H ((own_s (c 4) + i) % 8) (-1 : Int32)) ((own_s (c 4) + i) % 8)))) d17_73 A_he (own_ix0 (by omega)) (svg (j := ((own_s (c 4) + i) % 8)) (by omega) (by omega)) ?_
      refine w_iastore ok d17_74 A_nc ge_nc (by decide) (svl (j := 4) (by omega) (by omega)) (fun h17 W_h17 A1_h17 => ?_)
      replace Kp := Kp.wr W_h17 (Or.inr szq_nc)
      replace A_q := A_q.other W_h17 ne_q_nc
      replace A_ke := A_ke.other W_h17 ne_ke_nc
      replace A_he := A_he.other W_h17 ne_he_nc
      replace A_co := A_co.other W_h17 ne_co_nc
      replace A_nx := A_nx.other W_h17 ne_nx_nc
      replace A_nc : PA .int Z h17 nc ((sv 8 (fun j => if j < 4 then N j else 0)).set (4 : Int32).toNatClampNeg (.int ((upd H ((own_s (c 4) + i) % 8) (-1 : Int32)) ((own_s (c 4) + i) % 8)))) := A1_h17
      rw [show (4 : Int32).toNatClampNeg = 4 from rfl, sv_set] at A_nc
      refine w_aloadN ok d17_75 rfl rfl ?_
      refine w_getfield ok (v := (.ref he)) (host := "") (f := ("com/example/hornconv/hornconv/FactTable$PositionIndex", "heads", "[I", (.array .int))) 1 d17_76 (Or.inl (hw _ (List.mem_of_getElem? (i := 97) rfl))) Via.refl A_q rfl rfl ?_
      refine w_iloadN ok d17_79 rfl ?_
      refine w_iloadN ok d17_80 rfl ?_
      refine w_iastore ok d17_81 A_he ge_he (own_ix0 (by omega)) (svl (j := ((own_s (c 4) + i) % 8)) (by omega) (by omega)) (fun h18 W_h18 A1_h18 => ?_)
      replace Kp := Kp.wr W_h18 (Or.inl (by simp))
      replace A_q := A_q.other W_h18 ne_q_he
      replace A_ke := A_ke.other W_h18 ne_ke_he
      replace A_co := A_co.other W_h18 (Ne.symm ne_he_co)
      replace A_nx := A_nx.other W_h18 (Ne.symm ne_he_nx)
      replace A_nc := A_nc.other W_h18 (Ne.symm ne_he_nc)
      replace A_he : PA .int Z h18 he ((sv 8 (upd H ((own_s (c 4) + i) % 8) (-1 : Int32))).set (Int32.ofNat ((own_s (c 4) + i) % 8)).toNatClampNeg (.int (4 : Int32))) := A1_h18
      rw [own_ix (j := ((own_s (c 4) + i) % 8)) (by omega), sv_set] at A_he
      refine w_aloadN ok d17_82 rfl rfl ?_
      refine w_getfield ok (v := (.ref co)) (host := "") (f := ("com/example/hornconv/hornconv/FactTable$PositionIndex", "counts", "[I", (.array .int))) 2 d17_83 (Or.inl (hw _ (List.mem_of_getElem? (i := 99) rfl))) Via.refl A_q rfl rfl ?_
      refine w_iloadN ok d17_86 rfl ?_
      refine w_dup2 ok d17_87 rfl rfl ?_
      refine w_iaload ok (v := (.int (G ((own_s (c 4) + i) % 8)))) d17_88 A_co (own_ix0 (by omega)) (svg (j := ((own_s (c 4) + i) % 8)) (by omega) (by omega)) ?_
      refine w_iconst ok d17_89 (v := (1 : Int32)) rfl ?_
      refine w_iadd ok d17_90 ?_
      refine w_iastore ok d17_91 A_co ge_co (own_ix0 (by omega)) (svl (j := ((own_s (c 4) + i) % 8)) (by omega) (by omega)) (fun h19 W_h19 A1_h19 => ?_)
      replace Kp := Kp.wr W_h19 (Or.inl (by simp))
      replace A_q := A_q.other W_h19 ne_q_co
      replace A_ke := A_ke.other W_h19 ne_ke_co
      replace A_he := A_he.other W_h19 ne_he_co
      replace A_nx := A_nx.other W_h19 (Ne.symm ne_co_nx)
      replace A_nc := A_nc.other W_h19 (Ne.symm ne_co_nc)
      replace A_co : PA .int Z h19 co ((sv 8 G).set (Int32.ofNat ((own_s (c 4) + i) % 8)).toNatClampNeg (.int ((G ((own_s (c 4) + i) % 8)) + (1 : Int32)))) := A1_h19
      rw [own_ix (j := ((own_s (c 4) + i) % 8)) (by omega), sv_set] at A_co
      refine w_iconst ok d17_92 (v := (2 : Int32)) rfl ?_
      refine w_aloadN ok d17_93 rfl rfl ?_
      refine w_getfield ok (v := (.int (sz + (1 : Int32)))) (host := "") (f := ("com/example/hornconv/hornconv/FactTable$PositionIndex", "size", "I", .int)) 4 d17_94 (Or.inl (hw _ (List.mem_of_getElem? (i := 122) rfl))) Via.refl A_q rfl rfl ?_
      refine w_imul ok d17_97 ?_
      refine w_aloadN ok d17_98 rfl rfl ?_
      refine w_getfield ok (v := (.ref ke)) (host := "") (f := ("com/example/hornconv/hornconv/FactTable$PositionIndex", "keys", "[I", (.array .int))) 0 d17_99 (Or.inl (hw _ (List.mem_of_getElem? (i := 95) rfl))) Via.refl A_q rfl rfl ?_
      refine w_arraylength ok (z := (8 : Int32)) d17_102 A_ke (sv_len 8 _) (by decide) ?_
      show W K l _ n0 _ h19 1 8 103 #[.val (.ref q), .val (.int (c 4)), .val (.int (4 : Int32)), .val (.int (Int32.ofNat ((own_s (c 4) + i) % 8)))] [(.int (8 : Int32)), (.int ((2 : Int32) * (sz + (1 : Int32))))]
      refine w_icmp_le ok d17_103 (pc' := 110) (by decide) (fun hc21 => ?_) (fun hc21 => False.elim (by exact own_sz1 P.2.2.2.2 hnd hc21))
      refine w_ret ok d17_110 (by decide) (by decide) ?_
      exact ⟨rfl, [q, ke, he, co, nc], ⟨ke, he, co, nc, (sz + (1 : Int32)), (upd Kf ((own_s (c 4) + i) % 8) (c 4)), (upd (upd H ((own_s (c 4) + i) % 8) (-1 : Int32)) ((own_s (c 4) + i) % 8) (4 : Int32)), (upd G ((own_s (c 4) + i) % 8) ((G ((own_s (c 4) + i) % 8)) + (1 : Int32))), (upd (fun j => if j < 4 then N j else 0) 4 ((upd H ((own_s (c 4) + i) % 8) (-1 : Int32)) ((own_s (c 4) + i) % 8))), rfl, ⟨ne_q_ke, ne_q_he, ne_q_co, ne_q_nc, ne_ke_he, ne_ke_co, ne_ke_nc, ne_he_co, ne_he_nc, ne_co_nc⟩, P.new (i := i) (by omega) hc hst hc8, A_q, A_ke, A_he, A_co, A_nc⟩, Kp, allS (Or.inl (by simp)) (allS (Or.inl (by simp)) (allS (Or.inl (by simp)) (allS (Or.inl (by simp)) (allS (Or.inr ⟨szq_nc, ge_nc⟩) all0))))⟩
theorem d29_0 : decode prog_4_method_3_code 0 = .ok (.aload_n 0, 1) := by decide +kernel
theorem d29_1 : decode prog_4_method_3_code 1 = .ok (.getfield 18, 3) := by decide +kernel
theorem d29_4 : decode prog_4_method_3_code 4 = .ok (.aload_n 0, 1) := by decide +kernel
theorem d29_5 : decode prog_4_method_3_code 5 = .ok (.iload_n 1, 1) := by decide +kernel
theorem d29_6 : decode prog_4_method_3_code 6 = .ok (.invokevirtual 34, 3) := by decide +kernel
theorem d29_9 : decode prog_4_method_3_code 9 = .ok (.dup2, 1) := by decide +kernel
theorem d29_10 : decode prog_4_method_3_code 10 = .ok (.iaload, 1) := by decide +kernel
theorem d29_11 : decode prog_4_method_3_code 11 = .ok (.iconst 1, 1) := by decide +kernel
theorem d29_12 : decode prog_4_method_3_code 12 = .ok (.isub, 1) := by decide +kernel
theorem d29_13 : decode prog_4_method_3_code 13 = .ok (.iastore, 1) := by decide +kernel
theorem d29_14 : decode prog_4_method_3_code 14 = .ok (.return_, 1) := by decide +kernel
abbrev mn_29 : MethodName := ⟨"com/example/hornconv/hornconv/FactTable$PositionIndex", "remove", "(I)V"⟩
set_option maxRecDepth 65536 in
set_option maxHeartbeats 40000000 in
theorem rm_prem (l : Launch) (Z : State) (a0 : Array Value) (hw : ∀ d ∈ tables_1, d.before a0 Z = true) (ws : List Jvm.Cond) (n0 : Nat) (h0 : Heap) (Z0 : Old Z n0 h0) (D : List Addr) (q : Addr) (k : Nat) (c : Nat → Int32) (A_q : IX Z h0 D q k c) (hD0 : ∀ a ∈ D, n0 ≤ a) (hk : k ≤ 5) (x : Int32)  :
    Met l Z n0 mn_29 prog_4_method_3_code 2 none ws ({ frames := 2, cells := 0, slots := 0, locals := 29 } : Room) #[(.ref q), (.int x)] h0 (fun u h => u = none ∧ Keep h0 h D ∧ IX Z h D q k c) := by
  refine met_of Z0 (plainFor_of_name pn_com_example_hornconv_hornconv_FactTable_PositionIndex) (Ls := #[.val (.ref q), .val (.int x)]) (fun m => by first | (simp [entryFrame, mkF, argsToLocals, Value.category]; done) | rfl) ?_
  intro K ok
  obtain ⟨ke, he, co, nx, sz, Kf, H, G, N, rfl, ⟨ne_q_ke, ne_q_he, ne_q_co, ne_q_nx, ne_ke_he, ne_ke_co, ne_ke_nx, ne_he_co, ne_he_nx, ne_co_nx⟩, P, A_q, A_ke, A_he, A_co, A_nx⟩ := A_q
  have ge_q : n0 ≤ q := hD0 _ (by simp)
  have ge_ke : n0 ≤ ke := hD0 _ (by simp)
  have ge_he : n0 ≤ he := hD0 _ (by simp)
  have ge_co : n0 ≤ co := hD0 _ (by simp)
  have ge_nx : n0 ≤ nx := hD0 _ (by simp)
  have Kp : Keep h0 h0 [q, ke, he, co, nx] := Keep.refl _ _
  show W K l _ n0 _ h0 0 0 0 #[.val (.ref q), .val (.int x)] []
  refine w_aloadN ok d29_0 rfl rfl ?_
  refine w_getfield ok (v := (.ref co)) (host := "") (f := ("com/example/hornconv/hornconv/FactTable$PositionIndex", "counts", "[I", (.array .int))) 2 d29_1 (Or.inl (hw _ (List.mem_of_getElem? (i := 99) rfl))) Via.refl A_q rfl rfl ?_
  refine w_aloadN ok d29_4 rfl rfl ?_
  refine w_iloadN ok d29_5 rfl ?_
  refine w_callP ok (y := mn_18) (a := q) (argsL := [(.int x)]) (rest := [(.ref co)]) d29_6 (hw _ (List.mem_of_getElem? (i := 114) rfl)) (hw _ (List.mem_of_getElem? (i := 115) rfl)) (hw _ (List.mem_of_getElem? (i := 116) rfl)) (hw _ (List.mem_of_getElem? (i := 89) rfl)) (hw _ (List.mem_of_getElem? (i := 90) rfl)) (hw _ (List.mem_of_getElem? (i := 117) rfl)) (by decide) A_q.1 pd_28I29I rfl rfl (by decide) (Nat.le_of_ble_eq_true rfl) (by decide) (by decide) (fun z0 => rm_slot l Z a0 hw [] n0 h0 z0 q ke he co nx sz A_q x Kf A_ke (PX.free P (by omega))) (fun v1 h2 qv1 => ?_)
  obtain ⟨i, rfl, hst, hki, rfl⟩ := qv1
  show W K l _ n0 _ h0 0 0 9 #[.val (.ref q), .val (.int x)] [(.int (Int32.ofNat ((own_s x + i) % 8))), (.ref co)]
  refine w_dup2 ok d29_9 rfl rfl ?_
  refine w_iaload ok (v := (.int (G ((own_s x + i) % 8)))) d29_10 A_co (own_ix0 (by omega)) (svg (j := ((own_s x + i) % 8)) (by omega) (by omega)) ?_
  refine w_iconst ok d29_11 (v := (1 : Int32)) rfl ?_
  refine w_isub ok d29_12 ?_
  refine w_iastore ok d29_13 A_co ge_co (own_ix0 (by omega)) (svl (j := ((own_s x + i) % 8)) (by omega) (by omega)) (fun h3 W_h3 A1_h3 => ?_)
  replace Kp := Kp.wr W_h3 (Or.inl (by simp))
  replace A_q := A_q.other W_h3 ne_q_co
  replace A_ke := A_ke.other W_h3 ne_ke_co
  replace A_he := A_he.other W_h3 ne_he_co
  replace A_nx := A_nx.other W_h3 (Ne.symm ne_co_nx)
  replace A_co : PA .int Z h3 co ((sv 8 G).set (Int32.ofNat ((own_s x + i) % 8)).toNatClampNeg (.int ((G ((own_s x + i) % 8)) - (1 : Int32)))) := A1_h3
  rw [own_ix (j := ((own_s x + i) % 8)) (by omega), sv_set] at A_co
  refine w_ret ok d29_14 (by decide) (by decide) ?_
  exact ⟨rfl, Kp, ⟨ke, he, co, nx, sz, Kf, H, (upd G ((own_s x + i) % 8) ((G ((own_s x + i) % 8)) - (1 : Int32))), N, rfl, ⟨ne_q_ke, ne_q_he, ne_q_co, ne_q_nx, ne_ke_he, ne_ke_co, ne_ke_nx, ne_he_co, ne_he_nx, ne_co_nx⟩, P, A_q, A_ke, A_he, A_co, A_nx⟩⟩
theorem d20_0 : decode prog_4_method_4_code 0 = .ok (.aload_n 0, 1) := by decide +kernel
theorem d20_1 : decode prog_4_method_4_code 1 = .ok (.iload_n 1, 1) := by decide +kernel
theorem d20_2 : decode prog_4_method_4_code 2 = .ok (.invokevirtual 34, 3) := by decide +kernel
theorem d20_5 : decode prog_4_method_4_code 5 = .ok (.istore_n 2, 1) := by decide +kernel
theorem d20_6 : decode prog_4_method_4_code 6 = .ok (.aload_n 0, 1) := by decide +kernel
theorem d20_7 : decode prog_4_method_4_code 7 = .ok (.getfield 9, 3) := by decide +kernel
theorem d20_10 : decode prog_4_method_4_code 10 = .ok (.iload_n 2, 1) := by decide +kernel
theorem d20_11 : decode prog_4_method_4_code 11 = .ok (.iaload, 1) := by decide +kernel
theorem d20_12 : decode prog_4_method_4_code 12 = .ok (.iconst (-1), 1) := by decide +kernel
theorem d20_13 : decode prog_4_method_4_code 13 = .ok (.if_icmp .ne 7, 3) := by decide +kernel
theorem d20_16 : decode prog_4_method_4_code 16 = .ok (.iconst (-1), 1) := by decide +kernel
theorem d20_17 : decode prog_4_method_4_code 17 = .ok (.goto 9, 3) := by decide +kernel
theorem d20_20 : decode prog_4_method_4_code 20 = .ok (.aload_n 0, 1) := by decide +kernel
theorem d20_21 : decode prog_4_method_4_code 21 = .ok (.getfield 15, 3) := by decide +kernel
theorem d20_24 : decode prog_4_method_4_code 24 = .ok (.iload_n 2, 1) := by decide +kernel
theorem d20_25 : decode prog_4_method_4_code 25 = .ok (.iaload, 1) := by decide +kernel
theorem d20_26 : decode prog_4_method_4_code 26 = .ok (.ireturn, 1) := by decide +kernel
abbrev mn_20 : MethodName := ⟨"com/example/hornconv/hornconv/FactTable$PositionIndex", "first", "(I)I"⟩
set_option maxRecDepth 65536 in
set_option maxHeartbeats 40000000 in
theorem rm_pfirst (l : Launch) (Z : State) (a0 : Array Value) (hw : ∀ d ∈ tables_1, d.before a0 Z = true) (ws : List Jvm.Cond) (n0 : Nat) (h0 : Heap) (Z0 : Old Z n0 h0) (D : List Addr) (q : Addr) (k : Nat) (c : Nat → Int32) (A_q : IX Z h0 D q k c) (hD0 : ∀ a ∈ D, n0 ≤ a) (hk : k ≤ 5) (x : Int32)  :
    Met l Z n0 mn_20 prog_4_method_4_code 3 (some .int) ws ({ frames := 2, cells := 0, slots := 0, locals := 28 } : Room) #[(.ref q), (.int x)] h0 (fun u h => ∃ z, u = some (.int z) ∧ h0 = h) := by
  refine met_of Z0 (plainFor_of_name pn_com_example_hornconv_hornconv_FactTable_PositionIndex) (Ls := #[.val (.ref q), .val (.int x), .unset]) (fun m => by first | (simp [entryFrame, mkF, argsToLocals, Value.category]; done) | rfl) ?_
  intro K ok
  obtain ⟨ke, he, co, nx, sz, Kf, H, G, N, rfl, ⟨ne_q_ke, ne_q_he, ne_q_co, ne_q_nx, ne_ke_he, ne_ke_co, ne_ke_nx, ne_he_co, ne_he_nx, ne_co_nx⟩, P, A_q, A_ke, A_he, A_co, A_nx⟩ := A_q
  have ge_q : n0 ≤ q := hD0 _ (by simp)
  have ge_ke : n0 ≤ ke := hD0 _ (by simp)
  have ge_he : n0 ≤ he := hD0 _ (by simp)
  have ge_co : n0 ≤ co := hD0 _ (by simp)
  have ge_nx : n0 ≤ nx := hD0 _ (by simp)
  show W K l _ n0 _ h0 0 0 0 #[.val (.ref q), .val (.int x), .unset] []
  refine w_aloadN ok d20_0 rfl rfl ?_
  refine w_iloadN ok d20_1 rfl ?_
  refine w_callP ok (y := mn_18) (a := q) (argsL := [(.int x)]) (rest := []) d20_2 (hw _ (List.mem_of_getElem? (i := 114) rfl)) (hw _ (List.mem_of_getElem? (i := 115) rfl)) (hw _ (List.mem_of_getElem? (i := 116) rfl)) (hw _ (List.mem_of_getElem? (i := 89) rfl)) (hw _ (List.mem_of_getElem? (i := 90) rfl)) (hw _ (List.mem_of_getElem? (i := 117) rfl)) (by decide) A_q.1 pd_28I29I rfl rfl (by decide) (Nat.le_of_ble_eq_true rfl) (by decide) (by decide) (fun z0 => rm_slot l Z a0 hw [] n0 h0 z0 q ke he co nx sz A_q x Kf A_ke (PX.free P (by omega))) (fun v1 h2 qv1 => ?_)
  obtain ⟨i, rfl, hst, hki, rfl⟩ := qv1
  show W K l _ n0 _ h0 0 0 5 #[.val (.ref q), .val (.int x), .unset] [(.int (Int32.ofNat ((own_s x + i) % 8)))]
  refine w_istoreN ok d20_5 (L' := #[.val (.ref q), .val (.int x), .val (.int (Int32.ofNat ((own_s x + i) % 8)))]) rfl ?_
  refine w_aloadN ok d20_6 rfl rfl ?_
  refine w_getfield ok (v := (.ref ke)) (host := "") (f := ("com/example/hornconv/hornconv/FactTable$PositionIndex", "keys", "[I", (.array .int))) 0 d20_7 (Or.inl (hw _ (List.mem_of_getElem? (i := 95) rfl))) Via.refl A_q rfl rfl ?_
  refine w_iloadN ok d20_10 rfl ?_
  refine w_iaload ok (v := (.int (Kf ((own_s x + i) % 8)))) d20_11 A_ke (own_ix0 (by omega)) (svg (j := ((own_s x + i) % 8)) (by omega) (by omega)) ?_
  refine w_iconst ok d20_12 (v := (-1 : Int32)) rfl ?_
  refine w_icmp_ne ok d20_13 (pc' := 20) (by decide) (fun hc4 => ?_) (fun hc4 => ?_)
  · skip
    refine w_aloadN ok d20_20 rfl rfl ?_
    refine w_getfield ok (v := (.ref he)) (host := "") (f := ("com/example/hornconv/hornconv/FactTable$PositionIndex", "heads", "[I", (.array .int))) 1 d20_21 (Or.inl (hw _ (List.mem_of_getElem? (i := 97) rfl))) Via.refl A_q rfl rfl ?_
    refine w_iloadN ok d20_24 rfl ?_
    refine w_iaload ok (v := (.int (H ((own_s x + i) % 8)))) d20_25 A_he (own_ix0 (by omega)) (svg (j := ((own_s x + i) % 8)) (by omega) (by omega)) ?_
    refine w_iret ok d20_26 (by decide) (by decide) ?_
    exact ⟨_, rfl, rfl⟩
  · skip
    refine w_iconst ok d20_16 (v := (-1 : Int32)) rfl ?_
    refine w_goto ok d20_17 (pc' := 26) (by decide) ?_
    refine w_iret ok d20_26 (by decide) (by decide) ?_
    exact ⟨_, rfl, rfl⟩
theorem END2 : True := trivial
theorem pm_ge {n : Nat} (h : 2 ≤ n) : pm n = n := if_neg (by omega)
theorem own_e1 {n : Nat} (h : n ≤ 3) (q : Int32.ofNat n = 1) : n = 1 := (own_eqn (b := 1) (by omega) (by omega)).mp q
theorem own_ne1 {n : Nat} (h : n ≤ 3) (h2 : 2 ≤ n) : ¬ Int32.ofNat n = 1 := fun q => by have := own_e1 h q; omega
theorem d12_0 : decode prog_3_method_19_code 0 = .ok (.iconst 2, 1) := by decide +kernel
theorem d12_1 : decode prog_3_method_19_code 1 = .ok (.aload_n 0, 1) := by decide +kernel
theorem d12_2 : decode prog_3_method_19_code 2 = .ok (.getfield 46, 3) := by decide +kernel
theorem d12_5 : decode prog_3_method_19_code 5 = .ok (.imul, 1) := by decide +kernel
theorem d12_6 : decode prog_3_method_19_code 6 = .ok (.aload_n 0, 1) := by decide +kernel
theorem d12_7 : decode prog_3_method_19_code 7 = .ok (.getfield 28, 3) := by decide +kernel
theorem d12_10 : decode prog_3_method_19_code 10 = .ok (.arraylength, 1) := by decide +kernel
theorem d12_11 : decode prog_3_method_19_code 11 = .ok (.iconst 2, 1) := by decide +kernel
theorem d12_12 : decode prog_3_method_19_code 12 = .ok (.idiv, 1) := by decide +kernel
theorem d12_13 : decode prog_3_method_19_code 13 = .ok (.if_icmp .le 13, 3) := by decide +kernel
theorem d12_16 : decode prog_3_method_19_code 16 = .ok (.iconst 2, 1) := by decide +kernel
theorem d12_17 : decode prog_3_method_19_code 17 = .ok (.aload_n 0, 1) := by decide +kernel
theorem d12_18 : decode prog_3_method_19_code 18 = .ok (.getfield 28, 3) := by decide +kernel
theorem d12_21 : decode prog_3_method_19_code 21 = .ok (.arraylength, 1) := by decide +kernel
theorem d12_22 : decode prog_3_method_19_code 22 = .ok (.imul, 1) := by decide +kernel
theorem d12_23 : decode prog_3_method_19_code 23 = .ok (.goto 8, 3) := by decide +kernel
theorem d12_26 : decode prog_3_method_19_code 26 = .ok (.aload_n 0, 1) := by decide +kernel
theorem d12_27 : decode prog_3_method_19_code 27 = .ok (.getfield 28, 3) := by decide +kernel
theorem d12_30 : decode prog_3_method_19_code 30 = .ok (.arraylength, 1) := by decide +kernel
theorem d12_31 : decode prog_3_method_19_code 31 = .ok (.istore_n 1, 1) := by decide +kernel
theorem d12_32 : decode prog_3_method_19_code 32 = .ok (.aload_n 0, 1) := by decide +kernel
theorem d12_33 : decode prog_3_method_19_code 33 = .ok (.iload_n 1, 1) := by decide +kernel
theorem d12_34 : decode prog_3_method_19_code 34 = .ok (.newarray .int, 2) := by decide +kernel
theorem d12_36 : decode prog_3_method_19_code 36 = .ok (.putfield 28, 3) := by decide +kernel
theorem d12_39 : decode prog_3_method_19_code 39 = .ok (.aload_n 0, 1) := by decide +kernel
theorem d12_40 : decode prog_3_method_19_code 40 = .ok (.getfield 28, 3) := by decide +kernel
theorem d12_43 : decode prog_3_method_19_code 43 = .ok (.iconst (-1), 1) := by decide +kernel
theorem d12_44 : decode prog_3_method_19_code 44 = .ok (.invokestatic 31, 3) := by decide +kernel
theorem d12_47 : decode prog_3_method_19_code 47 = .ok (.aload_n 0, 1) := by decide +kernel
theorem d12_48 : decode prog_3_method_19_code 48 = .ok (.iconst 0, 1) := by decide +kernel
theorem d12_49 : decode prog_3_method_19_code 49 = .ok (.putfield 81, 3) := by decide +kernel
theorem d12_52 : decode prog_3_method_19_code 52 = .ok (.iload_n 1, 1) := by decide +kernel
theorem d12_53 : decode prog_3_method_19_code 53 = .ok (.iconst 1, 1) := by decide +kernel
theorem d12_54 : decode prog_3_method_19_code 54 = .ok (.isub, 1) := by decide +kernel
theorem d12_55 : decode prog_3_method_19_code 55 = .ok (.istore_n 2, 1) := by decide +kernel
theorem d12_56 : decode prog_3_method_19_code 56 = .ok (.iconst 0, 1) := by decide +kernel
theorem d12_57 : decode prog_3_method_19_code 57 = .ok (.istore_n 3, 1) := by decide +kernel
theorem d12_58 : decode prog_3_method_19_code 58 = .ok (.iload_n 3, 1) := by decide +kernel
theorem d12_59 : decode prog_3_method_19_code 59 = .ok (.aload_n 0, 1) := by decide +kernel
theorem d12_60 : decode prog_3_method_19_code 60 = .ok (.getfield 43, 3) := by decide +kernel
theorem d12_63 : decode prog_3_method_19_code 63 = .ok (.if_icmp .ge 76, 3) := by decide +kernel
theorem d12_66 : decode prog_3_method_19_code 66 = .ok (.aload_n 0, 1) := by decide +kernel
theorem d12_67 : decode prog_3_method_19_code 67 = .ok (.getfield 24, 3) := by decide +kernel
theorem d12_70 : decode prog_3_method_19_code 70 = .ok (.iload_n 3, 1) := by decide +kernel
theorem d12_71 : decode prog_3_method_19_code 71 = .ok (.baload, 1) := by decide +kernel
theorem d12_72 : decode prog_3_method_19_code 72 = .ok (.ifCond .ne 61, 3) := by decide +kernel
theorem d12_75 : decode prog_3_method_19_code 75 = .ok (.aload_n 0, 1) := by decide +kernel
theorem d12_76 : decode prog_3_method_19_code 76 = .ok (.aload_n 0, 1) := by decide +kernel
theorem d12_77 : decode prog_3_method_19_code 77 = .ok (.getfield 21, 3) := by decide +kernel
theorem d12_80 : decode prog_3_method_19_code 80 = .ok (.iload_n 3, 1) := by decide +kernel
theorem d12_81 : decode prog_3_method_19_code 81 = .ok (.aload_n 0, 1) := by decide +kernel
theorem d12_82 : decode prog_3_method_19_code 82 = .ok (.getfield 17, 3) := by decide +kernel
theorem d12_85 : decode prog_3_method_19_code 85 = .ok (.imul, 1) := by decide +kernel
theorem d12_86 : decode prog_3_method_19_code 86 = .ok (.invokevirtual 53, 3) := by decide +kernel
theorem d12_89 : decode prog_3_method_19_code 89 = .ok (.iload_n 2, 1) := by decide +kernel
theorem d12_90 : decode prog_3_method_19_code 90 = .ok (.iand, 1) := by decide +kernel
theorem d12_91 : decode prog_3_method_19_code 91 = .ok (.istore 4, 2) := by decide +kernel
theorem d12_93 : decode prog_3_method_19_code 93 = .ok (.aload_n 0, 1) := by decide +kernel
theorem d12_94 : decode prog_3_method_19_code 94 = .ok (.getfield 28, 3) := by decide +kernel
theorem d12_97 : decode prog_3_method_19_code 97 = .ok (.iload 4, 2) := by decide +kernel
theorem d12_99 : decode prog_3_method_19_code 99 = .ok (.iaload, 1) := by decide +kernel
theorem d12_100 : decode prog_3_method_19_code 100 = .ok (.iconst (-1), 1) := by decide +kernel
theorem d12_101 : decode prog_3_method_19_code 101 = .ok (.if_icmp .eq 14, 3) := by decide +kernel
theorem d12_104 : decode prog_3_method_19_code 104 = .ok (.iload 4, 2) := by decide +kernel
theorem d12_106 : decode prog_3_method_19_code 106 = .ok (.iconst 1, 1) := by decide +kernel
theorem d12_107 : decode prog_3_method_19_code 107 = .ok (.iadd, 1) := by decide +kernel
theorem d12_108 : decode prog_3_method_19_code 108 = .ok (.iload_n 2, 1) := by decide +kernel
theorem d12_109 : decode prog_3_method_19_code 109 = .ok (.iand, 1) := by decide +kernel
theorem d12_110 : decode prog_3_method_19_code 110 = .ok (.istore 4, 2) := by decide +kernel
theorem d12_112 : decode prog_3_method_19_code 112 = .ok (.goto (-19), 3) := by decide +kernel
theorem d12_115 : decode prog_3_method_19_code 115 = .ok (.aload_n 0, 1) := by decide +kernel
theorem d12_116 : decode prog_3_method_19_code 116 = .ok (.getfield 28, 3) := by decide +kernel
theorem d12_119 : decode prog_3_method_19_code 119 = .ok (.iload 4, 2) := by decide +kernel
theorem d12_121 : decode prog_3_method_19_code 121 = .ok (.iload_n 3, 1) := by decide +kernel
theorem d12_122 : decode prog_3_method_19_code 122 = .ok (.iastore, 1) := by decide +kernel
theorem d12_123 : decode prog_3_method_19_code 123 = .ok (.aload_n 0, 1) := by decide +kernel
theorem d12_124 : decode prog_3_method_19_code 124 = .ok (.dup, 1) := by decide +kernel
theorem d12_125 : decode prog_3_method_19_code 125 = .ok (.getfield 81, 3) := by decide +kernel
theorem d12_128 : decode prog_3_method_19_code 128 = .ok (.iconst 1, 1) := by decide +kernel
theorem d12_129 : decode prog_3_method_19_code 129 = .ok (.iadd, 1) := by decide +kernel
theorem d12_130 : decode prog_3_method_19_code 130 = .ok (.putfield 81, 3) := by decide +kernel
theorem d12_133 : decode prog_3_method_19_code 133 = .ok (.iinc 3 1, 3) := by decide +kernel
theorem d12_136 : decode prog_3_method_19_code 136 = .ok (.goto (-78), 3) := by decide +kernel
theorem d12_139 : decode prog_3_method_19_code 139 = .ok (.return_, 1) := by decide +kernel
set_option maxRecDepth 65536 in
set_option maxHeartbeats 40000000 in
theorem lp_rz93 (l : Launch) (Z : State) (a0 : Array Value) (hw : ∀ d ∈ tables_1, d.before a0 Z = true) (n0 : Nat) (h0 : Heap) (K : Cx) (ok : Ok K Z n0 "com/example/hornconv/hornconv/FactTable" prog_3_method_19_code 5 none "resize") (t un me ag de sl po : Addr) (n : Nat) (rw lw us : Int32) (A_t : FO Z h0 t un me ag de sl po (Int32.ofNat n) rw lw us) (f : Nat → Int32) (A_sl : PA .int Z h0 sl (sv 16 f)) (R : Room) (P : Option Value → Heap → Prop) (k1 n1 : Nat) (z3 : Int32) (s : Nat) (hk : ∀ s', s' < 16 → f s' = -1 → W K l R n0 P h0 k1 n1 115 #[.val (.ref t), .val (.int (16 : Int32)), .val (.int (15 : Int32)), .val (.int z3), .val (.int (Int32.ofNat s'))] []) :
    ∀ (cc j : Nat), f ((s + (j + cc)) % 16) = -1 → W K l R n0 P h0 k1 n1 93 #[.val (.ref t), .val (.int (16 : Int32)), .val (.int (15 : Int32)), .val (.int z3), .val (.int (Int32.ofNat ((s + j) % 16)))] [] := by
  intro cc
  induction cc with
  | zero =>
    intro j hc
    show W K l _ n0 _ h0 k1 n1 93 #[.val (.ref t), .val (.int (16 : Int32)), .val (.int (15 : Int32)), .val (.int z3), .val (.int (Int32.ofNat ((s + j) % 16)))] []
    refine w_aloadN ok d12_93 rfl rfl ?_
    refine w_getfield ok (v := (.ref sl)) (host := "") (f := ("com/example/hornconv/hornconv/FactTable", "slots", "[I", (.array .int))) 5 d12_94 (Or.inl (hw _ (List.mem_of_getElem? (i := 27) rfl))) Via.refl A_t rfl rfl ?_
    refine w_iload ok d12_97 rfl ?_
    refine w_iaload ok (v := (.int (f ((s + j) % 16)))) d12_99 A_sl (own_ix0 (by omega)) (svg (j := ((s + j) % 16)) (by omega) (by omega)) ?_
    refine w_iconst ok d12_100 (v := (-1 : Int32)) rfl ?_
    refine w_icmp_eq ok d12_101 (pc' := 115) (by decide) (fun hc1 => ?_) (fun hc1 => False.elim (by exact hc1 hc))
    exact hk _ (by omega) hc
  | succ cc ih =>
    intro j hc
    show W K l _ n0 _ h0 k1 n1 93 #[.val (.ref t), .val (.int (16 : Int32)), .val (.int (15 : Int32)), .val (.int z3), .val (.int (Int32.ofNat ((s + j) % 16)))] []
    refine w_aloadN ok d12_93 rfl rfl ?_
    refine w_getfield ok (v := (.ref sl)) (host := "") (f := ("com/example/hornconv/hornconv/FactTable", "slots", "[I", (.array .int))) 5 d12_94 (Or.inl (hw _ (List.mem_of_getElem? (i := 27) rfl))) Via.refl A_t rfl rfl ?_
    refine w_iload ok d12_97 rfl ?_
    refine w_iaload ok (v := (.int (f ((s + j) % 16)))) d12_99 A_sl (own_ix0 (by omega)) (svg (j := ((s + j) % 16)) (by omega) (by omega)) ?_
    refine w_iconst ok d12_100 (v := (-1 : Int32)) rfl ?_
    refine w_icmp_eq ok d12_101 (pc' := 115) (by decide) (fun hc3 => ?_) (fun hc3 => ?_)
    · skip
      exact hk _ (by omega) hc3
    · skip
      refine w_iload ok d12_104 rfl ?_
      refine w_iconst ok d12_106 (v := (1 : Int32)) rfl ?_
      refine w_iadd ok d12_107 ?_
      refine w_iloadN ok d12_108 rfl ?_
      refine w_iand ok d12_109 ?_
      refine w_istore ok d12_110 (L' := #[.val (.ref t), .val (.int (16 : Int32)), .val (.int (15 : Int32)), .val (.int z3), .val (.int (((Int32.ofNat ((s + j) % 16)) + (1 : Int32)) &&& (15 : Int32)))]) rfl ?_
      refine w_goto ok d12_112 (pc' := 93) (by decide) ?_
      show W K l _ n0 _ h0 k1 n1 93 #[.val (.ref t), .val (.int (16 : Int32)), .val (.int (15 : Int32)), .val (.int z3), .val (.int (((Int32.ofNat ((s + j) % 16)) + (1 : Int32)) &&& (15 : Int32)))] []
      rw [show (Int32.ofNat ((s + j) % 16) + 1) &&& 15 = Int32.ofNat ((s + (j + 1)) % 16) from own_nxt (Or.inr rfl) (s + j)]
      exact ih (j + 1) (by rw [show j + 1 + cc = j + (cc + 1) by omega]; exact hc)
set_option maxRecDepth 65536 in
set_option maxHeartbeats 40000000 in
theorem lp_rz58 (l : Launch) (Z : State) (a0 : Array Value) (hw : ∀ d ∈ tables_1, d.before a0 Z = true) (n0 : Nat) (h0 : Heap) (K : Cx) (ok : Ok K Z n0 "com/example/hornconv/hornconv/FactTable" prog_3_method_19_code 5 none "resize") (t un me ag de sl po : Addr) (n : Nat) (hn : 1 ≤ n ∧ n ≤ 3) (La : Nat) (A : Nat → Int32) (hLa : 5 * n ≤ La ∧ La < 1000) (ge_t : n0 ≤ t) (ne_t_ag : t ≠ ag) (ne_t_de : t ≠ de) (ge_sl : n0 ≤ sl) (sz_sl : h0.size ≤ sl) (ne_t_sl : t ≠ sl) (ne_ag_sl : ag ≠ sl) (ne_de_sl : de ≠ sl) :
    ∀ (cc i : Nat) (h1 : Heap) (f : Nat → Int32) (s4 : Slot), One s4 → i + cc = 5 → Keep h0 h1 [t] → FO Z h1 t un me ag de sl po (Int32.ofNat n) 5 5 (Int32.ofNat i) → PA .int Z h1 ag (sv La A) → PA .boolean Z h1 de (sv 8 (fun _ => 0)) → PA .int Z h1 sl (sv 16 f) → IR i 16 f → W K l ({ frames := 1, cells := 1, slots := 16, locals := 16 } : Room) n0 (fun u h => u = none ∧ ∃ sl' f', h0.size ≤ sl' ∧ n0 ≤ sl' ∧ Keep h0 h [t] ∧ FO Z h t un me ag de sl' po (Int32.ofNat n) 5 5 5 ∧ PA .int Z h sl' (sv 16 f') ∧ IR 5 16 f') h1 1 16 58 #[.val (.ref t), .val (.int (16 : Int32)), .val (.int (15 : Int32)), .val (.int (Int32.ofNat i)), s4] [] := by
  intro cc
  induction cc with
  | zero =>
    intro i h1 f s4 o4 hi Kp A_t A_ag A_de A_sl hI
    obtain rfl : i = 5 := by omega
    show W K l _ n0 _ h1 1 16 58 #[.val (.ref t), .val (.int (16 : Int32)), .val (.int (15 : Int32)), .val (.int (5 : Int32)), s4] []
    refine w_iloadN ok d12_58 rfl ?_
    refine w_aloadN ok d12_59 rfl rfl ?_
    refine w_getfield ok (v := (.int (5 : Int32))) (host := "") (f := ("com/example/hornconv/hornconv/FactTable", "rows", "I", .int)) 7 d12_60 (Or.inl (hw _ (List.mem_of_getElem? (i := 51) rfl))) Via.refl A_t rfl rfl ?_
    refine w_icmp_ge ok d12_63 (pc' := 139) (by decide) (fun hc1 => ?_) (fun hc1 => False.elim (by revert hc1; decide))
    refine w_ret ok d12_139 (by decide) (by decide) ?_
    exact ⟨rfl, sl, f, sz_sl, ge_sl, Kp, A_t, A_sl, hI⟩
  | succ cc ih =>
    intro i h1 f s4 o4 hi Kp A_t A_ag A_de A_sl hI
    show W K l _ n0 _ h1 1 16 58 #[.val (.ref t), .val (.int (16 : Int32)), .val (.int (15 : Int32)), .val (.int (Int32.ofNat i)), s4] []
    refine w_iloadN ok d12_58 rfl ?_
    refine w_aloadN ok d12_59 rfl rfl ?_
    refine w_getfield ok (v := (.int (5 : Int32))) (host := "") (f := ("com/example/hornconv/hornconv/FactTable", "rows", "I", .int)) 7 d12_60 (Or.inl (hw _ (List.mem_of_getElem? (i := 51) rfl))) Via.refl A_t rfl rfl ?_
    refine w_icmp_ge ok d12_63 (pc' := 139) (by decide) (fun hc3 => False.elim (by exact hc3 ((own_lt (b := 5) (by omega) (by omega)).mpr (by omega)))) (fun hc3 => ?_)
    refine w_aloadN ok d12_66 rfl rfl ?_
    refine w_getfield ok (v := (.ref de)) (host := "") (f := ("com/example/hornconv/hornconv/FactTable", "dead", "[Z", (.array .boolean))) 4 d12_67 (Or.inl (hw _ (List.mem_of_getElem? (i := 25) rfl))) Via.refl A_t rfl rfl ?_
    refine w_iloadN ok d12_70 rfl ?_
    refine w_zaload ok (v := (.int (0 : Int32))) d12_71 A_de (own_ix0 (by omega)) (svg (f := fun _ => (0 : Int32)) (j := i) (by omega) (by omega)) ?_
    refine w_if_ne ok d12_72 (pc' := 133) (by decide) (fun hc5 => False.elim (by revert hc5; decide)) (fun hc5 => ?_)
    refine w_aloadN ok d12_75 rfl rfl ?_
    refine w_aloadN ok d12_76 rfl rfl ?_
    refine w_getfield ok (v := (.ref ag)) (host := "") (f := ("com/example/hornconv/hornconv/FactTable", "arguments", "[I", (.array .int))) 3 d12_77 (Or.inl (hw _ (List.mem_of_getElem? (i := 22) rfl))) Via.refl A_t rfl rfl ?_
    refine w_iloadN ok d12_80 rfl ?_
    refine w_aloadN ok d12_81 rfl rfl ?_
    refine w_getfield ok (v := (.int (Int32.ofNat n))) (host := "") (f := ("com/example/hornconv/hornconv/FactTable", "arity", "I", .int)) 2 d12_82 (Or.inl (hw _ (List.mem_of_getElem? (i := 20) rfl))) Via.refl A_t rfl rfl ?_
    refine w_imul ok d12_85 ?_
    show W K l _ n0 _ h1 1 16 86 #[.val (.ref t), .val (.int (16 : Int32)), .val (.int (15 : Int32)), .val (.int (Int32.ofNat i)), s4] [(.int ((Int32.ofNat i) * (Int32.ofNat n))), (.ref ag), (.ref t)]
    rw [own_mul]
    refine w_callP ok (y := mn_6) (a := t) (argsL := [(.ref ag), (.int (Int32.ofNat (i * n)))]) (rest := []) d12_86 (hw _ (List.mem_of_getElem? (i := 42) rfl)) (hw _ (List.mem_of_getElem? (i := 43) rfl)) (hw _ (List.mem_of_getElem? (i := 44) rfl)) (hw _ (List.mem_of_getElem? (i := 7) rfl)) (hw _ (List.mem_of_getElem? (i := 8) rfl)) (hw _ (List.mem_of_getElem? (i := 45) rfl)) (by decide) A_t.1 pd_285bII29I rfl rfl (by decide) (Nat.le_of_ble_eq_true rfl) (by decide) (by decide) (fun z0 => rm_hash l Z a0 hw [] n0 h1 z0 t un me ag de sl po n (5 : Int32) (5 : Int32) (Int32.ofNat i) A_t (by omega) ag La (i * n) A A_ag (by omega) (own_xn (r := 5) (by omega) hLa).1) (fun v7 h8 qv7 => ?_)
    obtain ⟨hz6, rfl, rfl⟩ := qv7
    show W K l _ n0 _ h1 1 16 89 #[.val (.ref t), .val (.int (16 : Int32)), .val (.int (15 : Int32)), .val (.int (Int32.ofNat i)), s4] [(.int hz6)]
    refine w_iloadN ok d12_89 rfl ?_
    refine w_iand ok d12_90 ?_
    refine w_istore ok d12_91 (L' := #[.val (.ref t), .val (.int (16 : Int32)), .val (.int (15 : Int32)), .val (.int (Int32.ofNat i)), .val (.int (hz6 &&& (15 : Int32)))]) (by exact XS.store1 (o := s4) rfl o4 rfl) ?_
    show W K l _ n0 _ h1 1 16 93 #[.val (.ref t), .val (.int (16 : Int32)), .val (.int (15 : Int32)), .val (.int (Int32.ofNat i)), .val (.int (hz6 &&& (15 : Int32)))] []
    obtain ⟨s, es, -⟩ := own_strt (Or.inr rfl : (16 : Nat) = 8 ∨ 16 = 16) hz6
    rw [show hz6 &&& (15 : Int32) = Int32.ofNat ((s + 0) % 16) from es]
    obtain ⟨m, hm⟩ := hI.free (Or.inr rfl) (by omega) s
    refine lp_rz93 l Z a0 hw n0 h1 K ok t un me ag de sl po n 5 5 _ A_t f A_sl _ _ _ _ _ s (fun s' h8 hf => ?_) m 0 (by rw [Nat.zero_add]; exact hm)
    show W K l _ n0 _ h1 1 16 115 #[.val (.ref t), .val (.int (16 : Int32)), .val (.int (15 : Int32)), .val (.int (Int32.ofNat i)), .val (.int (Int32.ofNat s'))] []
    refine w_aloadN ok d12_115 rfl rfl ?_
    refine w_getfield ok (v := (.ref sl)) (host := "") (f := ("com/example/hornconv/hornconv/FactTable", "slots", "[I", (.array .int))) 5 d12_116 (Or.inl (hw _ (List.mem_of_getElem? (i := 27) rfl))) Via.refl A_t rfl rfl ?_
    refine w_iload ok d12_119 rfl ?_
    refine w_iloadN ok d12_121 rfl ?_
    refine w_iastore ok d12_122 A_sl ge_sl (own_ix0 (by omega)) (svl (j := s') (by omega) (by omega)) (fun h9 W_h9 A1_h9 => ?_)
    replace Kp := Kp.wr W_h9 (Or.inr sz_sl)
    replace A_t := A_t.other W_h9 ne_t_sl
    replace A_ag := A_ag.other W_h9 ne_ag_sl
    replace A_de := A_de.other W_h9 ne_de_sl
    replace A_sl : PA .int Z h9 sl ((sv 16 f).set (Int32.ofNat s').toNatClampNeg (.int (Int32.ofNat i))) := A1_h9
    rw [own_ix (j := s') (by omega), sv_set] at A_sl
    refine w_aloadN ok d12_123 rfl rfl ?_
    refine w_dup ok d12_124 rfl ?_
    refine w_getfield ok (v := (.int (Int32.ofNat i))) (host := "") (f := ("com/example/hornconv/hornconv/FactTable", "used", "I", .int)) 9 d12_125 (Or.inl (hw _ (List.mem_of_getElem? (i := 59) rfl))) Via.refl A_t rfl rfl ?_
    refine w_iconst ok d12_128 (v := (1 : Int32)) rfl ?_
    refine w_iadd ok d12_129 ?_
    refine w_putfield ok (host := "") (f := ("com/example/hornconv/hornconv/FactTable", "used", "I", .int)) 9 d12_130 (Or.inl (hw _ (List.mem_of_getElem? (i := 59) rfl))) Via.refl A_t (la_FactTable hw) rfl rfl (Or.inl (hw _ (List.mem_of_getElem? (i := 60) rfl))) (hw _ (List.mem_of_getElem? (i := 7) rfl)) rfl rfl ge_t (fun h10 W_h10 A1_h10 => ?_)
    replace Kp := Kp.wr W_h10 (Or.inl (by simp))
    replace A_ag := A_ag.other W_h10 (Ne.symm ne_t_ag)
    replace A_de := A_de.other W_h10 (Ne.symm ne_t_de)
    replace A_sl := A_sl.other W_h10 (Ne.symm ne_t_sl)
    replace A_t : Ob Z h10 t "com/example/hornconv/hornconv/FactTable" fl_FactTable [(.ref un), (.ref me), (.int (Int32.ofNat n)), (.ref ag), (.ref de), (.ref sl), (.ref po), (.int (5 : Int32)), (.int (5 : Int32)), (.int ((Int32.ofNat i) + (1 : Int32)))] := A1_h10
    refine w_iinc ok d12_133 (u := (1 : Int32)) rfl rfl (L' := #[.val (.ref t), .val (.int (16 : Int32)), .val (.int (15 : Int32)), .val (.int ((Int32.ofNat i) + (1 : Int32))), .val (.int (Int32.ofNat s'))]) rfl ?_
    show W K l _ n0 _ h10 1 16 136 #[.val (.ref t), .val (.int (16 : Int32)), .val (.int (15 : Int32)), .val (.int ((Int32.ofNat i) + (1 : Int32))), .val (.int (Int32.ofNat s'))] []
    refine w_goto ok d12_136 (pc' := 58) (by decide) ?_
    show W K l _ n0 _ h10 1 16 58 #[.val (.ref t), .val (.int (16 : Int32)), .val (.int (15 : Int32)), .val (.int ((Int32.ofNat i) + (1 : Int32))), .val (.int (Int32.ofNat s'))] []
    rw [own_inc] at A_t ⊢
    exact ih (i + 1) _ _ _ (One.val rfl) (by omega) Kp A_t A_ag A_de A_sl (hI.put h8 (by omega) hf)
abbrev mn_12 : MethodName := ⟨"com/example/hornconv/hornconv/FactTable", "resize", "()V"⟩
set_option maxRecDepth 65536 in
set_option maxHeartbeats 40000000 in
theorem rm_resize (l : Launch) (Z : State) (a0 : Array Value) (hw : ∀ d ∈ tables_1, d.before a0 Z = true) (ws : List Jvm.Cond) (n0 : Nat) (h0 : Heap) (Z0 : Old Z n0 h0) (t un me ag de sl po : Addr) (n : Nat) (hn : 1 ≤ n ∧ n ≤ 3) (La : Nat) (A : Nat → Int32) (hLa : 5 * n ≤ La ∧ La < 1000) (ge_t : n0 ≤ t) (ne_t_ag : t ≠ ag) (ne_t_de : t ≠ de) (f : Nat → Int32) (ne_t_sl : t ≠ sl) (A_t : FO Z h0 t un me ag de sl po (Int32.ofNat n) 5 5 5) (A_ag : PA .int Z h0 ag (sv La A)) (A_de : PA .boolean Z h0 de (sv 8 (fun _ => 0))) (A_sl : PA .int Z h0 sl (sv 8 f))  :
    Met l Z n0 mn_12 prog_3_method_19_code 5 none ws ({ frames := 1, cells := 1, slots := 16, locals := 16 } : Room) #[(.ref t)] h0 (fun u h => u = none ∧ ∃ sl' f', h0.size ≤ sl' ∧ n0 ≤ sl' ∧ Keep h0 h [t] ∧ FO Z h t un me ag de sl' po (Int32.ofNat n) 5 5 5 ∧ PA .int Z h sl' (sv 16 f') ∧ IR 5 16 f') := by
  refine met_of Z0 (plainFor_of_name pn_com_example_hornconv_hornconv_FactTable) (Ls := #[.val (.ref t), .unset, .unset, .unset, .unset]) (fun m => by first | (simp [entryFrame, mkF, argsToLocals, Value.category]; done) | rfl) ?_
  intro K ok
  have Kp : Keep h0 h0 [t] := Keep.refl _ _
  show W K l _ n0 _ h0 0 0 0 #[.val (.ref t), .unset, .unset, .unset, .unset] []
  refine w_iconst ok d12_0 (v := (2 : Int32)) rfl ?_
  refine w_aloadN ok d12_1 rfl rfl ?_
  refine w_getfield ok (v := (.int (5 : Int32))) (host := "") (f := ("com/example/hornconv/hornconv/FactTable", "live", "I", .int)) 8 d12_2 (Or.inl (hw _ (List.mem_of_getElem? (i := 57) rfl))) Via.refl A_t rfl rfl ?_
  refine w_imul ok d12_5 ?_
  show W K l _ n0 _ h0 0 0 6 #[.val (.ref t), .unset, .unset, .unset, .unset] [(.int (10 : Int32))]
  refine w_aloadN ok d12_6 rfl rfl ?_
  refine w_getfield ok (v := (.ref sl)) (host := "") (f := ("com/example/hornconv/hornconv/FactTable", "slots", "[I", (.array .int))) 5 d12_7 (Or.inl (hw _ (List.mem_of_getElem? (i := 27) rfl))) Via.refl A_t rfl rfl ?_
  refine w_arraylength ok (z := (8 : Int32)) d12_10 A_sl (sv_len 8 _) (by decide) ?_
  show W K l _ n0 _ h0 0 0 11 #[.val (.ref t), .unset, .unset, .unset, .unset] [(.int (8 : Int32)), (.int (10 : Int32))]
  refine w_iconst ok d12_11 (v := (2 : Int32)) rfl ?_
  refine w_idiv ok d12_12 (by decide) ?_
  show W K l _ n0 _ h0 0 0 13 #[.val (.ref t), .unset, .unset, .unset, .unset] [(.int (4 : Int32)), (.int (10 : Int32))]
  refine w_icmp_le ok d12_13 (pc' := 26) (by decide) (fun hc1 => False.elim (by revert hc1; decide)) (fun hc1 => ?_)
  refine w_iconst ok d12_16 (v := (2 : Int32)) rfl ?_
  refine w_aloadN ok d12_17 rfl rfl ?_
  refine w_getfield ok (v := (.ref sl)) (host := "") (f := ("com/example/hornconv/hornconv/FactTable", "slots", "[I", (.array .int))) 5 d12_18 (Or.inl (hw _ (List.mem_of_getElem? (i := 27) rfl))) Via.refl A_t rfl rfl ?_
  refine w_arraylength ok (z := (8 : Int32)) d12_21 A_sl (sv_len 8 _) (by decide) ?_
  show W K l _ n0 _ h0 0 0 22 #[.val (.ref t), .unset, .unset, .unset, .unset] [(.int (8 : Int32)), (.int (2 : Int32))]
  refine w_imul ok d12_22 ?_
  show W K l _ n0 _ h0 0 0 23 #[.val (.ref t), .unset, .unset, .unset, .unset] [(.int (16 : Int32))]
  refine w_goto ok d12_23 (pc' := 31) (by decide) ?_
  refine w_istoreN ok d12_31 (L' := #[.val (.ref t), .val (.int (16 : Int32)), .unset, .unset, .unset]) rfl ?_
  refine w_aloadN ok d12_32 rfl rfl ?_
  refine w_iloadN ok d12_33 rfl ?_
  refine w_newarray ok d12_34 (hw _ (List.mem_of_getElem? (i := 1) rfl)) (by decide) (cap := 16) (by decide) (by decide) (by decide) (by decide) (fun h3 b2 ea_b2 ge_b2 E_b2 A_b2 => ?_)
  have sz_b2 : h0.size ≤ b2 := Nat.le_trans Kp.1 (Nat.le_of_eq ea_b2.symm)
  have ne_t_b2 : t ≠ b2 := fun q => Nat.lt_irrefl _ (Nat.lt_of_lt_of_eq A_t.lt (ea_b2.symm.trans q.symm))
  have ne_ag_b2 : ag ≠ b2 := fun q => Nat.lt_irrefl _ (Nat.lt_of_lt_of_eq A_ag.lt (ea_b2.symm.trans q.symm))
  have ne_de_b2 : de ≠ b2 := fun q => Nat.lt_irrefl _ (Nat.lt_of_lt_of_eq A_de.lt (ea_b2.symm.trans q.symm))
  have ne_sl_b2 : sl ≠ b2 := fun q => Nat.lt_irrefl _ (Nat.lt_of_lt_of_eq A_sl.lt (ea_b2.symm.trans q.symm))
  replace Kp := Kp.ext E_b2
  replace A_t := A_t.ext E_b2
  replace A_ag := A_ag.ext E_b2
  replace A_de := A_de.ext E_b2
  replace A_sl := A_sl.ext E_b2
  replace A_b2 : PA .int Z h3 b2 [(.int (0 : Int32)), (.int (0 : Int32)), (.int (0 : Int32)), (.int (0 : Int32)), (.int (0 : Int32)), (.int (0 : Int32)), (.int (0 : Int32)), (.int (0 : Int32)), (.int (0 : Int32)), (.int (0 : Int32)), (.int (0 : Int32)), (.int (0 : Int32)), (.int (0 : Int32)), (.int (0 : Int32)), (.int (0 : Int32)), (.int (0 : Int32))] := A_b2
  refine w_putfield ok (host := "") (f := ("com/example/hornconv/hornconv/FactTable", "slots", "[I", (.array .int))) 5 d12_36 (Or.inl (hw _ (List.mem_of_getElem? (i := 27) rfl))) Via.refl A_t (la_FactTable hw) rfl rfl (Or.inl (hw _ (List.mem_of_getElem? (i := 28) rfl))) (hw _ (List.mem_of_getElem? (i := 7) rfl)) rfl rfl ge_t (fun h4 W_h4 A1_h4 => ?_)
  replace Kp := Kp.wr W_h4 (Or.inl (by simp))
  replace A_ag := A_ag.other W_h4 (Ne.symm ne_t_ag)
  replace A_de := A_de.other W_h4 (Ne.symm ne_t_de)
  replace A_sl := A_sl.other W_h4 (Ne.symm ne_t_sl)
  replace A_b2 := A_b2.other W_h4 (Ne.symm ne_t_b2)
  replace A_t : Ob Z h4 t "com/example/hornconv/hornconv/FactTable" fl_FactTable [(.ref un), (.ref me), (.int (Int32.ofNat n)), (.ref ag), (.ref de), (.ref b2), (.ref po), (.int (5 : Int32)), (.int (5 : Int32)), (.int (5 : Int32))] := A1_h4
  refine w_aloadN ok d12_39 rfl rfl ?_
  refine w_getfield ok (v := (.ref b2)) (host := "") (f := ("com/example/hornconv/hornconv/FactTable", "slots", "[I", (.array .int))) 5 d12_40 (Or.inl (hw _ (List.mem_of_getElem? (i := 27) rfl))) Via.refl A_t rfl rfl ?_
  refine w_iconst ok d12_43 (v := (-1 : Int32)) rfl ?_
  refine w_callS ok (y := mn_4) (argsL := [(.ref b2), (.int (-1 : Int32))]) (rest := []) d12_44 (hw _ (List.mem_of_getElem? (i := 29) rfl)) (hw _ (List.mem_of_getElem? (i := 30) rfl)) (hw _ (List.mem_of_getElem? (i := 31) rfl)) (hw _ (List.mem_of_getElem? (i := 32) rfl)) (by decide) pd_285bII29V rfl rfl (by decide) (Nat.le_of_ble_eq_true rfl) (by decide) (by decide) (fun z0 => rm_fill l Z a0 hw [] n0 h4 z0 b2 (-1) 16 (fun _ => (0 : Int32)) (by omega) A_b2 ge_b2) (fun v5 h6 qv5 => ?_)
  obtain ⟨rfl, K1, A1⟩ := qv5
  replace Kp := Kp.trans K1 (allS (Or.inr sz_b2) all0)
  replace A_t := A_t.keep K1 (ninS ne_t_b2 nin0)
  replace A_ag := A_ag.keep K1 (ninS ne_ag_b2 nin0)
  replace A_de := A_de.keep K1 (ninS ne_de_b2 nin0)
  replace A_sl := A_sl.keep K1 (ninS ne_sl_b2 nin0)
  replace A_b2 := A1
  show W K l _ n0 _ h6 1 16 47 #[.val (.ref t), .val (.int (16 : Int32)), .unset, .unset, .unset] []
  refine w_aloadN ok d12_47 rfl rfl ?_
  refine w_iconst ok d12_48 (v := (0 : Int32)) rfl ?_
  refine w_putfield ok (host := "") (f := ("com/example/hornconv/hornconv/FactTable", "used", "I", .int)) 9 d12_49 (Or.inl (hw _ (List.mem_of_getElem? (i := 59) rfl))) Via.refl A_t (la_FactTable hw) rfl rfl (Or.inl (hw _ (List.mem_of_getElem? (i := 60) rfl))) (hw _ (List.mem_of_getElem? (i := 7) rfl)) rfl rfl ge_t (fun h7 W_h7 A1_h7 => ?_)
  replace Kp := Kp.wr W_h7 (Or.inl (by simp))
  replace A_ag := A_ag.other W_h7 (Ne.symm ne_t_ag)
  replace A_de := A_de.other W_h7 (Ne.symm ne_t_de)
  replace A_sl := A_sl.other W_h7 (Ne.symm ne_t_sl)
  replace A_b2 := A_b2.other W_h7 (Ne.symm ne_t_b2)
  replace A_t : Ob Z h7 t "com/example/hornconv/hornconv/FactTable" fl_FactTable [(.ref un), (.ref me), (.int (Int32.ofNat n)), (.ref ag), (.ref de), (.ref b2), (.ref po), (.int (5 : Int32)), (.int (5 : Int32)), (.int (0 : Int32))] := A1_h7
  refine w_iloadN ok d12_52 rfl ?_
  refine w_iconst ok d12_53 (v := (1 : Int32)) rfl ?_
  refine w_isub ok d12_54 ?_
  show W K l _ n0 _ h7 1 16 55 #[.val (.ref t), .val (.int (16 : Int32)), .unset, .unset, .unset] [(.int (15 : Int32))]
  refine w_istoreN ok d12_55 (L' := #[.val (.ref t), .val (.int (16 : Int32)), .val (.int (15 : Int32)), .unset, .unset]) rfl ?_
  refine w_iconst ok d12_56 (v := (0 : Int32)) rfl ?_
  refine w_istoreN ok d12_57 (L' := #[.val (.ref t), .val (.int (16 : Int32)), .val (.int (15 : Int32)), .val (.int (0 : Int32)), .unset]) rfl ?_
  show W K l _ n0 _ h7 1 16 58 #[.val (.ref t), .val (.int (16 : Int32)), .val (.int (15 : Int32)), .val (.int (0 : Int32)), .unset] []
  exact lp_rz58 l Z a0 hw n0 h0 K ok t un me ag de b2 po n hn La A hLa ge_t ne_t_ag ne_t_de ge_b2 sz_b2 ne_t_b2 ne_ag_b2 ne_de_b2 5 0 h7 _ _ One.u (by omega) Kp A_t A_ag A_de A_b2 (IR.zero 16)
theorem END3 : True := trivial
theorem own_cap {r n : Nat} (hr : r ≤ 5) (hn : n ≤ 3) : (r * n ≤ cap4 r * n ∧ cap4 r * n < 1000) ∧ (r ≤ cap4 r ∧ cap4 r < 1000) := by
  have h : r ≤ cap4 r ∧ cap4 r ≤ 8 := by unfold cap4; split <;> omega
  have h1 := Nat.mul_le_mul_right n h.1
  have h2 := Nat.mul_le_mul h.2 hn
  omega
theorem own_capS {r : Nat} (hr : r ≤ 5) : (capS r = 8 ∨ capS r = 16) ∧ r < capS r := by unfold capS; split <;> omega
theorem own_g2 {n : Nat} (hn : 1 ≤ n ∧ n ≤ 3) (h : ¬ Int32.ofNat n = 1) : 2 ≤ n := by
  rcases Nat.lt_or_ge n 2 with q | q
  · exact absurd (by rw [show n = 1 by omega]; rfl) h
  · exact q
theorem d2_0 : decode prog_3_method_1_code 0 = .ok (.aload_n 0, 1) := by decide +kernel
theorem d2_1 : decode prog_3_method_1_code 1 = .ok (.invokespecial 1, 3) := by decide +kernel
theorem d2_4 : decode prog_3_method_1_code 4 = .ok (.aload_n 0, 1) := by decide +kernel
theorem d2_5 : decode prog_3_method_1_code 5 = .ok (.iconst 1, 1) := by decide +kernel
theorem d2_6 : decode prog_3_method_1_code 6 = .ok (.newarray .int, 2) := by decide +kernel
theorem d2_8 : decode prog_3_method_1_code 8 = .ok (.putfield 7, 3) := by decide +kernel
theorem d2_11 : decode prog_3_method_1_code 11 = .ok (.aload_n 0, 1) := by decide +kernel
theorem d2_12 : decode prog_3_method_1_code 12 = .ok (.iconst 0, 1) := by decide +kernel
theorem d2_13 : decode prog_3_method_1_code 13 = .ok (.newarray .long, 2) := by decide +kernel
theorem d2_15 : decode prog_3_method_1_code 15 = .ok (.putfield 13, 3) := by decide +kernel
theorem d2_18 : decode prog_3_method_1_code 18 = .ok (.aload_n 0, 1) := by decide +kernel
theorem d2_19 : decode prog_3_method_1_code 19 = .ok (.iload_n 1, 1) := by decide +kernel
theorem d2_20 : decode prog_3_method_1_code 20 = .ok (.putfield 17, 3) := by decide +kernel
theorem d2_23 : decode prog_3_method_1_code 23 = .ok (.aload_n 0, 1) := by decide +kernel
theorem d2_24 : decode prog_3_method_1_code 24 = .ok (.iconst 4, 1) := by decide +kernel
theorem d2_25 : decode prog_3_method_1_code 25 = .ok (.iload_n 1, 1) := by decide +kernel
theorem d2_26 : decode prog_3_method_1_code 26 = .ok (.imul, 1) := by decide +kernel
theorem d2_27 : decode prog_3_method_1_code 27 = .ok (.newarray .int, 2) := by decide +kernel
theorem d2_29 : decode prog_3_method_1_code 29 = .ok (.putfield 21, 3) := by decide +kernel
theorem d2_32 : decode prog_3_method_1_code 32 = .ok (.aload_n 0, 1) := by decide +kernel
theorem d2_33 : decode prog_3_method_1_code 33 = .ok (.iconst 4, 1) := by decide +kernel
theorem d2_34 : decode prog_3_method_1_code 34 = .ok (.newarray .boolean, 2) := by decide +kernel
theorem d2_36 : decode prog_3_method_1_code 36 = .ok (.putfield 24, 3) := by decide +kernel
theorem d2_39 : decode prog_3_method_1_code 39 = .ok (.aload_n 0, 1) := by decide +kernel
theorem d2_40 : decode prog_3_method_1_code 40 = .ok (.bipush 8, 2) := by decide +kernel
theorem d2_42 : decode prog_3_method_1_code 42 = .ok (.newarray .int, 2) := by decide +kernel
theorem d2_44 : decode prog_3_method_1_code 44 = .ok (.putfield 28, 3) := by decide +kernel
theorem d2_47 : decode prog_3_method_1_code 47 = .ok (.aload_n 0, 1) := by decide +kernel
theorem d2_48 : decode prog_3_method_1_code 48 = .ok (.getfield 28, 3) := by decide +kernel
theorem d2_51 : decode prog_3_method_1_code 51 = .ok (.iconst (-1), 1) := by decide +kernel
theorem d2_52 : decode prog_3_method_1_code 52 = .ok (.invokestatic 31, 3) := by decide +kernel
theorem d2_55 : decode prog_3_method_1_code 55 = .ok (.aload_n 0, 1) := by decide +kernel
theorem d2_56 : decode prog_3_method_1_code 56 = .ok (.iload_n 1, 1) := by decide +kernel
theorem d2_57 : decode prog_3_method_1_code 57 = .ok (.iconst 1, 1) := by decide +kernel
theorem d2_58 : decode prog_3_method_1_code 58 = .ok (.if_icmp .ne 7, 3) := by decide +kernel
theorem d2_61 : decode prog_3_method_1_code 61 = .ok (.iconst 0, 1) := by decide +kernel
theorem d2_62 : decode prog_3_method_1_code 62 = .ok (.goto 4, 3) := by decide +kernel
theorem d2_65 : decode prog_3_method_1_code 65 = .ok (.iload_n 1, 1) := by decide +kernel
theorem d2_66 : decode prog_3_method_1_code 66 = .ok (.anewarray 37, 3) := by decide +kernel
theorem d2_69 : decode prog_3_method_1_code 69 = .ok (.putfield 39, 3) := by decide +kernel
theorem d2_72 : decode prog_3_method_1_code 72 = .ok (.return_, 1) := by decide +kernel
abbrev mn_2 : MethodName := ⟨"com/example/hornconv/hornconv/FactTable", "<init>", "(I)V"⟩
set_option maxRecDepth 65536 in
set_option maxHeartbeats 40000000 in
theorem rm_ctor (l : Launch) (Z : State) (a0 : Array Value) (hw : ∀ d ∈ tables_1, d.before a0 Z = true) (ws : List Jvm.Cond) (n0 : Nat) (h0 : Heap) (Z0 : Old Z n0 h0) (t : Addr) (n p : Nat) (hn : 1 ≤ n ∧ n ≤ 3) (c : Nat → Int32) (A_t : Ob Z h0 t "com/example/hornconv/hornconv/FactTable" fl_FactTable [.null, .null, (.int (0 : Int32)), .null, .null, .null, .null, (.int (0 : Int32)), (.int (0 : Int32)), (.int (0 : Int32))]) (ge_t : n0 ≤ t)  :
    Met l Z n0 mn_2 prog_3_method_1_code 2 none ws ({ frames := 1, cells := 6, slots := 28, locals := 15 } : Room) #[(.ref t), (.int (Int32.ofNat n))] h0 (fun u h => u = none ∧ TB Z h t t n p 0 c 0 false true ∧ Keep h0 h [t]) := by
  refine met_of Z0 (plainFor_of_name pn_com_example_hornconv_hornconv_FactTable) (Ls := #[.val (.ref t), .val (.int (Int32.ofNat n))]) (fun m => by first | (simp [entryFrame, mkF, argsToLocals, Value.category]; done) | rfl) ?_
  intro K ok
  have Kp : Keep h0 h0 [t] := Keep.refl _ _
  have lt_t := A_t.lt
  show W K l _ n0 _ h0 0 0 0 #[.val (.ref t), .val (.int (Int32.ofNat n))] []
  refine w_aloadN ok d2_0 rfl rfl ?_
  refine w_initO ok d2_1 (hw _ (List.mem_of_getElem? (i := 12) rfl)) (hw _ (List.mem_of_getElem? (i := 13) rfl)) (hw _ (List.mem_of_getElem? (i := 14) rfl)) rfl (by decide) (Nat.le_of_ble_eq_true rfl) ?_
  show W K l _ n0 _ h0 0 0 4 #[.val (.ref t), .val (.int (Int32.ofNat n))] []
  refine w_aloadN ok d2_4 rfl rfl ?_
  refine w_iconst ok d2_5 (v := (1 : Int32)) rfl ?_
  refine w_newarray ok d2_6 (hw _ (List.mem_of_getElem? (i := 1) rfl)) (by decide) (cap := 1) (by decide) (by decide) (by decide) (by decide) (fun h2 b1 ea_b1 ge_b1 E_b1 A_b1 => ?_)
  have sz_b1 : h0.size ≤ b1 := Nat.le_trans Kp.1 (Nat.le_of_eq ea_b1.symm)
  have ne_t_b1 : t ≠ b1 := fun q => Nat.lt_irrefl _ (Nat.lt_of_lt_of_eq A_t.lt (ea_b1.symm.trans q.symm))
  replace Kp := Kp.ext E_b1
  replace A_t := A_t.ext E_b1
  replace A_b1 : PA .int Z h2 b1 [(.int (0 : Int32))] := A_b1
  refine w_putfield ok (host := "") (f := ("com/example/hornconv/hornconv/FactTable", "unary", "[I", (.array .int))) 0 d2_8 (Or.inl (hw _ (List.mem_of_getElem? (i := 15) rfl))) Via.refl A_t (la_FactTable hw) rfl rfl (Or.inr ⟨(hw _ (List.mem_of_getElem? (i := 16) rfl)), rfl, rfl⟩) (hw _ (List.mem_of_getElem? (i := 7) rfl)) rfl rfl ge_t (fun h3 W_h3 A1_h3 => ?_)
  replace Kp := Kp.wr W_h3 (Or.inl (by simp))
  replace A_b1 := A_b1.other W_h3 (Ne.symm ne_t_b1)
  replace A_t : Ob Z h3 t "com/example/hornconv/hornconv/FactTable" fl_FactTable [(.ref b1), .null, (.int (0 : Int32)), .null, .null, .null, .null, (.int (0 : Int32)), (.int (0 : Int32)), (.int (0 : Int32))] := A1_h3
  refine w_aloadN ok d2_11 rfl rfl ?_
  refine w_iconst ok d2_12 (v := (0 : Int32)) rfl ?_
  refine w_newarray ok d2_13 (hw _ (List.mem_of_getElem? (i := 17) rfl)) (by decide) (cap := 0) (by decide) (by decide) (by decide) (by decide) (fun h5 b4 ea_b4 ge_b4 E_b4 A_b4 => ?_)
  have sz_b4 : h0.size ≤ b4 := Nat.le_trans Kp.1 (Nat.le_of_eq ea_b4.symm)
  have ne_t_b4 : t ≠ b4 := fun q => Nat.lt_irrefl _ (Nat.lt_of_lt_of_eq A_t.lt (ea_b4.symm.trans q.symm))
  have ne_b1_b4 : b1 ≠ b4 := fun q => Nat.lt_irrefl _ (Nat.lt_of_lt_of_eq A_b1.lt (ea_b4.symm.trans q.symm))
  replace Kp := Kp.ext E_b4
  replace A_t := A_t.ext E_b4
  replace A_b1 := A_b1.ext E_b4
  replace A_b4 : PA .long Z h5 b4 [] := A_b4
  refine w_putfield ok (host := "") (f := ("com/example/hornconv/hornconv/FactTable", "members", "[J", (.array .long))) 1 d2_15 (Or.inl (hw _ (List.mem_of_getElem? (i := 18) rfl))) Via.refl A_t (la_FactTable hw) rfl rfl (Or.inl (hw _ (List.mem_of_getElem? (i := 19) rfl))) (hw _ (List.mem_of_getElem? (i := 7) rfl)) rfl rfl ge_t (fun h6 W_h6 A1_h6 => ?_)
  replace Kp := Kp.wr W_h6 (Or.inl (by simp))
  replace A_b1 := A_b1.other W_h6 (Ne.symm ne_t_b1)
  replace A_b4 := A_b4.other W_h6 (Ne.symm ne_t_b4)
  replace A_t : Ob Z h6 t "com/example/hornconv/hornconv/FactTable" fl_FactTable [(.ref b1), (.ref b4), (.int (0 : Int32)), .null, .null, .null, .null, (.int (0 : Int32)), (.int (0 : Int32)), (.int (0 : Int32))] := A1_h6
  refine w_aloadN ok d2_18 rfl rfl ?_
  refine w_iloadN ok d2_19 rfl ?_
  refine w_putfield ok (host := "") (f := ("com/example/hornconv/hornconv/FactTable", "arity", "I", .int)) 2 d2_20 (Or.inl (hw _ (List.mem_of_getElem? (i := 20) rfl))) Via.refl A_t (la_FactTable hw) rfl rfl (Or.inr ⟨(hw _ (List.mem_of_getElem? (i := 21) rfl)), rfl, rfl⟩) (hw _ (List.mem_of_getElem? (i := 7) rfl)) rfl rfl ge_t (fun h7 W_h7 A1_h7 => ?_)
  replace Kp := Kp.wr W_h7 (Or.inl (by simp))
  replace A_b1 := A_b1.other W_h7 (Ne.symm ne_t_b1)
  replace A_b4 := A_b4.other W_h7 (Ne.symm ne_t_b4)
  replace A_t : Ob Z h7 t "com/example/hornconv/hornconv/FactTable" fl_FactTable [(.ref b1), (.ref b4), (.int (Int32.ofNat n)), .null, .null, .null, .null, (.int (0 : Int32)), (.int (0 : Int32)), (.int (0 : Int32))] := A1_h7
  refine w_aloadN ok d2_23 rfl rfl ?_
  refine w_iconst ok d2_24 (v := (4 : Int32)) rfl ?_
  refine w_iloadN ok d2_25 rfl ?_
  refine w_imul ok d2_26 ?_
  refine w_newarray ok d2_27 (hw _ (List.mem_of_getElem? (i := 1) rfl)) (by rw [own_m4]; exact own_ix0 (by omega)) (cap := 12) (by rw [own_m4, own_ix (by omega)]; omega) (by decide) (by decide) (by decide) (fun h9 b8 ea_b8 ge_b8 E_b8 A_b8 => ?_)
  have sz_b8 : h0.size ≤ b8 := Nat.le_trans Kp.1 (Nat.le_of_eq ea_b8.symm)
  have ne_t_b8 : t ≠ b8 := fun q => Nat.lt_irrefl _ (Nat.lt_of_lt_of_eq A_t.lt (ea_b8.symm.trans q.symm))
  have ne_b1_b8 : b1 ≠ b8 := fun q => Nat.lt_irrefl _ (Nat.lt_of_lt_of_eq A_b1.lt (ea_b8.symm.trans q.symm))
  have ne_b4_b8 : b4 ≠ b8 := fun q => Nat.lt_irrefl _ (Nat.lt_of_lt_of_eq A_b4.lt (ea_b8.symm.trans q.symm))
  replace Kp := Kp.ext E_b8
  replace A_t := A_t.ext E_b8
  replace A_b1 := A_b1.ext E_b8
  replace A_b4 := A_b4.ext E_b8
  replace A_b8 : PA .int Z h9 b8 (List.replicate ((4 : Int32) * (Int32.ofNat n)).toNatClampNeg (.int (0 : Int32))) := A_b8
  show W K l _ n0 _ h9 3 13 29 #[.val (.ref t), .val (.int (Int32.ofNat n))] [(.ref b8), (.ref t)]
  rw [own_m4, own_ix (j := 4 * n) (by omega), sv_rep] at A_b8
  refine w_putfield ok (host := "") (f := ("com/example/hornconv/hornconv/FactTable", "arguments", "[I", (.array .int))) 3 d2_29 (Or.inl (hw _ (List.mem_of_getElem? (i := 22) rfl))) Via.refl A_t (la_FactTable hw) rfl rfl (Or.inl (hw _ (List.mem_of_getElem? (i := 23) rfl))) (hw _ (List.mem_of_getElem? (i := 7) rfl)) rfl rfl ge_t (fun h10 W_h10 A1_h10 => ?_)
  replace Kp := Kp.wr W_h10 (Or.inl (by simp))
  replace A_b1 := A_b1.other W_h10 (Ne.symm ne_t_b1)
  replace A_b4 := A_b4.other W_h10 (Ne.symm ne_t_b4)
  replace A_b8 := A_b8.other W_h10 (Ne.symm ne_t_b8)
  replace A_t : Ob Z h10 t "com/example/hornconv/hornconv/FactTable" fl_FactTable [(.ref b1), (.ref b4), (.int (Int32.ofNat n)), (.ref b8), .null, .null, .null, (.int (0 : Int32)), (.int (0 : Int32)), (.int (0 : Int32))] := A1_h10
  refine w_aloadN ok d2_32 rfl rfl ?_
  refine w_iconst ok d2_33 (v := (4 : Int32)) rfl ?_
  refine w_newarray ok d2_34 (hw _ (List.mem_of_getElem? (i := 24) rfl)) (by decide) (cap := 4) (by decide) (by decide) (by decide) (by decide) (fun h12 b11 ea_b11 ge_b11 E_b11 A_b11 => ?_)
  have sz_b11 : h0.size ≤ b11 := Nat.le_trans Kp.1 (Nat.le_of_eq ea_b11.symm)
  have ne_t_b11 : t ≠ b11 := fun q => Nat.lt_irrefl _ (Nat.lt_of_lt_of_eq A_t.lt (ea_b11.symm.trans q.symm))
  have ne_b1_b11 : b1 ≠ b11 := fun q => Nat.lt_irrefl _ (Nat.lt_of_lt_of_eq A_b1.lt (ea_b11.symm.trans q.symm))
  have ne_b4_b11 : b4 ≠ b11 := fun q => Nat.lt_irrefl _ (Nat.lt_of_lt_of_eq A_b4.lt (ea_b11.symm.trans q.symm))
  have ne_b8_b11 : b8 ≠ b11 := fun q => Nat.lt_irrefl _ (Nat.lt_of_lt_of_eq A_b8.lt (ea_b11.symm.trans q.symm))
  replace Kp := Kp.ext E_b11
  replace A_t := A_t.ext E_b11
  replace A_b1 := A_b1.ext E_b11
  replace A_b4 := A_b4.ext E_b11
  replace A_b8 := A_b8.ext E_b11
  replace A_b11 : PA .boolean Z h12 b11 [(.int (0 : Int32)), (.int (0 : Int32)), (.int (0 : Int32)), (.int (0 : Int32))] := A_b11
  refine w_putfield ok (host := "") (f := ("com/example/hornconv/hornconv/FactTable", "dead", "[Z", (.array .boolean))) 4 d2_36 (Or.inl (hw _ (List.mem_of_getElem? (i := 25) rfl))) Via.refl A_t (la_FactTable hw) rfl rfl (Or.inl (hw _ (List.mem_of_getElem? (i := 26) rfl))) (hw _ (List.mem_of_getElem? (i := 7) rfl)) rfl rfl ge_t (fun h13 W_h13 A1_h13 => ?_)
  replace Kp := Kp.wr W_h13 (Or.inl (by simp))
  replace A_b1 := A_b1.other W_h13 (Ne.symm ne_t_b1)
  replace A_b4 := A_b4.other W_h13 (Ne.symm ne_t_b4)
  replace A_b8 := A_b8.other W_h13 (Ne.symm ne_t_b8)
  replace A_b11 := A_b11.other W_h13 (Ne.symm ne_t_b11)
  replace A_t : Ob Z h13 t "com/example/hornconv/hornconv/FactTable" fl_FactTable [(.ref b1), (.ref b4), (.int (Int32.ofNat n)), (.ref b8), (.ref b11), .null, .null, (.int (0 : Int32)), (.int (0 : Int32)), (.int (0 : Int32))] := A1_h13
  refine w_aloadN ok d2_39 rfl rfl ?_
  refine w_bipush ok d2_40 (v := (8 : Int32)) rfl ?_
  refine w_newarray ok d2_42 (hw _ (List.mem_of_getElem? (i := 1) rfl)) (by decide) (cap := 8) (by decide) (by decide) (by decide) (by decide) (fun h15 b14 ea_b14 ge_b14 E_b14 A_b14 => ?_)
  have sz_b14 : h0.size ≤ b14 := Nat.le_trans Kp.1 (Nat.le_of_eq ea_b14.symm)
  have ne_t_b14 : t ≠ b14 := fun q => Nat.lt_irrefl _ (Nat.lt_of_lt_of_eq A_t.lt (ea_b14.symm.trans q.symm))
  have ne_b1_b14 : b1 ≠ b14 := fun q => Nat.lt_irrefl _ (Nat.lt_of_lt_of_eq A_b1.lt (ea_b14.symm.trans q.symm))
  have ne_b4_b14 : b4 ≠ b14 := fun q => Nat.lt_irrefl _ (Nat.lt_of_lt_of_eq A_b4.lt (ea_b14.symm.trans q.symm))
  have ne_b8_b14 : b8 ≠ b14 := fun q => Nat.lt_irrefl _ (Nat.lt_of_lt_of_eq A_b8.lt (ea_b14.symm.trans q.symm))
  have ne_b11_b14 : b11 ≠ b14 := fun q => Nat.lt_irrefl _ (Nat.lt_of_lt_of_eq A_b11.lt (ea_b14.symm.trans q.symm))
  replace Kp := Kp.ext E_b14
  replace A_t := A_t.ext E_b14
  replace A_b1 := A_b1.ext E_b14
  replace A_b4 := A_b4.ext E_b14
  replace A_b8 := A_b8.ext E_b14
  replace A_b11 := A_b11.ext E_b14
  replace A_b14 : PA .int Z h15 b14 [(.int (0 : Int32)), (.int (0 : Int32)), (.int (0 : Int32)), (.int (0 : Int32)), (.int (0 : Int32)), (.int (0 : Int32)), (.int (0 : Int32)), (.int (0 : Int32))] := A_b14
  refine w_putfield ok (host := "") (f := ("com/example/hornconv/hornconv/FactTable", "slots", "[I", (.array .int))) 5 d2_44 (Or.inl (hw _ (List.mem_of_getElem? (i := 27) rfl))) Via.refl A_t (la_FactTable hw) rfl rfl (Or.inl (hw _ (List.mem_of_getElem? (i := 28) rfl))) (hw _ (List.mem_of_getElem? (i := 7) rfl)) rfl rfl ge_t (fun h16 W_h16 A1_h16 => ?_)
  replace Kp := Kp.wr W_h16 (Or.inl (by simp))
  replace A_b1 := A_b1.other W_h16 (Ne.symm ne_t_b1)
  replace A_b4 := A_b4.other W_h16 (Ne.symm ne_t_b4)
  replace A_b8 := A_b8.other W_h16 (Ne.symm ne_t_b8)
  replace A_b11 := A_b11.other W_h16 (Ne.symm ne_t_b11)
  replace A_b14 := A_b14.other W_h16 (Ne.symm ne_t_b14)
  replace A_t : Ob Z h16 t "com/example/hornconv/hornconv/FactTable" fl_FactTable [(.ref b1), (.ref b4), (.int (Int32.ofNat n)), (.ref b8), (.ref b11), (.ref b14), .null, (.int (0 : Int32)), (.int (0 : Int32)), (.int (0 : Int32))] := A1_h16
  refine w_aloadN ok d2_47 rfl rfl ?_
  refine w_getfield ok (v := (.ref b14)) (host := "") (f := ("com/example/hornconv/hornconv/FactTable", "slots", "[I", (.array .int))) 5 d2_48 (Or.inl (hw _ (List.mem_of_getElem? (i := 27) rfl))) Via.refl A_t rfl rfl ?_
  refine w_iconst ok d2_51 (v := (-1 : Int32)) rfl ?_
  refine w_callS ok (y := mn_4) (argsL := [(.ref b14), (.int (-1 : Int32))]) (rest := []) d2_52 (hw _ (List.mem_of_getElem? (i := 29) rfl)) (hw _ (List.mem_of_getElem? (i := 30) rfl)) (hw _ (List.mem_of_getElem? (i := 31) rfl)) (hw _ (List.mem_of_getElem? (i := 32) rfl)) (by decide) pd_285bII29V rfl rfl (by decide) (Nat.le_of_ble_eq_true rfl) (by decide) (by decide) (fun z0 => rm_fill l Z a0 hw [] n0 h16 z0 b14 (-1) 8 (fun _ => (0 : Int32)) (by omega) A_b14 ge_b14) (fun v17 h18 qv17 => ?_)
  obtain ⟨rfl, K1, A1⟩ := qv17
  replace Kp := Kp.trans K1 (allS (Or.inr sz_b14) all0)
  replace A_t := A_t.keep K1 (ninS ne_t_b14 nin0)
  replace A_b1 := A_b1.keep K1 (ninS ne_b1_b14 nin0)
  replace A_b4 := A_b4.keep K1 (ninS ne_b4_b14 nin0)
  replace A_b8 := A_b8.keep K1 (ninS ne_b8_b14 nin0)
  replace A_b11 := A_b11.keep K1 (ninS ne_b11_b14 nin0)
  replace A_b14 := A1
  show W K l _ n0 _ h18 5 25 55 #[.val (.ref t), .val (.int (Int32.ofNat n))] []
  refine w_aloadN ok d2_55 rfl rfl ?_
  refine w_iloadN ok d2_56 rfl ?_
  refine w_iconst ok d2_57 (v := (1 : Int32)) rfl ?_
  refine w_icmp_ne ok d2_58 (pc' := 65) (by decide) (fun hc20 => ?_) (fun hc20 => ?_)
  · skip
    refine w_iloadN ok d2_65 rfl ?_
    refine w_anewarray ok d2_66 (hw _ (List.mem_of_getElem? (i := 33) rfl)) (hw _ (List.mem_of_getElem? (i := 34) rfl)) (own_ix0 (by omega)) (cap := 3) (by rw [own_ix (by omega)]; omega) (by decide) (by decide) (by decide) (fun h22 b21 ea_b21 ge_b21 E_b21 A_b21 O_b21 => ?_)
    have sz_b21 : h0.size ≤ b21 := Nat.le_trans Kp.1 (Nat.le_of_eq ea_b21.symm)
    have ne_t_b21 : t ≠ b21 := fun q => Nat.lt_irrefl _ (Nat.lt_of_lt_of_eq A_t.lt (ea_b21.symm.trans q.symm))
    have ne_b1_b21 : b1 ≠ b21 := fun q => Nat.lt_irrefl _ (Nat.lt_of_lt_of_eq A_b1.lt (ea_b21.symm.trans q.symm))
    have ne_b4_b21 : b4 ≠ b21 := fun q => Nat.lt_irrefl _ (Nat.lt_of_lt_of_eq A_b4.lt (ea_b21.symm.trans q.symm))
    have ne_b8_b21 : b8 ≠ b21 := fun q => Nat.lt_irrefl _ (Nat.lt_of_lt_of_eq A_b8.lt (ea_b21.symm.trans q.symm))
    have ne_b11_b21 : b11 ≠ b21 := fun q => Nat.lt_irrefl _ (Nat.lt_of_lt_of_eq A_b11.lt (ea_b21.symm.trans q.symm))
    have ne_b14_b21 : b14 ≠ b21 := fun q => Nat.lt_irrefl _ (Nat.lt_of_lt_of_eq A_b14.lt (ea_b21.symm.trans q.symm))
    replace Kp := Kp.ext E_b21
    replace A_t := A_t.ext E_b21
    replace A_b1 := A_b1.ext E_b21
    replace A_b4 := A_b4.ext E_b21
    replace A_b8 := A_b8.ext E_b21
    replace A_b11 := A_b11.ext E_b21
    replace A_b14 := A_b14.ext E_b21
    replace A_b21 : PA (.object "com/example/hornconv/hornconv/FactTable$PositionIndex") Z h22 b21 (List.replicate (Int32.ofNat n).toNatClampNeg Value.null) := A_b21
    show W K l _ n0 _ h22 6 28 69 #[.val (.ref t), .val (.int (Int32.ofNat n))] [(.ref b21), (.ref t)]
    have P_b21 : PP Z h22 b21 (pm n) p .null := ⟨by have e := A_b21; rw [own_ix (j := n) (by omega), pv_rep n p] at e; rw [pm_ge (own_g2 hn hc20)]; exact e, O_b21⟩
    refine w_putfield ok (host := "") (f := ("com/example/hornconv/hornconv/FactTable", "positions", "[Lcom/example/hornconv/hornconv/FactTable$PositionIndex;", (.array (.object "com/example/hornconv/hornconv/FactTable$PositionIndex")))) 6 d2_69 (Or.inl (hw _ (List.mem_of_getElem? (i := 35) rfl))) Via.refl A_t (la_FactTable hw) rfl rfl (Or.inr ⟨(hw _ (List.mem_of_getElem? (i := 36) rfl)), rfl, rfl⟩) (hw _ (List.mem_of_getElem? (i := 7) rfl)) rfl rfl ge_t (fun h23 W_h23 A1_h23 => ?_)
    replace Kp := Kp.wr W_h23 (Or.inl (by simp))
    replace A_b1 := A_b1.other W_h23 (Ne.symm ne_t_b1)
    replace A_b4 := A_b4.other W_h23 (Ne.symm ne_t_b4)
    replace A_b8 := A_b8.other W_h23 (Ne.symm ne_t_b8)
    replace A_b11 := A_b11.other W_h23 (Ne.symm ne_t_b11)
    replace A_b14 := A_b14.other W_h23 (Ne.symm ne_t_b14)
    replace P_b21 := P_b21.other W_h23 (Ne.symm ne_t_b21)
    replace A_t : Ob Z h23 t "com/example/hornconv/hornconv/FactTable" fl_FactTable [(.ref b1), (.ref b4), (.int (Int32.ofNat n)), (.ref b8), (.ref b11), (.ref b14), (.ref b21), (.int (0 : Int32)), (.int (0 : Int32)), (.int (0 : Int32))] := A1_h23
    refine w_ret ok d2_72 (by decide) (by decide) ?_
    exact ⟨rfl, ⟨b1, b4, b8, b11, b14, b21, .null, [], fun _ => 0, fun _ => -1, fun _ => 0, fun _ => 0, 0, 0, fun _ => 0, A_t, A_b1, A_b4, A_b8, A_b11, A_b14, P_b21, Or.inl ⟨rfl, rfl, rfl⟩, ⟨ne_t_b1, ne_t_b4, ne_t_b8, ne_t_b11, ne_t_b14, ne_t_b21, ne_b1_b4, ne_b1_b8, ne_b1_b11, ne_b1_b14, ne_b1_b21, ne_b4_b8, ne_b4_b11, ne_b4_b14, ne_b4_b21, ne_b8_b11, ne_b8_b14, ne_b8_b21, ne_b11_b14, ne_b11_b21, ne_b14_b21⟩, ⟨nin0, nin0, nin0, nin0, nin0, nin0, nin0⟩, ⟨(Nat.le_refl _), (Nat.le_trans (Nat.le_of_lt lt_t) sz_b1), (Nat.le_trans (Nat.le_of_lt lt_t) sz_b4), (Nat.le_trans (Nat.le_of_lt lt_t) sz_b8), (Nat.le_trans (Nat.le_of_lt lt_t) sz_b11), (Nat.le_trans (Nat.le_of_lt lt_t) sz_b14), (Nat.le_trans (Nat.le_of_lt lt_t) sz_b21)⟩, all0, ⟨fun _ i hi => absurd hi (Nat.not_lt_zero _), fun _ i hi => absurd hi (Nat.not_lt_zero _)⟩, Nat.zero_le _, fun _ => ⟨rfl, rfl, rfl, IR.zero 8⟩⟩, Kp⟩
  · skip
    refine w_iconst ok d2_61 (v := (0 : Int32)) rfl ?_
    refine w_goto ok d2_62 (pc' := 66) (by decide) ?_
    refine w_anewarray ok d2_66 (hw _ (List.mem_of_getElem? (i := 33) rfl)) (hw _ (List.mem_of_getElem? (i := 34) rfl)) (by decide) (cap := 0) (by decide) (by decide) (by decide) (by decide) (fun h25 b24 ea_b24 ge_b24 E_b24 A_b24 O_b24 => ?_)
    have sz_b24 : h0.size ≤ b24 := Nat.le_trans Kp.1 (Nat.le_of_eq ea_b24.symm)
    have ne_t_b24 : t ≠ b24 := fun q => Nat.lt_irrefl _ (Nat.lt_of_lt_of_eq A_t.lt (ea_b24.symm.trans q.symm))
    have ne_b1_b24 : b1 ≠ b24 := fun q => Nat.lt_irrefl _ (Nat.lt_of_lt_of_eq A_b1.lt (ea_b24.symm.trans q.symm))
    have ne_b4_b24 : b4 ≠ b24 := fun q => Nat.lt_irrefl _ (Nat.lt_of_lt_of_eq A_b4.lt (ea_b24.symm.trans q.symm))
    have ne_b8_b24 : b8 ≠ b24 := fun q => Nat.lt_irrefl _ (Nat.lt_of_lt_of_eq A_b8.lt (ea_b24.symm.trans q.symm))
    have ne_b11_b24 : b11 ≠ b24 := fun q => Nat.lt_irrefl _ (Nat.lt_of_lt_of_eq A_b11.lt (ea_b24.symm.trans q.symm))
    have ne_b14_b24 : b14 ≠ b24 := fun q => Nat.lt_irrefl _ (Nat.lt_of_lt_of_eq A_b14.lt (ea_b24.symm.trans q.symm))
    replace Kp := Kp.ext E_b24
    replace A_t := A_t.ext E_b24
    replace A_b1 := A_b1.ext E_b24
    replace A_b4 := A_b4.ext E_b24
    replace A_b8 := A_b8.ext E_b24
    replace A_b11 := A_b11.ext E_b24
    replace A_b14 := A_b14.ext E_b24
    replace A_b24 : PA (.object "com/example/hornconv/hornconv/FactTable$PositionIndex") Z h25 b24 [] := A_b24
    show W K l _ n0 _ h25 6 25 69 #[.val (.ref t), .val (.int (Int32.ofNat n))] [(.ref b24), (.ref t)]
    have P_b24 : PP Z h25 b24 (pm n) p .null := ⟨by rw [own_e1 hn.2 hc20]; exact A_b24, O_b24⟩
    refine w_putfield ok (host := "") (f := ("com/example/hornconv/hornconv/FactTable", "positions", "[Lcom/example/hornconv/hornconv/FactTable$PositionIndex;", (.array (.object "com/example/hornconv/hornconv/FactTable$PositionIndex")))) 6 d2_69 (Or.inl (hw _ (List.mem_of_getElem? (i := 35) rfl))) Via.refl A_t (la_FactTable hw) rfl rfl (Or.inr ⟨(hw _ (List.mem_of_getElem? (i := 36) rfl)), rfl, rfl⟩) (hw _ (List.mem_of_getElem? (i := 7) rfl)) rfl rfl ge_t (fun h26 W_h26 A1_h26 => ?_)
    replace Kp := Kp.wr W_h26 (Or.inl (by simp))
    replace A_b1 := A_b1.other W_h26 (Ne.symm ne_t_b1)
    replace A_b4 := A_b4.other W_h26 (Ne.symm ne_t_b4)
    replace A_b8 := A_b8.other W_h26 (Ne.symm ne_t_b8)
    replace A_b11 := A_b11.other W_h26 (Ne.symm ne_t_b11)
    replace A_b14 := A_b14.other W_h26 (Ne.symm ne_t_b14)
    replace P_b24 := P_b24.other W_h26 (Ne.symm ne_t_b24)
    replace A_t : Ob Z h26 t "com/example/hornconv/hornconv/FactTable" fl_FactTable [(.ref b1), (.ref b4), (.int (Int32.ofNat n)), (.ref b8), (.ref b11), (.ref b14), (.ref b24), (.int (0 : Int32)), (.int (0 : Int32)), (.int (0 : Int32))] := A1_h26
    refine w_ret ok d2_72 (by decide) (by decide) ?_
    exact ⟨rfl, ⟨b1, b4, b8, b11, b14, b24, .null, [], fun _ => 0, fun _ => -1, fun _ => 0, fun _ => 0, 0, 0, fun _ => 0, A_t, A_b1, A_b4, A_b8, A_b11, A_b14, P_b24, Or.inl ⟨rfl, rfl, rfl⟩, ⟨ne_t_b1, ne_t_b4, ne_t_b8, ne_t_b11, ne_t_b14, ne_t_b24, ne_b1_b4, ne_b1_b8, ne_b1_b11, ne_b1_b14, ne_b1_b24, ne_b4_b8, ne_b4_b11, ne_b4_b14, ne_b4_b24, ne_b8_b11, ne_b8_b14, ne_b8_b24, ne_b11_b14, ne_b11_b24, ne_b14_b24⟩, ⟨nin0, nin0, nin0, nin0, nin0, nin0, nin0⟩, ⟨(Nat.le_refl _), (Nat.le_trans (Nat.le_of_lt lt_t) sz_b1), (Nat.le_trans (Nat.le_of_lt lt_t) sz_b4), (Nat.le_trans (Nat.le_of_lt lt_t) sz_b8), (Nat.le_trans (Nat.le_of_lt lt_t) sz_b11), (Nat.le_trans (Nat.le_of_lt lt_t) sz_b14), (Nat.le_trans (Nat.le_of_lt lt_t) sz_b24)⟩, all0, ⟨fun _ i hi => absurd hi (Nat.not_lt_zero _), fun _ i hi => absurd hi (Nat.not_lt_zero _)⟩, Nat.zero_le _, fun _ => ⟨rfl, rfl, rfl, IR.zero 8⟩⟩, Kp⟩
theorem d14_0 : decode prog_3_method_12_code 0 = .ok (.aload_n 0, 1) := by decide +kernel
theorem d14_1 : decode prog_3_method_12_code 1 = .ok (.getfield 39, 3) := by decide +kernel
theorem d14_4 : decode prog_3_method_12_code 4 = .ok (.iload_n 1, 1) := by decide +kernel
theorem d14_5 : decode prog_3_method_12_code 5 = .ok (.aaload, 1) := by decide +kernel
theorem d14_6 : decode prog_3_method_12_code 6 = .ok (.ifnonnull 64, 3) := by decide +kernel
theorem d14_9 : decode prog_3_method_12_code 9 = .ok (.new 37, 3) := by decide +kernel
theorem d14_12 : decode prog_3_method_12_code 12 = .ok (.dup, 1) := by decide +kernel
theorem d14_13 : decode prog_3_method_12_code 13 = .ok (.invokespecial 112, 3) := by decide +kernel
theorem d14_16 : decode prog_3_method_12_code 16 = .ok (.astore_n 2, 1) := by decide +kernel
theorem d14_17 : decode prog_3_method_12_code 17 = .ok (.iconst 0, 1) := by decide +kernel
theorem d14_18 : decode prog_3_method_12_code 18 = .ok (.istore_n 3, 1) := by decide +kernel
theorem d14_19 : decode prog_3_method_12_code 19 = .ok (.iload_n 3, 1) := by decide +kernel
theorem d14_20 : decode prog_3_method_12_code 20 = .ok (.aload_n 0, 1) := by decide +kernel
theorem d14_21 : decode prog_3_method_12_code 21 = .ok (.getfield 43, 3) := by decide +kernel
theorem d14_24 : decode prog_3_method_12_code 24 = .ok (.if_icmp .ge 39, 3) := by decide +kernel
theorem d14_27 : decode prog_3_method_12_code 27 = .ok (.aload_n 2, 1) := by decide +kernel
theorem d14_28 : decode prog_3_method_12_code 28 = .ok (.aload_n 0, 1) := by decide +kernel
theorem d14_29 : decode prog_3_method_12_code 29 = .ok (.iload_n 3, 1) := by decide +kernel
theorem d14_30 : decode prog_3_method_12_code 30 = .ok (.iload_n 1, 1) := by decide +kernel
theorem d14_31 : decode prog_3_method_12_code 31 = .ok (.invokevirtual 87, 3) := by decide +kernel
theorem d14_34 : decode prog_3_method_12_code 34 = .ok (.iload_n 3, 1) := by decide +kernel
theorem d14_35 : decode prog_3_method_12_code 35 = .ok (.invokevirtual 77, 3) := by decide +kernel
theorem d14_38 : decode prog_3_method_12_code 38 = .ok (.aload_n 0, 1) := by decide +kernel
theorem d14_39 : decode prog_3_method_12_code 39 = .ok (.getfield 24, 3) := by decide +kernel
theorem d14_42 : decode prog_3_method_12_code 42 = .ok (.iload_n 3, 1) := by decide +kernel
theorem d14_43 : decode prog_3_method_12_code 43 = .ok (.baload, 1) := by decide +kernel
theorem d14_44 : decode prog_3_method_12_code 44 = .ok (.ifCond .eq 13, 3) := by decide +kernel
theorem d14_47 : decode prog_3_method_12_code 47 = .ok (.aload_n 2, 1) := by decide +kernel
theorem d14_48 : decode prog_3_method_12_code 48 = .ok (.aload_n 0, 1) := by decide +kernel
theorem d14_49 : decode prog_3_method_12_code 49 = .ok (.iload_n 3, 1) := by decide +kernel
theorem d14_50 : decode prog_3_method_12_code 50 = .ok (.iload_n 1, 1) := by decide +kernel
theorem d14_51 : decode prog_3_method_12_code 51 = .ok (.invokevirtual 87, 3) := by decide +kernel
theorem d14_54 : decode prog_3_method_12_code 54 = .ok (.invokevirtual 91, 3) := by decide +kernel
theorem d14_57 : decode prog_3_method_12_code 57 = .ok (.iinc 3 1, 3) := by decide +kernel
theorem d14_60 : decode prog_3_method_12_code 60 = .ok (.goto (-41), 3) := by decide +kernel
theorem d14_63 : decode prog_3_method_12_code 63 = .ok (.aload_n 0, 1) := by decide +kernel
theorem d14_64 : decode prog_3_method_12_code 64 = .ok (.getfield 39, 3) := by decide +kernel
theorem d14_67 : decode prog_3_method_12_code 67 = .ok (.iload_n 1, 1) := by decide +kernel
theorem d14_68 : decode prog_3_method_12_code 68 = .ok (.aload_n 2, 1) := by decide +kernel
theorem d14_69 : decode prog_3_method_12_code 69 = .ok (.aastore, 1) := by decide +kernel
theorem d14_70 : decode prog_3_method_12_code 70 = .ok (.aload_n 0, 1) := by decide +kernel
theorem d14_71 : decode prog_3_method_12_code 71 = .ok (.getfield 39, 3) := by decide +kernel
theorem d14_74 : decode prog_3_method_12_code 74 = .ok (.iload_n 1, 1) := by decide +kernel
theorem d14_75 : decode prog_3_method_12_code 75 = .ok (.aaload, 1) := by decide +kernel
theorem d14_76 : decode prog_3_method_12_code 76 = .ok (.areturn, 1) := by decide +kernel
theorem pd_28II29V : parseMethodDescriptor "(II)V" = some ⟨[.int, .int], none⟩ := by decide +kernel
theorem pd_28I29V : parseMethodDescriptor "(I)V" = some ⟨[.int], none⟩ := by decide +kernel
set_option maxRecDepth 65536 in
set_option maxHeartbeats 40000000 in
theorem lp_index (l : Launch) (Z : State) (a0 : Array Value) (hw : ∀ d ∈ tables_1, d.before a0 Z = true) (n0 : Nat) (h0 : Heap) (K : Cx) (ok : Ok K Z n0 "com/example/hornconv/hornconv/FactTable" prog_3_method_12_code 4 (some (.object "com/example/hornconv/hornconv/FactTable$PositionIndex")) "index") (t un me ag de sl po q : Addr) (n p r La Ld : Nat) (lw us : Int32) (A dd c : Nat → Int32) (hn : 2 ≤ n ∧ n ≤ 3) (hp : p < n) (hr : r ≤ 5) (hLa : r * n ≤ La ∧ La < 1000) (hLd : r ≤ Ld ∧ Ld < 1000) (hA : ∀ i, i < r → A (i * n + p) = c i) (hc : ∀ j, c j ≠ -1) (hnd : ∀ k, k ≤ 5 → ndc c k ≤ 2) (ge_po : n0 ≤ po) (ne_t_po : t ≠ po) (ne_ag_po : ag ≠ po) (ne_de_po : de ≠ po) (lt_t : t < h0.size) (lt_ag : ag < h0.size) (lt_de : de < h0.size) (lt_po : po < h0.size) :
    ∀ (cc i : Nat) (h1 : Heap) (D : List Addr), i + cc = r → Keep h0 h1 [po] → FO Z h1 t un me ag de sl po (Int32.ofNat n) (Int32.ofNat r) lw us → PA .int Z h1 ag (sv La A) → PA .boolean Z h1 de (sv Ld dd) → PP Z h1 po (pm n) p .null → IX Z h1 D q i c → (∀ a ∈ D, h0.size ≤ a ∧ n0 ≤ a) → W K l ({ frames := 3, cells := 10, slots := 73, locals := 48 } : Room) n0 (fun u h => ∃ q D, u = some (.ref q) ∧ Keep h0 h [po] ∧ PP Z h po (pm n) p (.ref q) ∧ IX Z h D q r c ∧ ∀ a ∈ D, h0.size ≤ a ∧ n0 ≤ a) h1 (i + 5) (8 * i + 33) 19 #[.val (.ref t), .val (.int (Int32.ofNat p)), .val (.ref q), .val (.int (Int32.ofNat i))] [] := by
  intro cc
  induction cc with
  | zero =>
    intro i h1 D hi Kp A_t A_ag A_de A_po A_q hDf
    obtain rfl : r = i := by omega
    have nD_t : t ∉ D := fun m => Nat.not_le.mpr lt_t (hDf _ m).1
    have nD_ag : ag ∉ D := fun m => Nat.not_le.mpr lt_ag (hDf _ m).1
    have nD_de : de ∉ D := fun m => Nat.not_le.mpr lt_de (hDf _ m).1
    have nD_po : po ∉ D := fun m => Nat.not_le.mpr lt_po (hDf _ m).1
    show W K l _ n0 _ h1 _ _ 19 #[.val (.ref t), .val (.int (Int32.ofNat p)), .val (.ref q), .val (.int (Int32.ofNat r))] []
    refine w_iloadN ok d14_19 rfl ?_
    refine w_aloadN ok d14_20 rfl rfl ?_
    refine w_getfield ok (v := (.int (Int32.ofNat r))) (host := "") (f := ("com/example/hornconv/hornconv/FactTable", "rows", "I", .int)) 7 d14_21 (Or.inl (hw _ (List.mem_of_getElem? (i := 51) rfl))) Via.refl A_t rfl rfl ?_
    refine w_icmp_ge ok d14_24 (pc' := 63) (by first | decide | omega | (dsimp only; omega)) (fun hc1 => ?_) (fun hc1 => False.elim (by rw [own_lt (by omega) (by omega)] at hc1; omega))
    refine w_aloadN ok d14_63 rfl rfl ?_
    refine w_getfield ok (v := (.ref po)) (host := "") (f := ("com/example/hornconv/hornconv/FactTable", "positions", "[Lcom/example/hornconv/hornconv/FactTable$PositionIndex;", (.array (.object "com/example/hornconv/hornconv/FactTable$PositionIndex")))) 6 d14_64 (Or.inl (hw _ (List.mem_of_getElem? (i := 35) rfl))) Via.refl A_t rfl rfl ?_
    refine w_iloadN ok d14_67 rfl ?_
    refine w_aloadN ok d14_68 rfl rfl ?_
    refine w_aastore ok d14_69 A_po.1 A_po.2 (Ins.self A_q.exa) rfl rfl ge_po (own_ix0 (by omega)) (pvl (by rw [pm_ge hn.1]; omega) (by rw [pm_ge hn.1]; omega)) (fun h2 W_h2 A1_h2 => ?_)
    replace Kp := Kp.wr W_h2 (Or.inl (by simp))
    replace A_t := A_t.other W_h2 ne_t_po
    replace A_ag := A_ag.other W_h2 ne_ag_po
    replace A_de := A_de.other W_h2 ne_de_po
    replace A_q := A_q.other W_h2 nD_po
    replace A_po := A_po.set (by rw [pm_ge hn.1]; omega) (by rw [pm_ge hn.1]; omega) W_h2 A1_h2
    refine w_aloadN ok d14_70 rfl rfl ?_
    refine w_getfield ok (v := (.ref po)) (host := "") (f := ("com/example/hornconv/hornconv/FactTable", "positions", "[Lcom/example/hornconv/hornconv/FactTable$PositionIndex;", (.array (.object "com/example/hornconv/hornconv/FactTable$PositionIndex")))) 6 d14_71 (Or.inl (hw _ (List.mem_of_getElem? (i := 35) rfl))) Via.refl A_t rfl rfl ?_
    refine w_iloadN ok d14_74 rfl ?_
    refine w_aaload ok (v := (.ref q)) d14_75 A_po.1 rfl (own_ix0 (by omega)) (pvp (by rw [pm_ge hn.1]; omega) (by rw [pm_ge hn.1]; omega)) ?_
    refine w_aret ok rfl rfl d14_76 (by first | decide | omega | (dsimp only; omega)) (by first | decide | omega | (dsimp only; omega)) ?_
    exact ⟨q, D, rfl, Kp, A_po, A_q, hDf⟩
  | succ cc ih =>
    intro i h1 D hi Kp A_t A_ag A_de A_po A_q hDf
    have nD_t : t ∉ D := fun m => Nat.not_le.mpr lt_t (hDf _ m).1
    have nD_ag : ag ∉ D := fun m => Nat.not_le.mpr lt_ag (hDf _ m).1
    have nD_de : de ∉ D := fun m => Nat.not_le.mpr lt_de (hDf _ m).1
    have nD_po : po ∉ D := fun m => Nat.not_le.mpr lt_po (hDf _ m).1
    have Kb := Kp
    show W K l _ n0 _ h1 _ _ 19 #[.val (.ref t), .val (.int (Int32.ofNat p)), .val (.ref q), .val (.int (Int32.ofNat i))] []
    refine w_iloadN ok d14_19 rfl ?_
    refine w_aloadN ok d14_20 rfl rfl ?_
    refine w_getfield ok (v := (.int (Int32.ofNat r))) (host := "") (f := ("com/example/hornconv/hornconv/FactTable", "rows", "I", .int)) 7 d14_21 (Or.inl (hw _ (List.mem_of_getElem? (i := 51) rfl))) Via.refl A_t rfl rfl ?_
    refine w_icmp_ge ok d14_24 (pc' := 63) (by first | decide | omega | (dsimp only; omega)) (fun hc4 => False.elim (by exact hc4 ((own_lt (by omega) (by omega)).mpr (by omega)))) (fun hc4 => ?_)
    refine w_aloadN ok d14_27 rfl rfl ?_
    refine w_aloadN ok d14_28 rfl rfl ?_
    refine w_iloadN ok d14_29 rfl ?_
    refine w_iloadN ok d14_30 rfl ?_
    refine w_callV ok (y := mn_16) (a := t) (argsL := [(.int (Int32.ofNat i)), (.int (Int32.ofNat p))]) (rest := [(.ref q)]) d14_31 (hw _ (List.mem_of_getElem? (i := 104) rfl)) (hw _ (List.mem_of_getElem? (i := 105) rfl)) (hw _ (List.mem_of_getElem? (i := 107) rfl)) (hw _ (List.mem_of_getElem? (i := 106) rfl)) (hw _ (List.mem_of_getElem? (i := 8) rfl)) (hw _ (List.mem_of_getElem? (i := 108) rfl)) (by first | decide | omega | (dsimp only; omega)) A_t.1 pd_28II29I rfl rfl (by first | decide | omega | (dsimp only; omega)) (Nat.le_of_ble_eq_true rfl) (by first | decide | omega | (dsimp only; omega)) (by first | decide | omega | (dsimp only; omega)) (fun z0 => rm_arg l Z a0 hw [] n0 h1 z0 t un me ag de sl po n (Int32.ofNat r) lw us A_t La i p A A_ag ⟨by have := (own_xn (show i < r by omega) hLa).1; omega, hLa.2⟩) (fun v5 h6 qv5 => ?_)
    obtain ⟨rfl, rfl⟩ := qv5
    rw [hA i (by omega)]
    show W K l _ n0 _ h1 _ _ 34 #[.val (.ref t), .val (.int (Int32.ofNat p)), .val (.ref q), .val (.int (Int32.ofNat i))] [(.int (c i)), (.ref q)]
    refine w_iloadN ok d14_34 rfl ?_
    refine w_callV ok (y := mn_17) (a := q) (argsL := [(.int (c i)), (.int (Int32.ofNat i))]) (rest := []) d14_35 (hw _ (List.mem_of_getElem? (i := 109) rfl)) (hw _ (List.mem_of_getElem? (i := 110) rfl)) (hw _ (List.mem_of_getElem? (i := 112) rfl)) (hw _ (List.mem_of_getElem? (i := 111) rfl)) (hw _ (List.mem_of_getElem? (i := 90) rfl)) (hw _ (List.mem_of_getElem? (i := 113) rfl)) (by first | decide | omega | (dsimp only; omega)) A_q.exa pd_28II29V rfl rfl (by first | decide | omega | (dsimp only; omega)) (Nat.le_of_ble_eq_true rfl) (by first | decide | omega | (dsimp only; omega)) (by first | decide | omega | (dsimp only; omega)) (fun z0 => rm_padd l Z a0 hw [] n0 h1 z0 D q i c A_q (fun a m => (hDf a m).2) (by omega) hc (hnd i (by omega))) (fun v8 h9 qv8 => ?_)
    obtain ⟨rfl, D7, X_D7, K1, hm_D7⟩ := qv8
    replace A_t := A_t.keep K1 nD_t
    replace A_ag := A_ag.keep K1 nD_ag
    replace A_de := A_de.keep K1 nD_de
    replace A_po := A_po.keep K1 nD_po
    replace Kp := Kp.trans K1 (fun a m => Or.inr (hDf a m).1)
    replace A_q := X_D7
    replace hDf : ∀ a ∈ D7, h0.size ≤ a ∧ n0 ≤ a := fun a m => (hm_D7 a m).elim (hDf a) (fun y => ⟨Nat.le_trans Kb.1 y.1, y.2⟩)
    have nD_t : t ∉ D7 := fun m => Nat.not_le.mpr lt_t (hDf _ m).1
    have nD_ag : ag ∉ D7 := fun m => Nat.not_le.mpr lt_ag (hDf _ m).1
    have nD_de : de ∉ D7 := fun m => Nat.not_le.mpr lt_de (hDf _ m).1
    have nD_po : po ∉ D7 := fun m => Nat.not_le.mpr lt_po (hDf _ m).1
    show W K l _ n0 _ h9 _ _ 38 #[.val (.ref t), .val (.int (Int32.ofNat p)), .val (.ref q), .val (.int (Int32.ofNat i))] []
    refine w_aloadN ok d14_38 rfl rfl ?_
    refine w_getfield ok (v := (.ref de)) (host := "") (f := ("com/example/hornconv/hornconv/FactTable", "dead", "[Z", (.array .boolean))) 4 d14_39 (Or.inl (hw _ (List.mem_of_getElem? (i := 25) rfl))) Via.refl A_t rfl rfl ?_
    refine w_iloadN ok d14_42 rfl ?_
    refine w_zaload ok (v := (.int (dd i))) d14_43 A_de (own_ix0 (by omega)) (svg (j := i) (by omega) (by omega)) ?_
    refine w_if_eq ok d14_44 (pc' := 57) (by first | decide | omega | (dsimp only; omega)) (fun hc11 => ?_) (fun hc11 => ?_)
    · skip
      refine w_iinc ok d14_57 (u := (1 : Int32)) rfl rfl (L' := #[.val (.ref t), .val (.int (Int32.ofNat p)), .val (.ref q), .val (.int ((Int32.ofNat i) + (1 : Int32)))]) rfl ?_
      show W K l _ n0 _ h9 _ _ 60 #[.val (.ref t), .val (.int (Int32.ofNat p)), .val (.ref q), .val (.int ((Int32.ofNat i) + (1 : Int32)))] []
      refine w_goto ok d14_60 (pc' := 19) (by first | decide | omega | (dsimp only; omega)) ?_
      show W K l _ n0 _ h9 _ _ 19 #[.val (.ref t), .val (.int (Int32.ofNat p)), .val (.ref q), .val (.int ((Int32.ofNat i) + (1 : Int32)))] []
      rw [own_inc]
      exact W.more (ih (i + 1) _ _ (by omega) Kp A_t A_ag A_de A_po A_q hDf) (by first | omega | (dsimp only; omega)) (by first | omega | (dsimp only; omega))
    · skip
      refine w_aloadN ok d14_47 rfl rfl ?_
      refine w_aloadN ok d14_48 rfl rfl ?_
      refine w_iloadN ok d14_49 rfl ?_
      refine w_iloadN ok d14_50 rfl ?_
      refine w_callV ok (y := mn_16) (a := t) (argsL := [(.int (Int32.ofNat i)), (.int (Int32.ofNat p))]) (rest := [(.ref q)]) d14_51 (hw _ (List.mem_of_getElem? (i := 104) rfl)) (hw _ (List.mem_of_getElem? (i := 105) rfl)) (hw _ (List.mem_of_getElem? (i := 107) rfl)) (hw _ (List.mem_of_getElem? (i := 106) rfl)) (hw _ (List.mem_of_getElem? (i := 8) rfl)) (hw _ (List.mem_of_getElem? (i := 108) rfl)) (by first | decide | omega | (dsimp only; omega)) A_t.1 pd_28II29I rfl rfl (by first | decide | omega | (dsimp only; omega)) (Nat.le_of_ble_eq_true rfl) (by first | decide | omega | (dsimp only; omega)) (by first | decide | omega | (dsimp only; omega)) (fun z0 => rm_arg l Z a0 hw [] n0 h9 z0 t un me ag de sl po n (Int32.ofNat r) lw us A_t La i p A A_ag ⟨by have := (own_xn (show i < r by omega) hLa).1; omega, hLa.2⟩) (fun v12 h13 qv12 => ?_)
      obtain ⟨rfl, rfl⟩ := qv12
      rw [hA i (by omega)]
      show W K l _ n0 _ h9 _ _ 54 #[.val (.ref t), .val (.int (Int32.ofNat p)), .val (.ref q), .val (.int (Int32.ofNat i))] [(.int (c i)), (.ref q)]
      refine w_callV ok (y := mn_29) (a := q) (argsL := [(.int (c i))]) (rest := []) d14_54 (hw _ (List.mem_of_getElem? (i := 163) rfl)) (hw _ (List.mem_of_getElem? (i := 164) rfl)) (hw _ (List.mem_of_getElem? (i := 166) rfl)) (hw _ (List.mem_of_getElem? (i := 165) rfl)) (hw _ (List.mem_of_getElem? (i := 90) rfl)) (hw _ (List.mem_of_getElem? (i := 167) rfl)) (by first | decide | omega | (dsimp only; omega)) A_q.exa pd_28I29V rfl rfl (by first | decide | omega | (dsimp only; omega)) (Nat.le_of_ble_eq_true rfl) (by first | decide | omega | (dsimp only; omega)) (by first | decide | omega | (dsimp only; omega)) (fun z0 => rm_prem l Z a0 hw [] n0 h9 z0 D7 q (i + 1) c A_q (fun a m => (hDf a m).2) (by omega) (c i)) (fun v14 h15 qv14 => ?_)
      obtain ⟨rfl, K1, X1⟩ := qv14
      replace A_t := A_t.keep K1 nD_t
      replace A_ag := A_ag.keep K1 nD_ag
      replace A_de := A_de.keep K1 nD_de
      replace A_po := A_po.keep K1 nD_po
      replace Kp := Kp.trans K1 (fun a m => Or.inr (hDf a m).1)
      replace A_q := X1
      show W K l _ n0 _ h15 _ _ 57 #[.val (.ref t), .val (.int (Int32.ofNat p)), .val (.ref q), .val (.int (Int32.ofNat i))] []
      refine w_iinc ok d14_57 (u := (1 : Int32)) rfl rfl (L' := #[.val (.ref t), .val (.int (Int32.ofNat p)), .val (.ref q), .val (.int ((Int32.ofNat i) + (1 : Int32)))]) rfl ?_
      show W K l _ n0 _ h15 _ _ 60 #[.val (.ref t), .val (.int (Int32.ofNat p)), .val (.ref q), .val (.int ((Int32.ofNat i) + (1 : Int32)))] []
      refine w_goto ok d14_60 (pc' := 19) (by first | decide | omega | (dsimp only; omega)) ?_
      show W K l _ n0 _ h15 _ _ 19 #[.val (.ref t), .val (.int (Int32.ofNat p)), .val (.ref q), .val (.int ((Int32.ofNat i) + (1 : Int32)))] []
      rw [own_inc]
      exact W.more (ih (i + 1) _ _ (by omega) Kp A_t A_ag A_de A_po A_q hDf) (by first | omega | (dsimp only; omega)) (by first | omega | (dsimp only; omega))
abbrev mn_14 : MethodName := ⟨"com/example/hornconv/hornconv/FactTable", "index", "(I)Lcom/example/hornconv/hornconv/FactTable$PositionIndex;"⟩
theorem pd_2829V : parseMethodDescriptor "()V" = some ⟨[], none⟩ := by decide +kernel
set_option maxRecDepth 65536 in
set_option maxHeartbeats 40000000 in
theorem rm_index (l : Launch) (Z : State) (a0 : Array Value) (hw : ∀ d ∈ tables_1, d.before a0 Z = true) (ws : List Jvm.Cond) (n0 : Nat) (h0 : Heap) (Z0 : Old Z n0 h0) (t un me ag de sl po : Addr) (n p r La Ld : Nat) (lw us : Int32) (A dd c : Nat → Int32) (hn : 2 ≤ n ∧ n ≤ 3) (hp : p < n) (hr : r ≤ 5) (hLa : r * n ≤ La ∧ La < 1000) (hLd : r ≤ Ld ∧ Ld < 1000) (hA : ∀ i, i < r → A (i * n + p) = c i) (hc : ∀ j, c j ≠ -1) (hnd : ∀ k, k ≤ 5 → ndc c k ≤ 2) (ge_po : n0 ≤ po) (ne_t_po : t ≠ po) (ne_ag_po : ag ≠ po) (ne_de_po : de ≠ po) (A_t : FO Z h0 t un me ag de sl po (Int32.ofNat n) (Int32.ofNat r) lw us) (A_ag : PA .int Z h0 ag (sv La A)) (A_de : PA .boolean Z h0 de (sv Ld dd)) (A_po : PP Z h0 po (pm n) p .null)  :
    Met l Z n0 mn_14 prog_3_method_12_code 4 (some (.object "com/example/hornconv/hornconv/FactTable$PositionIndex")) ws ({ frames := 3, cells := 10, slots := 73, locals := 48 } : Room) #[(.ref t), (.int (Int32.ofNat p))] h0 (fun u h => ∃ q D, u = some (.ref q) ∧ Keep h0 h [po] ∧ PP Z h po (pm n) p (.ref q) ∧ IX Z h D q r c ∧ ∀ a ∈ D, h0.size ≤ a ∧ n0 ≤ a) := by
  refine met_of Z0 (plainFor_of_name pn_com_example_hornconv_hornconv_FactTable) (Ls := #[.val (.ref t), .val (.int (Int32.ofNat p)), .unset, .unset]) (fun m => by first | (simp [entryFrame, mkF, argsToLocals, Value.category]; done) | rfl) ?_
  intro K ok
  have Kp : Keep h0 h0 [po] := Keep.refl _ _
  have lt_t := A_t.lt
  have lt_ag := A_ag.lt
  have lt_de := A_de.lt
  have lt_po := A_po.lt
  show W K l _ n0 _ h0 0 0 0 #[.val (.ref t), .val (.int (Int32.ofNat p)), .unset, .unset] []
  refine w_aloadN ok d14_0 rfl rfl ?_
  refine w_getfield ok (v := (.ref po)) (host := "") (f := ("com/example/hornconv/hornconv/FactTable", "positions", "[Lcom/example/hornconv/hornconv/FactTable$PositionIndex;", (.array (.object "com/example/hornconv/hornconv/FactTable$PositionIndex")))) 6 d14_1 (Or.inl (hw _ (List.mem_of_getElem? (i := 35) rfl))) Via.refl A_t rfl rfl ?_
  refine w_iloadN ok d14_4 rfl ?_
  refine w_aaload ok (v := .null) d14_5 A_po.1 rfl (own_ix0 (by omega)) (pvn (by rw [pm_ge hn.1]; omega) (by rw [pm_ge hn.1]; omega) (fun _ => rfl)) ?_
  refine w_ifnonnullN ok d14_6 ?_
  show W K l _ n0 _ h0 0 0 9 #[.val (.ref t), .val (.int (Int32.ofNat p)), .unset, .unset] []
  refine w_new ok d14_9 (hw _ (List.mem_of_getElem? (i := 33) rfl)) (hw _ (List.mem_of_getElem? (i := 89) rfl)) (hw _ (List.mem_of_getElem? (i := 90) rfl)) (la_FactTable_PositionIndex hw) (by decide) (by decide) (fun h2 b1 ea_b1 ge_b1 E_b1 A_b1 => ?_)
  have sz_b1 : h0.size ≤ b1 := Nat.le_trans Kp.1 (Nat.le_of_eq ea_b1.symm)
  have ne_t_b1 : t ≠ b1 := fun q => Nat.lt_irrefl _ (Nat.lt_of_lt_of_eq A_t.lt (ea_b1.symm.trans q.symm))
  have ne_ag_b1 : ag ≠ b1 := fun q => Nat.lt_irrefl _ (Nat.lt_of_lt_of_eq A_ag.lt (ea_b1.symm.trans q.symm))
  have ne_de_b1 : de ≠ b1 := fun q => Nat.lt_irrefl _ (Nat.lt_of_lt_of_eq A_de.lt (ea_b1.symm.trans q.symm))
  have ne_po_b1 : po ≠ b1 := fun q => Nat.lt_irrefl _ (Nat.lt_of_lt_of_eq A_po.lt (ea_b1.symm.trans q.symm))
  replace Kp := Kp.ext E_b1
  replace A_t := A_t.ext E_b1
  replace A_ag := A_ag.ext E_b1
  replace A_de := A_de.ext E_b1
  replace A_po := A_po.ext E_b1
  replace A_b1 : Ob Z h2 b1 "com/example/hornconv/hornconv/FactTable$PositionIndex" fl_FactTable_PositionIndex [.null, .null, .null, .null, (.int (0 : Int32))] := A_b1
  refine w_dup ok d14_12 rfl ?_
  show W K l _ n0 _ h2 1 5 13 #[.val (.ref t), .val (.int (Int32.ofNat p)), .unset, .unset] [(.ref b1), (.ref b1)]
  have Kb := Kp
  refine w_callI ok (y := mn_15) (a := b1) (argsL := []) (rest := [(.ref b1)]) d14_13 rfl (hw _ (List.mem_of_getElem? (i := 91) rfl)) (hw _ (List.mem_of_getElem? (i := 92) rfl)) (hw _ (List.mem_of_getElem? (i := 90) rfl)) (hw _ (List.mem_of_getElem? (i := 93) rfl)) (by decide) pd_2829V rfl rfl (by decide) (Nat.le_of_ble_eq_true rfl) (by decide) (by decide) (fun z0 => rm_pctor l Z a0 hw [] n0 h2 z0 b1 c A_b1 ge_b1) (fun v3 h4 qv3 => ?_)
  obtain ⟨rfl, D, X0, K1, hm0⟩ := qv3
  replace Kp := Kp.trans K1 (allS (Or.inr sz_b1) all0)
  replace A_t := A_t.keep K1 (ninS ne_t_b1 nin0)
  replace A_ag := A_ag.keep K1 (ninS ne_ag_b1 nin0)
  replace A_de := A_de.keep K1 (ninS ne_de_b1 nin0)
  replace A_po := A_po.keep K1 (ninS ne_po_b1 nin0)
  show W K l _ n0 _ h4 5 33 16 #[.val (.ref t), .val (.int (Int32.ofNat p)), .unset, .unset] [(.ref b1)]
  refine w_astoreN ok d14_16 rfl (L' := #[.val (.ref t), .val (.int (Int32.ofNat p)), .val (.ref b1), .unset]) rfl ?_
  refine w_iconst ok d14_17 (v := (0 : Int32)) rfl ?_
  refine w_istoreN ok d14_18 (L' := #[.val (.ref t), .val (.int (Int32.ofNat p)), .val (.ref b1), .val (.int (0 : Int32))]) rfl ?_
  show W K l _ n0 _ h4 5 33 19 #[.val (.ref t), .val (.int (Int32.ofNat p)), .val (.ref b1), .val (.int (0 : Int32))] []
  exact lp_index l Z a0 hw n0 h0 K ok t un me ag de sl po b1 n p r La Ld lw us A dd c hn hp hr hLa hLd hA hc hnd ge_po ne_t_po ne_ag_po ne_de_po lt_t lt_ag lt_de lt_po r 0 _ D (by omega) Kp A_t A_ag A_de A_po X0 (fun a m => (hm0 a m).elim (fun e => by rw [e]; exact ⟨sz_b1, ge_b1⟩) (fun y => ⟨Nat.le_trans Kb.1 y.1, y.2⟩))
theorem d13_0 : decode prog_3_method_9_code 0 = .ok (.aload_n 0, 1) := by decide +kernel
theorem d13_1 : decode prog_3_method_9_code 1 = .ok (.getfield 17, 3) := by decide +kernel
theorem d13_4 : decode prog_3_method_9_code 4 = .ok (.iconst 1, 1) := by decide +kernel
theorem d13_5 : decode prog_3_method_9_code 5 = .ok (.if_icmp .ne 11, 3) := by decide +kernel
theorem d13_8 : decode prog_3_method_9_code 8 = .ok (.aload_n 0, 1) := by decide +kernel
theorem d13_9 : decode prog_3_method_9_code 9 = .ok (.iload_n 2, 1) := by decide +kernel
theorem d13_10 : decode prog_3_method_9_code 10 = .ok (.invokevirtual 95, 3) := by decide +kernel
theorem d13_13 : decode prog_3_method_9_code 13 = .ok (.goto 12, 3) := by decide +kernel
theorem d13_16 : decode prog_3_method_9_code 16 = .ok (.aload_n 0, 1) := by decide +kernel
theorem d13_17 : decode prog_3_method_9_code 17 = .ok (.iload_n 1, 1) := by decide +kernel
theorem d13_18 : decode prog_3_method_9_code 18 = .ok (.invokevirtual 99, 3) := by decide +kernel
theorem d13_21 : decode prog_3_method_9_code 21 = .ok (.iload_n 2, 1) := by decide +kernel
theorem d13_22 : decode prog_3_method_9_code 22 = .ok (.invokevirtual 103, 3) := by decide +kernel
theorem d13_25 : decode prog_3_method_9_code 25 = .ok (.ireturn, 1) := by decide +kernel
abbrev mn_13 : MethodName := ⟨"com/example/hornconv/hornconv/FactTable", "first", "(II)I"⟩
theorem pd_28I29Lcom2fexample2fhornconv2fhornconv2fFactTable24PositionIndex3b : parseMethodDescriptor "(I)Lcom/example/hornconv/hornconv/FactTable$PositionIndex;" = some ⟨[.int], some (.object "com/example/hornconv/hornconv/FactTable$PositionIndex")⟩ := by decide +kernel
set_option maxRecDepth 65536 in
set_option maxHeartbeats 40000000 in
theorem rm_first2 (l : Launch) (Z : State) (a0 : Array Value) (hw : ∀ d ∈ tables_1, d.before a0 Z = true) (ws : List Jvm.Cond) (n0 : Nat) (h0 : Heap) (Z0 : Old Z n0 h0) (B : Nat) (hB0 : n0 ≤ B) (hBs : B ≤ h0.size) (t : Addr) (n p r : Nat) (c : Nat → Int32) (Lm : Nat) (al : Bool) (T : TB Z h0 B t n p r c Lm false al) (hn : 2 ≤ n ∧ n ≤ 3) (hp : p < n) (hr : r ≤ 5) (hc : ∀ j, c j ≠ -1) (hnd : ∀ k, k ≤ 5 → ndc c k ≤ 2) (y : Int32)  :
    Met l Z n0 mn_13 prog_3_method_9_code 3 (some .int) ws ({ frames := 4, cells := 10, slots := 73, locals := 63 } : Room) #[(.ref t), (.int (Int32.ofNat p)), (.int y)] h0 (fun u h => ∃ z, u = some (.int z) ∧ TB Z h B t n p r c Lm true al ∧ Sm B h0 h) := by
  refine met_of Z0 (plainFor_of_name pn_com_example_hornconv_hornconv_FactTable) (Ls := #[.val (.ref t), .val (.int (Int32.ofNat p)), .val (.int y)]) (fun m => by first | (simp [entryFrame, mkF, argsToLocals, Value.category]; done) | rfl) ?_
  intro K ok
  obtain ⟨un, me, ag, de, sl, po, x, D, A, f, uu, μ, lw, us, dd, A_t, A_un, A_me, A_ag, A_de, A_sl, A_po, A_q, ⟨ne_t_un, ne_t_me, ne_t_ag, ne_t_de, ne_t_sl, ne_t_po, ne_un_me, ne_un_ag, ne_un_de, ne_un_sl, ne_un_po, ne_me_ag, ne_me_de, ne_me_sl, ne_me_po, ne_ag_de, ne_ag_sl, ne_ag_po, ne_de_sl, ne_de_po, ne_sl_po⟩, ⟨nD_t, nD_un, nD_me, nD_ag, nD_de, nD_sl, nD_po⟩, ⟨nB_t, nB_un, nB_me, nB_ag, nB_de, nB_sl, nB_po⟩, hDB, hRA, hLm, hal⟩ := T
  have ge_t := Nat.le_trans hB0 nB_t
  have ge_un := Nat.le_trans hB0 nB_un
  have ge_me := Nat.le_trans hB0 nB_me
  have ge_ag := Nat.le_trans hB0 nB_ag
  have ge_de := Nat.le_trans hB0 nB_de
  have ge_sl := Nat.le_trans hB0 nB_sl
  have ge_po := Nat.le_trans hB0 nB_po
  obtain rfl : x = .null := A_q.null
  have Sp : Sm B h0 h0 := Sm.refl hBs
  show W K l _ n0 _ h0 0 0 0 #[.val (.ref t), .val (.int (Int32.ofNat p)), .val (.int y)] []
  refine w_aloadN ok d13_0 rfl rfl ?_
  refine w_getfield ok (v := (.int (Int32.ofNat n))) (host := "") (f := ("com/example/hornconv/hornconv/FactTable", "arity", "I", .int)) 2 d13_1 (Or.inl (hw _ (List.mem_of_getElem? (i := 20) rfl))) Via.refl A_t rfl rfl ?_
  refine w_iconst ok d13_4 (v := (1 : Int32)) rfl ?_
  refine w_icmp_ne ok d13_5 (pc' := 16) (by decide) (fun hc1 => ?_) (fun hc1 => False.elim (by exact own_ne1 hn.2 hn.1 hc1))
  refine w_aloadN ok d13_16 rfl rfl ?_
  refine w_iloadN ok d13_17 rfl ?_
  refine w_callP ok (y := mn_14) (a := t) (argsL := [(.int (Int32.ofNat p))]) (rest := []) d13_18 (hw _ (List.mem_of_getElem? (i := 85) rfl)) (hw _ (List.mem_of_getElem? (i := 86) rfl)) (hw _ (List.mem_of_getElem? (i := 87) rfl)) (hw _ (List.mem_of_getElem? (i := 7) rfl)) (hw _ (List.mem_of_getElem? (i := 8) rfl)) (hw _ (List.mem_of_getElem? (i := 88) rfl)) (by decide) A_t.1 pd_28I29Lcom2fexample2fhornconv2fhornconv2fFactTable24PositionIndex3b rfl rfl (by decide) (Nat.le_of_ble_eq_true rfl) (by decide) (by decide) (fun z0 => rm_index l Z a0 hw [] n0 h0 z0 t un me ag de sl po n p r (cap4 r * n) (cap4 r) lw us A dd c hn hp hr (own_cap hr hn.2).1 (own_cap hr hn.2).2 (fun i hi => hRA.at hn.1 hp hi) hc hnd ge_po ne_t_po ne_ag_po ne_de_po A_t A_ag A_de A_po) (fun v2 h3 qv2 => ?_)
  obtain ⟨q, D1, rfl, K1, A1, A_q1, hDf⟩ := qv2
  have nE_t : t ∉ D1 := fun m => Nat.not_le.mpr A_t.lt (hDf _ m).1
  have nE_un : un ∉ D1 := fun m => Nat.not_le.mpr A_un.lt (hDf _ m).1
  have nE_me : me ∉ D1 := fun m => Nat.not_le.mpr A_me.lt (hDf _ m).1
  have nE_ag : ag ∉ D1 := fun m => Nat.not_le.mpr A_ag.lt (hDf _ m).1
  have nE_de : de ∉ D1 := fun m => Nat.not_le.mpr A_de.lt (hDf _ m).1
  have nE_sl : sl ∉ D1 := fun m => Nat.not_le.mpr A_sl.lt (hDf _ m).1
  have nE_po : po ∉ D1 := fun m => Nat.not_le.mpr A_po.lt (hDf _ m).1
  replace A_t := A_t.keep K1 (ninS ne_t_po nin0)
  replace A_un := A_un.keep K1 (ninS ne_un_po nin0)
  replace A_me := A_me.keep K1 (ninS ne_me_po nin0)
  replace A_ag := A_ag.keep K1 (ninS ne_ag_po nin0)
  replace A_de := A_de.keep K1 (ninS ne_de_po nin0)
  replace A_sl := A_sl.keep K1 (ninS ne_sl_po nin0)
  replace Sp := Sp.keep K1 (allS nB_po all0)
  replace A_po := A1
  show W K l _ n0 _ h3 10 73 21 #[.val (.ref t), .val (.int (Int32.ofNat p)), .val (.int y)] [(.ref q)]
  refine w_iloadN ok d13_21 rfl ?_
  refine w_callV ok (y := mn_20) (a := q) (argsL := [(.int y)]) (rest := []) d13_22 (hw _ (List.mem_of_getElem? (i := 126) rfl)) (hw _ (List.mem_of_getElem? (i := 127) rfl)) (hw _ (List.mem_of_getElem? (i := 129) rfl)) (hw _ (List.mem_of_getElem? (i := 128) rfl)) (hw _ (List.mem_of_getElem? (i := 90) rfl)) (hw _ (List.mem_of_getElem? (i := 130) rfl)) (by decide) A_q1.exa pd_28I29I rfl rfl (by decide) (Nat.le_of_ble_eq_true rfl) (by decide) (by decide) (fun z0 => rm_pfirst l Z a0 hw [] n0 h3 z0 D1 q r c A_q1 (fun a m => (hDf a m).2) hr y) (fun v4 h5 qv4 => ?_)
  obtain ⟨zf, rfl, rfl⟩ := qv4
  show W K l _ n0 _ h3 10 73 25 #[.val (.ref t), .val (.int (Int32.ofNat p)), .val (.int y)] [(.int zf)]
  refine w_iret ok d13_25 (by decide) (by decide) ?_
  exact ⟨_, rfl, ⟨un, me, ag, de, sl, po, (.ref q), D1, A, f, uu, μ, lw, us, dd, A_t, A_un, A_me, A_ag, A_de, A_sl, A_po, (Or.inr ⟨rfl, q, rfl, A_q1⟩), ⟨ne_t_un, ne_t_me, ne_t_ag, ne_t_de, ne_t_sl, ne_t_po, ne_un_me, ne_un_ag, ne_un_de, ne_un_sl, ne_un_po, ne_me_ag, ne_me_de, ne_me_sl, ne_me_po, ne_ag_de, ne_ag_sl, ne_ag_po, ne_de_sl, ne_de_po, ne_sl_po⟩, ⟨nE_t, nE_un, nE_me, nE_ag, nE_de, nE_sl, nE_po⟩, ⟨nB_t, nB_un, nB_me, nB_ag, nB_de, nB_sl, nB_po⟩, (fun a m => Nat.le_trans hBs (hDf a m).1), hRA, hLm, hal⟩, Sp⟩
set_option maxRecDepth 65536 in
set_option maxHeartbeats 40000000 in
theorem rm_first1 (l : Launch) (Z : State) (a0 : Array Value) (hw : ∀ d ∈ tables_1, d.before a0 Z = true) (ws : List Jvm.Cond) (n0 : Nat) (h0 : Heap) (Z0 : Old Z n0 h0) (B : Nat) (hB0 : n0 ≤ B) (hBs : B ≤ h0.size) (t : Addr) (n p r : Nat) (c : Nat → Int32) (Lm : Nat) (mk : Bool) (T : TB Z h0 B t n p r c Lm mk true) (h1n : n = 1) (hr : r ≤ 5) (y : Int32) (w : Nat) (hw6 : Jvm.Free.XT.ushr y 6 = Int32.ofNat w) (hwb : w < 64)  :
    Met l Z n0 mn_13 prog_3_method_9_code 3 (some .int) ws ({ frames := 3, cells := 0, slots := 0, locals := 48 } : Room) #[(.ref t), (.int (Int32.ofNat p)), (.int y)] h0 (fun u h => ∃ z, u = some (.int z) ∧ TB Z h B t n p r c Lm mk true ∧ Sm B h0 h) := by
  refine met_of Z0 (plainFor_of_name pn_com_example_hornconv_hornconv_FactTable) (Ls := #[.val (.ref t), .val (.int (Int32.ofNat p)), .val (.int y)]) (fun m => by first | (simp [entryFrame, mkF, argsToLocals, Value.category]; done) | rfl) ?_
  intro K ok
  obtain ⟨un, me, ag, de, sl, po, x, D, A, f, uu, μ, lw, us, dd, A_t, A_un, A_me, A_ag, A_de, A_sl, A_po, A_q, ⟨ne_t_un, ne_t_me, ne_t_ag, ne_t_de, ne_t_sl, ne_t_po, ne_un_me, ne_un_ag, ne_un_de, ne_un_sl, ne_un_po, ne_me_ag, ne_me_de, ne_me_sl, ne_me_po, ne_ag_de, ne_ag_sl, ne_ag_po, ne_de_sl, ne_de_po, ne_sl_po⟩, ⟨nD_t, nD_un, nD_me, nD_ag, nD_de, nD_sl, nD_po⟩, ⟨nB_t, nB_un, nB_me, nB_ag, nB_de, nB_sl, nB_po⟩, hDB, hRA, hLm, hal⟩ := T
  have ge_t := Nat.le_trans hB0 nB_t
  have ge_un := Nat.le_trans hB0 nB_un
  have ge_me := Nat.le_trans hB0 nB_me
  have ge_ag := Nat.le_trans hB0 nB_ag
  have ge_de := Nat.le_trans hB0 nB_de
  have ge_sl := Nat.le_trans hB0 nB_sl
  have ge_po := Nat.le_trans hB0 nB_po
  have Sp : Sm B h0 h0 := Sm.refl hBs
  show W K l _ n0 _ h0 0 0 0 #[.val (.ref t), .val (.int (Int32.ofNat p)), .val (.int y)] []
  refine w_aloadN ok d13_0 rfl rfl ?_
  refine w_getfield ok (v := (.int (Int32.ofNat n))) (host := "") (f := ("com/example/hornconv/hornconv/FactTable", "arity", "I", .int)) 2 d13_1 (Or.inl (hw _ (List.mem_of_getElem? (i := 20) rfl))) Via.refl A_t rfl rfl ?_
  refine w_iconst ok d13_4 (v := (1 : Int32)) rfl ?_
  refine w_icmp_ne ok d13_5 (pc' := 16) (by decide) (fun hc1 => False.elim (by exact hc1 (by rw [h1n]; rfl))) (fun hc1 => ?_)
  refine w_aloadN ok d13_8 rfl rfl ?_
  refine w_iloadN ok d13_9 rfl ?_
  refine w_callP ok (y := mn_27) (a := t) (argsL := [(.int y)]) (rest := []) d13_10 (hw _ (List.mem_of_getElem? (i := 154) rfl)) (hw _ (List.mem_of_getElem? (i := 155) rfl)) (hw _ (List.mem_of_getElem? (i := 156) rfl)) (hw _ (List.mem_of_getElem? (i := 7) rfl)) (hw _ (List.mem_of_getElem? (i := 8) rfl)) (hw _ (List.mem_of_getElem? (i := 157) rfl)) (by decide) A_t.1 pd_28I29I rfl rfl (by decide) (Nat.le_of_ble_eq_true rfl) (by decide) (by decide) (fun z0 => rm_single l Z a0 hw [] n0 h0 z0 t un me ag de sl po n _ _ _ A_t (by omega) h1n Lm w (cap4 r * n) (capS r) r μ uu A f y A_un A_me A_ag A_sl hw6 hwb hLm (own_cap hr (by omega)).1 (own_capS hr).1 (hal rfl).2.2.2 (own_capS hr).2 ge_un ne_t_un ne_un_me ne_un_ag ne_un_de ne_un_sl ne_un_po) (fun v2 h3 qv2 => ?_)
  obtain ⟨zf, uu', rfl, K1, A1⟩ := qv2
  replace A_t := A_t.keep K1 (ninS ne_t_un nin0)
  replace A_me := A_me.keep K1 (ninS (Ne.symm ne_un_me) nin0)
  replace A_ag := A_ag.keep K1 (ninS (Ne.symm ne_un_ag) nin0)
  replace A_de := A_de.keep K1 (ninS (Ne.symm ne_un_de) nin0)
  replace A_sl := A_sl.keep K1 (ninS (Ne.symm ne_un_sl) nin0)
  replace A_po := A_po.keep K1 (ninS (Ne.symm ne_un_po) nin0)
  replace A_q := A_q.keep K1 (allS nD_un all0)
  replace Sp := Sp.keep K1 (allS nB_un all0)
  replace A_un := A1
  show W K l _ n0 _ h3 0 0 13 #[.val (.ref t), .val (.int (Int32.ofNat p)), .val (.int y)] [(.int zf)]
  refine w_goto ok d13_13 (pc' := 25) (by decide) ?_
  refine w_iret ok d13_25 (by decide) (by decide) ?_
  exact ⟨_, rfl, ⟨un, me, ag, de, sl, po, x, D, A, f, uu', μ, lw, us, dd, A_t, A_un, A_me, A_ag, A_de, A_sl, A_po, A_q, ⟨ne_t_un, ne_t_me, ne_t_ag, ne_t_de, ne_t_sl, ne_t_po, ne_un_me, ne_un_ag, ne_un_de, ne_un_sl, ne_un_po, ne_me_ag, ne_me_de, ne_me_sl, ne_me_po, ne_ag_de, ne_ag_sl, ne_ag_po, ne_de_sl, ne_de_po, ne_sl_po⟩, ⟨nD_t, nD_un, nD_me, nD_ag, nD_de, nD_sl, nD_po⟩, ⟨nB_t, nB_un, nB_me, nB_ag, nB_de, nB_sl, nB_po⟩, hDB, hRA, hLm, hal⟩, Sp⟩
theorem d21_0 : decode prog_3_method_10_code 0 = .ok (.aload_n 0, 1) := by decide +kernel
theorem d21_1 : decode prog_3_method_10_code 1 = .ok (.getfield 17, 3) := by decide +kernel
theorem d21_4 : decode prog_3_method_10_code 4 = .ok (.iconst 1, 1) := by decide +kernel
theorem d21_5 : decode prog_3_method_10_code 5 = .ok (.if_icmp .ne 7, 3) := by decide +kernel
theorem d21_8 : decode prog_3_method_10_code 8 = .ok (.iconst (-1), 1) := by decide +kernel
theorem d21_9 : decode prog_3_method_10_code 9 = .ok (.goto 14, 3) := by decide +kernel
theorem d21_12 : decode prog_3_method_10_code 12 = .ok (.aload_n 0, 1) := by decide +kernel
theorem d21_13 : decode prog_3_method_10_code 13 = .ok (.getfield 39, 3) := by decide +kernel
theorem d21_16 : decode prog_3_method_10_code 16 = .ok (.iload_n 1, 1) := by decide +kernel
theorem d21_17 : decode prog_3_method_10_code 17 = .ok (.aaload, 1) := by decide +kernel
theorem d21_18 : decode prog_3_method_10_code 18 = .ok (.getfield 106, 3) := by decide +kernel
theorem d21_21 : decode prog_3_method_10_code 21 = .ok (.iload_n 2, 1) := by decide +kernel
theorem d21_22 : decode prog_3_method_10_code 22 = .ok (.iaload, 1) := by decide +kernel
theorem d21_23 : decode prog_3_method_10_code 23 = .ok (.ireturn, 1) := by decide +kernel
abbrev mn_21 : MethodName := ⟨"com/example/hornconv/hornconv/FactTable", "next", "(II)I"⟩
set_option maxRecDepth 65536 in
set_option maxHeartbeats 40000000 in
theorem rm_next2 (l : Launch) (Z : State) (a0 : Array Value) (hw : ∀ d ∈ tables_1, d.before a0 Z = true) (ws : List Jvm.Cond) (n0 : Nat) (h0 : Heap) (Z0 : Old Z n0 h0) (B : Nat) (hB0 : n0 ≤ B) (hBs : B ≤ h0.size) (t : Addr) (n p r : Nat) (c : Nat → Int32) (Lm : Nat) (al : Bool) (T : TB Z h0 B t n p r c Lm true al) (hn : 2 ≤ n ∧ n ≤ 3) (hp : p < n) (hr : r ≤ 5) (y : Nat) (hy : y < r)  :
    Met l Z n0 mn_21 prog_3_method_10_code 3 (some .int) ws ({ frames := 0, cells := 0, slots := 0, locals := 0 } : Room) #[(.ref t), (.int (Int32.ofNat p)), (.int (Int32.ofNat y))] h0 (fun u h => u = some (.int (prv c (c y) y)) ∧ h0 = h) := by
  refine met_of Z0 (plainFor_of_name pn_com_example_hornconv_hornconv_FactTable) (Ls := #[.val (.ref t), .val (.int (Int32.ofNat p)), .val (.int (Int32.ofNat y))]) (fun m => by first | (simp [entryFrame, mkF, argsToLocals, Value.category]; done) | rfl) ?_
  intro K ok
  obtain ⟨un, me, ag, de, sl, po, x, D, A, f, uu, μ, lw, us, dd, A_t, A_un, A_me, A_ag, A_de, A_sl, A_po, A_q, ⟨ne_t_un, ne_t_me, ne_t_ag, ne_t_de, ne_t_sl, ne_t_po, ne_un_me, ne_un_ag, ne_un_de, ne_un_sl, ne_un_po, ne_me_ag, ne_me_de, ne_me_sl, ne_me_po, ne_ag_de, ne_ag_sl, ne_ag_po, ne_de_sl, ne_de_po, ne_sl_po⟩, ⟨nD_t, nD_un, nD_me, nD_ag, nD_de, nD_sl, nD_po⟩, ⟨nB_t, nB_un, nB_me, nB_ag, nB_de, nB_sl, nB_po⟩, hDB, hRA, hLm, hal⟩ := T
  have ge_t := Nat.le_trans hB0 nB_t
  have ge_un := Nat.le_trans hB0 nB_un
  have ge_me := Nat.le_trans hB0 nB_me
  have ge_ag := Nat.le_trans hB0 nB_ag
  have ge_de := Nat.le_trans hB0 nB_de
  have ge_sl := Nat.le_trans hB0 nB_sl
  have ge_po := Nat.le_trans hB0 nB_po
  obtain ⟨q, rfl, X⟩ := A_q.made
  obtain ⟨ke, he, co, nx, sz, Kf, H, G, N, eD, -, P, A_q, A_ke, A_he, A_co, A_nx⟩ := X
  have hcp := (own_cap hr hn.2).2
  have hpm : p < pm n ∧ pm n < 1000 := by rw [pm_ge hn.1]; omega
  show W K l _ n0 _ h0 0 0 0 #[.val (.ref t), .val (.int (Int32.ofNat p)), .val (.int (Int32.ofNat y))] []
  refine w_aloadN ok d21_0 rfl rfl ?_
  refine w_getfield ok (v := (.int (Int32.ofNat n))) (host := "") (f := ("com/example/hornconv/hornconv/FactTable", "arity", "I", .int)) 2 d21_1 (Or.inl (hw _ (List.mem_of_getElem? (i := 20) rfl))) Via.refl A_t rfl rfl ?_
  refine w_iconst ok d21_4 (v := (1 : Int32)) rfl ?_
  refine w_icmp_ne ok d21_5 (pc' := 12) (by decide) (fun hc1 => ?_) (fun hc1 => False.elim (by exact own_ne1 hn.2 hn.1 hc1))
  refine w_aloadN ok d21_12 rfl rfl ?_
  refine w_getfield ok (v := (.ref po)) (host := "") (f := ("com/example/hornconv/hornconv/FactTable", "positions", "[Lcom/example/hornconv/hornconv/FactTable$PositionIndex;", (.array (.object "com/example/hornconv/hornconv/FactTable$PositionIndex")))) 6 d21_13 (Or.inl (hw _ (List.mem_of_getElem? (i := 35) rfl))) Via.refl A_t rfl rfl ?_
  refine w_iloadN ok d21_16 rfl ?_
  refine w_aaload ok (v := (.ref q)) d21_17 A_po.1 rfl (own_ix0 (by omega)) (pvp hpm.1 hpm.2) ?_
  refine w_getfieldR ok (v := (.ref nx)) (f := ("com/example/hornconv/hornconv/FactTable$PositionIndex", "next", "[I", (.array .int))) 3 d21_18 (hw _ (List.mem_of_getElem? (i := 136) rfl)) A_q rfl rfl ?_
  refine w_iloadN ok d21_21 rfl ?_
  refine w_iaload ok (v := (.int (N y))) d21_22 A_nx (own_ix0 (by omega)) (svg (j := y) (by omega) (by omega)) ?_
  refine w_iret ok d21_23 (by decide) (by decide) ?_
  exact ⟨by rw [P.2.2.2.1 y hy], rfl⟩
set_option maxRecDepth 65536 in
set_option maxHeartbeats 40000000 in
theorem rm_next1 (l : Launch) (Z : State) (a0 : Array Value) (hw : ∀ d ∈ tables_1, d.before a0 Z = true) (ws : List Jvm.Cond) (n0 : Nat) (h0 : Heap) (Z0 : Old Z n0 h0) (B : Nat) (hB0 : n0 ≤ B) (hBs : B ≤ h0.size) (t : Addr) (n p r : Nat) (c : Nat → Int32) (Lm : Nat) (mk al : Bool) (T : TB Z h0 B t n p r c Lm mk al) (h1n : n = 1) (y : Int32)  :
    Met l Z n0 mn_21 prog_3_method_10_code 3 (some .int) ws ({ frames := 0, cells := 0, slots := 0, locals := 0 } : Room) #[(.ref t), (.int (Int32.ofNat p)), (.int y)] h0 (fun u h => u = some (.int (-1)) ∧ h0 = h) := by
  refine met_of Z0 (plainFor_of_name pn_com_example_hornconv_hornconv_FactTable) (Ls := #[.val (.ref t), .val (.int (Int32.ofNat p)), .val (.int y)]) (fun m => by first | (simp [entryFrame, mkF, argsToLocals, Value.category]; done) | rfl) ?_
  intro K ok
  obtain ⟨un, me, ag, de, sl, po, x, D, A, f, uu, μ, lw, us, dd, A_t, A_un, A_me, A_ag, A_de, A_sl, A_po, A_q, ⟨ne_t_un, ne_t_me, ne_t_ag, ne_t_de, ne_t_sl, ne_t_po, ne_un_me, ne_un_ag, ne_un_de, ne_un_sl, ne_un_po, ne_me_ag, ne_me_de, ne_me_sl, ne_me_po, ne_ag_de, ne_ag_sl, ne_ag_po, ne_de_sl, ne_de_po, ne_sl_po⟩, ⟨nD_t, nD_un, nD_me, nD_ag, nD_de, nD_sl, nD_po⟩, ⟨nB_t, nB_un, nB_me, nB_ag, nB_de, nB_sl, nB_po⟩, hDB, hRA, hLm, hal⟩ := T
  have ge_t := Nat.le_trans hB0 nB_t
  have ge_un := Nat.le_trans hB0 nB_un
  have ge_me := Nat.le_trans hB0 nB_me
  have ge_ag := Nat.le_trans hB0 nB_ag
  have ge_de := Nat.le_trans hB0 nB_de
  have ge_sl := Nat.le_trans hB0 nB_sl
  have ge_po := Nat.le_trans hB0 nB_po
  show W K l _ n0 _ h0 0 0 0 #[.val (.ref t), .val (.int (Int32.ofNat p)), .val (.int y)] []
  refine w_aloadN ok d21_0 rfl rfl ?_
  refine w_getfield ok (v := (.int (Int32.ofNat n))) (host := "") (f := ("com/example/hornconv/hornconv/FactTable", "arity", "I", .int)) 2 d21_1 (Or.inl (hw _ (List.mem_of_getElem? (i := 20) rfl))) Via.refl A_t rfl rfl ?_
  refine w_iconst ok d21_4 (v := (1 : Int32)) rfl ?_
  refine w_icmp_ne ok d21_5 (pc' := 12) (by decide) (fun hc1 => False.elim (by exact hc1 (by rw [h1n]; rfl))) (fun hc1 => ?_)
  refine w_iconst ok d21_8 (v := (-1 : Int32)) rfl ?_
  refine w_goto ok d21_9 (pc' := 23) (by decide) ?_
  refine w_iret ok d21_23 (by decide) (by decide) ?_
  exact ⟨rfl, rfl⟩
theorem END4 : True := trivial
theorem d28_0 : decode prog_3_method_8_code 0 = .ok (.aload_n 0, 1) := by decide +kernel
theorem d28_1 : decode prog_3_method_8_code 1 = .ok (.getfield 28, 3) := by decide +kernel
theorem d28_4 : decode prog_3_method_8_code 4 = .ok (.arraylength, 1) := by decide +kernel
theorem d28_5 : decode prog_3_method_8_code 5 = .ok (.iconst 1, 1) := by decide +kernel
theorem d28_6 : decode prog_3_method_8_code 6 = .ok (.isub, 1) := by decide +kernel
theorem d28_7 : decode prog_3_method_8_code 7 = .ok (.istore_n 2, 1) := by decide +kernel
theorem d28_8 : decode prog_3_method_8_code 8 = .ok (.aload_n 0, 1) := by decide +kernel
theorem d28_9 : decode prog_3_method_8_code 9 = .ok (.aload_n 0, 1) := by decide +kernel
theorem d28_10 : decode prog_3_method_8_code 10 = .ok (.getfield 21, 3) := by decide +kernel
theorem d28_13 : decode prog_3_method_8_code 13 = .ok (.iload_n 1, 1) := by decide +kernel
theorem d28_14 : decode prog_3_method_8_code 14 = .ok (.aload_n 0, 1) := by decide +kernel
theorem d28_15 : decode prog_3_method_8_code 15 = .ok (.getfield 17, 3) := by decide +kernel
theorem d28_18 : decode prog_3_method_8_code 18 = .ok (.imul, 1) := by decide +kernel
theorem d28_19 : decode prog_3_method_8_code 19 = .ok (.invokevirtual 53, 3) := by decide +kernel
theorem d28_22 : decode prog_3_method_8_code 22 = .ok (.iload_n 2, 1) := by decide +kernel
theorem d28_23 : decode prog_3_method_8_code 23 = .ok (.iand, 1) := by decide +kernel
theorem d28_24 : decode prog_3_method_8_code 24 = .ok (.istore_n 3, 1) := by decide +kernel
theorem d28_25 : decode prog_3_method_8_code 25 = .ok (.aload_n 0, 1) := by decide +kernel
theorem d28_26 : decode prog_3_method_8_code 26 = .ok (.getfield 28, 3) := by decide +kernel
theorem d28_29 : decode prog_3_method_8_code 29 = .ok (.iload_n 3, 1) := by decide +kernel
theorem d28_30 : decode prog_3_method_8_code 30 = .ok (.iaload, 1) := by decide +kernel
theorem d28_31 : decode prog_3_method_8_code 31 = .ok (.iload_n 1, 1) := by decide +kernel
theorem d28_32 : decode prog_3_method_8_code 32 = .ok (.if_icmp .eq 12, 3) := by decide +kernel
theorem d28_35 : decode prog_3_method_8_code 35 = .ok (.iload_n 3, 1) := by decide +kernel
theorem d28_36 : decode prog_3_method_8_code 36 = .ok (.iconst 1, 1) := by decide +kernel
theorem d28_37 : decode prog_3_method_8_code 37 = .ok (.iadd, 1) := by decide +kernel
theorem d28_38 : decode prog_3_method_8_code 38 = .ok (.iload_n 2, 1) := by decide +kernel
theorem d28_39 : decode prog_3_method_8_code 39 = .ok (.iand, 1) := by decide +kernel
theorem d28_40 : decode prog_3_method_8_code 40 = .ok (.istore_n 3, 1) := by decide +kernel
theorem d28_41 : decode prog_3_method_8_code 41 = .ok (.goto (-16), 3) := by decide +kernel
theorem d28_44 : decode prog_3_method_8_code 44 = .ok (.aload_n 0, 1) := by decide +kernel
theorem d28_45 : decode prog_3_method_8_code 45 = .ok (.getfield 28, 3) := by decide +kernel
theorem d28_48 : decode prog_3_method_8_code 48 = .ok (.iload_n 3, 1) := by decide +kernel
theorem d28_49 : decode prog_3_method_8_code 49 = .ok (.bipush (-2), 2) := by decide +kernel
theorem d28_51 : decode prog_3_method_8_code 51 = .ok (.iastore, 1) := by decide +kernel
theorem d28_52 : decode prog_3_method_8_code 52 = .ok (.aload_n 0, 1) := by decide +kernel
theorem d28_53 : decode prog_3_method_8_code 53 = .ok (.getfield 24, 3) := by decide +kernel
theorem d28_56 : decode prog_3_method_8_code 56 = .ok (.iload_n 1, 1) := by decide +kernel
theorem d28_57 : decode prog_3_method_8_code 57 = .ok (.iconst 1, 1) := by decide +kernel
theorem d28_58 : decode prog_3_method_8_code 58 = .ok (.bastore, 1) := by decide +kernel
theorem d28_59 : decode prog_3_method_8_code 59 = .ok (.aload_n 0, 1) := by decide +kernel
theorem d28_60 : decode prog_3_method_8_code 60 = .ok (.dup, 1) := by decide +kernel
theorem d28_61 : decode prog_3_method_8_code 61 = .ok (.getfield 46, 3) := by decide +kernel
theorem d28_64 : decode prog_3_method_8_code 64 = .ok (.iconst 1, 1) := by decide +kernel
theorem d28_65 : decode prog_3_method_8_code 65 = .ok (.isub, 1) := by decide +kernel
theorem d28_66 : decode prog_3_method_8_code 66 = .ok (.putfield 46, 3) := by decide +kernel
theorem d28_69 : decode prog_3_method_8_code 69 = .ok (.aload_n 0, 1) := by decide +kernel
theorem d28_70 : decode prog_3_method_8_code 70 = .ok (.getfield 17, 3) := by decide +kernel
theorem d28_73 : decode prog_3_method_8_code 73 = .ok (.iconst 1, 1) := by decide +kernel
theorem d28_74 : decode prog_3_method_8_code 74 = .ok (.if_icmp .ne 14, 3) := by decide +kernel
theorem d28_77 : decode prog_3_method_8_code 77 = .ok (.aload_n 0, 1) := by decide +kernel
theorem d28_78 : decode prog_3_method_8_code 78 = .ok (.aload_n 0, 1) := by decide +kernel
theorem d28_79 : decode prog_3_method_8_code 79 = .ok (.iload_n 1, 1) := by decide +kernel
theorem d28_80 : decode prog_3_method_8_code 80 = .ok (.iconst 0, 1) := by decide +kernel
theorem d28_81 : decode prog_3_method_8_code 81 = .ok (.invokevirtual 87, 3) := by decide +kernel
theorem d28_84 : decode prog_3_method_8_code 84 = .ok (.iconst 0, 1) := by decide +kernel
theorem d28_85 : decode prog_3_method_8_code 85 = .ok (.invokevirtual 73, 3) := by decide +kernel
theorem d28_88 : decode prog_3_method_8_code 88 = .ok (.iconst 0, 1) := by decide +kernel
theorem d28_89 : decode prog_3_method_8_code 89 = .ok (.istore 4, 2) := by decide +kernel
theorem d28_91 : decode prog_3_method_8_code 91 = .ok (.iload 4, 2) := by decide +kernel
theorem d28_93 : decode prog_3_method_8_code 93 = .ok (.aload_n 0, 1) := by decide +kernel
theorem d28_94 : decode prog_3_method_8_code 94 = .ok (.getfield 39, 3) := by decide +kernel
theorem d28_97 : decode prog_3_method_8_code 97 = .ok (.arraylength, 1) := by decide +kernel
theorem d28_98 : decode prog_3_method_8_code 98 = .ok (.if_icmp .ge 36, 3) := by decide +kernel
theorem d28_101 : decode prog_3_method_8_code 101 = .ok (.aload_n 0, 1) := by decide +kernel
theorem d28_102 : decode prog_3_method_8_code 102 = .ok (.getfield 39, 3) := by decide +kernel
theorem d28_105 : decode prog_3_method_8_code 105 = .ok (.iload 4, 2) := by decide +kernel
theorem d28_107 : decode prog_3_method_8_code 107 = .ok (.aaload, 1) := by decide +kernel
theorem d28_108 : decode prog_3_method_8_code 108 = .ok (.ifnull 20, 3) := by decide +kernel
theorem d28_111 : decode prog_3_method_8_code 111 = .ok (.aload_n 0, 1) := by decide +kernel
theorem d28_112 : decode prog_3_method_8_code 112 = .ok (.getfield 39, 3) := by decide +kernel
theorem d28_115 : decode prog_3_method_8_code 115 = .ok (.iload 4, 2) := by decide +kernel
theorem d28_117 : decode prog_3_method_8_code 117 = .ok (.aaload, 1) := by decide +kernel
theorem d28_118 : decode prog_3_method_8_code 118 = .ok (.aload_n 0, 1) := by decide +kernel
theorem d28_119 : decode prog_3_method_8_code 119 = .ok (.iload_n 1, 1) := by decide +kernel
theorem d28_120 : decode prog_3_method_8_code 120 = .ok (.iload 4, 2) := by decide +kernel
theorem d28_122 : decode prog_3_method_8_code 122 = .ok (.invokevirtual 87, 3) := by decide +kernel
theorem d28_125 : decode prog_3_method_8_code 125 = .ok (.invokevirtual 91, 3) := by decide +kernel
theorem d28_128 : decode prog_3_method_8_code 128 = .ok (.iinc 4 1, 3) := by decide +kernel
theorem d28_131 : decode prog_3_method_8_code 131 = .ok (.goto (-40), 3) := by decide +kernel
theorem d28_134 : decode prog_3_method_8_code 134 = .ok (.return_, 1) := by decide +kernel
set_option maxRecDepth 65536 in
set_option maxHeartbeats 40000000 in
theorem lp_rm25 (l : Launch) (Z : State) (a0 : Array Value) (hw : ∀ d ∈ tables_1, d.before a0 Z = true) (n0 : Nat) (h0 : Heap) (K : Cx) (ok : Ok K Z n0 "com/example/hornconv/hornconv/FactTable" prog_3_method_8_code 5 none "remove") (t un me ag de sl po : Addr) (n : Nat) (rw lw us : Int32) (A_t : FO Z h0 t un me ag de sl po (Int32.ofNat n) rw lw us) (f : Nat → Int32) (A_sl : PA .int Z h0 sl (sv 16 f)) (R : Room) (P : Option Value → Heap → Prop) (z1 : Int32) (s : Nat) (hk : ∀ s', s' < 16 → f s' = z1 → W K l R n0 P h0 0 0 44 #[.val (.ref t), .val (.int z1), .val (.int (15 : Int32)), .val (.int (Int32.ofNat s')), .unset] []) :
    ∀ (cc j : Nat), f ((s + (j + cc)) % 16) = z1 → W K l R n0 P h0 0 0 25 #[.val (.ref t), .val (.int z1), .val (.int (15 : Int32)), .val (.int (Int32.ofNat ((s + j) % 16))), .unset] [] := by
  intro cc
  induction cc with
  | zero =>
    intro j hc
    show W K l _ n0 _ h0 0 0 25 #[.val (.ref t), .val (.int z1), .val (.int (15 : Int32)), .val (.int (Int32.ofNat ((s + j) % 16))), .unset] []
    refine w_aloadN ok d28_25 rfl rfl ?_
    refine w_getfield ok (v := (.ref sl)) (host := "") (f := ("com/example/hornconv/hornconv/FactTable", "slots", "[I", (.array .int))) 5 d28_26 (Or.inl (hw _ (List.mem_of_getElem? (i := 27) rfl))) Via.refl A_t rfl rfl ?_
    refine w_iloadN ok d28_29 rfl ?_
    refine w_iaload ok (v := (.int (f ((s + j) % 16)))) d28_30 A_sl (own_ix0 (by omega)) (svg (j := ((s + j) % 16)) (by omega) (by omega)) ?_
    refine w_iloadN ok d28_31 rfl ?_
    refine w_icmp_eq ok d28_32 (pc' := 44) (by decide) (fun hc1 => ?_) (fun hc1 => False.elim (by exact hc1 hc))
    exact hk _ (by omega) hc
  | succ cc ih =>
    intro j hc
    show W K l _ n0 _ h0 0 0 25 #[.val (.ref t), .val (.int z1), .val (.int (15 : Int32)), .val (.int (Int32.ofNat ((s + j) % 16))), .unset] []
    refine w_aloadN ok d28_25 rfl rfl ?_
    refine w_getfield ok (v := (.ref sl)) (host := "") (f := ("com/example/hornconv/hornconv/FactTable", "slots", "[I", (.array .int))) 5 d28_26 (Or.inl (hw _ (List.mem_of_getElem? (i := 27) rfl))) Via.refl A_t rfl rfl ?_
    refine w_iloadN ok d28_29 rfl ?_
    refine w_iaload ok (v := (.int (f ((s + j) % 16)))) d28_30 A_sl (own_ix0 (by omega)) (svg (j := ((s + j) % 16)) (by omega) (by omega)) ?_
    refine w_iloadN ok d28_31 rfl ?_
    refine w_icmp_eq ok d28_32 (pc' := 44) (by decide) (fun hc3 => ?_) (fun hc3 => ?_)
    · skip
      exact hk _ (by omega) hc3
    · skip
      refine w_iloadN ok d28_35 rfl ?_
      refine w_iconst ok d28_36 (v := (1 : Int32)) rfl ?_
      refine w_iadd ok d28_37 ?_
      refine w_iloadN ok d28_38 rfl ?_
      refine w_iand ok d28_39 ?_
      refine w_istoreN ok d28_40 (L' := #[.val (.ref t), .val (.int z1), .val (.int (15 : Int32)), .val (.int (((Int32.ofNat ((s + j) % 16)) + (1 : Int32)) &&& (15 : Int32))), .unset]) rfl ?_
      refine w_goto ok d28_41 (pc' := 25) (by decide) ?_
      show W K l _ n0 _ h0 0 0 25 #[.val (.ref t), .val (.int z1), .val (.int (15 : Int32)), .val (.int (((Int32.ofNat ((s + j) % 16)) + (1 : Int32)) &&& (15 : Int32))), .unset] []
      rw [show (Int32.ofNat ((s + j) % 16) + 1) &&& 15 = Int32.ofNat ((s + (j + 1)) % 16) from own_nxt (Or.inr rfl) (s + j)]
      exact ih (j + 1) (by rw [show j + 1 + cc = j + (cc + 1) by omega]; exact hc)
set_option maxRecDepth 65536 in
set_option maxHeartbeats 40000000 in
theorem rm91b (l : Launch) (Z : State) (a0 : Array Value) (hw : ∀ d ∈ tables_1, d.before a0 Z = true) (n0 : Nat) (h0 : Heap) (K : Cx) (ok : Ok K Z n0 "com/example/hornconv/hornconv/FactTable" prog_3_method_8_code 5 none "remove") (B : Nat) (hB0 : n0 ≤ B) (hb : Heap) (t un me ag de sl po : Addr) (n p r : Nat) (x : Value) (D : List Addr) (mk : Bool) (c : Nat → Int32) (Lm : Nat) (A f uu dd : Nat → Int32) (μ : Nat → Int64) (lw us : Int32) (A_t : FO Z h0 t un me ag de sl po (Int32.ofNat n) (5) (lw) (us)) (A_un : PA .int Z h0 un (sv 1 uu)) (A_me : PA .long Z h0 me (lv Lm μ)) (A_ag : PA .int Z h0 ag (sv (8 * n) A)) (A_de : PA .boolean Z h0 de (sv (8) dd)) (A_sl : PA .int Z h0 sl (sv (16) f)) (A_po : PP Z h0 po (pm n) p x) (A_q : IXo Z h0 D mk x (5) c) (Sp : Sm B hb h0) (ne_t_un : t ≠ un) (ne_t_me : t ≠ me) (ne_t_ag : t ≠ ag) (ne_t_de : t ≠ de) (ne_t_sl : t ≠ sl) (ne_t_po : t ≠ po) (ne_un_me : un ≠ me) (ne_un_ag : un ≠ ag) (ne_un_de : un ≠ de) (ne_un_sl : un ≠ sl) (ne_un_po : un ≠ po) (ne_me_ag : me ≠ ag) (ne_me_de : me ≠ de) (ne_me_sl : me ≠ sl) (ne_me_po : me ≠ po) (ne_ag_de : ag ≠ de) (ne_ag_sl : ag ≠ sl) (ne_ag_po : ag ≠ po) (ne_de_sl : de ≠ sl) (ne_de_po : de ≠ po) (ne_sl_po : sl ≠ po) (nD_t : t ∉ D) (nD_un : un ∉ D) (nD_me : me ∉ D) (nD_ag : ag ∉ D) (nD_de : de ∉ D) (nD_sl : sl ∉ D) (nD_po : po ∉ D) (nB_t : B ≤ t) (nB_un : B ≤ un) (nB_me : B ≤ me) (nB_ag : B ≤ ag) (nB_de : B ≤ de) (nB_sl : B ≤ sl) (nB_po : B ≤ po) (hDB : ∀ a ∈ D, B ≤ a) (hn : 2 ≤ n ∧ n ≤ 3) (hp : p < n) (hRA : RA n p 5 c A Lm) (hLm : Lm ≤ 126) (d : Nat) (hd : d < 5) (z3 : Int32) :
    ∀ (cc i : Nat), i + cc = pm n → (mk = true → p < i) → W K l ({ frames := 3, cells := 0, slots := 0, locals := 42 } : Room) n0 (fun u h => u = none ∧ TB Z h B t n p 5 c Lm mk false ∧ Sm B hb h) h0 0 0 91 #[.val (.ref t), .val (.int (Int32.ofNat d)), .val (.int (15 : Int32)), .val (.int z3), .val (.int (Int32.ofNat i))] [] := by
  intro cc
  induction cc with
  | zero =>
    intro i hi hx
    have hpm := own_pm (n := n) (by omega)
    show W K l _ n0 _ h0 0 0 91 #[.val (.ref t), .val (.int (Int32.ofNat d)), .val (.int (15 : Int32)), .val (.int z3), .val (.int (Int32.ofNat i))] []
    refine w_iload ok d28_91 rfl ?_
    refine w_aloadN ok d28_93 rfl rfl ?_
    refine w_getfield ok (v := (.ref po)) (host := "") (f := ("com/example/hornconv/hornconv/FactTable", "positions", "[Lcom/example/hornconv/hornconv/FactTable$PositionIndex;", (.array (.object "com/example/hornconv/hornconv/FactTable$PositionIndex")))) 6 d28_94 (Or.inl (hw _ (List.mem_of_getElem? (i := 35) rfl))) Via.refl A_t rfl rfl ?_
    refine w_arraylength ok (z := Int32.ofNat (pm n)) d28_97 A_po.1 (pv_z (by omega)) (own_ix0 (by omega)) ?_
    show W K l _ n0 _ h0 0 0 98 #[.val (.ref t), .val (.int (Int32.ofNat d)), .val (.int (15 : Int32)), .val (.int z3), .val (.int (Int32.ofNat i))] [(.int (Int32.ofNat (pm n))), (.int (Int32.ofNat i))]
    refine w_icmp_ge ok d28_98 (pc' := 134) (by decide) (fun hc1 => ?_) (fun hc1 => False.elim (by rw [own_lt (by omega) (by omega)] at hc1; omega))
    refine w_ret ok d28_134 (by decide) (by decide) ?_
    exact ⟨rfl, ⟨un, me, ag, de, sl, po, x, D, A, f, uu, μ, lw, us, dd, A_t, A_un, A_me, A_ag, A_de, A_sl, A_po, A_q, ⟨ne_t_un, ne_t_me, ne_t_ag, ne_t_de, ne_t_sl, ne_t_po, ne_un_me, ne_un_ag, ne_un_de, ne_un_sl, ne_un_po, ne_me_ag, ne_me_de, ne_me_sl, ne_me_po, ne_ag_de, ne_ag_sl, ne_ag_po, ne_de_sl, ne_de_po, ne_sl_po⟩, ⟨nD_t, nD_un, nD_me, nD_ag, nD_de, nD_sl, nD_po⟩, ⟨nB_t, nB_un, nB_me, nB_ag, nB_de, nB_sl, nB_po⟩, hDB, hRA, hLm, (fun e => nomatch e)⟩, Sp⟩
  | succ cc ih =>
    intro i hi hx
    have hpm := own_pm (n := n) (by omega)
    show W K l _ n0 _ h0 0 0 91 #[.val (.ref t), .val (.int (Int32.ofNat d)), .val (.int (15 : Int32)), .val (.int z3), .val (.int (Int32.ofNat i))] []
    refine w_iload ok d28_91 rfl ?_
    refine w_aloadN ok d28_93 rfl rfl ?_
    refine w_getfield ok (v := (.ref po)) (host := "") (f := ("com/example/hornconv/hornconv/FactTable", "positions", "[Lcom/example/hornconv/hornconv/FactTable$PositionIndex;", (.array (.object "com/example/hornconv/hornconv/FactTable$PositionIndex")))) 6 d28_94 (Or.inl (hw _ (List.mem_of_getElem? (i := 35) rfl))) Via.refl A_t rfl rfl ?_
    refine w_arraylength ok (z := Int32.ofNat (pm n)) d28_97 A_po.1 (pv_z (by omega)) (own_ix0 (by omega)) ?_
    show W K l _ n0 _ h0 0 0 98 #[.val (.ref t), .val (.int (Int32.ofNat d)), .val (.int (15 : Int32)), .val (.int z3), .val (.int (Int32.ofNat i))] [(.int (Int32.ofNat (pm n))), (.int (Int32.ofNat i))]
    refine w_icmp_ge ok d28_98 (pc' := 134) (by decide) (fun hc3 => False.elim (by exact hc3 ((own_lt (by omega) (by omega)).mpr (by omega)))) (fun hc3 => ?_)
    refine w_aloadN ok d28_101 rfl rfl ?_
    refine w_getfield ok (v := (.ref po)) (host := "") (f := ("com/example/hornconv/hornconv/FactTable", "positions", "[Lcom/example/hornconv/hornconv/FactTable$PositionIndex;", (.array (.object "com/example/hornconv/hornconv/FactTable$PositionIndex")))) 6 d28_102 (Or.inl (hw _ (List.mem_of_getElem? (i := 35) rfl))) Via.refl A_t rfl rfl ?_
    refine w_iload ok d28_105 rfl ?_
    refine w_aaload ok (v := .null) d28_107 A_po.1 rfl (own_ix0 (by omega)) (pvn (by omega) (by omega) (fun e => by cases mk with | false => exact A_q.null | true => exact absurd (hx rfl) (by omega))) ?_
    refine w_ifnullY ok d28_108 (pc' := 128) (by decide) ?_
    show W K l _ n0 _ h0 0 0 128 #[.val (.ref t), .val (.int (Int32.ofNat d)), .val (.int (15 : Int32)), .val (.int z3), .val (.int (Int32.ofNat i))] []
    refine w_iinc ok d28_128 (u := (1 : Int32)) rfl rfl (L' := #[.val (.ref t), .val (.int (Int32.ofNat d)), .val (.int (15 : Int32)), .val (.int z3), .val (.int ((Int32.ofNat i) + (1 : Int32)))]) rfl ?_
    show W K l _ n0 _ h0 0 0 131 #[.val (.ref t), .val (.int (Int32.ofNat d)), .val (.int (15 : Int32)), .val (.int z3), .val (.int ((Int32.ofNat i) + (1 : Int32)))] []
    refine w_goto ok d28_131 (pc' := 91) (by decide) ?_
    show W K l _ n0 _ h0 0 0 91 #[.val (.ref t), .val (.int (Int32.ofNat d)), .val (.int (15 : Int32)), .val (.int z3), .val (.int ((Int32.ofNat i) + (1 : Int32)))] []
    rw [own_inc]
    exact ih (i + 1) (by omega) (fun e => Nat.lt_succ_of_lt (hx e))
set_option maxRecDepth 65536 in
set_option maxHeartbeats 40000000 in
theorem rm91a (l : Launch) (Z : State) (a0 : Array Value) (hw : ∀ d ∈ tables_1, d.before a0 Z = true) (n0 : Nat) (h0 : Heap) (K : Cx) (ok : Ok K Z n0 "com/example/hornconv/hornconv/FactTable" prog_3_method_8_code 5 none "remove") (B : Nat) (hB0 : n0 ≤ B) (hb : Heap) (t un me ag de sl po : Addr) (n p r : Nat) (x : Value) (D : List Addr) (mk : Bool) (c : Nat → Int32) (Lm : Nat) (A f uu dd : Nat → Int32) (μ : Nat → Int64) (lw us : Int32) (A_t : FO Z h0 t un me ag de sl po (Int32.ofNat n) (5) (lw) (us)) (A_un : PA .int Z h0 un (sv 1 uu)) (A_me : PA .long Z h0 me (lv Lm μ)) (A_ag : PA .int Z h0 ag (sv (8 * n) A)) (A_de : PA .boolean Z h0 de (sv (8) dd)) (A_sl : PA .int Z h0 sl (sv (16) f)) (A_po : PP Z h0 po (pm n) p x) (A_q : IXo Z h0 D mk x (5) c) (Sp : Sm B hb h0) (ne_t_un : t ≠ un) (ne_t_me : t ≠ me) (ne_t_ag : t ≠ ag) (ne_t_de : t ≠ de) (ne_t_sl : t ≠ sl) (ne_t_po : t ≠ po) (ne_un_me : un ≠ me) (ne_un_ag : un ≠ ag) (ne_un_de : un ≠ de) (ne_un_sl : un ≠ sl) (ne_un_po : un ≠ po) (ne_me_ag : me ≠ ag) (ne_me_de : me ≠ de) (ne_me_sl : me ≠ sl) (ne_me_po : me ≠ po) (ne_ag_de : ag ≠ de) (ne_ag_sl : ag ≠ sl) (ne_ag_po : ag ≠ po) (ne_de_sl : de ≠ sl) (ne_de_po : de ≠ po) (ne_sl_po : sl ≠ po) (nD_t : t ∉ D) (nD_un : un ∉ D) (nD_me : me ∉ D) (nD_ag : ag ∉ D) (nD_de : de ∉ D) (nD_sl : sl ∉ D) (nD_po : po ∉ D) (nB_t : B ≤ t) (nB_un : B ≤ un) (nB_me : B ≤ me) (nB_ag : B ≤ ag) (nB_de : B ≤ de) (nB_sl : B ≤ sl) (nB_po : B ≤ po) (hDB : ∀ a ∈ D, B ≤ a) (hn : 2 ≤ n ∧ n ≤ 3) (hp : p < n) (hRA : RA n p 5 c A Lm) (hLm : Lm ≤ 126) (d : Nat) (hd : d < 5) (z3 : Int32) (hmk : mk = true) :
    ∀ (cc i : Nat), i + cc = p → W K l ({ frames := 3, cells := 0, slots := 0, locals := 42 } : Room) n0 (fun u h => u = none ∧ TB Z h B t n p 5 c Lm mk false ∧ Sm B hb h) h0 0 0 91 #[.val (.ref t), .val (.int (Int32.ofNat d)), .val (.int (15 : Int32)), .val (.int z3), .val (.int (Int32.ofNat i))] [] := by
  intro cc
  induction cc with
  | zero =>
    intro i hi
    obtain rfl : p = i := by omega
    subst hmk
    obtain ⟨q, rfl, X_q⟩ := A_q.made
    replace A_q := X_q
    have hpm : pm n = n := pm_ge hn.1
    show W K l _ n0 _ h0 0 0 91 #[.val (.ref t), .val (.int (Int32.ofNat d)), .val (.int (15 : Int32)), .val (.int z3), .val (.int (Int32.ofNat p))] []
    refine w_iload ok d28_91 rfl ?_
    refine w_aloadN ok d28_93 rfl rfl ?_
    refine w_getfield ok (v := (.ref po)) (host := "") (f := ("com/example/hornconv/hornconv/FactTable", "positions", "[Lcom/example/hornconv/hornconv/FactTable$PositionIndex;", (.array (.object "com/example/hornconv/hornconv/FactTable$PositionIndex")))) 6 d28_94 (Or.inl (hw _ (List.mem_of_getElem? (i := 35) rfl))) Via.refl A_t rfl rfl ?_
    refine w_arraylength ok (z := Int32.ofNat (pm n)) d28_97 A_po.1 (pv_z (by omega)) (own_ix0 (by omega)) ?_
    show W K l _ n0 _ h0 0 0 98 #[.val (.ref t), .val (.int (Int32.ofNat d)), .val (.int (15 : Int32)), .val (.int z3), .val (.int (Int32.ofNat p))] [(.int (Int32.ofNat (pm n))), (.int (Int32.ofNat p))]
    refine w_icmp_ge ok d28_98 (pc' := 134) (by decide) (fun hc1 => False.elim (by exact hc1 ((own_lt (by omega) (by omega)).mpr (by omega)))) (fun hc1 => ?_)
    refine w_aloadN ok d28_101 rfl rfl ?_
    refine w_getfield ok (v := (.ref po)) (host := "") (f := ("com/example/hornconv/hornconv/FactTable", "positions", "[Lcom/example/hornconv/hornconv/FactTable$PositionIndex;", (.array (.object "com/example/hornconv/hornconv/FactTable$PositionIndex")))) 6 d28_102 (Or.inl (hw _ (List.mem_of_getElem? (i := 35) rfl))) Via.refl A_t rfl rfl ?_
    refine w_iload ok d28_105 rfl ?_
    refine w_aaload ok (v := (.ref q)) d28_107 A_po.1 rfl (own_ix0 (by omega)) (pvp (by omega) (by omega)) ?_
    refine w_ifnullN ok d28_108 ?_
    show W K l _ n0 _ h0 0 0 111 #[.val (.ref t), .val (.int (Int32.ofNat d)), .val (.int (15 : Int32)), .val (.int z3), .val (.int (Int32.ofNat p))] []
    refine w_aloadN ok d28_111 rfl rfl ?_
    refine w_getfield ok (v := (.ref po)) (host := "") (f := ("com/example/hornconv/hornconv/FactTable", "positions", "[Lcom/example/hornconv/hornconv/FactTable$PositionIndex;", (.array (.object "com/example/hornconv/hornconv/FactTable$PositionIndex")))) 6 d28_112 (Or.inl (hw _ (List.mem_of_getElem? (i := 35) rfl))) Via.refl A_t rfl rfl ?_
    refine w_iload ok d28_115 rfl ?_
    refine w_aaload ok (v := (.ref q)) d28_117 A_po.1 rfl (own_ix0 (by omega)) (pvp (by omega) (by omega)) ?_
    refine w_aloadN ok d28_118 rfl rfl ?_
    refine w_iloadN ok d28_119 rfl ?_
    refine w_iload ok d28_120 rfl ?_
    refine w_callV ok (y := mn_16) (a := t) (argsL := [(.int (Int32.ofNat d)), (.int (Int32.ofNat p))]) (rest := [(.ref q)]) d28_122 (hw _ (List.mem_of_getElem? (i := 104) rfl)) (hw _ (List.mem_of_getElem? (i := 105) rfl)) (hw _ (List.mem_of_getElem? (i := 107) rfl)) (hw _ (List.mem_of_getElem? (i := 106) rfl)) (hw _ (List.mem_of_getElem? (i := 8) rfl)) (hw _ (List.mem_of_getElem? (i := 108) rfl)) (by decide) A_t.1 pd_28II29I rfl rfl (by decide) (Nat.le_of_ble_eq_true rfl) (by decide) (by decide) (fun z0 => rm_arg l Z a0 hw [] n0 h0 z0 t un me ag de sl po n (5 : Int32) lw us A_t (8 * n) d p A A_ag ⟨by have := own_mn (n := n) hd; omega, by omega⟩) (fun v2 h3 qv2 => ?_)
    obtain ⟨rfl, rfl⟩ := qv2
    rw [hRA.at hn.1 hp hd]
    show W K l _ n0 _ h0 0 0 125 #[.val (.ref t), .val (.int (Int32.ofNat d)), .val (.int (15 : Int32)), .val (.int z3), .val (.int (Int32.ofNat p))] [(.int (c d)), (.ref q)]
    refine w_callV ok (y := mn_29) (a := q) (argsL := [(.int (c d))]) (rest := []) d28_125 (hw _ (List.mem_of_getElem? (i := 163) rfl)) (hw _ (List.mem_of_getElem? (i := 164) rfl)) (hw _ (List.mem_of_getElem? (i := 166) rfl)) (hw _ (List.mem_of_getElem? (i := 165) rfl)) (hw _ (List.mem_of_getElem? (i := 90) rfl)) (hw _ (List.mem_of_getElem? (i := 167) rfl)) (by decide) A_q.exa pd_28I29V rfl rfl (by decide) (Nat.le_of_ble_eq_true rfl) (by decide) (by decide) (fun z0 => rm_prem l Z a0 hw [] n0 h0 z0 D q 5 c A_q (fun a m => Nat.le_trans hB0 (hDB a m)) (by omega) (c d)) (fun v4 h5 qv4 => ?_)
    obtain ⟨rfl, K1, X1⟩ := qv4
    replace A_t := A_t.keep K1 nD_t
    replace A_un := A_un.keep K1 nD_un
    replace A_me := A_me.keep K1 nD_me
    replace A_ag := A_ag.keep K1 nD_ag
    replace A_de := A_de.keep K1 nD_de
    replace A_sl := A_sl.keep K1 nD_sl
    replace A_po := A_po.keep K1 nD_po
    replace Sp := Sp.keep K1 hDB
    replace A_q := X1
    show W K l _ n0 _ h5 0 0 128 #[.val (.ref t), .val (.int (Int32.ofNat d)), .val (.int (15 : Int32)), .val (.int z3), .val (.int (Int32.ofNat p))] []
    refine w_iinc ok d28_128 (u := (1 : Int32)) rfl rfl (L' := #[.val (.ref t), .val (.int (Int32.ofNat d)), .val (.int (15 : Int32)), .val (.int z3), .val (.int ((Int32.ofNat p) + (1 : Int32)))]) rfl ?_
    show W K l _ n0 _ h5 0 0 131 #[.val (.ref t), .val (.int (Int32.ofNat d)), .val (.int (15 : Int32)), .val (.int z3), .val (.int ((Int32.ofNat p) + (1 : Int32)))] []
    refine w_goto ok d28_131 (pc' := 91) (by decide) ?_
    show W K l _ n0 _ h5 0 0 91 #[.val (.ref t), .val (.int (Int32.ofNat d)), .val (.int (15 : Int32)), .val (.int z3), .val (.int ((Int32.ofNat p) + (1 : Int32)))] []
    rw [own_inc]
    exact rm91b l Z a0 hw n0 _ K ok B hB0 hb t un me ag de sl po n p r (.ref q) D true c Lm A f uu dd μ lw us A_t A_un A_me A_ag A_de A_sl A_po (Or.inr ⟨rfl, q, rfl, A_q⟩) Sp ne_t_un ne_t_me ne_t_ag ne_t_de ne_t_sl ne_t_po ne_un_me ne_un_ag ne_un_de ne_un_sl ne_un_po ne_me_ag ne_me_de ne_me_sl ne_me_po ne_ag_de ne_ag_sl ne_ag_po ne_de_sl ne_de_po ne_sl_po nD_t nD_un nD_me nD_ag nD_de nD_sl nD_po nB_t nB_un nB_me nB_ag nB_de nB_sl nB_po hDB hn hp hRA hLm d hd z3 (pm n - (p + 1)) (p + 1) (by omega) (fun _ => by omega)
  | succ cc ih =>
    intro i hi
    subst hmk
    obtain ⟨q, rfl, X_q⟩ := A_q.made
    replace A_q := X_q
    have hpm : pm n = n := pm_ge hn.1
    show W K l _ n0 _ h0 0 0 91 #[.val (.ref t), .val (.int (Int32.ofNat d)), .val (.int (15 : Int32)), .val (.int z3), .val (.int (Int32.ofNat i))] []
    refine w_iload ok d28_91 rfl ?_
    refine w_aloadN ok d28_93 rfl rfl ?_
    refine w_getfield ok (v := (.ref po)) (host := "") (f := ("com/example/hornconv/hornconv/FactTable", "positions", "[Lcom/example/hornconv/hornconv/FactTable$PositionIndex;", (.array (.object "com/example/hornconv/hornconv/FactTable$PositionIndex")))) 6 d28_94 (Or.inl (hw _ (List.mem_of_getElem? (i := 35) rfl))) Via.refl A_t rfl rfl ?_
    refine w_arraylength ok (z := Int32.ofNat (pm n)) d28_97 A_po.1 (pv_z (by omega)) (own_ix0 (by omega)) ?_
    show W K l _ n0 _ h0 0 0 98 #[.val (.ref t), .val (.int (Int32.ofNat d)), .val (.int (15 : Int32)), .val (.int z3), .val (.int (Int32.ofNat i))] [(.int (Int32.ofNat (pm n))), (.int (Int32.ofNat i))]
    refine w_icmp_ge ok d28_98 (pc' := 134) (by decide) (fun hc7 => False.elim (by exact hc7 ((own_lt (by omega) (by omega)).mpr (by omega)))) (fun hc7 => ?_)
    refine w_aloadN ok d28_101 rfl rfl ?_
    refine w_getfield ok (v := (.ref po)) (host := "") (f := ("com/example/hornconv/hornconv/FactTable", "positions", "[Lcom/example/hornconv/hornconv/FactTable$PositionIndex;", (.array (.object "com/example/hornconv/hornconv/FactTable$PositionIndex")))) 6 d28_102 (Or.inl (hw _ (List.mem_of_getElem? (i := 35) rfl))) Via.refl A_t rfl rfl ?_
    refine w_iload ok d28_105 rfl ?_
    refine w_aaload ok (v := .null) d28_107 A_po.1 rfl (own_ix0 (by omega)) (pvn (by omega) (by omega) (fun e => absurd e (by omega))) ?_
    refine w_ifnullY ok d28_108 (pc' := 128) (by decide) ?_
    show W K l _ n0 _ h0 0 0 128 #[.val (.ref t), .val (.int (Int32.ofNat d)), .val (.int (15 : Int32)), .val (.int z3), .val (.int (Int32.ofNat i))] []
    refine w_iinc ok d28_128 (u := (1 : Int32)) rfl rfl (L' := #[.val (.ref t), .val (.int (Int32.ofNat d)), .val (.int (15 : Int32)), .val (.int z3), .val (.int ((Int32.ofNat i) + (1 : Int32)))]) rfl ?_
    show W K l _ n0 _ h0 0 0 131 #[.val (.ref t), .val (.int (Int32.ofNat d)), .val (.int (15 : Int32)), .val (.int z3), .val (.int ((Int32.ofNat i) + (1 : Int32)))] []
    refine w_goto ok d28_131 (pc' := 91) (by decide) ?_
    show W K l _ n0 _ h0 0 0 91 #[.val (.ref t), .val (.int (Int32.ofNat d)), .val (.int (15 : Int32)), .val (.int z3), .val (.int ((Int32.ofNat i) + (1 : Int32)))] []
    rw [own_inc]
    exact ih (i + 1) (by omega)
abbrev mn_28 : MethodName := ⟨"com/example/hornconv/hornconv/FactTable", "remove", "(I)V"⟩
set_option maxRecDepth 65536 in
set_option maxHeartbeats 40000000 in
theorem rm_remove (l : Launch) (Z : State) (a0 : Array Value) (hw : ∀ d ∈ tables_1, d.before a0 Z = true) (ws : List Jvm.Cond) (n0 : Nat) (h0 : Heap) (Z0 : Old Z n0 h0) (B : Nat) (hB0 : n0 ≤ B) (hBs : B ≤ h0.size) (t : Addr) (n p : Nat) (c : Nat → Int32) (Lm : Nat) (mk : Bool) (T : TB Z h0 B t n p 5 c Lm mk true) (hn : 2 ≤ n ∧ n ≤ 3) (hp : p < n) (d : Nat) (hd : d < 5)  :
    Met l Z n0 mn_28 prog_3_method_8_code 5 none ws ({ frames := 3, cells := 0, slots := 0, locals := 42 } : Room) #[(.ref t), (.int (Int32.ofNat d))] h0 (fun u h => u = none ∧ TB Z h B t n p 5 c Lm mk false ∧ Sm B h0 h) := by
  refine met_of Z0 (plainFor_of_name pn_com_example_hornconv_hornconv_FactTable) (Ls := #[.val (.ref t), .val (.int (Int32.ofNat d)), .unset, .unset, .unset]) (fun m => by first | (simp [entryFrame, mkF, argsToLocals, Value.category]; done) | rfl) ?_
  intro K ok
  obtain ⟨un, me, ag, de, sl, po, x, D, A, f, uu, μ, lw, us, dd, A_t, A_un, A_me, A_ag, A_de, A_sl, A_po, A_q, ⟨ne_t_un, ne_t_me, ne_t_ag, ne_t_de, ne_t_sl, ne_t_po, ne_un_me, ne_un_ag, ne_un_de, ne_un_sl, ne_un_po, ne_me_ag, ne_me_de, ne_me_sl, ne_me_po, ne_ag_de, ne_ag_sl, ne_ag_po, ne_de_sl, ne_de_po, ne_sl_po⟩, ⟨nD_t, nD_un, nD_me, nD_ag, nD_de, nD_sl, nD_po⟩, ⟨nB_t, nB_un, nB_me, nB_ag, nB_de, nB_sl, nB_po⟩, hDB, hRA, hLm, hal⟩ := T
  have ge_t := Nat.le_trans hB0 nB_t
  have ge_un := Nat.le_trans hB0 nB_un
  have ge_me := Nat.le_trans hB0 nB_me
  have ge_ag := Nat.le_trans hB0 nB_ag
  have ge_de := Nat.le_trans hB0 nB_de
  have ge_sl := Nat.le_trans hB0 nB_sl
  have ge_po := Nat.le_trans hB0 nB_po
  obtain ⟨rfl, rfl, rfl, hI⟩ := hal rfl
  have Sp : Sm B h0 h0 := Sm.refl hBs
  replace A_ag : PA .int Z h0 ag (sv (8 * n) A) := A_ag
  replace A_de : PA .boolean Z h0 de (sv 8 (fun _ => (0 : Int32))) := A_de
  replace A_sl : PA .int Z h0 sl (sv 16 f) := A_sl
  replace hI : IR 5 16 f := hI
  show W K l _ n0 _ h0 0 0 0 #[.val (.ref t), .val (.int (Int32.ofNat d)), .unset, .unset, .unset] []
  refine w_aloadN ok d28_0 rfl rfl ?_
  refine w_getfield ok (v := (.ref sl)) (host := "") (f := ("com/example/hornconv/hornconv/FactTable", "slots", "[I", (.array .int))) 5 d28_1 (Or.inl (hw _ (List.mem_of_getElem? (i := 27) rfl))) Via.refl A_t rfl rfl ?_
  refine w_arraylength ok (z := (16 : Int32)) d28_4 A_sl (sv_len 16 _) (by decide) ?_
  show W K l _ n0 _ h0 0 0 5 #[.val (.ref t), .val (.int (Int32.ofNat d)), .unset, .unset, .unset] [(.int (16 : Int32))]
  refine w_iconst ok d28_5 (v := (1 : Int32)) rfl ?_
  refine w_isub ok d28_6 ?_
  show W K l _ n0 _ h0 0 0 7 #[.val (.ref t), .val (.int (Int32.ofNat d)), .unset, .unset, .unset] [(.int (15 : Int32))]
  refine w_istoreN ok d28_7 (L' := #[.val (.ref t), .val (.int (Int32.ofNat d)), .val (.int (15 : Int32)), .unset, .unset]) rfl ?_
  refine w_aloadN ok d28_8 rfl rfl ?_
  refine w_aloadN ok d28_9 rfl rfl ?_
  refine w_getfield ok (v := (.ref ag)) (host := "") (f := ("com/example/hornconv/hornconv/FactTable", "arguments", "[I", (.array .int))) 3 d28_10 (Or.inl (hw _ (List.mem_of_getElem? (i := 22) rfl))) Via.refl A_t rfl rfl ?_
  refine w_iloadN ok d28_13 rfl ?_
  refine w_aloadN ok d28_14 rfl rfl ?_
  refine w_getfield ok (v := (.int (Int32.ofNat n))) (host := "") (f := ("com/example/hornconv/hornconv/FactTable", "arity", "I", .int)) 2 d28_15 (Or.inl (hw _ (List.mem_of_getElem? (i := 20) rfl))) Via.refl A_t rfl rfl ?_
  refine w_imul ok d28_18 ?_
  show W K l _ n0 _ h0 0 0 19 #[.val (.ref t), .val (.int (Int32.ofNat d)), .val (.int (15 : Int32)), .unset, .unset] [(.int ((Int32.ofNat d) * (Int32.ofNat n))), (.ref ag), (.ref t)]
  rw [own_mul]
  refine w_callP ok (y := mn_6) (a := t) (argsL := [(.ref ag), (.int (Int32.ofNat (d * n)))]) (rest := []) d28_19 (hw _ (List.mem_of_getElem? (i := 42) rfl)) (hw _ (List.mem_of_getElem? (i := 43) rfl)) (hw _ (List.mem_of_getElem? (i := 44) rfl)) (hw _ (List.mem_of_getElem? (i := 7) rfl)) (hw _ (List.mem_of_getElem? (i := 8) rfl)) (hw _ (List.mem_of_getElem? (i := 45) rfl)) (by decide) A_t.1 pd_285bII29I rfl rfl (by decide) (Nat.le_of_ble_eq_true rfl) (by decide) (by decide) (fun z0 => rm_hash l Z a0 hw [] n0 h0 z0 t un me ag de sl po n (5 : Int32) (Int32.ofNat 5) (Int32.ofNat 5) A_t (by omega) ag (8 * n) (d * n) A A_ag (by omega) (Nat.le_trans (own_mn (n := n) hd) (by omega))) (fun v2 h3 qv2 => ?_)
  obtain ⟨hz1, rfl, rfl⟩ := qv2
  show W K l _ n0 _ h0 0 0 22 #[.val (.ref t), .val (.int (Int32.ofNat d)), .val (.int (15 : Int32)), .unset, .unset] [(.int hz1)]
  refine w_iloadN ok d28_22 rfl ?_
  refine w_iand ok d28_23 ?_
  refine w_istoreN ok d28_24 (L' := #[.val (.ref t), .val (.int (Int32.ofNat d)), .val (.int (15 : Int32)), .val (.int (hz1 &&& (15 : Int32))), .unset]) rfl ?_
  show W K l _ n0 _ h0 0 0 25 #[.val (.ref t), .val (.int (Int32.ofNat d)), .val (.int (15 : Int32)), .val (.int (hz1 &&& (15 : Int32))), .unset] []
  obtain ⟨s, es, -⟩ := own_strt (Or.inr rfl : (16 : Nat) = 8 ∨ 16 = 16) hz1
  rw [show hz1 &&& (15 : Int32) = Int32.ofNat ((s + 0) % 16) from es]
  obtain ⟨j, hj, fj⟩ := hI.2.1 d hd
  obtain ⟨m, hm⟩ := own_cyc (Or.inr rfl : (16 : Nat) = 8 ∨ 16 = 16) s hj
  refine lp_rm25 l Z a0 hw n0 h0 K ok t un me ag de sl po n 5 _ _ A_t f A_sl _ _ _ s (fun s' h8 hf => ?_) m 0 (by rw [Nat.zero_add, hm]; exact fj)
  show W K l _ n0 _ h0 0 0 44 #[.val (.ref t), .val (.int (Int32.ofNat d)), .val (.int (15 : Int32)), .val (.int (Int32.ofNat s')), .unset] []
  refine w_aloadN ok d28_44 rfl rfl ?_
  refine w_getfield ok (v := (.ref sl)) (host := "") (f := ("com/example/hornconv/hornconv/FactTable", "slots", "[I", (.array .int))) 5 d28_45 (Or.inl (hw _ (List.mem_of_getElem? (i := 27) rfl))) Via.refl A_t rfl rfl ?_
  refine w_iloadN ok d28_48 rfl ?_
  refine w_bipush ok d28_49 (v := (-2 : Int32)) rfl ?_
  refine w_iastore ok d28_51 A_sl ge_sl (own_ix0 (by omega)) (svl (j := s') (by omega) (by omega)) (fun h4 W_h4 A1_h4 => ?_)
  replace A_t := A_t.other W_h4 ne_t_sl
  replace A_un := A_un.other W_h4 ne_un_sl
  replace A_me := A_me.other W_h4 ne_me_sl
  replace A_ag := A_ag.other W_h4 ne_ag_sl
  replace A_de := A_de.other W_h4 ne_de_sl
  replace A_po := A_po.other W_h4 (Ne.symm ne_sl_po)
  replace A_q := A_q.other W_h4 nD_sl
  replace Sp := Sp.other W_h4 nB_sl
  replace A_sl : PA .int Z h4 sl ((sv 16 f).set (Int32.ofNat s').toNatClampNeg (.int (-2 : Int32))) := A1_h4
  rw [own_ix (j := s') (by omega), sv_set] at A_sl
  refine w_aloadN ok d28_52 rfl rfl ?_
  refine w_getfield ok (v := (.ref de)) (host := "") (f := ("com/example/hornconv/hornconv/FactTable", "dead", "[Z", (.array .boolean))) 4 d28_53 (Or.inl (hw _ (List.mem_of_getElem? (i := 25) rfl))) Via.refl A_t rfl rfl ?_
  refine w_iloadN ok d28_56 rfl ?_
  refine w_iconst ok d28_57 (v := (1 : Int32)) rfl ?_
  refine w_zastore ok d28_58 A_de ge_de (own_ix0 (by omega)) (svl (j := d) (by omega) (by omega)) (fun h5 W_h5 A1_h5 => ?_)
  replace A_t := A_t.other W_h5 ne_t_de
  replace A_un := A_un.other W_h5 ne_un_de
  replace A_me := A_me.other W_h5 ne_me_de
  replace A_ag := A_ag.other W_h5 ne_ag_de
  replace A_sl := A_sl.other W_h5 (Ne.symm ne_de_sl)
  replace A_po := A_po.other W_h5 (Ne.symm ne_de_po)
  replace A_q := A_q.other W_h5 nD_de
  replace Sp := Sp.other W_h5 nB_de
  replace A_de : PA .boolean Z h5 de ((sv 8 (fun _ => (0 : Int32))).set (Int32.ofNat d).toNatClampNeg (.int (1 : Int32))) := A1_h5
  rw [own_ix (j := d) (by omega), sv_set] at A_de
  refine w_aloadN ok d28_59 rfl rfl ?_
  refine w_dup ok d28_60 rfl ?_
  refine w_getfield ok (v := (.int (Int32.ofNat 5))) (host := "") (f := ("com/example/hornconv/hornconv/FactTable", "live", "I", .int)) 8 d28_61 (Or.inl (hw _ (List.mem_of_getElem? (i := 57) rfl))) Via.refl A_t rfl rfl ?_
  refine w_iconst ok d28_64 (v := (1 : Int32)) rfl ?_
  refine w_isub ok d28_65 ?_
  refine w_putfield ok (host := "") (f := ("com/example/hornconv/hornconv/FactTable", "live", "I", .int)) 8 d28_66 (Or.inl (hw _ (List.mem_of_getElem? (i := 57) rfl))) Via.refl A_t (la_FactTable hw) rfl rfl (Or.inl (hw _ (List.mem_of_getElem? (i := 58) rfl))) (hw _ (List.mem_of_getElem? (i := 7) rfl)) rfl rfl ge_t (fun h6 W_h6 A1_h6 => ?_)
  replace A_un := A_un.other W_h6 (Ne.symm ne_t_un)
  replace A_me := A_me.other W_h6 (Ne.symm ne_t_me)
  replace A_ag := A_ag.other W_h6 (Ne.symm ne_t_ag)
  replace A_de := A_de.other W_h6 (Ne.symm ne_t_de)
  replace A_sl := A_sl.other W_h6 (Ne.symm ne_t_sl)
  replace A_po := A_po.other W_h6 (Ne.symm ne_t_po)
  replace A_q := A_q.other W_h6 nD_t
  replace Sp := Sp.other W_h6 nB_t
  replace A_t : Ob Z h6 t "com/example/hornconv/hornconv/FactTable" fl_FactTable [(.ref un), (.ref me), (.int (Int32.ofNat n)), (.ref ag), (.ref de), (.ref sl), (.ref po), (.int (5 : Int32)), (.int ((Int32.ofNat 5) - (1 : Int32))), (.int (Int32.ofNat 5))] := A1_h6
  refine w_aloadN ok d28_69 rfl rfl ?_
  refine w_getfield ok (v := (.int (Int32.ofNat n))) (host := "") (f := ("com/example/hornconv/hornconv/FactTable", "arity", "I", .int)) 2 d28_70 (Or.inl (hw _ (List.mem_of_getElem? (i := 20) rfl))) Via.refl A_t rfl rfl ?_
  refine w_iconst ok d28_73 (v := (1 : Int32)) rfl ?_
  refine w_icmp_ne ok d28_74 (pc' := 88) (by decide) (fun hc8 => ?_) (fun hc8 => False.elim (by exact own_ne1 hn.2 hn.1 hc8))
  refine w_iconst ok d28_88 (v := (0 : Int32)) rfl ?_
  refine w_istore ok d28_89 (L' := #[.val (.ref t), .val (.int (Int32.ofNat d)), .val (.int (15 : Int32)), .val (.int (Int32.ofNat s')), .val (.int (0 : Int32))]) rfl ?_
  show W K l _ n0 _ h6 0 0 91 #[.val (.ref t), .val (.int (Int32.ofNat d)), .val (.int (15 : Int32)), .val (.int (Int32.ofNat s')), .val (.int (0 : Int32))] []
  cases mk with
  | false => exact rm91b l Z a0 hw n0 _ K ok B hB0 h0 t un me ag de sl po n p 0 x D false c Lm A (upd f s' (-2 : Int32)) uu (upd (fun _ => (0 : Int32)) d (1 : Int32)) μ ((Int32.ofNat 5) - (1 : Int32)) (Int32.ofNat 5) A_t A_un A_me A_ag A_de A_sl A_po A_q Sp ne_t_un ne_t_me ne_t_ag ne_t_de ne_t_sl ne_t_po ne_un_me ne_un_ag ne_un_de ne_un_sl ne_un_po ne_me_ag ne_me_de ne_me_sl ne_me_po ne_ag_de ne_ag_sl ne_ag_po ne_de_sl ne_de_po ne_sl_po nD_t nD_un nD_me nD_ag nD_de nD_sl nD_po nB_t nB_un nB_me nB_ag nB_de nB_sl nB_po hDB hn hp hRA hLm d hd _ (pm n) 0 (by omega) (fun e => nomatch e)
  | true => exact rm91a l Z a0 hw n0 _ K ok B hB0 h0 t un me ag de sl po n p 0 x D true c Lm A (upd f s' (-2 : Int32)) uu (upd (fun _ => (0 : Int32)) d (1 : Int32)) μ ((Int32.ofNat 5) - (1 : Int32)) (Int32.ofNat 5) A_t A_un A_me A_ag A_de A_sl A_po A_q Sp ne_t_un ne_t_me ne_t_ag ne_t_de ne_t_sl ne_t_po ne_un_me ne_un_ag ne_un_de ne_un_sl ne_un_po ne_me_ag ne_me_de ne_me_sl ne_me_po ne_ag_de ne_ag_sl ne_ag_po ne_de_sl ne_de_po ne_sl_po nD_t nD_un nD_me nD_ag nD_de nD_sl nD_po nB_t nB_un nB_me nB_ag nB_de nB_sl nB_po hDB hn hp hRA hLm d hd _ rfl p 0 (by omega)
theorem END5 : True := trivial
theorem d5_0 : decode prog_3_method_7_code 0 = .ok (.aload_n 0, 1) := by decide +kernel
theorem d5_1 : decode prog_3_method_7_code 1 = .ok (.getfield 17, 3) := by decide +kernel
theorem d5_4 : decode prog_3_method_7_code 4 = .ok (.iconst 1, 1) := by decide +kernel
theorem d5_5 : decode prog_3_method_7_code 5 = .ok (.if_icmp .ne 15, 3) := by decide +kernel
theorem d5_8 : decode prog_3_method_7_code 8 = .ok (.aload_n 0, 1) := by decide +kernel
theorem d5_9 : decode prog_3_method_7_code 9 = .ok (.aload_n 1, 1) := by decide +kernel
theorem d5_10 : decode prog_3_method_7_code 10 = .ok (.iconst 0, 1) := by decide +kernel
theorem d5_11 : decode prog_3_method_7_code 11 = .ok (.iaload, 1) := by decide +kernel
theorem d5_12 : decode prog_3_method_7_code 12 = .ok (.invokevirtual 49, 3) := by decide +kernel
theorem d5_15 : decode prog_3_method_7_code 15 = .ok (.ifCond .eq 5, 3) := by decide +kernel
theorem d5_18 : decode prog_3_method_7_code 18 = .ok (.iconst (-1), 1) := by decide +kernel
theorem d5_19 : decode prog_3_method_7_code 19 = .ok (.ireturn, 1) := by decide +kernel
theorem d5_20 : decode prog_3_method_7_code 20 = .ok (.aload_n 0, 1) := by decide +kernel
theorem d5_21 : decode prog_3_method_7_code 21 = .ok (.aload_n 1, 1) := by decide +kernel
theorem d5_22 : decode prog_3_method_7_code 22 = .ok (.iconst 0, 1) := by decide +kernel
theorem d5_23 : decode prog_3_method_7_code 23 = .ok (.invokevirtual 53, 3) := by decide +kernel
theorem d5_26 : decode prog_3_method_7_code 26 = .ok (.istore_n 2, 1) := by decide +kernel
theorem d5_27 : decode prog_3_method_7_code 27 = .ok (.aload_n 0, 1) := by decide +kernel
theorem d5_28 : decode prog_3_method_7_code 28 = .ok (.aload_n 1, 1) := by decide +kernel
theorem d5_29 : decode prog_3_method_7_code 29 = .ok (.iload_n 2, 1) := by decide +kernel
theorem d5_30 : decode prog_3_method_7_code 30 = .ok (.invokevirtual 57, 3) := by decide +kernel
theorem d5_33 : decode prog_3_method_7_code 33 = .ok (.istore_n 3, 1) := by decide +kernel
theorem d5_34 : decode prog_3_method_7_code 34 = .ok (.aload_n 0, 1) := by decide +kernel
theorem d5_35 : decode prog_3_method_7_code 35 = .ok (.getfield 28, 3) := by decide +kernel
theorem d5_38 : decode prog_3_method_7_code 38 = .ok (.iload_n 3, 1) := by decide +kernel
theorem d5_39 : decode prog_3_method_7_code 39 = .ok (.iaload, 1) := by decide +kernel
theorem d5_40 : decode prog_3_method_7_code 40 = .ok (.ifCond .lt 5, 3) := by decide +kernel
theorem d5_43 : decode prog_3_method_7_code 43 = .ok (.iconst (-1), 1) := by decide +kernel
theorem d5_44 : decode prog_3_method_7_code 44 = .ok (.ireturn, 1) := by decide +kernel
theorem d5_45 : decode prog_3_method_7_code 45 = .ok (.aload_n 0, 1) := by decide +kernel
theorem d5_46 : decode prog_3_method_7_code 46 = .ok (.getfield 43, 3) := by decide +kernel
theorem d5_49 : decode prog_3_method_7_code 49 = .ok (.istore 4, 2) := by decide +kernel
theorem d5_51 : decode prog_3_method_7_code 51 = .ok (.iload 4, 2) := by decide +kernel
theorem d5_53 : decode prog_3_method_7_code 53 = .ok (.aload_n 0, 1) := by decide +kernel
theorem d5_54 : decode prog_3_method_7_code 54 = .ok (.getfield 24, 3) := by decide +kernel
theorem d5_57 : decode prog_3_method_7_code 57 = .ok (.arraylength, 1) := by decide +kernel
theorem d5_58 : decode prog_3_method_7_code 58 = .ok (.if_icmp .ne 38, 3) := by decide +kernel
theorem d5_61 : decode prog_3_method_7_code 61 = .ok (.aload_n 0, 1) := by decide +kernel
theorem d5_62 : decode prog_3_method_7_code 62 = .ok (.aload_n 0, 1) := by decide +kernel
theorem d5_63 : decode prog_3_method_7_code 63 = .ok (.getfield 24, 3) := by decide +kernel
theorem d5_66 : decode prog_3_method_7_code 66 = .ok (.iconst 2, 1) := by decide +kernel
theorem d5_67 : decode prog_3_method_7_code 67 = .ok (.iload 4, 2) := by decide +kernel
theorem d5_69 : decode prog_3_method_7_code 69 = .ok (.imul, 1) := by decide +kernel
theorem d5_70 : decode prog_3_method_7_code 70 = .ok (.invokestatic 60, 3) := by decide +kernel
theorem d5_73 : decode prog_3_method_7_code 73 = .ok (.putfield 24, 3) := by decide +kernel
theorem d5_76 : decode prog_3_method_7_code 76 = .ok (.aload_n 0, 1) := by decide +kernel
theorem d5_77 : decode prog_3_method_7_code 77 = .ok (.aload_n 0, 1) := by decide +kernel
theorem d5_78 : decode prog_3_method_7_code 78 = .ok (.getfield 21, 3) := by decide +kernel
theorem d5_81 : decode prog_3_method_7_code 81 = .ok (.iconst 2, 1) := by decide +kernel
theorem d5_82 : decode prog_3_method_7_code 82 = .ok (.iload 4, 2) := by decide +kernel
theorem d5_84 : decode prog_3_method_7_code 84 = .ok (.imul, 1) := by decide +kernel
theorem d5_85 : decode prog_3_method_7_code 85 = .ok (.aload_n 0, 1) := by decide +kernel
theorem d5_86 : decode prog_3_method_7_code 86 = .ok (.getfield 17, 3) := by decide +kernel
theorem d5_89 : decode prog_3_method_7_code 89 = .ok (.imul, 1) := by decide +kernel
theorem d5_90 : decode prog_3_method_7_code 90 = .ok (.invokestatic 64, 3) := by decide +kernel
theorem d5_93 : decode prog_3_method_7_code 93 = .ok (.putfield 21, 3) := by decide +kernel
theorem d5_96 : decode prog_3_method_7_code 96 = .ok (.aload_n 1, 1) := by decide +kernel
theorem d5_97 : decode prog_3_method_7_code 97 = .ok (.iconst 0, 1) := by decide +kernel
theorem d5_98 : decode prog_3_method_7_code 98 = .ok (.aload_n 0, 1) := by decide +kernel
theorem d5_99 : decode prog_3_method_7_code 99 = .ok (.getfield 21, 3) := by decide +kernel
theorem d5_102 : decode prog_3_method_7_code 102 = .ok (.iload 4, 2) := by decide +kernel
theorem d5_104 : decode prog_3_method_7_code 104 = .ok (.aload_n 0, 1) := by decide +kernel
theorem d5_105 : decode prog_3_method_7_code 105 = .ok (.getfield 17, 3) := by decide +kernel
theorem d5_108 : decode prog_3_method_7_code 108 = .ok (.imul, 1) := by decide +kernel
theorem d5_109 : decode prog_3_method_7_code 109 = .ok (.aload_n 0, 1) := by decide +kernel
theorem d5_110 : decode prog_3_method_7_code 110 = .ok (.getfield 17, 3) := by decide +kernel
theorem d5_113 : decode prog_3_method_7_code 113 = .ok (.invokestatic 67, 3) := by decide +kernel
theorem d5_116 : decode prog_3_method_7_code 116 = .ok (.aload_n 0, 1) := by decide +kernel
theorem d5_117 : decode prog_3_method_7_code 117 = .ok (.dup, 1) := by decide +kernel
theorem d5_118 : decode prog_3_method_7_code 118 = .ok (.getfield 43, 3) := by decide +kernel
theorem d5_121 : decode prog_3_method_7_code 121 = .ok (.iconst 1, 1) := by decide +kernel
theorem d5_122 : decode prog_3_method_7_code 122 = .ok (.iadd, 1) := by decide +kernel
theorem d5_123 : decode prog_3_method_7_code 123 = .ok (.putfield 43, 3) := by decide +kernel
theorem d5_126 : decode prog_3_method_7_code 126 = .ok (.aload_n 0, 1) := by decide +kernel
theorem d5_127 : decode prog_3_method_7_code 127 = .ok (.dup, 1) := by decide +kernel
theorem d5_128 : decode prog_3_method_7_code 128 = .ok (.getfield 46, 3) := by decide +kernel
theorem d5_131 : decode prog_3_method_7_code 131 = .ok (.iconst 1, 1) := by decide +kernel
theorem d5_132 : decode prog_3_method_7_code 132 = .ok (.iadd, 1) := by decide +kernel
theorem d5_133 : decode prog_3_method_7_code 133 = .ok (.putfield 46, 3) := by decide +kernel
theorem d5_136 : decode prog_3_method_7_code 136 = .ok (.aload_n 0, 1) := by decide +kernel
theorem d5_137 : decode prog_3_method_7_code 137 = .ok (.getfield 17, 3) := by decide +kernel
theorem d5_140 : decode prog_3_method_7_code 140 = .ok (.iconst 1, 1) := by decide +kernel
theorem d5_141 : decode prog_3_method_7_code 141 = .ok (.if_icmp .ne 11, 3) := by decide +kernel
theorem d5_144 : decode prog_3_method_7_code 144 = .ok (.aload_n 0, 1) := by decide +kernel
theorem d5_145 : decode prog_3_method_7_code 145 = .ok (.aload_n 1, 1) := by decide +kernel
theorem d5_146 : decode prog_3_method_7_code 146 = .ok (.iconst 0, 1) := by decide +kernel
theorem d5_147 : decode prog_3_method_7_code 147 = .ok (.iaload, 1) := by decide +kernel
theorem d5_148 : decode prog_3_method_7_code 148 = .ok (.iconst 1, 1) := by decide +kernel
theorem d5_149 : decode prog_3_method_7_code 149 = .ok (.invokevirtual 73, 3) := by decide +kernel
theorem d5_152 : decode prog_3_method_7_code 152 = .ok (.iconst 0, 1) := by decide +kernel
theorem d5_153 : decode prog_3_method_7_code 153 = .ok (.istore 5, 2) := by decide +kernel
theorem d5_155 : decode prog_3_method_7_code 155 = .ok (.iload 5, 2) := by decide +kernel
theorem d5_157 : decode prog_3_method_7_code 157 = .ok (.aload_n 0, 1) := by decide +kernel
theorem d5_158 : decode prog_3_method_7_code 158 = .ok (.getfield 39, 3) := by decide +kernel
theorem d5_161 : decode prog_3_method_7_code 161 = .ok (.arraylength, 1) := by decide +kernel
theorem d5_162 : decode prog_3_method_7_code 162 = .ok (.if_icmp .ge 35, 3) := by decide +kernel
theorem d5_165 : decode prog_3_method_7_code 165 = .ok (.aload_n 0, 1) := by decide +kernel
theorem d5_166 : decode prog_3_method_7_code 166 = .ok (.getfield 39, 3) := by decide +kernel
theorem d5_169 : decode prog_3_method_7_code 169 = .ok (.iload 5, 2) := by decide +kernel
theorem d5_171 : decode prog_3_method_7_code 171 = .ok (.aaload, 1) := by decide +kernel
theorem d5_172 : decode prog_3_method_7_code 172 = .ok (.ifnull 19, 3) := by decide +kernel
theorem d5_175 : decode prog_3_method_7_code 175 = .ok (.aload_n 0, 1) := by decide +kernel
theorem d5_176 : decode prog_3_method_7_code 176 = .ok (.getfield 39, 3) := by decide +kernel
theorem d5_179 : decode prog_3_method_7_code 179 = .ok (.iload 5, 2) := by decide +kernel
theorem d5_181 : decode prog_3_method_7_code 181 = .ok (.aaload, 1) := by decide +kernel
theorem d5_182 : decode prog_3_method_7_code 182 = .ok (.aload_n 1, 1) := by decide +kernel
theorem d5_183 : decode prog_3_method_7_code 183 = .ok (.iload 5, 2) := by decide +kernel
theorem d5_185 : decode prog_3_method_7_code 185 = .ok (.iaload, 1) := by decide +kernel
theorem d5_186 : decode prog_3_method_7_code 186 = .ok (.iload 4, 2) := by decide +kernel
theorem d5_188 : decode prog_3_method_7_code 188 = .ok (.invokevirtual 77, 3) := by decide +kernel
theorem d5_191 : decode prog_3_method_7_code 191 = .ok (.iinc 5 1, 3) := by decide +kernel
theorem d5_194 : decode prog_3_method_7_code 194 = .ok (.goto (-39), 3) := by decide +kernel
theorem d5_197 : decode prog_3_method_7_code 197 = .ok (.aload_n 0, 1) := by decide +kernel
theorem d5_198 : decode prog_3_method_7_code 198 = .ok (.getfield 28, 3) := by decide +kernel
theorem d5_201 : decode prog_3_method_7_code 201 = .ok (.iload_n 3, 1) := by decide +kernel
theorem d5_202 : decode prog_3_method_7_code 202 = .ok (.iaload, 1) := by decide +kernel
theorem d5_203 : decode prog_3_method_7_code 203 = .ok (.iconst (-1), 1) := by decide +kernel
theorem d5_204 : decode prog_3_method_7_code 204 = .ok (.if_icmp .ne 13, 3) := by decide +kernel
theorem d5_207 : decode prog_3_method_7_code 207 = .ok (.aload_n 0, 1) := by decide +kernel
theorem d5_208 : decode prog_3_method_7_code 208 = .ok (.dup, 1) := by decide +kernel
theorem d5_209 : decode prog_3_method_7_code 209 = .ok (.getfield 81, 3) := by decide +kernel
theorem d5_212 : decode prog_3_method_7_code 212 = .ok (.iconst 1, 1) := by decide +kernel
theorem d5_213 : decode prog_3_method_7_code 213 = .ok (.iadd, 1) := by decide +kernel
theorem d5_214 : decode prog_3_method_7_code 214 = .ok (.putfield 81, 3) := by decide +kernel
theorem d5_217 : decode prog_3_method_7_code 217 = .ok (.aload_n 0, 1) := by decide +kernel
theorem d5_218 : decode prog_3_method_7_code 218 = .ok (.getfield 28, 3) := by decide +kernel
theorem d5_221 : decode prog_3_method_7_code 221 = .ok (.iload_n 3, 1) := by decide +kernel
theorem d5_222 : decode prog_3_method_7_code 222 = .ok (.iload 4, 2) := by decide +kernel
theorem d5_224 : decode prog_3_method_7_code 224 = .ok (.iastore, 1) := by decide +kernel
theorem d5_225 : decode prog_3_method_7_code 225 = .ok (.iconst 2, 1) := by decide +kernel
theorem d5_226 : decode prog_3_method_7_code 226 = .ok (.aload_n 0, 1) := by decide +kernel
theorem d5_227 : decode prog_3_method_7_code 227 = .ok (.getfield 81, 3) := by decide +kernel
theorem d5_230 : decode prog_3_method_7_code 230 = .ok (.imul, 1) := by decide +kernel
theorem d5_231 : decode prog_3_method_7_code 231 = .ok (.aload_n 0, 1) := by decide +kernel
theorem d5_232 : decode prog_3_method_7_code 232 = .ok (.getfield 28, 3) := by decide +kernel
theorem d5_235 : decode prog_3_method_7_code 235 = .ok (.arraylength, 1) := by decide +kernel
theorem d5_236 : decode prog_3_method_7_code 236 = .ok (.if_icmp .le 7, 3) := by decide +kernel
theorem d5_239 : decode prog_3_method_7_code 239 = .ok (.aload_n 0, 1) := by decide +kernel
theorem d5_240 : decode prog_3_method_7_code 240 = .ok (.invokevirtual 84, 3) := by decide +kernel
theorem d5_243 : decode prog_3_method_7_code 243 = .ok (.iload 4, 2) := by decide +kernel
theorem d5_245 : decode prog_3_method_7_code 245 = .ok (.ireturn, 1) := by decide +kernel
theorem pd_28IZ29V : parseMethodDescriptor "(IZ)V" = some ⟨[.int, .boolean], none⟩ := by decide +kernel
theorem pd_285bZI295bZ : parseMethodDescriptor "([ZI)[Z" = some ⟨[(.array .boolean), .int], some (.array .boolean)⟩ := by decide +kernel
set_option maxRecDepth 65536 in
set_option maxHeartbeats 40000000 in
theorem a197 (l : Launch) (Z : State) (a0 : Array Value) (hw : ∀ d ∈ tables_1, d.before a0 Z = true) (n0 : Nat) (h0 : Heap) (K : Cx) (ok : Ok K Z n0 "com/example/hornconv/hornconv/FactTable" prog_3_method_7_code 6 (some .int) "add") (B : Nat) (hB0 : n0 ≤ B) (hb : Heap) (t un me ag de sl po vv : Addr) (n p r : Nat) (x : Value) (D : List Addr) (mk : Bool) (c : Nat → Int32) (Lm : Nat) (A f uu dd v : Nat → Int32) (μ : Nat → Int64)  (A_t : FO Z h0 t un me ag de sl po (Int32.ofNat n) (Int32.ofNat (r + 1)) (Int32.ofNat (r + 1)) (Int32.ofNat r)) (A_un : PA .int Z h0 un (sv 1 uu)) (A_me : PA .long Z h0 me (lv Lm μ)) (A_ag : PA .int Z h0 ag (sv (cap4 (r + 1) * n) A)) (A_de : PA .boolean Z h0 de (sv (cap4 (r + 1)) dd)) (A_sl : PA .int Z h0 sl (sv (8) f)) (A_po : PP Z h0 po (pm n) p x) (A_q : IXo Z h0 D mk x (r + 1) c) (A_vv : PA .int Z h0 vv (sv 3 v)) (Sp : Sm B hb h0) (ne_t_un : t ≠ un) (ne_t_me : t ≠ me) (ne_t_ag : t ≠ ag) (ne_t_de : t ≠ de) (ne_t_sl : t ≠ sl) (ne_t_po : t ≠ po) (ne_un_me : un ≠ me) (ne_un_ag : un ≠ ag) (ne_un_de : un ≠ de) (ne_un_sl : un ≠ sl) (ne_un_po : un ≠ po) (ne_me_ag : me ≠ ag) (ne_me_de : me ≠ de) (ne_me_sl : me ≠ sl) (ne_me_po : me ≠ po) (ne_ag_de : ag ≠ de) (ne_ag_sl : ag ≠ sl) (ne_ag_po : ag ≠ po) (ne_de_sl : de ≠ sl) (ne_de_po : de ≠ po) (ne_sl_po : sl ≠ po) (nD_t : t ∉ D) (nD_un : un ∉ D) (nD_me : me ∉ D) (nD_ag : ag ∉ D) (nD_de : de ∉ D) (nD_sl : sl ∉ D) (nD_po : po ∉ D) (nB_t : B ≤ t) (nB_un : B ≤ un) (nB_me : B ≤ me) (nB_ag : B ≤ ag) (nB_de : B ≤ de) (nB_sl : B ≤ sl) (nB_po : B ≤ po) (hDB : ∀ a ∈ D, B ≤ a) (nV_t : vv ≠ t) (nV_un : vv ≠ un) (nV_me : vv ≠ me) (nV_ag : vv ≠ ag) (nV_de : vv ≠ de) (nV_sl : vv ≠ sl) (nV_po : vv ≠ po) (nD_vv : vv ∉ D) (g w Lm0 : Nat) (hg : g ≤ 126) (hn : 1 ≤ n ∧ n ≤ 3) (hr : r ≤ 4) (hp : p < n) (hc : ∀ j, c j ≠ -1) (hnd : ∀ k, k ≤ 5 → ndc c k ≤ 2) (hmk : mk = true → 2 ≤ n) (hdd : dd = fun _ => 0) (hLm : Lm ≤ 126) (hI : IR r 8 f) (hs : Int32) (s : Nat) (hs8 : s < 8) (hf : f s = -1) (hRA : RA n p (r + 1) c A Lm) (hLw : n = 1 → w < Lm ∧ Lm0 ≤ Lm) (hvp : 2 ≤ n → v p = c r) (i : Nat) :
    W K l ({ frames := 3, cells := 5, slots := (g + 56), locals := 48 } : Room) n0 (fun u h => ∃ z r' Lm', u = some (.int z) ∧ TB Z h B t n p r' c Lm' mk true ∧ Sm B hb h ∧ ((r' = r ∧ n = 1) ∨ r' = r + 1) ∧ (n = 1 → w < Lm' ∧ Lm0 ≤ Lm')) h0 4 (g + 40) 197 #[.val (.ref t), .val (.ref vv), .val (.int hs), .val (.int (Int32.ofNat s)), .val (.int (Int32.ofNat r)), .val (.int (Int32.ofNat i))] [] := by
  subst hdd
  have ge_t := Nat.le_trans hB0 nB_t
  have ge_sl := Nat.le_trans hB0 nB_sl
  obtain h4 | rfl : r < 4 ∨ r = 4 := by omega
  · skip
    show W K l _ n0 _ h0 _ _ 197 #[.val (.ref t), .val (.ref vv), .val (.int hs), .val (.int (Int32.ofNat s)), .val (.int (Int32.ofNat r)), .val (.int (Int32.ofNat i))] []
    refine w_aloadN ok d5_197 rfl rfl ?_
    refine w_getfield ok (v := (.ref sl)) (host := "") (f := ("com/example/hornconv/hornconv/FactTable", "slots", "[I", (.array .int))) 5 d5_198 (Or.inl (hw _ (List.mem_of_getElem? (i := 27) rfl))) Via.refl A_t rfl rfl ?_
    refine w_iloadN ok d5_201 rfl ?_
    refine w_iaload ok (v := (.int (-1 : Int32))) d5_202 A_sl (own_ix0 (by omega)) (by have e := svg (f := f) hs8 (by omega); rw [hf] at e; exact e) ?_
    refine w_iconst ok d5_203 (v := (-1 : Int32)) rfl ?_
    refine w_icmp_ne ok d5_204 (pc' := 217) (by first | decide | omega | (dsimp only; omega)) (fun hc1 => False.elim (by revert hc1; decide)) (fun hc1 => ?_)
    refine w_aloadN ok d5_207 rfl rfl ?_
    refine w_dup ok d5_208 rfl ?_
    refine w_getfield ok (v := (.int (Int32.ofNat r))) (host := "") (f := ("com/example/hornconv/hornconv/FactTable", "used", "I", .int)) 9 d5_209 (Or.inl (hw _ (List.mem_of_getElem? (i := 59) rfl))) Via.refl A_t rfl rfl ?_
    refine w_iconst ok d5_212 (v := (1 : Int32)) rfl ?_
    refine w_iadd ok d5_213 ?_
    refine w_putfield ok (host := "") (f := ("com/example/hornconv/hornconv/FactTable", "used", "I", .int)) 9 d5_214 (Or.inl (hw _ (List.mem_of_getElem? (i := 59) rfl))) Via.refl A_t (la_FactTable hw) rfl rfl (Or.inl (hw _ (List.mem_of_getElem? (i := 60) rfl))) (hw _ (List.mem_of_getElem? (i := 7) rfl)) rfl rfl ge_t (fun h2 W_h2 A1_h2 => ?_)
    replace A_un := A_un.other W_h2 (Ne.symm ne_t_un)
    replace A_me := A_me.other W_h2 (Ne.symm ne_t_me)
    replace A_ag := A_ag.other W_h2 (Ne.symm ne_t_ag)
    replace A_de := A_de.other W_h2 (Ne.symm ne_t_de)
    replace A_sl := A_sl.other W_h2 (Ne.symm ne_t_sl)
    replace A_po := A_po.other W_h2 (Ne.symm ne_t_po)
    replace A_q := A_q.other W_h2 nD_t
    replace Sp := Sp.other W_h2 nB_t
    replace A_vv := A_vv.other W_h2 nV_t
    replace A_t : Ob Z h2 t "com/example/hornconv/hornconv/FactTable" fl_FactTable [(.ref un), (.ref me), (.int (Int32.ofNat n)), (.ref ag), (.ref de), (.ref sl), (.ref po), (.int (Int32.ofNat (r + 1))), (.int (Int32.ofNat (r + 1))), (.int ((Int32.ofNat r) + (1 : Int32)))] := A1_h2
    show W K l _ n0 _ h2 _ _ 217 #[.val (.ref t), .val (.ref vv), .val (.int hs), .val (.int (Int32.ofNat s)), .val (.int (Int32.ofNat r)), .val (.int (Int32.ofNat i))] []
    rw [own_inc] at A_t
    refine w_aloadN ok d5_217 rfl rfl ?_
    refine w_getfield ok (v := (.ref sl)) (host := "") (f := ("com/example/hornconv/hornconv/FactTable", "slots", "[I", (.array .int))) 5 d5_218 (Or.inl (hw _ (List.mem_of_getElem? (i := 27) rfl))) Via.refl A_t rfl rfl ?_
    refine w_iloadN ok d5_221 rfl ?_
    refine w_iload ok d5_222 rfl ?_
    refine w_iastore ok d5_224 A_sl ge_sl (own_ix0 (by omega)) (svl (j := s) (by omega) (by omega)) (fun h3 W_h3 A1_h3 => ?_)
    replace A_t := A_t.other W_h3 ne_t_sl
    replace A_un := A_un.other W_h3 ne_un_sl
    replace A_me := A_me.other W_h3 ne_me_sl
    replace A_ag := A_ag.other W_h3 ne_ag_sl
    replace A_de := A_de.other W_h3 ne_de_sl
    replace A_po := A_po.other W_h3 (Ne.symm ne_sl_po)
    replace A_q := A_q.other W_h3 nD_sl
    replace Sp := Sp.other W_h3 nB_sl
    replace A_vv := A_vv.other W_h3 nV_sl
    replace A_sl : PA .int Z h3 sl ((sv 8 f).set (Int32.ofNat s).toNatClampNeg (.int (Int32.ofNat r))) := A1_h3
    rw [own_ix (j := s) (by omega), sv_set] at A_sl
    refine w_iconst ok d5_225 (v := (2 : Int32)) rfl ?_
    refine w_aloadN ok d5_226 rfl rfl ?_
    refine w_getfield ok (v := (.int (Int32.ofNat (r + 1)))) (host := "") (f := ("com/example/hornconv/hornconv/FactTable", "used", "I", .int)) 9 d5_227 (Or.inl (hw _ (List.mem_of_getElem? (i := 59) rfl))) Via.refl A_t rfl rfl ?_
    refine w_imul ok d5_230 ?_
    refine w_aloadN ok d5_231 rfl rfl ?_
    refine w_getfield ok (v := (.ref sl)) (host := "") (f := ("com/example/hornconv/hornconv/FactTable", "slots", "[I", (.array .int))) 5 d5_232 (Or.inl (hw _ (List.mem_of_getElem? (i := 27) rfl))) Via.refl A_t rfl rfl ?_
    refine w_arraylength ok (z := (8 : Int32)) d5_235 A_sl (sv_len 8 _) (by first | decide | omega | (dsimp only; omega)) ?_
    show W K l _ n0 _ h3 _ _ 236 #[.val (.ref t), .val (.ref vv), .val (.int hs), .val (.int (Int32.ofNat s)), .val (.int (Int32.ofNat r)), .val (.int (Int32.ofNat i))] [(.int (8 : Int32)), (.int ((2 : Int32) * (Int32.ofNat (r + 1))))]
    refine w_icmp_le ok d5_236 (pc' := 243) (by first | decide | omega | (dsimp only; omega)) (fun hc5 => ?_) (fun hc5 => False.elim (by rw [own_m2, show (8 : Int32) = Int32.ofNat 8 from rfl, own_lt (by omega) (by omega)] at hc5; omega))
    refine w_iload ok d5_243 rfl ?_
    refine w_iret ok d5_245 (by first | decide | omega | (dsimp only; omega)) (by first | decide | omega | (dsimp only; omega)) ?_
    exact ⟨_, r + 1, Lm, rfl, ⟨un, me, ag, de, sl, po, x, D, A, (upd f s (Int32.ofNat r)), uu, μ, (Int32.ofNat (r + 1)), (Int32.ofNat (r + 1)), (fun _ => (0 : Int32)), A_t, A_un, A_me, A_ag, A_de, (by rw [capS_lo (by omega)]; exact A_sl), A_po, A_q, ⟨ne_t_un, ne_t_me, ne_t_ag, ne_t_de, ne_t_sl, ne_t_po, ne_un_me, ne_un_ag, ne_un_de, ne_un_sl, ne_un_po, ne_me_ag, ne_me_de, ne_me_sl, ne_me_po, ne_ag_de, ne_ag_sl, ne_ag_po, ne_de_sl, ne_de_po, ne_sl_po⟩, ⟨nD_t, nD_un, nD_me, nD_ag, nD_de, nD_sl, nD_po⟩, ⟨nB_t, nB_un, nB_me, nB_ag, nB_de, nB_sl, nB_po⟩, hDB, hRA, hLm, (fun _ => ⟨rfl, rfl, rfl, by rw [capS_lo (by omega)]; exact hI.put hs8 (by omega) hf⟩)⟩, Sp, Or.inr rfl, hLw⟩
  · skip
    show W K l _ n0 _ h0 _ _ 197 #[.val (.ref t), .val (.ref vv), .val (.int hs), .val (.int (Int32.ofNat s)), .val (.int (4 : Int32)), .val (.int (Int32.ofNat i))] []
    refine w_aloadN ok d5_197 rfl rfl ?_
    refine w_getfield ok (v := (.ref sl)) (host := "") (f := ("com/example/hornconv/hornconv/FactTable", "slots", "[I", (.array .int))) 5 d5_198 (Or.inl (hw _ (List.mem_of_getElem? (i := 27) rfl))) Via.refl A_t rfl rfl ?_
    refine w_iloadN ok d5_201 rfl ?_
    refine w_iaload ok (v := (.int (-1 : Int32))) d5_202 A_sl (own_ix0 (by omega)) (by have e := svg (f := f) hs8 (by omega); rw [hf] at e; exact e) ?_
    refine w_iconst ok d5_203 (v := (-1 : Int32)) rfl ?_
    refine w_icmp_ne ok d5_204 (pc' := 217) (by first | decide | omega | (dsimp only; omega)) (fun hc7 => False.elim (by revert hc7; decide)) (fun hc7 => ?_)
    refine w_aloadN ok d5_207 rfl rfl ?_
    refine w_dup ok d5_208 rfl ?_
    refine w_getfield ok (v := (.int (4 : Int32))) (host := "") (f := ("com/example/hornconv/hornconv/FactTable", "used", "I", .int)) 9 d5_209 (Or.inl (hw _ (List.mem_of_getElem? (i := 59) rfl))) Via.refl A_t rfl rfl ?_
    refine w_iconst ok d5_212 (v := (1 : Int32)) rfl ?_
    refine w_iadd ok d5_213 ?_
    show W K l _ n0 _ h0 _ _ 214 #[.val (.ref t), .val (.ref vv), .val (.int hs), .val (.int (Int32.ofNat s)), .val (.int (4 : Int32)), .val (.int (Int32.ofNat i))] [(.int (5 : Int32)), (.ref t)]
    refine w_putfield ok (host := "") (f := ("com/example/hornconv/hornconv/FactTable", "used", "I", .int)) 9 d5_214 (Or.inl (hw _ (List.mem_of_getElem? (i := 59) rfl))) Via.refl A_t (la_FactTable hw) rfl rfl (Or.inl (hw _ (List.mem_of_getElem? (i := 60) rfl))) (hw _ (List.mem_of_getElem? (i := 7) rfl)) rfl rfl ge_t (fun h8 W_h8 A1_h8 => ?_)
    replace A_un := A_un.other W_h8 (Ne.symm ne_t_un)
    replace A_me := A_me.other W_h8 (Ne.symm ne_t_me)
    replace A_ag := A_ag.other W_h8 (Ne.symm ne_t_ag)
    replace A_de := A_de.other W_h8 (Ne.symm ne_t_de)
    replace A_sl := A_sl.other W_h8 (Ne.symm ne_t_sl)
    replace A_po := A_po.other W_h8 (Ne.symm ne_t_po)
    replace A_q := A_q.other W_h8 nD_t
    replace Sp := Sp.other W_h8 nB_t
    replace A_vv := A_vv.other W_h8 nV_t
    replace A_t : Ob Z h8 t "com/example/hornconv/hornconv/FactTable" fl_FactTable [(.ref un), (.ref me), (.int (Int32.ofNat n)), (.ref ag), (.ref de), (.ref sl), (.ref po), (.int (5 : Int32)), (.int (5 : Int32)), (.int (5 : Int32))] := A1_h8
    refine w_aloadN ok d5_217 rfl rfl ?_
    refine w_getfield ok (v := (.ref sl)) (host := "") (f := ("com/example/hornconv/hornconv/FactTable", "slots", "[I", (.array .int))) 5 d5_218 (Or.inl (hw _ (List.mem_of_getElem? (i := 27) rfl))) Via.refl A_t rfl rfl ?_
    refine w_iloadN ok d5_221 rfl ?_
    refine w_iload ok d5_222 rfl ?_
    refine w_iastore ok d5_224 A_sl ge_sl (own_ix0 (by omega)) (svl (j := s) (by omega) (by omega)) (fun h9 W_h9 A1_h9 => ?_)
    replace A_t := A_t.other W_h9 ne_t_sl
    replace A_un := A_un.other W_h9 ne_un_sl
    replace A_me := A_me.other W_h9 ne_me_sl
    replace A_ag := A_ag.other W_h9 ne_ag_sl
    replace A_de := A_de.other W_h9 ne_de_sl
    replace A_po := A_po.other W_h9 (Ne.symm ne_sl_po)
    replace A_q := A_q.other W_h9 nD_sl
    replace Sp := Sp.other W_h9 nB_sl
    replace A_vv := A_vv.other W_h9 nV_sl
    replace A_sl : PA .int Z h9 sl ((sv 8 f).set (Int32.ofNat s).toNatClampNeg (.int (4 : Int32))) := A1_h9
    rw [own_ix (j := s) (by omega), sv_set] at A_sl
    refine w_iconst ok d5_225 (v := (2 : Int32)) rfl ?_
    refine w_aloadN ok d5_226 rfl rfl ?_
    refine w_getfield ok (v := (.int (5 : Int32))) (host := "") (f := ("com/example/hornconv/hornconv/FactTable", "used", "I", .int)) 9 d5_227 (Or.inl (hw _ (List.mem_of_getElem? (i := 59) rfl))) Via.refl A_t rfl rfl ?_
    refine w_imul ok d5_230 ?_
    show W K l _ n0 _ h9 _ _ 231 #[.val (.ref t), .val (.ref vv), .val (.int hs), .val (.int (Int32.ofNat s)), .val (.int (4 : Int32)), .val (.int (Int32.ofNat i))] [(.int (10 : Int32))]
    refine w_aloadN ok d5_231 rfl rfl ?_
    refine w_getfield ok (v := (.ref sl)) (host := "") (f := ("com/example/hornconv/hornconv/FactTable", "slots", "[I", (.array .int))) 5 d5_232 (Or.inl (hw _ (List.mem_of_getElem? (i := 27) rfl))) Via.refl A_t rfl rfl ?_
    refine w_arraylength ok (z := (8 : Int32)) d5_235 A_sl (sv_len 8 _) (by first | decide | omega | (dsimp only; omega)) ?_
    show W K l _ n0 _ h9 _ _ 236 #[.val (.ref t), .val (.ref vv), .val (.int hs), .val (.int (Int32.ofNat s)), .val (.int (4 : Int32)), .val (.int (Int32.ofNat i))] [(.int (8 : Int32)), (.int (10 : Int32))]
    refine w_icmp_le ok d5_236 (pc' := 243) (by first | decide | omega | (dsimp only; omega)) (fun hc11 => False.elim (by revert hc11; decide)) (fun hc11 => ?_)
    refine w_aloadN ok d5_239 rfl rfl ?_
    refine w_callP ok (y := mn_12) (a := t) (argsL := []) (rest := []) d5_240 (hw _ (List.mem_of_getElem? (i := 76) rfl)) (hw _ (List.mem_of_getElem? (i := 77) rfl)) (hw _ (List.mem_of_getElem? (i := 78) rfl)) (hw _ (List.mem_of_getElem? (i := 7) rfl)) (hw _ (List.mem_of_getElem? (i := 8) rfl)) (hw _ (List.mem_of_getElem? (i := 79) rfl)) (by first | decide | omega | (dsimp only; omega)) A_t.1 pd_2829V rfl rfl (by first | decide | omega | (dsimp only; omega)) (Nat.le_of_ble_eq_true rfl) (by first | decide | omega | (dsimp only; omega)) (by first | decide | omega | (dsimp only; omega)) (fun z0 => rm_resize l Z a0 hw [] n0 h9 z0 t un me ag de sl po n hn (8 * n) A (by omega) ge_t ne_t_ag ne_t_de _ ne_t_sl A_t A_ag A_de A_sl) (fun v12 h13 qv12 => ?_)
    obtain ⟨rfl, sl1, f1, sz_sl1, ge_sl1, K1, A1, A_sl1, hI5⟩ := qv12
    have ne_t_sl1 : t ≠ sl1 := Nat.ne_of_lt (Nat.lt_of_lt_of_le A_t.lt sz_sl1)
    have ne_un_sl1 : un ≠ sl1 := Nat.ne_of_lt (Nat.lt_of_lt_of_le A_un.lt sz_sl1)
    have ne_me_sl1 : me ≠ sl1 := Nat.ne_of_lt (Nat.lt_of_lt_of_le A_me.lt sz_sl1)
    have ne_ag_sl1 : ag ≠ sl1 := Nat.ne_of_lt (Nat.lt_of_lt_of_le A_ag.lt sz_sl1)
    have ne_de_sl1 : de ≠ sl1 := Nat.ne_of_lt (Nat.lt_of_lt_of_le A_de.lt sz_sl1)
    have ne_sl_sl1 : sl ≠ sl1 := Nat.ne_of_lt (Nat.lt_of_lt_of_le A_sl.lt sz_sl1)
    have ne_po_sl1 : po ≠ sl1 := Nat.ne_of_lt (Nat.lt_of_lt_of_le A_po.lt sz_sl1)
    have ne_q_sl1 := A_q.nin sz_sl1
    have ne_Sp_sl1 := Sp.ge sz_sl1
    have ne_vv_sl1 : vv ≠ sl1 := Nat.ne_of_lt (Nat.lt_of_lt_of_le A_vv.lt sz_sl1)
    replace A_un := A_un.keep K1 (ninS (Ne.symm ne_t_un) nin0)
    replace A_me := A_me.keep K1 (ninS (Ne.symm ne_t_me) nin0)
    replace A_ag := A_ag.keep K1 (ninS (Ne.symm ne_t_ag) nin0)
    replace A_de := A_de.keep K1 (ninS (Ne.symm ne_t_de) nin0)
    replace A_sl := A_sl.keep K1 (ninS (Ne.symm ne_t_sl) nin0)
    replace A_po := A_po.keep K1 (ninS (Ne.symm ne_t_po) nin0)
    replace A_q := A_q.keep K1 (allS nD_t all0)
    replace Sp := Sp.keep K1 (allS nB_t all0)
    replace A_vv := A_vv.keep K1 (ninS nV_t nin0)
    replace A_t := A1
    show W K l _ n0 _ h13 _ _ 243 #[.val (.ref t), .val (.ref vv), .val (.int hs), .val (.int (Int32.ofNat s)), .val (.int (4 : Int32)), .val (.int (Int32.ofNat i))] []
    refine w_iload ok d5_243 rfl ?_
    refine w_iret ok d5_245 (by first | decide | omega | (dsimp only; omega)) (by first | decide | omega | (dsimp only; omega)) ?_
    exact ⟨_, 5, Lm, rfl, ⟨un, me, ag, de, sl1, po, x, D, A, f1, uu, μ, (5 : Int32), (5 : Int32), (fun _ => (0 : Int32)), A_t, A_un, A_me, A_ag, A_de, A_sl1, A_po, A_q, ⟨ne_t_un, ne_t_me, ne_t_ag, ne_t_de, ne_t_sl1, ne_t_po, ne_un_me, ne_un_ag, ne_un_de, ne_un_sl1, ne_un_po, ne_me_ag, ne_me_de, ne_me_sl1, ne_me_po, ne_ag_de, ne_ag_sl1, ne_ag_po, ne_de_sl1, ne_de_po, (Ne.symm ne_po_sl1)⟩, ⟨nD_t, nD_un, nD_me, nD_ag, nD_de, ne_q_sl1, nD_po⟩, ⟨nB_t, nB_un, nB_me, nB_ag, nB_de, ne_Sp_sl1, nB_po⟩, hDB, hRA, hLm, (fun _ => ⟨rfl, rfl, rfl, hI5⟩)⟩, Sp, Or.inr rfl, hLw⟩
set_option maxRecDepth 65536 in
set_option maxHeartbeats 40000000 in
theorem a155b (l : Launch) (Z : State) (a0 : Array Value) (hw : ∀ d ∈ tables_1, d.before a0 Z = true) (n0 : Nat) (h0 : Heap) (K : Cx) (ok : Ok K Z n0 "com/example/hornconv/hornconv/FactTable" prog_3_method_7_code 6 (some .int) "add") (B : Nat) (hB0 : n0 ≤ B) (hb : Heap) (t un me ag de sl po vv : Addr) (n p r : Nat) (x : Value) (D : List Addr) (mk : Bool) (c : Nat → Int32) (Lm : Nat) (A f uu dd v : Nat → Int32) (μ : Nat → Int64)  (A_t : FO Z h0 t un me ag de sl po (Int32.ofNat n) (Int32.ofNat (r + 1)) (Int32.ofNat (r + 1)) (Int32.ofNat r)) (A_un : PA .int Z h0 un (sv 1 uu)) (A_me : PA .long Z h0 me (lv Lm μ)) (A_ag : PA .int Z h0 ag (sv (cap4 (r + 1) * n) A)) (A_de : PA .boolean Z h0 de (sv (cap4 (r + 1)) dd)) (A_sl : PA .int Z h0 sl (sv (8) f)) (A_po : PP Z h0 po (pm n) p x) (A_q : IXo Z h0 D mk x (r + 1) c) (A_vv : PA .int Z h0 vv (sv 3 v)) (Sp : Sm B hb h0) (ne_t_un : t ≠ un) (ne_t_me : t ≠ me) (ne_t_ag : t ≠ ag) (ne_t_de : t ≠ de) (ne_t_sl : t ≠ sl) (ne_t_po : t ≠ po) (ne_un_me : un ≠ me) (ne_un_ag : un ≠ ag) (ne_un_de : un ≠ de) (ne_un_sl : un ≠ sl) (ne_un_po : un ≠ po) (ne_me_ag : me ≠ ag) (ne_me_de : me ≠ de) (ne_me_sl : me ≠ sl) (ne_me_po : me ≠ po) (ne_ag_de : ag ≠ de) (ne_ag_sl : ag ≠ sl) (ne_ag_po : ag ≠ po) (ne_de_sl : de ≠ sl) (ne_de_po : de ≠ po) (ne_sl_po : sl ≠ po) (nD_t : t ∉ D) (nD_un : un ∉ D) (nD_me : me ∉ D) (nD_ag : ag ∉ D) (nD_de : de ∉ D) (nD_sl : sl ∉ D) (nD_po : po ∉ D) (nB_t : B ≤ t) (nB_un : B ≤ un) (nB_me : B ≤ me) (nB_ag : B ≤ ag) (nB_de : B ≤ de) (nB_sl : B ≤ sl) (nB_po : B ≤ po) (hDB : ∀ a ∈ D, B ≤ a) (nV_t : vv ≠ t) (nV_un : vv ≠ un) (nV_me : vv ≠ me) (nV_ag : vv ≠ ag) (nV_de : vv ≠ de) (nV_sl : vv ≠ sl) (nV_po : vv ≠ po) (nD_vv : vv ∉ D) (g w Lm0 : Nat) (hg : g ≤ 126) (hn : 1 ≤ n ∧ n ≤ 3) (hr : r ≤ 4) (hp : p < n) (hc : ∀ j, c j ≠ -1) (hnd : ∀ k, k ≤ 5 → ndc c k ≤ 2) (hmk : mk = true → 2 ≤ n) (hdd : dd = fun _ => 0) (hLm : Lm ≤ 126) (hI : IR r 8 f) (hs : Int32) (s : Nat) (hs8 : s < 8) (hf : f s = -1) (hRA : RA n p (r + 1) c A Lm) (hLw : n = 1 → w < Lm ∧ Lm0 ≤ Lm) (hvp : 2 ≤ n → v p = c r) :
    ∀ (cc i : Nat), i + cc = pm n → (mk = true → p < i) → W K l ({ frames := 3, cells := 5, slots := (g + 56), locals := 48 } : Room) n0 (fun u h => ∃ z r' Lm', u = some (.int z) ∧ TB Z h B t n p r' c Lm' mk true ∧ Sm B hb h ∧ ((r' = r ∧ n = 1) ∨ r' = r + 1) ∧ (n = 1 → w < Lm' ∧ Lm0 ≤ Lm')) h0 4 (g + 40) 155 #[.val (.ref t), .val (.ref vv), .val (.int hs), .val (.int (Int32.ofNat s)), .val (.int (Int32.ofNat r)), .val (.int (Int32.ofNat i))] [] := by
  intro cc
  induction cc with
  | zero =>
    intro i hi hx
    have hpm := own_pm hn
    show W K l _ n0 _ h0 _ _ 155 #[.val (.ref t), .val (.ref vv), .val (.int hs), .val (.int (Int32.ofNat s)), .val (.int (Int32.ofNat r)), .val (.int (Int32.ofNat i))] []
    refine w_iload ok d5_155 rfl ?_
    refine w_aloadN ok d5_157 rfl rfl ?_
    refine w_getfield ok (v := (.ref po)) (host := "") (f := ("com/example/hornconv/hornconv/FactTable", "positions", "[Lcom/example/hornconv/hornconv/FactTable$PositionIndex;", (.array (.object "com/example/hornconv/hornconv/FactTable$PositionIndex")))) 6 d5_158 (Or.inl (hw _ (List.mem_of_getElem? (i := 35) rfl))) Via.refl A_t rfl rfl ?_
    refine w_arraylength ok (z := Int32.ofNat (pm n)) d5_161 A_po.1 (pv_z (by omega)) (own_ix0 (by omega)) ?_
    show W K l _ n0 _ h0 _ _ 162 #[.val (.ref t), .val (.ref vv), .val (.int hs), .val (.int (Int32.ofNat s)), .val (.int (Int32.ofNat r)), .val (.int (Int32.ofNat i))] [(.int (Int32.ofNat (pm n))), (.int (Int32.ofNat i))]
    refine w_icmp_ge ok d5_162 (pc' := 197) (by first | decide | omega | (dsimp only; omega)) (fun hc1 => ?_) (fun hc1 => False.elim (by rw [own_lt (by omega) (by omega)] at hc1; omega))
    exact a197 l Z a0 hw n0 h0 K ok B hB0 hb t un me ag de sl po vv n p r x D mk c Lm A f uu dd v μ  A_t A_un A_me A_ag A_de A_sl A_po A_q A_vv Sp ne_t_un ne_t_me ne_t_ag ne_t_de ne_t_sl ne_t_po ne_un_me ne_un_ag ne_un_de ne_un_sl ne_un_po ne_me_ag ne_me_de ne_me_sl ne_me_po ne_ag_de ne_ag_sl ne_ag_po ne_de_sl ne_de_po ne_sl_po nD_t nD_un nD_me nD_ag nD_de nD_sl nD_po nB_t nB_un nB_me nB_ag nB_de nB_sl nB_po hDB nV_t nV_un nV_me nV_ag nV_de nV_sl nV_po nD_vv g w Lm0 hg hn hr hp hc hnd hmk hdd hLm hI hs s hs8 hf hRA hLw hvp i
  | succ cc ih =>
    intro i hi hx
    have hpm := own_pm hn
    show W K l _ n0 _ h0 _ _ 155 #[.val (.ref t), .val (.ref vv), .val (.int hs), .val (.int (Int32.ofNat s)), .val (.int (Int32.ofNat r)), .val (.int (Int32.ofNat i))] []
    refine w_iload ok d5_155 rfl ?_
    refine w_aloadN ok d5_157 rfl rfl ?_
    refine w_getfield ok (v := (.ref po)) (host := "") (f := ("com/example/hornconv/hornconv/FactTable", "positions", "[Lcom/example/hornconv/hornconv/FactTable$PositionIndex;", (.array (.object "com/example/hornconv/hornconv/FactTable$PositionIndex")))) 6 d5_158 (Or.inl (hw _ (List.mem_of_getElem? (i := 35) rfl))) Via.refl A_t rfl rfl ?_
    refine w_arraylength ok (z := Int32.ofNat (pm n)) d5_161 A_po.1 (pv_z (by omega)) (own_ix0 (by omega)) ?_
    show W K l _ n0 _ h0 _ _ 162 #[.val (.ref t), .val (.ref vv), .val (.int hs), .val (.int (Int32.ofNat s)), .val (.int (Int32.ofNat r)), .val (.int (Int32.ofNat i))] [(.int (Int32.ofNat (pm n))), (.int (Int32.ofNat i))]
    refine w_icmp_ge ok d5_162 (pc' := 197) (by first | decide | omega | (dsimp only; omega)) (fun hc3 => False.elim (by exact hc3 ((own_lt (by omega) (by omega)).mpr (by omega)))) (fun hc3 => ?_)
    refine w_aloadN ok d5_165 rfl rfl ?_
    refine w_getfield ok (v := (.ref po)) (host := "") (f := ("com/example/hornconv/hornconv/FactTable", "positions", "[Lcom/example/hornconv/hornconv/FactTable$PositionIndex;", (.array (.object "com/example/hornconv/hornconv/FactTable$PositionIndex")))) 6 d5_166 (Or.inl (hw _ (List.mem_of_getElem? (i := 35) rfl))) Via.refl A_t rfl rfl ?_
    refine w_iload ok d5_169 rfl ?_
    refine w_aaload ok (v := .null) d5_171 A_po.1 rfl (own_ix0 (by omega)) (pvn (by omega) (by omega) (fun e => by cases mk with | false => exact A_q.null | true => exact absurd (hx rfl) (by omega))) ?_
    refine w_ifnullY ok d5_172 (pc' := 191) (by first | decide | omega | (dsimp only; omega)) ?_
    show W K l _ n0 _ h0 _ _ 191 #[.val (.ref t), .val (.ref vv), .val (.int hs), .val (.int (Int32.ofNat s)), .val (.int (Int32.ofNat r)), .val (.int (Int32.ofNat i))] []
    refine w_iinc ok d5_191 (u := (1 : Int32)) rfl rfl (L' := #[.val (.ref t), .val (.ref vv), .val (.int hs), .val (.int (Int32.ofNat s)), .val (.int (Int32.ofNat r)), .val (.int ((Int32.ofNat i) + (1 : Int32)))]) rfl ?_
    show W K l _ n0 _ h0 _ _ 194 #[.val (.ref t), .val (.ref vv), .val (.int hs), .val (.int (Int32.ofNat s)), .val (.int (Int32.ofNat r)), .val (.int ((Int32.ofNat i) + (1 : Int32)))] []
    refine w_goto ok d5_194 (pc' := 155) (by first | decide | omega | (dsimp only; omega)) ?_
    show W K l _ n0 _ h0 _ _ 155 #[.val (.ref t), .val (.ref vv), .val (.int hs), .val (.int (Int32.ofNat s)), .val (.int (Int32.ofNat r)), .val (.int ((Int32.ofNat i) + (1 : Int32)))] []
    rw [own_inc]
    exact ih (i + 1) (by omega) (fun e => Nat.lt_succ_of_lt (hx e))
set_option maxRecDepth 65536 in
set_option maxHeartbeats 40000000 in
theorem a155a (l : Launch) (Z : State) (a0 : Array Value) (hw : ∀ d ∈ tables_1, d.before a0 Z = true) (n0 : Nat) (h0 : Heap) (K : Cx) (ok : Ok K Z n0 "com/example/hornconv/hornconv/FactTable" prog_3_method_7_code 6 (some .int) "add") (B : Nat) (hB0 : n0 ≤ B) (hb : Heap) (t un me ag de sl po vv : Addr) (n p r : Nat) (x : Value) (D : List Addr) (mk : Bool) (c : Nat → Int32) (Lm : Nat) (A f uu dd v : Nat → Int32) (μ : Nat → Int64)  (A_t : FO Z h0 t un me ag de sl po (Int32.ofNat n) (Int32.ofNat (r + 1)) (Int32.ofNat (r + 1)) (Int32.ofNat r)) (A_un : PA .int Z h0 un (sv 1 uu)) (A_me : PA .long Z h0 me (lv Lm μ)) (A_ag : PA .int Z h0 ag (sv (cap4 (r + 1) * n) A)) (A_de : PA .boolean Z h0 de (sv (cap4 (r + 1)) dd)) (A_sl : PA .int Z h0 sl (sv (8) f)) (A_po : PP Z h0 po (pm n) p x) (A_q : IXo Z h0 D mk x (r) c) (A_vv : PA .int Z h0 vv (sv 3 v)) (Sp : Sm B hb h0) (ne_t_un : t ≠ un) (ne_t_me : t ≠ me) (ne_t_ag : t ≠ ag) (ne_t_de : t ≠ de) (ne_t_sl : t ≠ sl) (ne_t_po : t ≠ po) (ne_un_me : un ≠ me) (ne_un_ag : un ≠ ag) (ne_un_de : un ≠ de) (ne_un_sl : un ≠ sl) (ne_un_po : un ≠ po) (ne_me_ag : me ≠ ag) (ne_me_de : me ≠ de) (ne_me_sl : me ≠ sl) (ne_me_po : me ≠ po) (ne_ag_de : ag ≠ de) (ne_ag_sl : ag ≠ sl) (ne_ag_po : ag ≠ po) (ne_de_sl : de ≠ sl) (ne_de_po : de ≠ po) (ne_sl_po : sl ≠ po) (nD_t : t ∉ D) (nD_un : un ∉ D) (nD_me : me ∉ D) (nD_ag : ag ∉ D) (nD_de : de ∉ D) (nD_sl : sl ∉ D) (nD_po : po ∉ D) (nB_t : B ≤ t) (nB_un : B ≤ un) (nB_me : B ≤ me) (nB_ag : B ≤ ag) (nB_de : B ≤ de) (nB_sl : B ≤ sl) (nB_po : B ≤ po) (hDB : ∀ a ∈ D, B ≤ a) (nV_t : vv ≠ t) (nV_un : vv ≠ un) (nV_me : vv ≠ me) (nV_ag : vv ≠ ag) (nV_de : vv ≠ de) (nV_sl : vv ≠ sl) (nV_po : vv ≠ po) (nD_vv : vv ∉ D) (g w Lm0 : Nat) (hg : g ≤ 126) (hn : 1 ≤ n ∧ n ≤ 3) (hr : r ≤ 4) (hp : p < n) (hc : ∀ j, c j ≠ -1) (hnd : ∀ k, k ≤ 5 → ndc c k ≤ 2) (hmk : mk = true → 2 ≤ n) (hdd : dd = fun _ => 0) (hLm : Lm ≤ 126) (hI : IR r 8 f) (hs : Int32) (s : Nat) (hs8 : s < 8) (hf : f s = -1) (hRA : RA n p (r + 1) c A Lm) (hLw : n = 1 → w < Lm ∧ Lm0 ≤ Lm) (hvp : 2 ≤ n → v p = c r) (hmt : mk = true) :
    ∀ (cc i : Nat), i + cc = p → W K l ({ frames := 3, cells := 5, slots := (g + 56), locals := 48 } : Room) n0 (fun u h => ∃ z r' Lm', u = some (.int z) ∧ TB Z h B t n p r' c Lm' mk true ∧ Sm B hb h ∧ ((r' = r ∧ n = 1) ∨ r' = r + 1) ∧ (n = 1 → w < Lm' ∧ Lm0 ≤ Lm')) h0 3 (g + 32) 155 #[.val (.ref t), .val (.ref vv), .val (.int hs), .val (.int (Int32.ofNat s)), .val (.int (Int32.ofNat r)), .val (.int (Int32.ofNat i))] [] := by
  intro cc
  induction cc with
  | zero =>
    intro i hi
    obtain rfl : p = i := by omega
    subst hmt
    obtain ⟨q, rfl, X_q⟩ := A_q.made
    replace A_q := X_q
    have h2n := hmk rfl
    have hpm : pm n = n := pm_ge h2n
    have hvp' := hvp h2n
    have lt_t := A_t.lt
    have lt_un := A_un.lt
    have lt_me := A_me.lt
    have lt_ag := A_ag.lt
    have lt_de := A_de.lt
    have lt_sl := A_sl.lt
    have lt_po := A_po.lt
    have lt_vv := A_vv.lt
    have Sb := Sp
    show W K l _ n0 _ h0 _ _ 155 #[.val (.ref t), .val (.ref vv), .val (.int hs), .val (.int (Int32.ofNat s)), .val (.int (Int32.ofNat r)), .val (.int (Int32.ofNat p))] []
    refine w_iload ok d5_155 rfl ?_
    refine w_aloadN ok d5_157 rfl rfl ?_
    refine w_getfield ok (v := (.ref po)) (host := "") (f := ("com/example/hornconv/hornconv/FactTable", "positions", "[Lcom/example/hornconv/hornconv/FactTable$PositionIndex;", (.array (.object "com/example/hornconv/hornconv/FactTable$PositionIndex")))) 6 d5_158 (Or.inl (hw _ (List.mem_of_getElem? (i := 35) rfl))) Via.refl A_t rfl rfl ?_
    refine w_arraylength ok (z := Int32.ofNat (pm n)) d5_161 A_po.1 (pv_z (by omega)) (own_ix0 (by omega)) ?_
    show W K l _ n0 _ h0 _ _ 162 #[.val (.ref t), .val (.ref vv), .val (.int hs), .val (.int (Int32.ofNat s)), .val (.int (Int32.ofNat r)), .val (.int (Int32.ofNat p))] [(.int (Int32.ofNat (pm n))), (.int (Int32.ofNat p))]
    refine w_icmp_ge ok d5_162 (pc' := 197) (by first | decide | omega | (dsimp only; omega)) (fun hc1 => False.elim (by exact hc1 ((own_lt (by omega) (by omega)).mpr (by omega)))) (fun hc1 => ?_)
    refine w_aloadN ok d5_165 rfl rfl ?_
    refine w_getfield ok (v := (.ref po)) (host := "") (f := ("com/example/hornconv/hornconv/FactTable", "positions", "[Lcom/example/hornconv/hornconv/FactTable$PositionIndex;", (.array (.object "com/example/hornconv/hornconv/FactTable$PositionIndex")))) 6 d5_166 (Or.inl (hw _ (List.mem_of_getElem? (i := 35) rfl))) Via.refl A_t rfl rfl ?_
    refine w_iload ok d5_169 rfl ?_
    refine w_aaload ok (v := (.ref q)) d5_171 A_po.1 rfl (own_ix0 (by omega)) (pvp (by omega) (by omega)) ?_
    refine w_ifnullN ok d5_172 ?_
    show W K l _ n0 _ h0 _ _ 175 #[.val (.ref t), .val (.ref vv), .val (.int hs), .val (.int (Int32.ofNat s)), .val (.int (Int32.ofNat r)), .val (.int (Int32.ofNat p))] []
    refine w_aloadN ok d5_175 rfl rfl ?_
    refine w_getfield ok (v := (.ref po)) (host := "") (f := ("com/example/hornconv/hornconv/FactTable", "positions", "[Lcom/example/hornconv/hornconv/FactTable$PositionIndex;", (.array (.object "com/example/hornconv/hornconv/FactTable$PositionIndex")))) 6 d5_176 (Or.inl (hw _ (List.mem_of_getElem? (i := 35) rfl))) Via.refl A_t rfl rfl ?_
    refine w_iload ok d5_179 rfl ?_
    refine w_aaload ok (v := (.ref q)) d5_181 A_po.1 rfl (own_ix0 (by omega)) (pvp (by omega) (by omega)) ?_
    refine w_aloadN ok d5_182 rfl rfl ?_
    refine w_iload ok d5_183 rfl ?_
    refine w_iaload ok (v := (.int (c r))) d5_185 A_vv (own_ix0 (by omega)) (by have e := svg (N := 3) (f := v) (j := p) (by omega) (by omega); rw [hvp'] at e; exact e) ?_
    refine w_iload ok d5_186 rfl ?_
    refine w_callV ok (y := mn_17) (a := q) (argsL := [(.int (c r)), (.int (Int32.ofNat r))]) (rest := []) d5_188 (hw _ (List.mem_of_getElem? (i := 109) rfl)) (hw _ (List.mem_of_getElem? (i := 110) rfl)) (hw _ (List.mem_of_getElem? (i := 112) rfl)) (hw _ (List.mem_of_getElem? (i := 111) rfl)) (hw _ (List.mem_of_getElem? (i := 90) rfl)) (hw _ (List.mem_of_getElem? (i := 113) rfl)) (by first | decide | omega | (dsimp only; omega)) A_q.exa pd_28II29V rfl rfl (by first | decide | omega | (dsimp only; omega)) (Nat.le_of_ble_eq_true rfl) (by first | decide | omega | (dsimp only; omega)) (by first | decide | omega | (dsimp only; omega)) (fun z0 => rm_padd l Z a0 hw [] n0 h0 z0 D q r c A_q (fun a m => Nat.le_trans hB0 (hDB a m)) (by omega) hc (hnd r (by omega))) (fun v3 h4 qv3 => ?_)
    obtain ⟨rfl, D2, X_D2, K1, hm_D2⟩ := qv3
    replace A_t := A_t.keep K1 nD_t
    replace A_un := A_un.keep K1 nD_un
    replace A_me := A_me.keep K1 nD_me
    replace A_ag := A_ag.keep K1 nD_ag
    replace A_de := A_de.keep K1 nD_de
    replace A_sl := A_sl.keep K1 nD_sl
    replace A_po := A_po.keep K1 nD_po
    replace Sp := Sp.keep K1 hDB
    replace A_vv := A_vv.keep K1 nD_vv
    replace A_q := X_D2
    replace nD_t : t ∉ D2 := fun m => (hm_D2 _ m).elim nD_t (fun y => Nat.lt_irrefl _ (Nat.lt_of_lt_of_le lt_t y.1))
    replace nD_un : un ∉ D2 := fun m => (hm_D2 _ m).elim nD_un (fun y => Nat.lt_irrefl _ (Nat.lt_of_lt_of_le lt_un y.1))
    replace nD_me : me ∉ D2 := fun m => (hm_D2 _ m).elim nD_me (fun y => Nat.lt_irrefl _ (Nat.lt_of_lt_of_le lt_me y.1))
    replace nD_ag : ag ∉ D2 := fun m => (hm_D2 _ m).elim nD_ag (fun y => Nat.lt_irrefl _ (Nat.lt_of_lt_of_le lt_ag y.1))
    replace nD_de : de ∉ D2 := fun m => (hm_D2 _ m).elim nD_de (fun y => Nat.lt_irrefl _ (Nat.lt_of_lt_of_le lt_de y.1))
    replace nD_sl : sl ∉ D2 := fun m => (hm_D2 _ m).elim nD_sl (fun y => Nat.lt_irrefl _ (Nat.lt_of_lt_of_le lt_sl y.1))
    replace nD_po : po ∉ D2 := fun m => (hm_D2 _ m).elim nD_po (fun y => Nat.lt_irrefl _ (Nat.lt_of_lt_of_le lt_po y.1))
    replace nD_vv : vv ∉ D2 := fun m => (hm_D2 _ m).elim nD_vv (fun y => Nat.lt_irrefl _ (Nat.lt_of_lt_of_le lt_vv y.1))
    replace hDB : ∀ a ∈ D2, B ≤ a := fun a m => (hm_D2 a m).elim (hDB a) (fun y => Sb.ge y.1)
    show W K l _ n0 _ h4 _ _ 191 #[.val (.ref t), .val (.ref vv), .val (.int hs), .val (.int (Int32.ofNat s)), .val (.int (Int32.ofNat r)), .val (.int (Int32.ofNat p))] []
    refine w_iinc ok d5_191 (u := (1 : Int32)) rfl rfl (L' := #[.val (.ref t), .val (.ref vv), .val (.int hs), .val (.int (Int32.ofNat s)), .val (.int (Int32.ofNat r)), .val (.int ((Int32.ofNat p) + (1 : Int32)))]) rfl ?_
    show W K l _ n0 _ h4 _ _ 194 #[.val (.ref t), .val (.ref vv), .val (.int hs), .val (.int (Int32.ofNat s)), .val (.int (Int32.ofNat r)), .val (.int ((Int32.ofNat p) + (1 : Int32)))] []
    refine w_goto ok d5_194 (pc' := 155) (by first | decide | omega | (dsimp only; omega)) ?_
    show W K l _ n0 _ h4 _ _ 155 #[.val (.ref t), .val (.ref vv), .val (.int hs), .val (.int (Int32.ofNat s)), .val (.int (Int32.ofNat r)), .val (.int ((Int32.ofNat p) + (1 : Int32)))] []
    rw [own_inc]
    exact W.more (a155b l Z a0 hw n0 _ K ok B hB0 hb t un me ag de sl po vv n p r (.ref q) D2 true c Lm A f uu dd v μ  A_t A_un A_me A_ag A_de A_sl A_po (Or.inr ⟨rfl, q, rfl, A_q⟩) A_vv Sp ne_t_un ne_t_me ne_t_ag ne_t_de ne_t_sl ne_t_po ne_un_me ne_un_ag ne_un_de ne_un_sl ne_un_po ne_me_ag ne_me_de ne_me_sl ne_me_po ne_ag_de ne_ag_sl ne_ag_po ne_de_sl ne_de_po ne_sl_po nD_t nD_un nD_me nD_ag nD_de nD_sl nD_po nB_t nB_un nB_me nB_ag nB_de nB_sl nB_po hDB nV_t nV_un nV_me nV_ag nV_de nV_sl nV_po nD_vv g w Lm0 hg hn hr hp hc hnd hmk hdd hLm hI hs s hs8 hf hRA hLw hvp (pm n - (p + 1)) (p + 1) (by omega) (fun _ => by omega)) (by first | decide | omega | (dsimp only; omega)) (by first | decide | omega | (dsimp only; omega))
  | succ cc ih =>
    intro i hi
    subst hmt
    obtain ⟨q, rfl, X_q⟩ := A_q.made
    replace A_q := X_q
    have h2n := hmk rfl
    have hpm : pm n = n := pm_ge h2n
    have hvp' := hvp h2n
    show W K l _ n0 _ h0 _ _ 155 #[.val (.ref t), .val (.ref vv), .val (.int hs), .val (.int (Int32.ofNat s)), .val (.int (Int32.ofNat r)), .val (.int (Int32.ofNat i))] []
    refine w_iload ok d5_155 rfl ?_
    refine w_aloadN ok d5_157 rfl rfl ?_
    refine w_getfield ok (v := (.ref po)) (host := "") (f := ("com/example/hornconv/hornconv/FactTable", "positions", "[Lcom/example/hornconv/hornconv/FactTable$PositionIndex;", (.array (.object "com/example/hornconv/hornconv/FactTable$PositionIndex")))) 6 d5_158 (Or.inl (hw _ (List.mem_of_getElem? (i := 35) rfl))) Via.refl A_t rfl rfl ?_
    refine w_arraylength ok (z := Int32.ofNat (pm n)) d5_161 A_po.1 (pv_z (by omega)) (own_ix0 (by omega)) ?_
    show W K l _ n0 _ h0 _ _ 162 #[.val (.ref t), .val (.ref vv), .val (.int hs), .val (.int (Int32.ofNat s)), .val (.int (Int32.ofNat r)), .val (.int (Int32.ofNat i))] [(.int (Int32.ofNat (pm n))), (.int (Int32.ofNat i))]
    refine w_icmp_ge ok d5_162 (pc' := 197) (by first | decide | omega | (dsimp only; omega)) (fun hc6 => False.elim (by exact hc6 ((own_lt (by omega) (by omega)).mpr (by omega)))) (fun hc6 => ?_)
    refine w_aloadN ok d5_165 rfl rfl ?_
    refine w_getfield ok (v := (.ref po)) (host := "") (f := ("com/example/hornconv/hornconv/FactTable", "positions", "[Lcom/example/hornconv/hornconv/FactTable$PositionIndex;", (.array (.object "com/example/hornconv/hornconv/FactTable$PositionIndex")))) 6 d5_166 (Or.inl (hw _ (List.mem_of_getElem? (i := 35) rfl))) Via.refl A_t rfl rfl ?_
    refine w_iload ok d5_169 rfl ?_
    refine w_aaload ok (v := .null) d5_171 A_po.1 rfl (own_ix0 (by omega)) (pvn (by omega) (by omega) (fun e => absurd e (by omega))) ?_
    refine w_ifnullY ok d5_172 (pc' := 191) (by first | decide | omega | (dsimp only; omega)) ?_
    show W K l _ n0 _ h0 _ _ 191 #[.val (.ref t), .val (.ref vv), .val (.int hs), .val (.int (Int32.ofNat s)), .val (.int (Int32.ofNat r)), .val (.int (Int32.ofNat i))] []
    refine w_iinc ok d5_191 (u := (1 : Int32)) rfl rfl (L' := #[.val (.ref t), .val (.ref vv), .val (.int hs), .val (.int (Int32.ofNat s)), .val (.int (Int32.ofNat r)), .val (.int ((Int32.ofNat i) + (1 : Int32)))]) rfl ?_
    show W K l _ n0 _ h0 _ _ 194 #[.val (.ref t), .val (.ref vv), .val (.int hs), .val (.int (Int32.ofNat s)), .val (.int (Int32.ofNat r)), .val (.int ((Int32.ofNat i) + (1 : Int32)))] []
    refine w_goto ok d5_194 (pc' := 155) (by first | decide | omega | (dsimp only; omega)) ?_
    show W K l _ n0 _ h0 _ _ 155 #[.val (.ref t), .val (.ref vv), .val (.int hs), .val (.int (Int32.ofNat s)), .val (.int (Int32.ofNat r)), .val (.int ((Int32.ofNat i) + (1 : Int32)))] []
    rw [own_inc]
    exact ih (i + 1) (by omega)
set_option maxRecDepth 65536 in
set_option maxHeartbeats 40000000 in
theorem a152 (l : Launch) (Z : State) (a0 : Array Value) (hw : ∀ d ∈ tables_1, d.before a0 Z = true) (n0 : Nat) (h0 : Heap) (K : Cx) (ok : Ok K Z n0 "com/example/hornconv/hornconv/FactTable" prog_3_method_7_code 6 (some .int) "add") (B : Nat) (hB0 : n0 ≤ B) (hb : Heap) (t un me ag de sl po vv : Addr) (n p r : Nat) (x : Value) (D : List Addr) (mk : Bool) (c : Nat → Int32) (Lm : Nat) (A f uu dd v : Nat → Int32) (μ : Nat → Int64)  (A_t : FO Z h0 t un me ag de sl po (Int32.ofNat n) (Int32.ofNat (r + 1)) (Int32.ofNat (r + 1)) (Int32.ofNat r)) (A_un : PA .int Z h0 un (sv 1 uu)) (A_me : PA .long Z h0 me (lv Lm μ)) (A_ag : PA .int Z h0 ag (sv (cap4 (r + 1) * n) A)) (A_de : PA .boolean Z h0 de (sv (cap4 (r + 1)) dd)) (A_sl : PA .int Z h0 sl (sv (8) f)) (A_po : PP Z h0 po (pm n) p x) (A_q : IXo Z h0 D mk x (r) c) (A_vv : PA .int Z h0 vv (sv 3 v)) (Sp : Sm B hb h0) (ne_t_un : t ≠ un) (ne_t_me : t ≠ me) (ne_t_ag : t ≠ ag) (ne_t_de : t ≠ de) (ne_t_sl : t ≠ sl) (ne_t_po : t ≠ po) (ne_un_me : un ≠ me) (ne_un_ag : un ≠ ag) (ne_un_de : un ≠ de) (ne_un_sl : un ≠ sl) (ne_un_po : un ≠ po) (ne_me_ag : me ≠ ag) (ne_me_de : me ≠ de) (ne_me_sl : me ≠ sl) (ne_me_po : me ≠ po) (ne_ag_de : ag ≠ de) (ne_ag_sl : ag ≠ sl) (ne_ag_po : ag ≠ po) (ne_de_sl : de ≠ sl) (ne_de_po : de ≠ po) (ne_sl_po : sl ≠ po) (nD_t : t ∉ D) (nD_un : un ∉ D) (nD_me : me ∉ D) (nD_ag : ag ∉ D) (nD_de : de ∉ D) (nD_sl : sl ∉ D) (nD_po : po ∉ D) (nB_t : B ≤ t) (nB_un : B ≤ un) (nB_me : B ≤ me) (nB_ag : B ≤ ag) (nB_de : B ≤ de) (nB_sl : B ≤ sl) (nB_po : B ≤ po) (hDB : ∀ a ∈ D, B ≤ a) (nV_t : vv ≠ t) (nV_un : vv ≠ un) (nV_me : vv ≠ me) (nV_ag : vv ≠ ag) (nV_de : vv ≠ de) (nV_sl : vv ≠ sl) (nV_po : vv ≠ po) (nD_vv : vv ∉ D) (g w Lm0 : Nat) (hg : g ≤ 126) (hn : 1 ≤ n ∧ n ≤ 3) (hr : r ≤ 4) (hp : p < n) (hc : ∀ j, c j ≠ -1) (hnd : ∀ k, k ≤ 5 → ndc c k ≤ 2) (hmk : mk = true → 2 ≤ n) (hdd : dd = fun _ => 0) (hLm : Lm ≤ 126) (hI : IR r 8 f) (hs : Int32) (s : Nat) (hs8 : s < 8) (hf : f s = -1) (hRA : RA n p (r + 1) c A Lm) (hLw : n = 1 → w < Lm ∧ Lm0 ≤ Lm) (hvp : 2 ≤ n → v p = c r) :
    W K l ({ frames := 3, cells := 5, slots := (g + 56), locals := 48 } : Room) n0 (fun u h => ∃ z r' Lm', u = some (.int z) ∧ TB Z h B t n p r' c Lm' mk true ∧ Sm B hb h ∧ ((r' = r ∧ n = 1) ∨ r' = r + 1) ∧ (n = 1 → w < Lm' ∧ Lm0 ≤ Lm')) h0 3 (g + 32) 152 #[.val (.ref t), .val (.ref vv), .val (.int hs), .val (.int (Int32.ofNat s)), .val (.int (Int32.ofNat r)), .unset] [] := by
  show W K l _ n0 _ h0 _ _ 152 #[.val (.ref t), .val (.ref vv), .val (.int hs), .val (.int (Int32.ofNat s)), .val (.int (Int32.ofNat r)), .unset] []
  refine w_iconst ok d5_152 (v := (0 : Int32)) rfl ?_
  refine w_istore ok d5_153 (L' := #[.val (.ref t), .val (.ref vv), .val (.int hs), .val (.int (Int32.ofNat s)), .val (.int (Int32.ofNat r)), .val (.int (0 : Int32))]) rfl ?_
  show W K l _ n0 _ h0 _ _ 155 #[.val (.ref t), .val (.ref vv), .val (.int hs), .val (.int (Int32.ofNat s)), .val (.int (Int32.ofNat r)), .val (.int (0 : Int32))] []
  cases mk with
  | false => exact W.more (a155b l Z a0 hw n0 h0 K ok B hB0 hb t un me ag de sl po vv n p r x D false c Lm A f uu dd v μ  A_t A_un A_me A_ag A_de A_sl A_po (A_q.any (r + 1)) A_vv Sp ne_t_un ne_t_me ne_t_ag ne_t_de ne_t_sl ne_t_po ne_un_me ne_un_ag ne_un_de ne_un_sl ne_un_po ne_me_ag ne_me_de ne_me_sl ne_me_po ne_ag_de ne_ag_sl ne_ag_po ne_de_sl ne_de_po ne_sl_po nD_t nD_un nD_me nD_ag nD_de nD_sl nD_po nB_t nB_un nB_me nB_ag nB_de nB_sl nB_po hDB nV_t nV_un nV_me nV_ag nV_de nV_sl nV_po nD_vv g w Lm0 hg hn hr hp hc hnd hmk hdd hLm hI hs s hs8 hf hRA hLw hvp (pm n) 0 (by omega) (fun e => nomatch e)) (by first | decide | omega | (dsimp only; omega)) (by omega)
  | true => exact a155a l Z a0 hw n0 h0 K ok B hB0 hb t un me ag de sl po vv n p r x D true c Lm A f uu dd v μ  A_t A_un A_me A_ag A_de A_sl A_po A_q A_vv Sp ne_t_un ne_t_me ne_t_ag ne_t_de ne_t_sl ne_t_po ne_un_me ne_un_ag ne_un_de ne_un_sl ne_un_po ne_me_ag ne_me_de ne_me_sl ne_me_po ne_ag_de ne_ag_sl ne_ag_po ne_de_sl ne_de_po ne_sl_po nD_t nD_un nD_me nD_ag nD_de nD_sl nD_po nB_t nB_un nB_me nB_ag nB_de nB_sl nB_po hDB nV_t nV_un nV_me nV_ag nV_de nV_sl nV_po nD_vv g w Lm0 hg hn hr hp hc hnd hmk hdd hLm hI hs s hs8 hf hRA hLw hvp rfl p 0 (by omega)
set_option maxRecDepth 65536 in
set_option maxHeartbeats 40000000 in
theorem a96 (l : Launch) (Z : State) (a0 : Array Value) (hw : ∀ d ∈ tables_1, d.before a0 Z = true) (n0 : Nat) (h0 : Heap) (K : Cx) (ok : Ok K Z n0 "com/example/hornconv/hornconv/FactTable" prog_3_method_7_code 6 (some .int) "add") (B : Nat) (hB0 : n0 ≤ B) (hb : Heap) (t un me ag de sl po vv : Addr) (n p r : Nat) (x : Value) (D : List Addr) (mk : Bool) (c : Nat → Int32) (Lm : Nat) (A f uu dd v : Nat → Int32) (μ : Nat → Int64)  (A_t : FO Z h0 t un me ag de sl po (Int32.ofNat n) (Int32.ofNat r) (Int32.ofNat r) (Int32.ofNat r)) (A_un : PA .int Z h0 un (sv 1 uu)) (A_me : PA .long Z h0 me (lv Lm μ)) (A_ag : PA .int Z h0 ag (sv (cap4 (r + 1) * n) A)) (A_de : PA .boolean Z h0 de (sv (cap4 (r + 1)) dd)) (A_sl : PA .int Z h0 sl (sv (8) f)) (A_po : PP Z h0 po (pm n) p x) (A_q : IXo Z h0 D mk x (r) c) (A_vv : PA .int Z h0 vv (sv 3 v)) (Sp : Sm B hb h0) (ne_t_un : t ≠ un) (ne_t_me : t ≠ me) (ne_t_ag : t ≠ ag) (ne_t_de : t ≠ de) (ne_t_sl : t ≠ sl) (ne_t_po : t ≠ po) (ne_un_me : un ≠ me) (ne_un_ag : un ≠ ag) (ne_un_de : un ≠ de) (ne_un_sl : un ≠ sl) (ne_un_po : un ≠ po) (ne_me_ag : me ≠ ag) (ne_me_de : me ≠ de) (ne_me_sl : me ≠ sl) (ne_me_po : me ≠ po) (ne_ag_de : ag ≠ de) (ne_ag_sl : ag ≠ sl) (ne_ag_po : ag ≠ po) (ne_de_sl : de ≠ sl) (ne_de_po : de ≠ po) (ne_sl_po : sl ≠ po) (nD_t : t ∉ D) (nD_un : un ∉ D) (nD_me : me ∉ D) (nD_ag : ag ∉ D) (nD_de : de ∉ D) (nD_sl : sl ∉ D) (nD_po : po ∉ D) (nB_t : B ≤ t) (nB_un : B ≤ un) (nB_me : B ≤ me) (nB_ag : B ≤ ag) (nB_de : B ≤ de) (nB_sl : B ≤ sl) (nB_po : B ≤ po) (hDB : ∀ a ∈ D, B ≤ a) (nV_t : vv ≠ t) (nV_un : vv ≠ un) (nV_me : vv ≠ me) (nV_ag : vv ≠ ag) (nV_de : vv ≠ de) (nV_sl : vv ≠ sl) (nV_po : vv ≠ po) (nD_vv : vv ∉ D) (g w Lm0 : Nat) (hg : g ≤ 126) (hn : 1 ≤ n ∧ n ≤ 3) (hr : r ≤ 4) (hp : p < n) (hc : ∀ j, c j ≠ -1) (hnd : ∀ k, k ≤ 5 → ndc c k ≤ 2) (hmk : mk = true → 2 ≤ n) (hdd : dd = fun _ => 0) (hLm : Lm ≤ 126) (hI : IR r 8 f) (hs : Int32) (s : Nat) (hs8 : s < 8) (hf : f s = -1) (hv2 : 2 ≤ n → v = vrow p c r) (hv1 : n = 1 → Jvm.Free.XT.ushr (v 0) 6 = Int32.ofNat w) (hwb : w < 64) (hgr : n = 1 → ¬ w < Lm → 2 * Lm ≤ g ∧ w + 1 ≤ g) (hL0 : Lm0 ≤ Lm) (hRA : RA n p r c A Lm) :
    W K l ({ frames := 3, cells := 5, slots := (g + 56), locals := 48 } : Room) n0 (fun u h => ∃ z r' Lm', u = some (.int z) ∧ TB Z h B t n p r' c Lm' mk true ∧ Sm B hb h ∧ ((r' = r ∧ n = 1) ∨ r' = r + 1) ∧ (n = 1 → w < Lm' ∧ Lm0 ≤ Lm')) h0 2 32 96 #[.val (.ref t), .val (.ref vv), .val (.int hs), .val (.int (Int32.ofNat s)), .val (.int (Int32.ofNat r)), .unset] [] := by
  have ge_t := Nat.le_trans hB0 nB_t
  have ge_un := Nat.le_trans hB0 nB_un
  have ge_me := Nat.le_trans hB0 nB_me
  have ge_ag := Nat.le_trans hB0 nB_ag
  have ge_de := Nat.le_trans hB0 nB_de
  have ge_sl := Nat.le_trans hB0 nB_sl
  have ge_po := Nat.le_trans hB0 nB_po
  have hcb := own_cb hr hn.2
  show W K l _ n0 _ h0 2 32 96 #[.val (.ref t), .val (.ref vv), .val (.int hs), .val (.int (Int32.ofNat s)), .val (.int (Int32.ofNat r)), .unset] []
  refine w_aloadN ok d5_96 rfl rfl ?_
  refine w_iconst ok d5_97 (v := (0 : Int32)) rfl ?_
  refine w_aloadN ok d5_98 rfl rfl ?_
  refine w_getfield ok (v := (.ref ag)) (host := "") (f := ("com/example/hornconv/hornconv/FactTable", "arguments", "[I", (.array .int))) 3 d5_99 (Or.inl (hw _ (List.mem_of_getElem? (i := 22) rfl))) Via.refl A_t rfl rfl ?_
  refine w_iload ok d5_102 rfl ?_
  refine w_aloadN ok d5_104 rfl rfl ?_
  refine w_getfield ok (v := (.int (Int32.ofNat n))) (host := "") (f := ("com/example/hornconv/hornconv/FactTable", "arity", "I", .int)) 2 d5_105 (Or.inl (hw _ (List.mem_of_getElem? (i := 20) rfl))) Via.refl A_t rfl rfl ?_
  refine w_imul ok d5_108 ?_
  refine w_aloadN ok d5_109 rfl rfl ?_
  refine w_getfield ok (v := (.int (Int32.ofNat n))) (host := "") (f := ("com/example/hornconv/hornconv/FactTable", "arity", "I", .int)) 2 d5_110 (Or.inl (hw _ (List.mem_of_getElem? (i := 20) rfl))) Via.refl A_t rfl rfl ?_
  refine w_arraycopy ok (sp' := 0) (dp' := (r * n)) (nn' := n) d5_113 (hw _ (List.mem_of_getElem? (i := 53) rfl)) (hw _ (List.mem_of_getElem? (i := 56) rfl)) (hw _ (List.mem_of_getElem? (i := 54) rfl)) (hw _ (List.mem_of_getElem? (i := 55) rfl)) A_vv A_ag rfl ge_ag (by first | decide | omega | (dsimp only; omega)) (by rw [own_mul]; exact own_ix0 (by omega)) (own_ix0 (by omega)) rfl (by rw [own_mul]; exact own_ix (by omega)) (own_ix (by omega)) (by rw [sv_len]; omega) (by rw [sv_len]; omega) rfl (by first | decide | omega | (dsimp only; omega)) (Nat.le_of_ble_eq_true rfl) (fun h1 K_h1 A1_h1 => ?_)
  replace A_t := A_t.keep K_h1 (ninS ne_t_ag nin0)
  replace A_un := A_un.keep K_h1 (ninS ne_un_ag nin0)
  replace A_me := A_me.keep K_h1 (ninS ne_me_ag nin0)
  replace A_de := A_de.keep K_h1 (ninS (Ne.symm ne_ag_de) nin0)
  replace A_sl := A_sl.keep K_h1 (ninS (Ne.symm ne_ag_sl) nin0)
  replace A_po := A_po.keep K_h1 (ninS (Ne.symm ne_ag_po) nin0)
  replace A_q := A_q.keep K_h1 (allS nD_ag all0)
  replace Sp := Sp.keep K_h1 (allS nB_ag all0)
  replace A_vv := A_vv.keep K_h1 (ninS nV_ag nin0)
  replace A_ag : PA .int Z h1 ag (sv (cap4 (r + 1) * n) (ins A (r * n) n v)) := (by rw [← sv_copy (M := 3) hcb.1 hn.2]; exact A1_h1)
  show W K l _ n0 _ h1 2 32 116 #[.val (.ref t), .val (.ref vv), .val (.int hs), .val (.int (Int32.ofNat s)), .val (.int (Int32.ofNat r)), .unset] []
  refine w_aloadN ok d5_116 rfl rfl ?_
  refine w_dup ok d5_117 rfl ?_
  refine w_getfield ok (v := (.int (Int32.ofNat r))) (host := "") (f := ("com/example/hornconv/hornconv/FactTable", "rows", "I", .int)) 7 d5_118 (Or.inl (hw _ (List.mem_of_getElem? (i := 51) rfl))) Via.refl A_t rfl rfl ?_
  refine w_iconst ok d5_121 (v := (1 : Int32)) rfl ?_
  refine w_iadd ok d5_122 ?_
  refine w_putfield ok (host := "") (f := ("com/example/hornconv/hornconv/FactTable", "rows", "I", .int)) 7 d5_123 (Or.inl (hw _ (List.mem_of_getElem? (i := 51) rfl))) Via.refl A_t (la_FactTable hw) rfl rfl (Or.inl (hw _ (List.mem_of_getElem? (i := 52) rfl))) (hw _ (List.mem_of_getElem? (i := 7) rfl)) rfl rfl ge_t (fun h2 W_h2 A1_h2 => ?_)
  replace A_un := A_un.other W_h2 (Ne.symm ne_t_un)
  replace A_me := A_me.other W_h2 (Ne.symm ne_t_me)
  replace A_ag := A_ag.other W_h2 (Ne.symm ne_t_ag)
  replace A_de := A_de.other W_h2 (Ne.symm ne_t_de)
  replace A_sl := A_sl.other W_h2 (Ne.symm ne_t_sl)
  replace A_po := A_po.other W_h2 (Ne.symm ne_t_po)
  replace A_q := A_q.other W_h2 nD_t
  replace Sp := Sp.other W_h2 nB_t
  replace A_vv := A_vv.other W_h2 nV_t
  replace A_t : Ob Z h2 t "com/example/hornconv/hornconv/FactTable" fl_FactTable [(.ref un), (.ref me), (.int (Int32.ofNat n)), (.ref ag), (.ref de), (.ref sl), (.ref po), (.int ((Int32.ofNat r) + (1 : Int32))), (.int (Int32.ofNat r)), (.int (Int32.ofNat r))] := A1_h2
  refine w_aloadN ok d5_126 rfl rfl ?_
  refine w_dup ok d5_127 rfl ?_
  refine w_getfield ok (v := (.int (Int32.ofNat r))) (host := "") (f := ("com/example/hornconv/hornconv/FactTable", "live", "I", .int)) 8 d5_128 (Or.inl (hw _ (List.mem_of_getElem? (i := 57) rfl))) Via.refl A_t rfl rfl ?_
  refine w_iconst ok d5_131 (v := (1 : Int32)) rfl ?_
  refine w_iadd ok d5_132 ?_
  refine w_putfield ok (host := "") (f := ("com/example/hornconv/hornconv/FactTable", "live", "I", .int)) 8 d5_133 (Or.inl (hw _ (List.mem_of_getElem? (i := 57) rfl))) Via.refl A_t (la_FactTable hw) rfl rfl (Or.inl (hw _ (List.mem_of_getElem? (i := 58) rfl))) (hw _ (List.mem_of_getElem? (i := 7) rfl)) rfl rfl ge_t (fun h3 W_h3 A1_h3 => ?_)
  replace A_un := A_un.other W_h3 (Ne.symm ne_t_un)
  replace A_me := A_me.other W_h3 (Ne.symm ne_t_me)
  replace A_ag := A_ag.other W_h3 (Ne.symm ne_t_ag)
  replace A_de := A_de.other W_h3 (Ne.symm ne_t_de)
  replace A_sl := A_sl.other W_h3 (Ne.symm ne_t_sl)
  replace A_po := A_po.other W_h3 (Ne.symm ne_t_po)
  replace A_q := A_q.other W_h3 nD_t
  replace Sp := Sp.other W_h3 nB_t
  replace A_vv := A_vv.other W_h3 nV_t
  replace A_t : Ob Z h3 t "com/example/hornconv/hornconv/FactTable" fl_FactTable [(.ref un), (.ref me), (.int (Int32.ofNat n)), (.ref ag), (.ref de), (.ref sl), (.ref po), (.int ((Int32.ofNat r) + (1 : Int32))), (.int ((Int32.ofNat r) + (1 : Int32))), (.int (Int32.ofNat r))] := A1_h3
  show W K l _ n0 _ h3 2 32 136 #[.val (.ref t), .val (.ref vv), .val (.int hs), .val (.int (Int32.ofNat s)), .val (.int (Int32.ofNat r)), .unset] []
  rw [own_inc] at A_t
  refine w_aloadN ok d5_136 rfl rfl ?_
  refine w_getfield ok (v := (.int (Int32.ofNat n))) (host := "") (f := ("com/example/hornconv/hornconv/FactTable", "arity", "I", .int)) 2 d5_137 (Or.inl (hw _ (List.mem_of_getElem? (i := 20) rfl))) Via.refl A_t rfl rfl ?_
  refine w_iconst ok d5_140 (v := (1 : Int32)) rfl ?_
  refine w_icmp_ne ok d5_141 (pc' := 152) (by first | decide | omega | (dsimp only; omega)) (fun hc5 => ?_) (fun hc5 => ?_)
  · skip
    exact W.more (a152 l Z a0 hw n0 _ K ok B hB0 hb t un me ag de sl po vv n p r x D mk c Lm (ins A (r * n) n v) f uu dd v μ  A_t A_un A_me A_ag A_de A_sl A_po A_q A_vv Sp ne_t_un ne_t_me ne_t_ag ne_t_de ne_t_sl ne_t_po ne_un_me ne_un_ag ne_un_de ne_un_sl ne_un_po ne_me_ag ne_me_de ne_me_sl ne_me_po ne_ag_de ne_ag_sl ne_ag_po ne_de_sl ne_de_po ne_sl_po nD_t nD_un nD_me nD_ag nD_de nD_sl nD_po nB_t nB_un nB_me nB_ag nB_de nB_sl nB_po hDB nV_t nV_un nV_me nV_ag nV_de nV_sl nV_po nD_vv g w Lm0 hg hn hr hp hc hnd hmk hdd hLm hI hs s hs8 hf (hRA.put2 (own_g2 hn hc5) (hv2 (own_g2 hn hc5))) (fun e => absurd (own_g2 hn hc5) (by omega)) (fun e => by rw [hv2 e, vrow, upd_same])) (by first | decide | omega | (dsimp only; omega)) (by first | decide | omega | (dsimp only; omega))
  · skip
    refine w_aloadN ok d5_144 rfl rfl ?_
    refine w_aloadN ok d5_145 rfl rfl ?_
    refine w_iconst ok d5_146 (v := (0 : Int32)) rfl ?_
    refine w_iaload ok (v := (.int (v 0))) d5_147 A_vv (by first | decide | omega | (dsimp only; omega)) (svg (j := 0) (by omega) (by omega)) ?_
    refine w_iconst ok d5_148 (v := (1 : Int32)) rfl ?_
    refine w_callP ok (y := mn_24) (a := t) (argsL := [(.int (v 0)), (.int (1 : Int32))]) (rest := []) d5_149 (hw _ (List.mem_of_getElem? (i := 144) rfl)) (hw _ (List.mem_of_getElem? (i := 145) rfl)) (hw _ (List.mem_of_getElem? (i := 146) rfl)) (hw _ (List.mem_of_getElem? (i := 7) rfl)) (hw _ (List.mem_of_getElem? (i := 8) rfl)) (hw _ (List.mem_of_getElem? (i := 147) rfl)) (by first | decide | omega | (dsimp only; omega)) A_t.1 pd_28IZ29V rfl rfl (by first | decide | omega | (dsimp only; omega)) (Nat.le_of_ble_eq_true rfl) (by first | decide | omega | (dsimp only; omega)) (by first | decide | omega | (dsimp only; omega)) (fun z0 => rm_setM l Z a0 hw [] n0 h3 z0 t un me ag de sl po n (Int32.ofNat (r + 1)) (Int32.ofNat (r + 1)) (Int32.ofNat r) A_t Lm w μ (v 0) A_me (hv1 (own_e1 hn.2 hc5)) hwb hLm g hg (hgr (own_e1 hn.2 hc5)) ge_t ge_me ne_t_me) (fun v6 h7 qv6 => ?_)
    obtain ⟨rfl, me1, Lm1, μ1, hme, ge_me1, ne_t_me1, hw1, hL1, hL126, K1, A1, A_me1⟩ := qv6
    have nm_un : un ≠ me1 := own_orne (P := fun a => un ≠ a) hme ne_un_me (fun y => Nat.ne_of_lt (Nat.lt_of_lt_of_le A_un.lt y))
    have nm_ag : ag ≠ me1 := own_orne (P := fun a => ag ≠ a) hme (Ne.symm ne_me_ag) (fun y => Nat.ne_of_lt (Nat.lt_of_lt_of_le A_ag.lt y))
    have nm_de : de ≠ me1 := own_orne (P := fun a => de ≠ a) hme (Ne.symm ne_me_de) (fun y => Nat.ne_of_lt (Nat.lt_of_lt_of_le A_de.lt y))
    have nm_sl : sl ≠ me1 := own_orne (P := fun a => sl ≠ a) hme (Ne.symm ne_me_sl) (fun y => Nat.ne_of_lt (Nat.lt_of_lt_of_le A_sl.lt y))
    have nm_po : po ≠ me1 := own_orne (P := fun a => po ≠ a) hme (Ne.symm ne_me_po) (fun y => Nat.ne_of_lt (Nat.lt_of_lt_of_le A_po.lt y))
    have nm_q : me1 ∉ D := own_orne (P := fun a => a ∉ D) hme nD_me (fun y => A_q.nin y)
    have nm_Sp : B ≤ me1 := own_orne (P := fun a => B ≤ a) hme nB_me (fun y => Sp.ge y)
    have nm_vv : vv ≠ me1 := own_orne (P := fun a => vv ≠ a) hme nV_me (fun y => Nat.ne_of_lt (Nat.lt_of_lt_of_le A_vv.lt y))
    replace A_un := A_un.keep K1 (ninS (Ne.symm ne_t_un) (ninS ne_un_me nin0))
    replace A_ag := A_ag.keep K1 (ninS (Ne.symm ne_t_ag) (ninS (Ne.symm ne_me_ag) nin0))
    replace A_de := A_de.keep K1 (ninS (Ne.symm ne_t_de) (ninS (Ne.symm ne_me_de) nin0))
    replace A_sl := A_sl.keep K1 (ninS (Ne.symm ne_t_sl) (ninS (Ne.symm ne_me_sl) nin0))
    replace A_po := A_po.keep K1 (ninS (Ne.symm ne_t_po) (ninS (Ne.symm ne_me_po) nin0))
    replace A_q := A_q.keep K1 (allS nD_t (allS nD_me all0))
    replace Sp := Sp.keep K1 (allS nB_t (allS nB_me all0))
    replace A_vv := A_vv.keep K1 (ninS nV_t (ninS nV_me nin0))
    replace A_t := A1
    show W K l _ n0 _ h7 _ _ 152 #[.val (.ref t), .val (.ref vv), .val (.int hs), .val (.int (Int32.ofNat s)), .val (.int (Int32.ofNat r)), .unset] []
    exact W.more (a152 l Z a0 hw n0 _ K ok B hB0 hb t un me1 ag de sl po vv n p r x D mk c Lm1 (ins A (r * n) n v) f uu dd v μ1  A_t A_un A_me1 A_ag A_de A_sl A_po A_q A_vv Sp ne_t_un ne_t_me1 ne_t_ag ne_t_de ne_t_sl ne_t_po nm_un ne_un_ag ne_un_de ne_un_sl ne_un_po (Ne.symm nm_ag) (Ne.symm nm_de) (Ne.symm nm_sl) (Ne.symm nm_po) ne_ag_de ne_ag_sl ne_ag_po ne_de_sl ne_de_po ne_sl_po nD_t nD_un nm_q nD_ag nD_de nD_sl nD_po nB_t nB_un nm_Sp nB_ag nB_de nB_sl nB_po hDB nV_t nV_un nm_vv nV_ag nV_de nV_sl nV_po nD_vv g w Lm0 hg hn hr hp hc hnd hmk hdd hL126 hI hs s hs8 hf (hRA.put1' (own_e1 hn.2 hc5) hL1 (hv1 (own_e1 hn.2 hc5)) hw1) (fun _ => ⟨hw1, Nat.le_trans hL0 hL1⟩) (fun e => absurd (own_e1 hn.2 hc5) (by omega))) (by first | decide | omega | (dsimp only; omega)) (by first | decide | omega | (dsimp only; omega))
set_option maxRecDepth 65536 in
set_option maxHeartbeats 40000000 in
theorem a45 (l : Launch) (Z : State) (a0 : Array Value) (hw : ∀ d ∈ tables_1, d.before a0 Z = true) (n0 : Nat) (h0 : Heap) (K : Cx) (ok : Ok K Z n0 "com/example/hornconv/hornconv/FactTable" prog_3_method_7_code 6 (some .int) "add") (B : Nat) (hB0 : n0 ≤ B) (hb : Heap) (t un me ag de sl po vv : Addr) (n p r : Nat) (x : Value) (D : List Addr) (mk : Bool) (c : Nat → Int32) (Lm : Nat) (A f uu dd v : Nat → Int32) (μ : Nat → Int64)  (A_t : FO Z h0 t un me ag de sl po (Int32.ofNat n) (Int32.ofNat r) (Int32.ofNat r) (Int32.ofNat r)) (A_un : PA .int Z h0 un (sv 1 uu)) (A_me : PA .long Z h0 me (lv Lm μ)) (A_ag : PA .int Z h0 ag (sv (4 * n) A)) (A_de : PA .boolean Z h0 de (sv (4) dd)) (A_sl : PA .int Z h0 sl (sv (8) f)) (A_po : PP Z h0 po (pm n) p x) (A_q : IXo Z h0 D mk x (r) c) (A_vv : PA .int Z h0 vv (sv 3 v)) (Sp : Sm B hb h0) (ne_t_un : t ≠ un) (ne_t_me : t ≠ me) (ne_t_ag : t ≠ ag) (ne_t_de : t ≠ de) (ne_t_sl : t ≠ sl) (ne_t_po : t ≠ po) (ne_un_me : un ≠ me) (ne_un_ag : un ≠ ag) (ne_un_de : un ≠ de) (ne_un_sl : un ≠ sl) (ne_un_po : un ≠ po) (ne_me_ag : me ≠ ag) (ne_me_de : me ≠ de) (ne_me_sl : me ≠ sl) (ne_me_po : me ≠ po) (ne_ag_de : ag ≠ de) (ne_ag_sl : ag ≠ sl) (ne_ag_po : ag ≠ po) (ne_de_sl : de ≠ sl) (ne_de_po : de ≠ po) (ne_sl_po : sl ≠ po) (nD_t : t ∉ D) (nD_un : un ∉ D) (nD_me : me ∉ D) (nD_ag : ag ∉ D) (nD_de : de ∉ D) (nD_sl : sl ∉ D) (nD_po : po ∉ D) (nB_t : B ≤ t) (nB_un : B ≤ un) (nB_me : B ≤ me) (nB_ag : B ≤ ag) (nB_de : B ≤ de) (nB_sl : B ≤ sl) (nB_po : B ≤ po) (hDB : ∀ a ∈ D, B ≤ a) (nV_t : vv ≠ t) (nV_un : vv ≠ un) (nV_me : vv ≠ me) (nV_ag : vv ≠ ag) (nV_de : vv ≠ de) (nV_sl : vv ≠ sl) (nV_po : vv ≠ po) (nD_vv : vv ∉ D) (g w Lm0 : Nat) (hg : g ≤ 126) (hn : 1 ≤ n ∧ n ≤ 3) (hr : r ≤ 4) (hp : p < n) (hc : ∀ j, c j ≠ -1) (hnd : ∀ k, k ≤ 5 → ndc c k ≤ 2) (hmk : mk = true → 2 ≤ n) (hdd : dd = fun _ => 0) (hLm : Lm ≤ 126) (hI : IR r 8 f) (hs : Int32) (s : Nat) (hs8 : s < 8) (hf : f s = -1) (hv2 : 2 ≤ n → v = vrow p c r) (hv1 : n = 1 → Jvm.Free.XT.ushr (v 0) 6 = Int32.ofNat w) (hwb : w < 64) (hgr : n = 1 → ¬ w < Lm → 2 * Lm ≤ g ∧ w + 1 ≤ g) (hL0 : Lm0 ≤ Lm) (hRA : RA n p r c A Lm) :
    W K l ({ frames := 3, cells := 5, slots := (g + 56), locals := 48 } : Room) n0 (fun u h => ∃ z r' Lm', u = some (.int z) ∧ TB Z h B t n p r' c Lm' mk true ∧ Sm B hb h ∧ ((r' = r ∧ n = 1) ∨ r' = r + 1) ∧ (n = 1 → w < Lm' ∧ Lm0 ≤ Lm')) h0 0 0 45 #[.val (.ref t), .val (.ref vv), .val (.int hs), .val (.int (Int32.ofNat s)), .unset, .unset] [] := by
  have ge_t := Nat.le_trans hB0 nB_t
  obtain h4 | rfl : r < 4 ∨ r = 4 := by omega
  · skip
    show W K l _ n0 _ h0 0 0 45 #[.val (.ref t), .val (.ref vv), .val (.int hs), .val (.int (Int32.ofNat s)), .unset, .unset] []
    refine w_aloadN ok d5_45 rfl rfl ?_
    refine w_getfield ok (v := (.int (Int32.ofNat r))) (host := "") (f := ("com/example/hornconv/hornconv/FactTable", "rows", "I", .int)) 7 d5_46 (Or.inl (hw _ (List.mem_of_getElem? (i := 51) rfl))) Via.refl A_t rfl rfl ?_
    refine w_istore ok d5_49 (L' := #[.val (.ref t), .val (.ref vv), .val (.int hs), .val (.int (Int32.ofNat s)), .val (.int (Int32.ofNat r)), .unset]) rfl ?_
    refine w_iload ok d5_51 rfl ?_
    refine w_aloadN ok d5_53 rfl rfl ?_
    refine w_getfield ok (v := (.ref de)) (host := "") (f := ("com/example/hornconv/hornconv/FactTable", "dead", "[Z", (.array .boolean))) 4 d5_54 (Or.inl (hw _ (List.mem_of_getElem? (i := 25) rfl))) Via.refl A_t rfl rfl ?_
    refine w_arraylength ok (z := (4 : Int32)) d5_57 A_de (sv_len 4 _) (by first | decide | omega | (dsimp only; omega)) ?_
    show W K l _ n0 _ h0 0 0 58 #[.val (.ref t), .val (.ref vv), .val (.int hs), .val (.int (Int32.ofNat s)), .val (.int (Int32.ofNat r)), .unset] [(.int (4 : Int32)), (.int (Int32.ofNat r))]
    refine w_icmp_ne ok d5_58 (pc' := 96) (by first | decide | omega | (dsimp only; omega)) (fun hc1 => ?_) (fun hc1 => False.elim (by rw [show (4 : Int32) = Int32.ofNat 4 from rfl, own_eqn (by omega) (by omega)] at hc1; omega))
    exact W.more (a96 l Z a0 hw n0 h0 K ok B hB0 hb t un me ag de sl po vv n p r x D mk c Lm A f uu dd v μ  A_t A_un A_me (by rw [cap4_lo (show r + 1 ≤ 4 by omega)]; exact A_ag) (by rw [cap4_lo (show r + 1 ≤ 4 by omega)]; exact A_de) A_sl A_po A_q A_vv Sp ne_t_un ne_t_me ne_t_ag ne_t_de ne_t_sl ne_t_po ne_un_me ne_un_ag ne_un_de ne_un_sl ne_un_po ne_me_ag ne_me_de ne_me_sl ne_me_po ne_ag_de ne_ag_sl ne_ag_po ne_de_sl ne_de_po ne_sl_po nD_t nD_un nD_me nD_ag nD_de nD_sl nD_po nB_t nB_un nB_me nB_ag nB_de nB_sl nB_po hDB nV_t nV_un nV_me nV_ag nV_de nV_sl nV_po nD_vv g w Lm0 hg hn hr hp hc hnd hmk hdd hLm hI hs s hs8 hf hv2 hv1 hwb hgr hL0 hRA) (by first | decide | omega | (dsimp only; omega)) (by first | decide | omega | (dsimp only; omega))
  · subst hdd
    show W K l _ n0 _ h0 0 0 45 #[.val (.ref t), .val (.ref vv), .val (.int hs), .val (.int (Int32.ofNat s)), .unset, .unset] []
    refine w_aloadN ok d5_45 rfl rfl ?_
    refine w_getfield ok (v := (.int (4 : Int32))) (host := "") (f := ("com/example/hornconv/hornconv/FactTable", "rows", "I", .int)) 7 d5_46 (Or.inl (hw _ (List.mem_of_getElem? (i := 51) rfl))) Via.refl A_t rfl rfl ?_
    refine w_istore ok d5_49 (L' := #[.val (.ref t), .val (.ref vv), .val (.int hs), .val (.int (Int32.ofNat s)), .val (.int (4 : Int32)), .unset]) rfl ?_
    refine w_iload ok d5_51 rfl ?_
    refine w_aloadN ok d5_53 rfl rfl ?_
    refine w_getfield ok (v := (.ref de)) (host := "") (f := ("com/example/hornconv/hornconv/FactTable", "dead", "[Z", (.array .boolean))) 4 d5_54 (Or.inl (hw _ (List.mem_of_getElem? (i := 25) rfl))) Via.refl A_t rfl rfl ?_
    refine w_arraylength ok (z := (4 : Int32)) d5_57 A_de (sv_len 4 _) (by first | decide | omega | (dsimp only; omega)) ?_
    show W K l _ n0 _ h0 0 0 58 #[.val (.ref t), .val (.ref vv), .val (.int hs), .val (.int (Int32.ofNat s)), .val (.int (4 : Int32)), .unset] [(.int (4 : Int32)), (.int (4 : Int32))]
    refine w_icmp_ne ok d5_58 (pc' := 96) (by first | decide | omega | (dsimp only; omega)) (fun hc3 => False.elim (by revert hc3; decide)) (fun hc3 => ?_)
    refine w_aloadN ok d5_61 rfl rfl ?_
    refine w_aloadN ok d5_62 rfl rfl ?_
    refine w_getfield ok (v := (.ref de)) (host := "") (f := ("com/example/hornconv/hornconv/FactTable", "dead", "[Z", (.array .boolean))) 4 d5_63 (Or.inl (hw _ (List.mem_of_getElem? (i := 25) rfl))) Via.refl A_t rfl rfl ?_
    refine w_iconst ok d5_66 (v := (2 : Int32)) rfl ?_
    refine w_iload ok d5_67 rfl ?_
    refine w_imul ok d5_69 ?_
    show W K l _ n0 _ h0 0 0 70 #[.val (.ref t), .val (.ref vv), .val (.int hs), .val (.int (Int32.ofNat s)), .val (.int (4 : Int32)), .unset] [(.int (8 : Int32)), (.ref de), (.ref t)]
    refine w_callS ok (y := mn_9) (argsL := [(.ref de), (.int (8 : Int32))]) (rest := [(.ref t)]) d5_70 (hw _ (List.mem_of_getElem? (i := 65) rfl)) (hw _ (List.mem_of_getElem? (i := 66) rfl)) (hw _ (List.mem_of_getElem? (i := 31) rfl)) (hw _ (List.mem_of_getElem? (i := 67) rfl)) (by first | decide | omega | (dsimp only; omega)) pd_285bZI295bZ rfl rfl (by first | decide | omega | (dsimp only; omega)) (Nat.le_of_ble_eq_true rfl) (by first | decide | omega | (dsimp only; omega)) (by first | decide | omega | (dsimp only; omega)) (fun z0 => cp_boolean l Z a0 hw [] n0 h0 z0 8 (by omega) de (sv 4 (fun _ => (0 : Int32))) (Int32.ofNat 8) A_de (by rw [sv_len, own_ix (by omega)]; omega) (own_ix0 (by omega)) (by rw [own_ix (by omega)]; omega)) (fun v4 h5 qv4 => ?_)
    obtain ⟨dc, rfl, sz_dc, ge_dc, K1, A_dc⟩ := qv4
    have ne_t_dc : t ≠ dc := Nat.ne_of_lt (Nat.lt_of_lt_of_le A_t.lt sz_dc)
    have ne_un_dc : un ≠ dc := Nat.ne_of_lt (Nat.lt_of_lt_of_le A_un.lt sz_dc)
    have ne_me_dc : me ≠ dc := Nat.ne_of_lt (Nat.lt_of_lt_of_le A_me.lt sz_dc)
    have ne_ag_dc : ag ≠ dc := Nat.ne_of_lt (Nat.lt_of_lt_of_le A_ag.lt sz_dc)
    have ne_de_dc : de ≠ dc := Nat.ne_of_lt (Nat.lt_of_lt_of_le A_de.lt sz_dc)
    have ne_sl_dc : sl ≠ dc := Nat.ne_of_lt (Nat.lt_of_lt_of_le A_sl.lt sz_dc)
    have ne_po_dc : po ≠ dc := Nat.ne_of_lt (Nat.lt_of_lt_of_le A_po.lt sz_dc)
    have ne_q_dc := A_q.nin sz_dc
    have ne_Sp_dc := Sp.ge sz_dc
    have ne_vv_dc : vv ≠ dc := Nat.ne_of_lt (Nat.lt_of_lt_of_le A_vv.lt sz_dc)
    replace A_t := A_t.keep K1 nin0
    replace A_un := A_un.keep K1 nin0
    replace A_me := A_me.keep K1 nin0
    replace A_ag := A_ag.keep K1 nin0
    replace A_de := A_de.keep K1 nin0
    replace A_sl := A_sl.keep K1 nin0
    replace A_po := A_po.keep K1 nin0
    replace A_q := A_q.keep K1 all0
    replace Sp := Sp.keep K1 all0
    replace A_vv := A_vv.keep K1 nin0
    replace A_dc : PA .boolean Z h5 dc (sv 8 (fun j => if j < 4 then (fun _ => (0 : Int32)) j else 0)) := by
      have e := A_dc
      rw [own_ix (j := 8) (by omega), sv_len, sv_grow (fun _ => (0 : Int32)) (by omega)] at e
      exact e
    show W K l _ n0 _ h5 1 8 73 #[.val (.ref t), .val (.ref vv), .val (.int hs), .val (.int (Int32.ofNat s)), .val (.int (4 : Int32)), .unset] [(.ref dc), (.ref t)]
    refine w_putfield ok (host := "") (f := ("com/example/hornconv/hornconv/FactTable", "dead", "[Z", (.array .boolean))) 4 d5_73 (Or.inl (hw _ (List.mem_of_getElem? (i := 25) rfl))) Via.refl A_t (la_FactTable hw) rfl rfl (Or.inl (hw _ (List.mem_of_getElem? (i := 26) rfl))) (hw _ (List.mem_of_getElem? (i := 7) rfl)) rfl rfl ge_t (fun h6 W_h6 A1_h6 => ?_)
    replace A_un := A_un.other W_h6 (Ne.symm ne_t_un)
    replace A_me := A_me.other W_h6 (Ne.symm ne_t_me)
    replace A_ag := A_ag.other W_h6 (Ne.symm ne_t_ag)
    replace A_de := A_de.other W_h6 (Ne.symm ne_t_de)
    replace A_sl := A_sl.other W_h6 (Ne.symm ne_t_sl)
    replace A_po := A_po.other W_h6 (Ne.symm ne_t_po)
    replace A_q := A_q.other W_h6 nD_t
    replace Sp := Sp.other W_h6 nB_t
    replace A_vv := A_vv.other W_h6 nV_t
    replace A_dc := A_dc.other W_h6 (Ne.symm ne_t_dc)
    replace A_t : Ob Z h6 t "com/example/hornconv/hornconv/FactTable" fl_FactTable [(.ref un), (.ref me), (.int (Int32.ofNat n)), (.ref ag), (.ref dc), (.ref sl), (.ref po), (.int (4 : Int32)), (.int (4 : Int32)), (.int (4 : Int32))] := A1_h6
    show W K l _ n0 _ h6 1 8 76 #[.val (.ref t), .val (.ref vv), .val (.int hs), .val (.int (Int32.ofNat s)), .val (.int (4 : Int32)), .unset] []
    refine w_aloadN ok d5_76 rfl rfl ?_
    refine w_aloadN ok d5_77 rfl rfl ?_
    refine w_getfield ok (v := (.ref ag)) (host := "") (f := ("com/example/hornconv/hornconv/FactTable", "arguments", "[I", (.array .int))) 3 d5_78 (Or.inl (hw _ (List.mem_of_getElem? (i := 22) rfl))) Via.refl A_t rfl rfl ?_
    refine w_iconst ok d5_81 (v := (2 : Int32)) rfl ?_
    refine w_iload ok d5_82 rfl ?_
    refine w_imul ok d5_84 ?_
    show W K l _ n0 _ h6 1 8 85 #[.val (.ref t), .val (.ref vv), .val (.int hs), .val (.int (Int32.ofNat s)), .val (.int (4 : Int32)), .unset] [(.int (8 : Int32)), (.ref ag), (.ref t)]
    refine w_aloadN ok d5_85 rfl rfl ?_
    refine w_getfield ok (v := (.int (Int32.ofNat n))) (host := "") (f := ("com/example/hornconv/hornconv/FactTable", "arity", "I", .int)) 2 d5_86 (Or.inl (hw _ (List.mem_of_getElem? (i := 20) rfl))) Via.refl A_t rfl rfl ?_
    refine w_imul ok d5_89 ?_
    show W K l _ n0 _ h6 1 8 90 #[.val (.ref t), .val (.ref vv), .val (.int hs), .val (.int (Int32.ofNat s)), .val (.int (4 : Int32)), .unset] [(.int ((8 : Int32) * (Int32.ofNat n))), (.ref ag), (.ref t)]
    rw [own_m8]
    refine w_callS ok (y := mn_11) (argsL := [(.ref ag), (.int (Int32.ofNat (8 * n)))]) (rest := [(.ref t)]) d5_90 (hw _ (List.mem_of_getElem? (i := 73) rfl)) (hw _ (List.mem_of_getElem? (i := 74) rfl)) (hw _ (List.mem_of_getElem? (i := 31) rfl)) (hw _ (List.mem_of_getElem? (i := 75) rfl)) (by first | decide | omega | (dsimp only; omega)) pd_285bII295bI rfl rfl (by first | decide | omega | (dsimp only; omega)) (Nat.le_of_ble_eq_true rfl) (by first | decide | omega | (dsimp only; omega)) (by first | decide | omega | (dsimp only; omega)) (fun z0 => cp_int l Z a0 hw [] n0 h6 z0 24 (by omega) ag (sv (4 * n) A) (Int32.ofNat (8 * n)) A_ag (by rw [sv_len, own_ix (by omega)]; omega) (own_ix0 (by omega)) (by rw [own_ix (by omega)]; omega)) (fun v7 h8 qv7 => ?_)
    obtain ⟨ac, rfl, sz_ac, ge_ac, K1, A_ac⟩ := qv7
    have ne_t_ac : t ≠ ac := Nat.ne_of_lt (Nat.lt_of_lt_of_le A_t.lt sz_ac)
    have ne_un_ac : un ≠ ac := Nat.ne_of_lt (Nat.lt_of_lt_of_le A_un.lt sz_ac)
    have ne_me_ac : me ≠ ac := Nat.ne_of_lt (Nat.lt_of_lt_of_le A_me.lt sz_ac)
    have ne_ag_ac : ag ≠ ac := Nat.ne_of_lt (Nat.lt_of_lt_of_le A_ag.lt sz_ac)
    have ne_sl_ac : sl ≠ ac := Nat.ne_of_lt (Nat.lt_of_lt_of_le A_sl.lt sz_ac)
    have ne_po_ac : po ≠ ac := Nat.ne_of_lt (Nat.lt_of_lt_of_le A_po.lt sz_ac)
    have ne_q_ac := A_q.nin sz_ac
    have ne_Sp_ac := Sp.ge sz_ac
    have ne_vv_ac : vv ≠ ac := Nat.ne_of_lt (Nat.lt_of_lt_of_le A_vv.lt sz_ac)
    have ne_dc_ac : dc ≠ ac := Nat.ne_of_lt (Nat.lt_of_lt_of_le A_dc.lt sz_ac)
    replace A_t := A_t.keep K1 nin0
    replace A_un := A_un.keep K1 nin0
    replace A_me := A_me.keep K1 nin0
    replace A_ag := A_ag.keep K1 nin0
    replace A_sl := A_sl.keep K1 nin0
    replace A_po := A_po.keep K1 nin0
    replace A_q := A_q.keep K1 all0
    replace Sp := Sp.keep K1 all0
    replace A_vv := A_vv.keep K1 nin0
    replace A_dc := A_dc.keep K1 nin0
    replace A_ac : PA .int Z h8 ac (sv (8 * n) (fun j => if j < (4 * n) then A j else 0)) := by
      have e := A_ac
      rw [own_ix (j := (8 * n)) (by omega), sv_len, sv_grow A (by omega)] at e
      exact e
    show W K l _ n0 _ h8 2 32 93 #[.val (.ref t), .val (.ref vv), .val (.int hs), .val (.int (Int32.ofNat s)), .val (.int (4 : Int32)), .unset] [(.ref ac), (.ref t)]
    refine w_putfield ok (host := "") (f := ("com/example/hornconv/hornconv/FactTable", "arguments", "[I", (.array .int))) 3 d5_93 (Or.inl (hw _ (List.mem_of_getElem? (i := 22) rfl))) Via.refl A_t (la_FactTable hw) rfl rfl (Or.inl (hw _ (List.mem_of_getElem? (i := 23) rfl))) (hw _ (List.mem_of_getElem? (i := 7) rfl)) rfl rfl ge_t (fun h9 W_h9 A1_h9 => ?_)
    replace A_un := A_un.other W_h9 (Ne.symm ne_t_un)
    replace A_me := A_me.other W_h9 (Ne.symm ne_t_me)
    replace A_ag := A_ag.other W_h9 (Ne.symm ne_t_ag)
    replace A_sl := A_sl.other W_h9 (Ne.symm ne_t_sl)
    replace A_po := A_po.other W_h9 (Ne.symm ne_t_po)
    replace A_q := A_q.other W_h9 nD_t
    replace Sp := Sp.other W_h9 nB_t
    replace A_vv := A_vv.other W_h9 nV_t
    replace A_dc := A_dc.other W_h9 (Ne.symm ne_t_dc)
    replace A_ac := A_ac.other W_h9 (Ne.symm ne_t_ac)
    replace A_t : Ob Z h9 t "com/example/hornconv/hornconv/FactTable" fl_FactTable [(.ref un), (.ref me), (.int (Int32.ofNat n)), (.ref ac), (.ref dc), (.ref sl), (.ref po), (.int (4 : Int32)), (.int (4 : Int32)), (.int (4 : Int32))] := A1_h9
    show W K l _ n0 _ h9 2 32 96 #[.val (.ref t), .val (.ref vv), .val (.int hs), .val (.int (Int32.ofNat s)), .val (.int (4 : Int32)), .unset] []
    exact a96 l Z a0 hw n0 _ K ok B hB0 hb t un me ac dc sl po vv n p 4 x D mk c Lm (fun j => if j < (4 * n) then A j else 0) f uu (fun j => if j < 4 then (fun _ => (0 : Int32)) j else 0) v μ  A_t A_un A_me A_ac A_dc A_sl A_po A_q A_vv Sp ne_t_un ne_t_me ne_t_ac ne_t_dc ne_t_sl ne_t_po ne_un_me ne_un_ac ne_un_dc ne_un_sl ne_un_po ne_me_ac ne_me_dc ne_me_sl ne_me_po (Ne.symm ne_dc_ac) (Ne.symm ne_sl_ac) (Ne.symm ne_po_ac) (Ne.symm ne_sl_dc) (Ne.symm ne_po_dc) ne_sl_po nD_t nD_un nD_me ne_q_ac ne_q_dc nD_sl nD_po nB_t nB_un nB_me ne_Sp_ac ne_Sp_dc nB_sl nB_po hDB nV_t nV_un nV_me ne_vv_ac ne_vv_dc nV_sl nV_po nD_vv g w Lm0 hg hn hr hp hc hnd hmk (by funext j; exact ite_self _) hLm hI hs s hs8 hf hv2 hv1 hwb hgr hL0 hRA.grow
set_option maxRecDepth 65536 in
set_option maxHeartbeats 40000000 in
theorem a20 (l : Launch) (Z : State) (a0 : Array Value) (hw : ∀ d ∈ tables_1, d.before a0 Z = true) (n0 : Nat) (h0 : Heap) (K : Cx) (ok : Ok K Z n0 "com/example/hornconv/hornconv/FactTable" prog_3_method_7_code 6 (some .int) "add") (B : Nat) (hB0 : n0 ≤ B) (hb : Heap) (t un me ag de sl po vv : Addr) (n p r : Nat) (x : Value) (D : List Addr) (mk : Bool) (c : Nat → Int32) (Lm : Nat) (A f uu dd v : Nat → Int32) (μ : Nat → Int64)  (A_t : FO Z h0 t un me ag de sl po (Int32.ofNat n) (Int32.ofNat r) (Int32.ofNat r) (Int32.ofNat r)) (A_un : PA .int Z h0 un (sv 1 uu)) (A_me : PA .long Z h0 me (lv Lm μ)) (A_ag : PA .int Z h0 ag (sv (4 * n) A)) (A_de : PA .boolean Z h0 de (sv (4) dd)) (A_sl : PA .int Z h0 sl (sv (8) f)) (A_po : PP Z h0 po (pm n) p x) (A_q : IXo Z h0 D mk x (r) c) (A_vv : PA .int Z h0 vv (sv 3 v)) (Sp : Sm B hb h0) (ne_t_un : t ≠ un) (ne_t_me : t ≠ me) (ne_t_ag : t ≠ ag) (ne_t_de : t ≠ de) (ne_t_sl : t ≠ sl) (ne_t_po : t ≠ po) (ne_un_me : un ≠ me) (ne_un_ag : un ≠ ag) (ne_un_de : un ≠ de) (ne_un_sl : un ≠ sl) (ne_un_po : un ≠ po) (ne_me_ag : me ≠ ag) (ne_me_de : me ≠ de) (ne_me_sl : me ≠ sl) (ne_me_po : me ≠ po) (ne_ag_de : ag ≠ de) (ne_ag_sl : ag ≠ sl) (ne_ag_po : ag ≠ po) (ne_de_sl : de ≠ sl) (ne_de_po : de ≠ po) (ne_sl_po : sl ≠ po) (nD_t : t ∉ D) (nD_un : un ∉ D) (nD_me : me ∉ D) (nD_ag : ag ∉ D) (nD_de : de ∉ D) (nD_sl : sl ∉ D) (nD_po : po ∉ D) (nB_t : B ≤ t) (nB_un : B ≤ un) (nB_me : B ≤ me) (nB_ag : B ≤ ag) (nB_de : B ≤ de) (nB_sl : B ≤ sl) (nB_po : B ≤ po) (hDB : ∀ a ∈ D, B ≤ a) (nV_t : vv ≠ t) (nV_un : vv ≠ un) (nV_me : vv ≠ me) (nV_ag : vv ≠ ag) (nV_de : vv ≠ de) (nV_sl : vv ≠ sl) (nV_po : vv ≠ po) (nD_vv : vv ∉ D) (g w Lm0 : Nat) (hg : g ≤ 126) (hn : 1 ≤ n ∧ n ≤ 3) (hr : r ≤ 4) (hp : p < n) (hc : ∀ j, c j ≠ -1) (hnd : ∀ k, k ≤ 5 → ndc c k ≤ 2) (hmk : mk = true → 2 ≤ n) (hdd : dd = fun _ => 0) (hLm : Lm ≤ 126) (hI : IR r 8 f) (hv2 : 2 ≤ n → v = vrow p c r) (hv1 : n = 1 → Jvm.Free.XT.ushr (v 0) 6 = Int32.ofNat w) (hwb : w < 64) (hgr : n = 1 → ¬ w < Lm → 2 * Lm ≤ g ∧ w + 1 ≤ g) (hL0 : Lm0 ≤ Lm) (hRA : RA n p r c A Lm) :
    W K l ({ frames := 3, cells := 5, slots := (g + 56), locals := 48 } : Room) n0 (fun u h => ∃ z r' Lm', u = some (.int z) ∧ TB Z h B t n p r' c Lm' mk true ∧ Sm B hb h ∧ ((r' = r ∧ n = 1) ∨ r' = r + 1) ∧ (n = 1 → w < Lm' ∧ Lm0 ≤ Lm')) h0 0 0 20 #[.val (.ref t), .val (.ref vv), .unset, .unset, .unset, .unset] [] := by
  show W K l _ n0 _ h0 0 0 20 #[.val (.ref t), .val (.ref vv), .unset, .unset, .unset, .unset] []
  refine w_aloadN ok d5_20 rfl rfl ?_
  refine w_aloadN ok d5_21 rfl rfl ?_
  refine w_iconst ok d5_22 (v := (0 : Int32)) rfl ?_
  refine w_callP ok (y := mn_6) (a := t) (argsL := [(.ref vv), (.int (0 : Int32))]) (rest := []) d5_23 (hw _ (List.mem_of_getElem? (i := 42) rfl)) (hw _ (List.mem_of_getElem? (i := 43) rfl)) (hw _ (List.mem_of_getElem? (i := 44) rfl)) (hw _ (List.mem_of_getElem? (i := 7) rfl)) (hw _ (List.mem_of_getElem? (i := 8) rfl)) (hw _ (List.mem_of_getElem? (i := 45) rfl)) (by first | decide | omega | (dsimp only; omega)) A_t.1 pd_285bII29I rfl rfl (by first | decide | omega | (dsimp only; omega)) (Nat.le_of_ble_eq_true rfl) (by first | decide | omega | (dsimp only; omega)) (by first | decide | omega | (dsimp only; omega)) (fun z0 => rm_hash l Z a0 hw [] n0 h0 z0 t un me ag de sl po n (Int32.ofNat r) (Int32.ofNat r) (Int32.ofNat r) A_t (by omega) vv 3 0 v A_vv (by omega) (by omega)) (fun v2 h3 qv2 => ?_)
  obtain ⟨hz1, rfl, rfl⟩ := qv2
  show W K l _ n0 _ h0 0 0 26 #[.val (.ref t), .val (.ref vv), .unset, .unset, .unset, .unset] [(.int hz1)]
  refine w_istoreN ok d5_26 (L' := #[.val (.ref t), .val (.ref vv), .val (.int hz1), .unset, .unset, .unset]) rfl ?_
  refine w_aloadN ok d5_27 rfl rfl ?_
  refine w_aloadN ok d5_28 rfl rfl ?_
  refine w_iloadN ok d5_29 rfl ?_
  refine w_callP ok (y := mn_7) (a := t) (argsL := [(.ref vv), (.int hz1)]) (rest := []) d5_30 (hw _ (List.mem_of_getElem? (i := 47) rfl)) (hw _ (List.mem_of_getElem? (i := 48) rfl)) (hw _ (List.mem_of_getElem? (i := 49) rfl)) (hw _ (List.mem_of_getElem? (i := 7) rfl)) (hw _ (List.mem_of_getElem? (i := 8) rfl)) (hw _ (List.mem_of_getElem? (i := 50) rfl)) (by first | decide | omega | (dsimp only; omega)) A_t.1 pd_285bII29I rfl rfl (by first | decide | omega | (dsimp only; omega)) (Nat.le_of_ble_eq_true rfl) (by first | decide | omega | (dsimp only; omega)) (by first | decide | omega | (dsimp only; omega)) (fun z0 => rm_find l Z a0 hw [] n0 h0 z0 t un me ag de sl po n (Int32.ofNat r) (Int32.ofNat r) (Int32.ofNat r) A_t (by omega) vv 3 (4 * n) 8 r v A f hz1 A_vv A_ag A_sl (by omega) ⟨Nat.mul_le_mul_right n hr, by omega⟩ (Or.inl rfl) hI (by omega)) (fun v5 h6 qv5 => ?_)
  obtain ⟨s4, h8_s4, rfl, hF_s4, rfl⟩ := qv5
  rcases hF_s4 with hf | ⟨y, hy, hf, he⟩
  · skip
    show W K l _ n0 _ h0 0 0 33 #[.val (.ref t), .val (.ref vv), .val (.int hz1), .unset, .unset, .unset] [(.int (Int32.ofNat s4))]
    refine w_istoreN ok d5_33 (L' := #[.val (.ref t), .val (.ref vv), .val (.int hz1), .val (.int (Int32.ofNat s4)), .unset, .unset]) rfl ?_
    refine w_aloadN ok d5_34 rfl rfl ?_
    refine w_getfield ok (v := (.ref sl)) (host := "") (f := ("com/example/hornconv/hornconv/FactTable", "slots", "[I", (.array .int))) 5 d5_35 (Or.inl (hw _ (List.mem_of_getElem? (i := 27) rfl))) Via.refl A_t rfl rfl ?_
    refine w_iloadN ok d5_38 rfl ?_
    refine w_iaload ok (v := (.int (-1 : Int32))) d5_39 A_sl (own_ix0 (by omega)) (by have e := svg (f := f) h8_s4 (by omega); rw [hf] at e; exact e) ?_
    refine w_if_lt ok d5_40 (pc' := 45) (by first | decide | omega | (dsimp only; omega)) (fun hc8 => ?_) (fun hc8 => False.elim (by revert hc8; decide))
    exact a45 l Z a0 hw n0 h0 K ok B hB0 hb t un me ag de sl po vv n p r x D mk c Lm A f uu dd v μ  A_t A_un A_me A_ag A_de A_sl A_po A_q A_vv Sp ne_t_un ne_t_me ne_t_ag ne_t_de ne_t_sl ne_t_po ne_un_me ne_un_ag ne_un_de ne_un_sl ne_un_po ne_me_ag ne_me_de ne_me_sl ne_me_po ne_ag_de ne_ag_sl ne_ag_po ne_de_sl ne_de_po ne_sl_po nD_t nD_un nD_me nD_ag nD_de nD_sl nD_po nB_t nB_un nB_me nB_ag nB_de nB_sl nB_po hDB nV_t nV_un nV_me nV_ag nV_de nV_sl nV_po nD_vv g w Lm0 hg hn hr hp hc hnd hmk hdd hLm hI hz1 s4 h8_s4 hf hv2 hv1 hwb hgr hL0 hRA
  · skip
    show W K l _ n0 _ h0 0 0 33 #[.val (.ref t), .val (.ref vv), .val (.int hz1), .unset, .unset, .unset] [(.int (Int32.ofNat s4))]
    refine w_istoreN ok d5_33 (L' := #[.val (.ref t), .val (.ref vv), .val (.int hz1), .val (.int (Int32.ofNat s4)), .unset, .unset]) rfl ?_
    refine w_aloadN ok d5_34 rfl rfl ?_
    refine w_getfield ok (v := (.ref sl)) (host := "") (f := ("com/example/hornconv/hornconv/FactTable", "slots", "[I", (.array .int))) 5 d5_35 (Or.inl (hw _ (List.mem_of_getElem? (i := 27) rfl))) Via.refl A_t rfl rfl ?_
    refine w_iloadN ok d5_38 rfl ?_
    refine w_iaload ok (v := (.int (Int32.ofNat y))) d5_39 A_sl (own_ix0 (by omega)) (by have e := svg (f := f) h8_s4 (by omega); rw [hf] at e; exact e) ?_
    refine w_if_lt ok d5_40 (pc' := 45) (by first | decide | omega | (dsimp only; omega)) (fun hc10 => False.elim (by exact own_ix0 (by omega) hc10)) (fun hc10 => ?_)
    refine w_iconst ok d5_43 (v := (-1 : Int32)) rfl ?_
    refine w_iret ok d5_44 (by first | decide | omega | (dsimp only; omega)) (by first | decide | omega | (dsimp only; omega)) ?_
    rcases Nat.lt_or_ge n 2 with hlt | hge
    · exact ⟨_, r, Lm, rfl, ⟨un, me, ag, de, sl, po, x, D, A, f, uu, μ, (Int32.ofNat r), (Int32.ofNat r), dd, A_t, A_un, A_me, (by rw [cap4_lo hr]; exact A_ag), (by rw [cap4_lo hr]; exact A_de), (by rw [capS_lo hr]; exact A_sl), A_po, A_q, ⟨ne_t_un, ne_t_me, ne_t_ag, ne_t_de, ne_t_sl, ne_t_po, ne_un_me, ne_un_ag, ne_un_de, ne_un_sl, ne_un_po, ne_me_ag, ne_me_de, ne_me_sl, ne_me_po, ne_ag_de, ne_ag_sl, ne_ag_po, ne_de_sl, ne_de_po, ne_sl_po⟩, ⟨nD_t, nD_un, nD_me, nD_ag, nD_de, nD_sl, nD_po⟩, ⟨nB_t, nB_un, nB_me, nB_ag, nB_de, nB_sl, nB_po⟩, hDB, hRA, hLm, (fun _ => ⟨rfl, rfl, hdd, by rw [capS_lo hr]; exact hI⟩)⟩, Sp, Or.inl ⟨rfl, by omega⟩, fun e => ⟨hRA.cov e hy he (hv1 e) hwb hLm, hL0⟩⟩
    · exact (hRA.diff ⟨hge, hn.2⟩ (hv2 hge) hy (by omega) he).elim
abbrev mn_5 : MethodName := ⟨"com/example/hornconv/hornconv/FactTable", "add", "([I)I"⟩
set_option maxRecDepth 65536 in
set_option maxHeartbeats 40000000 in
theorem rm_add (l : Launch) (Z : State) (a0 : Array Value) (hw : ∀ d ∈ tables_1, d.before a0 Z = true) (ws : List Jvm.Cond) (n0 : Nat) (h0 : Heap) (Z0 : Old Z n0 h0) (B : Nat) (hB0 : n0 ≤ B) (hBs : B ≤ h0.size) (t : Addr) (n p r : Nat) (c : Nat → Int32) (Lm : Nat) (mk : Bool) (T : TB Z h0 B t n p r c Lm mk true) (vv : Addr) (v : Nat → Int32) (A_vv : PA .int Z h0 vv (sv 3 v)) (hvB : vv < B) (g w : Nat) (hg : g ≤ 126) (hn : 1 ≤ n ∧ n ≤ 3) (hr : r ≤ 4) (hp : p < n) (hc : ∀ j, c j ≠ -1) (hnd : ∀ k, k ≤ 5 → ndc c k ≤ 2) (hmk : mk = true → 2 ≤ n) (hv2 : 2 ≤ n → v = vrow p c r) (hv1 : n = 1 → Jvm.Free.XT.ushr (v 0) 6 = Int32.ofNat w) (hwb : w < 64) (hgr : n = 1 → ¬ w < Lm → 2 * Lm ≤ g ∧ w + 1 ≤ g)  :
    Met l Z n0 mn_5 prog_3_method_7_code 6 (some .int) ws ({ frames := 3, cells := 5, slots := (g + 56), locals := 48 } : Room) #[(.ref t), (.ref vv)] h0 (fun u h => ∃ z r' Lm', u = some (.int z) ∧ TB Z h B t n p r' c Lm' mk true ∧ Sm B h0 h ∧ ((r' = r ∧ n = 1) ∨ r' = r + 1) ∧ (n = 1 → w < Lm' ∧ Lm ≤ Lm')) := by
  refine met_of Z0 (plainFor_of_name pn_com_example_hornconv_hornconv_FactTable) (Ls := #[.val (.ref t), .val (.ref vv), .unset, .unset, .unset, .unset]) (fun m => by first | (simp [entryFrame, mkF, argsToLocals, Value.category]; done) | rfl) ?_
  intro K ok
  obtain ⟨un, me, ag, de, sl, po, x, D, A, f, uu, μ, lw, us, dd, A_t, A_un, A_me, A_ag, A_de, A_sl, A_po, A_q, ⟨ne_t_un, ne_t_me, ne_t_ag, ne_t_de, ne_t_sl, ne_t_po, ne_un_me, ne_un_ag, ne_un_de, ne_un_sl, ne_un_po, ne_me_ag, ne_me_de, ne_me_sl, ne_me_po, ne_ag_de, ne_ag_sl, ne_ag_po, ne_de_sl, ne_de_po, ne_sl_po⟩, ⟨nD_t, nD_un, nD_me, nD_ag, nD_de, nD_sl, nD_po⟩, ⟨nB_t, nB_un, nB_me, nB_ag, nB_de, nB_sl, nB_po⟩, hDB, hRA, hLm, hal⟩ := T
  have ge_t := Nat.le_trans hB0 nB_t
  have ge_un := Nat.le_trans hB0 nB_un
  have ge_me := Nat.le_trans hB0 nB_me
  have ge_ag := Nat.le_trans hB0 nB_ag
  have ge_de := Nat.le_trans hB0 nB_de
  have ge_sl := Nat.le_trans hB0 nB_sl
  have ge_po := Nat.le_trans hB0 nB_po
  obtain ⟨rfl, rfl, rfl, hI⟩ := hal rfl
  have Sp : Sm B h0 h0 := Sm.refl hBs
  rw [cap4_lo hr] at A_ag A_de
  rw [capS_lo hr] at A_sl hI
  have nV_t : vv ≠ t := Nat.ne_of_lt (Nat.lt_of_lt_of_le hvB nB_t)
  have nV_un : vv ≠ un := Nat.ne_of_lt (Nat.lt_of_lt_of_le hvB nB_un)
  have nV_me : vv ≠ me := Nat.ne_of_lt (Nat.lt_of_lt_of_le hvB nB_me)
  have nV_ag : vv ≠ ag := Nat.ne_of_lt (Nat.lt_of_lt_of_le hvB nB_ag)
  have nV_de : vv ≠ de := Nat.ne_of_lt (Nat.lt_of_lt_of_le hvB nB_de)
  have nV_sl : vv ≠ sl := Nat.ne_of_lt (Nat.lt_of_lt_of_le hvB nB_sl)
  have nV_po : vv ≠ po := Nat.ne_of_lt (Nat.lt_of_lt_of_le hvB nB_po)
  have nD_vv : vv ∉ D := fun m => Nat.not_le.mpr hvB (hDB _ m)
  show W K l _ n0 _ h0 0 0 0 #[.val (.ref t), .val (.ref vv), .unset, .unset, .unset, .unset] []
  refine w_aloadN ok d5_0 rfl rfl ?_
  refine w_getfield ok (v := (.int (Int32.ofNat n))) (host := "") (f := ("com/example/hornconv/hornconv/FactTable", "arity", "I", .int)) 2 d5_1 (Or.inl (hw _ (List.mem_of_getElem? (i := 20) rfl))) Via.refl A_t rfl rfl ?_
  refine w_iconst ok d5_4 (v := (1 : Int32)) rfl ?_
  refine w_icmp_ne ok d5_5 (pc' := 20) (by first | decide | omega | (dsimp only; omega)) (fun hc1 => ?_) (fun hc1 => ?_)
  · skip
    exact a20 l Z a0 hw n0 h0 K ok B hB0 h0 t un me ag de sl po vv n p r x D mk c Lm A f uu (fun _ => (0 : Int32)) v μ  A_t A_un A_me A_ag A_de A_sl A_po A_q A_vv Sp ne_t_un ne_t_me ne_t_ag ne_t_de ne_t_sl ne_t_po ne_un_me ne_un_ag ne_un_de ne_un_sl ne_un_po ne_me_ag ne_me_de ne_me_sl ne_me_po ne_ag_de ne_ag_sl ne_ag_po ne_de_sl ne_de_po ne_sl_po nD_t nD_un nD_me nD_ag nD_de nD_sl nD_po nB_t nB_un nB_me nB_ag nB_de nB_sl nB_po hDB nV_t nV_un nV_me nV_ag nV_de nV_sl nV_po nD_vv g w Lm hg hn hr hp hc hnd hmk rfl hLm hI hv2 hv1 hwb hgr (Nat.le_refl _) hRA
  · skip
    refine w_aloadN ok d5_8 rfl rfl ?_
    refine w_aloadN ok d5_9 rfl rfl ?_
    refine w_iconst ok d5_10 (v := (0 : Int32)) rfl ?_
    refine w_iaload ok (v := (.int (v 0))) d5_11 A_vv (by first | decide | omega | (dsimp only; omega)) (svg (j := 0) (by omega) (by omega)) ?_
    refine w_callP ok (y := mn_23) (a := t) (argsL := [(.int (v 0))]) (rest := []) d5_12 (hw _ (List.mem_of_getElem? (i := 140) rfl)) (hw _ (List.mem_of_getElem? (i := 141) rfl)) (hw _ (List.mem_of_getElem? (i := 142) rfl)) (hw _ (List.mem_of_getElem? (i := 7) rfl)) (hw _ (List.mem_of_getElem? (i := 8) rfl)) (hw _ (List.mem_of_getElem? (i := 143) rfl)) (by first | decide | omega | (dsimp only; omega)) A_t.1 pd_28I29Z rfl rfl (by first | decide | omega | (dsimp only; omega)) (Nat.le_of_ble_eq_true rfl) (by first | decide | omega | (dsimp only; omega)) (by first | decide | omega | (dsimp only; omega)) (fun z0 => rm_isM l Z a0 hw [] n0 h0 z0 t un me ag de sl po n (Int32.ofNat r) (Int32.ofNat r) (Int32.ofNat r) A_t Lm w μ (v 0) A_me (hv1 (own_e1 hn.2 hc1)) hwb hLm) (fun v2 h3 qv2 => ?_)
    obtain ⟨⟨rfl, hcov⟩ | rfl, rfl⟩ := qv2
    · skip
      show W K l _ n0 _ h0 0 0 15 #[.val (.ref t), .val (.ref vv), .unset, .unset, .unset, .unset] [(.int (1 : Int32))]
      refine w_if_eq ok d5_15 (pc' := 20) (by first | decide | omega | (dsimp only; omega)) (fun hc5 => False.elim (by revert hc5; decide)) (fun hc5 => ?_)
      refine w_iconst ok d5_18 (v := (-1 : Int32)) rfl ?_
      refine w_iret ok d5_19 (by first | decide | omega | (dsimp only; omega)) (by first | decide | omega | (dsimp only; omega)) ?_
      exact ⟨_, r, Lm, rfl, ⟨un, me, ag, de, sl, po, x, D, A, f, uu, μ, (Int32.ofNat r), (Int32.ofNat r), (fun _ => (0 : Int32)), A_t, A_un, A_me, (by rw [cap4_lo hr]; exact A_ag), (by rw [cap4_lo hr]; exact A_de), (by rw [capS_lo hr]; exact A_sl), A_po, A_q, ⟨ne_t_un, ne_t_me, ne_t_ag, ne_t_de, ne_t_sl, ne_t_po, ne_un_me, ne_un_ag, ne_un_de, ne_un_sl, ne_un_po, ne_me_ag, ne_me_de, ne_me_sl, ne_me_po, ne_ag_de, ne_ag_sl, ne_ag_po, ne_de_sl, ne_de_po, ne_sl_po⟩, ⟨nD_t, nD_un, nD_me, nD_ag, nD_de, nD_sl, nD_po⟩, ⟨nB_t, nB_un, nB_me, nB_ag, nB_de, nB_sl, nB_po⟩, hDB, hRA, hLm, (fun _ => ⟨rfl, rfl, rfl, by rw [capS_lo hr]; exact hI⟩)⟩, Sp, Or.inl ⟨rfl, own_e1 hn.2 hc1⟩, fun e => ⟨hcov, Nat.le_refl _⟩⟩
    · skip
      show W K l _ n0 _ h0 0 0 15 #[.val (.ref t), .val (.ref vv), .unset, .unset, .unset, .unset] [(.int (0 : Int32))]
      refine w_if_eq ok d5_15 (pc' := 20) (by first | decide | omega | (dsimp only; omega)) (fun hc7 => ?_) (fun hc7 => False.elim (by revert hc7; decide))
      exact a20 l Z a0 hw n0 h0 K ok B hB0 h0 t un me ag de sl po vv n p r x D mk c Lm A f uu (fun _ => (0 : Int32)) v μ  A_t A_un A_me A_ag A_de A_sl A_po A_q A_vv Sp ne_t_un ne_t_me ne_t_ag ne_t_de ne_t_sl ne_t_po ne_un_me ne_un_ag ne_un_de ne_un_sl ne_un_po ne_me_ag ne_me_de ne_me_sl ne_me_po ne_ag_de ne_ag_sl ne_ag_po ne_de_sl ne_de_po ne_sl_po nD_t nD_un nD_me nD_ag nD_de nD_sl nD_po nB_t nB_un nB_me nB_ag nB_de nB_sl nB_po hDB nV_t nV_un nV_me nV_ag nV_de nV_sl nV_po nD_vv g w Lm hg hn hr hp hc hnd hmk rfl hLm hI hv2 hv1 hwb hgr (Nat.le_refl _) hRA
theorem END6 : True := trivial
theorem tb_exa {Z : State} {h : Heap} {B : Nat} {t : Addr} {n p r : Nat} {c : Nat → Int32} {Lm : Nat} {mk al : Bool} (T : TB Z h B t n p r c Lm mk al) : Exa Z h t "com/example/hornconv/hornconv/FactTable" := by
  obtain ⟨_, _, _, _, _, _, _, _, _, _, _, _, _, _, _, A_t, -⟩ := T
  exact A_t.1
theorem tb_lt {Z : State} {h : Heap} {B : Nat} {t : Addr} {n p r : Nat} {c : Nat → Int32} {Lm : Nat} {mk al : Bool} (T : TB Z h B t n p r c Lm mk al) : t < h.size := by
  obtain ⟨_, _, _, _, _, _, _, _, _, _, _, _, _, _, _, A_t, -⟩ := T
  exact A_t.lt
def cf (y0 y1 y2 y3 y4 : Int32) : Nat → Int32 := fun j => if j = 0 then y0 else if j = 1 then y1 else if j = 2 then y2 else if j = 3 then y3 else y4
theorem cf_or {y0 y1 y2 y3 y4 a b : Int32} (h0 : y0 = a ∨ y0 = b) (h1 : y1 = a ∨ y1 = b) (h2 : y2 = a ∨ y2 = b) (h3 : y3 = a ∨ y3 = b) (h4 : y4 = a ∨ y4 = b) (j : Nat) : cf y0 y1 y2 y3 y4 j = a ∨ cf y0 y1 y2 y3 y4 j = b := by
  unfold cf
  repeat' split
  all_goals assumption
theorem own_rem (x k : Int32) {m : Nat} (hk : 0 ≤ k.toInt) (hm : 0 < m ∧ m < 1000) : ∃ q, q < m ∧ (x &&& k) % Int32.ofNat m = Int32.ofNat q := by
  have h1 := c_and x k hk
  have e : (Int32.ofNat m).toInt = m := own_ofNat (by omega)
  have h2 := (c_iremV (x &&& k) (Int32.ofNat m)).1 h1.1 (by omega)
  refine ⟨((x &&& k) % Int32.ofNat m).toInt.toNat, by omega, ?_⟩
  apply Int32.toInt_inj.mp
  rw [own_ofNat (by omega)]; omega
theorem own_ar (x : Int32) : ∃ n, (1 ≤ n ∧ n ≤ 3) ∧ (1 : Int32) + (x &&& 255) % 3 = Int32.ofNat n := by
  obtain ⟨q, h1, h2⟩ := own_rem x 255 (m := 3) (by decide) (by omega)
  refine ⟨1 + q, by omega, ?_⟩
  rw [show (x &&& 255) % 3 = Int32.ofNat q from h2]; exact own_add 1 q
theorem own_nz {n : Nat} (h : 1 ≤ n ∧ n ≤ 3) : Int32.ofNat n ≠ 0 := fun q => by have := (own_eqn (a := n) (b := 0) (by omega) (by omega)).mp q; omega
theorem own_nm {x k : Int32} (hk : 0 ≤ k.toInt) : x &&& k ≠ -1 := fun q => by
  have h := (c_and x k hk).1
  rw [q] at h; exact absurd h (by decide)
theorem own_w6 (x : Int32) : ∃ w, Jvm.Free.XT.ushr (x &&& 4095) 6 = Int32.ofNat w ∧ w < 64 := by
  have h1 := c_mask x 4095 12 (by decide) (by decide)
  have h2 : (Jvm.Free.XT.ushr (x &&& 4095) 6).toInt = ((x &&& 4095).toInt % 4294967296) / (2 ^ 6 : Nat) := c_iushr (x &&& 4095) 6 6 (by decide) (by decide)
  refine ⟨(Jvm.Free.XT.ushr (x &&& 4095) 6).toInt.toNat, ?_, by omega⟩
  apply Int32.toInt_inj.mp
  rw [own_ofNat (by omega)]; omega
theorem vrow0 {p j : Nat} {c : Nat → Int32} (h : p < 1) : vrow p c j 0 = c j := by
  obtain rfl : p = 0 := by omega
  exact upd_same _ _ _
set_option maxRecDepth 65536 in
set_option maxHeartbeats 40000000 in
theorem t2_345t (l : Launch) (Z : State) (a0 : Array Value) (hw : ∀ d ∈ tables_1, d.before a0 Z = true) (n0 : Nat) (h0 : Heap) (K : Cx) (ok : Ok K Z n0 x.cls code maxLocals ret x.name) (B : Nat) (hB0 : n0 ≤ B) (hBs : B ≤ h0.size) (t cc v0 v1 v2 v3 v4 : Addr) (n p r1 d : Nat) (i0 i1 i2 i3 a b : Int32) (c : Nat → Int32) (A_cc : PA .int Z h0 cc (sv 5 c)) (A_v0 : PA .int Z h0 v0 (sv 3 (vrow p c 0))) (A_v1 : PA .int Z h0 v1 (sv 3 (vrow p c 1))) (A_v2 : PA .int Z h0 v2 (sv 3 (vrow p c 2))) (A_v3 : PA .int Z h0 v3 (sv 3 (vrow p c 3))) (A_v4 : PA .int Z h0 v4 (sv 3 (vrow p c 4))) (lt_cc : cc < B) (lt_v0 : v0 < B) (lt_v1 : v1 < B) (lt_v2 : v2 < B) (lt_v3 : v3 < B) (lt_v4 : v4 < B) (hp : p < n) (hr1 : r1 < 5) (hd : d < 5) (hc : ∀ j, c j ≠ -1) (hnd : ∀ k, k ≤ 5 → ndc c k ≤ 2) (rz : Int32) (hn : 2 ≤ n ∧ n ≤ 3) (Lm : Nat) (al : Bool) (T : TB Z h0 B t n p 5 c Lm true al) :
    W K l room_1 n0 (fun u h => u = some (.int 1)) h0 48 411 345 #[.val (.int i0), .val (.int i1), .val (.int i2), .val (.int i3), .val (.int (Int32.ofNat n)), .val (.int (Int32.ofNat p)), .val (.int (Int32.ofNat r1)), .val (.int (Int32.ofNat d)), .val (.int (1 : Int32)), .val (.int rz), .val (.int a), .val (.int b), .val (.ref cc), .val (.ref v0), .val (.ref v1), .val (.ref v2), .val (.ref v3), .val (.ref v4), .val (.ref t), .unset] [] := by
  show W K l _ n0 _ h0 48 411 345 #[.val (.int i0), .val (.int i1), .val (.int i2), .val (.int i3), .val (.int (Int32.ofNat n)), .val (.int (Int32.ofNat p)), .val (.int (Int32.ofNat r1)), .val (.int (Int32.ofNat d)), .val (.int (1 : Int32)), .val (.int rz), .val (.int a), .val (.int b), .val (.ref cc), .val (.ref v0), .val (.ref v1), .val (.ref v2), .val (.ref v3), .val (.ref v4), .val (.ref t), .unset] []
  refine w_iload ok at_345 rfl ?_
  refine w_if_ne ok at_347 (pc' := 360) (by decide) (fun hc1 => ?_) (fun hc1 => False.elim (by revert hc1; decide))
  refine w_aload ok at_360 rfl rfl ?_
  refine w_iload ok at_362 rfl ?_
  refine w_iload ok at_364 rfl ?_
  refine w_callV ok (y := mn_21) (a := t) (argsL := [(.int (Int32.ofNat p)), (.int (Int32.ofNat r1))]) (rest := []) at_366 (hw _ (List.mem_of_getElem? (i := 131) rfl)) (hw _ (List.mem_of_getElem? (i := 132) rfl)) (hw _ (List.mem_of_getElem? (i := 134) rfl)) (hw _ (List.mem_of_getElem? (i := 133) rfl)) (hw _ (List.mem_of_getElem? (i := 8) rfl)) (hw _ (List.mem_of_getElem? (i := 135) rfl)) (by decide) (tb_exa T) pd_28II29I rfl rfl (by decide) (Nat.le_of_ble_eq_true rfl) (by decide) (by decide) (fun z0 => rm_next2 l Z a0 hw [] n0 h0 z0 B hB0 hBs t n p 5 c Lm al T hn hp (by decide) r1 hr1) (fun v2 h3 qv2 => ?_)
  obtain ⟨rfl, rfl⟩ := qv2
  show W K l _ n0 _ h0 48 411 369 #[.val (.int i0), .val (.int i1), .val (.int i2), .val (.int i3), .val (.int (Int32.ofNat n)), .val (.int (Int32.ofNat p)), .val (.int (Int32.ofNat r1)), .val (.int (Int32.ofNat d)), .val (.int (1 : Int32)), .val (.int rz), .val (.int a), .val (.int b), .val (.ref cc), .val (.ref v0), .val (.ref v1), .val (.ref v2), .val (.ref v3), .val (.ref v4), .val (.ref t), .unset] [(.int (prv c (c r1) r1))]
  refine w_istore ok at_369 (L' := #[.val (.int i0), .val (.int i1), .val (.int i2), .val (.int i3), .val (.int (Int32.ofNat n)), .val (.int (Int32.ofNat p)), .val (.int (Int32.ofNat r1)), .val (.int (Int32.ofNat d)), .val (.int (1 : Int32)), .val (.int rz), .val (.int a), .val (.int b), .val (.ref cc), .val (.ref v0), .val (.ref v1), .val (.ref v2), .val (.ref v3), .val (.ref v4), .val (.ref t), .val (.int (prv c (c r1) r1))]) rfl ?_
  refine w_iload ok at_371 rfl ?_
  refine w_iconst ok at_373 (v := (1 : Int32)) rfl ?_
  refine w_icmp_ne ok at_374 (pc' := 389) (by decide) (fun hc5 => ?_) (fun hc5 => False.elim (by exact own_ne1 hn.2 hn.1 hc5))
  refine w_iload ok at_389 rfl ?_
  refine w_aload ok at_391 rfl rfl ?_
  refine w_iload ok at_393 rfl ?_
  refine w_callS ok (y := mn_22) (argsL := [(.ref cc), (.int (Int32.ofNat r1))]) (rest := [(.int (prv c (c r1) r1))]) at_395 (hw _ (List.mem_of_getElem? (i := 137) rfl)) (hw _ (List.mem_of_getElem? (i := 138) rfl)) (hw _ (List.mem_of_getElem? (i := 4) rfl)) (hw _ (List.mem_of_getElem? (i := 139) rfl)) (by decide) pd_285bII29I rfl rfl (by decide) (Nat.le_of_ble_eq_true rfl) (by decide) (by decide) (fun z0 => rm_expect l Z a0 hw [] n0 h0 z0 cc c r1 hr1 A_cc) (fun v6 h7 qv6 => ?_)
  obtain ⟨rfl, rfl⟩ := qv6
  show W K l _ n0 _ h0 48 411 398 #[.val (.int i0), .val (.int i1), .val (.int i2), .val (.int i3), .val (.int (Int32.ofNat n)), .val (.int (Int32.ofNat p)), .val (.int (Int32.ofNat r1)), .val (.int (Int32.ofNat d)), .val (.int (1 : Int32)), .val (.int rz), .val (.int a), .val (.int b), .val (.ref cc), .val (.ref v0), .val (.ref v1), .val (.ref v2), .val (.ref v3), .val (.ref v4), .val (.ref t), .val (.int (prv c (c r1) r1))] [(.int (prv c (c r1) r1)), (.int (prv c (c r1) r1))]
  refine w_icmp_ne ok at_398 (pc' := 405) (by decide) (fun hc9 => False.elim (by exact hc9 rfl)) (fun hc9 => ?_)
  refine w_iconst ok at_401 (v := (1 : Int32)) rfl ?_
  refine w_goto ok at_402 (pc' := 406) (by decide) ?_
  refine w_bret ok (by simp) at_406 (by decide) (by decide) ?_
  exact rfl
theorem pd_285bI29I : parseMethodDescriptor "([I)I" = some ⟨[(.array .int)], some .int⟩ := by decide +kernel
set_option maxRecDepth 65536 in
set_option maxHeartbeats 40000000 in
theorem t2_293t (l : Launch) (Z : State) (a0 : Array Value) (hw : ∀ d ∈ tables_1, d.before a0 Z = true) (n0 : Nat) (h0 : Heap) (K : Cx) (ok : Ok K Z n0 x.cls code maxLocals ret x.name) (B : Nat) (hB0 : n0 ≤ B) (hBs : B ≤ h0.size) (t cc v0 v1 v2 v3 v4 : Addr) (n p r1 d : Nat) (i0 i1 i2 i3 a b : Int32) (c : Nat → Int32) (A_cc : PA .int Z h0 cc (sv 5 c)) (A_v0 : PA .int Z h0 v0 (sv 3 (vrow p c 0))) (A_v1 : PA .int Z h0 v1 (sv 3 (vrow p c 1))) (A_v2 : PA .int Z h0 v2 (sv 3 (vrow p c 2))) (A_v3 : PA .int Z h0 v3 (sv 3 (vrow p c 3))) (A_v4 : PA .int Z h0 v4 (sv 3 (vrow p c 4))) (lt_cc : cc < B) (lt_v0 : v0 < B) (lt_v1 : v1 < B) (lt_v2 : v2 < B) (lt_v3 : v3 < B) (lt_v4 : v4 < B) (hp : p < n) (hr1 : r1 < 5) (hd : d < 5) (hc : ∀ j, c j ≠ -1) (hnd : ∀ k, k ≤ 5 → ndc c k ≤ 2) (rz : Int32) (hn : 2 ≤ n ∧ n ≤ 3) (T : TB Z h0 B t n p 0 c 0 true true) :
    W K l room_1 n0 (fun u h => u = some (.int 1)) h0 23 131 293 #[.val (.int i0), .val (.int i1), .val (.int i2), .val (.int i3), .val (.int (Int32.ofNat n)), .val (.int (Int32.ofNat p)), .val (.int (Int32.ofNat r1)), .val (.int (Int32.ofNat d)), .val (.int (1 : Int32)), .val (.int rz), .val (.int a), .val (.int b), .val (.ref cc), .val (.ref v0), .val (.ref v1), .val (.ref v2), .val (.ref v3), .val (.ref v4), .val (.ref t), .unset] [] := by
  show W K l _ n0 _ h0 23 131 293 #[.val (.int i0), .val (.int i1), .val (.int i2), .val (.int i3), .val (.int (Int32.ofNat n)), .val (.int (Int32.ofNat p)), .val (.int (Int32.ofNat r1)), .val (.int (Int32.ofNat d)), .val (.int (1 : Int32)), .val (.int rz), .val (.int a), .val (.int b), .val (.ref cc), .val (.ref v0), .val (.ref v1), .val (.ref v2), .val (.ref v3), .val (.ref v4), .val (.ref t), .unset] []
  refine w_aload ok at_293 rfl rfl ?_
  refine w_aload ok at_295 rfl rfl ?_
  refine w_callV ok (y := mn_5) (a := t) (argsL := [(.ref v0)]) (rest := []) at_297 (hw _ (List.mem_of_getElem? (i := 37) rfl)) (hw _ (List.mem_of_getElem? (i := 38) rfl)) (hw _ (List.mem_of_getElem? (i := 40) rfl)) (hw _ (List.mem_of_getElem? (i := 39) rfl)) (hw _ (List.mem_of_getElem? (i := 8) rfl)) (hw _ (List.mem_of_getElem? (i := 41) rfl)) (by decide) (tb_exa T) pd_285bI29I rfl rfl (by decide) (Nat.le_of_ble_eq_true rfl) (by decide) (by decide) (fun z0 => rm_add l Z a0 hw [] n0 h0 z0 B hB0 hBs t n p 0 c 0 true T v0 (vrow p c 0) A_v0 lt_v0 0 0 (by decide) (by omega) (by decide) hp hc hnd (fun _ => hn.1) (fun _ => rfl) (fun e => absurd e (by omega)) (by decide) (fun e => absurd e (by omega))) (fun v1 h2 qv1 => ?_)
  obtain ⟨z_v1, r_v1, Lm_v1, rfl, T_v1, S_v1, hr_v1, hw_v1⟩ := qv1
  replace A_cc := pa_sm A_cc S_v1 lt_cc
  replace A_v0 := pa_sm A_v0 S_v1 lt_v0
  replace A_v1 := pa_sm A_v1 S_v1 lt_v1
  replace A_v2 := pa_sm A_v2 S_v1 lt_v2
  replace A_v3 := pa_sm A_v3 S_v1 lt_v3
  replace A_v4 := pa_sm A_v4 S_v1 lt_v4
  replace hBs := Nat.le_trans S_v1.1 S_v1.2.1
  obtain rfl : 1 = r_v1 := by rcases hr_v1 with y | y <;> omega
  replace T := T_v1
  show W K l _ n0 _ h2 28 187 300 #[.val (.int i0), .val (.int i1), .val (.int i2), .val (.int i3), .val (.int (Int32.ofNat n)), .val (.int (Int32.ofNat p)), .val (.int (Int32.ofNat r1)), .val (.int (Int32.ofNat d)), .val (.int (1 : Int32)), .val (.int rz), .val (.int a), .val (.int b), .val (.ref cc), .val (.ref v0), .val (.ref v1), .val (.ref v2), .val (.ref v3), .val (.ref v4), .val (.ref t), .unset] [(.int z_v1)]
  refine w_pop ok at_300 rfl ?_
  refine w_aload ok at_301 rfl rfl ?_
  refine w_aload ok at_303 rfl rfl ?_
  refine w_callV ok (y := mn_5) (a := t) (argsL := [(.ref v1)]) (rest := []) at_305 (hw _ (List.mem_of_getElem? (i := 37) rfl)) (hw _ (List.mem_of_getElem? (i := 38) rfl)) (hw _ (List.mem_of_getElem? (i := 40) rfl)) (hw _ (List.mem_of_getElem? (i := 39) rfl)) (hw _ (List.mem_of_getElem? (i := 8) rfl)) (hw _ (List.mem_of_getElem? (i := 41) rfl)) (by decide) (tb_exa T) pd_285bI29I rfl rfl (by decide) (Nat.le_of_ble_eq_true rfl) (by decide) (by decide) (fun z0 => rm_add l Z a0 hw [] n0 h2 z0 B hB0 hBs t n p 1 c Lm_v1 true T v1 (vrow p c 1) A_v1 lt_v1 0 0 (by decide) (by omega) (by decide) hp hc hnd (fun _ => hn.1) (fun _ => rfl) (fun e => absurd e (by omega)) (by decide) (fun e => absurd e (by omega))) (fun v3 h4 qv3 => ?_)
  obtain ⟨z_v3, r_v3, Lm_v3, rfl, T_v3, S_v3, hr_v3, hw_v3⟩ := qv3
  replace A_cc := pa_sm A_cc S_v3 lt_cc
  replace A_v0 := pa_sm A_v0 S_v3 lt_v0
  replace A_v1 := pa_sm A_v1 S_v3 lt_v1
  replace A_v2 := pa_sm A_v2 S_v3 lt_v2
  replace A_v3 := pa_sm A_v3 S_v3 lt_v3
  replace A_v4 := pa_sm A_v4 S_v3 lt_v4
  replace hBs := Nat.le_trans S_v3.1 S_v3.2.1
  obtain rfl : 2 = r_v3 := by rcases hr_v3 with y | y <;> omega
  replace T := T_v3
  show W K l _ n0 _ h4 33 243 308 #[.val (.int i0), .val (.int i1), .val (.int i2), .val (.int i3), .val (.int (Int32.ofNat n)), .val (.int (Int32.ofNat p)), .val (.int (Int32.ofNat r1)), .val (.int (Int32.ofNat d)), .val (.int (1 : Int32)), .val (.int rz), .val (.int a), .val (.int b), .val (.ref cc), .val (.ref v0), .val (.ref v1), .val (.ref v2), .val (.ref v3), .val (.ref v4), .val (.ref t), .unset] [(.int z_v3)]
  refine w_pop ok at_308 rfl ?_
  refine w_aload ok at_309 rfl rfl ?_
  refine w_aload ok at_311 rfl rfl ?_
  refine w_callV ok (y := mn_5) (a := t) (argsL := [(.ref v2)]) (rest := []) at_313 (hw _ (List.mem_of_getElem? (i := 37) rfl)) (hw _ (List.mem_of_getElem? (i := 38) rfl)) (hw _ (List.mem_of_getElem? (i := 40) rfl)) (hw _ (List.mem_of_getElem? (i := 39) rfl)) (hw _ (List.mem_of_getElem? (i := 8) rfl)) (hw _ (List.mem_of_getElem? (i := 41) rfl)) (by decide) (tb_exa T) pd_285bI29I rfl rfl (by decide) (Nat.le_of_ble_eq_true rfl) (by decide) (by decide) (fun z0 => rm_add l Z a0 hw [] n0 h4 z0 B hB0 hBs t n p 2 c Lm_v3 true T v2 (vrow p c 2) A_v2 lt_v2 0 0 (by decide) (by omega) (by decide) hp hc hnd (fun _ => hn.1) (fun _ => rfl) (fun e => absurd e (by omega)) (by decide) (fun e => absurd e (by omega))) (fun v5 h6 qv5 => ?_)
  obtain ⟨z_v5, r_v5, Lm_v5, rfl, T_v5, S_v5, hr_v5, hw_v5⟩ := qv5
  replace A_cc := pa_sm A_cc S_v5 lt_cc
  replace A_v0 := pa_sm A_v0 S_v5 lt_v0
  replace A_v1 := pa_sm A_v1 S_v5 lt_v1
  replace A_v2 := pa_sm A_v2 S_v5 lt_v2
  replace A_v3 := pa_sm A_v3 S_v5 lt_v3
  replace A_v4 := pa_sm A_v4 S_v5 lt_v4
  replace hBs := Nat.le_trans S_v5.1 S_v5.2.1
  obtain rfl : 3 = r_v5 := by rcases hr_v5 with y | y <;> omega
  replace T := T_v5
  show W K l _ n0 _ h6 38 299 316 #[.val (.int i0), .val (.int i1), .val (.int i2), .val (.int i3), .val (.int (Int32.ofNat n)), .val (.int (Int32.ofNat p)), .val (.int (Int32.ofNat r1)), .val (.int (Int32.ofNat d)), .val (.int (1 : Int32)), .val (.int rz), .val (.int a), .val (.int b), .val (.ref cc), .val (.ref v0), .val (.ref v1), .val (.ref v2), .val (.ref v3), .val (.ref v4), .val (.ref t), .unset] [(.int z_v5)]
  refine w_pop ok at_316 rfl ?_
  refine w_aload ok at_317 rfl rfl ?_
  refine w_aload ok at_319 rfl rfl ?_
  refine w_callV ok (y := mn_5) (a := t) (argsL := [(.ref v3)]) (rest := []) at_321 (hw _ (List.mem_of_getElem? (i := 37) rfl)) (hw _ (List.mem_of_getElem? (i := 38) rfl)) (hw _ (List.mem_of_getElem? (i := 40) rfl)) (hw _ (List.mem_of_getElem? (i := 39) rfl)) (hw _ (List.mem_of_getElem? (i := 8) rfl)) (hw _ (List.mem_of_getElem? (i := 41) rfl)) (by decide) (tb_exa T) pd_285bI29I rfl rfl (by decide) (Nat.le_of_ble_eq_true rfl) (by decide) (by decide) (fun z0 => rm_add l Z a0 hw [] n0 h6 z0 B hB0 hBs t n p 3 c Lm_v5 true T v3 (vrow p c 3) A_v3 lt_v3 0 0 (by decide) (by omega) (by decide) hp hc hnd (fun _ => hn.1) (fun _ => rfl) (fun e => absurd e (by omega)) (by decide) (fun e => absurd e (by omega))) (fun v7 h8 qv7 => ?_)
  obtain ⟨z_v7, r_v7, Lm_v7, rfl, T_v7, S_v7, hr_v7, hw_v7⟩ := qv7
  replace A_cc := pa_sm A_cc S_v7 lt_cc
  replace A_v0 := pa_sm A_v0 S_v7 lt_v0
  replace A_v1 := pa_sm A_v1 S_v7 lt_v1
  replace A_v2 := pa_sm A_v2 S_v7 lt_v2
  replace A_v3 := pa_sm A_v3 S_v7 lt_v3
  replace A_v4 := pa_sm A_v4 S_v7 lt_v4
  replace hBs := Nat.le_trans S_v7.1 S_v7.2.1
  obtain rfl : 4 = r_v7 := by rcases hr_v7 with y | y <;> omega
  replace T := T_v7
  show W K l _ n0 _ h8 43 355 324 #[.val (.int i0), .val (.int i1), .val (.int i2), .val (.int i3), .val (.int (Int32.ofNat n)), .val (.int (Int32.ofNat p)), .val (.int (Int32.ofNat r1)), .val (.int (Int32.ofNat d)), .val (.int (1 : Int32)), .val (.int rz), .val (.int a), .val (.int b), .val (.ref cc), .val (.ref v0), .val (.ref v1), .val (.ref v2), .val (.ref v3), .val (.ref v4), .val (.ref t), .unset] [(.int z_v7)]
  refine w_pop ok at_324 rfl ?_
  refine w_aload ok at_325 rfl rfl ?_
  refine w_aload ok at_327 rfl rfl ?_
  refine w_callV ok (y := mn_5) (a := t) (argsL := [(.ref v4)]) (rest := []) at_329 (hw _ (List.mem_of_getElem? (i := 37) rfl)) (hw _ (List.mem_of_getElem? (i := 38) rfl)) (hw _ (List.mem_of_getElem? (i := 40) rfl)) (hw _ (List.mem_of_getElem? (i := 39) rfl)) (hw _ (List.mem_of_getElem? (i := 8) rfl)) (hw _ (List.mem_of_getElem? (i := 41) rfl)) (by decide) (tb_exa T) pd_285bI29I rfl rfl (by decide) (Nat.le_of_ble_eq_true rfl) (by decide) (by decide) (fun z0 => rm_add l Z a0 hw [] n0 h8 z0 B hB0 hBs t n p 4 c Lm_v7 true T v4 (vrow p c 4) A_v4 lt_v4 0 0 (by decide) (by omega) (by decide) hp hc hnd (fun _ => hn.1) (fun _ => rfl) (fun e => absurd e (by omega)) (by decide) (fun e => absurd e (by omega))) (fun v9 h10 qv9 => ?_)
  obtain ⟨z_v9, r_v9, Lm_v9, rfl, T_v9, S_v9, hr_v9, hw_v9⟩ := qv9
  replace A_cc := pa_sm A_cc S_v9 lt_cc
  replace A_v0 := pa_sm A_v0 S_v9 lt_v0
  replace A_v1 := pa_sm A_v1 S_v9 lt_v1
  replace A_v2 := pa_sm A_v2 S_v9 lt_v2
  replace A_v3 := pa_sm A_v3 S_v9 lt_v3
  replace A_v4 := pa_sm A_v4 S_v9 lt_v4
  replace hBs := Nat.le_trans S_v9.1 S_v9.2.1
  obtain rfl : 5 = r_v9 := by rcases hr_v9 with y | y <;> omega
  replace T := T_v9
  show W K l _ n0 _ h10 48 411 332 #[.val (.int i0), .val (.int i1), .val (.int i2), .val (.int i3), .val (.int (Int32.ofNat n)), .val (.int (Int32.ofNat p)), .val (.int (Int32.ofNat r1)), .val (.int (Int32.ofNat d)), .val (.int (1 : Int32)), .val (.int rz), .val (.int a), .val (.int b), .val (.ref cc), .val (.ref v0), .val (.ref v1), .val (.ref v2), .val (.ref v3), .val (.ref v4), .val (.ref t), .unset] [(.int z_v9)]
  refine w_pop ok at_332 rfl ?_
  refine w_iload ok at_333 rfl ?_
  refine w_if_eq ok at_335 (pc' := 345) (by decide) (fun hc12 => ?_) (fun hc12 => ?_)
  · skip
    exact t2_345t l Z a0 hw n0 _ K ok B hB0 hBs t cc v0 v1 v2 v3 v4 n p r1 d i0 i1 i2 i3 a b c A_cc A_v0 A_v1 A_v2 A_v3 A_v4 lt_cc lt_v0 lt_v1 lt_v2 lt_v3 lt_v4 hp hr1 hd hc hnd rz hn Lm_v9 true T
  · skip
    refine w_aload ok at_338 rfl rfl ?_
    refine w_iload ok at_340 rfl ?_
    refine w_callV ok (y := mn_28) (a := t) (argsL := [(.int (Int32.ofNat d))]) (rest := []) at_342 (hw _ (List.mem_of_getElem? (i := 158) rfl)) (hw _ (List.mem_of_getElem? (i := 159) rfl)) (hw _ (List.mem_of_getElem? (i := 161) rfl)) (hw _ (List.mem_of_getElem? (i := 160) rfl)) (hw _ (List.mem_of_getElem? (i := 8) rfl)) (hw _ (List.mem_of_getElem? (i := 162) rfl)) (by decide) (tb_exa T) pd_28I29V rfl rfl (by decide) (Nat.le_of_ble_eq_true rfl) (by decide) (by decide) (fun z0 => rm_remove l Z a0 hw [] n0 h10 z0 B hB0 hBs t n p c Lm_v9 true T hn hp d hd) (fun v13 h14 qv13 => ?_)
    obtain ⟨rfl, T1, S1⟩ := qv13
    replace A_cc := pa_sm A_cc S1 lt_cc
    replace A_v0 := pa_sm A_v0 S1 lt_v0
    replace A_v1 := pa_sm A_v1 S1 lt_v1
    replace A_v2 := pa_sm A_v2 S1 lt_v2
    replace A_v3 := pa_sm A_v3 S1 lt_v3
    replace A_v4 := pa_sm A_v4 S1 lt_v4
    replace hBs := Nat.le_trans S1.1 S1.2.1
    replace T := T1
    show W K l _ n0 _ h14 48 411 345 #[.val (.int i0), .val (.int i1), .val (.int i2), .val (.int i3), .val (.int (Int32.ofNat n)), .val (.int (Int32.ofNat p)), .val (.int (Int32.ofNat r1)), .val (.int (Int32.ofNat d)), .val (.int (1 : Int32)), .val (.int rz), .val (.int a), .val (.int b), .val (.ref cc), .val (.ref v0), .val (.ref v1), .val (.ref v2), .val (.ref v3), .val (.ref v4), .val (.ref t), .unset] []
    exact t2_345t l Z a0 hw n0 _ K ok B hB0 hBs t cc v0 v1 v2 v3 v4 n p r1 d i0 i1 i2 i3 a b c A_cc A_v0 A_v1 A_v2 A_v3 A_v4 lt_cc lt_v0 lt_v1 lt_v2 lt_v3 lt_v4 hp hr1 hd hc hnd rz hn Lm_v9 false T
set_option maxRecDepth 65536 in
set_option maxHeartbeats 40000000 in
theorem t2_345f (l : Launch) (Z : State) (a0 : Array Value) (hw : ∀ d ∈ tables_1, d.before a0 Z = true) (n0 : Nat) (h0 : Heap) (K : Cx) (ok : Ok K Z n0 x.cls code maxLocals ret x.name) (B : Nat) (hB0 : n0 ≤ B) (hBs : B ≤ h0.size) (t cc v0 v1 v2 v3 v4 : Addr) (n p r1 d : Nat) (i0 i1 i2 i3 a b : Int32) (c : Nat → Int32) (A_cc : PA .int Z h0 cc (sv 5 c)) (A_v0 : PA .int Z h0 v0 (sv 3 (vrow p c 0))) (A_v1 : PA .int Z h0 v1 (sv 3 (vrow p c 1))) (A_v2 : PA .int Z h0 v2 (sv 3 (vrow p c 2))) (A_v3 : PA .int Z h0 v3 (sv 3 (vrow p c 3))) (A_v4 : PA .int Z h0 v4 (sv 3 (vrow p c 4))) (lt_cc : cc < B) (lt_v0 : v0 < B) (lt_v1 : v1 < B) (lt_v2 : v2 < B) (lt_v3 : v3 < B) (lt_v4 : v4 < B) (hp : p < n) (hr1 : r1 < 5) (hd : d < 5) (hc : ∀ j, c j ≠ -1) (hnd : ∀ k, k ≤ 5 → ndc c k ≤ 2) (rz : Int32) (hn : 2 ≤ n ∧ n ≤ 3) (Lm : Nat) (al : Bool) (T : TB Z h0 B t n p 5 c Lm false al) :
    W K l room_1 n0 (fun u h => u = some (.int 1)) h0 38 338 345 #[.val (.int i0), .val (.int i1), .val (.int i2), .val (.int i3), .val (.int (Int32.ofNat n)), .val (.int (Int32.ofNat p)), .val (.int (Int32.ofNat r1)), .val (.int (Int32.ofNat d)), .val (.int (0 : Int32)), .val (.int rz), .val (.int a), .val (.int b), .val (.ref cc), .val (.ref v0), .val (.ref v1), .val (.ref v2), .val (.ref v3), .val (.ref v4), .val (.ref t), .unset] [] := by
  show W K l _ n0 _ h0 38 338 345 #[.val (.int i0), .val (.int i1), .val (.int i2), .val (.int i3), .val (.int (Int32.ofNat n)), .val (.int (Int32.ofNat p)), .val (.int (Int32.ofNat r1)), .val (.int (Int32.ofNat d)), .val (.int (0 : Int32)), .val (.int rz), .val (.int a), .val (.int b), .val (.ref cc), .val (.ref v0), .val (.ref v1), .val (.ref v2), .val (.ref v3), .val (.ref v4), .val (.ref t), .unset] []
  refine w_iload ok at_345 rfl ?_
  refine w_if_ne ok at_347 (pc' := 360) (by decide) (fun hc1 => False.elim (by revert hc1; decide)) (fun hc1 => ?_)
  refine w_aload ok at_350 rfl rfl ?_
  refine w_iload ok at_352 rfl ?_
  refine w_iload ok at_354 rfl ?_
  refine w_callV ok (y := mn_13) (a := t) (argsL := [(.int (Int32.ofNat p)), (.int a)]) (rest := []) at_356 (hw _ (List.mem_of_getElem? (i := 80) rfl)) (hw _ (List.mem_of_getElem? (i := 81) rfl)) (hw _ (List.mem_of_getElem? (i := 83) rfl)) (hw _ (List.mem_of_getElem? (i := 82) rfl)) (hw _ (List.mem_of_getElem? (i := 8) rfl)) (hw _ (List.mem_of_getElem? (i := 84) rfl)) (by decide) (tb_exa T) pd_28II29I rfl rfl (by decide) (Nat.le_of_ble_eq_true rfl) (by decide) (by decide) (fun z0 => rm_first2 l Z a0 hw [] n0 h0 z0 B hB0 hBs t n p 5 c Lm al T hn hp (by decide) hc hnd a) (fun v2 h3 qv2 => ?_)
  obtain ⟨zf, rfl, T1, S1⟩ := qv2
  replace A_cc := pa_sm A_cc S1 lt_cc
  replace A_v0 := pa_sm A_v0 S1 lt_v0
  replace A_v1 := pa_sm A_v1 S1 lt_v1
  replace A_v2 := pa_sm A_v2 S1 lt_v2
  replace A_v3 := pa_sm A_v3 S1 lt_v3
  replace A_v4 := pa_sm A_v4 S1 lt_v4
  replace hBs := Nat.le_trans S1.1 S1.2.1
  replace T := T1
  show W K l _ n0 _ h3 48 411 359 #[.val (.int i0), .val (.int i1), .val (.int i2), .val (.int i3), .val (.int (Int32.ofNat n)), .val (.int (Int32.ofNat p)), .val (.int (Int32.ofNat r1)), .val (.int (Int32.ofNat d)), .val (.int (0 : Int32)), .val (.int rz), .val (.int a), .val (.int b), .val (.ref cc), .val (.ref v0), .val (.ref v1), .val (.ref v2), .val (.ref v3), .val (.ref v4), .val (.ref t), .unset] [(.int zf)]
  refine w_pop ok at_359 rfl ?_
  refine w_aload ok at_360 rfl rfl ?_
  refine w_iload ok at_362 rfl ?_
  refine w_iload ok at_364 rfl ?_
  refine w_callV ok (y := mn_21) (a := t) (argsL := [(.int (Int32.ofNat p)), (.int (Int32.ofNat r1))]) (rest := []) at_366 (hw _ (List.mem_of_getElem? (i := 131) rfl)) (hw _ (List.mem_of_getElem? (i := 132) rfl)) (hw _ (List.mem_of_getElem? (i := 134) rfl)) (hw _ (List.mem_of_getElem? (i := 133) rfl)) (hw _ (List.mem_of_getElem? (i := 8) rfl)) (hw _ (List.mem_of_getElem? (i := 135) rfl)) (by decide) (tb_exa T) pd_28II29I rfl rfl (by decide) (Nat.le_of_ble_eq_true rfl) (by decide) (by decide) (fun z0 => rm_next2 l Z a0 hw [] n0 h3 z0 B hB0 hBs t n p 5 c Lm al T hn hp (by decide) r1 hr1) (fun v4 h5 qv4 => ?_)
  obtain ⟨rfl, rfl⟩ := qv4
  show W K l _ n0 _ h3 48 411 369 #[.val (.int i0), .val (.int i1), .val (.int i2), .val (.int i3), .val (.int (Int32.ofNat n)), .val (.int (Int32.ofNat p)), .val (.int (Int32.ofNat r1)), .val (.int (Int32.ofNat d)), .val (.int (0 : Int32)), .val (.int rz), .val (.int a), .val (.int b), .val (.ref cc), .val (.ref v0), .val (.ref v1), .val (.ref v2), .val (.ref v3), .val (.ref v4), .val (.ref t), .unset] [(.int (prv c (c r1) r1))]
  refine w_istore ok at_369 (L' := #[.val (.int i0), .val (.int i1), .val (.int i2), .val (.int i3), .val (.int (Int32.ofNat n)), .val (.int (Int32.ofNat p)), .val (.int (Int32.ofNat r1)), .val (.int (Int32.ofNat d)), .val (.int (0 : Int32)), .val (.int rz), .val (.int a), .val (.int b), .val (.ref cc), .val (.ref v0), .val (.ref v1), .val (.ref v2), .val (.ref v3), .val (.ref v4), .val (.ref t), .val (.int (prv c (c r1) r1))]) rfl ?_
  refine w_iload ok at_371 rfl ?_
  refine w_iconst ok at_373 (v := (1 : Int32)) rfl ?_
  refine w_icmp_ne ok at_374 (pc' := 389) (by decide) (fun hc7 => ?_) (fun hc7 => False.elim (by exact own_ne1 hn.2 hn.1 hc7))
  refine w_iload ok at_389 rfl ?_
  refine w_aload ok at_391 rfl rfl ?_
  refine w_iload ok at_393 rfl ?_
  refine w_callS ok (y := mn_22) (argsL := [(.ref cc), (.int (Int32.ofNat r1))]) (rest := [(.int (prv c (c r1) r1))]) at_395 (hw _ (List.mem_of_getElem? (i := 137) rfl)) (hw _ (List.mem_of_getElem? (i := 138) rfl)) (hw _ (List.mem_of_getElem? (i := 4) rfl)) (hw _ (List.mem_of_getElem? (i := 139) rfl)) (by decide) pd_285bII29I rfl rfl (by decide) (Nat.le_of_ble_eq_true rfl) (by decide) (by decide) (fun z0 => rm_expect l Z a0 hw [] n0 h3 z0 cc c r1 hr1 A_cc) (fun v8 h9 qv8 => ?_)
  obtain ⟨rfl, rfl⟩ := qv8
  show W K l _ n0 _ h3 48 411 398 #[.val (.int i0), .val (.int i1), .val (.int i2), .val (.int i3), .val (.int (Int32.ofNat n)), .val (.int (Int32.ofNat p)), .val (.int (Int32.ofNat r1)), .val (.int (Int32.ofNat d)), .val (.int (0 : Int32)), .val (.int rz), .val (.int a), .val (.int b), .val (.ref cc), .val (.ref v0), .val (.ref v1), .val (.ref v2), .val (.ref v3), .val (.ref v4), .val (.ref t), .val (.int (prv c (c r1) r1))] [(.int (prv c (c r1) r1)), (.int (prv c (c r1) r1))]
  refine w_icmp_ne ok at_398 (pc' := 405) (by decide) (fun hc11 => False.elim (by exact hc11 rfl)) (fun hc11 => ?_)
  refine w_iconst ok at_401 (v := (1 : Int32)) rfl ?_
  refine w_goto ok at_402 (pc' := 406) (by decide) ?_
  refine w_bret ok (by simp) at_406 (by decide) (by decide) ?_
  exact rfl
set_option maxRecDepth 65536 in
set_option maxHeartbeats 40000000 in
theorem t2_293f (l : Launch) (Z : State) (a0 : Array Value) (hw : ∀ d ∈ tables_1, d.before a0 Z = true) (n0 : Nat) (h0 : Heap) (K : Cx) (ok : Ok K Z n0 x.cls code maxLocals ret x.name) (B : Nat) (hB0 : n0 ≤ B) (hBs : B ≤ h0.size) (t cc v0 v1 v2 v3 v4 : Addr) (n p r1 d : Nat) (i0 i1 i2 i3 a b : Int32) (c : Nat → Int32) (A_cc : PA .int Z h0 cc (sv 5 c)) (A_v0 : PA .int Z h0 v0 (sv 3 (vrow p c 0))) (A_v1 : PA .int Z h0 v1 (sv 3 (vrow p c 1))) (A_v2 : PA .int Z h0 v2 (sv 3 (vrow p c 2))) (A_v3 : PA .int Z h0 v3 (sv 3 (vrow p c 3))) (A_v4 : PA .int Z h0 v4 (sv 3 (vrow p c 4))) (lt_cc : cc < B) (lt_v0 : v0 < B) (lt_v1 : v1 < B) (lt_v2 : v2 < B) (lt_v3 : v3 < B) (lt_v4 : v4 < B) (hp : p < n) (hr1 : r1 < 5) (hd : d < 5) (hc : ∀ j, c j ≠ -1) (hnd : ∀ k, k ≤ 5 → ndc c k ≤ 2) (rz : Int32) (hn : 2 ≤ n ∧ n ≤ 3) (T : TB Z h0 B t n p 0 c 0 false true) :
    W K l room_1 n0 (fun u h => u = some (.int 1)) h0 13 58 293 #[.val (.int i0), .val (.int i1), .val (.int i2), .val (.int i3), .val (.int (Int32.ofNat n)), .val (.int (Int32.ofNat p)), .val (.int (Int32.ofNat r1)), .val (.int (Int32.ofNat d)), .val (.int (0 : Int32)), .val (.int rz), .val (.int a), .val (.int b), .val (.ref cc), .val (.ref v0), .val (.ref v1), .val (.ref v2), .val (.ref v3), .val (.ref v4), .val (.ref t), .unset] [] := by
  show W K l _ n0 _ h0 13 58 293 #[.val (.int i0), .val (.int i1), .val (.int i2), .val (.int i3), .val (.int (Int32.ofNat n)), .val (.int (Int32.ofNat p)), .val (.int (Int32.ofNat r1)), .val (.int (Int32.ofNat d)), .val (.int (0 : Int32)), .val (.int rz), .val (.int a), .val (.int b), .val (.ref cc), .val (.ref v0), .val (.ref v1), .val (.ref v2), .val (.ref v3), .val (.ref v4), .val (.ref t), .unset] []
  refine w_aload ok at_293 rfl rfl ?_
  refine w_aload ok at_295 rfl rfl ?_
  refine w_callV ok (y := mn_5) (a := t) (argsL := [(.ref v0)]) (rest := []) at_297 (hw _ (List.mem_of_getElem? (i := 37) rfl)) (hw _ (List.mem_of_getElem? (i := 38) rfl)) (hw _ (List.mem_of_getElem? (i := 40) rfl)) (hw _ (List.mem_of_getElem? (i := 39) rfl)) (hw _ (List.mem_of_getElem? (i := 8) rfl)) (hw _ (List.mem_of_getElem? (i := 41) rfl)) (by decide) (tb_exa T) pd_285bI29I rfl rfl (by decide) (Nat.le_of_ble_eq_true rfl) (by decide) (by decide) (fun z0 => rm_add l Z a0 hw [] n0 h0 z0 B hB0 hBs t n p 0 c 0 false T v0 (vrow p c 0) A_v0 lt_v0 0 0 (by decide) (by omega) (by decide) hp hc hnd (fun _ => hn.1) (fun _ => rfl) (fun e => absurd e (by omega)) (by decide) (fun e => absurd e (by omega))) (fun v1 h2 qv1 => ?_)
  obtain ⟨z_v1, r_v1, Lm_v1, rfl, T_v1, S_v1, hr_v1, hw_v1⟩ := qv1
  replace A_cc := pa_sm A_cc S_v1 lt_cc
  replace A_v0 := pa_sm A_v0 S_v1 lt_v0
  replace A_v1 := pa_sm A_v1 S_v1 lt_v1
  replace A_v2 := pa_sm A_v2 S_v1 lt_v2
  replace A_v3 := pa_sm A_v3 S_v1 lt_v3
  replace A_v4 := pa_sm A_v4 S_v1 lt_v4
  replace hBs := Nat.le_trans S_v1.1 S_v1.2.1
  obtain rfl : 1 = r_v1 := by rcases hr_v1 with y | y <;> omega
  replace T := T_v1
  show W K l _ n0 _ h2 18 114 300 #[.val (.int i0), .val (.int i1), .val (.int i2), .val (.int i3), .val (.int (Int32.ofNat n)), .val (.int (Int32.ofNat p)), .val (.int (Int32.ofNat r1)), .val (.int (Int32.ofNat d)), .val (.int (0 : Int32)), .val (.int rz), .val (.int a), .val (.int b), .val (.ref cc), .val (.ref v0), .val (.ref v1), .val (.ref v2), .val (.ref v3), .val (.ref v4), .val (.ref t), .unset] [(.int z_v1)]
  refine w_pop ok at_300 rfl ?_
  refine w_aload ok at_301 rfl rfl ?_
  refine w_aload ok at_303 rfl rfl ?_
  refine w_callV ok (y := mn_5) (a := t) (argsL := [(.ref v1)]) (rest := []) at_305 (hw _ (List.mem_of_getElem? (i := 37) rfl)) (hw _ (List.mem_of_getElem? (i := 38) rfl)) (hw _ (List.mem_of_getElem? (i := 40) rfl)) (hw _ (List.mem_of_getElem? (i := 39) rfl)) (hw _ (List.mem_of_getElem? (i := 8) rfl)) (hw _ (List.mem_of_getElem? (i := 41) rfl)) (by decide) (tb_exa T) pd_285bI29I rfl rfl (by decide) (Nat.le_of_ble_eq_true rfl) (by decide) (by decide) (fun z0 => rm_add l Z a0 hw [] n0 h2 z0 B hB0 hBs t n p 1 c Lm_v1 false T v1 (vrow p c 1) A_v1 lt_v1 0 0 (by decide) (by omega) (by decide) hp hc hnd (fun _ => hn.1) (fun _ => rfl) (fun e => absurd e (by omega)) (by decide) (fun e => absurd e (by omega))) (fun v3 h4 qv3 => ?_)
  obtain ⟨z_v3, r_v3, Lm_v3, rfl, T_v3, S_v3, hr_v3, hw_v3⟩ := qv3
  replace A_cc := pa_sm A_cc S_v3 lt_cc
  replace A_v0 := pa_sm A_v0 S_v3 lt_v0
  replace A_v1 := pa_sm A_v1 S_v3 lt_v1
  replace A_v2 := pa_sm A_v2 S_v3 lt_v2
  replace A_v3 := pa_sm A_v3 S_v3 lt_v3
  replace A_v4 := pa_sm A_v4 S_v3 lt_v4
  replace hBs := Nat.le_trans S_v3.1 S_v3.2.1
  obtain rfl : 2 = r_v3 := by rcases hr_v3 with y | y <;> omega
  replace T := T_v3
  show W K l _ n0 _ h4 23 170 308 #[.val (.int i0), .val (.int i1), .val (.int i2), .val (.int i3), .val (.int (Int32.ofNat n)), .val (.int (Int32.ofNat p)), .val (.int (Int32.ofNat r1)), .val (.int (Int32.ofNat d)), .val (.int (0 : Int32)), .val (.int rz), .val (.int a), .val (.int b), .val (.ref cc), .val (.ref v0), .val (.ref v1), .val (.ref v2), .val (.ref v3), .val (.ref v4), .val (.ref t), .unset] [(.int z_v3)]
  refine w_pop ok at_308 rfl ?_
  refine w_aload ok at_309 rfl rfl ?_
  refine w_aload ok at_311 rfl rfl ?_
  refine w_callV ok (y := mn_5) (a := t) (argsL := [(.ref v2)]) (rest := []) at_313 (hw _ (List.mem_of_getElem? (i := 37) rfl)) (hw _ (List.mem_of_getElem? (i := 38) rfl)) (hw _ (List.mem_of_getElem? (i := 40) rfl)) (hw _ (List.mem_of_getElem? (i := 39) rfl)) (hw _ (List.mem_of_getElem? (i := 8) rfl)) (hw _ (List.mem_of_getElem? (i := 41) rfl)) (by decide) (tb_exa T) pd_285bI29I rfl rfl (by decide) (Nat.le_of_ble_eq_true rfl) (by decide) (by decide) (fun z0 => rm_add l Z a0 hw [] n0 h4 z0 B hB0 hBs t n p 2 c Lm_v3 false T v2 (vrow p c 2) A_v2 lt_v2 0 0 (by decide) (by omega) (by decide) hp hc hnd (fun _ => hn.1) (fun _ => rfl) (fun e => absurd e (by omega)) (by decide) (fun e => absurd e (by omega))) (fun v5 h6 qv5 => ?_)
  obtain ⟨z_v5, r_v5, Lm_v5, rfl, T_v5, S_v5, hr_v5, hw_v5⟩ := qv5
  replace A_cc := pa_sm A_cc S_v5 lt_cc
  replace A_v0 := pa_sm A_v0 S_v5 lt_v0
  replace A_v1 := pa_sm A_v1 S_v5 lt_v1
  replace A_v2 := pa_sm A_v2 S_v5 lt_v2
  replace A_v3 := pa_sm A_v3 S_v5 lt_v3
  replace A_v4 := pa_sm A_v4 S_v5 lt_v4
  replace hBs := Nat.le_trans S_v5.1 S_v5.2.1
  obtain rfl : 3 = r_v5 := by rcases hr_v5 with y | y <;> omega
  replace T := T_v5
  show W K l _ n0 _ h6 28 226 316 #[.val (.int i0), .val (.int i1), .val (.int i2), .val (.int i3), .val (.int (Int32.ofNat n)), .val (.int (Int32.ofNat p)), .val (.int (Int32.ofNat r1)), .val (.int (Int32.ofNat d)), .val (.int (0 : Int32)), .val (.int rz), .val (.int a), .val (.int b), .val (.ref cc), .val (.ref v0), .val (.ref v1), .val (.ref v2), .val (.ref v3), .val (.ref v4), .val (.ref t), .unset] [(.int z_v5)]
  refine w_pop ok at_316 rfl ?_
  refine w_aload ok at_317 rfl rfl ?_
  refine w_aload ok at_319 rfl rfl ?_
  refine w_callV ok (y := mn_5) (a := t) (argsL := [(.ref v3)]) (rest := []) at_321 (hw _ (List.mem_of_getElem? (i := 37) rfl)) (hw _ (List.mem_of_getElem? (i := 38) rfl)) (hw _ (List.mem_of_getElem? (i := 40) rfl)) (hw _ (List.mem_of_getElem? (i := 39) rfl)) (hw _ (List.mem_of_getElem? (i := 8) rfl)) (hw _ (List.mem_of_getElem? (i := 41) rfl)) (by decide) (tb_exa T) pd_285bI29I rfl rfl (by decide) (Nat.le_of_ble_eq_true rfl) (by decide) (by decide) (fun z0 => rm_add l Z a0 hw [] n0 h6 z0 B hB0 hBs t n p 3 c Lm_v5 false T v3 (vrow p c 3) A_v3 lt_v3 0 0 (by decide) (by omega) (by decide) hp hc hnd (fun _ => hn.1) (fun _ => rfl) (fun e => absurd e (by omega)) (by decide) (fun e => absurd e (by omega))) (fun v7 h8 qv7 => ?_)
  obtain ⟨z_v7, r_v7, Lm_v7, rfl, T_v7, S_v7, hr_v7, hw_v7⟩ := qv7
  replace A_cc := pa_sm A_cc S_v7 lt_cc
  replace A_v0 := pa_sm A_v0 S_v7 lt_v0
  replace A_v1 := pa_sm A_v1 S_v7 lt_v1
  replace A_v2 := pa_sm A_v2 S_v7 lt_v2
  replace A_v3 := pa_sm A_v3 S_v7 lt_v3
  replace A_v4 := pa_sm A_v4 S_v7 lt_v4
  replace hBs := Nat.le_trans S_v7.1 S_v7.2.1
  obtain rfl : 4 = r_v7 := by rcases hr_v7 with y | y <;> omega
  replace T := T_v7
  show W K l _ n0 _ h8 33 282 324 #[.val (.int i0), .val (.int i1), .val (.int i2), .val (.int i3), .val (.int (Int32.ofNat n)), .val (.int (Int32.ofNat p)), .val (.int (Int32.ofNat r1)), .val (.int (Int32.ofNat d)), .val (.int (0 : Int32)), .val (.int rz), .val (.int a), .val (.int b), .val (.ref cc), .val (.ref v0), .val (.ref v1), .val (.ref v2), .val (.ref v3), .val (.ref v4), .val (.ref t), .unset] [(.int z_v7)]
  refine w_pop ok at_324 rfl ?_
  refine w_aload ok at_325 rfl rfl ?_
  refine w_aload ok at_327 rfl rfl ?_
  refine w_callV ok (y := mn_5) (a := t) (argsL := [(.ref v4)]) (rest := []) at_329 (hw _ (List.mem_of_getElem? (i := 37) rfl)) (hw _ (List.mem_of_getElem? (i := 38) rfl)) (hw _ (List.mem_of_getElem? (i := 40) rfl)) (hw _ (List.mem_of_getElem? (i := 39) rfl)) (hw _ (List.mem_of_getElem? (i := 8) rfl)) (hw _ (List.mem_of_getElem? (i := 41) rfl)) (by decide) (tb_exa T) pd_285bI29I rfl rfl (by decide) (Nat.le_of_ble_eq_true rfl) (by decide) (by decide) (fun z0 => rm_add l Z a0 hw [] n0 h8 z0 B hB0 hBs t n p 4 c Lm_v7 false T v4 (vrow p c 4) A_v4 lt_v4 0 0 (by decide) (by omega) (by decide) hp hc hnd (fun _ => hn.1) (fun _ => rfl) (fun e => absurd e (by omega)) (by decide) (fun e => absurd e (by omega))) (fun v9 h10 qv9 => ?_)
  obtain ⟨z_v9, r_v9, Lm_v9, rfl, T_v9, S_v9, hr_v9, hw_v9⟩ := qv9
  replace A_cc := pa_sm A_cc S_v9 lt_cc
  replace A_v0 := pa_sm A_v0 S_v9 lt_v0
  replace A_v1 := pa_sm A_v1 S_v9 lt_v1
  replace A_v2 := pa_sm A_v2 S_v9 lt_v2
  replace A_v3 := pa_sm A_v3 S_v9 lt_v3
  replace A_v4 := pa_sm A_v4 S_v9 lt_v4
  replace hBs := Nat.le_trans S_v9.1 S_v9.2.1
  obtain rfl : 5 = r_v9 := by rcases hr_v9 with y | y <;> omega
  replace T := T_v9
  show W K l _ n0 _ h10 38 338 332 #[.val (.int i0), .val (.int i1), .val (.int i2), .val (.int i3), .val (.int (Int32.ofNat n)), .val (.int (Int32.ofNat p)), .val (.int (Int32.ofNat r1)), .val (.int (Int32.ofNat d)), .val (.int (0 : Int32)), .val (.int rz), .val (.int a), .val (.int b), .val (.ref cc), .val (.ref v0), .val (.ref v1), .val (.ref v2), .val (.ref v3), .val (.ref v4), .val (.ref t), .unset] [(.int z_v9)]
  refine w_pop ok at_332 rfl ?_
  refine w_iload ok at_333 rfl ?_
  refine w_if_eq ok at_335 (pc' := 345) (by decide) (fun hc12 => ?_) (fun hc12 => ?_)
  · skip
    exact t2_345f l Z a0 hw n0 _ K ok B hB0 hBs t cc v0 v1 v2 v3 v4 n p r1 d i0 i1 i2 i3 a b c A_cc A_v0 A_v1 A_v2 A_v3 A_v4 lt_cc lt_v0 lt_v1 lt_v2 lt_v3 lt_v4 hp hr1 hd hc hnd rz hn Lm_v9 true T
  · skip
    refine w_aload ok at_338 rfl rfl ?_
    refine w_iload ok at_340 rfl ?_
    refine w_callV ok (y := mn_28) (a := t) (argsL := [(.int (Int32.ofNat d))]) (rest := []) at_342 (hw _ (List.mem_of_getElem? (i := 158) rfl)) (hw _ (List.mem_of_getElem? (i := 159) rfl)) (hw _ (List.mem_of_getElem? (i := 161) rfl)) (hw _ (List.mem_of_getElem? (i := 160) rfl)) (hw _ (List.mem_of_getElem? (i := 8) rfl)) (hw _ (List.mem_of_getElem? (i := 162) rfl)) (by decide) (tb_exa T) pd_28I29V rfl rfl (by decide) (Nat.le_of_ble_eq_true rfl) (by decide) (by decide) (fun z0 => rm_remove l Z a0 hw [] n0 h10 z0 B hB0 hBs t n p c Lm_v9 false T hn hp d hd) (fun v13 h14 qv13 => ?_)
    obtain ⟨rfl, T1, S1⟩ := qv13
    replace A_cc := pa_sm A_cc S1 lt_cc
    replace A_v0 := pa_sm A_v0 S1 lt_v0
    replace A_v1 := pa_sm A_v1 S1 lt_v1
    replace A_v2 := pa_sm A_v2 S1 lt_v2
    replace A_v3 := pa_sm A_v3 S1 lt_v3
    replace A_v4 := pa_sm A_v4 S1 lt_v4
    replace hBs := Nat.le_trans S1.1 S1.2.1
    replace T := T1
    show W K l _ n0 _ h14 38 338 345 #[.val (.int i0), .val (.int i1), .val (.int i2), .val (.int i3), .val (.int (Int32.ofNat n)), .val (.int (Int32.ofNat p)), .val (.int (Int32.ofNat r1)), .val (.int (Int32.ofNat d)), .val (.int (0 : Int32)), .val (.int rz), .val (.int a), .val (.int b), .val (.ref cc), .val (.ref v0), .val (.ref v1), .val (.ref v2), .val (.ref v3), .val (.ref v4), .val (.ref t), .unset] []
    exact t2_345f l Z a0 hw n0 _ K ok B hB0 hBs t cc v0 v1 v2 v3 v4 n p r1 d i0 i1 i2 i3 a b c A_cc A_v0 A_v1 A_v2 A_v3 A_v4 lt_cc lt_v0 lt_v1 lt_v2 lt_v3 lt_v4 hp hr1 hd hc hnd rz hn Lm_v9 false T
set_option maxRecDepth 65536 in
set_option maxHeartbeats 40000000 in
theorem t1_333 (l : Launch) (Z : State) (a0 : Array Value) (hw : ∀ d ∈ tables_1, d.before a0 Z = true) (n0 : Nat) (h0 : Heap) (K : Cx) (ok : Ok K Z n0 x.cls code maxLocals ret x.name) (B : Nat) (hB0 : n0 ≤ B) (hBs : B ≤ h0.size) (t cc v0 v1 v2 v3 v4 : Addr) (n p r1 d : Nat) (i0 i1 i2 i3 a b : Int32) (c : Nat → Int32) (A_cc : PA .int Z h0 cc (sv 5 c)) (A_v0 : PA .int Z h0 v0 (sv 3 (vrow p c 0))) (A_v1 : PA .int Z h0 v1 (sv 3 (vrow p c 1))) (A_v2 : PA .int Z h0 v2 (sv 3 (vrow p c 2))) (A_v3 : PA .int Z h0 v3 (sv 3 (vrow p c 3))) (A_v4 : PA .int Z h0 v4 (sv 3 (vrow p c 4))) (lt_cc : cc < B) (lt_v0 : v0 < B) (lt_v1 : v1 < B) (lt_v2 : v2 < B) (lt_v3 : v3 < B) (lt_v4 : v4 < B) (hp : p < n) (hr1 : r1 < 5) (hd : d < 5) (hc : ∀ j, c j ≠ -1) (hnd : ∀ k, k ≤ 5 → ndc c k ≤ 2) (ez : Int32) (hn1 : n = 1) (wa : Nat) (hwa : Jvm.Free.XT.ushr a 6 = Int32.ofNat wa ∧ wa < 64) (Wf : Nat → Nat) (hW : ∀ j, Jvm.Free.XT.ushr (c j) 6 = Int32.ofNat (Wf j) ∧ Wf j < 64) (r Lm : Nat) (T : TB Z h0 B t n p r c Lm false true) (hr : r ≤ 5) :
    W K l room_1 n0 (fun u h => u = some (.int 1)) h0 38 528 333 #[.val (.int i0), .val (.int i1), .val (.int i2), .val (.int i3), .val (.int (Int32.ofNat n)), .val (.int (Int32.ofNat p)), .val (.int (Int32.ofNat r1)), .val (.int (Int32.ofNat d)), .val (.int ez), .val (.int (0 : Int32)), .val (.int a), .val (.int b), .val (.ref cc), .val (.ref v0), .val (.ref v1), .val (.ref v2), .val (.ref v3), .val (.ref v4), .val (.ref t), .unset] [] := by
  show W K l _ n0 _ h0 38 528 333 #[.val (.int i0), .val (.int i1), .val (.int i2), .val (.int i3), .val (.int (Int32.ofNat n)), .val (.int (Int32.ofNat p)), .val (.int (Int32.ofNat r1)), .val (.int (Int32.ofNat d)), .val (.int ez), .val (.int (0 : Int32)), .val (.int a), .val (.int b), .val (.ref cc), .val (.ref v0), .val (.ref v1), .val (.ref v2), .val (.ref v3), .val (.ref v4), .val (.ref t), .unset] []
  refine w_iload ok at_333 rfl ?_
  refine w_if_eq ok at_335 (pc' := 345) (by decide) (fun hc1 => ?_) (fun hc1 => False.elim (by revert hc1; decide))
  refine w_iload ok at_345 rfl ?_
  refine w_if_ne ok at_347 (pc' := 360) (by decide) (fun hc3 => ?_) (fun hc3 => ?_)
  · skip
    refine w_aload ok at_360 rfl rfl ?_
    refine w_iload ok at_362 rfl ?_
    refine w_iload ok at_364 rfl ?_
    refine w_callV ok (y := mn_21) (a := t) (argsL := [(.int (Int32.ofNat p)), (.int (Int32.ofNat r1))]) (rest := []) at_366 (hw _ (List.mem_of_getElem? (i := 131) rfl)) (hw _ (List.mem_of_getElem? (i := 132) rfl)) (hw _ (List.mem_of_getElem? (i := 134) rfl)) (hw _ (List.mem_of_getElem? (i := 133) rfl)) (hw _ (List.mem_of_getElem? (i := 8) rfl)) (hw _ (List.mem_of_getElem? (i := 135) rfl)) (by decide) (tb_exa T) pd_28II29I rfl rfl (by decide) (Nat.le_of_ble_eq_true rfl) (by decide) (by decide) (fun z0 => rm_next1 l Z a0 hw [] n0 h0 z0 B hB0 hBs t n p r c Lm false true T hn1 _) (fun v4 h5 qv4 => ?_)
    obtain ⟨rfl, rfl⟩ := qv4
    show W K l _ n0 _ h0 38 528 369 #[.val (.int i0), .val (.int i1), .val (.int i2), .val (.int i3), .val (.int (Int32.ofNat n)), .val (.int (Int32.ofNat p)), .val (.int (Int32.ofNat r1)), .val (.int (Int32.ofNat d)), .val (.int ez), .val (.int (0 : Int32)), .val (.int a), .val (.int b), .val (.ref cc), .val (.ref v0), .val (.ref v1), .val (.ref v2), .val (.ref v3), .val (.ref v4), .val (.ref t), .unset] [(.int (-1 : Int32))]
    refine w_istore ok at_369 (L' := #[.val (.int i0), .val (.int i1), .val (.int i2), .val (.int i3), .val (.int (Int32.ofNat n)), .val (.int (Int32.ofNat p)), .val (.int (Int32.ofNat r1)), .val (.int (Int32.ofNat d)), .val (.int ez), .val (.int (0 : Int32)), .val (.int a), .val (.int b), .val (.ref cc), .val (.ref v0), .val (.ref v1), .val (.ref v2), .val (.ref v3), .val (.ref v4), .val (.ref t), .val (.int (-1 : Int32))]) rfl ?_
    refine w_iload ok at_371 rfl ?_
    refine w_iconst ok at_373 (v := (1 : Int32)) rfl ?_
    refine w_icmp_ne ok at_374 (pc' := 389) (by decide) (fun hc7 => False.elim (by exact hc7 (by rw [hn1]; rfl))) (fun hc7 => ?_)
    refine w_iload ok at_377 rfl ?_
    refine w_iconst ok at_379 (v := (-1 : Int32)) rfl ?_
    refine w_icmp_ne ok at_380 (pc' := 387) (by decide) (fun hc9 => False.elim (by revert hc9; decide)) (fun hc9 => ?_)
    refine w_iconst ok at_383 (v := (1 : Int32)) rfl ?_
    refine w_goto ok at_384 (pc' := 388) (by decide) ?_
    refine w_bret ok (by simp) at_388 (by decide) (by decide) ?_
    exact rfl
  · skip
    refine w_aload ok at_350 rfl rfl ?_
    refine w_iload ok at_352 rfl ?_
    refine w_iload ok at_354 rfl ?_
    refine w_callV ok (y := mn_13) (a := t) (argsL := [(.int (Int32.ofNat p)), (.int a)]) (rest := []) at_356 (hw _ (List.mem_of_getElem? (i := 80) rfl)) (hw _ (List.mem_of_getElem? (i := 81) rfl)) (hw _ (List.mem_of_getElem? (i := 83) rfl)) (hw _ (List.mem_of_getElem? (i := 82) rfl)) (hw _ (List.mem_of_getElem? (i := 8) rfl)) (hw _ (List.mem_of_getElem? (i := 84) rfl)) (by decide) (tb_exa T) pd_28II29I rfl rfl (by decide) (Nat.le_of_ble_eq_true rfl) (by decide) (by decide) (fun z0 => rm_first1 l Z a0 hw [] n0 h0 z0 B hB0 hBs t n p r c Lm false T hn1 (by omega) a wa hwa.1 hwa.2) (fun v10 h11 qv10 => ?_)
    obtain ⟨zf, rfl, T1, S1⟩ := qv10
    replace A_cc := pa_sm A_cc S1 lt_cc
    replace A_v0 := pa_sm A_v0 S1 lt_v0
    replace A_v1 := pa_sm A_v1 S1 lt_v1
    replace A_v2 := pa_sm A_v2 S1 lt_v2
    replace A_v3 := pa_sm A_v3 S1 lt_v3
    replace A_v4 := pa_sm A_v4 S1 lt_v4
    replace hBs := Nat.le_trans S1.1 S1.2.1
    replace T := T1
    show W K l _ n0 _ h11 38 528 359 #[.val (.int i0), .val (.int i1), .val (.int i2), .val (.int i3), .val (.int (Int32.ofNat n)), .val (.int (Int32.ofNat p)), .val (.int (Int32.ofNat r1)), .val (.int (Int32.ofNat d)), .val (.int ez), .val (.int (0 : Int32)), .val (.int a), .val (.int b), .val (.ref cc), .val (.ref v0), .val (.ref v1), .val (.ref v2), .val (.ref v3), .val (.ref v4), .val (.ref t), .unset] [(.int zf)]
    refine w_pop ok at_359 rfl ?_
    refine w_aload ok at_360 rfl rfl ?_
    refine w_iload ok at_362 rfl ?_
    refine w_iload ok at_364 rfl ?_
    refine w_callV ok (y := mn_21) (a := t) (argsL := [(.int (Int32.ofNat p)), (.int (Int32.ofNat r1))]) (rest := []) at_366 (hw _ (List.mem_of_getElem? (i := 131) rfl)) (hw _ (List.mem_of_getElem? (i := 132) rfl)) (hw _ (List.mem_of_getElem? (i := 134) rfl)) (hw _ (List.mem_of_getElem? (i := 133) rfl)) (hw _ (List.mem_of_getElem? (i := 8) rfl)) (hw _ (List.mem_of_getElem? (i := 135) rfl)) (by decide) (tb_exa T) pd_28II29I rfl rfl (by decide) (Nat.le_of_ble_eq_true rfl) (by decide) (by decide) (fun z0 => rm_next1 l Z a0 hw [] n0 h11 z0 B hB0 hBs t n p r c Lm false true T hn1 _) (fun v12 h13 qv12 => ?_)
    obtain ⟨rfl, rfl⟩ := qv12
    show W K l _ n0 _ h11 38 528 369 #[.val (.int i0), .val (.int i1), .val (.int i2), .val (.int i3), .val (.int (Int32.ofNat n)), .val (.int (Int32.ofNat p)), .val (.int (Int32.ofNat r1)), .val (.int (Int32.ofNat d)), .val (.int ez), .val (.int (0 : Int32)), .val (.int a), .val (.int b), .val (.ref cc), .val (.ref v0), .val (.ref v1), .val (.ref v2), .val (.ref v3), .val (.ref v4), .val (.ref t), .unset] [(.int (-1 : Int32))]
    refine w_istore ok at_369 (L' := #[.val (.int i0), .val (.int i1), .val (.int i2), .val (.int i3), .val (.int (Int32.ofNat n)), .val (.int (Int32.ofNat p)), .val (.int (Int32.ofNat r1)), .val (.int (Int32.ofNat d)), .val (.int ez), .val (.int (0 : Int32)), .val (.int a), .val (.int b), .val (.ref cc), .val (.ref v0), .val (.ref v1), .val (.ref v2), .val (.ref v3), .val (.ref v4), .val (.ref t), .val (.int (-1 : Int32))]) rfl ?_
    refine w_iload ok at_371 rfl ?_
    refine w_iconst ok at_373 (v := (1 : Int32)) rfl ?_
    refine w_icmp_ne ok at_374 (pc' := 389) (by decide) (fun hc15 => False.elim (by exact hc15 (by rw [hn1]; rfl))) (fun hc15 => ?_)
    refine w_iload ok at_377 rfl ?_
    refine w_iconst ok at_379 (v := (-1 : Int32)) rfl ?_
    refine w_icmp_ne ok at_380 (pc' := 387) (by decide) (fun hc17 => False.elim (by revert hc17; decide)) (fun hc17 => ?_)
    refine w_iconst ok at_383 (v := (1 : Int32)) rfl ?_
    refine w_goto ok at_384 (pc' := 388) (by decide) ?_
    refine w_bret ok (by simp) at_388 (by decide) (by decide) ?_
    exact rfl
theorem own_cv {x e0 e1 y L : Nat} (h : x = e0 ∨ x = e1) (h0 : e0 < L) (ej : y = e1) (h1 : y < L) : x < L := by rcases h with h | h <;> omega
set_option maxRecDepth 65536 in
set_option maxHeartbeats 40000000 in
theorem t1c_4 (l : Launch) (Z : State) (a0 : Array Value) (hw : ∀ d ∈ tables_1, d.before a0 Z = true) (n0 : Nat) (h0 : Heap) (K : Cx) (ok : Ok K Z n0 x.cls code maxLocals ret x.name) (B : Nat) (hB0 : n0 ≤ B) (hBs : B ≤ h0.size) (t cc v0 v1 v2 v3 v4 : Addr) (n p r1 d : Nat) (i0 i1 i2 i3 a b : Int32) (c : Nat → Int32) (A_cc : PA .int Z h0 cc (sv 5 c)) (A_v0 : PA .int Z h0 v0 (sv 3 (vrow p c 0))) (A_v1 : PA .int Z h0 v1 (sv 3 (vrow p c 1))) (A_v2 : PA .int Z h0 v2 (sv 3 (vrow p c 2))) (A_v3 : PA .int Z h0 v3 (sv 3 (vrow p c 3))) (A_v4 : PA .int Z h0 v4 (sv 3 (vrow p c 4))) (lt_cc : cc < B) (lt_v0 : v0 < B) (lt_v1 : v1 < B) (lt_v2 : v2 < B) (lt_v3 : v3 < B) (lt_v4 : v4 < B) (hp : p < n) (hr1 : r1 < 5) (hd : d < 5) (hc : ∀ j, c j ≠ -1) (hnd : ∀ k, k ≤ 5 → ndc c k ≤ 2) (ez : Int32) (hn1 : n = 1) (wa : Nat) (hwa : Jvm.Free.XT.ushr a 6 = Int32.ofNat wa ∧ wa < 64) (Wf : Nat → Nat) (hW : ∀ j, Jvm.Free.XT.ushr (c j) 6 = Int32.ofNat (Wf j) ∧ Wf j < 64) (r Lm : Nat) (T : TB Z h0 B t n p r c Lm false true) (hr : r ≤ 4) (hcv : ∀ j, Wf j < Lm) :
    W K l room_1 n0 (fun u h => u = some (.int 1)) h0 33 472 325 #[.val (.int i0), .val (.int i1), .val (.int i2), .val (.int i3), .val (.int (Int32.ofNat n)), .val (.int (Int32.ofNat p)), .val (.int (Int32.ofNat r1)), .val (.int (Int32.ofNat d)), .val (.int ez), .val (.int (0 : Int32)), .val (.int a), .val (.int b), .val (.ref cc), .val (.ref v0), .val (.ref v1), .val (.ref v2), .val (.ref v3), .val (.ref v4), .val (.ref t), .unset] [] := by
  show W K l _ n0 _ h0 33 472 325 #[.val (.int i0), .val (.int i1), .val (.int i2), .val (.int i3), .val (.int (Int32.ofNat n)), .val (.int (Int32.ofNat p)), .val (.int (Int32.ofNat r1)), .val (.int (Int32.ofNat d)), .val (.int ez), .val (.int (0 : Int32)), .val (.int a), .val (.int b), .val (.ref cc), .val (.ref v0), .val (.ref v1), .val (.ref v2), .val (.ref v3), .val (.ref v4), .val (.ref t), .unset] []
  refine w_aload ok at_325 rfl rfl ?_
  refine w_aload ok at_327 rfl rfl ?_
  refine w_callV ok (y := mn_5) (a := t) (argsL := [(.ref v4)]) (rest := []) at_329 (hw _ (List.mem_of_getElem? (i := 37) rfl)) (hw _ (List.mem_of_getElem? (i := 38) rfl)) (hw _ (List.mem_of_getElem? (i := 40) rfl)) (hw _ (List.mem_of_getElem? (i := 39) rfl)) (hw _ (List.mem_of_getElem? (i := 8) rfl)) (hw _ (List.mem_of_getElem? (i := 41) rfl)) (by decide) (tb_exa T) pd_285bI29I rfl rfl (by decide) (Nat.le_of_ble_eq_true rfl) (by decide) (by decide) (fun z0 => rm_add l Z a0 hw [] n0 h0 z0 B hB0 hBs t n p r c Lm false T v4 (vrow p c 4) A_v4 lt_v4 0 (Wf 4) (by decide) (by omega) (by omega) hp hc hnd (fun e => nomatch e) (fun e => absurd e (by omega)) (fun _ => by rw [vrow0 (by omega)]; exact (hW 4).1) (hW 4).2 (fun _ h => absurd (hcv 4) h)) (fun v1 h2 qv1 => ?_)
  obtain ⟨z_v1, r_v1, Lm_v1, rfl, T_v1, S_v1, hr_v1, hw_v1⟩ := qv1
  replace A_cc := pa_sm A_cc S_v1 lt_cc
  replace A_v0 := pa_sm A_v0 S_v1 lt_v0
  replace A_v1 := pa_sm A_v1 S_v1 lt_v1
  replace A_v2 := pa_sm A_v2 S_v1 lt_v2
  replace A_v3 := pa_sm A_v3 S_v1 lt_v3
  replace A_v4 := pa_sm A_v4 S_v1 lt_v4
  replace hBs := Nat.le_trans S_v1.1 S_v1.2.1
  have hrr : r_v1 ≤ 5 := by rcases hr_v1 with y | y <;> omega
  have hww := hw_v1 hn1
  replace T := T_v1
  show W K l _ n0 _ h2 38 528 332 #[.val (.int i0), .val (.int i1), .val (.int i2), .val (.int i3), .val (.int (Int32.ofNat n)), .val (.int (Int32.ofNat p)), .val (.int (Int32.ofNat r1)), .val (.int (Int32.ofNat d)), .val (.int ez), .val (.int (0 : Int32)), .val (.int a), .val (.int b), .val (.ref cc), .val (.ref v0), .val (.ref v1), .val (.ref v2), .val (.ref v3), .val (.ref v4), .val (.ref t), .unset] [(.int z_v1)]
  refine w_pop ok at_332 rfl ?_
  show W K l _ n0 _ h2 38 528 333 #[.val (.int i0), .val (.int i1), .val (.int i2), .val (.int i3), .val (.int (Int32.ofNat n)), .val (.int (Int32.ofNat p)), .val (.int (Int32.ofNat r1)), .val (.int (Int32.ofNat d)), .val (.int ez), .val (.int (0 : Int32)), .val (.int a), .val (.int b), .val (.ref cc), .val (.ref v0), .val (.ref v1), .val (.ref v2), .val (.ref v3), .val (.ref v4), .val (.ref t), .unset] []
  exact W.more (t1_333 l Z a0 hw n0 _ K ok B hB0 hBs t cc v0 v1 v2 v3 v4 n p r1 d i0 i1 i2 i3 a b c A_cc A_v0 A_v1 A_v2 A_v3 A_v4 lt_cc lt_v0 lt_v1 lt_v2 lt_v3 lt_v4 hp hr1 hd hc hnd ez hn1 wa hwa Wf hW _ _ T hrr) (by decide) (by decide)
set_option maxRecDepth 65536 in
set_option maxHeartbeats 40000000 in
theorem t1u_4 (l : Launch) (Z : State) (a0 : Array Value) (hw : ∀ d ∈ tables_1, d.before a0 Z = true) (n0 : Nat) (h0 : Heap) (K : Cx) (ok : Ok K Z n0 x.cls code maxLocals ret x.name) (B : Nat) (hB0 : n0 ≤ B) (hBs : B ≤ h0.size) (t cc v0 v1 v2 v3 v4 : Addr) (n p r1 d : Nat) (i0 i1 i2 i3 a b : Int32) (c : Nat → Int32) (A_cc : PA .int Z h0 cc (sv 5 c)) (A_v0 : PA .int Z h0 v0 (sv 3 (vrow p c 0))) (A_v1 : PA .int Z h0 v1 (sv 3 (vrow p c 1))) (A_v2 : PA .int Z h0 v2 (sv 3 (vrow p c 2))) (A_v3 : PA .int Z h0 v3 (sv 3 (vrow p c 3))) (A_v4 : PA .int Z h0 v4 (sv 3 (vrow p c 4))) (lt_cc : cc < B) (lt_v0 : v0 < B) (lt_v1 : v1 < B) (lt_v2 : v2 < B) (lt_v3 : v3 < B) (lt_v4 : v4 < B) (hp : p < n) (hr1 : r1 < 5) (hd : d < 5) (hc : ∀ j, c j ≠ -1) (hnd : ∀ k, k ≤ 5 → ndc c k ≤ 2) (ez : Int32) (hn1 : n = 1) (wa : Nat) (hwa : Jvm.Free.XT.ushr a 6 = Int32.ofNat wa ∧ wa < 64) (Wf : Nat → Nat) (hW : ∀ j, Jvm.Free.XT.ushr (c j) 6 = Int32.ofNat (Wf j) ∧ Wf j < 64) (r Lm : Nat) (T : TB Z h0 B t n p r c Lm false true) (hr : r ≤ 4) (hc0 : Wf 0 < Lm) (e1 : Nat) (he1 : ∀ j, Wf j = Wf 0 ∨ Wf j = e1) :
    W K l room_1 n0 (fun u h => u = some (.int 1)) h0 33 346 325 #[.val (.int i0), .val (.int i1), .val (.int i2), .val (.int i3), .val (.int (Int32.ofNat n)), .val (.int (Int32.ofNat p)), .val (.int (Int32.ofNat r1)), .val (.int (Int32.ofNat d)), .val (.int ez), .val (.int (0 : Int32)), .val (.int a), .val (.int b), .val (.ref cc), .val (.ref v0), .val (.ref v1), .val (.ref v2), .val (.ref v3), .val (.ref v4), .val (.ref t), .unset] [] := by
  by_cases hlt : Wf 4 < Lm
  · skip
    show W K l _ n0 _ h0 33 346 325 #[.val (.int i0), .val (.int i1), .val (.int i2), .val (.int i3), .val (.int (Int32.ofNat n)), .val (.int (Int32.ofNat p)), .val (.int (Int32.ofNat r1)), .val (.int (Int32.ofNat d)), .val (.int ez), .val (.int (0 : Int32)), .val (.int a), .val (.int b), .val (.ref cc), .val (.ref v0), .val (.ref v1), .val (.ref v2), .val (.ref v3), .val (.ref v4), .val (.ref t), .unset] []
    refine w_aload ok at_325 rfl rfl ?_
    refine w_aload ok at_327 rfl rfl ?_
    refine w_callV ok (y := mn_5) (a := t) (argsL := [(.ref v4)]) (rest := []) at_329 (hw _ (List.mem_of_getElem? (i := 37) rfl)) (hw _ (List.mem_of_getElem? (i := 38) rfl)) (hw _ (List.mem_of_getElem? (i := 40) rfl)) (hw _ (List.mem_of_getElem? (i := 39) rfl)) (hw _ (List.mem_of_getElem? (i := 8) rfl)) (hw _ (List.mem_of_getElem? (i := 41) rfl)) (by decide) (tb_exa T) pd_285bI29I rfl rfl (by decide) (Nat.le_of_ble_eq_true rfl) (by decide) (by decide) (fun z0 => rm_add l Z a0 hw [] n0 h0 z0 B hB0 hBs t n p r c Lm false T v4 (vrow p c 4) A_v4 lt_v4 0 (Wf 4) (by decide) (by omega) (by omega) hp hc hnd (fun e => nomatch e) (fun e => absurd e (by omega)) (fun _ => by rw [vrow0 (by omega)]; exact (hW 4).1) (hW 4).2 (fun _ h => absurd hlt h)) (fun v1 h2 qv1 => ?_)
    obtain ⟨z_v1, r_v1, Lm_v1, rfl, T_v1, S_v1, hr_v1, hw_v1⟩ := qv1
    replace A_cc := pa_sm A_cc S_v1 lt_cc
    replace A_v0 := pa_sm A_v0 S_v1 lt_v0
    replace A_v1 := pa_sm A_v1 S_v1 lt_v1
    replace A_v2 := pa_sm A_v2 S_v1 lt_v2
    replace A_v3 := pa_sm A_v3 S_v1 lt_v3
    replace A_v4 := pa_sm A_v4 S_v1 lt_v4
    replace hBs := Nat.le_trans S_v1.1 S_v1.2.1
    have hrr : r_v1 ≤ 5 := by rcases hr_v1 with y | y <;> omega
    have hww := hw_v1 hn1
    replace T := T_v1
    show W K l _ n0 _ h2 38 402 332 #[.val (.int i0), .val (.int i1), .val (.int i2), .val (.int i3), .val (.int (Int32.ofNat n)), .val (.int (Int32.ofNat p)), .val (.int (Int32.ofNat r1)), .val (.int (Int32.ofNat d)), .val (.int ez), .val (.int (0 : Int32)), .val (.int a), .val (.int b), .val (.ref cc), .val (.ref v0), .val (.ref v1), .val (.ref v2), .val (.ref v3), .val (.ref v4), .val (.ref t), .unset] [(.int z_v1)]
    refine w_pop ok at_332 rfl ?_
    show W K l _ n0 _ h2 38 402 333 #[.val (.int i0), .val (.int i1), .val (.int i2), .val (.int i3), .val (.int (Int32.ofNat n)), .val (.int (Int32.ofNat p)), .val (.int (Int32.ofNat r1)), .val (.int (Int32.ofNat d)), .val (.int ez), .val (.int (0 : Int32)), .val (.int a), .val (.int b), .val (.ref cc), .val (.ref v0), .val (.ref v1), .val (.ref v2), .val (.ref v3), .val (.ref v4), .val (.ref t), .unset] []
    exact W.more (t1_333 l Z a0 hw n0 _ K ok B hB0 hBs t cc v0 v1 v2 v3 v4 n p r1 d i0 i1 i2 i3 a b c A_cc A_v0 A_v1 A_v2 A_v3 A_v4 lt_cc lt_v0 lt_v1 lt_v2 lt_v3 lt_v4 hp hr1 hd hc hnd ez hn1 wa hwa Wf hW _ _ T hrr) (by decide) (by decide)
  · have ej : Wf 4 = e1 := by rcases he1 4 with y | y <;> omega
    show W K l _ n0 _ h0 33 346 325 #[.val (.int i0), .val (.int i1), .val (.int i2), .val (.int i3), .val (.int (Int32.ofNat n)), .val (.int (Int32.ofNat p)), .val (.int (Int32.ofNat r1)), .val (.int (Int32.ofNat d)), .val (.int ez), .val (.int (0 : Int32)), .val (.int a), .val (.int b), .val (.ref cc), .val (.ref v0), .val (.ref v1), .val (.ref v2), .val (.ref v3), .val (.ref v4), .val (.ref t), .unset] []
    refine w_aload ok at_325 rfl rfl ?_
    refine w_aload ok at_327 rfl rfl ?_
    refine w_callV ok (y := mn_5) (a := t) (argsL := [(.ref v4)]) (rest := []) at_329 (hw _ (List.mem_of_getElem? (i := 37) rfl)) (hw _ (List.mem_of_getElem? (i := 38) rfl)) (hw _ (List.mem_of_getElem? (i := 40) rfl)) (hw _ (List.mem_of_getElem? (i := 39) rfl)) (hw _ (List.mem_of_getElem? (i := 8) rfl)) (hw _ (List.mem_of_getElem? (i := 41) rfl)) (by decide) (tb_exa T) pd_285bI29I rfl rfl (by decide) (Nat.le_of_ble_eq_true rfl) (by decide) (by decide) (fun z0 => rm_add l Z a0 hw [] n0 h0 z0 B hB0 hBs t n p r c Lm false T v4 (vrow p c 4) A_v4 lt_v4 126 (Wf 4) (by decide) (by omega) (by omega) hp hc hnd (fun e => nomatch e) (fun e => absurd e (by omega)) (fun _ => by rw [vrow0 (by omega)]; exact (hW 4).1) (hW 4).2 (fun _ h => ⟨by have := (hW 4).2; omega, by have := (hW 4).2; omega⟩)) (fun v3 h4 qv3 => ?_)
    obtain ⟨z_v3, r_v3, Lm_v3, rfl, T_v3, S_v3, hr_v3, hw_v3⟩ := qv3
    replace A_cc := pa_sm A_cc S_v3 lt_cc
    replace A_v0 := pa_sm A_v0 S_v3 lt_v0
    replace A_v1 := pa_sm A_v1 S_v3 lt_v1
    replace A_v2 := pa_sm A_v2 S_v3 lt_v2
    replace A_v3 := pa_sm A_v3 S_v3 lt_v3
    replace A_v4 := pa_sm A_v4 S_v3 lt_v4
    replace hBs := Nat.le_trans S_v3.1 S_v3.2.1
    have hrr : r_v3 ≤ 5 := by rcases hr_v3 with y | y <;> omega
    have hww := hw_v3 hn1
    replace T := T_v3
    show W K l _ n0 _ h4 38 528 332 #[.val (.int i0), .val (.int i1), .val (.int i2), .val (.int i3), .val (.int (Int32.ofNat n)), .val (.int (Int32.ofNat p)), .val (.int (Int32.ofNat r1)), .val (.int (Int32.ofNat d)), .val (.int ez), .val (.int (0 : Int32)), .val (.int a), .val (.int b), .val (.ref cc), .val (.ref v0), .val (.ref v1), .val (.ref v2), .val (.ref v3), .val (.ref v4), .val (.ref t), .unset] [(.int z_v3)]
    refine w_pop ok at_332 rfl ?_
    show W K l _ n0 _ h4 38 528 333 #[.val (.int i0), .val (.int i1), .val (.int i2), .val (.int i3), .val (.int (Int32.ofNat n)), .val (.int (Int32.ofNat p)), .val (.int (Int32.ofNat r1)), .val (.int (Int32.ofNat d)), .val (.int ez), .val (.int (0 : Int32)), .val (.int a), .val (.int b), .val (.ref cc), .val (.ref v0), .val (.ref v1), .val (.ref v2), .val (.ref v3), .val (.ref v4), .val (.ref t), .unset] []
    exact W.more (t1_333 l Z a0 hw n0 _ K ok B hB0 hBs t cc v0 v1 v2 v3 v4 n p r1 d i0 i1 i2 i3 a b c A_cc A_v0 A_v1 A_v2 A_v3 A_v4 lt_cc lt_v0 lt_v1 lt_v2 lt_v3 lt_v4 hp hr1 hd hc hnd ez hn1 wa hwa Wf hW _ _ T hrr) (by decide) (by decide)
set_option maxRecDepth 65536 in
set_option maxHeartbeats 40000000 in
theorem t1c_3 (l : Launch) (Z : State) (a0 : Array Value) (hw : ∀ d ∈ tables_1, d.before a0 Z = true) (n0 : Nat) (h0 : Heap) (K : Cx) (ok : Ok K Z n0 x.cls code maxLocals ret x.name) (B : Nat) (hB0 : n0 ≤ B) (hBs : B ≤ h0.size) (t cc v0 v1 v2 v3 v4 : Addr) (n p r1 d : Nat) (i0 i1 i2 i3 a b : Int32) (c : Nat → Int32) (A_cc : PA .int Z h0 cc (sv 5 c)) (A_v0 : PA .int Z h0 v0 (sv 3 (vrow p c 0))) (A_v1 : PA .int Z h0 v1 (sv 3 (vrow p c 1))) (A_v2 : PA .int Z h0 v2 (sv 3 (vrow p c 2))) (A_v3 : PA .int Z h0 v3 (sv 3 (vrow p c 3))) (A_v4 : PA .int Z h0 v4 (sv 3 (vrow p c 4))) (lt_cc : cc < B) (lt_v0 : v0 < B) (lt_v1 : v1 < B) (lt_v2 : v2 < B) (lt_v3 : v3 < B) (lt_v4 : v4 < B) (hp : p < n) (hr1 : r1 < 5) (hd : d < 5) (hc : ∀ j, c j ≠ -1) (hnd : ∀ k, k ≤ 5 → ndc c k ≤ 2) (ez : Int32) (hn1 : n = 1) (wa : Nat) (hwa : Jvm.Free.XT.ushr a 6 = Int32.ofNat wa ∧ wa < 64) (Wf : Nat → Nat) (hW : ∀ j, Jvm.Free.XT.ushr (c j) 6 = Int32.ofNat (Wf j) ∧ Wf j < 64) (r Lm : Nat) (T : TB Z h0 B t n p r c Lm false true) (hr : r ≤ 3) (hcv : ∀ j, Wf j < Lm) :
    W K l room_1 n0 (fun u h => u = some (.int 1)) h0 28 416 317 #[.val (.int i0), .val (.int i1), .val (.int i2), .val (.int i3), .val (.int (Int32.ofNat n)), .val (.int (Int32.ofNat p)), .val (.int (Int32.ofNat r1)), .val (.int (Int32.ofNat d)), .val (.int ez), .val (.int (0 : Int32)), .val (.int a), .val (.int b), .val (.ref cc), .val (.ref v0), .val (.ref v1), .val (.ref v2), .val (.ref v3), .val (.ref v4), .val (.ref t), .unset] [] := by
  show W K l _ n0 _ h0 28 416 317 #[.val (.int i0), .val (.int i1), .val (.int i2), .val (.int i3), .val (.int (Int32.ofNat n)), .val (.int (Int32.ofNat p)), .val (.int (Int32.ofNat r1)), .val (.int (Int32.ofNat d)), .val (.int ez), .val (.int (0 : Int32)), .val (.int a), .val (.int b), .val (.ref cc), .val (.ref v0), .val (.ref v1), .val (.ref v2), .val (.ref v3), .val (.ref v4), .val (.ref t), .unset] []
  refine w_aload ok at_317 rfl rfl ?_
  refine w_aload ok at_319 rfl rfl ?_
  refine w_callV ok (y := mn_5) (a := t) (argsL := [(.ref v3)]) (rest := []) at_321 (hw _ (List.mem_of_getElem? (i := 37) rfl)) (hw _ (List.mem_of_getElem? (i := 38) rfl)) (hw _ (List.mem_of_getElem? (i := 40) rfl)) (hw _ (List.mem_of_getElem? (i := 39) rfl)) (hw _ (List.mem_of_getElem? (i := 8) rfl)) (hw _ (List.mem_of_getElem? (i := 41) rfl)) (by decide) (tb_exa T) pd_285bI29I rfl rfl (by decide) (Nat.le_of_ble_eq_true rfl) (by decide) (by decide) (fun z0 => rm_add l Z a0 hw [] n0 h0 z0 B hB0 hBs t n p r c Lm false T v3 (vrow p c 3) A_v3 lt_v3 0 (Wf 3) (by decide) (by omega) (by omega) hp hc hnd (fun e => nomatch e) (fun e => absurd e (by omega)) (fun _ => by rw [vrow0 (by omega)]; exact (hW 3).1) (hW 3).2 (fun _ h => absurd (hcv 3) h)) (fun v1 h2 qv1 => ?_)
  obtain ⟨z_v1, r_v1, Lm_v1, rfl, T_v1, S_v1, hr_v1, hw_v1⟩ := qv1
  replace A_cc := pa_sm A_cc S_v1 lt_cc
  replace A_v0 := pa_sm A_v0 S_v1 lt_v0
  replace A_v1 := pa_sm A_v1 S_v1 lt_v1
  replace A_v2 := pa_sm A_v2 S_v1 lt_v2
  replace A_v3 := pa_sm A_v3 S_v1 lt_v3
  replace A_v4 := pa_sm A_v4 S_v1 lt_v4
  replace hBs := Nat.le_trans S_v1.1 S_v1.2.1
  have hrr : r_v1 ≤ 4 := by rcases hr_v1 with y | y <;> omega
  have hww := hw_v1 hn1
  replace T := T_v1
  show W K l _ n0 _ h2 33 472 324 #[.val (.int i0), .val (.int i1), .val (.int i2), .val (.int i3), .val (.int (Int32.ofNat n)), .val (.int (Int32.ofNat p)), .val (.int (Int32.ofNat r1)), .val (.int (Int32.ofNat d)), .val (.int ez), .val (.int (0 : Int32)), .val (.int a), .val (.int b), .val (.ref cc), .val (.ref v0), .val (.ref v1), .val (.ref v2), .val (.ref v3), .val (.ref v4), .val (.ref t), .unset] [(.int z_v1)]
  refine w_pop ok at_324 rfl ?_
  show W K l _ n0 _ h2 33 472 325 #[.val (.int i0), .val (.int i1), .val (.int i2), .val (.int i3), .val (.int (Int32.ofNat n)), .val (.int (Int32.ofNat p)), .val (.int (Int32.ofNat r1)), .val (.int (Int32.ofNat d)), .val (.int ez), .val (.int (0 : Int32)), .val (.int a), .val (.int b), .val (.ref cc), .val (.ref v0), .val (.ref v1), .val (.ref v2), .val (.ref v3), .val (.ref v4), .val (.ref t), .unset] []
  have hcvn : ∀ i, Wf i < Lm_v1 := fun i => Nat.lt_of_lt_of_le (hcv i) hww.2
  exact W.more (t1c_4 l Z a0 hw n0 _ K ok B hB0 hBs t cc v0 v1 v2 v3 v4 n p r1 d i0 i1 i2 i3 a b c A_cc A_v0 A_v1 A_v2 A_v3 A_v4 lt_cc lt_v0 lt_v1 lt_v2 lt_v3 lt_v4 hp hr1 hd hc hnd ez hn1 wa hwa Wf hW _ _ T hrr hcvn) (by decide) (by decide)
set_option maxRecDepth 65536 in
set_option maxHeartbeats 40000000 in
theorem t1u_3 (l : Launch) (Z : State) (a0 : Array Value) (hw : ∀ d ∈ tables_1, d.before a0 Z = true) (n0 : Nat) (h0 : Heap) (K : Cx) (ok : Ok K Z n0 x.cls code maxLocals ret x.name) (B : Nat) (hB0 : n0 ≤ B) (hBs : B ≤ h0.size) (t cc v0 v1 v2 v3 v4 : Addr) (n p r1 d : Nat) (i0 i1 i2 i3 a b : Int32) (c : Nat → Int32) (A_cc : PA .int Z h0 cc (sv 5 c)) (A_v0 : PA .int Z h0 v0 (sv 3 (vrow p c 0))) (A_v1 : PA .int Z h0 v1 (sv 3 (vrow p c 1))) (A_v2 : PA .int Z h0 v2 (sv 3 (vrow p c 2))) (A_v3 : PA .int Z h0 v3 (sv 3 (vrow p c 3))) (A_v4 : PA .int Z h0 v4 (sv 3 (vrow p c 4))) (lt_cc : cc < B) (lt_v0 : v0 < B) (lt_v1 : v1 < B) (lt_v2 : v2 < B) (lt_v3 : v3 < B) (lt_v4 : v4 < B) (hp : p < n) (hr1 : r1 < 5) (hd : d < 5) (hc : ∀ j, c j ≠ -1) (hnd : ∀ k, k ≤ 5 → ndc c k ≤ 2) (ez : Int32) (hn1 : n = 1) (wa : Nat) (hwa : Jvm.Free.XT.ushr a 6 = Int32.ofNat wa ∧ wa < 64) (Wf : Nat → Nat) (hW : ∀ j, Jvm.Free.XT.ushr (c j) 6 = Int32.ofNat (Wf j) ∧ Wf j < 64) (r Lm : Nat) (T : TB Z h0 B t n p r c Lm false true) (hr : r ≤ 3) (hc0 : Wf 0 < Lm) (e1 : Nat) (he1 : ∀ j, Wf j = Wf 0 ∨ Wf j = e1) :
    W K l room_1 n0 (fun u h => u = some (.int 1)) h0 28 290 317 #[.val (.int i0), .val (.int i1), .val (.int i2), .val (.int i3), .val (.int (Int32.ofNat n)), .val (.int (Int32.ofNat p)), .val (.int (Int32.ofNat r1)), .val (.int (Int32.ofNat d)), .val (.int ez), .val (.int (0 : Int32)), .val (.int a), .val (.int b), .val (.ref cc), .val (.ref v0), .val (.ref v1), .val (.ref v2), .val (.ref v3), .val (.ref v4), .val (.ref t), .unset] [] := by
  by_cases hlt : Wf 3 < Lm
  · skip
    show W K l _ n0 _ h0 28 290 317 #[.val (.int i0), .val (.int i1), .val (.int i2), .val (.int i3), .val (.int (Int32.ofNat n)), .val (.int (Int32.ofNat p)), .val (.int (Int32.ofNat r1)), .val (.int (Int32.ofNat d)), .val (.int ez), .val (.int (0 : Int32)), .val (.int a), .val (.int b), .val (.ref cc), .val (.ref v0), .val (.ref v1), .val (.ref v2), .val (.ref v3), .val (.ref v4), .val (.ref t), .unset] []
    refine w_aload ok at_317 rfl rfl ?_
    refine w_aload ok at_319 rfl rfl ?_
    refine w_callV ok (y := mn_5) (a := t) (argsL := [(.ref v3)]) (rest := []) at_321 (hw _ (List.mem_of_getElem? (i := 37) rfl)) (hw _ (List.mem_of_getElem? (i := 38) rfl)) (hw _ (List.mem_of_getElem? (i := 40) rfl)) (hw _ (List.mem_of_getElem? (i := 39) rfl)) (hw _ (List.mem_of_getElem? (i := 8) rfl)) (hw _ (List.mem_of_getElem? (i := 41) rfl)) (by decide) (tb_exa T) pd_285bI29I rfl rfl (by decide) (Nat.le_of_ble_eq_true rfl) (by decide) (by decide) (fun z0 => rm_add l Z a0 hw [] n0 h0 z0 B hB0 hBs t n p r c Lm false T v3 (vrow p c 3) A_v3 lt_v3 0 (Wf 3) (by decide) (by omega) (by omega) hp hc hnd (fun e => nomatch e) (fun e => absurd e (by omega)) (fun _ => by rw [vrow0 (by omega)]; exact (hW 3).1) (hW 3).2 (fun _ h => absurd hlt h)) (fun v1 h2 qv1 => ?_)
    obtain ⟨z_v1, r_v1, Lm_v1, rfl, T_v1, S_v1, hr_v1, hw_v1⟩ := qv1
    replace A_cc := pa_sm A_cc S_v1 lt_cc
    replace A_v0 := pa_sm A_v0 S_v1 lt_v0
    replace A_v1 := pa_sm A_v1 S_v1 lt_v1
    replace A_v2 := pa_sm A_v2 S_v1 lt_v2
    replace A_v3 := pa_sm A_v3 S_v1 lt_v3
    replace A_v4 := pa_sm A_v4 S_v1 lt_v4
    replace hBs := Nat.le_trans S_v1.1 S_v1.2.1
    have hrr : r_v1 ≤ 4 := by rcases hr_v1 with y | y <;> omega
    have hww := hw_v1 hn1
    replace T := T_v1
    show W K l _ n0 _ h2 33 346 324 #[.val (.int i0), .val (.int i1), .val (.int i2), .val (.int i3), .val (.int (Int32.ofNat n)), .val (.int (Int32.ofNat p)), .val (.int (Int32.ofNat r1)), .val (.int (Int32.ofNat d)), .val (.int ez), .val (.int (0 : Int32)), .val (.int a), .val (.int b), .val (.ref cc), .val (.ref v0), .val (.ref v1), .val (.ref v2), .val (.ref v3), .val (.ref v4), .val (.ref t), .unset] [(.int z_v1)]
    refine w_pop ok at_324 rfl ?_
    show W K l _ n0 _ h2 33 346 325 #[.val (.int i0), .val (.int i1), .val (.int i2), .val (.int i3), .val (.int (Int32.ofNat n)), .val (.int (Int32.ofNat p)), .val (.int (Int32.ofNat r1)), .val (.int (Int32.ofNat d)), .val (.int ez), .val (.int (0 : Int32)), .val (.int a), .val (.int b), .val (.ref cc), .val (.ref v0), .val (.ref v1), .val (.ref v2), .val (.ref v3), .val (.ref v4), .val (.ref t), .unset] []
    have hc0n : Wf 0 < Lm_v1 := Nat.lt_of_lt_of_le hc0 hww.2
    exact W.more (t1u_4 l Z a0 hw n0 _ K ok B hB0 hBs t cc v0 v1 v2 v3 v4 n p r1 d i0 i1 i2 i3 a b c A_cc A_v0 A_v1 A_v2 A_v3 A_v4 lt_cc lt_v0 lt_v1 lt_v2 lt_v3 lt_v4 hp hr1 hd hc hnd ez hn1 wa hwa Wf hW _ _ T hrr hc0n e1 he1) (by decide) (by decide)
  · have ej : Wf 3 = e1 := by rcases he1 3 with y | y <;> omega
    show W K l _ n0 _ h0 28 290 317 #[.val (.int i0), .val (.int i1), .val (.int i2), .val (.int i3), .val (.int (Int32.ofNat n)), .val (.int (Int32.ofNat p)), .val (.int (Int32.ofNat r1)), .val (.int (Int32.ofNat d)), .val (.int ez), .val (.int (0 : Int32)), .val (.int a), .val (.int b), .val (.ref cc), .val (.ref v0), .val (.ref v1), .val (.ref v2), .val (.ref v3), .val (.ref v4), .val (.ref t), .unset] []
    refine w_aload ok at_317 rfl rfl ?_
    refine w_aload ok at_319 rfl rfl ?_
    refine w_callV ok (y := mn_5) (a := t) (argsL := [(.ref v3)]) (rest := []) at_321 (hw _ (List.mem_of_getElem? (i := 37) rfl)) (hw _ (List.mem_of_getElem? (i := 38) rfl)) (hw _ (List.mem_of_getElem? (i := 40) rfl)) (hw _ (List.mem_of_getElem? (i := 39) rfl)) (hw _ (List.mem_of_getElem? (i := 8) rfl)) (hw _ (List.mem_of_getElem? (i := 41) rfl)) (by decide) (tb_exa T) pd_285bI29I rfl rfl (by decide) (Nat.le_of_ble_eq_true rfl) (by decide) (by decide) (fun z0 => rm_add l Z a0 hw [] n0 h0 z0 B hB0 hBs t n p r c Lm false T v3 (vrow p c 3) A_v3 lt_v3 126 (Wf 3) (by decide) (by omega) (by omega) hp hc hnd (fun e => nomatch e) (fun e => absurd e (by omega)) (fun _ => by rw [vrow0 (by omega)]; exact (hW 3).1) (hW 3).2 (fun _ h => ⟨by have := (hW 3).2; omega, by have := (hW 3).2; omega⟩)) (fun v3 h4 qv3 => ?_)
    obtain ⟨z_v3, r_v3, Lm_v3, rfl, T_v3, S_v3, hr_v3, hw_v3⟩ := qv3
    replace A_cc := pa_sm A_cc S_v3 lt_cc
    replace A_v0 := pa_sm A_v0 S_v3 lt_v0
    replace A_v1 := pa_sm A_v1 S_v3 lt_v1
    replace A_v2 := pa_sm A_v2 S_v3 lt_v2
    replace A_v3 := pa_sm A_v3 S_v3 lt_v3
    replace A_v4 := pa_sm A_v4 S_v3 lt_v4
    replace hBs := Nat.le_trans S_v3.1 S_v3.2.1
    have hrr : r_v3 ≤ 4 := by rcases hr_v3 with y | y <;> omega
    have hww := hw_v3 hn1
    replace T := T_v3
    show W K l _ n0 _ h4 33 472 324 #[.val (.int i0), .val (.int i1), .val (.int i2), .val (.int i3), .val (.int (Int32.ofNat n)), .val (.int (Int32.ofNat p)), .val (.int (Int32.ofNat r1)), .val (.int (Int32.ofNat d)), .val (.int ez), .val (.int (0 : Int32)), .val (.int a), .val (.int b), .val (.ref cc), .val (.ref v0), .val (.ref v1), .val (.ref v2), .val (.ref v3), .val (.ref v4), .val (.ref t), .unset] [(.int z_v3)]
    refine w_pop ok at_324 rfl ?_
    show W K l _ n0 _ h4 33 472 325 #[.val (.int i0), .val (.int i1), .val (.int i2), .val (.int i3), .val (.int (Int32.ofNat n)), .val (.int (Int32.ofNat p)), .val (.int (Int32.ofNat r1)), .val (.int (Int32.ofNat d)), .val (.int ez), .val (.int (0 : Int32)), .val (.int a), .val (.int b), .val (.ref cc), .val (.ref v0), .val (.ref v1), .val (.ref v2), .val (.ref v3), .val (.ref v4), .val (.ref t), .unset] []
    have hcvn : ∀ i, Wf i < Lm_v3 := fun i => own_cv (he1 i) (Nat.lt_of_lt_of_le hc0 hww.2) ej hww.1
    exact W.more (t1c_4 l Z a0 hw n0 _ K ok B hB0 hBs t cc v0 v1 v2 v3 v4 n p r1 d i0 i1 i2 i3 a b c A_cc A_v0 A_v1 A_v2 A_v3 A_v4 lt_cc lt_v0 lt_v1 lt_v2 lt_v3 lt_v4 hp hr1 hd hc hnd ez hn1 wa hwa Wf hW _ _ T hrr hcvn) (by decide) (by decide)
set_option maxRecDepth 65536 in
set_option maxHeartbeats 40000000 in
theorem t1c_2 (l : Launch) (Z : State) (a0 : Array Value) (hw : ∀ d ∈ tables_1, d.before a0 Z = true) (n0 : Nat) (h0 : Heap) (K : Cx) (ok : Ok K Z n0 x.cls code maxLocals ret x.name) (B : Nat) (hB0 : n0 ≤ B) (hBs : B ≤ h0.size) (t cc v0 v1 v2 v3 v4 : Addr) (n p r1 d : Nat) (i0 i1 i2 i3 a b : Int32) (c : Nat → Int32) (A_cc : PA .int Z h0 cc (sv 5 c)) (A_v0 : PA .int Z h0 v0 (sv 3 (vrow p c 0))) (A_v1 : PA .int Z h0 v1 (sv 3 (vrow p c 1))) (A_v2 : PA .int Z h0 v2 (sv 3 (vrow p c 2))) (A_v3 : PA .int Z h0 v3 (sv 3 (vrow p c 3))) (A_v4 : PA .int Z h0 v4 (sv 3 (vrow p c 4))) (lt_cc : cc < B) (lt_v0 : v0 < B) (lt_v1 : v1 < B) (lt_v2 : v2 < B) (lt_v3 : v3 < B) (lt_v4 : v4 < B) (hp : p < n) (hr1 : r1 < 5) (hd : d < 5) (hc : ∀ j, c j ≠ -1) (hnd : ∀ k, k ≤ 5 → ndc c k ≤ 2) (ez : Int32) (hn1 : n = 1) (wa : Nat) (hwa : Jvm.Free.XT.ushr a 6 = Int32.ofNat wa ∧ wa < 64) (Wf : Nat → Nat) (hW : ∀ j, Jvm.Free.XT.ushr (c j) 6 = Int32.ofNat (Wf j) ∧ Wf j < 64) (r Lm : Nat) (T : TB Z h0 B t n p r c Lm false true) (hr : r ≤ 2) (hcv : ∀ j, Wf j < Lm) :
    W K l room_1 n0 (fun u h => u = some (.int 1)) h0 23 360 309 #[.val (.int i0), .val (.int i1), .val (.int i2), .val (.int i3), .val (.int (Int32.ofNat n)), .val (.int (Int32.ofNat p)), .val (.int (Int32.ofNat r1)), .val (.int (Int32.ofNat d)), .val (.int ez), .val (.int (0 : Int32)), .val (.int a), .val (.int b), .val (.ref cc), .val (.ref v0), .val (.ref v1), .val (.ref v2), .val (.ref v3), .val (.ref v4), .val (.ref t), .unset] [] := by
  show W K l _ n0 _ h0 23 360 309 #[.val (.int i0), .val (.int i1), .val (.int i2), .val (.int i3), .val (.int (Int32.ofNat n)), .val (.int (Int32.ofNat p)), .val (.int (Int32.ofNat r1)), .val (.int (Int32.ofNat d)), .val (.int ez), .val (.int (0 : Int32)), .val (.int a), .val (.int b), .val (.ref cc), .val (.ref v0), .val (.ref v1), .val (.ref v2), .val (.ref v3), .val (.ref v4), .val (.ref t), .unset] []
  refine w_aload ok at_309 rfl rfl ?_
  refine w_aload ok at_311 rfl rfl ?_
  refine w_callV ok (y := mn_5) (a := t) (argsL := [(.ref v2)]) (rest := []) at_313 (hw _ (List.mem_of_getElem? (i := 37) rfl)) (hw _ (List.mem_of_getElem? (i := 38) rfl)) (hw _ (List.mem_of_getElem? (i := 40) rfl)) (hw _ (List.mem_of_getElem? (i := 39) rfl)) (hw _ (List.mem_of_getElem? (i := 8) rfl)) (hw _ (List.mem_of_getElem? (i := 41) rfl)) (by decide) (tb_exa T) pd_285bI29I rfl rfl (by decide) (Nat.le_of_ble_eq_true rfl) (by decide) (by decide) (fun z0 => rm_add l Z a0 hw [] n0 h0 z0 B hB0 hBs t n p r c Lm false T v2 (vrow p c 2) A_v2 lt_v2 0 (Wf 2) (by decide) (by omega) (by omega) hp hc hnd (fun e => nomatch e) (fun e => absurd e (by omega)) (fun _ => by rw [vrow0 (by omega)]; exact (hW 2).1) (hW 2).2 (fun _ h => absurd (hcv 2) h)) (fun v1 h2 qv1 => ?_)
  obtain ⟨z_v1, r_v1, Lm_v1, rfl, T_v1, S_v1, hr_v1, hw_v1⟩ := qv1
  replace A_cc := pa_sm A_cc S_v1 lt_cc
  replace A_v0 := pa_sm A_v0 S_v1 lt_v0
  replace A_v1 := pa_sm A_v1 S_v1 lt_v1
  replace A_v2 := pa_sm A_v2 S_v1 lt_v2
  replace A_v3 := pa_sm A_v3 S_v1 lt_v3
  replace A_v4 := pa_sm A_v4 S_v1 lt_v4
  replace hBs := Nat.le_trans S_v1.1 S_v1.2.1
  have hrr : r_v1 ≤ 3 := by rcases hr_v1 with y | y <;> omega
  have hww := hw_v1 hn1
  replace T := T_v1
  show W K l _ n0 _ h2 28 416 316 #[.val (.int i0), .val (.int i1), .val (.int i2), .val (.int i3), .val (.int (Int32.ofNat n)), .val (.int (Int32.ofNat p)), .val (.int (Int32.ofNat r1)), .val (.int (Int32.ofNat d)), .val (.int ez), .val (.int (0 : Int32)), .val (.int a), .val (.int b), .val (.ref cc), .val (.ref v0), .val (.ref v1), .val (.ref v2), .val (.ref v3), .val (.ref v4), .val (.ref t), .unset] [(.int z_v1)]
  refine w_pop ok at_316 rfl ?_
  show W K l _ n0 _ h2 28 416 317 #[.val (.int i0), .val (.int i1), .val (.int i2), .val (.int i3), .val (.int (Int32.ofNat n)), .val (.int (Int32.ofNat p)), .val (.int (Int32.ofNat r1)), .val (.int (Int32.ofNat d)), .val (.int ez), .val (.int (0 : Int32)), .val (.int a), .val (.int b), .val (.ref cc), .val (.ref v0), .val (.ref v1), .val (.ref v2), .val (.ref v3), .val (.ref v4), .val (.ref t), .unset] []
  have hcvn : ∀ i, Wf i < Lm_v1 := fun i => Nat.lt_of_lt_of_le (hcv i) hww.2
  exact W.more (t1c_3 l Z a0 hw n0 _ K ok B hB0 hBs t cc v0 v1 v2 v3 v4 n p r1 d i0 i1 i2 i3 a b c A_cc A_v0 A_v1 A_v2 A_v3 A_v4 lt_cc lt_v0 lt_v1 lt_v2 lt_v3 lt_v4 hp hr1 hd hc hnd ez hn1 wa hwa Wf hW _ _ T hrr hcvn) (by decide) (by decide)
set_option maxRecDepth 65536 in
set_option maxHeartbeats 40000000 in
theorem t1u_2 (l : Launch) (Z : State) (a0 : Array Value) (hw : ∀ d ∈ tables_1, d.before a0 Z = true) (n0 : Nat) (h0 : Heap) (K : Cx) (ok : Ok K Z n0 x.cls code maxLocals ret x.name) (B : Nat) (hB0 : n0 ≤ B) (hBs : B ≤ h0.size) (t cc v0 v1 v2 v3 v4 : Addr) (n p r1 d : Nat) (i0 i1 i2 i3 a b : Int32) (c : Nat → Int32) (A_cc : PA .int Z h0 cc (sv 5 c)) (A_v0 : PA .int Z h0 v0 (sv 3 (vrow p c 0))) (A_v1 : PA .int Z h0 v1 (sv 3 (vrow p c 1))) (A_v2 : PA .int Z h0 v2 (sv 3 (vrow p c 2))) (A_v3 : PA .int Z h0 v3 (sv 3 (vrow p c 3))) (A_v4 : PA .int Z h0 v4 (sv 3 (vrow p c 4))) (lt_cc : cc < B) (lt_v0 : v0 < B) (lt_v1 : v1 < B) (lt_v2 : v2 < B) (lt_v3 : v3 < B) (lt_v4 : v4 < B) (hp : p < n) (hr1 : r1 < 5) (hd : d < 5) (hc : ∀ j, c j ≠ -1) (hnd : ∀ k, k ≤ 5 → ndc c k ≤ 2) (ez : Int32) (hn1 : n = 1) (wa : Nat) (hwa : Jvm.Free.XT.ushr a 6 = Int32.ofNat wa ∧ wa < 64) (Wf : Nat → Nat) (hW : ∀ j, Jvm.Free.XT.ushr (c j) 6 = Int32.ofNat (Wf j) ∧ Wf j < 64) (r Lm : Nat) (T : TB Z h0 B t n p r c Lm false true) (hr : r ≤ 2) (hc0 : Wf 0 < Lm) (e1 : Nat) (he1 : ∀ j, Wf j = Wf 0 ∨ Wf j = e1) :
    W K l room_1 n0 (fun u h => u = some (.int 1)) h0 23 234 309 #[.val (.int i0), .val (.int i1), .val (.int i2), .val (.int i3), .val (.int (Int32.ofNat n)), .val (.int (Int32.ofNat p)), .val (.int (Int32.ofNat r1)), .val (.int (Int32.ofNat d)), .val (.int ez), .val (.int (0 : Int32)), .val (.int a), .val (.int b), .val (.ref cc), .val (.ref v0), .val (.ref v1), .val (.ref v2), .val (.ref v3), .val (.ref v4), .val (.ref t), .unset] [] := by
  by_cases hlt : Wf 2 < Lm
  · skip
    show W K l _ n0 _ h0 23 234 309 #[.val (.int i0), .val (.int i1), .val (.int i2), .val (.int i3), .val (.int (Int32.ofNat n)), .val (.int (Int32.ofNat p)), .val (.int (Int32.ofNat r1)), .val (.int (Int32.ofNat d)), .val (.int ez), .val (.int (0 : Int32)), .val (.int a), .val (.int b), .val (.ref cc), .val (.ref v0), .val (.ref v1), .val (.ref v2), .val (.ref v3), .val (.ref v4), .val (.ref t), .unset] []
    refine w_aload ok at_309 rfl rfl ?_
    refine w_aload ok at_311 rfl rfl ?_
    refine w_callV ok (y := mn_5) (a := t) (argsL := [(.ref v2)]) (rest := []) at_313 (hw _ (List.mem_of_getElem? (i := 37) rfl)) (hw _ (List.mem_of_getElem? (i := 38) rfl)) (hw _ (List.mem_of_getElem? (i := 40) rfl)) (hw _ (List.mem_of_getElem? (i := 39) rfl)) (hw _ (List.mem_of_getElem? (i := 8) rfl)) (hw _ (List.mem_of_getElem? (i := 41) rfl)) (by decide) (tb_exa T) pd_285bI29I rfl rfl (by decide) (Nat.le_of_ble_eq_true rfl) (by decide) (by decide) (fun z0 => rm_add l Z a0 hw [] n0 h0 z0 B hB0 hBs t n p r c Lm false T v2 (vrow p c 2) A_v2 lt_v2 0 (Wf 2) (by decide) (by omega) (by omega) hp hc hnd (fun e => nomatch e) (fun e => absurd e (by omega)) (fun _ => by rw [vrow0 (by omega)]; exact (hW 2).1) (hW 2).2 (fun _ h => absurd hlt h)) (fun v1 h2 qv1 => ?_)
    obtain ⟨z_v1, r_v1, Lm_v1, rfl, T_v1, S_v1, hr_v1, hw_v1⟩ := qv1
    replace A_cc := pa_sm A_cc S_v1 lt_cc
    replace A_v0 := pa_sm A_v0 S_v1 lt_v0
    replace A_v1 := pa_sm A_v1 S_v1 lt_v1
    replace A_v2 := pa_sm A_v2 S_v1 lt_v2
    replace A_v3 := pa_sm A_v3 S_v1 lt_v3
    replace A_v4 := pa_sm A_v4 S_v1 lt_v4
    replace hBs := Nat.le_trans S_v1.1 S_v1.2.1
    have hrr : r_v1 ≤ 3 := by rcases hr_v1 with y | y <;> omega
    have hww := hw_v1 hn1
    replace T := T_v1
    show W K l _ n0 _ h2 28 290 316 #[.val (.int i0), .val (.int i1), .val (.int i2), .val (.int i3), .val (.int (Int32.ofNat n)), .val (.int (Int32.ofNat p)), .val (.int (Int32.ofNat r1)), .val (.int (Int32.ofNat d)), .val (.int ez), .val (.int (0 : Int32)), .val (.int a), .val (.int b), .val (.ref cc), .val (.ref v0), .val (.ref v1), .val (.ref v2), .val (.ref v3), .val (.ref v4), .val (.ref t), .unset] [(.int z_v1)]
    refine w_pop ok at_316 rfl ?_
    show W K l _ n0 _ h2 28 290 317 #[.val (.int i0), .val (.int i1), .val (.int i2), .val (.int i3), .val (.int (Int32.ofNat n)), .val (.int (Int32.ofNat p)), .val (.int (Int32.ofNat r1)), .val (.int (Int32.ofNat d)), .val (.int ez), .val (.int (0 : Int32)), .val (.int a), .val (.int b), .val (.ref cc), .val (.ref v0), .val (.ref v1), .val (.ref v2), .val (.ref v3), .val (.ref v4), .val (.ref t), .unset] []
    have hc0n : Wf 0 < Lm_v1 := Nat.lt_of_lt_of_le hc0 hww.2
    exact W.more (t1u_3 l Z a0 hw n0 _ K ok B hB0 hBs t cc v0 v1 v2 v3 v4 n p r1 d i0 i1 i2 i3 a b c A_cc A_v0 A_v1 A_v2 A_v3 A_v4 lt_cc lt_v0 lt_v1 lt_v2 lt_v3 lt_v4 hp hr1 hd hc hnd ez hn1 wa hwa Wf hW _ _ T hrr hc0n e1 he1) (by decide) (by decide)
  · have ej : Wf 2 = e1 := by rcases he1 2 with y | y <;> omega
    show W K l _ n0 _ h0 23 234 309 #[.val (.int i0), .val (.int i1), .val (.int i2), .val (.int i3), .val (.int (Int32.ofNat n)), .val (.int (Int32.ofNat p)), .val (.int (Int32.ofNat r1)), .val (.int (Int32.ofNat d)), .val (.int ez), .val (.int (0 : Int32)), .val (.int a), .val (.int b), .val (.ref cc), .val (.ref v0), .val (.ref v1), .val (.ref v2), .val (.ref v3), .val (.ref v4), .val (.ref t), .unset] []
    refine w_aload ok at_309 rfl rfl ?_
    refine w_aload ok at_311 rfl rfl ?_
    refine w_callV ok (y := mn_5) (a := t) (argsL := [(.ref v2)]) (rest := []) at_313 (hw _ (List.mem_of_getElem? (i := 37) rfl)) (hw _ (List.mem_of_getElem? (i := 38) rfl)) (hw _ (List.mem_of_getElem? (i := 40) rfl)) (hw _ (List.mem_of_getElem? (i := 39) rfl)) (hw _ (List.mem_of_getElem? (i := 8) rfl)) (hw _ (List.mem_of_getElem? (i := 41) rfl)) (by decide) (tb_exa T) pd_285bI29I rfl rfl (by decide) (Nat.le_of_ble_eq_true rfl) (by decide) (by decide) (fun z0 => rm_add l Z a0 hw [] n0 h0 z0 B hB0 hBs t n p r c Lm false T v2 (vrow p c 2) A_v2 lt_v2 126 (Wf 2) (by decide) (by omega) (by omega) hp hc hnd (fun e => nomatch e) (fun e => absurd e (by omega)) (fun _ => by rw [vrow0 (by omega)]; exact (hW 2).1) (hW 2).2 (fun _ h => ⟨by have := (hW 2).2; omega, by have := (hW 2).2; omega⟩)) (fun v3 h4 qv3 => ?_)
    obtain ⟨z_v3, r_v3, Lm_v3, rfl, T_v3, S_v3, hr_v3, hw_v3⟩ := qv3
    replace A_cc := pa_sm A_cc S_v3 lt_cc
    replace A_v0 := pa_sm A_v0 S_v3 lt_v0
    replace A_v1 := pa_sm A_v1 S_v3 lt_v1
    replace A_v2 := pa_sm A_v2 S_v3 lt_v2
    replace A_v3 := pa_sm A_v3 S_v3 lt_v3
    replace A_v4 := pa_sm A_v4 S_v3 lt_v4
    replace hBs := Nat.le_trans S_v3.1 S_v3.2.1
    have hrr : r_v3 ≤ 3 := by rcases hr_v3 with y | y <;> omega
    have hww := hw_v3 hn1
    replace T := T_v3
    show W K l _ n0 _ h4 28 416 316 #[.val (.int i0), .val (.int i1), .val (.int i2), .val (.int i3), .val (.int (Int32.ofNat n)), .val (.int (Int32.ofNat p)), .val (.int (Int32.ofNat r1)), .val (.int (Int32.ofNat d)), .val (.int ez), .val (.int (0 : Int32)), .val (.int a), .val (.int b), .val (.ref cc), .val (.ref v0), .val (.ref v1), .val (.ref v2), .val (.ref v3), .val (.ref v4), .val (.ref t), .unset] [(.int z_v3)]
    refine w_pop ok at_316 rfl ?_
    show W K l _ n0 _ h4 28 416 317 #[.val (.int i0), .val (.int i1), .val (.int i2), .val (.int i3), .val (.int (Int32.ofNat n)), .val (.int (Int32.ofNat p)), .val (.int (Int32.ofNat r1)), .val (.int (Int32.ofNat d)), .val (.int ez), .val (.int (0 : Int32)), .val (.int a), .val (.int b), .val (.ref cc), .val (.ref v0), .val (.ref v1), .val (.ref v2), .val (.ref v3), .val (.ref v4), .val (.ref t), .unset] []
    have hcvn : ∀ i, Wf i < Lm_v3 := fun i => own_cv (he1 i) (Nat.lt_of_lt_of_le hc0 hww.2) ej hww.1
    exact W.more (t1c_3 l Z a0 hw n0 _ K ok B hB0 hBs t cc v0 v1 v2 v3 v4 n p r1 d i0 i1 i2 i3 a b c A_cc A_v0 A_v1 A_v2 A_v3 A_v4 lt_cc lt_v0 lt_v1 lt_v2 lt_v3 lt_v4 hp hr1 hd hc hnd ez hn1 wa hwa Wf hW _ _ T hrr hcvn) (by decide) (by decide)
set_option maxRecDepth 65536 in
set_option maxHeartbeats 40000000 in
theorem t1c_1 (l : Launch) (Z : State) (a0 : Array Value) (hw : ∀ d ∈ tables_1, d.before a0 Z = true) (n0 : Nat) (h0 : Heap) (K : Cx) (ok : Ok K Z n0 x.cls code maxLocals ret x.name) (B : Nat) (hB0 : n0 ≤ B) (hBs : B ≤ h0.size) (t cc v0 v1 v2 v3 v4 : Addr) (n p r1 d : Nat) (i0 i1 i2 i3 a b : Int32) (c : Nat → Int32) (A_cc : PA .int Z h0 cc (sv 5 c)) (A_v0 : PA .int Z h0 v0 (sv 3 (vrow p c 0))) (A_v1 : PA .int Z h0 v1 (sv 3 (vrow p c 1))) (A_v2 : PA .int Z h0 v2 (sv 3 (vrow p c 2))) (A_v3 : PA .int Z h0 v3 (sv 3 (vrow p c 3))) (A_v4 : PA .int Z h0 v4 (sv 3 (vrow p c 4))) (lt_cc : cc < B) (lt_v0 : v0 < B) (lt_v1 : v1 < B) (lt_v2 : v2 < B) (lt_v3 : v3 < B) (lt_v4 : v4 < B) (hp : p < n) (hr1 : r1 < 5) (hd : d < 5) (hc : ∀ j, c j ≠ -1) (hnd : ∀ k, k ≤ 5 → ndc c k ≤ 2) (ez : Int32) (hn1 : n = 1) (wa : Nat) (hwa : Jvm.Free.XT.ushr a 6 = Int32.ofNat wa ∧ wa < 64) (Wf : Nat → Nat) (hW : ∀ j, Jvm.Free.XT.ushr (c j) 6 = Int32.ofNat (Wf j) ∧ Wf j < 64) (r Lm : Nat) (T : TB Z h0 B t n p r c Lm false true) (hr : r ≤ 1) (hcv : ∀ j, Wf j < Lm) :
    W K l room_1 n0 (fun u h => u = some (.int 1)) h0 18 304 301 #[.val (.int i0), .val (.int i1), .val (.int i2), .val (.int i3), .val (.int (Int32.ofNat n)), .val (.int (Int32.ofNat p)), .val (.int (Int32.ofNat r1)), .val (.int (Int32.ofNat d)), .val (.int ez), .val (.int (0 : Int32)), .val (.int a), .val (.int b), .val (.ref cc), .val (.ref v0), .val (.ref v1), .val (.ref v2), .val (.ref v3), .val (.ref v4), .val (.ref t), .unset] [] := by
  show W K l _ n0 _ h0 18 304 301 #[.val (.int i0), .val (.int i1), .val (.int i2), .val (.int i3), .val (.int (Int32.ofNat n)), .val (.int (Int32.ofNat p)), .val (.int (Int32.ofNat r1)), .val (.int (Int32.ofNat d)), .val (.int ez), .val (.int (0 : Int32)), .val (.int a), .val (.int b), .val (.ref cc), .val (.ref v0), .val (.ref v1), .val (.ref v2), .val (.ref v3), .val (.ref v4), .val (.ref t), .unset] []
  refine w_aload ok at_301 rfl rfl ?_
  refine w_aload ok at_303 rfl rfl ?_
  refine w_callV ok (y := mn_5) (a := t) (argsL := [(.ref v1)]) (rest := []) at_305 (hw _ (List.mem_of_getElem? (i := 37) rfl)) (hw _ (List.mem_of_getElem? (i := 38) rfl)) (hw _ (List.mem_of_getElem? (i := 40) rfl)) (hw _ (List.mem_of_getElem? (i := 39) rfl)) (hw _ (List.mem_of_getElem? (i := 8) rfl)) (hw _ (List.mem_of_getElem? (i := 41) rfl)) (by decide) (tb_exa T) pd_285bI29I rfl rfl (by decide) (Nat.le_of_ble_eq_true rfl) (by decide) (by decide) (fun z0 => rm_add l Z a0 hw [] n0 h0 z0 B hB0 hBs t n p r c Lm false T v1 (vrow p c 1) A_v1 lt_v1 0 (Wf 1) (by decide) (by omega) (by omega) hp hc hnd (fun e => nomatch e) (fun e => absurd e (by omega)) (fun _ => by rw [vrow0 (by omega)]; exact (hW 1).1) (hW 1).2 (fun _ h => absurd (hcv 1) h)) (fun v1 h2 qv1 => ?_)
  obtain ⟨z_v1, r_v1, Lm_v1, rfl, T_v1, S_v1, hr_v1, hw_v1⟩ := qv1
  replace A_cc := pa_sm A_cc S_v1 lt_cc
  replace A_v0 := pa_sm A_v0 S_v1 lt_v0
  replace A_v1 := pa_sm A_v1 S_v1 lt_v1
  replace A_v2 := pa_sm A_v2 S_v1 lt_v2
  replace A_v3 := pa_sm A_v3 S_v1 lt_v3
  replace A_v4 := pa_sm A_v4 S_v1 lt_v4
  replace hBs := Nat.le_trans S_v1.1 S_v1.2.1
  have hrr : r_v1 ≤ 2 := by rcases hr_v1 with y | y <;> omega
  have hww := hw_v1 hn1
  replace T := T_v1
  show W K l _ n0 _ h2 23 360 308 #[.val (.int i0), .val (.int i1), .val (.int i2), .val (.int i3), .val (.int (Int32.ofNat n)), .val (.int (Int32.ofNat p)), .val (.int (Int32.ofNat r1)), .val (.int (Int32.ofNat d)), .val (.int ez), .val (.int (0 : Int32)), .val (.int a), .val (.int b), .val (.ref cc), .val (.ref v0), .val (.ref v1), .val (.ref v2), .val (.ref v3), .val (.ref v4), .val (.ref t), .unset] [(.int z_v1)]
  refine w_pop ok at_308 rfl ?_
  show W K l _ n0 _ h2 23 360 309 #[.val (.int i0), .val (.int i1), .val (.int i2), .val (.int i3), .val (.int (Int32.ofNat n)), .val (.int (Int32.ofNat p)), .val (.int (Int32.ofNat r1)), .val (.int (Int32.ofNat d)), .val (.int ez), .val (.int (0 : Int32)), .val (.int a), .val (.int b), .val (.ref cc), .val (.ref v0), .val (.ref v1), .val (.ref v2), .val (.ref v3), .val (.ref v4), .val (.ref t), .unset] []
  have hcvn : ∀ i, Wf i < Lm_v1 := fun i => Nat.lt_of_lt_of_le (hcv i) hww.2
  exact W.more (t1c_2 l Z a0 hw n0 _ K ok B hB0 hBs t cc v0 v1 v2 v3 v4 n p r1 d i0 i1 i2 i3 a b c A_cc A_v0 A_v1 A_v2 A_v3 A_v4 lt_cc lt_v0 lt_v1 lt_v2 lt_v3 lt_v4 hp hr1 hd hc hnd ez hn1 wa hwa Wf hW _ _ T hrr hcvn) (by decide) (by decide)
set_option maxRecDepth 65536 in
set_option maxHeartbeats 40000000 in
theorem t1u_1 (l : Launch) (Z : State) (a0 : Array Value) (hw : ∀ d ∈ tables_1, d.before a0 Z = true) (n0 : Nat) (h0 : Heap) (K : Cx) (ok : Ok K Z n0 x.cls code maxLocals ret x.name) (B : Nat) (hB0 : n0 ≤ B) (hBs : B ≤ h0.size) (t cc v0 v1 v2 v3 v4 : Addr) (n p r1 d : Nat) (i0 i1 i2 i3 a b : Int32) (c : Nat → Int32) (A_cc : PA .int Z h0 cc (sv 5 c)) (A_v0 : PA .int Z h0 v0 (sv 3 (vrow p c 0))) (A_v1 : PA .int Z h0 v1 (sv 3 (vrow p c 1))) (A_v2 : PA .int Z h0 v2 (sv 3 (vrow p c 2))) (A_v3 : PA .int Z h0 v3 (sv 3 (vrow p c 3))) (A_v4 : PA .int Z h0 v4 (sv 3 (vrow p c 4))) (lt_cc : cc < B) (lt_v0 : v0 < B) (lt_v1 : v1 < B) (lt_v2 : v2 < B) (lt_v3 : v3 < B) (lt_v4 : v4 < B) (hp : p < n) (hr1 : r1 < 5) (hd : d < 5) (hc : ∀ j, c j ≠ -1) (hnd : ∀ k, k ≤ 5 → ndc c k ≤ 2) (ez : Int32) (hn1 : n = 1) (wa : Nat) (hwa : Jvm.Free.XT.ushr a 6 = Int32.ofNat wa ∧ wa < 64) (Wf : Nat → Nat) (hW : ∀ j, Jvm.Free.XT.ushr (c j) 6 = Int32.ofNat (Wf j) ∧ Wf j < 64) (r Lm : Nat) (T : TB Z h0 B t n p r c Lm false true) (hr : r ≤ 1) (hc0 : Wf 0 < Lm) (e1 : Nat) (he1 : ∀ j, Wf j = Wf 0 ∨ Wf j = e1) :
    W K l room_1 n0 (fun u h => u = some (.int 1)) h0 18 178 301 #[.val (.int i0), .val (.int i1), .val (.int i2), .val (.int i3), .val (.int (Int32.ofNat n)), .val (.int (Int32.ofNat p)), .val (.int (Int32.ofNat r1)), .val (.int (Int32.ofNat d)), .val (.int ez), .val (.int (0 : Int32)), .val (.int a), .val (.int b), .val (.ref cc), .val (.ref v0), .val (.ref v1), .val (.ref v2), .val (.ref v3), .val (.ref v4), .val (.ref t), .unset] [] := by
  by_cases hlt : Wf 1 < Lm
  · skip
    show W K l _ n0 _ h0 18 178 301 #[.val (.int i0), .val (.int i1), .val (.int i2), .val (.int i3), .val (.int (Int32.ofNat n)), .val (.int (Int32.ofNat p)), .val (.int (Int32.ofNat r1)), .val (.int (Int32.ofNat d)), .val (.int ez), .val (.int (0 : Int32)), .val (.int a), .val (.int b), .val (.ref cc), .val (.ref v0), .val (.ref v1), .val (.ref v2), .val (.ref v3), .val (.ref v4), .val (.ref t), .unset] []
    refine w_aload ok at_301 rfl rfl ?_
    refine w_aload ok at_303 rfl rfl ?_
    refine w_callV ok (y := mn_5) (a := t) (argsL := [(.ref v1)]) (rest := []) at_305 (hw _ (List.mem_of_getElem? (i := 37) rfl)) (hw _ (List.mem_of_getElem? (i := 38) rfl)) (hw _ (List.mem_of_getElem? (i := 40) rfl)) (hw _ (List.mem_of_getElem? (i := 39) rfl)) (hw _ (List.mem_of_getElem? (i := 8) rfl)) (hw _ (List.mem_of_getElem? (i := 41) rfl)) (by decide) (tb_exa T) pd_285bI29I rfl rfl (by decide) (Nat.le_of_ble_eq_true rfl) (by decide) (by decide) (fun z0 => rm_add l Z a0 hw [] n0 h0 z0 B hB0 hBs t n p r c Lm false T v1 (vrow p c 1) A_v1 lt_v1 0 (Wf 1) (by decide) (by omega) (by omega) hp hc hnd (fun e => nomatch e) (fun e => absurd e (by omega)) (fun _ => by rw [vrow0 (by omega)]; exact (hW 1).1) (hW 1).2 (fun _ h => absurd hlt h)) (fun v1 h2 qv1 => ?_)
    obtain ⟨z_v1, r_v1, Lm_v1, rfl, T_v1, S_v1, hr_v1, hw_v1⟩ := qv1
    replace A_cc := pa_sm A_cc S_v1 lt_cc
    replace A_v0 := pa_sm A_v0 S_v1 lt_v0
    replace A_v1 := pa_sm A_v1 S_v1 lt_v1
    replace A_v2 := pa_sm A_v2 S_v1 lt_v2
    replace A_v3 := pa_sm A_v3 S_v1 lt_v3
    replace A_v4 := pa_sm A_v4 S_v1 lt_v4
    replace hBs := Nat.le_trans S_v1.1 S_v1.2.1
    have hrr : r_v1 ≤ 2 := by rcases hr_v1 with y | y <;> omega
    have hww := hw_v1 hn1
    replace T := T_v1
    show W K l _ n0 _ h2 23 234 308 #[.val (.int i0), .val (.int i1), .val (.int i2), .val (.int i3), .val (.int (Int32.ofNat n)), .val (.int (Int32.ofNat p)), .val (.int (Int32.ofNat r1)), .val (.int (Int32.ofNat d)), .val (.int ez), .val (.int (0 : Int32)), .val (.int a), .val (.int b), .val (.ref cc), .val (.ref v0), .val (.ref v1), .val (.ref v2), .val (.ref v3), .val (.ref v4), .val (.ref t), .unset] [(.int z_v1)]
    refine w_pop ok at_308 rfl ?_
    show W K l _ n0 _ h2 23 234 309 #[.val (.int i0), .val (.int i1), .val (.int i2), .val (.int i3), .val (.int (Int32.ofNat n)), .val (.int (Int32.ofNat p)), .val (.int (Int32.ofNat r1)), .val (.int (Int32.ofNat d)), .val (.int ez), .val (.int (0 : Int32)), .val (.int a), .val (.int b), .val (.ref cc), .val (.ref v0), .val (.ref v1), .val (.ref v2), .val (.ref v3), .val (.ref v4), .val (.ref t), .unset] []
    have hc0n : Wf 0 < Lm_v1 := Nat.lt_of_lt_of_le hc0 hww.2
    exact W.more (t1u_2 l Z a0 hw n0 _ K ok B hB0 hBs t cc v0 v1 v2 v3 v4 n p r1 d i0 i1 i2 i3 a b c A_cc A_v0 A_v1 A_v2 A_v3 A_v4 lt_cc lt_v0 lt_v1 lt_v2 lt_v3 lt_v4 hp hr1 hd hc hnd ez hn1 wa hwa Wf hW _ _ T hrr hc0n e1 he1) (by decide) (by decide)
  · have ej : Wf 1 = e1 := by rcases he1 1 with y | y <;> omega
    show W K l _ n0 _ h0 18 178 301 #[.val (.int i0), .val (.int i1), .val (.int i2), .val (.int i3), .val (.int (Int32.ofNat n)), .val (.int (Int32.ofNat p)), .val (.int (Int32.ofNat r1)), .val (.int (Int32.ofNat d)), .val (.int ez), .val (.int (0 : Int32)), .val (.int a), .val (.int b), .val (.ref cc), .val (.ref v0), .val (.ref v1), .val (.ref v2), .val (.ref v3), .val (.ref v4), .val (.ref t), .unset] []
    refine w_aload ok at_301 rfl rfl ?_
    refine w_aload ok at_303 rfl rfl ?_
    refine w_callV ok (y := mn_5) (a := t) (argsL := [(.ref v1)]) (rest := []) at_305 (hw _ (List.mem_of_getElem? (i := 37) rfl)) (hw _ (List.mem_of_getElem? (i := 38) rfl)) (hw _ (List.mem_of_getElem? (i := 40) rfl)) (hw _ (List.mem_of_getElem? (i := 39) rfl)) (hw _ (List.mem_of_getElem? (i := 8) rfl)) (hw _ (List.mem_of_getElem? (i := 41) rfl)) (by decide) (tb_exa T) pd_285bI29I rfl rfl (by decide) (Nat.le_of_ble_eq_true rfl) (by decide) (by decide) (fun z0 => rm_add l Z a0 hw [] n0 h0 z0 B hB0 hBs t n p r c Lm false T v1 (vrow p c 1) A_v1 lt_v1 126 (Wf 1) (by decide) (by omega) (by omega) hp hc hnd (fun e => nomatch e) (fun e => absurd e (by omega)) (fun _ => by rw [vrow0 (by omega)]; exact (hW 1).1) (hW 1).2 (fun _ h => ⟨by have := (hW 1).2; omega, by have := (hW 1).2; omega⟩)) (fun v3 h4 qv3 => ?_)
    obtain ⟨z_v3, r_v3, Lm_v3, rfl, T_v3, S_v3, hr_v3, hw_v3⟩ := qv3
    replace A_cc := pa_sm A_cc S_v3 lt_cc
    replace A_v0 := pa_sm A_v0 S_v3 lt_v0
    replace A_v1 := pa_sm A_v1 S_v3 lt_v1
    replace A_v2 := pa_sm A_v2 S_v3 lt_v2
    replace A_v3 := pa_sm A_v3 S_v3 lt_v3
    replace A_v4 := pa_sm A_v4 S_v3 lt_v4
    replace hBs := Nat.le_trans S_v3.1 S_v3.2.1
    have hrr : r_v3 ≤ 2 := by rcases hr_v3 with y | y <;> omega
    have hww := hw_v3 hn1
    replace T := T_v3
    show W K l _ n0 _ h4 23 360 308 #[.val (.int i0), .val (.int i1), .val (.int i2), .val (.int i3), .val (.int (Int32.ofNat n)), .val (.int (Int32.ofNat p)), .val (.int (Int32.ofNat r1)), .val (.int (Int32.ofNat d)), .val (.int ez), .val (.int (0 : Int32)), .val (.int a), .val (.int b), .val (.ref cc), .val (.ref v0), .val (.ref v1), .val (.ref v2), .val (.ref v3), .val (.ref v4), .val (.ref t), .unset] [(.int z_v3)]
    refine w_pop ok at_308 rfl ?_
    show W K l _ n0 _ h4 23 360 309 #[.val (.int i0), .val (.int i1), .val (.int i2), .val (.int i3), .val (.int (Int32.ofNat n)), .val (.int (Int32.ofNat p)), .val (.int (Int32.ofNat r1)), .val (.int (Int32.ofNat d)), .val (.int ez), .val (.int (0 : Int32)), .val (.int a), .val (.int b), .val (.ref cc), .val (.ref v0), .val (.ref v1), .val (.ref v2), .val (.ref v3), .val (.ref v4), .val (.ref t), .unset] []
    have hcvn : ∀ i, Wf i < Lm_v3 := fun i => own_cv (he1 i) (Nat.lt_of_lt_of_le hc0 hww.2) ej hww.1
    exact W.more (t1c_2 l Z a0 hw n0 _ K ok B hB0 hBs t cc v0 v1 v2 v3 v4 n p r1 d i0 i1 i2 i3 a b c A_cc A_v0 A_v1 A_v2 A_v3 A_v4 lt_cc lt_v0 lt_v1 lt_v2 lt_v3 lt_v4 hp hr1 hd hc hnd ez hn1 wa hwa Wf hW _ _ T hrr hcvn) (by decide) (by decide)
set_option maxRecDepth 65536 in
set_option maxHeartbeats 40000000 in
theorem t1_293 (l : Launch) (Z : State) (a0 : Array Value) (hw : ∀ d ∈ tables_1, d.before a0 Z = true) (n0 : Nat) (h0 : Heap) (K : Cx) (ok : Ok K Z n0 x.cls code maxLocals ret x.name) (B : Nat) (hB0 : n0 ≤ B) (hBs : B ≤ h0.size) (t cc v0 v1 v2 v3 v4 : Addr) (n p r1 d : Nat) (i0 i1 i2 i3 a b : Int32) (c : Nat → Int32) (A_cc : PA .int Z h0 cc (sv 5 c)) (A_v0 : PA .int Z h0 v0 (sv 3 (vrow p c 0))) (A_v1 : PA .int Z h0 v1 (sv 3 (vrow p c 1))) (A_v2 : PA .int Z h0 v2 (sv 3 (vrow p c 2))) (A_v3 : PA .int Z h0 v3 (sv 3 (vrow p c 3))) (A_v4 : PA .int Z h0 v4 (sv 3 (vrow p c 4))) (lt_cc : cc < B) (lt_v0 : v0 < B) (lt_v1 : v1 < B) (lt_v2 : v2 < B) (lt_v3 : v3 < B) (lt_v4 : v4 < B) (hp : p < n) (hr1 : r1 < 5) (hd : d < 5) (hc : ∀ j, c j ≠ -1) (hnd : ∀ k, k ≤ 5 → ndc c k ≤ 2) (ez : Int32) (hn1 : n = 1) (wa : Nat) (hwa : Jvm.Free.XT.ushr a 6 = Int32.ofNat wa ∧ wa < 64) (Wf : Nat → Nat) (hW : ∀ j, Jvm.Free.XT.ushr (c j) 6 = Int32.ofNat (Wf j) ∧ Wf j < 64) (T : TB Z h0 B t n p 0 c 0 false true) (e1 : Nat) (he1 : ∀ j, Wf j = Wf 0 ∨ Wf j = e1) :
    W K l room_1 n0 (fun u h => u = some (.int 1)) h0 13 58 293 #[.val (.int i0), .val (.int i1), .val (.int i2), .val (.int i3), .val (.int (Int32.ofNat n)), .val (.int (Int32.ofNat p)), .val (.int (Int32.ofNat r1)), .val (.int (Int32.ofNat d)), .val (.int ez), .val (.int (0 : Int32)), .val (.int a), .val (.int b), .val (.ref cc), .val (.ref v0), .val (.ref v1), .val (.ref v2), .val (.ref v3), .val (.ref v4), .val (.ref t), .unset] [] := by
  show W K l _ n0 _ h0 13 58 293 #[.val (.int i0), .val (.int i1), .val (.int i2), .val (.int i3), .val (.int (Int32.ofNat n)), .val (.int (Int32.ofNat p)), .val (.int (Int32.ofNat r1)), .val (.int (Int32.ofNat d)), .val (.int ez), .val (.int (0 : Int32)), .val (.int a), .val (.int b), .val (.ref cc), .val (.ref v0), .val (.ref v1), .val (.ref v2), .val (.ref v3), .val (.ref v4), .val (.ref t), .unset] []
  refine w_aload ok at_293 rfl rfl ?_
  refine w_aload ok at_295 rfl rfl ?_
  refine w_callV ok (y := mn_5) (a := t) (argsL := [(.ref v0)]) (rest := []) at_297 (hw _ (List.mem_of_getElem? (i := 37) rfl)) (hw _ (List.mem_of_getElem? (i := 38) rfl)) (hw _ (List.mem_of_getElem? (i := 40) rfl)) (hw _ (List.mem_of_getElem? (i := 39) rfl)) (hw _ (List.mem_of_getElem? (i := 8) rfl)) (hw _ (List.mem_of_getElem? (i := 41) rfl)) (by decide) (tb_exa T) pd_285bI29I rfl rfl (by decide) (Nat.le_of_ble_eq_true rfl) (by decide) (by decide) (fun z0 => rm_add l Z a0 hw [] n0 h0 z0 B hB0 hBs t n p 0 c 0 false T v0 (vrow p c 0) A_v0 lt_v0 64 (Wf 0) (by decide) (by omega) (by omega) hp hc hnd (fun e => nomatch e) (fun e => absurd e (by omega)) (fun _ => by rw [vrow0 (by omega)]; exact (hW 0).1) (hW 0).2 (fun _ h => ⟨by have := (hW 0).2; omega, by have := (hW 0).2; omega⟩)) (fun v1 h2 qv1 => ?_)
  obtain ⟨z_v1, r_v1, Lm_v1, rfl, T_v1, S_v1, hr_v1, hw_v1⟩ := qv1
  replace A_cc := pa_sm A_cc S_v1 lt_cc
  replace A_v0 := pa_sm A_v0 S_v1 lt_v0
  replace A_v1 := pa_sm A_v1 S_v1 lt_v1
  replace A_v2 := pa_sm A_v2 S_v1 lt_v2
  replace A_v3 := pa_sm A_v3 S_v1 lt_v3
  replace A_v4 := pa_sm A_v4 S_v1 lt_v4
  replace hBs := Nat.le_trans S_v1.1 S_v1.2.1
  have hrr : r_v1 ≤ 1 := by rcases hr_v1 with y | y <;> omega
  have hww := hw_v1 hn1
  replace T := T_v1
  show W K l _ n0 _ h2 18 178 300 #[.val (.int i0), .val (.int i1), .val (.int i2), .val (.int i3), .val (.int (Int32.ofNat n)), .val (.int (Int32.ofNat p)), .val (.int (Int32.ofNat r1)), .val (.int (Int32.ofNat d)), .val (.int ez), .val (.int (0 : Int32)), .val (.int a), .val (.int b), .val (.ref cc), .val (.ref v0), .val (.ref v1), .val (.ref v2), .val (.ref v3), .val (.ref v4), .val (.ref t), .unset] [(.int z_v1)]
  refine w_pop ok at_300 rfl ?_
  show W K l _ n0 _ h2 18 178 301 #[.val (.int i0), .val (.int i1), .val (.int i2), .val (.int i3), .val (.int (Int32.ofNat n)), .val (.int (Int32.ofNat p)), .val (.int (Int32.ofNat r1)), .val (.int (Int32.ofNat d)), .val (.int ez), .val (.int (0 : Int32)), .val (.int a), .val (.int b), .val (.ref cc), .val (.ref v0), .val (.ref v1), .val (.ref v2), .val (.ref v3), .val (.ref v4), .val (.ref t), .unset] []
  have hc0n : Wf 0 < Lm_v1 := hww.1
  exact W.more (t1u_1 l Z a0 hw n0 _ K ok B hB0 hBs t cc v0 v1 v2 v3 v4 n p r1 d i0 i1 i2 i3 a b c A_cc A_v0 A_v1 A_v2 A_v3 A_v4 lt_cc lt_v0 lt_v1 lt_v2 lt_v3 lt_v4 hp hr1 hd hc hnd ez hn1 wa hwa Wf hW _ _ T hrr hc0n e1 he1) (by decide) (by decide)
theorem own_wf {a b : Int32} {c : Nat → Int32} {wa wb : Nat} (h : ∀ j, c j = a ∨ c j = b) (h1 : Jvm.Free.XT.ushr a 6 = Int32.ofNat wa ∧ wa < 64) (h2 : Jvm.Free.XT.ushr b 6 = Int32.ofNat wb ∧ wb < 64) : ∃ Wf : Nat → Nat, (∀ j, Jvm.Free.XT.ushr (c j) 6 = Int32.ofNat (Wf j) ∧ Wf j < 64) ∧ ∃ e1, ∀ j, Wf j = Wf 0 ∨ Wf j = e1 := by
  refine ⟨fun j => if c j = a then wa else wb, fun j => ?_, if c 0 = a then wb else wa, fun j => ?_⟩
  · show Jvm.Free.XT.ushr (c j) 6 = Int32.ofNat (if c j = a then wa else wb) ∧ (if c j = a then wa else wb) < 64
    by_cases q : c j = a
    · rw [if_pos q, q]; exact h1
    · rw [if_neg q, (h j).resolve_left q]; exact h2
  · show (if c j = a then wa else wb) = (if c 0 = a then wa else wb) ∨ (if c j = a then wa else wb) = (if c 0 = a then wb else wa)
    by_cases q : c j = a
    · by_cases q0 : c 0 = a
      · exact Or.inl (by rw [if_pos q, if_pos q0])
      · exact Or.inr (by rw [if_pos q, if_neg q0])
    · by_cases q0 : c 0 = a
      · exact Or.inr (by rw [if_neg q, if_pos q0])
      · exact Or.inl (by rw [if_neg q, if_neg q0])
theorem pd_28III295bI : parseMethodDescriptor "(III)[I" = some ⟨[.int, .int, .int], some (.array .int)⟩ := by decide +kernel
set_option maxRecDepth 65536 in
set_option maxHeartbeats 40000000 in
theorem p207 (l : Launch) (Z : State) (a0 : Array Value) (hw : ∀ d ∈ tables_1, d.before a0 Z = true) (n0 : Nat) (h0 : Heap) (K : Cx) (ok : Ok K Z n0 x.cls code maxLocals ret x.name) (n p r1 d : Nat) (i0 i1 i2 i3 ez rz a b : Int32) (hn : 1 ≤ n ∧ n ≤ 3) (hp : p < n) (hr1 : r1 < 5) (hd : d < 5) (hez : ez = 0 ∨ ez = 1) (hrz : n = 1 → rz = 0) (ha : a ≠ -1) (hb_ : b ≠ -1) (hsix : n = 1 → (∃ w, Jvm.Free.XT.ushr a 6 = Int32.ofNat w ∧ w < 64) ∧ ∃ w, Jvm.Free.XT.ushr b 6 = Int32.ofNat w ∧ w < 64) (cc : Addr) (c : Nat → Int32) (A_cc : PA .int Z h0 cc (sv 5 c)) (ge_cc : n0 ≤ cc) (hcc : ∀ j, c j = a ∨ c j = b) :
    W K l room_1 n0 (fun u h => u = some (.int 1)) h0 1 5 207 #[.val (.int i0), .val (.int i1), .val (.int i2), .val (.int i3), .val (.int (Int32.ofNat n)), .val (.int (Int32.ofNat p)), .val (.int (Int32.ofNat r1)), .val (.int (Int32.ofNat d)), .val (.int ez), .val (.int rz), .val (.int a), .val (.int b), .val (.ref cc), .unset, .unset, .unset, .unset, .unset, .unset, .unset] [] := by
  have hc : ∀ j, c j ≠ -1 := fun j => by rcases hcc j with q | q <;> rw [q] <;> assumption
  have hnd : ∀ k, k ≤ 5 → ndc c k ≤ 2 := fun k hk => ndc_2 hcc (by omega)
  show W K l _ n0 _ h0 1 5 207 #[.val (.int i0), .val (.int i1), .val (.int i2), .val (.int i3), .val (.int (Int32.ofNat n)), .val (.int (Int32.ofNat p)), .val (.int (Int32.ofNat r1)), .val (.int (Int32.ofNat d)), .val (.int ez), .val (.int rz), .val (.int a), .val (.int b), .val (.ref cc), .unset, .unset, .unset, .unset, .unset, .unset, .unset] []
  refine w_iload ok at_207 rfl ?_
  refine w_aload ok at_209 rfl rfl ?_
  refine w_iconst ok at_211 (v := (0 : Int32)) rfl ?_
  refine w_iaload ok (v := (.int (c 0))) at_212 A_cc (by decide) (svg (j := 0) (by omega) (by omega)) ?_
  refine w_iconst ok at_213 (v := (0 : Int32)) rfl ?_
  refine w_callS ok (y := mn_1) (argsL := [(.int (Int32.ofNat p)), (.int (c 0)), (.int (0 : Int32))]) (rest := []) at_214 (hw _ (List.mem_of_getElem? (i := 2) rfl)) (hw _ (List.mem_of_getElem? (i := 3) rfl)) (hw _ (List.mem_of_getElem? (i := 4) rfl)) (hw _ (List.mem_of_getElem? (i := 5) rfl)) (by decide) pd_28III295bI rfl rfl (by decide) (Nat.le_of_ble_eq_true rfl) (by decide) (by decide) (fun z0 => rm_row l Z a0 hw [] n0 h0 z0 p (c 0) 0 (by omega)) (fun v1 h2 qv1 => ?_)
  obtain ⟨v0, rfl, sz_v0, ge_v0, K1, A_v0⟩ := qv1
  have ne_cc_v0 : cc ≠ v0 := Nat.ne_of_lt (Nat.lt_of_lt_of_le A_cc.lt sz_v0)
  replace A_cc := A_cc.keep K1 nin0
  replace A_v0 : PA .int Z h2 v0 (sv 3 (vrow p c 0)) := A_v0
  show W K l _ n0 _ h2 2 8 217 #[.val (.int i0), .val (.int i1), .val (.int i2), .val (.int i3), .val (.int (Int32.ofNat n)), .val (.int (Int32.ofNat p)), .val (.int (Int32.ofNat r1)), .val (.int (Int32.ofNat d)), .val (.int ez), .val (.int rz), .val (.int a), .val (.int b), .val (.ref cc), .unset, .unset, .unset, .unset, .unset, .unset, .unset] [(.ref v0)]
  refine w_astore ok at_217 rfl (L' := #[.val (.int i0), .val (.int i1), .val (.int i2), .val (.int i3), .val (.int (Int32.ofNat n)), .val (.int (Int32.ofNat p)), .val (.int (Int32.ofNat r1)), .val (.int (Int32.ofNat d)), .val (.int ez), .val (.int rz), .val (.int a), .val (.int b), .val (.ref cc), .val (.ref v0), .unset, .unset, .unset, .unset, .unset, .unset]) rfl ?_
  refine w_iload ok at_219 rfl ?_
  refine w_aload ok at_221 rfl rfl ?_
  refine w_iconst ok at_223 (v := (1 : Int32)) rfl ?_
  refine w_iaload ok (v := (.int (c 1))) at_224 A_cc (by decide) (svg (j := 1) (by omega) (by omega)) ?_
  refine w_iconst ok at_225 (v := (1 : Int32)) rfl ?_
  refine w_callS ok (y := mn_1) (argsL := [(.int (Int32.ofNat p)), (.int (c 1)), (.int (1 : Int32))]) (rest := []) at_226 (hw _ (List.mem_of_getElem? (i := 2) rfl)) (hw _ (List.mem_of_getElem? (i := 3) rfl)) (hw _ (List.mem_of_getElem? (i := 4) rfl)) (hw _ (List.mem_of_getElem? (i := 5) rfl)) (by decide) pd_28III295bI rfl rfl (by decide) (Nat.le_of_ble_eq_true rfl) (by decide) (by decide) (fun z0 => rm_row l Z a0 hw [] n0 h2 z0 p (c 1) 1 (by omega)) (fun v3 h4 qv3 => ?_)
  obtain ⟨v1, rfl, sz_v1, ge_v1, K1, A_v1⟩ := qv3
  have ne_cc_v1 : cc ≠ v1 := Nat.ne_of_lt (Nat.lt_of_lt_of_le A_cc.lt sz_v1)
  have ne_v0_v1 : v0 ≠ v1 := Nat.ne_of_lt (Nat.lt_of_lt_of_le A_v0.lt sz_v1)
  replace A_cc := A_cc.keep K1 nin0
  replace A_v0 := A_v0.keep K1 nin0
  replace A_v1 : PA .int Z h4 v1 (sv 3 (vrow p c 1)) := A_v1
  show W K l _ n0 _ h4 3 11 229 #[.val (.int i0), .val (.int i1), .val (.int i2), .val (.int i3), .val (.int (Int32.ofNat n)), .val (.int (Int32.ofNat p)), .val (.int (Int32.ofNat r1)), .val (.int (Int32.ofNat d)), .val (.int ez), .val (.int rz), .val (.int a), .val (.int b), .val (.ref cc), .val (.ref v0), .unset, .unset, .unset, .unset, .unset, .unset] [(.ref v1)]
  refine w_astore ok at_229 rfl (L' := #[.val (.int i0), .val (.int i1), .val (.int i2), .val (.int i3), .val (.int (Int32.ofNat n)), .val (.int (Int32.ofNat p)), .val (.int (Int32.ofNat r1)), .val (.int (Int32.ofNat d)), .val (.int ez), .val (.int rz), .val (.int a), .val (.int b), .val (.ref cc), .val (.ref v0), .val (.ref v1), .unset, .unset, .unset, .unset, .unset]) rfl ?_
  refine w_iload ok at_231 rfl ?_
  refine w_aload ok at_233 rfl rfl ?_
  refine w_iconst ok at_235 (v := (2 : Int32)) rfl ?_
  refine w_iaload ok (v := (.int (c 2))) at_236 A_cc (by decide) (svg (j := 2) (by omega) (by omega)) ?_
  refine w_iconst ok at_237 (v := (2 : Int32)) rfl ?_
  refine w_callS ok (y := mn_1) (argsL := [(.int (Int32.ofNat p)), (.int (c 2)), (.int (2 : Int32))]) (rest := []) at_238 (hw _ (List.mem_of_getElem? (i := 2) rfl)) (hw _ (List.mem_of_getElem? (i := 3) rfl)) (hw _ (List.mem_of_getElem? (i := 4) rfl)) (hw _ (List.mem_of_getElem? (i := 5) rfl)) (by decide) pd_28III295bI rfl rfl (by decide) (Nat.le_of_ble_eq_true rfl) (by decide) (by decide) (fun z0 => rm_row l Z a0 hw [] n0 h4 z0 p (c 2) 2 (by omega)) (fun v5 h6 qv5 => ?_)
  obtain ⟨v2, rfl, sz_v2, ge_v2, K1, A_v2⟩ := qv5
  have ne_cc_v2 : cc ≠ v2 := Nat.ne_of_lt (Nat.lt_of_lt_of_le A_cc.lt sz_v2)
  have ne_v0_v2 : v0 ≠ v2 := Nat.ne_of_lt (Nat.lt_of_lt_of_le A_v0.lt sz_v2)
  have ne_v1_v2 : v1 ≠ v2 := Nat.ne_of_lt (Nat.lt_of_lt_of_le A_v1.lt sz_v2)
  replace A_cc := A_cc.keep K1 nin0
  replace A_v0 := A_v0.keep K1 nin0
  replace A_v1 := A_v1.keep K1 nin0
  replace A_v2 : PA .int Z h6 v2 (sv 3 (vrow p c 2)) := A_v2
  show W K l _ n0 _ h6 4 14 241 #[.val (.int i0), .val (.int i1), .val (.int i2), .val (.int i3), .val (.int (Int32.ofNat n)), .val (.int (Int32.ofNat p)), .val (.int (Int32.ofNat r1)), .val (.int (Int32.ofNat d)), .val (.int ez), .val (.int rz), .val (.int a), .val (.int b), .val (.ref cc), .val (.ref v0), .val (.ref v1), .unset, .unset, .unset, .unset, .unset] [(.ref v2)]
  refine w_astore ok at_241 rfl (L' := #[.val (.int i0), .val (.int i1), .val (.int i2), .val (.int i3), .val (.int (Int32.ofNat n)), .val (.int (Int32.ofNat p)), .val (.int (Int32.ofNat r1)), .val (.int (Int32.ofNat d)), .val (.int ez), .val (.int rz), .val (.int a), .val (.int b), .val (.ref cc), .val (.ref v0), .val (.ref v1), .val (.ref v2), .unset, .unset, .unset, .unset]) rfl ?_
  refine w_iload ok at_243 rfl ?_
  refine w_aload ok at_245 rfl rfl ?_
  refine w_iconst ok at_247 (v := (3 : Int32)) rfl ?_
  refine w_iaload ok (v := (.int (c 3))) at_248 A_cc (by decide) (svg (j := 3) (by omega) (by omega)) ?_
  refine w_iconst ok at_249 (v := (3 : Int32)) rfl ?_
  refine w_callS ok (y := mn_1) (argsL := [(.int (Int32.ofNat p)), (.int (c 3)), (.int (3 : Int32))]) (rest := []) at_250 (hw _ (List.mem_of_getElem? (i := 2) rfl)) (hw _ (List.mem_of_getElem? (i := 3) rfl)) (hw _ (List.mem_of_getElem? (i := 4) rfl)) (hw _ (List.mem_of_getElem? (i := 5) rfl)) (by decide) pd_28III295bI rfl rfl (by decide) (Nat.le_of_ble_eq_true rfl) (by decide) (by decide) (fun z0 => rm_row l Z a0 hw [] n0 h6 z0 p (c 3) 3 (by omega)) (fun v7 h8 qv7 => ?_)
  obtain ⟨v3, rfl, sz_v3, ge_v3, K1, A_v3⟩ := qv7
  have ne_cc_v3 : cc ≠ v3 := Nat.ne_of_lt (Nat.lt_of_lt_of_le A_cc.lt sz_v3)
  have ne_v0_v3 : v0 ≠ v3 := Nat.ne_of_lt (Nat.lt_of_lt_of_le A_v0.lt sz_v3)
  have ne_v1_v3 : v1 ≠ v3 := Nat.ne_of_lt (Nat.lt_of_lt_of_le A_v1.lt sz_v3)
  have ne_v2_v3 : v2 ≠ v3 := Nat.ne_of_lt (Nat.lt_of_lt_of_le A_v2.lt sz_v3)
  replace A_cc := A_cc.keep K1 nin0
  replace A_v0 := A_v0.keep K1 nin0
  replace A_v1 := A_v1.keep K1 nin0
  replace A_v2 := A_v2.keep K1 nin0
  replace A_v3 : PA .int Z h8 v3 (sv 3 (vrow p c 3)) := A_v3
  show W K l _ n0 _ h8 5 17 253 #[.val (.int i0), .val (.int i1), .val (.int i2), .val (.int i3), .val (.int (Int32.ofNat n)), .val (.int (Int32.ofNat p)), .val (.int (Int32.ofNat r1)), .val (.int (Int32.ofNat d)), .val (.int ez), .val (.int rz), .val (.int a), .val (.int b), .val (.ref cc), .val (.ref v0), .val (.ref v1), .val (.ref v2), .unset, .unset, .unset, .unset] [(.ref v3)]
  refine w_astore ok at_253 rfl (L' := #[.val (.int i0), .val (.int i1), .val (.int i2), .val (.int i3), .val (.int (Int32.ofNat n)), .val (.int (Int32.ofNat p)), .val (.int (Int32.ofNat r1)), .val (.int (Int32.ofNat d)), .val (.int ez), .val (.int rz), .val (.int a), .val (.int b), .val (.ref cc), .val (.ref v0), .val (.ref v1), .val (.ref v2), .val (.ref v3), .unset, .unset, .unset]) rfl ?_
  refine w_iload ok at_255 rfl ?_
  refine w_aload ok at_257 rfl rfl ?_
  refine w_iconst ok at_259 (v := (4 : Int32)) rfl ?_
  refine w_iaload ok (v := (.int (c 4))) at_260 A_cc (by decide) (svg (j := 4) (by omega) (by omega)) ?_
  refine w_iconst ok at_261 (v := (4 : Int32)) rfl ?_
  refine w_callS ok (y := mn_1) (argsL := [(.int (Int32.ofNat p)), (.int (c 4)), (.int (4 : Int32))]) (rest := []) at_262 (hw _ (List.mem_of_getElem? (i := 2) rfl)) (hw _ (List.mem_of_getElem? (i := 3) rfl)) (hw _ (List.mem_of_getElem? (i := 4) rfl)) (hw _ (List.mem_of_getElem? (i := 5) rfl)) (by decide) pd_28III295bI rfl rfl (by decide) (Nat.le_of_ble_eq_true rfl) (by decide) (by decide) (fun z0 => rm_row l Z a0 hw [] n0 h8 z0 p (c 4) 4 (by omega)) (fun v9 h10 qv9 => ?_)
  obtain ⟨v4, rfl, sz_v4, ge_v4, K1, A_v4⟩ := qv9
  have ne_cc_v4 : cc ≠ v4 := Nat.ne_of_lt (Nat.lt_of_lt_of_le A_cc.lt sz_v4)
  have ne_v0_v4 : v0 ≠ v4 := Nat.ne_of_lt (Nat.lt_of_lt_of_le A_v0.lt sz_v4)
  have ne_v1_v4 : v1 ≠ v4 := Nat.ne_of_lt (Nat.lt_of_lt_of_le A_v1.lt sz_v4)
  have ne_v2_v4 : v2 ≠ v4 := Nat.ne_of_lt (Nat.lt_of_lt_of_le A_v2.lt sz_v4)
  have ne_v3_v4 : v3 ≠ v4 := Nat.ne_of_lt (Nat.lt_of_lt_of_le A_v3.lt sz_v4)
  replace A_cc := A_cc.keep K1 nin0
  replace A_v0 := A_v0.keep K1 nin0
  replace A_v1 := A_v1.keep K1 nin0
  replace A_v2 := A_v2.keep K1 nin0
  replace A_v3 := A_v3.keep K1 nin0
  replace A_v4 : PA .int Z h10 v4 (sv 3 (vrow p c 4)) := A_v4
  show W K l _ n0 _ h10 6 20 265 #[.val (.int i0), .val (.int i1), .val (.int i2), .val (.int i3), .val (.int (Int32.ofNat n)), .val (.int (Int32.ofNat p)), .val (.int (Int32.ofNat r1)), .val (.int (Int32.ofNat d)), .val (.int ez), .val (.int rz), .val (.int a), .val (.int b), .val (.ref cc), .val (.ref v0), .val (.ref v1), .val (.ref v2), .val (.ref v3), .unset, .unset, .unset] [(.ref v4)]
  refine w_astore ok at_265 rfl (L' := #[.val (.int i0), .val (.int i1), .val (.int i2), .val (.int i3), .val (.int (Int32.ofNat n)), .val (.int (Int32.ofNat p)), .val (.int (Int32.ofNat r1)), .val (.int (Int32.ofNat d)), .val (.int ez), .val (.int rz), .val (.int a), .val (.int b), .val (.ref cc), .val (.ref v0), .val (.ref v1), .val (.ref v2), .val (.ref v3), .val (.ref v4), .unset, .unset]) rfl ?_
  show W K l _ n0 _ h10 6 20 267 #[.val (.int i0), .val (.int i1), .val (.int i2), .val (.int i3), .val (.int (Int32.ofNat n)), .val (.int (Int32.ofNat p)), .val (.int (Int32.ofNat r1)), .val (.int (Int32.ofNat d)), .val (.int ez), .val (.int rz), .val (.int a), .val (.int b), .val (.ref cc), .val (.ref v0), .val (.ref v1), .val (.ref v2), .val (.ref v3), .val (.ref v4), .unset, .unset] []
  have ls_cc := A_cc.lt
  have ls_v0 := A_v0.lt
  have ls_v1 := A_v1.lt
  have ls_v2 := A_v2.lt
  have ls_v3 := A_v3.lt
  have ls_v4 := A_v4.lt
  refine w_new ok at_267 (hw _ (List.mem_of_getElem? (i := 6) rfl)) (hw _ (List.mem_of_getElem? (i := 7) rfl)) (hw _ (List.mem_of_getElem? (i := 8) rfl)) (la_FactTable hw) (by decide) (by decide) (fun h12 b11 ea_b11 ge_b11 E_b11 A_b11 => ?_)
  have ne_cc_b11 : cc ≠ b11 := fun q => Nat.lt_irrefl _ (Nat.lt_of_lt_of_eq A_cc.lt (ea_b11.symm.trans q.symm))
  have ne_v0_b11 : v0 ≠ b11 := fun q => Nat.lt_irrefl _ (Nat.lt_of_lt_of_eq A_v0.lt (ea_b11.symm.trans q.symm))
  have ne_v1_b11 : v1 ≠ b11 := fun q => Nat.lt_irrefl _ (Nat.lt_of_lt_of_eq A_v1.lt (ea_b11.symm.trans q.symm))
  have ne_v2_b11 : v2 ≠ b11 := fun q => Nat.lt_irrefl _ (Nat.lt_of_lt_of_eq A_v2.lt (ea_b11.symm.trans q.symm))
  have ne_v3_b11 : v3 ≠ b11 := fun q => Nat.lt_irrefl _ (Nat.lt_of_lt_of_eq A_v3.lt (ea_b11.symm.trans q.symm))
  have ne_v4_b11 : v4 ≠ b11 := fun q => Nat.lt_irrefl _ (Nat.lt_of_lt_of_eq A_v4.lt (ea_b11.symm.trans q.symm))
  replace A_cc := A_cc.ext E_b11
  replace A_v0 := A_v0.ext E_b11
  replace A_v1 := A_v1.ext E_b11
  replace A_v2 := A_v2.ext E_b11
  replace A_v3 := A_v3.ext E_b11
  replace A_v4 := A_v4.ext E_b11
  replace A_b11 : Ob Z h12 b11 "com/example/hornconv/hornconv/FactTable" fl_FactTable [.null, .null, (.int (0 : Int32)), .null, .null, .null, .null, (.int (0 : Int32)), (.int (0 : Int32)), (.int (0 : Int32))] := A_b11
  refine w_dup ok at_270 rfl ?_
  refine w_iload ok at_271 rfl ?_
  refine w_callI ok (y := mn_2) (a := b11) (argsL := [(.int (Int32.ofNat n))]) (rest := [(.ref b11)]) at_273 rfl (hw _ (List.mem_of_getElem? (i := 9) rfl)) (hw _ (List.mem_of_getElem? (i := 10) rfl)) (hw _ (List.mem_of_getElem? (i := 8) rfl)) (hw _ (List.mem_of_getElem? (i := 11) rfl)) (by decide) pd_28I29V rfl rfl (by decide) (Nat.le_of_ble_eq_true rfl) (by decide) (by decide) (fun z0 => rm_ctor l Z a0 hw [] n0 h12 z0 b11 n p hn c A_b11 ge_b11) (fun v13 h14 qv13 => ?_)
  obtain ⟨rfl, T, K1⟩ := qv13
  replace A_cc := A_cc.keep K1 (ninS ne_cc_b11 nin0)
  replace A_v0 := A_v0.keep K1 (ninS ne_v0_b11 nin0)
  replace A_v1 := A_v1.keep K1 (ninS ne_v1_b11 nin0)
  replace A_v2 := A_v2.keep K1 (ninS ne_v2_b11 nin0)
  replace A_v3 := A_v3.keep K1 (ninS ne_v3_b11 nin0)
  replace A_v4 := A_v4.keep K1 (ninS ne_v4_b11 nin0)
  have lt_cc : cc < b11 := Nat.lt_of_lt_of_eq ls_cc ea_b11.symm
  have lt_v0 : v0 < b11 := Nat.lt_of_lt_of_eq ls_v0 ea_b11.symm
  have lt_v1 : v1 < b11 := Nat.lt_of_lt_of_eq ls_v1 ea_b11.symm
  have lt_v2 : v2 < b11 := Nat.lt_of_lt_of_eq ls_v2 ea_b11.symm
  have lt_v3 : v3 < b11 := Nat.lt_of_lt_of_eq ls_v3 ea_b11.symm
  have lt_v4 : v4 < b11 := Nat.lt_of_lt_of_eq ls_v4 ea_b11.symm
  have hBs := Nat.le_of_lt (tb_lt T)
  have hB0 := ge_b11
  show W K l _ n0 _ h14 13 58 276 #[.val (.int i0), .val (.int i1), .val (.int i2), .val (.int i3), .val (.int (Int32.ofNat n)), .val (.int (Int32.ofNat p)), .val (.int (Int32.ofNat r1)), .val (.int (Int32.ofNat d)), .val (.int ez), .val (.int rz), .val (.int a), .val (.int b), .val (.ref cc), .val (.ref v0), .val (.ref v1), .val (.ref v2), .val (.ref v3), .val (.ref v4), .unset, .unset] [(.ref b11)]
  refine w_astore ok at_276 rfl (L' := #[.val (.int i0), .val (.int i1), .val (.int i2), .val (.int i3), .val (.int (Int32.ofNat n)), .val (.int (Int32.ofNat p)), .val (.int (Int32.ofNat r1)), .val (.int (Int32.ofNat d)), .val (.int ez), .val (.int rz), .val (.int a), .val (.int b), .val (.ref cc), .val (.ref v0), .val (.ref v1), .val (.ref v2), .val (.ref v3), .val (.ref v4), .val (.ref b11), .unset]) rfl ?_
  show W K l _ n0 _ h14 13 58 278 #[.val (.int i0), .val (.int i1), .val (.int i2), .val (.int i3), .val (.int (Int32.ofNat n)), .val (.int (Int32.ofNat p)), .val (.int (Int32.ofNat r1)), .val (.int (Int32.ofNat d)), .val (.int ez), .val (.int rz), .val (.int a), .val (.int b), .val (.ref cc), .val (.ref v0), .val (.ref v1), .val (.ref v2), .val (.ref v3), .val (.ref v4), .val (.ref b11), .unset] []
  rcases Nat.lt_or_ge n 2 with hlt | hge
  · have hn1 : n = 1 := by omega
    obtain rfl := hrz hn1
    obtain ⟨⟨wa, hwa⟩, wb, hwb⟩ := hsix hn1
    obtain ⟨Wf, hW, e1, he1⟩ := own_wf hcc hwa hwb
    rcases hez with rfl | rfl
    · skip
      show W K l _ n0 _ h14 13 58 278 #[.val (.int i0), .val (.int i1), .val (.int i2), .val (.int i3), .val (.int (Int32.ofNat n)), .val (.int (Int32.ofNat p)), .val (.int (Int32.ofNat r1)), .val (.int (Int32.ofNat d)), .val (.int (0 : Int32)), .val (.int (0 : Int32)), .val (.int a), .val (.int b), .val (.ref cc), .val (.ref v0), .val (.ref v1), .val (.ref v2), .val (.ref v3), .val (.ref v4), .val (.ref b11), .unset] []
      refine w_iload ok at_278 rfl ?_
      refine w_if_eq ok at_280 (pc' := 293) (by decide) (fun hc16 => ?_) (fun hc16 => False.elim (by revert hc16; decide))
      exact t1_293 l Z a0 hw n0 _ K ok b11 hB0 hBs b11 cc v0 v1 v2 v3 v4 n p r1 d i0 i1 i2 i3 a b c A_cc A_v0 A_v1 A_v2 A_v3 A_v4 lt_cc lt_v0 lt_v1 lt_v2 lt_v3 lt_v4 hp hr1 hd hc hnd (0 : Int32) hn1 wa hwa Wf hW T e1 he1
    · skip
      show W K l _ n0 _ h14 13 58 278 #[.val (.int i0), .val (.int i1), .val (.int i2), .val (.int i3), .val (.int (Int32.ofNat n)), .val (.int (Int32.ofNat p)), .val (.int (Int32.ofNat r1)), .val (.int (Int32.ofNat d)), .val (.int (1 : Int32)), .val (.int (0 : Int32)), .val (.int a), .val (.int b), .val (.ref cc), .val (.ref v0), .val (.ref v1), .val (.ref v2), .val (.ref v3), .val (.ref v4), .val (.ref b11), .unset] []
      refine w_iload ok at_278 rfl ?_
      refine w_if_eq ok at_280 (pc' := 293) (by decide) (fun hc18 => False.elim (by revert hc18; decide)) (fun hc18 => ?_)
      refine w_aload ok at_283 rfl rfl ?_
      refine w_iload ok at_285 rfl ?_
      refine w_iload ok at_287 rfl ?_
      refine w_callV ok (y := mn_13) (a := b11) (argsL := [(.int (Int32.ofNat p)), (.int a)]) (rest := []) at_289 (hw _ (List.mem_of_getElem? (i := 80) rfl)) (hw _ (List.mem_of_getElem? (i := 81) rfl)) (hw _ (List.mem_of_getElem? (i := 83) rfl)) (hw _ (List.mem_of_getElem? (i := 82) rfl)) (hw _ (List.mem_of_getElem? (i := 8) rfl)) (hw _ (List.mem_of_getElem? (i := 84) rfl)) (by decide) (tb_exa T) pd_28II29I rfl rfl (by decide) (Nat.le_of_ble_eq_true rfl) (by decide) (by decide) (fun z0 => rm_first1 l Z a0 hw [] n0 h14 z0 b11 hB0 hBs b11 n p 0 c 0 false T hn1 (by omega) a wa hwa.1 hwa.2) (fun v19 h20 qv19 => ?_)
      obtain ⟨zf, rfl, T1, S1⟩ := qv19
      replace A_cc := pa_sm A_cc S1 lt_cc
      replace A_v0 := pa_sm A_v0 S1 lt_v0
      replace A_v1 := pa_sm A_v1 S1 lt_v1
      replace A_v2 := pa_sm A_v2 S1 lt_v2
      replace A_v3 := pa_sm A_v3 S1 lt_v3
      replace A_v4 := pa_sm A_v4 S1 lt_v4
      replace hBs := Nat.le_trans S1.1 S1.2.1
      replace T := T1
      show W K l _ n0 _ h20 13 58 292 #[.val (.int i0), .val (.int i1), .val (.int i2), .val (.int i3), .val (.int (Int32.ofNat n)), .val (.int (Int32.ofNat p)), .val (.int (Int32.ofNat r1)), .val (.int (Int32.ofNat d)), .val (.int (1 : Int32)), .val (.int (0 : Int32)), .val (.int a), .val (.int b), .val (.ref cc), .val (.ref v0), .val (.ref v1), .val (.ref v2), .val (.ref v3), .val (.ref v4), .val (.ref b11), .unset] [(.int zf)]
      refine w_pop ok at_292 rfl ?_
      show W K l _ n0 _ h20 13 58 293 #[.val (.int i0), .val (.int i1), .val (.int i2), .val (.int i3), .val (.int (Int32.ofNat n)), .val (.int (Int32.ofNat p)), .val (.int (Int32.ofNat r1)), .val (.int (Int32.ofNat d)), .val (.int (1 : Int32)), .val (.int (0 : Int32)), .val (.int a), .val (.int b), .val (.ref cc), .val (.ref v0), .val (.ref v1), .val (.ref v2), .val (.ref v3), .val (.ref v4), .val (.ref b11), .unset] []
      exact t1_293 l Z a0 hw n0 _ K ok b11 hB0 hBs b11 cc v0 v1 v2 v3 v4 n p r1 d i0 i1 i2 i3 a b c A_cc A_v0 A_v1 A_v2 A_v3 A_v4 lt_cc lt_v0 lt_v1 lt_v2 lt_v3 lt_v4 hp hr1 hd hc hnd (1 : Int32) hn1 wa hwa Wf hW T e1 he1
  · have hn : 2 ≤ n ∧ n ≤ 3 := ⟨hge, hn.2⟩
    rcases hez with rfl | rfl
    · skip
      show W K l _ n0 _ h14 13 58 278 #[.val (.int i0), .val (.int i1), .val (.int i2), .val (.int i3), .val (.int (Int32.ofNat n)), .val (.int (Int32.ofNat p)), .val (.int (Int32.ofNat r1)), .val (.int (Int32.ofNat d)), .val (.int (0 : Int32)), .val (.int rz), .val (.int a), .val (.int b), .val (.ref cc), .val (.ref v0), .val (.ref v1), .val (.ref v2), .val (.ref v3), .val (.ref v4), .val (.ref b11), .unset] []
      refine w_iload ok at_278 rfl ?_
      refine w_if_eq ok at_280 (pc' := 293) (by decide) (fun hc22 => ?_) (fun hc22 => False.elim (by revert hc22; decide))
      exact t2_293f l Z a0 hw n0 _ K ok b11 hB0 hBs b11 cc v0 v1 v2 v3 v4 n p r1 d i0 i1 i2 i3 a b c A_cc A_v0 A_v1 A_v2 A_v3 A_v4 lt_cc lt_v0 lt_v1 lt_v2 lt_v3 lt_v4 hp hr1 hd hc hnd rz hn T
    · skip
      show W K l _ n0 _ h14 13 58 278 #[.val (.int i0), .val (.int i1), .val (.int i2), .val (.int i3), .val (.int (Int32.ofNat n)), .val (.int (Int32.ofNat p)), .val (.int (Int32.ofNat r1)), .val (.int (Int32.ofNat d)), .val (.int (1 : Int32)), .val (.int rz), .val (.int a), .val (.int b), .val (.ref cc), .val (.ref v0), .val (.ref v1), .val (.ref v2), .val (.ref v3), .val (.ref v4), .val (.ref b11), .unset] []
      refine w_iload ok at_278 rfl ?_
      refine w_if_eq ok at_280 (pc' := 293) (by decide) (fun hc24 => False.elim (by revert hc24; decide)) (fun hc24 => ?_)
      refine w_aload ok at_283 rfl rfl ?_
      refine w_iload ok at_285 rfl ?_
      refine w_iload ok at_287 rfl ?_
      refine w_callV ok (y := mn_13) (a := b11) (argsL := [(.int (Int32.ofNat p)), (.int a)]) (rest := []) at_289 (hw _ (List.mem_of_getElem? (i := 80) rfl)) (hw _ (List.mem_of_getElem? (i := 81) rfl)) (hw _ (List.mem_of_getElem? (i := 83) rfl)) (hw _ (List.mem_of_getElem? (i := 82) rfl)) (hw _ (List.mem_of_getElem? (i := 8) rfl)) (hw _ (List.mem_of_getElem? (i := 84) rfl)) (by decide) (tb_exa T) pd_28II29I rfl rfl (by decide) (Nat.le_of_ble_eq_true rfl) (by decide) (by decide) (fun z0 => rm_first2 l Z a0 hw [] n0 h14 z0 b11 hB0 hBs b11 n p 0 c 0 true T hn hp (by decide) hc hnd a) (fun v25 h26 qv25 => ?_)
      obtain ⟨zf, rfl, T1, S1⟩ := qv25
      replace A_cc := pa_sm A_cc S1 lt_cc
      replace A_v0 := pa_sm A_v0 S1 lt_v0
      replace A_v1 := pa_sm A_v1 S1 lt_v1
      replace A_v2 := pa_sm A_v2 S1 lt_v2
      replace A_v3 := pa_sm A_v3 S1 lt_v3
      replace A_v4 := pa_sm A_v4 S1 lt_v4
      replace hBs := Nat.le_trans S1.1 S1.2.1
      replace T := T1
      show W K l _ n0 _ h26 23 131 292 #[.val (.int i0), .val (.int i1), .val (.int i2), .val (.int i3), .val (.int (Int32.ofNat n)), .val (.int (Int32.ofNat p)), .val (.int (Int32.ofNat r1)), .val (.int (Int32.ofNat d)), .val (.int (1 : Int32)), .val (.int rz), .val (.int a), .val (.int b), .val (.ref cc), .val (.ref v0), .val (.ref v1), .val (.ref v2), .val (.ref v3), .val (.ref v4), .val (.ref b11), .unset] [(.int zf)]
      refine w_pop ok at_292 rfl ?_
      show W K l _ n0 _ h26 23 131 293 #[.val (.int i0), .val (.int i1), .val (.int i2), .val (.int i3), .val (.int (Int32.ofNat n)), .val (.int (Int32.ofNat p)), .val (.int (Int32.ofNat r1)), .val (.int (Int32.ofNat d)), .val (.int (1 : Int32)), .val (.int rz), .val (.int a), .val (.int b), .val (.ref cc), .val (.ref v0), .val (.ref v1), .val (.ref v2), .val (.ref v3), .val (.ref v4), .val (.ref b11), .unset] []
      exact t2_293t l Z a0 hw n0 _ K ok b11 hB0 hBs b11 cc v0 v1 v2 v3 v4 n p r1 d i0 i1 i2 i3 a b c A_cc A_v0 A_v1 A_v2 A_v3 A_v4 lt_cc lt_v0 lt_v1 lt_v2 lt_v3 lt_v4 hp hr1 hd hc hnd rz hn T
set_option maxRecDepth 65536 in
set_option maxHeartbeats 40000000 in
theorem cb_4 (l : Launch) (Z : State) (a0 : Array Value) (hw : ∀ d ∈ tables_1, d.before a0 Z = true) (n0 : Nat) (h0 : Heap) (K : Cx) (ok : Ok K Z n0 x.cls code maxLocals ret x.name) (n p r1 d : Nat) (i0 i1 i2 i3 ez rz a b : Int32) (hn : 1 ≤ n ∧ n ≤ 3) (hp : p < n) (hr1 : r1 < 5) (hd : d < 5) (hez : ez = 0 ∨ ez = 1) (hrz : n = 1 → rz = 0) (ha : a ≠ -1) (hb_ : b ≠ -1) (hsix : n = 1 → (∃ w, Jvm.Free.XT.ushr a 6 = Int32.ofNat w ∧ w < 64) ∧ ∃ w, Jvm.Free.XT.ushr b 6 = Int32.ofNat w ∧ w < 64) (cc : Addr) (y0 y1 y2 y3 y4 : Int32) (A_cc : PA .int Z h0 cc [(.int y0), (.int y1), (.int y2), (.int y3), (.int (0 : Int32))]) (ge_cc : n0 ≤ cc) (hy0 : y0 = a ∨ y0 = b) (hy1 : y1 = a ∨ y1 = b) (hy2 : y2 = a ∨ y2 = b) (hy3 : y3 = a ∨ y3 = b) (hy4 : y4 = a ∨ y4 = b) :
    W K l room_1 n0 (fun u h => u = some (.int 1)) h0 1 5 206 #[.val (.int i0), .val (.int i1), .val (.int i2), .val (.int i3), .val (.int (Int32.ofNat n)), .val (.int (Int32.ofNat p)), .val (.int (Int32.ofNat r1)), .val (.int (Int32.ofNat d)), .val (.int ez), .val (.int rz), .val (.int a), .val (.int b), .val (.ref cc), .unset, .unset, .unset, .unset, .unset, .unset, .unset] [(.int y4), (.int (4 : Int32)), (.ref cc)] := by
  show W K l _ n0 _ h0 1 5 206 #[.val (.int i0), .val (.int i1), .val (.int i2), .val (.int i3), .val (.int (Int32.ofNat n)), .val (.int (Int32.ofNat p)), .val (.int (Int32.ofNat r1)), .val (.int (Int32.ofNat d)), .val (.int ez), .val (.int rz), .val (.int a), .val (.int b), .val (.ref cc), .unset, .unset, .unset, .unset, .unset, .unset, .unset] [(.int y4), (.int (4 : Int32)), (.ref cc)]
  refine w_iastore ok at_206 A_cc ge_cc (by decide) (Nat.le_of_ble_eq_true rfl) (fun h1 W_h1 A1_h1 => ?_)
  replace A_cc : PA .int Z h1 cc [(.int y0), (.int y1), (.int y2), (.int y3), (.int y4)] := A1_h1
  show W K l _ n0 _ h1 1 5 207 #[.val (.int i0), .val (.int i1), .val (.int i2), .val (.int i3), .val (.int (Int32.ofNat n)), .val (.int (Int32.ofNat p)), .val (.int (Int32.ofNat r1)), .val (.int (Int32.ofNat d)), .val (.int ez), .val (.int rz), .val (.int a), .val (.int b), .val (.ref cc), .unset, .unset, .unset, .unset, .unset, .unset, .unset] []
  exact p207 l Z a0 hw n0 _ K ok n p r1 d i0 i1 i2 i3 ez rz a b hn hp hr1 hd hez hrz ha hb_ hsix cc (cf y0 y1 y2 y3 y4) A_cc ge_cc (cf_or hy0 hy1 hy2 hy3 hy4)
set_option maxRecDepth 65536 in
set_option maxHeartbeats 40000000 in
theorem cb_3 (l : Launch) (Z : State) (a0 : Array Value) (hw : ∀ d ∈ tables_1, d.before a0 Z = true) (n0 : Nat) (h0 : Heap) (K : Cx) (ok : Ok K Z n0 x.cls code maxLocals ret x.name) (n p r1 d : Nat) (i0 i1 i2 i3 ez rz a b : Int32) (hn : 1 ≤ n ∧ n ≤ 3) (hp : p < n) (hr1 : r1 < 5) (hd : d < 5) (hez : ez = 0 ∨ ez = 1) (hrz : n = 1 → rz = 0) (ha : a ≠ -1) (hb_ : b ≠ -1) (hsix : n = 1 → (∃ w, Jvm.Free.XT.ushr a 6 = Int32.ofNat w ∧ w < 64) ∧ ∃ w, Jvm.Free.XT.ushr b 6 = Int32.ofNat w ∧ w < 64) (cc : Addr) (y0 y1 y2 y3 : Int32) (A_cc : PA .int Z h0 cc [(.int y0), (.int y1), (.int y2), (.int (0 : Int32)), (.int (0 : Int32))]) (ge_cc : n0 ≤ cc) (hy0 : y0 = a ∨ y0 = b) (hy1 : y1 = a ∨ y1 = b) (hy2 : y2 = a ∨ y2 = b) (hy3 : y3 = a ∨ y3 = b) :
    W K l room_1 n0 (fun u h => u = some (.int 1)) h0 1 5 188 #[.val (.int i0), .val (.int i1), .val (.int i2), .val (.int i3), .val (.int (Int32.ofNat n)), .val (.int (Int32.ofNat p)), .val (.int (Int32.ofNat r1)), .val (.int (Int32.ofNat d)), .val (.int ez), .val (.int rz), .val (.int a), .val (.int b), .val (.ref cc), .unset, .unset, .unset, .unset, .unset, .unset, .unset] [(.int y3), (.int (3 : Int32)), (.ref cc)] := by
  show W K l _ n0 _ h0 1 5 188 #[.val (.int i0), .val (.int i1), .val (.int i2), .val (.int i3), .val (.int (Int32.ofNat n)), .val (.int (Int32.ofNat p)), .val (.int (Int32.ofNat r1)), .val (.int (Int32.ofNat d)), .val (.int ez), .val (.int rz), .val (.int a), .val (.int b), .val (.ref cc), .unset, .unset, .unset, .unset, .unset, .unset, .unset] [(.int y3), (.int (3 : Int32)), (.ref cc)]
  refine w_iastore ok at_188 A_cc ge_cc (by decide) (Nat.le_of_ble_eq_true rfl) (fun h1 W_h1 A1_h1 => ?_)
  replace A_cc : PA .int Z h1 cc [(.int y0), (.int y1), (.int y2), (.int y3), (.int (0 : Int32))] := A1_h1
  refine w_aload ok at_189 rfl rfl ?_
  refine w_iconst ok at_191 (v := (4 : Int32)) rfl ?_
  refine w_iloadN ok at_192 rfl ?_
  refine w_bipush ok at_193 (v := (16 : Int32)) rfl ?_
  refine w_iand ok at_195 ?_
  refine w_if_eq ok at_196 (pc' := 204) (by decide) (fun hc3 => ?_) (fun hc3 => ?_)
  · skip
    refine w_iload ok at_204 rfl ?_
    show W K l _ n0 _ h1 1 5 206 #[.val (.int i0), .val (.int i1), .val (.int i2), .val (.int i3), .val (.int (Int32.ofNat n)), .val (.int (Int32.ofNat p)), .val (.int (Int32.ofNat r1)), .val (.int (Int32.ofNat d)), .val (.int ez), .val (.int rz), .val (.int a), .val (.int b), .val (.ref cc), .unset, .unset, .unset, .unset, .unset, .unset, .unset] [(.int b), (.int (4 : Int32)), (.ref cc)]
    exact cb_4 l Z a0 hw n0 _ K ok n p r1 d i0 i1 i2 i3 ez rz a b hn hp hr1 hd hez hrz ha hb_ hsix cc y0 y1 y2 y3 _ A_cc ge_cc hy0 hy1 hy2 hy3 (Or.inr rfl)
  · skip
    refine w_iload ok at_199 rfl ?_
    refine w_goto ok at_201 (pc' := 206) (by decide) ?_
    show W K l _ n0 _ h1 1 5 206 #[.val (.int i0), .val (.int i1), .val (.int i2), .val (.int i3), .val (.int (Int32.ofNat n)), .val (.int (Int32.ofNat p)), .val (.int (Int32.ofNat r1)), .val (.int (Int32.ofNat d)), .val (.int ez), .val (.int rz), .val (.int a), .val (.int b), .val (.ref cc), .unset, .unset, .unset, .unset, .unset, .unset, .unset] [(.int a), (.int (4 : Int32)), (.ref cc)]
    exact cb_4 l Z a0 hw n0 _ K ok n p r1 d i0 i1 i2 i3 ez rz a b hn hp hr1 hd hez hrz ha hb_ hsix cc y0 y1 y2 y3 _ A_cc ge_cc hy0 hy1 hy2 hy3 (Or.inl rfl)
set_option maxRecDepth 65536 in
set_option maxHeartbeats 40000000 in
theorem cb_2 (l : Launch) (Z : State) (a0 : Array Value) (hw : ∀ d ∈ tables_1, d.before a0 Z = true) (n0 : Nat) (h0 : Heap) (K : Cx) (ok : Ok K Z n0 x.cls code maxLocals ret x.name) (n p r1 d : Nat) (i0 i1 i2 i3 ez rz a b : Int32) (hn : 1 ≤ n ∧ n ≤ 3) (hp : p < n) (hr1 : r1 < 5) (hd : d < 5) (hez : ez = 0 ∨ ez = 1) (hrz : n = 1 → rz = 0) (ha : a ≠ -1) (hb_ : b ≠ -1) (hsix : n = 1 → (∃ w, Jvm.Free.XT.ushr a 6 = Int32.ofNat w ∧ w < 64) ∧ ∃ w, Jvm.Free.XT.ushr b 6 = Int32.ofNat w ∧ w < 64) (cc : Addr) (y0 y1 y2 : Int32) (A_cc : PA .int Z h0 cc [(.int y0), (.int y1), (.int (0 : Int32)), (.int (0 : Int32)), (.int (0 : Int32))]) (ge_cc : n0 ≤ cc) (hy0 : y0 = a ∨ y0 = b) (hy1 : y1 = a ∨ y1 = b) (hy2 : y2 = a ∨ y2 = b) :
    W K l room_1 n0 (fun u h => u = some (.int 1)) h0 1 5 170 #[.val (.int i0), .val (.int i1), .val (.int i2), .val (.int i3), .val (.int (Int32.ofNat n)), .val (.int (Int32.ofNat p)), .val (.int (Int32.ofNat r1)), .val (.int (Int32.ofNat d)), .val (.int ez), .val (.int rz), .val (.int a), .val (.int b), .val (.ref cc), .unset, .unset, .unset, .unset, .unset, .unset, .unset] [(.int y2), (.int (2 : Int32)), (.ref cc)] := by
  show W K l _ n0 _ h0 1 5 170 #[.val (.int i0), .val (.int i1), .val (.int i2), .val (.int i3), .val (.int (Int32.ofNat n)), .val (.int (Int32.ofNat p)), .val (.int (Int32.ofNat r1)), .val (.int (Int32.ofNat d)), .val (.int ez), .val (.int rz), .val (.int a), .val (.int b), .val (.ref cc), .unset, .unset, .unset, .unset, .unset, .unset, .unset] [(.int y2), (.int (2 : Int32)), (.ref cc)]
  refine w_iastore ok at_170 A_cc ge_cc (by decide) (Nat.le_of_ble_eq_true rfl) (fun h1 W_h1 A1_h1 => ?_)
  replace A_cc : PA .int Z h1 cc [(.int y0), (.int y1), (.int y2), (.int (0 : Int32)), (.int (0 : Int32))] := A1_h1
  refine w_aload ok at_171 rfl rfl ?_
  refine w_iconst ok at_173 (v := (3 : Int32)) rfl ?_
  refine w_iloadN ok at_174 rfl ?_
  refine w_bipush ok at_175 (v := (8 : Int32)) rfl ?_
  refine w_iand ok at_177 ?_
  refine w_if_eq ok at_178 (pc' := 186) (by decide) (fun hc3 => ?_) (fun hc3 => ?_)
  · skip
    refine w_iload ok at_186 rfl ?_
    show W K l _ n0 _ h1 1 5 188 #[.val (.int i0), .val (.int i1), .val (.int i2), .val (.int i3), .val (.int (Int32.ofNat n)), .val (.int (Int32.ofNat p)), .val (.int (Int32.ofNat r1)), .val (.int (Int32.ofNat d)), .val (.int ez), .val (.int rz), .val (.int a), .val (.int b), .val (.ref cc), .unset, .unset, .unset, .unset, .unset, .unset, .unset] [(.int b), (.int (3 : Int32)), (.ref cc)]
    exact cb_3 l Z a0 hw n0 _ K ok n p r1 d i0 i1 i2 i3 ez rz a b hn hp hr1 hd hez hrz ha hb_ hsix cc y0 y1 y2 _ A_cc ge_cc hy0 hy1 hy2 (Or.inr rfl)
  · skip
    refine w_iload ok at_181 rfl ?_
    refine w_goto ok at_183 (pc' := 188) (by decide) ?_
    show W K l _ n0 _ h1 1 5 188 #[.val (.int i0), .val (.int i1), .val (.int i2), .val (.int i3), .val (.int (Int32.ofNat n)), .val (.int (Int32.ofNat p)), .val (.int (Int32.ofNat r1)), .val (.int (Int32.ofNat d)), .val (.int ez), .val (.int rz), .val (.int a), .val (.int b), .val (.ref cc), .unset, .unset, .unset, .unset, .unset, .unset, .unset] [(.int a), (.int (3 : Int32)), (.ref cc)]
    exact cb_3 l Z a0 hw n0 _ K ok n p r1 d i0 i1 i2 i3 ez rz a b hn hp hr1 hd hez hrz ha hb_ hsix cc y0 y1 y2 _ A_cc ge_cc hy0 hy1 hy2 (Or.inl rfl)
set_option maxRecDepth 65536 in
set_option maxHeartbeats 40000000 in
theorem cb_1 (l : Launch) (Z : State) (a0 : Array Value) (hw : ∀ d ∈ tables_1, d.before a0 Z = true) (n0 : Nat) (h0 : Heap) (K : Cx) (ok : Ok K Z n0 x.cls code maxLocals ret x.name) (n p r1 d : Nat) (i0 i1 i2 i3 ez rz a b : Int32) (hn : 1 ≤ n ∧ n ≤ 3) (hp : p < n) (hr1 : r1 < 5) (hd : d < 5) (hez : ez = 0 ∨ ez = 1) (hrz : n = 1 → rz = 0) (ha : a ≠ -1) (hb_ : b ≠ -1) (hsix : n = 1 → (∃ w, Jvm.Free.XT.ushr a 6 = Int32.ofNat w ∧ w < 64) ∧ ∃ w, Jvm.Free.XT.ushr b 6 = Int32.ofNat w ∧ w < 64) (cc : Addr) (y0 y1 : Int32) (A_cc : PA .int Z h0 cc [(.int y0), (.int (0 : Int32)), (.int (0 : Int32)), (.int (0 : Int32)), (.int (0 : Int32))]) (ge_cc : n0 ≤ cc) (hy0 : y0 = a ∨ y0 = b) (hy1 : y1 = a ∨ y1 = b) :
    W K l room_1 n0 (fun u h => u = some (.int 1)) h0 1 5 153 #[.val (.int i0), .val (.int i1), .val (.int i2), .val (.int i3), .val (.int (Int32.ofNat n)), .val (.int (Int32.ofNat p)), .val (.int (Int32.ofNat r1)), .val (.int (Int32.ofNat d)), .val (.int ez), .val (.int rz), .val (.int a), .val (.int b), .val (.ref cc), .unset, .unset, .unset, .unset, .unset, .unset, .unset] [(.int y1), (.int (1 : Int32)), (.ref cc)] := by
  show W K l _ n0 _ h0 1 5 153 #[.val (.int i0), .val (.int i1), .val (.int i2), .val (.int i3), .val (.int (Int32.ofNat n)), .val (.int (Int32.ofNat p)), .val (.int (Int32.ofNat r1)), .val (.int (Int32.ofNat d)), .val (.int ez), .val (.int rz), .val (.int a), .val (.int b), .val (.ref cc), .unset, .unset, .unset, .unset, .unset, .unset, .unset] [(.int y1), (.int (1 : Int32)), (.ref cc)]
  refine w_iastore ok at_153 A_cc ge_cc (by decide) (Nat.le_of_ble_eq_true rfl) (fun h1 W_h1 A1_h1 => ?_)
  replace A_cc : PA .int Z h1 cc [(.int y0), (.int y1), (.int (0 : Int32)), (.int (0 : Int32)), (.int (0 : Int32))] := A1_h1
  refine w_aload ok at_154 rfl rfl ?_
  refine w_iconst ok at_156 (v := (2 : Int32)) rfl ?_
  refine w_iloadN ok at_157 rfl ?_
  refine w_iconst ok at_158 (v := (4 : Int32)) rfl ?_
  refine w_iand ok at_159 ?_
  refine w_if_eq ok at_160 (pc' := 168) (by decide) (fun hc3 => ?_) (fun hc3 => ?_)
  · skip
    refine w_iload ok at_168 rfl ?_
    show W K l _ n0 _ h1 1 5 170 #[.val (.int i0), .val (.int i1), .val (.int i2), .val (.int i3), .val (.int (Int32.ofNat n)), .val (.int (Int32.ofNat p)), .val (.int (Int32.ofNat r1)), .val (.int (Int32.ofNat d)), .val (.int ez), .val (.int rz), .val (.int a), .val (.int b), .val (.ref cc), .unset, .unset, .unset, .unset, .unset, .unset, .unset] [(.int b), (.int (2 : Int32)), (.ref cc)]
    exact cb_2 l Z a0 hw n0 _ K ok n p r1 d i0 i1 i2 i3 ez rz a b hn hp hr1 hd hez hrz ha hb_ hsix cc y0 y1 _ A_cc ge_cc hy0 hy1 (Or.inr rfl)
  · skip
    refine w_iload ok at_163 rfl ?_
    refine w_goto ok at_165 (pc' := 170) (by decide) ?_
    show W K l _ n0 _ h1 1 5 170 #[.val (.int i0), .val (.int i1), .val (.int i2), .val (.int i3), .val (.int (Int32.ofNat n)), .val (.int (Int32.ofNat p)), .val (.int (Int32.ofNat r1)), .val (.int (Int32.ofNat d)), .val (.int ez), .val (.int rz), .val (.int a), .val (.int b), .val (.ref cc), .unset, .unset, .unset, .unset, .unset, .unset, .unset] [(.int a), (.int (2 : Int32)), (.ref cc)]
    exact cb_2 l Z a0 hw n0 _ K ok n p r1 d i0 i1 i2 i3 ez rz a b hn hp hr1 hd hez hrz ha hb_ hsix cc y0 y1 _ A_cc ge_cc hy0 hy1 (Or.inl rfl)
set_option maxRecDepth 65536 in
set_option maxHeartbeats 40000000 in
theorem cb_0 (l : Launch) (Z : State) (a0 : Array Value) (hw : ∀ d ∈ tables_1, d.before a0 Z = true) (n0 : Nat) (h0 : Heap) (K : Cx) (ok : Ok K Z n0 x.cls code maxLocals ret x.name) (n p r1 d : Nat) (i0 i1 i2 i3 ez rz a b : Int32) (hn : 1 ≤ n ∧ n ≤ 3) (hp : p < n) (hr1 : r1 < 5) (hd : d < 5) (hez : ez = 0 ∨ ez = 1) (hrz : n = 1 → rz = 0) (ha : a ≠ -1) (hb_ : b ≠ -1) (hsix : n = 1 → (∃ w, Jvm.Free.XT.ushr a 6 = Int32.ofNat w ∧ w < 64) ∧ ∃ w, Jvm.Free.XT.ushr b 6 = Int32.ofNat w ∧ w < 64) (cc : Addr) (y0 : Int32) (A_cc : PA .int Z h0 cc [(.int (0 : Int32)), (.int (0 : Int32)), (.int (0 : Int32)), (.int (0 : Int32)), (.int (0 : Int32))]) (ge_cc : n0 ≤ cc) (hy0 : y0 = a ∨ y0 = b) :
    W K l room_1 n0 (fun u h => u = some (.int 1)) h0 1 5 136 #[.val (.int i0), .val (.int i1), .val (.int i2), .val (.int i3), .val (.int (Int32.ofNat n)), .val (.int (Int32.ofNat p)), .val (.int (Int32.ofNat r1)), .val (.int (Int32.ofNat d)), .val (.int ez), .val (.int rz), .val (.int a), .val (.int b), .val (.ref cc), .unset, .unset, .unset, .unset, .unset, .unset, .unset] [(.int y0), (.int (0 : Int32)), (.ref cc)] := by
  show W K l _ n0 _ h0 1 5 136 #[.val (.int i0), .val (.int i1), .val (.int i2), .val (.int i3), .val (.int (Int32.ofNat n)), .val (.int (Int32.ofNat p)), .val (.int (Int32.ofNat r1)), .val (.int (Int32.ofNat d)), .val (.int ez), .val (.int rz), .val (.int a), .val (.int b), .val (.ref cc), .unset, .unset, .unset, .unset, .unset, .unset, .unset] [(.int y0), (.int (0 : Int32)), (.ref cc)]
  refine w_iastore ok at_136 A_cc ge_cc (by decide) (Nat.le_of_ble_eq_true rfl) (fun h1 W_h1 A1_h1 => ?_)
  replace A_cc : PA .int Z h1 cc [(.int y0), (.int (0 : Int32)), (.int (0 : Int32)), (.int (0 : Int32)), (.int (0 : Int32))] := A1_h1
  refine w_aload ok at_137 rfl rfl ?_
  refine w_iconst ok at_139 (v := (1 : Int32)) rfl ?_
  refine w_iloadN ok at_140 rfl ?_
  refine w_iconst ok at_141 (v := (2 : Int32)) rfl ?_
  refine w_iand ok at_142 ?_
  refine w_if_eq ok at_143 (pc' := 151) (by decide) (fun hc3 => ?_) (fun hc3 => ?_)
  · skip
    refine w_iload ok at_151 rfl ?_
    show W K l _ n0 _ h1 1 5 153 #[.val (.int i0), .val (.int i1), .val (.int i2), .val (.int i3), .val (.int (Int32.ofNat n)), .val (.int (Int32.ofNat p)), .val (.int (Int32.ofNat r1)), .val (.int (Int32.ofNat d)), .val (.int ez), .val (.int rz), .val (.int a), .val (.int b), .val (.ref cc), .unset, .unset, .unset, .unset, .unset, .unset, .unset] [(.int b), (.int (1 : Int32)), (.ref cc)]
    exact cb_1 l Z a0 hw n0 _ K ok n p r1 d i0 i1 i2 i3 ez rz a b hn hp hr1 hd hez hrz ha hb_ hsix cc y0 _ A_cc ge_cc hy0 (Or.inr rfl)
  · skip
    refine w_iload ok at_146 rfl ?_
    refine w_goto ok at_148 (pc' := 153) (by decide) ?_
    show W K l _ n0 _ h1 1 5 153 #[.val (.int i0), .val (.int i1), .val (.int i2), .val (.int i3), .val (.int (Int32.ofNat n)), .val (.int (Int32.ofNat p)), .val (.int (Int32.ofNat r1)), .val (.int (Int32.ofNat d)), .val (.int ez), .val (.int rz), .val (.int a), .val (.int b), .val (.ref cc), .unset, .unset, .unset, .unset, .unset, .unset, .unset] [(.int a), (.int (1 : Int32)), (.ref cc)]
    exact cb_1 l Z a0 hw n0 _ K ok n p r1 d i0 i1 i2 i3 ez rz a b hn hp hr1 hd hez hrz ha hb_ hsix cc y0 _ A_cc ge_cc hy0 (Or.inl rfl)
set_option maxRecDepth 65536 in
set_option maxHeartbeats 40000000 in
theorem p115 (l : Launch) (Z : State) (a0 : Array Value) (hw : ∀ d ∈ tables_1, d.before a0 Z = true) (n0 : Nat) (h0 : Heap) (K : Cx) (ok : Ok K Z n0 x.cls code maxLocals ret x.name) (n p r1 d : Nat) (i0 i1 i2 i3 ez rz a b : Int32) (hn : 1 ≤ n ∧ n ≤ 3) (hp : p < n) (hr1 : r1 < 5) (hd : d < 5) (hez : ez = 0 ∨ ez = 1) (hrz : n = 1 → rz = 0) (ha : a ≠ -1) (hb_ : b ≠ -1) (hsix : n = 1 → (∃ w, Jvm.Free.XT.ushr a 6 = Int32.ofNat w ∧ w < 64) ∧ ∃ w, Jvm.Free.XT.ushr b 6 = Int32.ofNat w ∧ w < 64) :
    W K l room_1 n0 (fun u h => u = some (.int 1)) h0 0 0 115 #[.val (.int i0), .val (.int i1), .val (.int i2), .val (.int i3), .val (.int (Int32.ofNat n)), .val (.int (Int32.ofNat p)), .val (.int (Int32.ofNat r1)), .val (.int (Int32.ofNat d)), .val (.int ez), .val (.int rz), .val (.int a), .val (.int b), .unset, .unset, .unset, .unset, .unset, .unset, .unset, .unset] [] := by
  show W K l _ n0 _ h0 0 0 115 #[.val (.int i0), .val (.int i1), .val (.int i2), .val (.int i3), .val (.int (Int32.ofNat n)), .val (.int (Int32.ofNat p)), .val (.int (Int32.ofNat r1)), .val (.int (Int32.ofNat d)), .val (.int ez), .val (.int rz), .val (.int a), .val (.int b), .unset, .unset, .unset, .unset, .unset, .unset, .unset, .unset] []
  refine w_iconst ok at_115 (v := (5 : Int32)) rfl ?_
  refine w_newarray ok at_116 (hw _ (List.mem_of_getElem? (i := 1) rfl)) (by decide) (cap := 5) (by decide) (by decide) (by decide) (by decide) (fun h2 b1 ea_b1 ge_b1 E_b1 A_b1 => ?_)
  replace A_b1 : PA .int Z h2 b1 [(.int (0 : Int32)), (.int (0 : Int32)), (.int (0 : Int32)), (.int (0 : Int32)), (.int (0 : Int32))] := A_b1
  refine w_astore ok at_118 rfl (L' := #[.val (.int i0), .val (.int i1), .val (.int i2), .val (.int i3), .val (.int (Int32.ofNat n)), .val (.int (Int32.ofNat p)), .val (.int (Int32.ofNat r1)), .val (.int (Int32.ofNat d)), .val (.int ez), .val (.int rz), .val (.int a), .val (.int b), .val (.ref b1), .unset, .unset, .unset, .unset, .unset, .unset, .unset]) rfl ?_
  refine w_aload ok at_120 rfl rfl ?_
  refine w_iconst ok at_122 (v := (0 : Int32)) rfl ?_
  refine w_iloadN ok at_123 rfl ?_
  refine w_iconst ok at_124 (v := (1 : Int32)) rfl ?_
  refine w_iand ok at_125 ?_
  refine w_if_eq ok at_126 (pc' := 134) (by decide) (fun hc4 => ?_) (fun hc4 => ?_)
  · skip
    refine w_iload ok at_134 rfl ?_
    show W K l _ n0 _ h2 1 5 136 #[.val (.int i0), .val (.int i1), .val (.int i2), .val (.int i3), .val (.int (Int32.ofNat n)), .val (.int (Int32.ofNat p)), .val (.int (Int32.ofNat r1)), .val (.int (Int32.ofNat d)), .val (.int ez), .val (.int rz), .val (.int a), .val (.int b), .val (.ref b1), .unset, .unset, .unset, .unset, .unset, .unset, .unset] [(.int b), (.int (0 : Int32)), (.ref b1)]
    exact cb_0 l Z a0 hw n0 _ K ok n p r1 d i0 i1 i2 i3 ez rz a b hn hp hr1 hd hez hrz ha hb_ hsix b1 _ A_b1 ge_b1 (Or.inr rfl)
  · skip
    refine w_iload ok at_129 rfl ?_
    refine w_goto ok at_131 (pc' := 136) (by decide) ?_
    show W K l _ n0 _ h2 1 5 136 #[.val (.int i0), .val (.int i1), .val (.int i2), .val (.int i3), .val (.int (Int32.ofNat n)), .val (.int (Int32.ofNat p)), .val (.int (Int32.ofNat r1)), .val (.int (Int32.ofNat d)), .val (.int ez), .val (.int rz), .val (.int a), .val (.int b), .val (.ref b1), .unset, .unset, .unset, .unset, .unset, .unset, .unset] [(.int a), (.int (0 : Int32)), (.ref b1)]
    exact cb_0 l Z a0 hw n0 _ K ok n p r1 d i0 i1 i2 i3 ez rz a b hn hp hr1 hd hez hrz ha hb_ hsix b1 _ A_b1 ge_b1 (Or.inl rfl)
set_option maxRecDepth 65536 in
set_option maxHeartbeats 40000000 in
theorem p79 (l : Launch) (Z : State) (a0 : Array Value) (hw : ∀ d ∈ tables_1, d.before a0 Z = true) (n0 : Nat) (h0 : Heap) (K : Cx) (ok : Ok K Z n0 x.cls code maxLocals ret x.name) (n p r1 d : Nat) (i0 i1 i2 i3 ez rz : Int32) (hn : 1 ≤ n ∧ n ≤ 3) (hp : p < n) (hr1 : r1 < 5) (hd : d < 5) (hez : ez = 0 ∨ ez = 1) (hrz : n = 1 → rz = 0) :
    W K l room_1 n0 (fun u h => u = some (.int 1)) h0 0 0 79 #[.val (.int i0), .val (.int i1), .val (.int i2), .val (.int i3), .val (.int (Int32.ofNat n)), .val (.int (Int32.ofNat p)), .val (.int (Int32.ofNat r1)), .val (.int (Int32.ofNat d)), .val (.int ez), .unset, .unset, .unset, .unset, .unset, .unset, .unset, .unset, .unset, .unset, .unset] [(.int rz)] := by
  show W K l _ n0 _ h0 0 0 79 #[.val (.int i0), .val (.int i1), .val (.int i2), .val (.int i3), .val (.int (Int32.ofNat n)), .val (.int (Int32.ofNat p)), .val (.int (Int32.ofNat r1)), .val (.int (Int32.ofNat d)), .val (.int ez), .unset, .unset, .unset, .unset, .unset, .unset, .unset, .unset, .unset, .unset, .unset] [(.int rz)]
  refine w_istore ok at_79 (L' := #[.val (.int i0), .val (.int i1), .val (.int i2), .val (.int i3), .val (.int (Int32.ofNat n)), .val (.int (Int32.ofNat p)), .val (.int (Int32.ofNat r1)), .val (.int (Int32.ofNat d)), .val (.int ez), .val (.int rz), .unset, .unset, .unset, .unset, .unset, .unset, .unset, .unset, .unset, .unset]) rfl ?_
  refine w_iloadN ok at_81 rfl ?_
  refine w_ldcI (v := (2147483647 : Int32)) ok at_82 (hw _ (List.mem_of_getElem? (i := 0) rfl)) ?_
  refine w_iand ok at_84 ?_
  refine w_istore ok at_85 (L' := #[.val (.int i0), .val (.int i1), .val (.int i2), .val (.int i3), .val (.int (Int32.ofNat n)), .val (.int (Int32.ofNat p)), .val (.int (Int32.ofNat r1)), .val (.int (Int32.ofNat d)), .val (.int ez), .val (.int rz), .val (.int (i0 &&& (2147483647 : Int32))), .unset, .unset, .unset, .unset, .unset, .unset, .unset, .unset, .unset]) rfl ?_
  refine w_iloadN ok at_87 rfl ?_
  refine w_ldcI (v := (2147483647 : Int32)) ok at_88 (hw _ (List.mem_of_getElem? (i := 0) rfl)) ?_
  refine w_iand ok at_90 ?_
  refine w_istore ok at_91 (L' := #[.val (.int i0), .val (.int i1), .val (.int i2), .val (.int i3), .val (.int (Int32.ofNat n)), .val (.int (Int32.ofNat p)), .val (.int (Int32.ofNat r1)), .val (.int (Int32.ofNat d)), .val (.int ez), .val (.int rz), .val (.int (i0 &&& (2147483647 : Int32))), .val (.int (i1 &&& (2147483647 : Int32))), .unset, .unset, .unset, .unset, .unset, .unset, .unset, .unset]) rfl ?_
  refine w_iload ok at_93 rfl ?_
  refine w_iconst ok at_95 (v := (1 : Int32)) rfl ?_
  refine w_icmp_ne ok at_96 (pc' := 115) (by decide) (fun hc1 => ?_) (fun hc1 => ?_)
  · skip
    exact p115 l Z a0 hw n0 _ K ok n p r1 d i0 i1 i2 i3 ez rz (i0 &&& (2147483647 : Int32)) (i1 &&& (2147483647 : Int32)) hn hp hr1 hd hez hrz (own_nm (by decide)) (own_nm (by decide)) (fun e => absurd (by rw [e]; rfl) hc1)
  · skip
    refine w_iload ok at_99 rfl ?_
    refine w_sipush ok at_101 (v := (4095 : Int32)) rfl ?_
    refine w_iand ok at_104 ?_
    refine w_istore ok at_105 (L' := #[.val (.int i0), .val (.int i1), .val (.int i2), .val (.int i3), .val (.int (Int32.ofNat n)), .val (.int (Int32.ofNat p)), .val (.int (Int32.ofNat r1)), .val (.int (Int32.ofNat d)), .val (.int ez), .val (.int rz), .val (.int ((i0 &&& (2147483647 : Int32)) &&& (4095 : Int32))), .val (.int (i1 &&& (2147483647 : Int32))), .unset, .unset, .unset, .unset, .unset, .unset, .unset, .unset]) rfl ?_
    refine w_iload ok at_107 rfl ?_
    refine w_sipush ok at_109 (v := (4095 : Int32)) rfl ?_
    refine w_iand ok at_112 ?_
    refine w_istore ok at_113 (L' := #[.val (.int i0), .val (.int i1), .val (.int i2), .val (.int i3), .val (.int (Int32.ofNat n)), .val (.int (Int32.ofNat p)), .val (.int (Int32.ofNat r1)), .val (.int (Int32.ofNat d)), .val (.int ez), .val (.int rz), .val (.int ((i0 &&& (2147483647 : Int32)) &&& (4095 : Int32))), .val (.int ((i1 &&& (2147483647 : Int32)) &&& (4095 : Int32))), .unset, .unset, .unset, .unset, .unset, .unset, .unset, .unset]) rfl ?_
    show W K l _ n0 _ h0 0 0 115 #[.val (.int i0), .val (.int i1), .val (.int i2), .val (.int i3), .val (.int (Int32.ofNat n)), .val (.int (Int32.ofNat p)), .val (.int (Int32.ofNat r1)), .val (.int (Int32.ofNat d)), .val (.int ez), .val (.int rz), .val (.int ((i0 &&& (2147483647 : Int32)) &&& (4095 : Int32))), .val (.int ((i1 &&& (2147483647 : Int32)) &&& (4095 : Int32))), .unset, .unset, .unset, .unset, .unset, .unset, .unset, .unset] []
    exact p115 l Z a0 hw n0 _ K ok n p r1 d i0 i1 i2 i3 ez rz ((i0 &&& (2147483647 : Int32)) &&& (4095 : Int32)) ((i1 &&& (2147483647 : Int32)) &&& (4095 : Int32)) hn hp hr1 hd hez hrz (own_nm (by decide)) (own_nm (by decide)) (fun _ => ⟨own_w6 _, own_w6 _⟩)
set_option maxRecDepth 65536 in
set_option maxHeartbeats 40000000 in
theorem p59 (l : Launch) (Z : State) (a0 : Array Value) (hw : ∀ d ∈ tables_1, d.before a0 Z = true) (n0 : Nat) (h0 : Heap) (K : Cx) (ok : Ok K Z n0 x.cls code maxLocals ret x.name) (n p r1 d : Nat) (i0 i1 i2 i3 ez : Int32) (hn : 1 ≤ n ∧ n ≤ 3) (hp : p < n) (hr1 : r1 < 5) (hd : d < 5) (hez : ez = 0 ∨ ez = 1) :
    W K l room_1 n0 (fun u h => u = some (.int 1)) h0 0 0 59 #[.val (.int i0), .val (.int i1), .val (.int i2), .val (.int i3), .val (.int (Int32.ofNat n)), .val (.int (Int32.ofNat p)), .val (.int (Int32.ofNat r1)), .val (.int (Int32.ofNat d)), .unset, .unset, .unset, .unset, .unset, .unset, .unset, .unset, .unset, .unset, .unset, .unset] [(.int ez)] := by
  show W K l _ n0 _ h0 0 0 59 #[.val (.int i0), .val (.int i1), .val (.int i2), .val (.int i3), .val (.int (Int32.ofNat n)), .val (.int (Int32.ofNat p)), .val (.int (Int32.ofNat r1)), .val (.int (Int32.ofNat d)), .unset, .unset, .unset, .unset, .unset, .unset, .unset, .unset, .unset, .unset, .unset, .unset] [(.int ez)]
  refine w_istore ok at_59 (L' := #[.val (.int i0), .val (.int i1), .val (.int i2), .val (.int i3), .val (.int (Int32.ofNat n)), .val (.int (Int32.ofNat p)), .val (.int (Int32.ofNat r1)), .val (.int (Int32.ofNat d)), .val (.int ez), .unset, .unset, .unset, .unset, .unset, .unset, .unset, .unset, .unset, .unset, .unset]) rfl ?_
  refine w_iloadN ok at_61 rfl ?_
  refine w_bipush ok at_62 (v := (64 : Int32)) rfl ?_
  refine w_iand ok at_64 ?_
  refine w_if_eq ok at_65 (pc' := 78) (by decide) (fun hc1 => ?_) (fun hc1 => ?_)
  · skip
    refine w_iconst ok at_78 (v := (0 : Int32)) rfl ?_
    show W K l _ n0 _ h0 0 0 79 #[.val (.int i0), .val (.int i1), .val (.int i2), .val (.int i3), .val (.int (Int32.ofNat n)), .val (.int (Int32.ofNat p)), .val (.int (Int32.ofNat r1)), .val (.int (Int32.ofNat d)), .val (.int ez), .unset, .unset, .unset, .unset, .unset, .unset, .unset, .unset, .unset, .unset, .unset] [(.int (0 : Int32))]
    exact p79 l Z a0 hw n0 _ K ok n p r1 d i0 i1 i2 i3 ez (0 : Int32) hn hp hr1 hd hez (fun _ => rfl)
  · skip
    refine w_iload ok at_68 rfl ?_
    refine w_iconst ok at_70 (v := (1 : Int32)) rfl ?_
    refine w_icmp_le ok at_71 (pc' := 78) (by decide) (fun hc3 => ?_) (fun hc3 => ?_)
    · skip
      refine w_iconst ok at_78 (v := (0 : Int32)) rfl ?_
      show W K l _ n0 _ h0 0 0 79 #[.val (.int i0), .val (.int i1), .val (.int i2), .val (.int i3), .val (.int (Int32.ofNat n)), .val (.int (Int32.ofNat p)), .val (.int (Int32.ofNat r1)), .val (.int (Int32.ofNat d)), .val (.int ez), .unset, .unset, .unset, .unset, .unset, .unset, .unset, .unset, .unset, .unset, .unset] [(.int (0 : Int32))]
      exact p79 l Z a0 hw n0 _ K ok n p r1 d i0 i1 i2 i3 ez (0 : Int32) hn hp hr1 hd hez (fun _ => rfl)
    · skip
      refine w_iconst ok at_74 (v := (1 : Int32)) rfl ?_
      refine w_goto ok at_75 (pc' := 79) (by decide) ?_
      show W K l _ n0 _ h0 0 0 79 #[.val (.int i0), .val (.int i1), .val (.int i2), .val (.int i3), .val (.int (Int32.ofNat n)), .val (.int (Int32.ofNat p)), .val (.int (Int32.ofNat r1)), .val (.int (Int32.ofNat d)), .val (.int ez), .unset, .unset, .unset, .unset, .unset, .unset, .unset, .unset, .unset, .unset, .unset] [(.int (1 : Int32))]
      exact p79 l Z a0 hw n0 _ K ok n p r1 d i0 i1 i2 i3 ez (1 : Int32) hn hp hr1 hd hez (fun e => by rw [e] at hc3; exact absurd hc3 (by decide))
set_option maxRecDepth 65536 in
set_option maxHeartbeats 40000000 in
theorem rm0 (l : Launch) (Z : State) (a0 : Array Value) (hw : ∀ d ∈ tables_1, d.before a0 Z = true) (ws : List Jvm.Cond) (n0 : Nat) (h0 : Heap) (Z0 : Old Z n0 h0) (i0 i1 i2 i3 : Int32)  :
    Met l Z n0 x code maxLocals ret ws room_1 #[(.int i0), (.int i1), (.int i2), (.int i3)] h0 (fun u h => u = some (.int 1)) := by
  refine met_of Z0 (plainFor_of_name pn_com_example_hornconv_hornconv_FactTableNextPinLaw) (Ls := #[.val (.int i0), .val (.int i1), .val (.int i2), .val (.int i3), .unset, .unset, .unset, .unset, .unset, .unset, .unset, .unset, .unset, .unset, .unset, .unset, .unset, .unset, .unset, .unset]) (fun m => by first | (simp [entryFrame, mkF, argsToLocals, Value.category, maxLocals]; done) | rfl) ?_
  intro K ok
  show W K l _ n0 _ h0 0 0 0 #[.val (.int i0), .val (.int i1), .val (.int i2), .val (.int i3), .unset, .unset, .unset, .unset, .unset, .unset, .unset, .unset, .unset, .unset, .unset, .unset, .unset, .unset, .unset, .unset] []
  refine w_iconst ok at_0 (v := (1 : Int32)) rfl ?_
  refine w_iloadN ok at_1 rfl ?_
  refine w_sipush ok at_2 (v := (255 : Int32)) rfl ?_
  refine w_iand ok at_5 ?_
  refine w_iconst ok at_6 (v := (3 : Int32)) rfl ?_
  refine w_irem ok at_7 (by decide) ?_
  refine w_iadd ok at_8 ?_
  show W K l _ n0 _ h0 0 0 9 #[.val (.int i0), .val (.int i1), .val (.int i2), .val (.int i3), .unset, .unset, .unset, .unset, .unset, .unset, .unset, .unset, .unset, .unset, .unset, .unset, .unset, .unset, .unset, .unset] [(.int ((1 : Int32) + ((i3 &&& (255 : Int32)) % (3 : Int32))))]
  obtain ⟨n, hn, e_n⟩ := own_ar i3
  rw [e_n]
  have hz := own_nz hn
  refine w_istore ok at_9 (L' := #[.val (.int i0), .val (.int i1), .val (.int i2), .val (.int i3), .val (.int (Int32.ofNat n)), .unset, .unset, .unset, .unset, .unset, .unset, .unset, .unset, .unset, .unset, .unset, .unset, .unset, .unset, .unset]) rfl ?_
  refine w_iloadN ok at_11 rfl ?_
  refine w_bipush ok at_12 (v := (8 : Int32)) rfl ?_
  refine w_iushr ok at_14 ?_
  refine w_sipush ok at_15 (v := (255 : Int32)) rfl ?_
  refine w_iand ok at_18 ?_
  refine w_iload ok at_19 rfl ?_
  refine w_irem ok at_21 (by assumption) ?_
  show W K l _ n0 _ h0 0 0 22 #[.val (.int i0), .val (.int i1), .val (.int i2), .val (.int i3), .val (.int (Int32.ofNat n)), .unset, .unset, .unset, .unset, .unset, .unset, .unset, .unset, .unset, .unset, .unset, .unset, .unset, .unset, .unset] [(.int (((Jvm.Free.XT.ushr i3 (8 : Int32)) &&& (255 : Int32)) % (Int32.ofNat n)))]
  obtain ⟨p, hp, e_p⟩ := own_rem (Jvm.Free.XT.ushr i3 8) 255 (m := n) (by decide) (by omega)
  rw [e_p]
  refine w_istore ok at_22 (L' := #[.val (.int i0), .val (.int i1), .val (.int i2), .val (.int i3), .val (.int (Int32.ofNat n)), .val (.int (Int32.ofNat p)), .unset, .unset, .unset, .unset, .unset, .unset, .unset, .unset, .unset, .unset, .unset, .unset, .unset, .unset]) rfl ?_
  refine w_iloadN ok at_24 rfl ?_
  refine w_bipush ok at_25 (v := (16 : Int32)) rfl ?_
  refine w_iushr ok at_27 ?_
  refine w_sipush ok at_28 (v := (255 : Int32)) rfl ?_
  refine w_iand ok at_31 ?_
  refine w_iconst ok at_32 (v := (5 : Int32)) rfl ?_
  refine w_irem ok at_33 (by decide) ?_
  show W K l _ n0 _ h0 0 0 34 #[.val (.int i0), .val (.int i1), .val (.int i2), .val (.int i3), .val (.int (Int32.ofNat n)), .val (.int (Int32.ofNat p)), .unset, .unset, .unset, .unset, .unset, .unset, .unset, .unset, .unset, .unset, .unset, .unset, .unset, .unset] [(.int (((Jvm.Free.XT.ushr i3 (16 : Int32)) &&& (255 : Int32)) % (5 : Int32)))]
  obtain ⟨r1, hr1, e_r1⟩ := (show ∃ q, q < 5 ∧ (Jvm.Free.XT.ushr i3 16 &&& 255) % 5 = Int32.ofNat q from own_rem (Jvm.Free.XT.ushr i3 16) 255 (m := 5) (by decide) (by omega))
  rw [e_r1]
  refine w_istore ok at_34 (L' := #[.val (.int i0), .val (.int i1), .val (.int i2), .val (.int i3), .val (.int (Int32.ofNat n)), .val (.int (Int32.ofNat p)), .val (.int (Int32.ofNat r1)), .unset, .unset, .unset, .unset, .unset, .unset, .unset, .unset, .unset, .unset, .unset, .unset, .unset]) rfl ?_
  refine w_iloadN ok at_36 rfl ?_
  refine w_bipush ok at_37 (v := (24 : Int32)) rfl ?_
  refine w_iushr ok at_39 ?_
  refine w_bipush ok at_40 (v := (127 : Int32)) rfl ?_
  refine w_iand ok at_42 ?_
  refine w_iconst ok at_43 (v := (5 : Int32)) rfl ?_
  refine w_irem ok at_44 (by decide) ?_
  show W K l _ n0 _ h0 0 0 45 #[.val (.int i0), .val (.int i1), .val (.int i2), .val (.int i3), .val (.int (Int32.ofNat n)), .val (.int (Int32.ofNat p)), .val (.int (Int32.ofNat r1)), .unset, .unset, .unset, .unset, .unset, .unset, .unset, .unset, .unset, .unset, .unset, .unset, .unset] [(.int (((Jvm.Free.XT.ushr i3 (24 : Int32)) &&& (127 : Int32)) % (5 : Int32)))]
  obtain ⟨d, hd, e_d⟩ := (show ∃ q, q < 5 ∧ (Jvm.Free.XT.ushr i3 24 &&& 127) % 5 = Int32.ofNat q from own_rem (Jvm.Free.XT.ushr i3 24) 127 (m := 5) (by decide) (by omega))
  rw [e_d]
  refine w_istore ok at_45 (L' := #[.val (.int i0), .val (.int i1), .val (.int i2), .val (.int i3), .val (.int (Int32.ofNat n)), .val (.int (Int32.ofNat p)), .val (.int (Int32.ofNat r1)), .val (.int (Int32.ofNat d)), .unset, .unset, .unset, .unset, .unset, .unset, .unset, .unset, .unset, .unset, .unset, .unset]) rfl ?_
  refine w_iloadN ok at_47 rfl ?_
  refine w_bipush ok at_48 (v := (32 : Int32)) rfl ?_
  refine w_iand ok at_50 ?_
  refine w_if_eq ok at_51 (pc' := 58) (by decide) (fun hc1 => ?_) (fun hc1 => ?_)
  · skip
    refine w_iconst ok at_58 (v := (0 : Int32)) rfl ?_
    show W K l _ n0 _ h0 0 0 59 #[.val (.int i0), .val (.int i1), .val (.int i2), .val (.int i3), .val (.int (Int32.ofNat n)), .val (.int (Int32.ofNat p)), .val (.int (Int32.ofNat r1)), .val (.int (Int32.ofNat d)), .unset, .unset, .unset, .unset, .unset, .unset, .unset, .unset, .unset, .unset, .unset, .unset] [(.int (0 : Int32))]
    exact p59 l Z a0 hw n0 _ K ok n p r1 d i0 i1 i2 i3 (0 : Int32) hn hp hr1 hd (by decide)
  · skip
    refine w_iconst ok at_54 (v := (1 : Int32)) rfl ?_
    refine w_goto ok at_55 (pc' := 59) (by decide) ?_
    show W K l _ n0 _ h0 0 0 59 #[.val (.int i0), .val (.int i1), .val (.int i2), .val (.int i3), .val (.int (Int32.ofNat n)), .val (.int (Int32.ofNat p)), .val (.int (Int32.ofNat r1)), .val (.int (Int32.ofNat d)), .unset, .unset, .unset, .unset, .unset, .unset, .unset, .unset, .unset, .unset, .unset, .unset] [(.int (1 : Int32))]
    exact p59 l Z a0 hw n0 _ K ok n p r1 d i0 i1 i2 i3 (1 : Int32) hn hp hr1 hd (by decide)
theorem END7 : True := trivial
set_option maxRecDepth 65536 in
set_option maxHeartbeats 40000000 in
theorem comes_1 {Post : Tables → Env → Array Value → State → Outcome → State → Prop} (hpost : ∀ tb e args s v u, (limb_1_1.after args s (.returned v) u = true ∧ limb_1_2.after args s (.returned v) u = true) → FrameEnd s (.returned v) u (Jvm.fieldLocs frame_1_writes args s ++ Jvm.arrayLocs frame_1_arrays args s ++ Jvm.staticLocs frame_1_statics s) 56 576 → Post tb e args s (.returned v) u) :
    ArmFor flags0 classFile x code maxLocals ret World_1 tables_1 room_1 Calls_1 rest_1 Pre_1 Post := by
  intro l hfl _ _ p e ha hc hk s m args below hf hA hF happ hP
  obtain ⟨hcalls, hrest, hpre⟩ := hP
  obtain ⟨-, -, -, hnamed, -, -, -, hat⟩ := (Spec.applies_iff hf).mp happ
  obtain ⟨hg, hn⟩ := and_e (Cond.before_iff.mp (show (Jvm.Cond.and given_1 narrow_1).before args s = true from hpre))
  obtain ⟨g0, r0⟩ := and_e hg
  obtain ⟨g1, r1⟩ := and_e r0
  obtain ⟨g2, r2⟩ := and_e r1
  obtain ⟨g3, r3⟩ := and_e r2
  obtain ⟨w0, w1, w2, w3, rfl⟩ : ∃ w0 w1 w2 w3 : Value, args = #[w0, w1, w2, w3] := by
    have hs : args.size = 4 := by simpa [Cond.value, given_1] using g0
    obtain ⟨L⟩ := args
    match L, hs with
    | [w0, w1, w2, w3], _ => exact ⟨w0, w1, w2, w3, rfl⟩
  have hw := fun d (hd : d ∈ tables_1) => atoms_spec (ws := Jvm.Cond.code x code maxLocals ret :: tables_1) hat d (List.mem_cons_of_mem _ hd)
  have hfit : Fit s := fun {y c} hc i hi => by
    obtain ⟨ha, rfl⟩ := Array.getElem?_eq_some_iff.mp hc
    have q := List.all_eq_true.mp ((Array.all_eq_true_iff_forall_mem.mp hF) _ (Array.getElem_mem ha)) i (List.mem_range.mpr hi)
    simpa [Array.getElem?_eq_getElem hi] using q
  obtain ⟨i0, ei0⟩ := is_v g1
  obtain rfl : w0 = (.int i0) := Option.some.inj ei0
  obtain ⟨i1, ei1⟩ := is_v g2
  obtain rfl : w1 = (.int i1) := Option.some.inj ei1
  obtain ⟨i2, ei2⟩ := is_v g3
  obtain rfl : w2 = (.int i2) := Option.some.inj ei2
  obtain ⟨i3, ei3⟩ := is_v r3
  obtain rfl : w3 = (.int i3) := Option.some.inj ei3
  obtain ⟨n, o, h1, h2, h3, _, L, rfl, ⟨rfl, N⟩, hq⟩ := rm0 l s _ hw tables_1 s.heap.size s.heap (Old.start s) i0 i1 i2 i3  p e ha hc hk s m _ below hf ((Spec.applies_iff_loose hf).mp happ).1 ⟨rfl, State.Warmed39.refl s, rfl⟩ trivial
  exact ⟨n, _, h1, h2, h3, hpost _ _ _ _ _ _ ⟨Cond.after_iff.mpr rfl, Cond.after_iff.mpr (eq_i res_at (Term.int_eval (1)) rfl)⟩ (frame_fin hq N (by decide) (by decide))⟩
theorem main_1_1 : Claimed_1_1 := comes_1 fun _ _ _ _ _ _ h hF => ⟨h.1, hF⟩
theorem main_1_2 : Claimed_1_2 := comes_1 fun _ _ _ _ _ _ h hF => ⟨h.2, hF⟩
end Jvm.Pilot.@@N@@
namespace Jvm.Pilot.@@N@@
open Jvm Jvm.ClassFile Sem Op Lib Jvm.Free Jvm.Stand Jvm.Pilot.@@N@@.Jvm.D
/-! MADE BY PROGRAM (witnessworld.py) out of the Statement's table words and the real class files: 18 classes; the members and pool entries that the words name. The judged class is class 1, her method 1. -/
namespace start1
open Jvm.ClassFile
def u (s : String) : CpInfo := .utf8 (stringToUtf16 s)
/-- a pool by its gaps: so many unusable entries, then the entry; so many at the end -/
def gap : Nat → List CpInfo → List CpInfo
  | 0, r => r
  | n + 1, r => .unusable :: gap n r
def poolList (es : List (Nat × CpInfo)) (last : Nat) : List CpInfo := es.foldr (fun e r => gap e.1 (e.2 :: r)) (gap last [])
def pool (es : List (Nat × CpInfo)) (last : Nat) : Array CpInfo := ⟨poolList es last⟩
def fileOf (pool : Array CpInfo) (this : Nat) (attrs : Array Attribute := #[]) (ms : Array MethodInfo := #[]) (fl : Nat := 33) (sup : Nat := 0) (ifs : Array Nat := #[]) (fds : Array FieldInfo := #[]) : ClassFile where
  minorVersion := 0
  majorVersion := 65
  constantPool := pool
  accessFlags := fl
  thisClass := this
  superClass := sup
  interfaces := ifs
  fields := fds
  methods := ms
  attributes := attrs
def plain (name : String) (sup : Option ClassId) : Class where
  name := name
  kind := .ordinary
  loader := none
  accessFlags := 33
  super := sup
  interfaces := #[]
  cf := none
  fields := #[]
  methods := #[]
  instanceTypes := #[]
  staticTypes := #[]
  resolved := #[]
  callSites := []
  init := .initialized
  statics := none
  mirror := none

def pool0 : Array CpInfo := pool [(5, u "<init>"), (0, u "()V"), (1, .class_ 10), (1, u "java/lang/Object")] 113

def k0c0 : Code := { maxStack := 0, maxLocals := 1, code := object_method_1_code, exceptionTable := #[], attributes := #[] }
def k0m0 : Method := { name := "<init>", desc := "()V", sig := { parameters := [], returnType := none }, accessFlags := 1, code := some k0c0 }
/-- java/lang/Object -/
def k0 : Class := { plain "java/lang/Object" none with
  accessFlags := 33
  interfaces := #[]
  cf := some (fileOf pool0 8 #[] #[{ accessFlags := 1, nameIndex := 5, descriptorIndex := 6, attributes := #[] }] 33 0 #[] #[])
  fields := #[]
  methods := #[k0m0]
  instanceTypes := #[]
  staticTypes := #[]
  resolved := Array.replicate 124 none
  statics := none }

def pool1 : Array CpInfo := pool [(2, .class_ 4), (1, u "java/lang/Object"), (0, u "<init>"), (0, u "()V"), (0, .integer 2147483647), (0, .methodref 9 10), (0, .class_ 11), (0, .nameAndType 12 13), (0, u "com/example/hornconv/hornconv/FactTableNextPinLaw"), (0, u "row"), (0, u "(III)[I"), (0, .class_ 15), (0, u "com/example/hornconv/hornconv/FactTable"), (0, .methodref 14 17), (0, .nameAndType 5 18), (0, u "(I)V"), (0, .methodref 14 20), (0, .nameAndType 21 22), (0, u "first"), (0, u "(II)I"), (0, .methodref 14 24), (0, .nameAndType 25 26), (0, u "add"), (0, u "([I)I"), (0, .methodref 14 28), (0, .nameAndType 29 18), (0, u "remove"), (0, .methodref 14 31), (0, .nameAndType 32 22), (0, u "next"), (0, .methodref 9 34), (0, .nameAndType 35 36), (0, u "expect"), (0, u "([II)I"), (2, u "law"), (0, u "(IIII)Z")] 5

def k1m0 : Method := { name := "<init>", desc := "()V", sig := { parameters := [], returnType := none }, accessFlags := 1, code := none }
def k1c1 : Code := { maxStack := 4, maxLocals := 20, code := code, exceptionTable := #[], attributes := #[] }
def k1m1 : Method := { name := "law", desc := "(IIII)Z", sig := { parameters := [.int, .int, .int, .int], returnType := some .boolean }, accessFlags := 9, code := some k1c1 }
def k1c2 : Code := { maxStack := 3, maxLocals := 4, code := method_3_code, exceptionTable := #[], attributes := #[] }
def k1m2 : Method := { name := "row", desc := "(III)[I", sig := { parameters := [.int, .int, .int], returnType := some (.array .int) }, accessFlags := 10, code := some k1c2 }
def k1c3 : Code := { maxStack := 3, maxLocals := 3, code := method_4_code, exceptionTable := #[], attributes := #[] }
def k1m3 : Method := { name := "expect", desc := "([II)I", sig := { parameters := [(.array .int), .int], returnType := some .int }, accessFlags := 10, code := some k1c3 }
/-- com/example/hornconv/hornconv/FactTableNextPinLaw -/
def k1 : Class := { plain "com/example/hornconv/hornconv/FactTableNextPinLaw" (some 0) with
  accessFlags := 49
  interfaces := #[]
  cf := some (fileOf pool1 9 #[] #[{ accessFlags := 1, nameIndex := 5, descriptorIndex := 6, attributes := #[] }, { accessFlags := 9, nameIndex := 39, descriptorIndex := 40, attributes := #[] }, { accessFlags := 10, nameIndex := 12, descriptorIndex := 13, attributes := #[] }, { accessFlags := 10, nameIndex := 35, descriptorIndex := 36, attributes := #[] }] 49 2 #[] #[])
  fields := #[]
  methods := #[k1m0, k1m1, k1m2, k1m3]
  instanceTypes := #[]
  staticTypes := #[]
  resolved := Array.replicate 46 none
  statics := none }

def pool2 : Array CpInfo := pool [(1, .methodref 2 3), (0, .class_ 4), (0, .nameAndType 5 6), (0, u "java/lang/Object"), (0, u "<init>"), (0, u "()V"), (0, .fieldref 8 9), (0, .class_ 10), (0, .nameAndType 11 12), (0, u "com/example/hornconv/hornconv/FactTable"), (0, u "unary"), (0, u "[I"), (0, .fieldref 8 14), (0, .nameAndType 15 16), (0, u "members"), (0, u "[J"), (0, .fieldref 8 18), (0, .nameAndType 19 20), (0, u "arity"), (0, u "I"), (0, .fieldref 8 22), (0, .nameAndType 23 12), (0, u "arguments"), (0, .fieldref 8 25), (0, .nameAndType 26 27), (0, u "dead"), (0, u "[Z"), (0, .fieldref 8 29), (0, .nameAndType 30 12), (0, u "slots"), (0, .methodref 32 33), (0, .class_ 34), (0, .nameAndType 35 36), (0, u "java/util/Arrays"), (0, u "fill"), (0, u "([II)V"), (0, .class_ 38), (0, u "com/example/hornconv/hornconv/FactTable$PositionIndex"), (0, .fieldref 8 40), (0, .nameAndType 41 42), (0, u "positions"), (0, u "[Lcom/example/hornconv/hornconv/FactTable$PositionIndex;"), (0, .fieldref 8 44), (0, .nameAndType 45 20), (0, u "rows"), (0, .fieldref 8 47), (0, .nameAndType 48 20), (0, u "live"), (0, .methodref 8 50), (0, .nameAndType 51 52), (0, u "isMember"), (0, u "(I)Z"), (0, .methodref 8 54), (0, .nameAndType 55 56), (0, u "hash"), (0, u "([II)I"), (0, .methodref 8 58), (0, .nameAndType 59 56), (0, u "find"), (0, .methodref 32 61), (0, .nameAndType 62 63), (0, u "copyOf"), (0, u "([ZI)[Z"), (0, .methodref 32 65), (0, .nameAndType 62 66), (0, u "([II)[I"), (0, .methodref 68 69), (0, .class_ 70), (0, .nameAndType 71 72), (0, u "java/lang/System"), (0, u "arraycopy"), (0, u "(Ljava/lang/Object;ILjava/lang/Object;II)V"), (0, .methodref 8 74), (0, .nameAndType 75 76), (0, u "setMember"), (0, u "(IZ)V"), (0, .methodref 37 78), (0, .nameAndType 79 80), (0, u "add"), (0, u "(II)V"), (0, .fieldref 8 82), (0, .nameAndType 83 20), (0, u "used"), (0, .methodref 8 85), (0, .nameAndType 86 6), (0, u "resize"), (0, .methodref 8 88), (0, .nameAndType 89 90), (0, u "argument"), (0, u "(II)I"), (0, .methodref 37 92), (0, .nameAndType 93 94), (0, u "remove"), (0, u "(I)V"), (0, .methodref 8 96), (0, .nameAndType 97 98), (0, u "single"), (0, u "(I)I"), (0, .methodref 8 100), (0, .nameAndType 101 102), (0, u "index"), (0, u "(I)Lcom/example/hornconv/hornconv/FactTable$PositionIndex;"), (0, .methodref 37 104), (0, .nameAndType 105 98), (0, u "first"), (0, .fieldref 37 107), (0, .nameAndType 108 12), (0, u "next"), (3, .methodref 37 3), (0, .methodref 114 115), (0, .class_ 116), (0, .nameAndType 117 90), (0, u "java/lang/Math"), (0, u "max"), (0, .methodref 32 119), (0, .nameAndType 62 120), (0, u "([JI)[J"), (0, .long 18446744073709551615), (1, .methodref 8 124), (0, .nameAndType 125 126), (0, u "equalsRow"), (0, u "(I[I)Z"), (0, .integer 2654435769), (0, u "NONE"), (2, u "REMOVED"), (1, u "GOLDEN"), (6, u "([I)I")] 5

def k2c0 : Code := { maxStack := 3, maxLocals := 2, code := prog_3_method_1_code, exceptionTable := #[], attributes := #[] }
def k2m0 : Method := { name := "<init>", desc := "(I)V", sig := { parameters := [.int], returnType := none }, accessFlags := 0, code := some k2c0 }
def k2c1 : Code := { maxStack := 3, maxLocals := 3, code := prog_3_method_6_code, exceptionTable := #[], attributes := #[] }
def k2m1 : Method := { name := "argument", desc := "(II)I", sig := { parameters := [.int, .int], returnType := some .int }, accessFlags := 0, code := some k2c1 }
def k2c2 : Code := { maxStack := 5, maxLocals := 6, code := prog_3_method_7_code, exceptionTable := #[], attributes := #[] }
def k2m2 : Method := { name := "add", desc := "([I)I", sig := { parameters := [(.array .int)], returnType := some .int }, accessFlags := 0, code := some k2c2 }
def k2c3 : Code := { maxStack := 4, maxLocals := 5, code := prog_3_method_8_code, exceptionTable := #[], attributes := #[] }
def k2m3 : Method := { name := "remove", desc := "(I)V", sig := { parameters := [.int], returnType := none }, accessFlags := 0, code := some k2c3 }
def k2c4 : Code := { maxStack := 2, maxLocals := 3, code := prog_3_method_9_code, exceptionTable := #[], attributes := #[] }
def k2m4 : Method := { name := "first", desc := "(II)I", sig := { parameters := [.int, .int], returnType := some .int }, accessFlags := 0, code := some k2c4 }
def k2c5 : Code := { maxStack := 2, maxLocals := 3, code := prog_3_method_10_code, exceptionTable := #[], attributes := #[] }
def k2m5 : Method := { name := "next", desc := "(II)I", sig := { parameters := [.int, .int], returnType := some .int }, accessFlags := 0, code := some k2c5 }
def k2c6 : Code := { maxStack := 4, maxLocals := 4, code := prog_3_method_12_code, exceptionTable := #[], attributes := #[] }
def k2m6 : Method := { name := "index", desc := "(I)Lcom/example/hornconv/hornconv/FactTable$PositionIndex;", sig := { parameters := [.int], returnType := some (.object "com/example/hornconv/hornconv/FactTable$PositionIndex") }, accessFlags := 2, code := some k2c6 }
def k2c7 : Code := { maxStack := 6, maxLocals := 2, code := prog_3_method_13_code, exceptionTable := #[], attributes := #[] }
def k2m7 : Method := { name := "single", desc := "(I)I", sig := { parameters := [.int], returnType := some .int }, accessFlags := 2, code := some k2c7 }
def k2c8 : Code := { maxStack := 5, maxLocals := 3, code := prog_3_method_14_code, exceptionTable := #[], attributes := #[] }
def k2m8 : Method := { name := "isMember", desc := "(I)Z", sig := { parameters := [.int], returnType := some .boolean }, accessFlags := 2, code := some k2c8 }
def k2c9 : Code := { maxStack := 8, maxLocals := 4, code := prog_3_method_15_code, exceptionTable := #[], attributes := #[] }
def k2m9 : Method := { name := "setMember", desc := "(IZ)V", sig := { parameters := [.int, .boolean], returnType := none }, accessFlags := 2, code := some k2c9 }
def k2c10 : Code := { maxStack := 3, maxLocals := 7, code := prog_3_method_16_code, exceptionTable := #[], attributes := #[] }
def k2m10 : Method := { name := "find", desc := "([II)I", sig := { parameters := [(.array .int), .int], returnType := some .int }, accessFlags := 2, code := some k2c10 }
def k2c11 : Code := { maxStack := 3, maxLocals := 5, code := prog_3_method_17_code, exceptionTable := #[], attributes := #[] }
def k2m11 : Method := { name := "equalsRow", desc := "(I[I)Z", sig := { parameters := [.int, (.array .int)], returnType := some .boolean }, accessFlags := 2, code := some k2c11 }
def k2c12 : Code := { maxStack := 4, maxLocals := 5, code := prog_3_method_18_code, exceptionTable := #[], attributes := #[] }
def k2m12 : Method := { name := "hash", desc := "([II)I", sig := { parameters := [(.array .int), .int], returnType := some .int }, accessFlags := 2, code := some k2c12 }
def k2c13 : Code := { maxStack := 4, maxLocals := 5, code := prog_3_method_19_code, exceptionTable := #[], attributes := #[] }
def k2m13 : Method := { name := "resize", desc := "()V", sig := { parameters := [], returnType := none }, accessFlags := 2, code := some k2c13 }
/-- com/example/hornconv/hornconv/FactTable -/
def k2 : Class := { plain "com/example/hornconv/hornconv/FactTable" (some 0) with
  accessFlags := 48
  interfaces := #[]
  cf := some (fileOf pool2 8 #[.nestMembers #[37]] #[{ accessFlags := 0, nameIndex := 5, descriptorIndex := 94, attributes := #[] }, { accessFlags := 0, nameIndex := 89, descriptorIndex := 90, attributes := #[] }, { accessFlags := 0, nameIndex := 79, descriptorIndex := 140, attributes := #[] }, { accessFlags := 0, nameIndex := 93, descriptorIndex := 94, attributes := #[] }, { accessFlags := 0, nameIndex := 105, descriptorIndex := 90, attributes := #[] }, { accessFlags := 0, nameIndex := 108, descriptorIndex := 90, attributes := #[] }, { accessFlags := 2, nameIndex := 101, descriptorIndex := 102, attributes := #[] }, { accessFlags := 2, nameIndex := 97, descriptorIndex := 98, attributes := #[] }, { accessFlags := 2, nameIndex := 51, descriptorIndex := 52, attributes := #[] }, { accessFlags := 2, nameIndex := 75, descriptorIndex := 76, attributes := #[] }, { accessFlags := 2, nameIndex := 59, descriptorIndex := 56, attributes := #[] }, { accessFlags := 2, nameIndex := 125, descriptorIndex := 126, attributes := #[] }, { accessFlags := 2, nameIndex := 55, descriptorIndex := 56, attributes := #[] }, { accessFlags := 2, nameIndex := 86, descriptorIndex := 6, attributes := #[] }] 48 2 #[] #[{ accessFlags := 26, nameIndex := 128, descriptorIndex := 20, attributes := #[] }, { accessFlags := 26, nameIndex := 131, descriptorIndex := 20, attributes := #[] }, { accessFlags := 26, nameIndex := 133, descriptorIndex := 20, attributes := #[] }, { accessFlags := 18, nameIndex := 19, descriptorIndex := 20, attributes := #[] }, { accessFlags := 2, nameIndex := 23, descriptorIndex := 12, attributes := #[] }, { accessFlags := 2, nameIndex := 26, descriptorIndex := 27, attributes := #[] }, { accessFlags := 2, nameIndex := 45, descriptorIndex := 20, attributes := #[] }, { accessFlags := 2, nameIndex := 48, descriptorIndex := 20, attributes := #[] }, { accessFlags := 2, nameIndex := 30, descriptorIndex := 12, attributes := #[] }, { accessFlags := 2, nameIndex := 83, descriptorIndex := 20, attributes := #[] }, { accessFlags := 18, nameIndex := 41, descriptorIndex := 42, attributes := #[] }, { accessFlags := 18, nameIndex := 11, descriptorIndex := 12, attributes := #[] }, { accessFlags := 2, nameIndex := 15, descriptorIndex := 16, attributes := #[] }])
  fields := #[{ name := "NONE", type := .int, accessFlags := 26, slot := 0, constantValue := 0 }, { name := "REMOVED", type := .int, accessFlags := 26, slot := 1, constantValue := 0 }, { name := "GOLDEN", type := .int, accessFlags := 26, slot := 2, constantValue := 0 }, { name := "arity", type := .int, accessFlags := 18, slot := 0, constantValue := 0 }, { name := "arguments", type := (.array .int), accessFlags := 2, slot := 1, constantValue := 0 }, { name := "dead", type := (.array .boolean), accessFlags := 2, slot := 2, constantValue := 0 }, { name := "rows", type := .int, accessFlags := 2, slot := 3, constantValue := 0 }, { name := "live", type := .int, accessFlags := 2, slot := 4, constantValue := 0 }, { name := "slots", type := (.array .int), accessFlags := 2, slot := 5, constantValue := 0 }, { name := "used", type := .int, accessFlags := 2, slot := 6, constantValue := 0 }, { name := "positions", type := (.array (.object "com/example/hornconv/hornconv/FactTable$PositionIndex")), accessFlags := 18, slot := 7, constantValue := 0 }, { name := "unary", type := (.array .int), accessFlags := 18, slot := 8, constantValue := 0 }, { name := "members", type := (.array .long), accessFlags := 2, slot := 9, constantValue := 0 }]
  methods := #[k2m0, k2m1, k2m2, k2m3, k2m4, k2m5, k2m6, k2m7, k2m8, k2m9, k2m10, k2m11, k2m12, k2m13]
  instanceTypes := #[.int, (.array .int), (.array .boolean), .int, .int, (.array .int), .int, (.array (.object "com/example/hornconv/hornconv/FactTable$PositionIndex")), (.array .int), (.array .long)]
  staticTypes := #[.int, .int, .int]
  resolved := (Array.replicate 146 none).setIfInBounds 106 (some (.field 4 4))
  statics := none }

def pool3 : Array CpInfo := pool [(2, .class_ 4), (1, u "java/lang/Object"), (0, u "<init>"), (0, u "()V"), (7, .class_ 16), (1, u "java/util/Arrays"), (57, .class_ 76), (1, u "java/util/Arrays$NaturalOrder"), (36, .class_ 115), (1, u "java/util/Arrays$LegacyMergeSort"), (1, u "Z"), (32, .methodref 151 152), (0, .class_ 153), (0, .nameAndType 154 155), (0, u "java/lang/System"), (0, u "arraycopy"), (0, u "(Ljava/lang/Object;ILjava/lang/Object;II)V"), (146, u "copyOf"), (1, .methodref 305 306), (0, .class_ 307), (0, .nameAndType 308 309), (0, u "java/lang/Math"), (0, u "min"), (0, u "(II)I"), (65, .class_ 376), (0, u "java/util/Arrays$ArrayList"), (68, u "$assertionsDisabled"), (269, u "MIN_ARRAY_SORT_GRAN"), (0, u "I"), (2, u "INSERTIONSORT_THRESHOLD"), (120, u "fill"), (4, u "([II)V"), (25, u "([II)[I"), (0, u "([JI)[J"), (3, u "([ZI)[Z"), (98, .class_ 976), (0, u "java/util/Arrays$ArrayItr")] 52

def k3m0 : Method := { name := "<init>", desc := "()V", sig := { parameters := [], returnType := none }, accessFlags := 2, code := none }
def k3c1 : Code := { maxStack := 3, maxLocals := 4, code := jdk_65_method_103_code, exceptionTable := #[], attributes := #[] }
def k3m1 : Method := { name := "fill", desc := "([II)V", sig := { parameters := [(.array .int), .int], returnType := none }, accessFlags := 9, code := some k3c1 }
def k3c2 : Code := { maxStack := 6, maxLocals := 3, code := jdk_65_method_123_code, exceptionTable := #[], attributes := #[] }
def k3m2 : Method := { name := "copyOf", desc := "([II)[I", sig := { parameters := [(.array .int), .int], returnType := some (.array .int) }, accessFlags := 9, code := some k3c2 }
def k3c3 : Code := { maxStack := 6, maxLocals := 3, code := jdk_65_method_124_code, exceptionTable := #[], attributes := #[] }
def k3m3 : Method := { name := "copyOf", desc := "([JI)[J", sig := { parameters := [(.array .long), .int], returnType := some (.array .long) }, accessFlags := 9, code := some k3c3 }
def k3c4 : Code := { maxStack := 6, maxLocals := 3, code := jdk_65_method_128_code, exceptionTable := #[], attributes := #[] }
def k3m4 : Method := { name := "copyOf", desc := "([ZI)[Z", sig := { parameters := [(.array .boolean), .int], returnType := some (.array .boolean) }, accessFlags := 9, code := some k3c4 }
/-- java/util/Arrays -/
def k3 : Class := { plain "java/util/Arrays" (some 0) with
  accessFlags := 49
  interfaces := #[]
  cf := some (fileOf pool3 14 #[.nestMembers #[975, 375, 113, 74]] #[{ accessFlags := 2, nameIndex := 5, descriptorIndex := 6, attributes := #[] }, { accessFlags := 9, nameIndex := 840, descriptorIndex := 845, attributes := #[] }, { accessFlags := 9, nameIndex := 302, descriptorIndex := 871, attributes := #[] }, { accessFlags := 9, nameIndex := 302, descriptorIndex := 872, attributes := #[] }, { accessFlags := 9, nameIndex := 302, descriptorIndex := 876, attributes := #[] }] 49 2 #[] #[{ accessFlags := 26, nameIndex := 715, descriptorIndex := 716, attributes := #[] }, { accessFlags := 26, nameIndex := 719, descriptorIndex := 716, attributes := #[] }, { accessFlags := 4120, nameIndex := 445, descriptorIndex := 117, attributes := #[] }])
  fields := #[{ name := "MIN_ARRAY_SORT_GRAN", type := .int, accessFlags := 26, slot := 0, constantValue := 0 }, { name := "INSERTIONSORT_THRESHOLD", type := .int, accessFlags := 26, slot := 1, constantValue := 0 }, { name := "$assertionsDisabled", type := .boolean, accessFlags := 4120, slot := 2, constantValue := 0 }]
  methods := #[k3m0, k3m1, k3m2, k3m3, k3m4]
  instanceTypes := #[]
  staticTypes := #[.int, .int, .boolean]
  resolved := Array.replicate 1029 none
  statics := none }

def pool4 : Array CpInfo := pool [(1, .class_ 2), (0, u "com/example/hornconv/hornconv/FactTable"), (0, .methodref 4 5), (0, .class_ 6), (0, .nameAndType 7 8), (0, u "java/lang/Object"), (0, u "<init>"), (0, u "()V"), (0, .fieldref 10 11), (0, .class_ 12), (0, .nameAndType 13 14), (0, u "com/example/hornconv/hornconv/FactTable$PositionIndex"), (0, u "keys"), (0, u "[I"), (0, .fieldref 10 16), (0, .nameAndType 17 14), (0, u "heads"), (0, .fieldref 10 19), (0, .nameAndType 20 14), (0, u "counts"), (0, .fieldref 10 22), (0, .nameAndType 23 14), (0, u "next"), (0, .methodref 25 26), (0, .class_ 27), (0, .nameAndType 28 29), (0, u "java/util/Arrays"), (0, u "fill"), (0, u "([II)V"), (0, .methodref 25 31), (0, .nameAndType 32 33), (0, u "copyOf"), (0, u "([II)[I"), (0, .methodref 10 35), (0, .nameAndType 36 37), (0, u "slot"), (0, u "(I)I"), (0, .fieldref 10 39), (0, .nameAndType 40 41), (0, u "size"), (0, u "I"), (3, .methodref 10 46), (0, .nameAndType 47 37), (0, u "mix"), (0, .integer 2654435769), (2, u "add"), (0, u "(II)V"), (1, u "remove"), (0, u "(I)V"), (0, u "first")] 7

def k4c0 : Code := { maxStack := 2, maxLocals := 1, code := prog_4_method_1_code, exceptionTable := #[], attributes := #[] }
def k4m0 : Method := { name := "<init>", desc := "()V", sig := { parameters := [], returnType := none }, accessFlags := 0, code := some k4c0 }
def k4c1 : Code := { maxStack := 4, maxLocals := 4, code := prog_4_method_2_code, exceptionTable := #[], attributes := #[] }
def k4m1 : Method := { name := "add", desc := "(II)V", sig := { parameters := [.int, .int], returnType := none }, accessFlags := 0, code := some k4c1 }
def k4c2 : Code := { maxStack := 4, maxLocals := 2, code := prog_4_method_3_code, exceptionTable := #[], attributes := #[] }
def k4m2 : Method := { name := "remove", desc := "(I)V", sig := { parameters := [.int], returnType := none }, accessFlags := 0, code := some k4c2 }
def k4c3 : Code := { maxStack := 2, maxLocals := 3, code := prog_4_method_4_code, exceptionTable := #[], attributes := #[] }
def k4m3 : Method := { name := "first", desc := "(I)I", sig := { parameters := [.int], returnType := some .int }, accessFlags := 0, code := some k4c3 }
def k4c4 : Code := { maxStack := 2, maxLocals := 4, code := prog_4_method_6_code, exceptionTable := #[], attributes := #[] }
def k4m4 : Method := { name := "slot", desc := "(I)I", sig := { parameters := [.int], returnType := some .int }, accessFlags := 2, code := some k4c4 }
def k4c5 : Code := { maxStack := 3, maxLocals := 2, code := prog_4_method_8_code, exceptionTable := #[], attributes := #[] }
def k4m5 : Method := { name := "mix", desc := "(I)I", sig := { parameters := [.int], returnType := some .int }, accessFlags := 10, code := some k4c5 }
/-- com/example/hornconv/hornconv/FactTable$PositionIndex -/
def k4 : Class := { plain "com/example/hornconv/hornconv/FactTable$PositionIndex" (some 0) with
  accessFlags := 48
  interfaces := #[]
  cf := some (fileOf pool4 10 #[.nestHost 1] #[{ accessFlags := 0, nameIndex := 7, descriptorIndex := 8, attributes := #[] }, { accessFlags := 0, nameIndex := 51, descriptorIndex := 52, attributes := #[] }, { accessFlags := 0, nameIndex := 54, descriptorIndex := 55, attributes := #[] }, { accessFlags := 0, nameIndex := 56, descriptorIndex := 37, attributes := #[] }, { accessFlags := 2, nameIndex := 36, descriptorIndex := 37, attributes := #[] }, { accessFlags := 10, nameIndex := 47, descriptorIndex := 37, attributes := #[] }] 48 4 #[] #[{ accessFlags := 2, nameIndex := 13, descriptorIndex := 14, attributes := #[] }, { accessFlags := 2, nameIndex := 17, descriptorIndex := 14, attributes := #[] }, { accessFlags := 2, nameIndex := 20, descriptorIndex := 14, attributes := #[] }, { accessFlags := 2, nameIndex := 40, descriptorIndex := 41, attributes := #[] }, { accessFlags := 2, nameIndex := 23, descriptorIndex := 14, attributes := #[] }])
  fields := #[{ name := "keys", type := (.array .int), accessFlags := 2, slot := 0, constantValue := 0 }, { name := "heads", type := (.array .int), accessFlags := 2, slot := 1, constantValue := 0 }, { name := "counts", type := (.array .int), accessFlags := 2, slot := 2, constantValue := 0 }, { name := "size", type := .int, accessFlags := 2, slot := 3, constantValue := 0 }, { name := "next", type := (.array .int), accessFlags := 2, slot := 4, constantValue := 0 }]
  methods := #[k4m0, k4m1, k4m2, k4m3, k4m4, k4m5]
  instanceTypes := #[(.array .int), (.array .int), (.array .int), .int, (.array .int)]
  staticTypes := #[]
  resolved := Array.replicate 64 none
  statics := none }

def pool5 : Array CpInfo := pool [(2, .class_ 4), (1, u "java/lang/Object"), (0, u "<init>"), (0, u "()V"), (1, .class_ 10), (1, u "java/lang/System"), (0, u "allowSecurityManager"), (0, u "I"), (16, u "cons"), (0, u "Ljava/io/Console;"), (77, .class_ 110), (1, u "java/lang/System$CallersHolder"), (43, u "initialErrStream"), (0, u "Ljava/io/PrintStream;"), (19, u "security"), (0, u "Ljava/lang/SecurityManager;"), (31, .class_ 209), (0, u "java/lang/System$1"), (7, u "props"), (0, u "Ljava/util/Properties;"), (2, u "lineSeparator"), (0, u "Ljava/lang/String;"), (96, .class_ 321), (1, u "java/lang/System$LoggerFinder"), (5, .class_ 328), (0, u "java/lang/System$Logger"), (67, u "err"), (2, u "out"), (91, u "notSupportedJnuEncoding"), (15, u "in"), (17, u "initialIn"), (0, u "Ljava/io/InputStream;"), (35, u "bootLayer"), (0, u "Ljava/lang/ModuleLayer;"), (99, .class_ 664), (0, u "java/lang/System$2"), (9, u "NEVER"), (2, u "MAYBE"), (49, u "arraycopy"), (0, u "(Ljava/lang/Object;ILjava/lang/Object;II)V"), (72, .class_ 802), (0, u "java/lang/System$Logger$Level")] 31

def k5m0 : Method := { name := "<init>", desc := "()V", sig := { parameters := [], returnType := none }, accessFlags := 2, code := none }
def k5m1 : Method := { name := "arraycopy", desc := "(Ljava/lang/Object;ILjava/lang/Object;II)V", sig := { parameters := [(.object "java/lang/Object"), .int, (.object "java/lang/Object"), .int, .int], returnType := none }, accessFlags := 265, code := none }
/-- java/lang/System -/
def k5 : Class := { plain "java/lang/System" (some 0) with
  accessFlags := 49
  interfaces := #[]
  cf := some (fileOf pool5 8 #[.nestMembers #[319, 327, 801, 108, 663, 208]] #[{ accessFlags := 2, nameIndex := 5, descriptorIndex := 6, attributes := #[] }, { accessFlags := 265, nameIndex := 727, descriptorIndex := 728, attributes := #[] }] 49 2 #[] #[{ accessFlags := 25, nameIndex := 507, descriptorIndex := 526, attributes := #[] }, { accessFlags := 25, nameIndex := 399, descriptorIndex := 155, attributes := #[] }, { accessFlags := 25, nameIndex := 396, descriptorIndex := 155, attributes := #[] }, { accessFlags := 10, nameIndex := 525, descriptorIndex := 526, attributes := #[] }, { accessFlags := 26, nameIndex := 674, descriptorIndex := 12, attributes := #[] }, { accessFlags := 26, nameIndex := 677, descriptorIndex := 12, attributes := #[] }, { accessFlags := 10, nameIndex := 11, descriptorIndex := 12, attributes := #[] }, { accessFlags := 74, nameIndex := 175, descriptorIndex := 176, attributes := #[] }, { accessFlags := 10, nameIndex := 491, descriptorIndex := 222, attributes := #[] }, { accessFlags := 74, nameIndex := 29, descriptorIndex := 30, attributes := #[] }, { accessFlags := 74, nameIndex := 154, descriptorIndex := 155, attributes := #[] }, { accessFlags := 10, nameIndex := 217, descriptorIndex := 218, attributes := #[] }, { accessFlags := 10, nameIndex := 221, descriptorIndex := 222, attributes := #[] }, { accessFlags := 8, nameIndex := 562, descriptorIndex := 563, attributes := #[] }])
  fields := #[{ name := "in", type := (.object "java/io/InputStream"), accessFlags := 25, slot := 0, constantValue := 0 }, { name := "out", type := (.object "java/io/PrintStream"), accessFlags := 25, slot := 1, constantValue := 0 }, { name := "err", type := (.object "java/io/PrintStream"), accessFlags := 25, slot := 2, constantValue := 0 }, { name := "initialIn", type := (.object "java/io/InputStream"), accessFlags := 10, slot := 3, constantValue := 0 }, { name := "NEVER", type := .int, accessFlags := 26, slot := 4, constantValue := 0 }, { name := "MAYBE", type := .int, accessFlags := 26, slot := 5, constantValue := 0 }, { name := "allowSecurityManager", type := .int, accessFlags := 10, slot := 6, constantValue := 0 }, { name := "security", type := (.object "java/lang/SecurityManager"), accessFlags := 74, slot := 7, constantValue := 0 }, { name := "notSupportedJnuEncoding", type := (.object "java/lang/String"), accessFlags := 10, slot := 8, constantValue := 0 }, { name := "cons", type := (.object "java/io/Console"), accessFlags := 74, slot := 9, constantValue := 0 }, { name := "initialErrStream", type := (.object "java/io/PrintStream"), accessFlags := 74, slot := 10, constantValue := 0 }, { name := "props", type := (.object "java/util/Properties"), accessFlags := 10, slot := 11, constantValue := 0 }, { name := "lineSeparator", type := (.object "java/lang/String"), accessFlags := 10, slot := 12, constantValue := 0 }, { name := "bootLayer", type := (.object "java/lang/ModuleLayer"), accessFlags := 8, slot := 13, constantValue := 0 }]
  methods := #[k5m0, k5m1]
  instanceTypes := #[]
  staticTypes := #[(.object "java/io/InputStream"), (.object "java/io/PrintStream"), (.object "java/io/PrintStream"), (.object "java/io/InputStream"), .int, .int, .int, (.object "java/lang/SecurityManager"), (.object "java/lang/String"), (.object "java/io/Console"), (.object "java/io/PrintStream"), (.object "java/util/Properties"), (.object "java/lang/String"), (.object "java/lang/ModuleLayer")]
  resolved := Array.replicate 834 none
  statics := none }

def pool6 : Array CpInfo := pool [(1, .class_ 2), (0, u "java/lang/Math"), (1, .class_ 6), (1, u "java/lang/Object"), (0, u "<init>"), (0, u "()V"), (89, .class_ 100), (1, u "java/lang/Math$RandomNumberGeneratorHolder"), (71, u "negativeZeroFloatBits"), (0, u "J"), (2, u "negativeZeroDoubleBits"), (21, u "max"), (2, u "min"), (43, u "$assertionsDisabled"), (0, u "Z"), (88, u "(II)I"), (2, u "twoToTheDoubleScaleDown"), (0, u "D"), (4, u "twoToTheDoubleScaleUp"), (9, u "E"), (3, u "PI"), (2, u "TAU"), (2, u "DEGREES_TO_RADIANS"), (0, u "RADIANS_TO_DEGREES")] 94

def k6m0 : Method := { name := "<init>", desc := "()V", sig := { parameters := [], returnType := none }, accessFlags := 2, code := none }
def k6c1 : Code := { maxStack := 2, maxLocals := 2, code := jdk_29_method_65_code, exceptionTable := #[], attributes := #[] }
def k6m1 : Method := { name := "max", desc := "(II)I", sig := { parameters := [.int, .int], returnType := some .int }, accessFlags := 9, code := some k6c1 }
def k6c2 : Code := { maxStack := 2, maxLocals := 2, code := jdk_29_method_69_code, exceptionTable := #[], attributes := #[] }
def k6m2 : Method := { name := "min", desc := "(II)I", sig := { parameters := [.int, .int], returnType := some .int }, accessFlags := 9, code := some k6c2 }
/-- java/lang/Math -/
def k6 : Class := { plain "java/lang/Math" (some 0) with
  accessFlags := 49
  interfaces := #[]
  cf := some (fileOf pool6 1 #[.nestMembers #[98]] #[{ accessFlags := 2, nameIndex := 7, descriptorIndex := 8, attributes := #[] }, { accessFlags := 9, nameIndex := 198, descriptorIndex := 335, attributes := #[] }, { accessFlags := 9, nameIndex := 201, descriptorIndex := 335, attributes := #[] }] 49 4 #[] #[{ accessFlags := 25, nameIndex := 354, descriptorIndex := 339, attributes := #[] }, { accessFlags := 25, nameIndex := 358, descriptorIndex := 339, attributes := #[] }, { accessFlags := 25, nameIndex := 361, descriptorIndex := 339, attributes := #[] }, { accessFlags := 26, nameIndex := 364, descriptorIndex := 339, attributes := #[] }, { accessFlags := 26, nameIndex := 365, descriptorIndex := 339, attributes := #[] }, { accessFlags := 26, nameIndex := 172, descriptorIndex := 173, attributes := #[] }, { accessFlags := 26, nameIndex := 176, descriptorIndex := 173, attributes := #[] }, { accessFlags := 8, nameIndex := 344, descriptorIndex := 339, attributes := #[] }, { accessFlags := 8, nameIndex := 338, descriptorIndex := 339, attributes := #[] }, { accessFlags := 4120, nameIndex := 245, descriptorIndex := 246, attributes := #[] }])
  fields := #[{ name := "E", type := .double, accessFlags := 25, slot := 0, constantValue := 0 }, { name := "PI", type := .double, accessFlags := 25, slot := 1, constantValue := 0 }, { name := "TAU", type := .double, accessFlags := 25, slot := 2, constantValue := 0 }, { name := "DEGREES_TO_RADIANS", type := .double, accessFlags := 26, slot := 3, constantValue := 0 }, { name := "RADIANS_TO_DEGREES", type := .double, accessFlags := 26, slot := 4, constantValue := 0 }, { name := "negativeZeroFloatBits", type := .long, accessFlags := 26, slot := 5, constantValue := 0 }, { name := "negativeZeroDoubleBits", type := .long, accessFlags := 26, slot := 6, constantValue := 0 }, { name := "twoToTheDoubleScaleUp", type := .double, accessFlags := 8, slot := 7, constantValue := 0 }, { name := "twoToTheDoubleScaleDown", type := .double, accessFlags := 8, slot := 8, constantValue := 0 }, { name := "$assertionsDisabled", type := .boolean, accessFlags := 4120, slot := 9, constantValue := 0 }]
  methods := #[k6m0, k6m1, k6m2]
  instanceTypes := #[]
  staticTypes := #[.double, .double, .double, .double, .double, .long, .long, .double, .double, .boolean]
  resolved := Array.replicate 460 none
  statics := none }

def pool7 : Array CpInfo := pool [(1, u "java/lang/Cloneable"), (0, .class_ 1), (0, u "java/lang/Object"), (0, .class_ 3)] 3

/-- java/lang/Cloneable -/
def k7 : Class := { plain "java/lang/Cloneable" (some 0) with
  accessFlags := 1537
  interfaces := #[]
  cf := some (fileOf pool7 2 #[] #[] 1537 4 #[] #[])
  fields := #[]
  methods := #[]
  instanceTypes := #[]
  staticTypes := #[]
  resolved := Array.replicate 8 none
  statics := none }

def pool8 : Array CpInfo := pool [(1, u "java/io/Serializable"), (0, .class_ 1), (0, u "java/lang/Object"), (0, .class_ 3)] 3

/-- java/io/Serializable -/
def k8 : Class := { plain "java/io/Serializable" (some 0) with
  accessFlags := 1537
  interfaces := #[]
  cf := some (fileOf pool8 2 #[] #[] 1537 4 #[] #[])
  fields := #[]
  methods := #[]
  instanceTypes := #[]
  staticTypes := #[]
  resolved := Array.replicate 8 none
  statics := none }

/-- the primitive boolean -/
def k9 : Class := { plain "boolean" none with kind := .primitive 'Z', accessFlags := 0x411 }
/-- [Z -/
def k10 : Class := { plain "[Z" (some 0) with kind := .array 9 .boolean, interfaces := #[7, 8], accessFlags := 1041 }

/-- the primitive byte -/
def k11 : Class := { plain "byte" none with kind := .primitive 'B', accessFlags := 0x411 }
/-- [B -/
def k12 : Class := { plain "[B" (some 0) with kind := .array 11 .byte, interfaces := #[7, 8], accessFlags := 1041 }

/-- the primitive int -/
def k13 : Class := { plain "int" none with kind := .primitive 'I', accessFlags := 0x411 }
/-- [I -/
def k14 : Class := { plain "[I" (some 0) with kind := .array 13 .int, interfaces := #[7, 8], accessFlags := 1041 }

/-- the primitive long -/
def k15 : Class := { plain "long" none with kind := .primitive 'J', accessFlags := 0x411 }
/-- [J -/
def k16 : Class := { plain "[J" (some 0) with kind := .array 15 .long, interfaces := #[7, 8], accessFlags := 1041 }

/-- [Lcom/example/hornconv/hornconv/FactTable$PositionIndex; -/
def k17 : Class := { plain "[Lcom/example/hornconv/hornconv/FactTable$PositionIndex;" (some 0) with kind := .array 4 (.object "com/example/hornconv/hornconv/FactTable$PositionIndex"), interfaces := #[7, 8], accessFlags := 1041 }

def heap : Heap := #[]
def classes : Array Class := #[k0, k1, k2, k3, k4, k5, k6, k7, k8, k9, k10, k11, k12, k13, k14, k15, k16, k17]
def interned : List (Array UInt16 × Addr) := []
def slotsUsed : Nat := 0
def theMethod : MethodId := ⟨1, 1⟩
def args0 : Array Value := #[.int 5, .int 7, .int 9, .int 3]
def aboutOver (below : List Frame) : State where
  vm := { classes := classes, interned := interned.toArray }
  heap := heap
  slotsUsed := slotsUsed
  threads := #[{ frames := .invoking theMethod args0 :: below }]
def below0 : List Frame := [.native { method := ⟨0, 0⟩, args := #[] }]
def about1 : State := aboutOver below0
def p0 : Program := .bare "" "" ""
def e0 : Env := launch0.env 0 0 0
theorem w_frames : about1.frames = Frame.invoking theMethod args0 :: below0 := rfl
set_option maxRecDepth 65536 in
theorem w_args : argsFit about1.vm theMethod args0 = true := by decide +kernel
set_option maxRecDepth 65536 in
theorem w_heap : heapFits about1 = true := by decide +kernel
set_option maxRecDepth 65536 in
theorem w_runnable : about1.curStatus? = some .runnable := by decide +kernel
set_option maxRecDepth 65536 in
theorem w_alone : about1.alone = true := by decide +kernel
set_option maxRecDepth 65536 in
theorem w_named : about1.methodNamed? x = some theMethod := by decide +kernel
set_option maxRecDepth 65536 in
theorem w_hears : about1.hears theMethod below0 = true := by decide +kernel
set_option maxRecDepth 65536 in
theorem w_ripe : about1.ripe theMethod args0 below0 = true := by decide +kernel
theorem w_running : about1.status = .running := rfl
set_option maxRecDepth 65536 in
theorem w_room : about1.hasRoom e0.platform room_1 = true :=
  launch0.hasRoom_least _ room_1 (by decide +kernel) (by decide +kernel) (by decide +kernel) (by decide +kernel) (by decide +kernel) (by decide +kernel)
theorem allAtoms_all (ts : List Jvm.Cond) (a : Array Jvm.Value) (st : Jvm.State) : (allAtoms ts).before a st = ts.all (fun c => c.before a st) := by
  induction ts with
  | nil => rfl
  | cons c t ih =>
    show (Jvm.Cond.and c (allAtoms t)).before a st = _
    rw [Jvm.Cond.before_and, ih, List.all_cons]
def words1 : List Jvm.Cond := Jvm.Cond.code x code maxLocals ret :: tables_1
/-- a 'code' word, met by the world's own term for the bytes: nothing is compared byte by byte -/
theorem code_word {y : MethodName} {bytes : ByteArray} {mx : Nat} {rt : Option FieldType} {a : Array Value} {s : State} {m : MethodId} {meth : Method} {c : Code} (h1 : s.methodNamed? y = some m) (h2 : s.vm.method? m = some meth) (h3 : meth.code = some c) (h4 : c.code = bytes)
    (h5 : (c.maxLocals == mx && c.exceptionTable.isEmpty && decide (c.maxStack ≤ mostOperands) && decide (meth.sig.returnType = rt) && !meth.locks && decide (parseMethodDescriptor y.desc = some meth.sig)) = true) : (Jvm.Cond.code y bytes mx rt).before a s = true := by
  simp only [Bool.and_eq_true, beq_iff_eq, Bool.not_eq_true', decide_eq_true_eq] at h5
  obtain ⟨⟨⟨⟨⟨g1, g2⟩, g3⟩, g4⟩, g5⟩, g6⟩ := h5
  simp [Cond.before, Cond.holds, Cond.value, h1, h2, h3, h4, g1, g2, g3, g4, g5, g6]
def isCode : Jvm.Cond → Bool
  | .code _ _ _ _ => true
  | _ => false
theorem all_split {L : List Jvm.Cond} {P : Jvm.Cond → Bool} (h1 : L.all (fun c => isCode c || P c) = true) (h2 : ∀ c ∈ L.filter isCode, P c = true) : L.all P = true := by
  refine List.all_eq_true.mpr fun c hc => ?_
  have h := List.all_eq_true.mp h1 c hc
  rcases Bool.eq_false_or_eq_true (isCode c) with hi | hi
  · exact h2 c (List.mem_filter.mpr ⟨hc, hi⟩)
  · simpa [hi] using h
set_option maxRecDepth 65536 in
theorem w_c0 : (Jvm.Cond.code x code maxLocals ret).before args0 about1 = true := code_word (m := ⟨1, 1⟩) (meth := k1m1) (c := k1c1) (by decide +kernel) rfl rfl rfl (by decide +kernel)
set_option maxRecDepth 65536 in
theorem w_c1 : (Jvm.Cond.code ({ cls := "com/example/hornconv/hornconv/FactTableNextPinLaw", name := "row", desc := "(III)[I" } : Jvm.MethodName) method_3_code (4 : Nat) (Option.some (Jvm.ClassFile.FieldType.array Jvm.ClassFile.FieldType.int))).before args0 about1 = true := code_word (m := ⟨1, 2⟩) (meth := k1m2) (c := k1c2) (by decide +kernel) rfl rfl rfl (by decide +kernel)
set_option maxRecDepth 65536 in
theorem w_c2 : (Jvm.Cond.code ({ cls := "com/example/hornconv/hornconv/FactTable", name := "<init>", desc := "(I)V" } : Jvm.MethodName) prog_3_method_1_code (2 : Nat) (Option.none : Option Jvm.ClassFile.FieldType)).before args0 about1 = true := code_word (m := ⟨2, 0⟩) (meth := k2m0) (c := k2c0) (by decide +kernel) rfl rfl rfl (by decide +kernel)
set_option maxRecDepth 65536 in
theorem w_c3 : (Jvm.Cond.code ({ cls := "java/lang/Object", name := "<init>", desc := "()V" } : Jvm.MethodName) object_method_1_code (1 : Nat) (Option.none : Option Jvm.ClassFile.FieldType)).before args0 about1 = true := code_word (m := ⟨0, 0⟩) (meth := k0m0) (c := k0c0) (by decide +kernel) rfl rfl rfl (by decide +kernel)
set_option maxRecDepth 65536 in
theorem w_c4 : (Jvm.Cond.code ({ cls := "java/util/Arrays", name := "fill", desc := "([II)V" } : Jvm.MethodName) jdk_65_method_103_code (4 : Nat) (Option.none : Option Jvm.ClassFile.FieldType)).before args0 about1 = true := code_word (m := ⟨3, 1⟩) (meth := k3m1) (c := k3c1) (by decide +kernel) rfl rfl rfl (by decide +kernel)
set_option maxRecDepth 65536 in
theorem w_c5 : (Jvm.Cond.code ({ cls := "com/example/hornconv/hornconv/FactTable", name := "add", desc := "([I)I" } : Jvm.MethodName) prog_3_method_7_code (6 : Nat) (Option.some Jvm.ClassFile.FieldType.int)).before args0 about1 = true := code_word (m := ⟨2, 2⟩) (meth := k2m2) (c := k2c2) (by decide +kernel) rfl rfl rfl (by decide +kernel)
set_option maxRecDepth 65536 in
theorem w_c6 : (Jvm.Cond.code ({ cls := "com/example/hornconv/hornconv/FactTable", name := "hash", desc := "([II)I" } : Jvm.MethodName) prog_3_method_18_code (5 : Nat) (Option.some Jvm.ClassFile.FieldType.int)).before args0 about1 = true := code_word (m := ⟨2, 12⟩) (meth := k2m12) (c := k2c12) (by decide +kernel) rfl rfl rfl (by decide +kernel)
set_option maxRecDepth 65536 in
theorem w_c7 : (Jvm.Cond.code ({ cls := "com/example/hornconv/hornconv/FactTable", name := "find", desc := "([II)I" } : Jvm.MethodName) prog_3_method_16_code (7 : Nat) (Option.some Jvm.ClassFile.FieldType.int)).before args0 about1 = true := code_word (m := ⟨2, 10⟩) (meth := k2m10) (c := k2c10) (by decide +kernel) rfl rfl rfl (by decide +kernel)
set_option maxRecDepth 65536 in
theorem w_c8 : (Jvm.Cond.code ({ cls := "com/example/hornconv/hornconv/FactTable", name := "equalsRow", desc := "(I[I)Z" } : Jvm.MethodName) prog_3_method_17_code (5 : Nat) (Option.some Jvm.ClassFile.FieldType.boolean)).before args0 about1 = true := code_word (m := ⟨2, 11⟩) (meth := k2m11) (c := k2c11) (by decide +kernel) rfl rfl rfl (by decide +kernel)
set_option maxRecDepth 65536 in
theorem w_c9 : (Jvm.Cond.code ({ cls := "java/util/Arrays", name := "copyOf", desc := "([ZI)[Z" } : Jvm.MethodName) jdk_65_method_128_code (3 : Nat) (Option.some (Jvm.ClassFile.FieldType.array Jvm.ClassFile.FieldType.boolean))).before args0 about1 = true := code_word (m := ⟨3, 4⟩) (meth := k3m4) (c := k3c4) (by decide +kernel) rfl rfl rfl (by decide +kernel)
set_option maxRecDepth 65536 in
theorem w_c10 : (Jvm.Cond.code ({ cls := "java/lang/Math", name := "min", desc := "(II)I" } : Jvm.MethodName) jdk_29_method_69_code (2 : Nat) (Option.some Jvm.ClassFile.FieldType.int)).before args0 about1 = true := code_word (m := ⟨6, 2⟩) (meth := k6m2) (c := k6c2) (by decide +kernel) rfl rfl rfl (by decide +kernel)
set_option maxRecDepth 65536 in
theorem w_c11 : (Jvm.Cond.code ({ cls := "java/util/Arrays", name := "copyOf", desc := "([II)[I" } : Jvm.MethodName) jdk_65_method_123_code (3 : Nat) (Option.some (Jvm.ClassFile.FieldType.array Jvm.ClassFile.FieldType.int))).before args0 about1 = true := code_word (m := ⟨3, 2⟩) (meth := k3m2) (c := k3c2) (by decide +kernel) rfl rfl rfl (by decide +kernel)
set_option maxRecDepth 65536 in
theorem w_c12 : (Jvm.Cond.code ({ cls := "com/example/hornconv/hornconv/FactTable", name := "resize", desc := "()V" } : Jvm.MethodName) prog_3_method_19_code (5 : Nat) (Option.none : Option Jvm.ClassFile.FieldType)).before args0 about1 = true := code_word (m := ⟨2, 13⟩) (meth := k2m13) (c := k2c13) (by decide +kernel) rfl rfl rfl (by decide +kernel)
set_option maxRecDepth 65536 in
theorem w_c13 : (Jvm.Cond.code ({ cls := "com/example/hornconv/hornconv/FactTable", name := "first", desc := "(II)I" } : Jvm.MethodName) prog_3_method_9_code (3 : Nat) (Option.some Jvm.ClassFile.FieldType.int)).before args0 about1 = true := code_word (m := ⟨2, 4⟩) (meth := k2m4) (c := k2c4) (by decide +kernel) rfl rfl rfl (by decide +kernel)
set_option maxRecDepth 65536 in
theorem w_c14 : (Jvm.Cond.code ({ cls := "com/example/hornconv/hornconv/FactTable", name := "index", desc := "(I)Lcom/example/hornconv/hornconv/FactTable$PositionIndex;" } : Jvm.MethodName) prog_3_method_12_code (4 : Nat) (Option.some (Jvm.ClassFile.FieldType.object "com/example/hornconv/hornconv/FactTable$PositionIndex"))).before args0 about1 = true := code_word (m := ⟨2, 6⟩) (meth := k2m6) (c := k2c6) (by decide +kernel) rfl rfl rfl (by decide +kernel)
set_option maxRecDepth 65536 in
theorem w_c15 : (Jvm.Cond.code ({ cls := "com/example/hornconv/hornconv/FactTable$PositionIndex", name := "<init>", desc := "()V" } : Jvm.MethodName) prog_4_method_1_code (1 : Nat) (Option.none : Option Jvm.ClassFile.FieldType)).before args0 about1 = true := code_word (m := ⟨4, 0⟩) (meth := k4m0) (c := k4c0) (by decide +kernel) rfl rfl rfl (by decide +kernel)
set_option maxRecDepth 65536 in
theorem w_c16 : (Jvm.Cond.code ({ cls := "com/example/hornconv/hornconv/FactTable", name := "argument", desc := "(II)I" } : Jvm.MethodName) prog_3_method_6_code (3 : Nat) (Option.some Jvm.ClassFile.FieldType.int)).before args0 about1 = true := code_word (m := ⟨2, 1⟩) (meth := k2m1) (c := k2c1) (by decide +kernel) rfl rfl rfl (by decide +kernel)
set_option maxRecDepth 65536 in
theorem w_c17 : (Jvm.Cond.code ({ cls := "com/example/hornconv/hornconv/FactTable$PositionIndex", name := "add", desc := "(II)V" } : Jvm.MethodName) prog_4_method_2_code (4 : Nat) (Option.none : Option Jvm.ClassFile.FieldType)).before args0 about1 = true := code_word (m := ⟨4, 1⟩) (meth := k4m1) (c := k4c1) (by decide +kernel) rfl rfl rfl (by decide +kernel)
set_option maxRecDepth 65536 in
theorem w_c18 : (Jvm.Cond.code ({ cls := "com/example/hornconv/hornconv/FactTable$PositionIndex", name := "slot", desc := "(I)I" } : Jvm.MethodName) prog_4_method_6_code (4 : Nat) (Option.some Jvm.ClassFile.FieldType.int)).before args0 about1 = true := code_word (m := ⟨4, 4⟩) (meth := k4m4) (c := k4c4) (by decide +kernel) rfl rfl rfl (by decide +kernel)
set_option maxRecDepth 65536 in
theorem w_c19 : (Jvm.Cond.code ({ cls := "com/example/hornconv/hornconv/FactTable$PositionIndex", name := "mix", desc := "(I)I" } : Jvm.MethodName) prog_4_method_8_code (2 : Nat) (Option.some Jvm.ClassFile.FieldType.int)).before args0 about1 = true := code_word (m := ⟨4, 5⟩) (meth := k4m5) (c := k4c5) (by decide +kernel) rfl rfl rfl (by decide +kernel)
set_option maxRecDepth 65536 in
theorem w_c20 : (Jvm.Cond.code ({ cls := "com/example/hornconv/hornconv/FactTable$PositionIndex", name := "first", desc := "(I)I" } : Jvm.MethodName) prog_4_method_4_code (3 : Nat) (Option.some Jvm.ClassFile.FieldType.int)).before args0 about1 = true := code_word (m := ⟨4, 3⟩) (meth := k4m3) (c := k4c3) (by decide +kernel) rfl rfl rfl (by decide +kernel)
set_option maxRecDepth 65536 in
theorem w_c21 : (Jvm.Cond.code ({ cls := "com/example/hornconv/hornconv/FactTable", name := "next", desc := "(II)I" } : Jvm.MethodName) prog_3_method_10_code (3 : Nat) (Option.some Jvm.ClassFile.FieldType.int)).before args0 about1 = true := code_word (m := ⟨2, 5⟩) (meth := k2m5) (c := k2c5) (by decide +kernel) rfl rfl rfl (by decide +kernel)
set_option maxRecDepth 65536 in
theorem w_c22 : (Jvm.Cond.code ({ cls := "com/example/hornconv/hornconv/FactTableNextPinLaw", name := "expect", desc := "([II)I" } : Jvm.MethodName) method_4_code (3 : Nat) (Option.some Jvm.ClassFile.FieldType.int)).before args0 about1 = true := code_word (m := ⟨1, 3⟩) (meth := k1m3) (c := k1c3) (by decide +kernel) rfl rfl rfl (by decide +kernel)
set_option maxRecDepth 65536 in
theorem w_c23 : (Jvm.Cond.code ({ cls := "com/example/hornconv/hornconv/FactTable", name := "isMember", desc := "(I)Z" } : Jvm.MethodName) prog_3_method_14_code (3 : Nat) (Option.some Jvm.ClassFile.FieldType.boolean)).before args0 about1 = true := code_word (m := ⟨2, 8⟩) (meth := k2m8) (c := k2c8) (by decide +kernel) rfl rfl rfl (by decide +kernel)
set_option maxRecDepth 65536 in
theorem w_c24 : (Jvm.Cond.code ({ cls := "com/example/hornconv/hornconv/FactTable", name := "setMember", desc := "(IZ)V" } : Jvm.MethodName) prog_3_method_15_code (4 : Nat) (Option.none : Option Jvm.ClassFile.FieldType)).before args0 about1 = true := code_word (m := ⟨2, 9⟩) (meth := k2m9) (c := k2c9) (by decide +kernel) rfl rfl rfl (by decide +kernel)
set_option maxRecDepth 65536 in
theorem w_c25 : (Jvm.Cond.code ({ cls := "java/lang/Math", name := "max", desc := "(II)I" } : Jvm.MethodName) jdk_29_method_65_code (2 : Nat) (Option.some Jvm.ClassFile.FieldType.int)).before args0 about1 = true := code_word (m := ⟨6, 1⟩) (meth := k6m1) (c := k6c1) (by decide +kernel) rfl rfl rfl (by decide +kernel)
set_option maxRecDepth 65536 in
theorem w_c26 : (Jvm.Cond.code ({ cls := "java/util/Arrays", name := "copyOf", desc := "([JI)[J" } : Jvm.MethodName) jdk_65_method_124_code (3 : Nat) (Option.some (Jvm.ClassFile.FieldType.array Jvm.ClassFile.FieldType.long))).before args0 about1 = true := code_word (m := ⟨3, 3⟩) (meth := k3m3) (c := k3c3) (by decide +kernel) rfl rfl rfl (by decide +kernel)
set_option maxRecDepth 65536 in
theorem w_c27 : (Jvm.Cond.code ({ cls := "com/example/hornconv/hornconv/FactTable", name := "single", desc := "(I)I" } : Jvm.MethodName) prog_3_method_13_code (2 : Nat) (Option.some Jvm.ClassFile.FieldType.int)).before args0 about1 = true := code_word (m := ⟨2, 7⟩) (meth := k2m7) (c := k2c7) (by decide +kernel) rfl rfl rfl (by decide +kernel)
set_option maxRecDepth 65536 in
theorem w_c28 : (Jvm.Cond.code ({ cls := "com/example/hornconv/hornconv/FactTable", name := "remove", desc := "(I)V" } : Jvm.MethodName) prog_3_method_8_code (5 : Nat) (Option.none : Option Jvm.ClassFile.FieldType)).before args0 about1 = true := code_word (m := ⟨2, 3⟩) (meth := k2m3) (c := k2c3) (by decide +kernel) rfl rfl rfl (by decide +kernel)
set_option maxRecDepth 65536 in
theorem w_c29 : (Jvm.Cond.code ({ cls := "com/example/hornconv/hornconv/FactTable$PositionIndex", name := "remove", desc := "(I)V" } : Jvm.MethodName) prog_4_method_3_code (2 : Nat) (Option.none : Option Jvm.ClassFile.FieldType)).before args0 about1 = true := code_word (m := ⟨4, 2⟩) (meth := k4m2) (c := k4c2) (by decide +kernel) rfl rfl rfl (by decide +kernel)
def codes1 : List Jvm.Cond := [Jvm.Cond.code x code maxLocals ret, Jvm.Cond.code ({ cls := "com/example/hornconv/hornconv/FactTableNextPinLaw", name := "row", desc := "(III)[I" } : Jvm.MethodName) method_3_code (4 : Nat) (Option.some (Jvm.ClassFile.FieldType.array Jvm.ClassFile.FieldType.int)), Jvm.Cond.code ({ cls := "com/example/hornconv/hornconv/FactTable", name := "<init>", desc := "(I)V" } : Jvm.MethodName) prog_3_method_1_code (2 : Nat) (Option.none : Option Jvm.ClassFile.FieldType), Jvm.Cond.code ({ cls := "java/lang/Object", name := "<init>", desc := "()V" } : Jvm.MethodName) object_method_1_code (1 : Nat) (Option.none : Option Jvm.ClassFile.FieldType), Jvm.Cond.code ({ cls := "java/util/Arrays", name := "fill", desc := "([II)V" } : Jvm.MethodName) jdk_65_method_103_code (4 : Nat) (Option.none : Option Jvm.ClassFile.FieldType), Jvm.Cond.code ({ cls := "com/example/hornconv/hornconv/FactTable", name := "add", desc := "([I)I" } : Jvm.MethodName) prog_3_method_7_code (6 : Nat) (Option.some Jvm.ClassFile.FieldType.int), Jvm.Cond.code ({ cls := "com/example/hornconv/hornconv/FactTable", name := "hash", desc := "([II)I" } : Jvm.MethodName) prog_3_method_18_code (5 : Nat) (Option.some Jvm.ClassFile.FieldType.int), Jvm.Cond.code ({ cls := "com/example/hornconv/hornconv/FactTable", name := "find", desc := "([II)I" } : Jvm.MethodName) prog_3_method_16_code (7 : Nat) (Option.some Jvm.ClassFile.FieldType.int), Jvm.Cond.code ({ cls := "com/example/hornconv/hornconv/FactTable", name := "equalsRow", desc := "(I[I)Z" } : Jvm.MethodName) prog_3_method_17_code (5 : Nat) (Option.some Jvm.ClassFile.FieldType.boolean), Jvm.Cond.code ({ cls := "java/util/Arrays", name := "copyOf", desc := "([ZI)[Z" } : Jvm.MethodName) jdk_65_method_128_code (3 : Nat) (Option.some (Jvm.ClassFile.FieldType.array Jvm.ClassFile.FieldType.boolean)), Jvm.Cond.code ({ cls := "java/lang/Math", name := "min", desc := "(II)I" } : Jvm.MethodName) jdk_29_method_69_code (2 : Nat) (Option.some Jvm.ClassFile.FieldType.int), Jvm.Cond.code ({ cls := "java/util/Arrays", name := "copyOf", desc := "([II)[I" } : Jvm.MethodName) jdk_65_method_123_code (3 : Nat) (Option.some (Jvm.ClassFile.FieldType.array Jvm.ClassFile.FieldType.int)), Jvm.Cond.code ({ cls := "com/example/hornconv/hornconv/FactTable", name := "resize", desc := "()V" } : Jvm.MethodName) prog_3_method_19_code (5 : Nat) (Option.none : Option Jvm.ClassFile.FieldType), Jvm.Cond.code ({ cls := "com/example/hornconv/hornconv/FactTable", name := "first", desc := "(II)I" } : Jvm.MethodName) prog_3_method_9_code (3 : Nat) (Option.some Jvm.ClassFile.FieldType.int), Jvm.Cond.code ({ cls := "com/example/hornconv/hornconv/FactTable", name := "index", desc := "(I)Lcom/example/hornconv/hornconv/FactTable$PositionIndex;" } : Jvm.MethodName) prog_3_method_12_code (4 : Nat) (Option.some (Jvm.ClassFile.FieldType.object "com/example/hornconv/hornconv/FactTable$PositionIndex")), Jvm.Cond.code ({ cls := "com/example/hornconv/hornconv/FactTable$PositionIndex", name := "<init>", desc := "()V" } : Jvm.MethodName) prog_4_method_1_code (1 : Nat) (Option.none : Option Jvm.ClassFile.FieldType), Jvm.Cond.code ({ cls := "com/example/hornconv/hornconv/FactTable", name := "argument", desc := "(II)I" } : Jvm.MethodName) prog_3_method_6_code (3 : Nat) (Option.some Jvm.ClassFile.FieldType.int), Jvm.Cond.code ({ cls := "com/example/hornconv/hornconv/FactTable$PositionIndex", name := "add", desc := "(II)V" } : Jvm.MethodName) prog_4_method_2_code (4 : Nat) (Option.none : Option Jvm.ClassFile.FieldType), Jvm.Cond.code ({ cls := "com/example/hornconv/hornconv/FactTable$PositionIndex", name := "slot", desc := "(I)I" } : Jvm.MethodName) prog_4_method_6_code (4 : Nat) (Option.some Jvm.ClassFile.FieldType.int), Jvm.Cond.code ({ cls := "com/example/hornconv/hornconv/FactTable$PositionIndex", name := "mix", desc := "(I)I" } : Jvm.MethodName) prog_4_method_8_code (2 : Nat) (Option.some Jvm.ClassFile.FieldType.int), Jvm.Cond.code ({ cls := "com/example/hornconv/hornconv/FactTable$PositionIndex", name := "first", desc := "(I)I" } : Jvm.MethodName) prog_4_method_4_code (3 : Nat) (Option.some Jvm.ClassFile.FieldType.int), Jvm.Cond.code ({ cls := "com/example/hornconv/hornconv/FactTable", name := "next", desc := "(II)I" } : Jvm.MethodName) prog_3_method_10_code (3 : Nat) (Option.some Jvm.ClassFile.FieldType.int), Jvm.Cond.code ({ cls := "com/example/hornconv/hornconv/FactTableNextPinLaw", name := "expect", desc := "([II)I" } : Jvm.MethodName) method_4_code (3 : Nat) (Option.some Jvm.ClassFile.FieldType.int), Jvm.Cond.code ({ cls := "com/example/hornconv/hornconv/FactTable", name := "isMember", desc := "(I)Z" } : Jvm.MethodName) prog_3_method_14_code (3 : Nat) (Option.some Jvm.ClassFile.FieldType.boolean), Jvm.Cond.code ({ cls := "com/example/hornconv/hornconv/FactTable", name := "setMember", desc := "(IZ)V" } : Jvm.MethodName) prog_3_method_15_code (4 : Nat) (Option.none : Option Jvm.ClassFile.FieldType), Jvm.Cond.code ({ cls := "java/lang/Math", name := "max", desc := "(II)I" } : Jvm.MethodName) jdk_29_method_65_code (2 : Nat) (Option.some Jvm.ClassFile.FieldType.int), Jvm.Cond.code ({ cls := "java/util/Arrays", name := "copyOf", desc := "([JI)[J" } : Jvm.MethodName) jdk_65_method_124_code (3 : Nat) (Option.some (Jvm.ClassFile.FieldType.array Jvm.ClassFile.FieldType.long)), Jvm.Cond.code ({ cls := "com/example/hornconv/hornconv/FactTable", name := "single", desc := "(I)I" } : Jvm.MethodName) prog_3_method_13_code (2 : Nat) (Option.some Jvm.ClassFile.FieldType.int), Jvm.Cond.code ({ cls := "com/example/hornconv/hornconv/FactTable", name := "remove", desc := "(I)V" } : Jvm.MethodName) prog_3_method_8_code (5 : Nat) (Option.none : Option Jvm.ClassFile.FieldType), Jvm.Cond.code ({ cls := "com/example/hornconv/hornconv/FactTable$PositionIndex", name := "remove", desc := "(I)V" } : Jvm.MethodName) prog_4_method_3_code (2 : Nat) (Option.none : Option Jvm.ClassFile.FieldType)]
set_option maxRecDepth 65536 in
theorem codes_eq : words1.filter isCode = codes1 := rfl
theorem w_codes : ∀ c ∈ words1.filter isCode, c.before args0 about1 = true := by
  rw [codes_eq]
  intro c hc
  simp only [codes1, List.mem_cons, List.not_mem_nil, or_false] at hc
  rcases hc with rfl | rfl | rfl | rfl | rfl | rfl | rfl | rfl | rfl | rfl | rfl | rfl | rfl | rfl | rfl | rfl | rfl | rfl | rfl | rfl | rfl | rfl | rfl | rfl | rfl | rfl | rfl | rfl | rfl | rfl
  · exact w_c0
  · exact w_c1
  · exact w_c2
  · exact w_c3
  · exact w_c4
  · exact w_c5
  · exact w_c6
  · exact w_c7
  · exact w_c8
  · exact w_c9
  · exact w_c10
  · exact w_c11
  · exact w_c12
  · exact w_c13
  · exact w_c14
  · exact w_c15
  · exact w_c16
  · exact w_c17
  · exact w_c18
  · exact w_c19
  · exact w_c20
  · exact w_c21
  · exact w_c22
  · exact w_c23
  · exact w_c24
  · exact w_c25
  · exact w_c26
  · exact w_c27
  · exact w_c28
  · exact w_c29
set_option maxRecDepth 65536 in
theorem w_t1 : (words1.take 24).all (fun c => isCode c || c.before args0 about1) = true := by decide +kernel
set_option maxRecDepth 65536 in
theorem w_t2 : ((words1.drop 24).take 24).all (fun c => isCode c || c.before args0 about1) = true := by decide +kernel
set_option maxRecDepth 65536 in
theorem w_t3 : (((words1.drop 24).drop 24).take 24).all (fun c => isCode c || c.before args0 about1) = true := by decide +kernel
set_option maxRecDepth 65536 in
theorem w_t4 : ((((words1.drop 24).drop 24).drop 24).take 24).all (fun c => isCode c || c.before args0 about1) = true := by decide +kernel
set_option maxRecDepth 65536 in
theorem w_t5 : (((((words1.drop 24).drop 24).drop 24).drop 24).take 24).all (fun c => isCode c || c.before args0 about1) = true := by decide +kernel
set_option maxRecDepth 65536 in
theorem w_t6 : ((((((words1.drop 24).drop 24).drop 24).drop 24).drop 24).take 24).all (fun c => isCode c || c.before args0 about1) = true := by decide +kernel
set_option maxRecDepth 65536 in
theorem w_t7 : (((((((words1.drop 24).drop 24).drop 24).drop 24).drop 24).drop 24).take 24).all (fun c => isCode c || c.before args0 about1) = true := by decide +kernel
set_option maxRecDepth 65536 in
theorem w_t8 : (((((((words1.drop 24).drop 24).drop 24).drop 24).drop 24).drop 24).drop 24).all (fun c => isCode c || c.before args0 about1) = true := by decide +kernel
theorem w_tables : (allAtoms (Jvm.Cond.code x code maxLocals ret :: tables_1)).before args0 about1 = true := by
  rw [allAtoms_all]
  show words1.all (fun c => c.before args0 about1) = true
  refine all_split ?_ w_codes
  rw [← List.take_append_drop 24 words1, List.all_append, w_t1, ← List.take_append_drop 24 (words1.drop 24), List.all_append, w_t2, ← List.take_append_drop 24 ((words1.drop 24).drop 24), List.all_append, w_t3, ← List.take_append_drop 24 (((words1.drop 24).drop 24).drop 24), List.all_append, w_t4, ← List.take_append_drop 24 ((((words1.drop 24).drop 24).drop 24).drop 24), List.all_append, w_t5, ← List.take_append_drop 24 (((((words1.drop 24).drop 24).drop 24).drop 24).drop 24), List.all_append, w_t6, ← List.take_append_drop 24 ((((((words1.drop 24).drop 24).drop 24).drop 24).drop 24).drop 24), List.all_append, w_t7, w_t8]
  rfl
set_option maxRecDepth 65536 in
theorem w_case : (Jvm.Cond.and given_1 narrow_1).before args0 about1 = true := by decide +kernel
theorem w_applies : (headSpec (Jvm.Cond.code x code maxLocals ret :: tables_1) room_1).applies x e0.platform about1 = true :=
  (Spec.applies_iff w_frames).mpr ⟨w_running, w_runnable, w_alone, w_named, w_hears, w_ripe, w_room, w_tables⟩
theorem atStart : AtStart classFile x code maxLocals ret World_1 tables_1 room_1 Calls_1 rest_1 Pre_1 launch0 p0 e0 about1 theMethod args0 below0 :=
  ⟨lists_1, trivial, launch0.admits_env _ _ _, launch0.least_env, fairChoices_fair.cas, fairChoices_fair.clock, w_frames, w_args, w_heap, w_applies, trivial, trivial, w_case⟩
end start1
theorem witness_1 : WitnessClaimed_1 := ⟨start1.p0, start1.e0, start1.about1, start1.theMethod, start1.args0, start1.below0, start1.atStart⟩
end Jvm.Pilot.@@N@@
