import JvmDerived
import JvmDerived.Pilot.@@N@@Statement
import JvmDerived.Pilot.@@N@@Code
set_option linter.unusedVariables false
set_option linter.unusedSimpArgs false
namespace Jvm.OwnKit
open Sem ClassFile Op Lib Jvm.Stand Jvm.Free Jvm.LawKit Jvm.RoadKit Bundle
/-- the run's own things: program, environment, start state, method, arguments, frames below, its record, its code -/
abbrev Cx := Program × Env × State × MethodId × Array Value × List Frame × Method × Code
def Ok (K : Cx) (Z : State) (n0 : Nat) (own : String) (code : ByteArray) (maxL : Nat) (ret : Option FieldType) (nm : String) : Prop :=
  match K with
  | (p, _, s, m, _, _, meth, c) => p.tables.exec = Jvm.exec ∧ Z.Warmed39 s.vm ∧ s.vm.findClass own = some m.cls ∧ c.code = code ∧ c.maxLocals = maxL ∧ meth.sig.returnType = ret ∧ meth.name = nm ∧ meth.locks = false ∧ Old Z n0 s.heap
/-- from heap h, with k cells and n slots made, at pc with locals L and stack S, the run comes to a return that P likes -/
def W (K : Cx) (l : Launch) (R : Room) (n0 : Nat) (P : Option Value → Heap → Prop) (h : Heap) (k n pc : Nat) (L : Array Slot) (S : List Value) : Prop :=
  match K with
  | (p, e, s, m, args, below, meth, c) => ∀ T locs, Stand p l e R s m args below meth c T locs k n → T.heap = h → Fr n0 locs →
    ∃ s₂ o, Steps p.tables e below (T.setTop (mkF m pc L S)) s₂ ∧ s₂.status = .running ∧ Ended s₂ below o ∧ ∃ v L', o = .returned v ∧ (P v s₂.heap ∧ Fr n0 L') ∧ FrameEnd s o s₂ L' R.cells R.slots
/-- a method's contract: called with as' at heap h it returns what Q likes -/
abbrev Met (l : Launch) (Z : State) (n0 : Nat) (y : MethodName) (bytes : ByteArray) (mL : Nat) (rt : Option FieldType) (ws : List Cond) (rm : Room) (as' : Array Value) (h : Heap) (Q : Option Value → Heap → Prop) : Prop :=
  MetFree l y (head1 (Cond.code y bytes mL rt :: ws) rm) (fun a U => a = as' ∧ Z.Warmed39 U.vm ∧ U.heap = h) (fun _ _ _ _ _ => True) (fun _ U o U' => ∃ v L, o = .returned v ∧ (Q v U'.heap ∧ Fr n0 L) ∧ FrameEnd U o U' L rm.cells rm.slots)
theorem old_now {p : Program} {l : Launch} {e : Env} {R : Room} {s : State} {m : MethodId} {args : Array Value} {below : List Frame} {meth : Method} {c : Code} {T : State} {locs : List Loc} {k n : Nat} {Z : State} {n0 : Nat} (O : Old Z n0 s.heap) (X : Stand p l e R s m args below meth c T locs k n) (N : Fr n0 locs) : Old Z n0 T.heap := by
  refine ⟨O.1, Nat.le_trans O.2.1 X.same.2.1, fun a c hc => ?_⟩
  have h1 := O.2.2 a c hc
  have ha : a < n0 := O.1 ▸ (Array.getElem?_eq_some_iff.mp hc).1
  obtain ⟨c', q1, q2, q3, q4⟩ := X.same.2.2.2.2.2 a c h1
  have q5 : c'.slots = c.slots := Array.ext_getElem? fun i => q4 i fun hm => Nat.lt_irrefl _ (Nat.lt_of_lt_of_le ha (N _ hm))
  rw [q5] at q2
  have q6 : T.heap[a]? = some c' := q1
  rw [q6, q2]
theorem old_ge {p : Program} {l : Launch} {e : Env} {R : Room} {s : State} {m : MethodId} {args : Array Value} {below : List Frame} {meth : Method} {c : Code} {T : State} {locs : List Loc} {k n : Nat} {Z : State} {n0 : Nat} (O : Old Z n0 s.heap) (X : Stand p l e R s m args below meth c T locs k n) (N : Fr n0 locs) : n0 ≤ T.heap.size := by
  have q := old_now O X N
  rw [← q.1]; exact q.2.1
theorem met_of {l : Launch} {Z : State} {n0 : Nat} {y : MethodName} {bytes : ByteArray} {mL : Nat} {rt : Option FieldType} {ws : List Cond} {rm : Room} {as' : Array Value} {h : Heap} {Q : Option Value → Heap → Prop} (Z0 : Old Z n0 h) (pn : plainFor y = true) {Ls : Array Slot} (ef : ∀ m, entryFrame m as' mL = mkF m 0 Ls [])
    (H : ∀ K, Ok K Z n0 y.cls bytes mL rt y.name → W K l rm n0 Q h 0 0 0 Ls []) : Met l Z n0 y bytes mL rt ws rm as' h Q := by
  refine MetFree.of_bodySF pn hisR ?_
  intro p e s m args below meth c s₁ Bd hml0 hP hK
  obtain ⟨rfl, hZ, hh⟩ := hP
  have hnm := (name_of_methodNamed Bd.named Bd.method).1
  have X0 : Stand p l e rm s m args below meth c s₁ [] 0 0 := Stand.of_body Bd
  have e0 : s₁.heap = h := by rw [← hh, Bd.state]; rfl
  obtain ⟨s₂, o, st, r⟩ := H (p, e, s, m, args, below, meth, c) ⟨Bd.exec, hZ, findClass_of_methodNamed Bd.named, Bd.bytes, hml0, Bd.returns, hnm, Bd.notSynchronized, by show Old Z n0 s.heap; rw [hh]; exact Z0⟩ s₁ [] X0 e0 (Fr.nil n0)
  exact ⟨s₂, o, castTop (ef m) st, r⟩
section S
variable {K : Cx} {l : Launch} {R : Room} {Z : State} {n0 : Nat} {P : Option Value → Heap → Prop} {h : Heap} {k n pc : Nat} {L : Array Slot} {S : List Value} {own : String} {code : ByteArray} {maxL : Nat} {ret : Option FieldType} {nm : String} {a0 : Array Value}
theorem W.mono {P' : Option Value → Heap → Prop} (q : ∀ v h, P v h → P' v h) (w : W K l R n0 P h k n pc L S) : W K l R n0 P' h k n pc L S := by
  obtain ⟨p, e, s, m, args, below, meth, c⟩ := K
  intro T locs X eT N
  obtain ⟨s₂, o, st, r1, r2, v, L', r3, ⟨r4, r5⟩, r6⟩ := w T locs X eT N
  exact ⟨s₂, o, st, r1, r2, v, L', r3, ⟨q _ _ r4, r5⟩, r6⟩
theorem W.more {k' n' : Nat} (w : W K l R n0 P h k' n' pc L S) (hk : k ≤ k') (hn : n ≤ n') : W K l R n0 P h k n pc L S := by
  obtain ⟨p, e, s, m, args, below, meth, c⟩ := K
  intro T locs X eT N
  exact w T locs (X.more hk hn) eT N
theorem w_iloadN (ok : Ok K Z n0 own code maxL ret nm) {i : Fin 4} {v : Int32} (hd : decode code pc = .ok (.iload_n i, 1)) (hl : L[i.val]? = some (.val (.int v))) (w : W K l R n0 P h k n (pc + 1) L (.int v :: S)) : W K l R n0 P h k n pc L (S) := by
  obtain ⟨p, e, s, m, args, below, meth, c⟩ := K
  obtain ⟨hx, hZ, hown, hby, -⟩ := ok
  intro T locs X eT N
  obtain ⟨s₂, o, st, r⟩ := w T locs X eT N
  exact ⟨s₂, o, XS.iloadN X.here hx rfl (hb hby hd) hl st, r⟩
theorem w_iload (ok : Ok K Z n0 own code maxL ret nm) {i : Nat} {v : Int32} (hd : decode code pc = .ok (.iload i, 2)) (hl : L[i]? = some (.val (.int v))) (w : W K l R n0 P h k n (pc + 2) L (.int v :: S)) : W K l R n0 P h k n pc L (S) := by
  obtain ⟨p, e, s, m, args, below, meth, c⟩ := K
  obtain ⟨hx, hZ, hown, hby, -⟩ := ok
  intro T locs X eT N
  obtain ⟨s₂, o, st, r⟩ := w T locs X eT N
  exact ⟨s₂, o, XS.iload X.here hx rfl (hb hby hd) hl st, r⟩
theorem w_istoreN (ok : Ok K Z n0 own code maxL ret nm) {i : Fin 4} {v : Int32} {L' : Array Slot} (hd : decode code pc = .ok (.istore_n i, 1)) (hl : storeLocals L i.val (.int v) = some L') (w : W K l R n0 P h k n (pc + 1) L' (S)) : W K l R n0 P h k n pc L (.int v :: S) := by
  obtain ⟨p, e, s, m, args, below, meth, c⟩ := K
  obtain ⟨hx, hZ, hown, hby, -⟩ := ok
  intro T locs X eT N
  obtain ⟨s₂, o, st, r⟩ := w T locs X eT N
  exact ⟨s₂, o, XS.istoreN X.here hx rfl (hb hby hd) rfl hl st, r⟩
theorem w_istore (ok : Ok K Z n0 own code maxL ret nm) {i : Nat} {v : Int32} {L' : Array Slot} (hd : decode code pc = .ok (.istore i, 2)) (hl : storeLocals L i (.int v) = some L') (w : W K l R n0 P h k n (pc + 2) L' (S)) : W K l R n0 P h k n pc L (.int v :: S) := by
  obtain ⟨p, e, s, m, args, below, meth, c⟩ := K
  obtain ⟨hx, hZ, hown, hby, -⟩ := ok
  intro T locs X eT N
  obtain ⟨s₂, o, st, r⟩ := w T locs X eT N
  exact ⟨s₂, o, XS.istore X.here hx rfl (hb hby hd) rfl hl st, r⟩
theorem w_lloadN (ok : Ok K Z n0 own code maxL ret nm) {i : Fin 4} {v : Int64} (hd : decode code pc = .ok (.lload_n i, 1)) (hl : L[i.val]? = some (.val (.long v))) (w : W K l R n0 P h k n (pc + 1) L (.long v :: S)) : W K l R n0 P h k n pc L (S) := by
  obtain ⟨p, e, s, m, args, below, meth, c⟩ := K
  obtain ⟨hx, hZ, hown, hby, -⟩ := ok
  intro T locs X eT N
  obtain ⟨s₂, o, st, r⟩ := w T locs X eT N
  exact ⟨s₂, o, XS.lloadN X.here hx rfl (hb hby hd) hl st, r⟩
theorem w_lload (ok : Ok K Z n0 own code maxL ret nm) {i : Nat} {v : Int64} (hd : decode code pc = .ok (.lload i, 2)) (hl : L[i]? = some (.val (.long v))) (w : W K l R n0 P h k n (pc + 2) L (.long v :: S)) : W K l R n0 P h k n pc L (S) := by
  obtain ⟨p, e, s, m, args, below, meth, c⟩ := K
  obtain ⟨hx, hZ, hown, hby, -⟩ := ok
  intro T locs X eT N
  obtain ⟨s₂, o, st, r⟩ := w T locs X eT N
  exact ⟨s₂, o, XS.lload X.here hx rfl (hb hby hd) hl st, r⟩
theorem w_lstoreN (ok : Ok K Z n0 own code maxL ret nm) {i : Fin 4} {v : Int64} {L' : Array Slot} (hd : decode code pc = .ok (.lstore_n i, 1)) (hl : storeLocals L i.val (.long v) = some L') (w : W K l R n0 P h k n (pc + 1) L' (S)) : W K l R n0 P h k n pc L (.long v :: S) := by
  obtain ⟨p, e, s, m, args, below, meth, c⟩ := K
  obtain ⟨hx, hZ, hown, hby, -⟩ := ok
  intro T locs X eT N
  obtain ⟨s₂, o, st, r⟩ := w T locs X eT N
  exact ⟨s₂, o, XS.lstoreN X.here hx rfl (hb hby hd) rfl hl st, r⟩
theorem w_lstore (ok : Ok K Z n0 own code maxL ret nm) {i : Nat} {v : Int64} {L' : Array Slot} (hd : decode code pc = .ok (.lstore i, 2)) (hl : storeLocals L i (.long v) = some L') (w : W K l R n0 P h k n (pc + 2) L' (S)) : W K l R n0 P h k n pc L (.long v :: S) := by
  obtain ⟨p, e, s, m, args, below, meth, c⟩ := K
  obtain ⟨hx, hZ, hown, hby, -⟩ := ok
  intro T locs X eT N
  obtain ⟨s₂, o, st, r⟩ := w T locs X eT N
  exact ⟨s₂, o, XS.lstore X.here hx rfl (hb hby hd) rfl hl st, r⟩
theorem w_aloadN (ok : Ok K Z n0 own code maxL ret nm) {i : Fin 4} {v : Value} (hd : decode code pc = .ok (.aload_n i, 1)) (hl : L[i.val]? = some (.val v)) (hv : v.isRef = true) (w : W K l R n0 P h k n (pc + 1) L (v :: S)) : W K l R n0 P h k n pc L (S) := by
  obtain ⟨p, e, s, m, args, below, meth, c⟩ := K
  obtain ⟨hx, hZ, hown, hby, -⟩ := ok
  intro T locs X eT N
  obtain ⟨s₂, o, st, r⟩ := w T locs X eT N
  exact ⟨s₂, o, XS.aloadN X.here hx rfl (hb hby hd) hl hv st, r⟩
theorem w_aload (ok : Ok K Z n0 own code maxL ret nm) {i : Nat} {v : Value} (hd : decode code pc = .ok (.aload i, 2)) (hl : L[i]? = some (.val v)) (hv : v.isRef = true) (w : W K l R n0 P h k n (pc + 2) L (v :: S)) : W K l R n0 P h k n pc L (S) := by
  obtain ⟨p, e, s, m, args, below, meth, c⟩ := K
  obtain ⟨hx, hZ, hown, hby, -⟩ := ok
  intro T locs X eT N
  obtain ⟨s₂, o, st, r⟩ := w T locs X eT N
  exact ⟨s₂, o, XS.aload X.here hx rfl (hb hby hd) hl hv st, r⟩
theorem w_astoreN (ok : Ok K Z n0 own code maxL ret nm) {i : Fin 4} {v : Value} {L' : Array Slot} (hd : decode code pc = .ok (.astore_n i, 1)) (hv : v.isRef = true) (hl : storeLocals L i.val v = some L') (w : W K l R n0 P h k n (pc + 1) L' (S)) : W K l R n0 P h k n pc L (v :: S) := by
  obtain ⟨p, e, s, m, args, below, meth, c⟩ := K
  obtain ⟨hx, hZ, hown, hby, -⟩ := ok
  intro T locs X eT N
  obtain ⟨s₂, o, st, r⟩ := w T locs X eT N
  exact ⟨s₂, o, XS.astoreN X.here hx rfl (hb hby hd) rfl hv hl st, r⟩
theorem w_astore (ok : Ok K Z n0 own code maxL ret nm) {i : Nat} {v : Value} {L' : Array Slot} (hd : decode code pc = .ok (.astore i, 2)) (hv : v.isRef = true) (hl : storeLocals L i v = some L') (w : W K l R n0 P h k n (pc + 2) L' (S)) : W K l R n0 P h k n pc L (v :: S) := by
  obtain ⟨p, e, s, m, args, below, meth, c⟩ := K
  obtain ⟨hx, hZ, hown, hby, -⟩ := ok
  intro T locs X eT N
  obtain ⟨s₂, o, st, r⟩ := w T locs X eT N
  exact ⟨s₂, o, XS.astore X.here hx rfl (hb hby hd) rfl hv hl st, r⟩
theorem w_iconst (ok : Ok K Z n0 own code maxL ret nm) {i : Int} {v : Int32} (hd : decode code pc = .ok (.iconst i, 1)) (hv : Int32.ofInt i = v) (w : W K l R n0 P h k n (pc + 1) L (.int v :: S)) : W K l R n0 P h k n pc L (S) := by
  obtain ⟨p, e, s, m, args, below, meth, c⟩ := K
  obtain ⟨hx, hZ, hown, hby, -⟩ := ok
  intro T locs X eT N
  obtain ⟨s₂, o, st, r⟩ := w T locs X eT N
  exact ⟨s₂, o, XS.iconst X.here hx rfl (hb hby hd) (hv ▸ st), r⟩
theorem w_bipush (ok : Ok K Z n0 own code maxL ret nm) {i : Int} {v : Int32} (hd : decode code pc = .ok (.bipush i, 2)) (hv : (Int8.ofInt i).toInt32 = v) (w : W K l R n0 P h k n (pc + 2) L (.int v :: S)) : W K l R n0 P h k n pc L (S) := by
  obtain ⟨p, e, s, m, args, below, meth, c⟩ := K
  obtain ⟨hx, hZ, hown, hby, -⟩ := ok
  intro T locs X eT N
  obtain ⟨s₂, o, st, r⟩ := w T locs X eT N
  exact ⟨s₂, o, XS.bipush X.here hx rfl (hb hby hd) (hv ▸ st), r⟩
theorem w_sipush (ok : Ok K Z n0 own code maxL ret nm) {i : Int} {v : Int32} (hd : decode code pc = .ok (.sipush i, 3)) (hv : (Int16.ofInt i).toInt32 = v) (w : W K l R n0 P h k n (pc + 3) L (.int v :: S)) : W K l R n0 P h k n pc L (S) := by
  obtain ⟨p, e, s, m, args, below, meth, c⟩ := K
  obtain ⟨hx, hZ, hown, hby, -⟩ := ok
  intro T locs X eT N
  obtain ⟨s₂, o, st, r⟩ := w T locs X eT N
  exact ⟨s₂, o, XS.sipush X.here hx rfl (hb hby hd) (hv ▸ st), r⟩
theorem w_lconst (ok : Ok K Z n0 own code maxL ret nm) {i : Fin 2} {v : Int64} (hd : decode code pc = .ok (.lconst i, 1)) (hv : Int64.ofNat i = v) (w : W K l R n0 P h k n (pc + 1) L (.long v :: S)) : W K l R n0 P h k n pc L (S) := by
  obtain ⟨p, e, s, m, args, below, meth, c⟩ := K
  obtain ⟨hx, hZ, hown, hby, -⟩ := ok
  intro T locs X eT N
  obtain ⟨s₂, o, st, r⟩ := w T locs X eT N
  exact ⟨s₂, o, XS.lconst X.here hx rfl (hb hby hd) (hv ▸ st), r⟩
theorem w_aconstNull (ok : Ok K Z n0 own code maxL ret nm)  (hd : decode code pc = .ok (.aconst_null, 1)) (w : W K l R n0 P h k n (pc + 1) L (.null :: S)) : W K l R n0 P h k n pc L (S) := by
  obtain ⟨p, e, s, m, args, below, meth, c⟩ := K
  obtain ⟨hx, hZ, hown, hby, -⟩ := ok
  intro T locs X eT N
  obtain ⟨s₂, o, st, r⟩ := w T locs X eT N
  exact ⟨s₂, o, XS.aconstNull X.here hx rfl (hb hby hd)  st, r⟩
theorem w_dup (ok : Ok K Z n0 own code maxL ret nm) {v : Value} (hd : decode code pc = .ok (.dup, 1)) (hv : v.category = 1) (w : W K l R n0 P h k n (pc + 1) L (v :: v :: S)) : W K l R n0 P h k n pc L (v :: S) := by
  obtain ⟨p, e, s, m, args, below, meth, c⟩ := K
  obtain ⟨hx, hZ, hown, hby, -⟩ := ok
  intro T locs X eT N
  obtain ⟨s₂, o, st, r⟩ := w T locs X eT N
  exact ⟨s₂, o, XS.dup X.here hx rfl (hb hby hd) rfl hv st, r⟩
theorem w_dupX1 (ok : Ok K Z n0 own code maxL ret nm) {v u : Value} (hd : decode code pc = .ok (.dup_x1, 1)) (hv : v.category = 1) (hu : u.category = 1) (w : W K l R n0 P h k n (pc + 1) L (v :: u :: v :: S)) : W K l R n0 P h k n pc L (v :: u :: S) := by
  obtain ⟨p, e, s, m, args, below, meth, c⟩ := K
  obtain ⟨hx, hZ, hown, hby, -⟩ := ok
  intro T locs X eT N
  obtain ⟨s₂, o, st, r⟩ := w T locs X eT N
  exact ⟨s₂, o, XS.dupX1 X.here hx rfl (hb hby hd) rfl hv hu st, r⟩
theorem w_pop (ok : Ok K Z n0 own code maxL ret nm) {v : Value} (hd : decode code pc = .ok (.pop, 1)) (hv : v.category = 1) (w : W K l R n0 P h k n (pc + 1) L (S)) : W K l R n0 P h k n pc L (v :: S) := by
  obtain ⟨p, e, s, m, args, below, meth, c⟩ := K
  obtain ⟨hx, hZ, hown, hby, -⟩ := ok
  intro T locs X eT N
  obtain ⟨s₂, o, st, r⟩ := w T locs X eT N
  exact ⟨s₂, o, XS.pop X.here hx rfl (hb hby hd) rfl hv st, r⟩
theorem w_dup2 (ok : Ok K Z n0 own code maxL ret nm) {v u : Value} (hd : decode code pc = .ok (.dup2, 1)) (hv : v.category = 1) (hu : u.category = 1) (w : W K l R n0 P h k n (pc + 1) L (v :: u :: v :: u :: S)) : W K l R n0 P h k n pc L (v :: u :: S) := by
  obtain ⟨p, e, s, m, args, below, meth, c⟩ := K
  obtain ⟨hx, hZ, hown, hby, -⟩ := ok
  intro T locs X eT N
  obtain ⟨s₂, o, st, r⟩ := w T locs X eT N
  exact ⟨s₂, o, XT.dup2 X.here hx rfl (hb hby hd) rfl hv hu st, r⟩
theorem w_iinc (ok : Ok K Z n0 own code maxL ret nm) {i : Nat} {c : Int} {v u : Int32} {L' : Array Slot} (hd : decode code pc = .ok (.iinc i c, 3)) (hu : Int32.ofInt c = u) (hl : L[i]? = some (.val (.int v))) (hl' : storeLocals L i (.int (v + u)) = some L') (w : W K l R n0 P h k n (pc + 3) L' (S)) : W K l R n0 P h k n pc L (S) := by
  obtain ⟨p, e, s, m, args, below, meth, c⟩ := K
  obtain ⟨hx, hZ, hown, hby, -⟩ := ok
  intro T locs X eT N
  obtain ⟨s₂, o, st, r⟩ := w T locs X eT N
  exact ⟨s₂, o, XS.iinc X.here hx rfl (hb hby hd) hl (by rw [hu]; exact hl') st, r⟩
theorem w_iadd (ok : Ok K Z n0 own code maxL ret nm) {x y : Int32} (hd : decode code pc = .ok (.iadd, 1)) (w : W K l R n0 P h k n (pc + 1) L (.int (x + y) :: S)) : W K l R n0 P h k n pc L (.int y :: .int x :: S) := by
  obtain ⟨p, e, s, m, args, below, meth, c⟩ := K
  obtain ⟨hx, hZ, hown, hby, -⟩ := ok
  intro T locs X eT N
  obtain ⟨s₂, o, st, r⟩ := w T locs X eT N
  exact ⟨s₂, o, XS.iadd X.here hx rfl (hb hby hd) rfl st, r⟩
theorem w_isub (ok : Ok K Z n0 own code maxL ret nm) {x y : Int32} (hd : decode code pc = .ok (.isub, 1)) (w : W K l R n0 P h k n (pc + 1) L (.int (x - y) :: S)) : W K l R n0 P h k n pc L (.int y :: .int x :: S) := by
  obtain ⟨p, e, s, m, args, below, meth, c⟩ := K
  obtain ⟨hx, hZ, hown, hby, -⟩ := ok
  intro T locs X eT N
  obtain ⟨s₂, o, st, r⟩ := w T locs X eT N
  exact ⟨s₂, o, XS.isub X.here hx rfl (hb hby hd) rfl st, r⟩
theorem w_imul (ok : Ok K Z n0 own code maxL ret nm) {x y : Int32} (hd : decode code pc = .ok (.imul, 1)) (w : W K l R n0 P h k n (pc + 1) L (.int (x * y) :: S)) : W K l R n0 P h k n pc L (.int y :: .int x :: S) := by
  obtain ⟨p, e, s, m, args, below, meth, c⟩ := K
  obtain ⟨hx, hZ, hown, hby, -⟩ := ok
  intro T locs X eT N
  obtain ⟨s₂, o, st, r⟩ := w T locs X eT N
  exact ⟨s₂, o, XS.imul X.here hx rfl (hb hby hd) rfl st, r⟩
theorem w_iand (ok : Ok K Z n0 own code maxL ret nm) {x y : Int32} (hd : decode code pc = .ok (.iand, 1)) (w : W K l R n0 P h k n (pc + 1) L (.int (x &&& y) :: S)) : W K l R n0 P h k n pc L (.int y :: .int x :: S) := by
  obtain ⟨p, e, s, m, args, below, meth, c⟩ := K
  obtain ⟨hx, hZ, hown, hby, -⟩ := ok
  intro T locs X eT N
  obtain ⟨s₂, o, st, r⟩ := w T locs X eT N
  exact ⟨s₂, o, XS.iand X.here hx rfl (hb hby hd) rfl st, r⟩
theorem w_ior (ok : Ok K Z n0 own code maxL ret nm) {x y : Int32} (hd : decode code pc = .ok (.ior, 1)) (w : W K l R n0 P h k n (pc + 1) L (.int (x ||| y) :: S)) : W K l R n0 P h k n pc L (.int y :: .int x :: S) := by
  obtain ⟨p, e, s, m, args, below, meth, c⟩ := K
  obtain ⟨hx, hZ, hown, hby, -⟩ := ok
  intro T locs X eT N
  obtain ⟨s₂, o, st, r⟩ := w T locs X eT N
  exact ⟨s₂, o, XS.ior X.here hx rfl (hb hby hd) rfl st, r⟩
theorem w_ixor (ok : Ok K Z n0 own code maxL ret nm) {x y : Int32} (hd : decode code pc = .ok (.ixor, 1)) (w : W K l R n0 P h k n (pc + 1) L (.int (x ^^^ y) :: S)) : W K l R n0 P h k n pc L (.int y :: .int x :: S) := by
  obtain ⟨p, e, s, m, args, below, meth, c⟩ := K
  obtain ⟨hx, hZ, hown, hby, -⟩ := ok
  intro T locs X eT N
  obtain ⟨s₂, o, st, r⟩ := w T locs X eT N
  exact ⟨s₂, o, XS.ixor X.here hx rfl (hb hby hd) rfl st, r⟩
theorem w_ishl (ok : Ok K Z n0 own code maxL ret nm) {x y : Int32} (hd : decode code pc = .ok (.ishl, 1)) (w : W K l R n0 P h k n (pc + 1) L (.int (x <<< (y &&& 31)) :: S)) : W K l R n0 P h k n pc L (.int y :: .int x :: S) := by
  obtain ⟨p, e, s, m, args, below, meth, c⟩ := K
  obtain ⟨hx, hZ, hown, hby, -⟩ := ok
  intro T locs X eT N
  obtain ⟨s₂, o, st, r⟩ := w T locs X eT N
  exact ⟨s₂, o, XS.ishl X.here hx rfl (hb hby hd) rfl st, r⟩
theorem w_ishr (ok : Ok K Z n0 own code maxL ret nm) {x y : Int32} (hd : decode code pc = .ok (.ishr, 1)) (w : W K l R n0 P h k n (pc + 1) L (.int (x >>> (y &&& 31)) :: S)) : W K l R n0 P h k n pc L (.int y :: .int x :: S) := by
  obtain ⟨p, e, s, m, args, below, meth, c⟩ := K
  obtain ⟨hx, hZ, hown, hby, -⟩ := ok
  intro T locs X eT N
  obtain ⟨s₂, o, st, r⟩ := w T locs X eT N
  exact ⟨s₂, o, XS.ishr X.here hx rfl (hb hby hd) rfl st, r⟩
theorem w_iushr (ok : Ok K Z n0 own code maxL ret nm) {x y : Int32} (hd : decode code pc = .ok (.iushr, 1)) (w : W K l R n0 P h k n (pc + 1) L (.int (XT.ushr x y) :: S)) : W K l R n0 P h k n pc L (.int y :: .int x :: S) := by
  obtain ⟨p, e, s, m, args, below, meth, c⟩ := K
  obtain ⟨hx, hZ, hown, hby, -⟩ := ok
  intro T locs X eT N
  obtain ⟨s₂, o, st, r⟩ := w T locs X eT N
  exact ⟨s₂, o, XS.iushr X.here hx rfl (hb hby hd) rfl st, r⟩
theorem w_ladd (ok : Ok K Z n0 own code maxL ret nm) {x y : Int64} (hd : decode code pc = .ok (.ladd, 1)) (w : W K l R n0 P h k n (pc + 1) L (.long (x + y) :: S)) : W K l R n0 P h k n pc L (.long y :: .long x :: S) := by
  obtain ⟨p, e, s, m, args, below, meth, c⟩ := K
  obtain ⟨hx, hZ, hown, hby, -⟩ := ok
  intro T locs X eT N
  obtain ⟨s₂, o, st, r⟩ := w T locs X eT N
  exact ⟨s₂, o, XS.ladd X.here hx rfl (hb hby hd) rfl st, r⟩
theorem w_lsub (ok : Ok K Z n0 own code maxL ret nm) {x y : Int64} (hd : decode code pc = .ok (.lsub, 1)) (w : W K l R n0 P h k n (pc + 1) L (.long (x - y) :: S)) : W K l R n0 P h k n pc L (.long y :: .long x :: S) := by
  obtain ⟨p, e, s, m, args, below, meth, c⟩ := K
  obtain ⟨hx, hZ, hown, hby, -⟩ := ok
  intro T locs X eT N
  obtain ⟨s₂, o, st, r⟩ := w T locs X eT N
  exact ⟨s₂, o, XS.lsub X.here hx rfl (hb hby hd) rfl st, r⟩
theorem w_lmul (ok : Ok K Z n0 own code maxL ret nm) {x y : Int64} (hd : decode code pc = .ok (.lmul, 1)) (w : W K l R n0 P h k n (pc + 1) L (.long (x * y) :: S)) : W K l R n0 P h k n pc L (.long y :: .long x :: S) := by
  obtain ⟨p, e, s, m, args, below, meth, c⟩ := K
  obtain ⟨hx, hZ, hown, hby, -⟩ := ok
  intro T locs X eT N
  obtain ⟨s₂, o, st, r⟩ := w T locs X eT N
  exact ⟨s₂, o, XS.lmul X.here hx rfl (hb hby hd) rfl st, r⟩
theorem w_land (ok : Ok K Z n0 own code maxL ret nm) {x y : Int64} (hd : decode code pc = .ok (.land, 1)) (w : W K l R n0 P h k n (pc + 1) L (.long (x &&& y) :: S)) : W K l R n0 P h k n pc L (.long y :: .long x :: S) := by
  obtain ⟨p, e, s, m, args, below, meth, c⟩ := K
  obtain ⟨hx, hZ, hown, hby, -⟩ := ok
  intro T locs X eT N
  obtain ⟨s₂, o, st, r⟩ := w T locs X eT N
  exact ⟨s₂, o, XS.land X.here hx rfl (hb hby hd) rfl st, r⟩
theorem w_lor (ok : Ok K Z n0 own code maxL ret nm) {x y : Int64} (hd : decode code pc = .ok (.lor, 1)) (w : W K l R n0 P h k n (pc + 1) L (.long (x ||| y) :: S)) : W K l R n0 P h k n pc L (.long y :: .long x :: S) := by
  obtain ⟨p, e, s, m, args, below, meth, c⟩ := K
  obtain ⟨hx, hZ, hown, hby, -⟩ := ok
  intro T locs X eT N
  obtain ⟨s₂, o, st, r⟩ := w T locs X eT N
  exact ⟨s₂, o, XS.lor X.here hx rfl (hb hby hd) rfl st, r⟩
theorem w_lxor (ok : Ok K Z n0 own code maxL ret nm) {x y : Int64} (hd : decode code pc = .ok (.lxor, 1)) (w : W K l R n0 P h k n (pc + 1) L (.long (x ^^^ y) :: S)) : W K l R n0 P h k n pc L (.long y :: .long x :: S) := by
  obtain ⟨p, e, s, m, args, below, meth, c⟩ := K
  obtain ⟨hx, hZ, hown, hby, -⟩ := ok
  intro T locs X eT N
  obtain ⟨s₂, o, st, r⟩ := w T locs X eT N
  exact ⟨s₂, o, XS.lxor X.here hx rfl (hb hby hd) rfl st, r⟩
theorem w_lshl (ok : Ok K Z n0 own code maxL ret nm) {x : Int64} {y : Int32} (hd : decode code pc = .ok (.lshl, 1)) (w : W K l R n0 P h k n (pc + 1) L (.long (x <<< (y &&& 0x3f).toInt64) :: S)) : W K l R n0 P h k n pc L (.int y :: .long x :: S) := by
  obtain ⟨p, e, s, m, args, below, meth, c⟩ := K
  obtain ⟨hx, hZ, hown, hby, -⟩ := ok
  intro T locs X eT N
  obtain ⟨s₂, o, st, r⟩ := w T locs X eT N
  exact ⟨s₂, o, XS.lshl X.here hx rfl (hb hby hd) rfl st, r⟩
theorem w_lshr (ok : Ok K Z n0 own code maxL ret nm) {x : Int64} {y : Int32} (hd : decode code pc = .ok (.lshr, 1)) (w : W K l R n0 P h k n (pc + 1) L (.long (x >>> (y &&& 0x3f).toInt64) :: S)) : W K l R n0 P h k n pc L (.int y :: .long x :: S) := by
  obtain ⟨p, e, s, m, args, below, meth, c⟩ := K
  obtain ⟨hx, hZ, hown, hby, -⟩ := ok
  intro T locs X eT N
  obtain ⟨s₂, o, st, r⟩ := w T locs X eT N
  exact ⟨s₂, o, XS.lshr X.here hx rfl (hb hby hd) rfl st, r⟩
theorem w_lushr (ok : Ok K Z n0 own code maxL ret nm) {x : Int64} {y : Int32} (hd : decode code pc = .ok (.lushr, 1)) (w : W K l R n0 P h k n (pc + 1) L (.long ((x.toUInt64 >>> (y &&& 0x3f).toInt64.toUInt64).toInt64) :: S)) : W K l R n0 P h k n pc L (.int y :: .long x :: S) := by
  obtain ⟨p, e, s, m, args, below, meth, c⟩ := K
  obtain ⟨hx, hZ, hown, hby, -⟩ := ok
  intro T locs X eT N
  obtain ⟨s₂, o, st, r⟩ := w T locs X eT N
  exact ⟨s₂, o, XS.lushr X.here hx rfl (hb hby hd) rfl st, r⟩
theorem w_i2l (ok : Ok K Z n0 own code maxL ret nm) {x : Int32} (hd : decode code pc = .ok (.i2l, 1)) (w : W K l R n0 P h k n (pc + 1) L (.long (x.toInt64) :: S)) : W K l R n0 P h k n pc L (.int x :: S) := by
  obtain ⟨p, e, s, m, args, below, meth, c⟩ := K
  obtain ⟨hx, hZ, hown, hby, -⟩ := ok
  intro T locs X eT N
  obtain ⟨s₂, o, st, r⟩ := w T locs X eT N
  exact ⟨s₂, o, XS.i2l X.here hx rfl (hb hby hd) rfl st, r⟩
theorem w_l2i (ok : Ok K Z n0 own code maxL ret nm) {x : Int64} (hd : decode code pc = .ok (.l2i, 1)) (w : W K l R n0 P h k n (pc + 1) L (.int (x.toInt32) :: S)) : W K l R n0 P h k n pc L (.long x :: S) := by
  obtain ⟨p, e, s, m, args, below, meth, c⟩ := K
  obtain ⟨hx, hZ, hown, hby, -⟩ := ok
  intro T locs X eT N
  obtain ⟨s₂, o, st, r⟩ := w T locs X eT N
  exact ⟨s₂, o, XS.l2i X.here hx rfl (hb hby hd) rfl st, r⟩
theorem w_i2b (ok : Ok K Z n0 own code maxL ret nm) {x : Int32} (hd : decode code pc = .ok (.i2b, 1)) (w : W K l R n0 P h k n (pc + 1) L (.int (x.toInt8.toInt32) :: S)) : W K l R n0 P h k n pc L (.int x :: S) := by
  obtain ⟨p, e, s, m, args, below, meth, c⟩ := K
  obtain ⟨hx, hZ, hown, hby, -⟩ := ok
  intro T locs X eT N
  obtain ⟨s₂, o, st, r⟩ := w T locs X eT N
  exact ⟨s₂, o, XS.i2b X.here hx rfl (hb hby hd) rfl st, r⟩
theorem w_i2c (ok : Ok K Z n0 own code maxL ret nm) {x : Int32} (hd : decode code pc = .ok (.i2c, 1)) (w : W K l R n0 P h k n (pc + 1) L (.int (x.toUInt32.toUInt16.toUInt32.toInt32) :: S)) : W K l R n0 P h k n pc L (.int x :: S) := by
  obtain ⟨p, e, s, m, args, below, meth, c⟩ := K
  obtain ⟨hx, hZ, hown, hby, -⟩ := ok
  intro T locs X eT N
  obtain ⟨s₂, o, st, r⟩ := w T locs X eT N
  exact ⟨s₂, o, XS.i2c X.here hx rfl (hb hby hd) rfl st, r⟩
theorem w_ineg (ok : Ok K Z n0 own code maxL ret nm) {x : Int32} (hd : decode code pc = .ok (.ineg, 1)) (w : W K l R n0 P h k n (pc + 1) L (.int (-x) :: S)) : W K l R n0 P h k n pc L (.int x :: S) := by
  obtain ⟨p, e, s, m, args, below, meth, c⟩ := K
  obtain ⟨hx, hZ, hown, hby, -⟩ := ok
  intro T locs X eT N
  obtain ⟨s₂, o, st, r⟩ := w T locs X eT N
  exact ⟨s₂, o, XS.ineg X.here hx rfl (hb hby hd) rfl st, r⟩
theorem w_idiv (ok : Ok K Z n0 own code maxL ret nm) {x y : Int32} (hd : decode code pc = .ok (.idiv, 1)) (hy : y ≠ 0) (w : W K l R n0 P h k n (pc + 1) L (.int (x / y) :: S)) : W K l R n0 P h k n pc L (.int y :: .int x :: S) := by
  obtain ⟨p, e, s, m, args, below, meth, c⟩ := K
  obtain ⟨hx, hZ, hown, hby, -⟩ := ok
  intro T locs X eT N
  obtain ⟨s₂, o, st, r⟩ := w T locs X eT N
  exact ⟨s₂, o, XS.idiv X.here hx rfl (hb hby hd) rfl hy st, r⟩
theorem w_irem (ok : Ok K Z n0 own code maxL ret nm) {x y : Int32} (hd : decode code pc = .ok (.irem, 1)) (hy : y ≠ 0) (w : W K l R n0 P h k n (pc + 1) L (.int (x % y) :: S)) : W K l R n0 P h k n pc L (.int y :: .int x :: S) := by
  obtain ⟨p, e, s, m, args, below, meth, c⟩ := K
  obtain ⟨hx, hZ, hown, hby, -⟩ := ok
  intro T locs X eT N
  obtain ⟨s₂, o, st, r⟩ := w T locs X eT N
  exact ⟨s₂, o, iremM X hx rfl (hb hby hd) rfl hy st, r⟩
theorem w_ldiv (ok : Ok K Z n0 own code maxL ret nm) {x y : Int64} (hd : decode code pc = .ok (.ldiv, 1)) (hy : y ≠ 0) (w : W K l R n0 P h k n (pc + 1) L (.long (x / y) :: S)) : W K l R n0 P h k n pc L (.long y :: .long x :: S) := by
  obtain ⟨p, e, s, m, args, below, meth, c⟩ := K
  obtain ⟨hx, hZ, hown, hby, -⟩ := ok
  intro T locs X eT N
  obtain ⟨s₂, o, st, r⟩ := w T locs X eT N
  exact ⟨s₂, o, XS.ldiv X.here hx rfl (hb hby hd) rfl hy st, r⟩
theorem w_lrem (ok : Ok K Z n0 own code maxL ret nm) {x y : Int64} (hd : decode code pc = .ok (.lrem, 1)) (hy : y ≠ 0) (w : W K l R n0 P h k n (pc + 1) L (.long (x % y) :: S)) : W K l R n0 P h k n pc L (.long y :: .long x :: S) := by
  obtain ⟨p, e, s, m, args, below, meth, c⟩ := K
  obtain ⟨hx, hZ, hown, hby, -⟩ := ok
  intro T locs X eT N
  obtain ⟨s₂, o, st, r⟩ := w T locs X eT N
  exact ⟨s₂, o, XS.lrem X.here hx rfl (hb hby hd) rfl hy (by rw [lrem_mod]; exact st), r⟩
theorem w_goto (ok : Ok K Z n0 own code maxL ret nm) {o : Int} {pc' : Nat} (hd : decode code pc = .ok (.goto o, 3)) (hp : (pc : Int) + o = (pc' : Int)) (w : W K l R n0 P h k n (pc') L (S)) : W K l R n0 P h k n pc L (S) := by
  obtain ⟨p, e, s, m, args, below, meth, c⟩ := K
  obtain ⟨hx, hZ, hown, hby, -⟩ := ok
  intro T locs X eT N
  obtain ⟨s₂, o, st, r⟩ := w T locs X eT N
  exact ⟨s₂, o, XS.goto X.here hx rfl (pc0 := pc) (pc' := pc') rfl (hb hby hd) (by rw [hp]; exact Int.natCast_nonneg _) (by rw [hp]; rfl) st, r⟩
theorem w_ldcI (ok : Ok K Z n0 own code maxL ret nm) {i : Nat} {v : Int32} (hd : decode code pc = .ok (.ldc i, 2)) (w1 : (Cond.constant own i v).before a0 Z = true) (w : W K l R n0 P h k n (pc + 2) L (.int v :: S)) : W K l R n0 P h k n pc L (S) := by
  obtain ⟨p, e, s, m, args, below, meth, c⟩ := K
  obtain ⟨hx, hZ, hown, hby, -⟩ := ok
  intro T locs X eT N
  obtain ⟨s₂, o, st, r⟩ := w T locs X eT N
  exact ⟨s₂, o, X.ldcInt hx hown (mvT hZ w1) (g := mkF m pc L S) rfl (hb hby hd) _ st, r⟩
theorem w_ldc2J (ok : Ok K Z n0 own code maxL ret nm) {i : Nat} {v : Int64} (hd : decode code pc = .ok (.ldc2_w i, 3)) (w1 : (Cond.constantLong own i v).before a0 Z = true) (w : W K l R n0 P h k n (pc + 3) L (.long v :: S)) : W K l R n0 P h k n pc L (S) := by
  obtain ⟨p, e, s, m, args, below, meth, c⟩ := K
  obtain ⟨hx, hZ, hown, hby, -⟩ := ok
  intro T locs X eT N
  obtain ⟨s₂, o, st, r⟩ := w T locs X eT N
  exact ⟨s₂, o, X.ldc2Long hx hown (mvT hZ w1) (g := mkF m pc L S) rfl (hb hby hd) _ st, r⟩
theorem w_icmp_eq (ok : Ok K Z n0 own code maxL ret nm) {x y : Int32} {o : Int} {pc' : Nat} (hd : decode code pc = .ok (.if_icmp .eq o, 3)) (hp : (pc : Int) + o = (pc' : Int)) (wy : x = y → W K l R n0 P h k n pc' L S) (wn : ¬ x = y → W K l R n0 P h k n (pc + 3) L S) : W K l R n0 P h k n pc L (.int y :: .int x :: S) := by
  obtain ⟨p, e, s, m, args, below, meth, c⟩ := K
  obtain ⟨hx, hZ, hown, hby, -⟩ := ok
  intro T locs X eT N
  by_cases hc : x = y
  · obtain ⟨s₂, o, st, r⟩ := wy hc T locs X eT N
    exact ⟨s₂, o, XS.icmpYes X.here hx rfl (pc0 := pc) (pc' := pc') rfl (hb hby hd) rfl (teq hc).1 (by rw [hp]; exact Int.natCast_nonneg _) (by rw [hp]; rfl) st, r⟩
  · obtain ⟨s₂, o, st, r⟩ := wn hc T locs X eT N
    exact ⟨s₂, o, XS.icmpNo X.here hx rfl (hb hby hd) rfl (feq hc).1 st, r⟩
theorem w_if_eq (ok : Ok K Z n0 own code maxL ret nm) {x : Int32} {o : Int} {pc' : Nat} (hd : decode code pc = .ok (.ifCond .eq o, 3)) (hp : (pc : Int) + o = (pc' : Int)) (wy : x = 0 → W K l R n0 P h k n pc' L S) (wn : ¬ x = 0 → W K l R n0 P h k n (pc + 3) L S) : W K l R n0 P h k n pc L (.int x :: S) := by
  obtain ⟨p, e, s, m, args, below, meth, c⟩ := K
  obtain ⟨hx, hZ, hown, hby, -⟩ := ok
  intro T locs X eT N
  by_cases hc : x = 0
  · obtain ⟨s₂, o, st, r⟩ := wy hc T locs X eT N
    exact ⟨s₂, o, XS.ifYes X.here hx rfl (pc0 := pc) (pc' := pc') rfl (hb hby hd) rfl ((if0 _ _).trans (teq hc).1) (by rw [hp]; exact Int.natCast_nonneg _) (by rw [hp]; rfl) st, r⟩
  · obtain ⟨s₂, o, st, r⟩ := wn hc T locs X eT N
    exact ⟨s₂, o, XS.ifNo X.here hx rfl (hb hby hd) rfl ((if0 _ _).trans (feq hc).1) st, r⟩
theorem w_icmp_ne (ok : Ok K Z n0 own code maxL ret nm) {x y : Int32} {o : Int} {pc' : Nat} (hd : decode code pc = .ok (.if_icmp .ne o, 3)) (hp : (pc : Int) + o = (pc' : Int)) (wy : ¬ x = y → W K l R n0 P h k n pc' L S) (wn : x = y → W K l R n0 P h k n (pc + 3) L S) : W K l R n0 P h k n pc L (.int y :: .int x :: S) := by
  obtain ⟨p, e, s, m, args, below, meth, c⟩ := K
  obtain ⟨hx, hZ, hown, hby, -⟩ := ok
  intro T locs X eT N
  by_cases hc : x = y
  · obtain ⟨s₂, o, st, r⟩ := wn hc T locs X eT N
    exact ⟨s₂, o, XS.icmpNo X.here hx rfl (hb hby hd) rfl (teq hc).2 st, r⟩
  · obtain ⟨s₂, o, st, r⟩ := wy hc T locs X eT N
    exact ⟨s₂, o, XS.icmpYes X.here hx rfl (pc0 := pc) (pc' := pc') rfl (hb hby hd) rfl (feq hc).2 (by rw [hp]; exact Int.natCast_nonneg _) (by rw [hp]; rfl) st, r⟩
theorem w_if_ne (ok : Ok K Z n0 own code maxL ret nm) {x : Int32} {o : Int} {pc' : Nat} (hd : decode code pc = .ok (.ifCond .ne o, 3)) (hp : (pc : Int) + o = (pc' : Int)) (wy : ¬ x = 0 → W K l R n0 P h k n pc' L S) (wn : x = 0 → W K l R n0 P h k n (pc + 3) L S) : W K l R n0 P h k n pc L (.int x :: S) := by
  obtain ⟨p, e, s, m, args, below, meth, c⟩ := K
  obtain ⟨hx, hZ, hown, hby, -⟩ := ok
  intro T locs X eT N
  by_cases hc : x = 0
  · obtain ⟨s₂, o, st, r⟩ := wn hc T locs X eT N
    exact ⟨s₂, o, XS.ifNo X.here hx rfl (hb hby hd) rfl ((if0 _ _).trans (teq hc).2) st, r⟩
  · obtain ⟨s₂, o, st, r⟩ := wy hc T locs X eT N
    exact ⟨s₂, o, XS.ifYes X.here hx rfl (pc0 := pc) (pc' := pc') rfl (hb hby hd) rfl ((if0 _ _).trans (feq hc).2) (by rw [hp]; exact Int.natCast_nonneg _) (by rw [hp]; rfl) st, r⟩
theorem w_icmp_lt (ok : Ok K Z n0 own code maxL ret nm) {x y : Int32} {o : Int} {pc' : Nat} (hd : decode code pc = .ok (.if_icmp .lt o, 3)) (hp : (pc : Int) + o = (pc' : Int)) (wy : x < y → W K l R n0 P h k n pc' L S) (wn : ¬ x < y → W K l R n0 P h k n (pc + 3) L S) : W K l R n0 P h k n pc L (.int y :: .int x :: S) := by
  obtain ⟨p, e, s, m, args, below, meth, c⟩ := K
  obtain ⟨hx, hZ, hown, hby, -⟩ := ok
  intro T locs X eT N
  by_cases hc : x < y
  · obtain ⟨s₂, o, st, r⟩ := wy hc T locs X eT N
    exact ⟨s₂, o, XS.icmpYes X.here hx rfl (pc0 := pc) (pc' := pc') rfl (hb hby hd) rfl (tlt hc).1 (by rw [hp]; exact Int.natCast_nonneg _) (by rw [hp]; rfl) st, r⟩
  · obtain ⟨s₂, o, st, r⟩ := wn hc T locs X eT N
    exact ⟨s₂, o, XS.icmpNo X.here hx rfl (hb hby hd) rfl (flt hc).1 st, r⟩
theorem w_if_lt (ok : Ok K Z n0 own code maxL ret nm) {x : Int32} {o : Int} {pc' : Nat} (hd : decode code pc = .ok (.ifCond .lt o, 3)) (hp : (pc : Int) + o = (pc' : Int)) (wy : x < 0 → W K l R n0 P h k n pc' L S) (wn : ¬ x < 0 → W K l R n0 P h k n (pc + 3) L S) : W K l R n0 P h k n pc L (.int x :: S) := by
  obtain ⟨p, e, s, m, args, below, meth, c⟩ := K
  obtain ⟨hx, hZ, hown, hby, -⟩ := ok
  intro T locs X eT N
  by_cases hc : x < 0
  · obtain ⟨s₂, o, st, r⟩ := wy hc T locs X eT N
    exact ⟨s₂, o, XS.ifYes X.here hx rfl (pc0 := pc) (pc' := pc') rfl (hb hby hd) rfl ((if0 _ _).trans (tlt hc).1) (by rw [hp]; exact Int.natCast_nonneg _) (by rw [hp]; rfl) st, r⟩
  · obtain ⟨s₂, o, st, r⟩ := wn hc T locs X eT N
    exact ⟨s₂, o, XS.ifNo X.here hx rfl (hb hby hd) rfl ((if0 _ _).trans (flt hc).1) st, r⟩
theorem w_icmp_ge (ok : Ok K Z n0 own code maxL ret nm) {x y : Int32} {o : Int} {pc' : Nat} (hd : decode code pc = .ok (.if_icmp .ge o, 3)) (hp : (pc : Int) + o = (pc' : Int)) (wy : ¬ x < y → W K l R n0 P h k n pc' L S) (wn : x < y → W K l R n0 P h k n (pc + 3) L S) : W K l R n0 P h k n pc L (.int y :: .int x :: S) := by
  obtain ⟨p, e, s, m, args, below, meth, c⟩ := K
  obtain ⟨hx, hZ, hown, hby, -⟩ := ok
  intro T locs X eT N
  by_cases hc : x < y
  · obtain ⟨s₂, o, st, r⟩ := wn hc T locs X eT N
    exact ⟨s₂, o, XS.icmpNo X.here hx rfl (hb hby hd) rfl (tlt hc).2.1 st, r⟩
  · obtain ⟨s₂, o, st, r⟩ := wy hc T locs X eT N
    exact ⟨s₂, o, XS.icmpYes X.here hx rfl (pc0 := pc) (pc' := pc') rfl (hb hby hd) rfl (flt hc).2.1 (by rw [hp]; exact Int.natCast_nonneg _) (by rw [hp]; rfl) st, r⟩
theorem w_if_ge (ok : Ok K Z n0 own code maxL ret nm) {x : Int32} {o : Int} {pc' : Nat} (hd : decode code pc = .ok (.ifCond .ge o, 3)) (hp : (pc : Int) + o = (pc' : Int)) (wy : ¬ x < 0 → W K l R n0 P h k n pc' L S) (wn : x < 0 → W K l R n0 P h k n (pc + 3) L S) : W K l R n0 P h k n pc L (.int x :: S) := by
  obtain ⟨p, e, s, m, args, below, meth, c⟩ := K
  obtain ⟨hx, hZ, hown, hby, -⟩ := ok
  intro T locs X eT N
  by_cases hc : x < 0
  · obtain ⟨s₂, o, st, r⟩ := wn hc T locs X eT N
    exact ⟨s₂, o, XS.ifNo X.here hx rfl (hb hby hd) rfl ((if0 _ _).trans (tlt hc).2.1) st, r⟩
  · obtain ⟨s₂, o, st, r⟩ := wy hc T locs X eT N
    exact ⟨s₂, o, XS.ifYes X.here hx rfl (pc0 := pc) (pc' := pc') rfl (hb hby hd) rfl ((if0 _ _).trans (flt hc).2.1) (by rw [hp]; exact Int.natCast_nonneg _) (by rw [hp]; rfl) st, r⟩
theorem w_icmp_gt (ok : Ok K Z n0 own code maxL ret nm) {x y : Int32} {o : Int} {pc' : Nat} (hd : decode code pc = .ok (.if_icmp .gt o, 3)) (hp : (pc : Int) + o = (pc' : Int)) (wy : y < x → W K l R n0 P h k n pc' L S) (wn : ¬ y < x → W K l R n0 P h k n (pc + 3) L S) : W K l R n0 P h k n pc L (.int y :: .int x :: S) := by
  obtain ⟨p, e, s, m, args, below, meth, c⟩ := K
  obtain ⟨hx, hZ, hown, hby, -⟩ := ok
  intro T locs X eT N
  by_cases hc : y < x
  · obtain ⟨s₂, o, st, r⟩ := wy hc T locs X eT N
    exact ⟨s₂, o, XS.icmpYes X.here hx rfl (pc0 := pc) (pc' := pc') rfl (hb hby hd) rfl (tlt hc).2.2.1 (by rw [hp]; exact Int.natCast_nonneg _) (by rw [hp]; rfl) st, r⟩
  · obtain ⟨s₂, o, st, r⟩ := wn hc T locs X eT N
    exact ⟨s₂, o, XS.icmpNo X.here hx rfl (hb hby hd) rfl (flt hc).2.2.1 st, r⟩
theorem w_if_gt (ok : Ok K Z n0 own code maxL ret nm) {x : Int32} {o : Int} {pc' : Nat} (hd : decode code pc = .ok (.ifCond .gt o, 3)) (hp : (pc : Int) + o = (pc' : Int)) (wy : 0 < x → W K l R n0 P h k n pc' L S) (wn : ¬ 0 < x → W K l R n0 P h k n (pc + 3) L S) : W K l R n0 P h k n pc L (.int x :: S) := by
  obtain ⟨p, e, s, m, args, below, meth, c⟩ := K
  obtain ⟨hx, hZ, hown, hby, -⟩ := ok
  intro T locs X eT N
  by_cases hc : 0 < x
  · obtain ⟨s₂, o, st, r⟩ := wy hc T locs X eT N
    exact ⟨s₂, o, XS.ifYes X.here hx rfl (pc0 := pc) (pc' := pc') rfl (hb hby hd) rfl ((if0 _ _).trans (tlt hc).2.2.1) (by rw [hp]; exact Int.natCast_nonneg _) (by rw [hp]; rfl) st, r⟩
  · obtain ⟨s₂, o, st, r⟩ := wn hc T locs X eT N
    exact ⟨s₂, o, XS.ifNo X.here hx rfl (hb hby hd) rfl ((if0 _ _).trans (flt hc).2.2.1) st, r⟩
theorem w_icmp_le (ok : Ok K Z n0 own code maxL ret nm) {x y : Int32} {o : Int} {pc' : Nat} (hd : decode code pc = .ok (.if_icmp .le o, 3)) (hp : (pc : Int) + o = (pc' : Int)) (wy : ¬ y < x → W K l R n0 P h k n pc' L S) (wn : y < x → W K l R n0 P h k n (pc + 3) L S) : W K l R n0 P h k n pc L (.int y :: .int x :: S) := by
  obtain ⟨p, e, s, m, args, below, meth, c⟩ := K
  obtain ⟨hx, hZ, hown, hby, -⟩ := ok
  intro T locs X eT N
  by_cases hc : y < x
  · obtain ⟨s₂, o, st, r⟩ := wn hc T locs X eT N
    exact ⟨s₂, o, XS.icmpNo X.here hx rfl (hb hby hd) rfl (tlt hc).2.2.2 st, r⟩
  · obtain ⟨s₂, o, st, r⟩ := wy hc T locs X eT N
    exact ⟨s₂, o, XS.icmpYes X.here hx rfl (pc0 := pc) (pc' := pc') rfl (hb hby hd) rfl (flt hc).2.2.2 (by rw [hp]; exact Int.natCast_nonneg _) (by rw [hp]; rfl) st, r⟩
theorem w_if_le (ok : Ok K Z n0 own code maxL ret nm) {x : Int32} {o : Int} {pc' : Nat} (hd : decode code pc = .ok (.ifCond .le o, 3)) (hp : (pc : Int) + o = (pc' : Int)) (wy : ¬ 0 < x → W K l R n0 P h k n pc' L S) (wn : 0 < x → W K l R n0 P h k n (pc + 3) L S) : W K l R n0 P h k n pc L (.int x :: S) := by
  obtain ⟨p, e, s, m, args, below, meth, c⟩ := K
  obtain ⟨hx, hZ, hown, hby, -⟩ := ok
  intro T locs X eT N
  by_cases hc : 0 < x
  · obtain ⟨s₂, o, st, r⟩ := wn hc T locs X eT N
    exact ⟨s₂, o, XS.ifNo X.here hx rfl (hb hby hd) rfl ((if0 _ _).trans (tlt hc).2.2.2) st, r⟩
  · obtain ⟨s₂, o, st, r⟩ := wy hc T locs X eT N
    exact ⟨s₂, o, XS.ifYes X.here hx rfl (pc0 := pc) (pc' := pc') rfl (hb hby hd) rfl ((if0 _ _).trans (flt hc).2.2.2) (by rw [hp]; exact Int.natCast_nonneg _) (by rw [hp]; rfl) st, r⟩
theorem w_lcmp (ok : Ok K Z n0 own code maxL ret nm) {x y : Int64} (hd : decode code pc = .ok (.lcmp, 1)) (w : W K l R n0 P h k n (pc + 1) L (.int (lcmpW x y) :: S)) : W K l R n0 P h k n pc L (.long y :: .long x :: S) := by
  obtain ⟨p, e, s, m, args, below, meth, c⟩ := K
  obtain ⟨hx, hZ, hown, hby, -⟩ := ok
  intro T locs X eT N
  obtain ⟨s₂, o, st, r⟩ := w T locs X eT N
  exact ⟨s₂, o, XS.lcmp X.here hx rfl (hb hby hd) rfl st, r⟩
theorem w_lcmp_eq (ok : Ok K Z n0 own code maxL ret nm) {x y : Int64} {o : Int} {pc' : Nat} (hd : decode code pc = .ok (.lcmp, 1)) (hd2 : decode code (pc + 1) = .ok (.ifCond .eq o, 3)) (hp : ((pc + 1 : Nat) : Int) + o = (pc' : Int)) (wy : x = y → W K l R n0 P h k n pc' L S) (wn : ¬ x = y → W K l R n0 P h k n (pc + 4) L S) : W K l R n0 P h k n pc L (.long y :: .long x :: S) :=
  w_lcmp ok hd (w_if_eq ok hd2 hp (fun hc => wy ((lw_eq x y).mp hc)) (fun hc => wn (fun q => hc ((lw_eq x y).mpr q))))
theorem w_lcmp_ne (ok : Ok K Z n0 own code maxL ret nm) {x y : Int64} {o : Int} {pc' : Nat} (hd : decode code pc = .ok (.lcmp, 1)) (hd2 : decode code (pc + 1) = .ok (.ifCond .ne o, 3)) (hp : ((pc + 1 : Nat) : Int) + o = (pc' : Int)) (wy : ¬ x = y → W K l R n0 P h k n pc' L S) (wn : x = y → W K l R n0 P h k n (pc + 4) L S) : W K l R n0 P h k n pc L (.long y :: .long x :: S) :=
  w_lcmp ok hd (w_if_ne ok hd2 hp (fun hc => wy (fun q => hc ((lw_eq x y).mpr q))) (fun hc => wn ((lw_eq x y).mp hc)))
theorem w_lcmp_lt (ok : Ok K Z n0 own code maxL ret nm) {x y : Int64} {o : Int} {pc' : Nat} (hd : decode code pc = .ok (.lcmp, 1)) (hd2 : decode code (pc + 1) = .ok (.ifCond .lt o, 3)) (hp : ((pc + 1 : Nat) : Int) + o = (pc' : Int)) (wy : x < y → W K l R n0 P h k n pc' L S) (wn : ¬ x < y → W K l R n0 P h k n (pc + 4) L S) : W K l R n0 P h k n pc L (.long y :: .long x :: S) :=
  w_lcmp ok hd (w_if_lt ok hd2 hp (fun hc => wy ((lw_lt x y).mp hc)) (fun hc => wn (fun q => hc ((lw_lt x y).mpr q))))
theorem w_lcmp_ge (ok : Ok K Z n0 own code maxL ret nm) {x y : Int64} {o : Int} {pc' : Nat} (hd : decode code pc = .ok (.lcmp, 1)) (hd2 : decode code (pc + 1) = .ok (.ifCond .ge o, 3)) (hp : ((pc + 1 : Nat) : Int) + o = (pc' : Int)) (wy : ¬ x < y → W K l R n0 P h k n pc' L S) (wn : x < y → W K l R n0 P h k n (pc + 4) L S) : W K l R n0 P h k n pc L (.long y :: .long x :: S) :=
  w_lcmp ok hd (w_if_ge ok hd2 hp (fun hc => wy (fun q => hc ((lw_lt x y).mpr q))) (fun hc => wn ((lw_lt x y).mp hc)))
theorem w_lcmp_gt (ok : Ok K Z n0 own code maxL ret nm) {x y : Int64} {o : Int} {pc' : Nat} (hd : decode code pc = .ok (.lcmp, 1)) (hd2 : decode code (pc + 1) = .ok (.ifCond .gt o, 3)) (hp : ((pc + 1 : Nat) : Int) + o = (pc' : Int)) (wy : y < x → W K l R n0 P h k n pc' L S) (wn : ¬ y < x → W K l R n0 P h k n (pc + 4) L S) : W K l R n0 P h k n pc L (.long y :: .long x :: S) :=
  w_lcmp ok hd (w_if_gt ok hd2 hp (fun hc => wy ((lw_gt x y).mp hc)) (fun hc => wn (fun q => hc ((lw_gt x y).mpr q))))
theorem w_lcmp_le (ok : Ok K Z n0 own code maxL ret nm) {x y : Int64} {o : Int} {pc' : Nat} (hd : decode code pc = .ok (.lcmp, 1)) (hd2 : decode code (pc + 1) = .ok (.ifCond .le o, 3)) (hp : ((pc + 1 : Nat) : Int) + o = (pc' : Int)) (wy : ¬ y < x → W K l R n0 P h k n pc' L S) (wn : y < x → W K l R n0 P h k n (pc + 4) L S) : W K l R n0 P h k n pc L (.long y :: .long x :: S) :=
  w_lcmp ok hd (w_if_le ok hd2 hp (fun hc => wy (fun q => hc ((lw_gt x y).mpr q))) (fun hc => wn ((lw_gt x y).mp hc)))
theorem w_out {t : FieldType} {i : Instr} {w : Value} (ok : Ok K Z n0 own code maxL (some t) nm) (hn : narrow t w = w) (hi : (i = .ireturn ∧ (t = .int ∨ t = .boolean ∨ t = .byte ∨ t = .char ∨ t = .short) ∧ ∃ z, w = .int z) ∨ (i = .lreturn ∧ t = .long ∧ ∃ z, w = .long z) ∨ (i = .dreturn ∧ t = .double ∧ ∃ z, w = .double z) ∨ (i = .freturn ∧ t = .float ∧ ∃ z, w = .float z) ∨ (i = .areturn ∧ t.isReference = true ∧ w.isRef = true))
    (hd : decode code pc = .ok (i, 1)) (hk : k ≤ R.cells) (hs : n ≤ R.slots) (hP : P (some w) h) : W K l R n0 P h k n pc L (w :: S) := by
  obtain ⟨p, e, s, m, args, below, meth, c⟩ := K
  obtain ⟨hx, hZ, hown, hby, hml, hret, hnm, hlk, hn0⟩ := ok
  intro T locs X eT N
  obtain ⟨fs, hr, hrun, hended, hW, hsame⟩ := X.leave (v := some w) (fun q => by rw [hret] at q; cases q)
  exact ⟨_, _, retOut X hx hret hn hi (hb hby hd) hr, hrun, hended, _, _, rfl, ⟨by show P (some w) T.heap; rw [eT]; exact hP, N⟩, ⟨_, rfl⟩, hW, hsame.mono hk hs⟩
theorem w_iret {z : Int32} (ok : Ok K Z n0 own code maxL (some .int) nm) (hd : decode code pc = .ok (.ireturn, 1)) (hk : k ≤ R.cells) (hs : n ≤ R.slots) (hP : P (some (.int z)) h) : W K l R n0 P h k n pc L (.int z :: S) :=
  w_out ok rfl (Or.inl ⟨rfl, by simp, z, rfl⟩) hd hk hs hP
theorem w_lret {z : Int64} (ok : Ok K Z n0 own code maxL (some .long) nm) (hd : decode code pc = .ok (.lreturn, 1)) (hk : k ≤ R.cells) (hs : n ≤ R.slots) (hP : P (some (.long z)) h) : W K l R n0 P h k n pc L (.long z :: S) :=
  w_out ok rfl (Or.inr (Or.inl ⟨rfl, rfl, z, rfl⟩)) hd hk hs hP
theorem w_aret {w : Value} {t : FieldType} (ok : Ok K Z n0 own code maxL (some t) nm) (ht : t.isReference = true) (hw : w.isRef = true) (hd : decode code pc = .ok (.areturn, 1)) (hk : k ≤ R.cells) (hs : n ≤ R.slots) (hP : P (some w) h) : W K l R n0 P h k n pc L (w :: S) :=
  w_out ok (by rcases ref_cases hw with rfl | ⟨_, rfl⟩ <;> cases t <;> first | rfl | cases ht) (Or.inr (Or.inr (Or.inr (Or.inr ⟨rfl, ht, hw⟩)))) hd hk hs hP
theorem w_bret {z : Int32} {t : FieldType} (ok : Ok K Z n0 own code maxL (some t) nm) (ht : t = .boolean ∨ t = .byte ∨ t = .char ∨ t = .short) (hd : decode code pc = .ok (.ireturn, 1)) (hk : k ≤ R.cells) (hs : n ≤ R.slots) (hP : P (some (.int (nar t z))) h) : W K l R n0 P h k n pc L (.int z :: S) := by
  obtain ⟨p, e, s, m, args, below, meth, c⟩ := K
  obtain ⟨hx, hZ, hown, hby, hml, hret, hnm, hlk, hn0⟩ := ok
  intro T locs X eT N
  obtain ⟨fs, hr, hrun, hended, hW, hsame⟩ := X.leave (v := some (.int (nar t z))) (fun q => by rw [hret] at q; cases q)
  exact ⟨_, _, retN X hx hret ht (hb hby hd) hr, hrun, hended, _, _, rfl, ⟨by show P (some (.int (nar t z))) T.heap; rw [eT]; exact hP, N⟩, ⟨_, rfl⟩, hW, hsame.mono hk hs⟩
theorem w_ret (ok : Ok K Z n0 own code maxL none nm) (hd : decode code pc = .ok (.return_, 1)) (hk : k ≤ R.cells) (hs : n ≤ R.slots) (hP : P none h) : W K l R n0 P h k n pc L [] := by
  obtain ⟨p, e, s, m, args, below, meth, c⟩ := K
  obtain ⟨hx, hZ, hown, hby, hml, hret, hnm, hlk, hn0⟩ := ok
  intro T locs X eT N
  obtain ⟨fs, hr, hrun, hended, hW, hsame⟩ := X.leave (v := none) (fun _ => rfl)
  exact ⟨_, _, X.returnOut hx hret (hb hby hd) hr, hrun, hended, _, _, rfl, ⟨by show P none T.heap; rw [eT]; exact hP, N⟩, ⟨_, rfl⟩, hW, hsame.mono hk hs⟩
abbrev notHandle (y : MethodName) : Prop := y.cls ≠ "java/lang/invoke/MethodHandle" ∧ y.cls ≠ "java/lang/invoke/VarHandle"
theorem w_callS (ok : Ok K Z n0 own code maxL ret nm) {index : Nat} {y : MethodName} {bytes : ByteArray} {mL : Nat} {rt : Option FieldType} {rm : Room} {argsL rest : List Value} {Q : Option Value → Heap → Prop} {ps : List FieldType} {r : Option FieldType}
    (hd : decode code pc = .ok (.invokestatic index, 3)) (w1 : (Cond.methodLink own index y).before a0 Z = true) (w2 : (Cond.static y).before a0 Z = true) (w3 : (Cond.initialized y.cls).before a0 Z = true) (w4 : (Cond.code y bytes mL rt).before a0 Z = true) (hy : notHandle y)
    (pd : parseMethodDescriptor y.desc = some ⟨ps, r⟩) (hlen : argsL.length = ps.length) (hL : L.size = maxL) (hf : rm.frames + 1 ≤ R.frames) (hl : (rest.map fun v => v.category).sum + (mL + 11) + rm.locals ≤ R.locals) (hc : k + rm.cells ≤ R.cells) (hs : n + rm.slots ≤ R.slots)
    (hM : Old Z n0 h → Met l Z n0 y bytes mL rt [] rm argsL.toArray h Q) (w : ∀ v h', Q v h' → W K l R n0 P h' (k + rm.cells) (n + rm.slots) (pc + 3) L (v.toList ++ rest)) : W K l R n0 P h k n pc L (argsL.reverse ++ rest) := by
  obtain ⟨p, e, s, m, args, below, meth, c⟩ := K
  obtain ⟨hx, hZ, hown, hby, hml, hret, hnm, hlk, hn0⟩ := ok
  intro T locs X eT N
  have hM := hM (by rw [← eT]; exact old_now hn0 X N)
  obtain ⟨v, _, ⟨T1, L1, k1, n1⟩, -, X1, ⟨Lc, ⟨hQ, N1⟩, l1, y1, z1⟩, st⟩ := Jvm.LawKit.callS X hx (y := y) hown (mvT hZ w1) (mvT hZ w2) (mvT hZ w3) (mvT hZ w4) hy (backOf (W := (rest.map fun v => v.category).sum) (Q := fun v h L => Q v h ∧ Fr n0 L) hM hZ w4 w3 hf hl) (g := mkF m pc L (argsL.reverse ++ rest)) rfl (hL.trans hml.symm) (argsL := argsL) (rest := rest) (lenOf pd hlen) rfl (by show 2 * 0 + _ ≤ _; omega) (hb hby hd) (fun _ _ => ⟨rfl, eT, hc, hs⟩)
  dsimp only [Pt.U, Pt.locs, Pt.cells, Pt.slots] at X1 l1 y1 z1 st hQ
  subst l1 y1 z1
  obtain ⟨s₂, o, st2, r2⟩ := w v _ hQ T1 _ X1 rfl (Fr.app N N1)
  exact ⟨s₂, o, st _ st2, r2⟩
theorem pa_z {N : Nat} (q : N < 2 ^ 31) : ∃ z : Int32, N = z.toNatClampNeg ∧ ¬ z < 0 := by
  have e : (Int32.ofNat N).toInt = N := Int32.toInt_ofNat_of_lt q
  refine ⟨Int32.ofNat N, ?_, ?_⟩
  · simp [Int32.toNatClampNeg, e]
  · rw [Int32.lt_iff_toInt_lt, e]; simp
def PA (ty : FieldType) (Z : State) (h : Heap) (a : Addr) (vs : List Value) : Prop := ∃ c : Cell, Arr Z h a c ty ∧ vs.length < 2 ^ 31 ∧ c.slots = vs.toArray ∧ ∀ v ∈ vs, fits ty v = true
theorem pa_in {c : Cell} {vs : List Value} {j : Int32} (q : c.slots = vs.toArray) (h0 : ¬ j < 0) (hj : j.toNatClampNeg < vs.length) : ¬ (j < 0 ∨ c.slots.size ≤ j.toNatClampNeg) := by
  rw [q]; rintro (y | y)
  · exact h0 y
  · simp at y; omega
section PAs
variable {ty : FieldType} {h' : Heap} {a b : Addr} {vs : List Value} {v : Value} {sl : Nat} {ws : List Addr}
theorem PA.lt (A : PA ty Z h a vs) : a < h.size := by obtain ⟨c, A, -⟩ := A; exact A.lt
theorem PA.len (A : PA ty Z h a vs) : vs.length < 2 ^ 31 := by obtain ⟨c, A, q, -⟩ := A; exact q
theorem PA.ext (A : PA ty Z h a vs) (E : Ext h h') : PA ty Z h' a vs := by obtain ⟨c, A, r⟩ := A; exact ⟨c, A.ext E, r⟩
theorem PA.other (A : PA ty Z h b vs) (W1 : Wr h h' a sl v) (ne : b ≠ a) : PA ty Z h' b vs := by obtain ⟨c, A, r⟩ := A; exact ⟨c, A.other W1 ne, r⟩
theorem PA.keep (A : PA ty Z h a vs) (K1 : Keep h h' ws) (q : a ∉ ws) : PA ty Z h' a vs := by obtain ⟨c, A, r⟩ := A; exact ⟨c, ⟨K1.2.1 a c A.1 q, A.2⟩, r⟩
theorem PA.set (A : PA ty Z h a vs) (W1 : Wr h h' a sl v) (hv : fits ty v = true) : PA ty Z h' a (vs.set sl v) := by
  obtain ⟨c, A, hl, hs, hf⟩ := A
  refine ⟨c.setSlot sl v, A.same W1, by rw [List.length_set]; exact hl, ?_, ?_⟩
  · show c.slots.setIfInBounds sl v = _
    rw [hs]; simp
  · intro u hu
    rcases List.mem_or_eq_of_mem_set hu with q | rfl
    · exact hf _ q
    · exact hv
theorem PA.arv (A : PA ty Z h a vs) {z : Int32} (hz : vs.length = z.toNatClampNeg) (hz0 : ¬ z < 0) (d : Value) : ∃ k, Arv Z h a k ty z vs d := by
  obtain ⟨c, A, hl, hs, hf⟩ := A
  refine ⟨c.cls, c, A, rfl, by rw [hs]; simpa using hz, hz0, fun i hi => ?_, fun i hi => ?_⟩
  · rw [hs] at hi ⊢
    simp at hi
    simp [List.getD_eq_getElem?_getD, List.getElem?_eq_getElem hi]
  · rw [hs] at hi
    simp at hi
    rw [List.getD_eq_getElem?_getD, List.getElem?_eq_getElem hi]
    exact hf _ (List.getElem_mem hi)
theorem PA.of_arv {k : ClassId} {z : Int32} {d : Value} (B : Arv Z h a k ty z vs d) (hl : vs.length = z.toNatClampNeg) : PA ty Z h a vs := by
  obtain ⟨c, A, -, S1, N1, H, G⟩ := B
  have e : c.slots = vs.toArray := by
    apply Array.ext_getElem?
    intro i
    by_cases q : i < c.slots.size
    · rw [H i q]
      have q2 : i < vs.length := by omega
      simp [List.getD_eq_getElem?_getD, List.getElem?_eq_getElem q2]
    · rw [Array.getElem?_eq_none (by omega)]
      simp; omega
  refine ⟨c, A, by have := (back32 N1).2; omega, e, fun v hv => ?_⟩
  obtain ⟨i, hi, rfl⟩ := List.getElem_of_mem hv
  have q := G i (by omega)
  rw [List.getD_eq_getElem?_getD, List.getElem?_eq_getElem hi] at q
  exact q
end PAs
theorem w_arraylength (ok : Ok K Z n0 own code maxL ret nm) {ty : FieldType} {a : Addr} {vs : List Value} {z : Int32} (hd : decode code pc = .ok (.arraylength, 1)) (A : PA ty Z h a vs) (hz : vs.length = z.toNatClampNeg) (hz0 : ¬ z < 0) (w : W K l R n0 P h k n (pc + 1) L (.int z :: S)) : W K l R n0 P h k n pc L (.ref a :: S) := by
  obtain ⟨p, e, s, m, args, below, meth, c⟩ := K
  obtain ⟨hx, hZ, hown, hby, -⟩ := ok
  intro T locs X eT N
  obtain ⟨s₂, o, st, r⟩ := w T locs X eT N
  obtain ⟨cl, A, q1, q2, q3⟩ := A
  have e1 : cl.slots.size.toInt32 = z := len_of (by rw [q2]; simpa using hz) hz0
  exact ⟨s₂, o, X.arraylength hx (by rw [eT]; exact A.1) (State.isArrayOf_alike hZ.alike A.2.1) (g := mkF m pc L (.ref a :: S)) rfl rfl (hb hby hd) _ (by rw [e1]; exact st), r⟩
theorem w_newarray (ok : Ok K Z n0 own code maxL ret nm) {aty : ArrayType} {z : Int32} (hd : decode code pc = .ok (.newarray aty, 2)) (w1 : (Cond.arrayClass (newarray.typeOf aty)).before a0 Z = true) (hz : ¬ z < 0) {cap : Nat} (hcap : z.toNatClampNeg ≤ cap) (hb1 : cap * 8 ≤ 536870912) (hc : k + 1 ≤ R.cells) (hl : n + cap ≤ R.slots)
    (w : ∀ h' a, a = h.size → n0 ≤ a → Ext h h' → PA (newarray.typeOf aty) Z h' a (List.replicate z.toNatClampNeg (defaultValue (newarray.typeOf aty))) → W K l R n0 P h' (k + 1) (n + cap) (pc + 2) L (.ref a :: S)) : W K l R n0 P h k n pc L (.int z :: S) := by
  obtain ⟨p, e, s, m, args, below, meth, c⟩ := K
  obtain ⟨hx, hZ, hown, hby, hml, hret, hnm, hlk, hn0⟩ := ok
  intro T locs X eT N
  obtain ⟨T1, h1, cA, X1, e1, E1, A1, st⟩ := newP X hx hZ w1 eT (g := mkF m pc L (.int z :: S)) rfl (hb hby hd) rfl hz hcap hb1 hc hl
  have A2 : PA (newarray.typeOf aty) Z h1 h.size (List.replicate z.toNatClampNeg (defaultValue (newarray.typeOf aty))) := by
    refine ⟨_, A1, by simpa using (back32 hz).2, by simp [newA], fun v hv => ?_⟩
    rw [List.eq_of_mem_replicate hv]
    cases aty <;> rfl
  obtain ⟨s₂, o, st2, r⟩ := w h1 h.size rfl (by rw [← eT]; exact old_ge hn0 X N) E1 A2 T1 _ X1 e1 N
  exact ⟨s₂, o, st _ st2, r⟩
theorem w_arraycopy (ok : Ok K Z n0 own code maxL ret nm) {index : Nat} {ty : FieldType} {a b : Addr} {vs vd : List Value} {sp dp nn : Int32} {sp' dp' nn' : Nat} (hd : decode code pc = .ok (.invokestatic index, 3)) (w1 : (Cond.methodLink own index Jvm.Stand.acN).before a0 Z = true) (w2 : (Cond.native Jvm.Stand.acN).before a0 Z = true) (w3 : (Cond.static Jvm.Stand.acN).before a0 Z = true) (w4 : (Cond.initialized "java/lang/System").before a0 Z = true)
    (A : PA ty Z h a vs) (B : PA ty Z h b vd) (hty : refKind ty = false) (ge : n0 ≤ b) (h1 : ¬ sp < 0) (h2 : ¬ dp < 0) (h3 : ¬ nn < 0) (es : sp.toNatClampNeg = sp') (ed : dp.toNatClampNeg = dp') (en : nn.toNatClampNeg = nn') (h4 : sp' + nn' ≤ vs.length) (h5 : dp' + nn' ≤ vd.length) (hL : L.size = maxL) (hf : 1 ≤ R.frames) (hlo : (S.map fun v => v.category).sum + (nativeFrameWords "java/lang/System" "arraycopy" 5 + 11) ≤ R.locals)
    (w : ∀ h', Keep h h' [b] → PA ty Z h' b (vd.take dp' ++ (vs.drop sp').take nn' ++ vd.drop (dp' + nn')) → W K l R n0 P h' k n (pc + 3) L S) : W K l R n0 P h k n pc L (.int nn :: .int dp :: .ref b :: .int sp :: .ref a :: S) := by
  obtain ⟨p, e, s, m, args, below, meth, c⟩ := K
  obtain ⟨hx, hZ, hown, hby, hml, hret, hnm, hlk, hn0⟩ := ok
  intro T locs X eT N
  subst es ed en
  obtain ⟨z1, hz1, hz2⟩ : ∃ z : Int32, vs.length = z.toNatClampNeg ∧ ¬ z < 0 := pa_z A.len
  obtain ⟨z3, hz3, hz4⟩ : ∃ z : Int32, vd.length = z.toNatClampNeg ∧ ¬ z < 0 := pa_z B.len
  obtain ⟨k1, A1⟩ := A.arv hz1 hz2 .null
  obtain ⟨k2, B1⟩ := B.arv hz3 hz4 .null
  obtain ⟨T1, h1', L1, X1, e1, N1, K1, B2, st⟩ := cpA X hx hZ hown w1 w2 w3 w4 eT A1 B1 (Or.inl ⟨rfl, hty⟩) h1 h2 h3 (by omega) (by omega) rfl h5 N ge (g := mkF m pc L (.int nn :: .int dp :: .ref b :: .int sp :: .ref a :: S)) rfl (hL.trans hml.symm) rfl (hb hby hd) hf (W := (S.map fun v => v.category).sum) (by show 2 * 0 + _ ≤ _; omega) hlo
  have e2 : ((List.range nn.toNatClampNeg).map fun i => vs.getD (sp.toNatClampNeg + i) Value.null) = (vs.drop sp.toNatClampNeg).take nn.toNatClampNeg := by
    apply List.ext_getElem
    · simp; omega
    · intro i q1 q2
      simp at q1
      simp [List.getD_eq_getElem?_getD, List.getElem?_eq_getElem (show sp.toNatClampNeg + i < vs.length by omega)]
  rw [e2] at B2
  obtain ⟨s₂, o, st2, r⟩ := w h1' K1 (PA.of_arv B2 (by simp; omega)) T1 _ X1 e1 N1
  exact ⟨s₂, o, st _ st2, r⟩
theorem w_iaload (ok : Ok K Z n0 own code maxL ret nm) {a : Addr} {vs : List Value} {j : Int32} {v : Value} (hd : decode code pc = .ok (.iaload, 1)) (A : PA .int Z h a vs) (h0 : ¬ j < 0) (hj : vs[j.toNatClampNeg]? = some v) (w : W K l R n0 P h k n (pc + 1) L (v :: S)) : W K l R n0 P h k n pc L (.int j :: .ref a :: S) := by
  obtain ⟨p, e, s, m, args, below, meth, c⟩ := K
  obtain ⟨hx, hZ, hown, hby, -⟩ := ok
  intro T locs X eT N
  obtain ⟨s₂, o, st, r⟩ := w T locs X eT N
  obtain ⟨cl, A, q1, q2, q3⟩ := A
  exact ⟨s₂, o, X.iaload hx (j := j) (v := v) (by rw [eT]; exact A.1) (State.isArrayOf_alike hZ.alike A.2.1) A.2.2 (pa_in q2 h0 (List.getElem?_eq_some_iff.mp hj).1) (by rw [q2]; simpa using hj) (g := mkF m pc L (.int j :: .ref a :: S)) rfl rfl (hb hby hd) _ st, r⟩
theorem w_laload (ok : Ok K Z n0 own code maxL ret nm) {a : Addr} {vs : List Value} {j : Int32} {v : Value} (hd : decode code pc = .ok (.laload, 1)) (A : PA .long Z h a vs) (h0 : ¬ j < 0) (hj : vs[j.toNatClampNeg]? = some v) (w : W K l R n0 P h k n (pc + 1) L (v :: S)) : W K l R n0 P h k n pc L (.int j :: .ref a :: S) := by
  obtain ⟨p, e, s, m, args, below, meth, c⟩ := K
  obtain ⟨hx, hZ, hown, hby, -⟩ := ok
  intro T locs X eT N
  obtain ⟨s₂, o, st, r⟩ := w T locs X eT N
  obtain ⟨cl, A, q1, q2, q3⟩ := A
  exact ⟨s₂, o, X.laload hx (j := j) (v := v) (by rw [eT]; exact A.1) (State.isArrayOf_alike hZ.alike A.2.1) A.2.2 (pa_in q2 h0 (List.getElem?_eq_some_iff.mp hj).1) (by rw [q2]; simpa using hj) (g := mkF m pc L (.int j :: .ref a :: S)) rfl rfl (hb hby hd) _ st, r⟩
theorem w_caload (ok : Ok K Z n0 own code maxL ret nm) {a : Addr} {vs : List Value} {j : Int32} {v : Value} (hd : decode code pc = .ok (.caload, 1)) (A : PA .char Z h a vs) (h0 : ¬ j < 0) (hj : vs[j.toNatClampNeg]? = some v) (w : W K l R n0 P h k n (pc + 1) L (v :: S)) : W K l R n0 P h k n pc L (.int j :: .ref a :: S) := by
  obtain ⟨p, e, s, m, args, below, meth, c⟩ := K
  obtain ⟨hx, hZ, hown, hby, -⟩ := ok
  intro T locs X eT N
  obtain ⟨s₂, o, st, r⟩ := w T locs X eT N
  obtain ⟨cl, A, q1, q2, q3⟩ := A
  exact ⟨s₂, o, X.caload hx (j := j) (v := v) (by rw [eT]; exact A.1) (State.isArrayOf_alike hZ.alike A.2.1) A.2.2 (pa_in q2 h0 (List.getElem?_eq_some_iff.mp hj).1) (by rw [q2]; simpa using hj) (g := mkF m pc L (.int j :: .ref a :: S)) rfl rfl (hb hby hd) _ st, r⟩
theorem w_baload (ok : Ok K Z n0 own code maxL ret nm) {a : Addr} {vs : List Value} {j : Int32} {v : Value} (hd : decode code pc = .ok (.baload, 1)) (A : PA .byte Z h a vs) (h0 : ¬ j < 0) (hj : vs[j.toNatClampNeg]? = some v) (w : W K l R n0 P h k n (pc + 1) L (v :: S)) : W K l R n0 P h k n pc L (.int j :: .ref a :: S) := by
  obtain ⟨p, e, s, m, args, below, meth, c⟩ := K
  obtain ⟨hx, hZ, hown, hby, -⟩ := ok
  intro T locs X eT N
  obtain ⟨s₂, o, st, r⟩ := w T locs X eT N
  obtain ⟨cl, A, q1, q2, q3⟩ := A
  exact ⟨s₂, o, X.baloadBytes hx (j := j) (v := v) (by rw [eT]; exact A.1) (State.isArrayOf_alike hZ.alike A.2.1) A.2.2 (pa_in q2 h0 (List.getElem?_eq_some_iff.mp hj).1) (by rw [q2]; simpa using hj) (g := mkF m pc L (.int j :: .ref a :: S)) rfl rfl (hb hby hd) _ st, r⟩
theorem w_zaload (ok : Ok K Z n0 own code maxL ret nm) {a : Addr} {vs : List Value} {j : Int32} {v : Value} (hd : decode code pc = .ok (.baload, 1)) (A : PA .boolean Z h a vs) (h0 : ¬ j < 0) (hj : vs[j.toNatClampNeg]? = some v) (w : W K l R n0 P h k n (pc + 1) L (v :: S)) : W K l R n0 P h k n pc L (.int j :: .ref a :: S) := by
  obtain ⟨p, e, s, m, args, below, meth, c⟩ := K
  obtain ⟨hx, hZ, hown, hby, -⟩ := ok
  intro T locs X eT N
  obtain ⟨s₂, o, st, r⟩ := w T locs X eT N
  obtain ⟨cl, A, q1, q2, q3⟩ := A
  exact ⟨s₂, o, X.baloadBooleans hx (j := j) (v := v) (by rw [eT]; exact A.1) (State.isArrayOf_alike hZ.alike A.2.1) A.2.2 (pa_in q2 h0 (List.getElem?_eq_some_iff.mp hj).1) (by rw [q2]; simpa using hj) (g := mkF m pc L (.int j :: .ref a :: S)) rfl rfl (hb hby hd) _ st, r⟩
theorem w_aaload (ok : Ok K Z n0 own code maxL ret nm) {ty : FieldType} {a : Addr} {vs : List Value} {j : Int32} {v : Value} (hd : decode code pc = .ok (.aaload, 1)) (A : PA ty Z h a vs) (ht : ty.isReference = true) (h0 : ¬ j < 0) (hj : vs[j.toNatClampNeg]? = some v) (w : W K l R n0 P h k n (pc + 1) L (v :: S)) : W K l R n0 P h k n pc L (.int j :: .ref a :: S) := by
  obtain ⟨p, e, s, m, args, below, meth, c⟩ := K
  obtain ⟨hx, hZ, hown, hby, -⟩ := ok
  intro T locs X eT N
  obtain ⟨s₂, o, st, r⟩ := w T locs X eT N
  obtain ⟨cl, A, q1, q2, q3⟩ := A
  exact ⟨s₂, o, X.aaload hx (j := j) (v := v) (by rw [eT]; exact A.1) (State.isArrayOf_alike hZ.alike A.2.1) ht A.2.2 (pa_in q2 h0 (List.getElem?_eq_some_iff.mp hj).1) (by rw [q2]; simpa using hj) (g := mkF m pc L (.int j :: .ref a :: S)) rfl rfl (hb hby hd) _ st, r⟩
theorem w_iastore (ok : Ok K Z n0 own code maxL ret nm) {a : Addr} {vs : List Value} {j : Int32} {x : Int32} (hd : decode code pc = .ok (.iastore, 1)) (A : PA .int Z h a vs) (ge : n0 ≤ a) (h0 : ¬ j < 0) (hj : j.toNatClampNeg < vs.length) (w : ∀ h', Wr h h' a j.toNatClampNeg (.int x) → PA .int Z h' a (vs.set j.toNatClampNeg (.int x)) → W K l R n0 P h' k n (pc + 1) L S) : W K l R n0 P h k n pc L (.int x :: .int j :: .ref a :: S) := by
  obtain ⟨p, e, s, m, args, below, meth, c⟩ := K
  obtain ⟨hx, hZ, hown, hby, -⟩ := ok
  intro T locs X eT N
  have A0 := A
  obtain ⟨cl, A, q1, q2, q3⟩ := A
  obtain ⟨T1, h1, X1, e1, W1, st⟩ := stI X hx hZ eT A (j := j) (pa_in q2 h0 hj) (g := mkF m pc L (.int x :: .int j :: .ref a :: S)) rfl rfl (hb hby hd)
  obtain ⟨s₂, o, st2, r⟩ := w h1 W1 (A0.set W1 rfl) T1 _ X1 e1 (Fr.snoc X1 N ge)
  exact ⟨s₂, o, st _ st2, r⟩
theorem w_lastore (ok : Ok K Z n0 own code maxL ret nm) {a : Addr} {vs : List Value} {j : Int32} {x : Int64} (hd : decode code pc = .ok (.lastore, 1)) (A : PA .long Z h a vs) (ge : n0 ≤ a) (h0 : ¬ j < 0) (hj : j.toNatClampNeg < vs.length) (w : ∀ h', Wr h h' a j.toNatClampNeg (.long x) → PA .long Z h' a (vs.set j.toNatClampNeg (.long x)) → W K l R n0 P h' k n (pc + 1) L S) : W K l R n0 P h k n pc L (.long x :: .int j :: .ref a :: S) := by
  obtain ⟨p, e, s, m, args, below, meth, c⟩ := K
  obtain ⟨hx, hZ, hown, hby, -⟩ := ok
  intro T locs X eT N
  have A0 := A
  obtain ⟨cl, A, q1, q2, q3⟩ := A
  obtain ⟨T1, h1, X1, e1, W1, st⟩ := stJ X hx hZ eT A (j := j) (pa_in q2 h0 hj) (g := mkF m pc L (.long x :: .int j :: .ref a :: S)) rfl rfl (hb hby hd)
  obtain ⟨s₂, o, st2, r⟩ := w h1 W1 (A0.set W1 rfl) T1 _ X1 e1 (Fr.snoc X1 N ge)
  exact ⟨s₂, o, st _ st2, r⟩
theorem w_castore (ok : Ok K Z n0 own code maxL ret nm) {a : Addr} {vs : List Value} {j : Int32} {x : Int32} (hd : decode code pc = .ok (.castore, 1)) (A : PA .char Z h a vs) (ge : n0 ≤ a) (h0 : ¬ j < 0) (hj : j.toNatClampNeg < vs.length) (w : ∀ h', Wr h h' a j.toNatClampNeg (.int (nar .char x)) → PA .char Z h' a (vs.set j.toNatClampNeg (.int (nar .char x))) → W K l R n0 P h' k n (pc + 1) L S) : W K l R n0 P h k n pc L (.int x :: .int j :: .ref a :: S) := by
  obtain ⟨p, e, s, m, args, below, meth, c⟩ := K
  obtain ⟨hx, hZ, hown, hby, -⟩ := ok
  intro T locs X eT N
  have A0 := A
  obtain ⟨cl, A, q1, q2, q3⟩ := A
  obtain ⟨T1, h1, X1, e1, W1, st⟩ := stC X hx hZ eT A (j := j) (pa_in q2 h0 hj) (g := mkF m pc L (.int x :: .int j :: .ref a :: S)) rfl rfl (hb hby hd)
  obtain ⟨s₂, o, st2, r⟩ := w h1 W1 (A0.set W1 (fits_nar_char x)) T1 _ X1 e1 (Fr.snoc X1 N ge)
  exact ⟨s₂, o, st _ st2, r⟩
theorem w_bastore (ok : Ok K Z n0 own code maxL ret nm) {a : Addr} {vs : List Value} {j : Int32} {x : Int32} (hd : decode code pc = .ok (.bastore, 1)) (A : PA .byte Z h a vs) (ge : n0 ≤ a) (h0 : ¬ j < 0) (hj : j.toNatClampNeg < vs.length) (w : ∀ h', Wr h h' a j.toNatClampNeg (.int (nar .byte x)) → PA .byte Z h' a (vs.set j.toNatClampNeg (.int (nar .byte x))) → W K l R n0 P h' k n (pc + 1) L S) : W K l R n0 P h k n pc L (.int x :: .int j :: .ref a :: S) := by
  obtain ⟨p, e, s, m, args, below, meth, c⟩ := K
  obtain ⟨hx, hZ, hown, hby, -⟩ := ok
  intro T locs X eT N
  have A0 := A
  obtain ⟨cl, A, q1, q2, q3⟩ := A
  obtain ⟨T1, h1, X1, e1, W1, st⟩ := stB X hx hZ eT A (j := j) (pa_in q2 h0 hj) (g := mkF m pc L (.int x :: .int j :: .ref a :: S)) rfl rfl (hb hby hd)
  obtain ⟨s₂, o, st2, r⟩ := w h1 W1 (A0.set W1 (fits_nar_byte x)) T1 _ X1 e1 (Fr.snoc X1 N ge)
  exact ⟨s₂, o, st _ st2, r⟩
theorem w_zastore (ok : Ok K Z n0 own code maxL ret nm) {a : Addr} {vs : List Value} {j : Int32} {x : Int32} (hd : decode code pc = .ok (.bastore, 1)) (A : PA .boolean Z h a vs) (ge : n0 ≤ a) (h0 : ¬ j < 0) (hj : j.toNatClampNeg < vs.length) (w : ∀ h', Wr h h' a j.toNatClampNeg (.int (nar .boolean x)) → PA .boolean Z h' a (vs.set j.toNatClampNeg (.int (nar .boolean x))) → W K l R n0 P h' k n (pc + 1) L S) : W K l R n0 P h k n pc L (.int x :: .int j :: .ref a :: S) := by
  obtain ⟨p, e, s, m, args, below, meth, c⟩ := K
  obtain ⟨hx, hZ, hown, hby, -⟩ := ok
  intro T locs X eT N
  have A0 := A
  obtain ⟨cl, A, q1, q2, q3⟩ := A
  obtain ⟨T1, h1, X1, e1, W1, st⟩ := stZ X hx hZ eT A (j := j) (pa_in q2 h0 hj) (g := mkF m pc L (.int x :: .int j :: .ref a :: S)) rfl rfl (hb hby hd)
  obtain ⟨s₂, o, st2, r⟩ := w h1 W1 (A0.set W1 (fits_nar_bool x)) T1 _ X1 e1 (Fr.snoc X1 N ge)
  exact ⟨s₂, o, st _ st2, r⟩
/-! objects -/
abbrev Fl := List (String × String × String × FieldType)
def Ob (Z : State) (h : Heap) (a : Addr) (C : String) (fl : Fl) (vals : List Value) : Prop := Exa Z h a C ∧ ∀ (i : Nat) f v, fl[i]? = some f → vals[i]? = some v → Fld Z h a f.1 f.2.1 f.2.2.1 v
def LA (Z : State) (a0 : Array Value) (C : String) (fl : Fl) : Prop := (∀ f ∈ fl, Laid Z a0 C f.1 f.2.1 f.2.2.1 ∧ parseFieldDescriptor f.2.2.1 = some f.2.2.2) ∧ (fl.map (·.2.1)).Nodup
section Obs
variable {h' : Heap} {a b : Addr} {C : String} {fl : Fl} {vals : List Value} {v : Value} {sl : Nat} {ws : List Addr}
theorem Ob.lt (O : Ob Z h a C fl vals) : a < h.size := O.1.lt
theorem Ob.ext (O : Ob Z h a C fl vals) (E : Ext h h') : Ob Z h' a C fl vals := ⟨O.1.ext E, fun i f v q r => (O.2 i f v q r).ext E⟩
theorem Ob.other (O : Ob Z h b C fl vals) (W1 : Wr h h' a sl v) (ne : b ≠ a) : Ob Z h' b C fl vals := ⟨O.1.wr W1, fun i f v q r => (O.2 i f v q r).other W1 (Or.inl ne)⟩
theorem Ob.keep (O : Ob Z h a C fl vals) (K1 : Keep h h' ws) (q : a ∉ ws) : Ob Z h' a C fl vals := ⟨O.1.keep K1, fun i f v r r' => (O.2 i f v r r').keep K1 q⟩
theorem Ob.put (O : Ob Z h a C fl vals) (LAs : LA Z a0 C fl) {i : Nat} {f : String × String × String × FieldType} {u : Value} (hf : fl[i]? = some f) (hv : vals[i]? = some u) (W1 : Wr h h' a (Jvm.RoadKit.slotOf Z f.1 f.2.1 f.2.2.1) v) : Ob Z h' a C fl (vals.set i v) := by
  refine ⟨O.1.wr W1, fun j g w hg hw => ?_⟩
  by_cases e : i = j
  · subst e
    cases hf.symm.trans hg
    rw [List.getElem?_set_self (List.getElem?_eq_some_iff.mp hv).1] at hw
    cases hw
    exact (O.2 i f u hf hv).same W1
  · rw [List.getElem?_set_ne e] at hw
    refine (O.2 j g w hg hw).other W1 (Or.inr ?_)
    have m1 := LAs.1 f (List.mem_of_getElem? hf)
    have m2 := LAs.1 g (List.mem_of_getElem? hg)
    refine slot_ne m2.1 m1.1 (fun q => e ?_) m2.2 m1.2
    have hi := (List.getElem?_eq_some_iff.mp hf)
    have hj := (List.getElem?_eq_some_iff.mp hg)
    have nd := LAs.2
    have q1 : (fl.map (·.2.1))[i]? = some f.2.1 := by simp [hf]
    have q2 : (fl.map (·.2.1))[j]? = some f.2.1 := by simp [hg, q]
    exact (List.getElem?_inj (by simpa using hi.1) nd).mp (q1.trans q2.symm)
end Obs
theorem w_getfield (ok : Ok K Z n0 own code maxL ret nm) {index : Nat} {a : Addr} {C R0 host : String} {fl : Fl} {vals : List Value} {v : Value} {f : String × String × String × FieldType} (i : Nat) (hd : decode code pc = .ok (.getfield index, 3)) (w1 : (Cond.fieldLink own index R0 f.2.1 f.2.2.1).before a0 Z = true ∨ (Cond.fieldLinkNest own index R0 f.2.1 f.2.2.1 host).before a0 Z = true) (via : Via Z R0 f.1 f.2.1 f.2.2.1) (O : Ob Z h a C fl vals) (hf : fl[i]? = some f) (hv : vals[i]? = some v)
    (w : W K l R n0 P h k n (pc + 3) L (v :: S)) : W K l R n0 P h k n pc L (.ref a :: S) := by
  obtain ⟨p, e, s, m, args, below, meth, c⟩ := K
  obtain ⟨hx, hZ, hown, hby, -⟩ := ok
  intro T locs X eT N
  obtain ⟨T1, X1, e1, st⟩ := getF X hx hZ hown w1 via eT (O.2 i f v hf hv) (g := mkF m pc L (.ref a :: S)) rfl rfl (hb hby hd)
  obtain ⟨s₂, o, st2, r⟩ := w T1 locs X1 e1 N
  exact ⟨s₂, o, st _ st2, r⟩
theorem w_putfield (ok : Ok K Z n0 own code maxL ret nm) {index kk : Nat} {a : Addr} {C R0 host : String} {fl : Fl} {vals : List Value} {v u : Value} {f : String × String × String × FieldType} (i : Nat) (hd : decode code pc = .ok (.putfield index, 3)) (w1 : (Cond.fieldLink own index R0 f.2.1 f.2.2.1).before a0 Z = true ∨ (Cond.fieldLinkNest own index R0 f.2.1 f.2.2.1 host).before a0 Z = true) (via : Via Z R0 f.1 f.2.1 f.2.2.1) (O : Ob Z h a C fl vals) (LAs : LA Z a0 C fl) (hf : fl[i]? = some f) (hv : vals[i]? = some u)
    (w2 : (Cond.lays C f.1 f.2.1 f.2.2.1).before a0 Z = true ∨ ((Cond.laysFinal C f.1 f.2.1 f.2.2.1).before a0 Z = true ∧ own = f.1 ∧ nm = "<init>")) (w3 : (Cond.instantiable C kk).before a0 Z = true) (hn : narrow f.2.2.2 v = v) (hfit : fits f.2.2.2 v = true) (ge : n0 ≤ a)
    (w : ∀ h', Wr h h' a (Jvm.RoadKit.slotOf Z f.1 f.2.1 f.2.2.1) v → Ob Z h' a C fl (vals.set i v) → W K l R n0 P h' k n (pc + 3) L S) : W K l R n0 P h k n pc L (v :: .ref a :: S) := by
  obtain ⟨p, e, s, m, args, below, meth, c⟩ := K
  obtain ⟨hx, hZ, hown, hby, hml, hret, hnm, hlk, hn0⟩ := ok
  intro T locs X eT N
  obtain ⟨T1, h1, X1, e1, W1, st⟩ := putF X hx hZ hown w1 via eT (O.2 i f u hf hv) O.1 (w2.imp id fun q => ⟨q.1, q.2.1, hnm.trans q.2.2⟩) w3 (LAs.1 f (List.mem_of_getElem? hf)).2 hn hfit (g := mkF m pc L (v :: .ref a :: S)) rfl rfl (hb hby hd)
  obtain ⟨s₂, o, st2, r⟩ := w h1 W1 (O.put LAs hf hv W1) T1 _ X1 e1 (Fr.snoc X1 N ge)
  exact ⟨s₂, o, st _ st2, r⟩
theorem w_new (ok : Ok K Z n0 own code maxL ret nm) {index kk : Nat} {C : String} {fl : Fl} (hd : decode code pc = .ok (.new index, 3)) (w1 : (Cond.classLink own index C).before a0 Z = true) (w2 : (Cond.instantiable C kk).before a0 Z = true) (w3 : (Cond.initialized C).before a0 Z = true) (LAs : LA Z a0 C fl) (hc : k + 1 ≤ R.cells) (hl : n + kk ≤ R.slots)
    (w : ∀ h' a, a = h.size → n0 ≤ a → Ext h h' → Ob Z h' a C fl (fl.map fun f => defaultValue f.2.2.2) → W K l R n0 P h' (k + 1) (n + kk) (pc + 3) L (.ref a :: S)) : W K l R n0 P h k n pc L S := by
  obtain ⟨p, e, s, m, args, below, meth, c⟩ := K
  obtain ⟨hx, hZ, hown, hby, hml, hret, hnm, hlk, hn0⟩ := ok
  intro T locs X eT N
  obtain ⟨T1, h1, X1, e1, E1, A1, D1, -, st⟩ := newO X hx hZ hown w1 w2 w3 eT (g := mkF m pc L S) rfl (hb hby hd) hc hl
  obtain ⟨s₂, o, st2, r⟩ := w h1 h.size rfl (by rw [← eT]; exact old_ge hn0 X N) E1 ⟨A1, fun i f v hf hv => by
    simp [hf] at hv; subst hv
    exact D1 (LAs.1 f (List.mem_of_getElem? hf)).1 (LAs.1 f (List.mem_of_getElem? hf)).2⟩ T1 _ X1 e1 N
  exact ⟨s₂, o, st _ st2, r⟩
theorem w_initO (ok : Ok K Z n0 own code maxL ret nm) {index : Nat} {a : Addr} (hd : decode code pc = .ok (.invokespecial index, 3)) (w1 : (Cond.methodLink own index Lib.objectInit).before a0 Z = true) (w2 : (Cond.instanceMethod Lib.objectInit).before a0 Z = true) (w3 : (Cond.code Lib.objectInit ⟨#[0xb1]⟩ 1 none).before a0 Z = true) (hL : L.size = maxL) (hf : 1 ≤ R.frames) (hl : (S.map fun v => v.category).sum + 12 ≤ R.locals)
    (w : W K l R n0 P h k n (pc + 3) L S) : W K l R n0 P h k n pc L (.ref a :: S) := by
  obtain ⟨p, e, s, m, args, below, meth, c⟩ := K
  obtain ⟨hx, hZ, hown, hby, hml, hret, hnm, hlk, hn0⟩ := ok
  intro T locs X eT N
  obtain ⟨T1, X1, e1, st⟩ := initO X hx hZ hown w1 w2 w3 eT (g := mkF m pc L (.ref a :: S)) rfl (hL.trans hml.symm) rfl (hb hby hd) hf (W := (S.map fun v => v.category).sum) (by show 2 * 0 + _ ≤ _; omega) hl
  obtain ⟨s₂, o, st2, r⟩ := w T1 locs X1 e1 N
  exact ⟨s₂, o, st _ st2, r⟩
theorem w_callI (ok : Ok K Z n0 own code maxL ret nm) {index : Nat} {y : MethodName} {bytes : ByteArray} {mL : Nat} {rm : Room} {a : Addr} {argsL rest : List Value} {Q : Option Value → Heap → Prop} {ps : List FieldType} {r : Option FieldType}
    (hd : decode code pc = .ok (.invokespecial index, 3)) (hy1 : y.name = "<init>") (w1 : (Cond.methodLink own index y).before a0 Z = true) (w2 : (Cond.instanceMethod y).before a0 Z = true) (w3 : (Cond.initialized y.cls).before a0 Z = true) (w4 : (Cond.code y bytes mL none).before a0 Z = true) (hy : notHandle y)
    (pd : parseMethodDescriptor y.desc = some ⟨ps, r⟩) (hlen : argsL.length = ps.length) (hL : L.size = maxL) (hf : rm.frames + 1 ≤ R.frames) (hl : (rest.map fun v => v.category).sum + (mL + 11) + rm.locals ≤ R.locals) (hc : k + rm.cells ≤ R.cells) (hs : n + rm.slots ≤ R.slots)
    (hM : Old Z n0 h → Met l Z n0 y bytes mL none [] rm (.ref a :: argsL).toArray h Q) (w : ∀ v h', Q v h' → W K l R n0 P h' (k + rm.cells) (n + rm.slots) (pc + 3) L (v.toList ++ rest)) : W K l R n0 P h k n pc L (argsL.reverse ++ .ref a :: rest) := by
  obtain ⟨p, e, s, m, args, below, meth, c⟩ := K
  obtain ⟨hx, hZ, hown, hby, hml, hret, hnm, hlk, hn0⟩ := ok
  intro T locs X eT N
  have hM := hM (by rw [← eT]; exact old_now hn0 X N)
  obtain ⟨v, _, ⟨T1, L1, k1, n1⟩, -, X1, ⟨Lc, ⟨hQ, N1⟩, l1, y1, z1⟩, st⟩ := X.specialBack hx (y := y) hy1 hown (mvT hZ w1) (mvT hZ w2) (mvT hZ w4) hy (backOf (W := (rest.map fun v => v.category).sum) (Q := fun v h L => Q v h ∧ Fr n0 L) hM hZ w4 w3 hf hl) (g := mkF m pc L (argsL.reverse ++ .ref a :: rest)) rfl (hL.trans hml.symm) (Steps.refl _) (a := a) (argsL := argsL) (rest := rest) (lenOf pd hlen) rfl (by show 2 * 0 + _ ≤ _; omega) (hb hby hd) (fun _ _ => ⟨rfl, eT, hc, hs⟩)
  dsimp only [Pt.U, Pt.locs, Pt.cells, Pt.slots] at X1 l1 y1 z1 st hQ
  subst l1 y1 z1
  obtain ⟨s₂, o, st2, r2⟩ := w v _ hQ T1 _ X1 rfl (Fr.app N N1)
  exact ⟨s₂, o, st.trans st2, r2⟩
theorem w_callV (ok : Ok K Z n0 own code maxL ret nm) {index : Nat} {C : String} {y : MethodName} {bytes : ByteArray} {mL : Nat} {rt : Option FieldType} {rm : Room} {a : Addr} {argsL rest : List Value} {Q : Option Value → Heap → Prop} {ps : List FieldType} {r : Option FieldType}
    (hd : decode code pc = .ok (.invokevirtual index, 3)) (w1 : (Cond.methodLink own index y).before a0 Z = true) (w2 : (Cond.declares y).before a0 Z = true) (w3 : (Cond.selects C y y).before a0 Z = true) (w4 : (Cond.instanceMethod y).before a0 Z = true) (w5 : (Cond.initialized y.cls).before a0 Z = true) (w6 : (Cond.code y bytes mL rt).before a0 Z = true) (hy : notHandle y)
    (E : Exa Z h a C) (pd : parseMethodDescriptor y.desc = some ⟨ps, r⟩) (hlen : argsL.length = ps.length) (hL : L.size = maxL) (hf : rm.frames + 1 ≤ R.frames) (hl : (rest.map fun v => v.category).sum + (mL + 11) + rm.locals ≤ R.locals) (hc : k + rm.cells ≤ R.cells) (hs : n + rm.slots ≤ R.slots)
    (hM : Old Z n0 h → Met l Z n0 y bytes mL rt [] rm (.ref a :: argsL).toArray h Q) (w : ∀ v h', Q v h' → W K l R n0 P h' (k + rm.cells) (n + rm.slots) (pc + 3) L (v.toList ++ rest)) : W K l R n0 P h k n pc L (argsL.reverse ++ .ref a :: rest) := by
  obtain ⟨p, e, s, m, args, below, meth, c⟩ := K
  obtain ⟨hx, hZ, hown, hby, hml, hret, hnm, hlk, hn0⟩ := ok
  intro T locs X eT N
  have hM := hM (by rw [← eT]; exact old_now hn0 X N)
  obtain ⟨cq, kq, qa, qb, qc⟩ := isOf hZ eT E
  obtain ⟨v, _, ⟨T1, L1, k1, n1⟩, -, X1, ⟨Lc, ⟨hQ, N1⟩, l1, y1, z1⟩, st⟩ := X.virtualBack hx (y := y) (z := y) hown (mvT hZ w1) (mvT hZ w2) (notFace_of_selects (args := #[]) (mvT hZ w3)) (mvT hZ w3) (mvT hZ w4) hy (backOf (W := (rest.map fun v => v.category).sum) (Q := fun v h L => Q v h ∧ Fr n0 L) hM hZ w6 w5 hf hl) qa qc (g := mkF m pc L (argsL.reverse ++ .ref a :: rest)) rfl (hL.trans hml.symm) (Steps.refl _) (argsL := argsL) (rest := rest) (lenOf pd hlen) rfl (by show 2 * 0 + _ ≤ _; omega) (hb hby hd) (fun _ _ => ⟨rfl, eT, hc, hs⟩)
  dsimp only [Pt.U, Pt.locs, Pt.cells, Pt.slots] at X1 l1 y1 z1 st hQ
  subst l1 y1 z1
  obtain ⟨s₂, o, st2, r2⟩ := w v _ hQ T1 _ X1 rfl (Fr.app N N1)
  exact ⟨s₂, o, st.trans st2, r2⟩
theorem w_callP (ok : Ok K Z n0 own code maxL ret nm) {index kk : Nat} {y : MethodName} {bytes : ByteArray} {mL : Nat} {rt : Option FieldType} {rm : Room} {a : Addr} {argsL rest : List Value} {Q : Option Value → Heap → Prop} {ps : List FieldType} {r : Option FieldType}
    (hd : decode code pc = .ok (.invokevirtual index, 3)) (w1 : (Cond.methodLink own index y).before a0 Z = true) (w2 : (Cond.instanceMethod y).before a0 Z = true) (w3 : (Cond.privateMethod y).before a0 Z = true) (w4 : (Cond.instantiable y.cls kk).before a0 Z = true) (w5 : (Cond.initialized y.cls).before a0 Z = true) (w6 : (Cond.code y bytes mL rt).before a0 Z = true) (hy : notHandle y)
    (E : Exa Z h a y.cls) (pd : parseMethodDescriptor y.desc = some ⟨ps, r⟩) (hlen : argsL.length = ps.length) (hL : L.size = maxL) (hf : rm.frames + 1 ≤ R.frames) (hl : (rest.map fun v => v.category).sum + (mL + 11) + rm.locals ≤ R.locals) (hc : k + rm.cells ≤ R.cells) (hs : n + rm.slots ≤ R.slots)
    (hM : Old Z n0 h → Met l Z n0 y bytes mL rt [] rm (.ref a :: argsL).toArray h Q) (w : ∀ v h', Q v h' → W K l R n0 P h' (k + rm.cells) (n + rm.slots) (pc + 3) L (v.toList ++ rest)) : W K l R n0 P h k n pc L (argsL.reverse ++ .ref a :: rest) := by
  obtain ⟨p, e, s, m, args, below, meth, c⟩ := K
  obtain ⟨hx, hZ, hown, hby, hml, hret, hnm, hlk, hn0⟩ := ok
  intro T locs X eT N
  have hM := hM (by rw [← eT]; exact old_now hn0 X N)
  have hP : s.PrivateAt y := Cond.privateMethod_at (mvP hZ w3 (args := #[]))
  obtain ⟨ci, ki, i1, i2, i3, i4, -⟩ := Cond.instantiable_spec (mvT (args := args) hZ w4)
  have hni : ki.isInterface = false := by
    cases q : ki.isInterface
    · rfl
    · rw [q] at i4; cases i4
  have hsel := selects_self_of_private (args := args) i1 i2 hni hP (mvT hZ w2) hy
  obtain ⟨cell, hcell, hobj⟩ := E.cell
  obtain ⟨v, _, ⟨T1, L1, k1, n1⟩, -, X1, ⟨Lc, ⟨hQ, N1⟩, l1, y1, z1⟩, st⟩ := X.privateBack hx (y := y) hown (mvT hZ w1) (mvT hZ w2) hsel hP (mvT hZ w6) hy (backOf (W := (rest.map fun v => v.category).sum) (Q := fun v h L => Q v h ∧ Fr n0 L) hM hZ w6 w5 hf hl) (g := mkF m pc L (argsL.reverse ++ .ref a :: rest)) rfl (hL.trans hml.symm) (Steps.refl _) (a := a) (by rw [eT]; exact hcell) hobj (argsL := argsL) (rest := rest) (lenOf pd hlen) rfl (by show 2 * 0 + _ ≤ _; omega) (hb hby hd) (fun _ _ => ⟨rfl, eT, hc, hs⟩)
  dsimp only [Pt.U, Pt.locs, Pt.cells, Pt.slots] at X1 l1 y1 z1 st hQ
  subst l1 y1 z1
  obtain ⟨s₂, o, st2, r2⟩ := w v _ hQ T1 _ X1 rfl (Fr.app N N1)
  exact ⟨s₂, o, st.trans st2, r2⟩
theorem w_getstatic (ok : Ok K Z n0 own code maxL ret nm) {index : Nat} {R0 O n' d : String} {v : Value} (hd : decode code pc = .ok (.getstatic index, 3)) (w1 : (Cond.fieldLink own index R0 n' d).before a0 Z = true) (via : Via Z R0 O n' d) (F : Sta Z Z.heap O n' d v) (w : W K l R n0 P h k n (pc + 3) L (v :: S)) : W K l R n0 P h k n pc L S := by
  obtain ⟨p, e, s, m, args, below, meth, c⟩ := K
  obtain ⟨hx, hZ, hown, hby, hml, hret, hnm, hlk, hn0⟩ := ok
  intro T locs X eT N
  have O := old_now hn0 X N
  obtain ⟨T1, X1, e1, st⟩ := getS (host := "") X hx hZ hown w1 via rfl (F.ext O.2) (g := mkF m pc L S) rfl (hb hby hd)
  obtain ⟨s₂, o, st2, r⟩ := w T1 locs X1 (e1.trans eT) N
  exact ⟨s₂, o, st _ st2, r⟩
theorem w_acmp (ok : Ok K Z n0 own code maxL ret nm) {cd : ACond} {x y : Value} {o : Int} {pc1 pc' : Nat} (hd : decode code pc = .ok (.if_acmp cd o, 3)) (hp : (pc : Int) + o = (pc1 : Int)) (h1 : x.isRef = true) (h2 : y.isRef = true) (same : Bool) (hq : decide (x = y) = same) (hpc : pc' = if acV cd same = true then pc1 else pc + 3) (w : W K l R n0 P h k n pc' L S) : W K l R n0 P h k n pc L (y :: x :: S) := by
  obtain ⟨p, e, s, m, args, below, meth, c⟩ := K
  obtain ⟨hx, hZ, hown, hby, -⟩ := ok
  intro T locs X eT N
  obtain ⟨s₂, o, st, r⟩ := w T locs X eT N
  exact ⟨s₂, o, acmp X hx rfl h1 h2 (pc0 := pc) (pc' := pc') (same := same) rfl (hb hby hd) rfl hq (by rw [hp]; exact Int.natCast_nonneg _) (by rw [hp]; exact hpc) st, r⟩
theorem w_ifnullY (ok : Ok K Z n0 own code maxL ret nm) {o : Int} {pc' : Nat} (hd : decode code pc = .ok (.ifnull o, 3)) (hp : (pc : Int) + o = (pc' : Int)) (w : W K l R n0 P h k n pc' L S) : W K l R n0 P h k n pc L (.null :: S) := by
  obtain ⟨p, e, s, m, args, below, meth, c⟩ := K
  obtain ⟨hx, hZ, hown, hby, -⟩ := ok
  intro T locs X eT N
  obtain ⟨s₂, o, st, r⟩ := w T locs X eT N
  exact ⟨s₂, o, XS.ifnullYes X.here hx rfl (pc0 := pc) (pc' := pc') rfl (hb hby hd) rfl (by rw [hp]; exact Int.natCast_nonneg _) (by rw [hp]; rfl) st, r⟩
theorem w_ifnullN (ok : Ok K Z n0 own code maxL ret nm) {o : Int} {a : Addr} (hd : decode code pc = .ok (.ifnull o, 3)) (w : W K l R n0 P h k n (pc + 3) L S) : W K l R n0 P h k n pc L (.ref a :: S) := by
  obtain ⟨p, e, s, m, args, below, meth, c⟩ := K
  obtain ⟨hx, hZ, hown, hby, -⟩ := ok
  intro T locs X eT N
  obtain ⟨s₂, o, st, r⟩ := w T locs X eT N
  exact ⟨s₂, o, XS.ifnullNo X.here hx rfl (hb hby hd) rfl st, r⟩
theorem w_ifnonnullY (ok : Ok K Z n0 own code maxL ret nm) {o : Int} {pc' : Nat} {a : Addr} (hd : decode code pc = .ok (.ifnonnull o, 3)) (hp : (pc : Int) + o = (pc' : Int)) (w : W K l R n0 P h k n pc' L S) : W K l R n0 P h k n pc L (.ref a :: S) := by
  obtain ⟨p, e, s, m, args, below, meth, c⟩ := K
  obtain ⟨hx, hZ, hown, hby, -⟩ := ok
  intro T locs X eT N
  obtain ⟨s₂, o, st, r⟩ := w T locs X eT N
  exact ⟨s₂, o, XS.ifnonnullYes X.here hx rfl (pc0 := pc) (pc' := pc') rfl (hb hby hd) rfl (by rw [hp]; exact Int.natCast_nonneg _) (by rw [hp]; rfl) st, r⟩
theorem w_ifnonnullN (ok : Ok K Z n0 own code maxL ret nm) {o : Int} (hd : decode code pc = .ok (.ifnonnull o, 3)) (w : W K l R n0 P h k n (pc + 3) L S) : W K l R n0 P h k n pc L (.null :: S) := by
  obtain ⟨p, e, s, m, args, below, meth, c⟩ := K
  obtain ⟨hx, hZ, hown, hby, -⟩ := ok
  intro T locs X eT N
  obtain ⟨s₂, o, st, r⟩ := w T locs X eT N
  exact ⟨s₂, o, XS.ifnonnullNo X.here hx rfl (hb hby hd) rfl st, r⟩
/-- what may lie in the array at a: objects of C -/
def OvA (Z : State) (h : Heap) (a : Addr) (C : String) : Prop := ∃ c : Cell, h[a]? = some c ∧ Ovr Z c.cls C
theorem OvA.ext {h' : Heap} {a : Addr} {C : String} (A : OvA Z h a C) (E : Ext h h') : OvA Z h' a C := by obtain ⟨c, q, r⟩ := A; exact ⟨c, E.2 _ _ q, r⟩
theorem OvA.keep {h' : Heap} {a : Addr} {C : String} {ws : List Addr} (A : OvA Z h a C) (K1 : Keep h h' ws) : OvA Z h' a C := by obtain ⟨c, q, r⟩ := A; obtain ⟨c', q', r1, r2⟩ := K1.2.2 a c q; exact ⟨c', q', by rw [r1]; exact r⟩
theorem w_anewarray (ok : Ok K Z n0 own code maxL ret nm) {index : Nat} {C : String} {z : Int32} (hd : decode code pc = .ok (.anewarray index, 3)) (w1 : (Cond.classLink own index C).before a0 Z = true) (w2 : (Cond.arrayOver (.object C)).before a0 Z = true) (hz : ¬ z < 0) {cap : Nat} (hcap : z.toNatClampNeg ≤ cap) (hb1 : cap * 8 ≤ 536870912) (hc : k + 1 ≤ R.cells) (hl : n + cap ≤ R.slots)
    (w : ∀ h' a, a = h.size → n0 ≤ a → Ext h h' → PA (.object C) Z h' a (List.replicate z.toNatClampNeg .null) → OvA Z h' a C → W K l R n0 P h' (k + 1) (n + cap) (pc + 3) L (.ref a :: S)) : W K l R n0 P h k n pc L (.int z :: S) := by
  obtain ⟨p, e, s, m, args, below, meth, c⟩ := K
  obtain ⟨hx, hZ, hown, hby, hml, hret, hnm, hlk, hn0⟩ := ok
  intro T locs X eT N
  obtain ⟨T1, h1, cA, X1, e1, E1, A1, O1, st⟩ := newR X hx hZ hown w1 w2 eT (g := mkF m pc L (.int z :: S)) rfl (hb hby hd) rfl hz hcap hb1 hc hl
  have A2 : PA (.object C) Z h1 h.size (List.replicate z.toNatClampNeg .null) := by
    refine ⟨_, A1, by simpa using (back32 hz).2, by simp [newA, defaultValue], fun v hv => ?_⟩
    rw [List.eq_of_mem_replicate hv]; rfl
  obtain ⟨s₂, o, st2, r⟩ := w h1 h.size rfl (by rw [← eT]; exact old_ge hn0 X N) E1 A2 ⟨_, A1.1, O1⟩ T1 _ X1 e1 N
  exact ⟨s₂, o, st _ st2, r⟩
theorem w_aastore (ok : Ok K Z n0 own code maxL ret nm) {ty : FieldType} {C : String} {a b : Addr} {vs : List Value} {j : Int32} (hd : decode code pc = .ok (.aastore, 1)) (A : PA ty Z h a vs) (OA : OvA Z h a C) (I1 : Ins Z h b C true) (hty : ty.isReference = true) (hfit : fits ty (.ref b) = true) (ge : n0 ≤ a) (h0 : ¬ j < 0) (hj : j.toNatClampNeg < vs.length)
    (w : ∀ h', Wr h h' a j.toNatClampNeg (.ref b) → PA ty Z h' a (vs.set j.toNatClampNeg (.ref b)) → W K l R n0 P h' k n (pc + 1) L S) : W K l R n0 P h k n pc L (.ref b :: .int j :: .ref a :: S) := by
  obtain ⟨p, e, s, m, args, below, meth, c⟩ := K
  obtain ⟨hx, hZ, hown, hby, -⟩ := ok
  intro T locs X eT N
  have A0 := A
  obtain ⟨cl, A, q1, q2, q3⟩ := A
  obtain ⟨c2, y1, y2⟩ := OA
  cases A.1.symm.trans y1
  obtain ⟨T1, h1, X1, e1, W1, st⟩ := stR X hx hZ eT A (j := j) (pa_in q2 h0 hj) hty (Sto.of A y2 I1) (g := mkF m pc L (.ref b :: .int j :: .ref a :: S)) rfl rfl (hb hby hd)
  obtain ⟨s₂, o, st2, r⟩ := w h1 W1 (A0.set W1 hfit) T1 _ X1 e1 (Fr.snoc X1 N ge)
  exact ⟨s₂, o, st _ st2, r⟩
theorem frame_fin {s u : State} {L L' : List Loc} {v : Option Value} {c c' n n' : Nat} (hq : FrameEnd s (.returned v) u L c n) (N : Fr s.heap.size L) (h1 : c ≤ c') (h2 : n ≤ n') : FrameEnd s (.returned v) u L' c' n' :=
  ⟨hq.1, hq.2.1, (hq.2.2.sift fun y hy => Or.inr (N y hy)).mono h1 h2⟩
end S
end Jvm.OwnKit
namespace Jvm.Pilot.@@N@@
open Jvm Jvm.ClassFile Sem Op Lib Jvm.Free Jvm.Stand Jvm.LawKit Jvm.RoadKit Bundle Jvm.OwnKit Jvm.Pilot.@@N@@.Jvm.D
abbrev fl_FactTable : Fl := [("com/example/hornconv/hornconv/FactTable", "unary", "[I", (.array .int)), ("com/example/hornconv/hornconv/FactTable", "members", "[J", (.array .long)), ("com/example/hornconv/hornconv/FactTable", "arity", "I", .int), ("com/example/hornconv/hornconv/FactTable", "arguments", "[I", (.array .int)), ("com/example/hornconv/hornconv/FactTable", "dead", "[Z", (.array .boolean)), ("com/example/hornconv/hornconv/FactTable", "slots", "[I", (.array .int)), ("com/example/hornconv/hornconv/FactTable", "positions", "[Lcom/example/hornconv/hornconv/FactTable$PositionIndex;", (.array (.object "com/example/hornconv/hornconv/FactTable$PositionIndex"))), ("com/example/hornconv/hornconv/FactTable", "rows", "I", .int), ("com/example/hornconv/hornconv/FactTable", "live", "I", .int), ("com/example/hornconv/hornconv/FactTable", "used", "I", .int)]
theorem la_FactTable {Z : State} {a0 : Array Value} (hw : ∀ d ∈ tables_1, d.before a0 Z = true) : LA Z a0 "com/example/hornconv/hornconv/FactTable" fl_FactTable := by
  refine ⟨fun f hf => ?_, by decide⟩
  simp only [fl_FactTable, List.mem_cons, List.not_mem_nil, or_false] at hf
  rcases hf with rfl | rfl | rfl | rfl | rfl | rfl | rfl | rfl | rfl | rfl
  · exact ⟨Or.inr (hw _ (List.mem_of_getElem? (i := 11) rfl)), by decide⟩
  · exact ⟨Or.inl (hw _ (List.mem_of_getElem? (i := 14) rfl)), by decide⟩
  · exact ⟨Or.inr (hw _ (List.mem_of_getElem? (i := 16) rfl)), by decide⟩
  · exact ⟨Or.inl (hw _ (List.mem_of_getElem? (i := 18) rfl)), by decide⟩
  · exact ⟨Or.inl (hw _ (List.mem_of_getElem? (i := 21) rfl)), by decide⟩
  · exact ⟨Or.inl (hw _ (List.mem_of_getElem? (i := 23) rfl)), by decide⟩
  · exact ⟨Or.inr (hw _ (List.mem_of_getElem? (i := 31) rfl)), by decide⟩
  · exact ⟨Or.inl (hw _ (List.mem_of_getElem? (i := 47) rfl)), by decide⟩
  · exact ⟨Or.inl (hw _ (List.mem_of_getElem? (i := 53) rfl)), by decide⟩
  · exact ⟨Or.inl (hw _ (List.mem_of_getElem? (i := 55) rfl)), by decide⟩
def sv (N : Nat) (f : Nat → Int32) : List Value := (List.range N).map fun j => Value.int (f j)
def upd (f : Nat → Int32) (r : Nat) (v : Int32) : Nat → Int32 := fun j => if j = r then v else f j
theorem upd_same (f : Nat → Int32) (r : Nat) (v : Int32) : upd f r v r = v := if_pos rfl
theorem upd_ne {f : Nat → Int32} {r j : Nat} {v : Int32} (h : j ≠ r) : upd f r v j = f j := if_neg h
theorem sv_len (N : Nat) (f : Nat → Int32) : (sv N f).length = N := by simp [sv]
theorem sv_get {N : Nat} {f : Nat → Int32} {j : Nat} (h : j < N) : (sv N f)[j]? = some (.int (f j)) := by simp [sv, h]
theorem sv_set (N : Nat) (f : Nat → Int32) (r : Nat) (v : Int32) : (sv N f).set r (.int v) = sv N (upd f r v) := by
  apply List.ext_getElem?
  intro i
  by_cases hi : i < N
  · rw [sv_get hi]
    by_cases e : r = i
    · subst e; rw [List.getElem?_set_self (by rw [sv_len]; exact hi), upd_same]
    · rw [List.getElem?_set_ne e, sv_get hi, upd_ne (Ne.symm e)]
  · rw [List.getElem?_eq_none (by rw [List.length_set, sv_len]; omega), List.getElem?_eq_none (by rw [sv_len]; omega)]
theorem own_ofNat {j : Nat} (h : j < 2147483648) : (Int32.ofNat j).toInt = j := Int32.toInt_ofNat_of_lt h
theorem own_clamp {z : Int32} {n : Nat} (h : z.toInt = n) : z.toNatClampNeg = n := by rw [Int32.toNatClampNeg, h]; rfl
theorem own_nn {z : Int32} {n : Nat} (h : z.toInt = n) : ¬ z < 0 := by rw [Int32.lt_iff_toInt_lt, h]; show ¬ (n : Int) < 0; omega
theorem own_o8 (n : Nat) : (Int32.ofNat (n % 8)).toInt = ((n % 8 : Nat) : Int) := own_ofNat (by omega)
theorem own_nx (n : Nat) : (Int32.ofNat (n % 8) + 1) &&& 7 = Int32.ofNat ((n + 1) % 8) := by
  apply Int32.toInt_inj.mp
  have e1 := own_o8 n; have e2 := own_o8 (n + 1)
  have e3 := c_iadd (Int32.ofNat (n % 8)) 1; have r3 := rng32 (Int32.ofNat (n % 8) + 1); have e4 : (1 : Int32).toInt = 1 := rfl
  have e5 := c_mask (Int32.ofNat (n % 8) + 1) 7 3 (by decide) (by decide)
  rw [e5, e2]; omega
theorem own_st (z : Int32) : z &&& 7 = Int32.ofNat (((z &&& 7).toNatClampNeg + 0) % 8) := by
  apply Int32.toInt_inj.mp
  have e5 := c_mask z 7 3 (by decide) (by decide)
  have e1 := own_o8 ((z &&& 7).toNatClampNeg + 0)
  rw [e1, Int32.toNatClampNeg]; omega
def own_hs (vs : List Int32) : Int32 := (vs.foldl (fun h v => (h + v) * (-1640531527)) 0) ^^^ Jvm.Free.XT.ushr (vs.foldl (fun h v => (h + v) * (-1640531527)) 0) 16
def own_eqr (n : Nat) (as vs : List Int32) (k : Nat) : Int32 := if (as.drop (k * n)).take n = vs then 1 else 0
abbrev Rw (f : Nat → Int32) : Prop := ∀ j, j < 8 → f j = -1 ∨ f j = -2 ∨ f j = 0 ∨ f j = 1 ∨ f j = 2
/-- what find's answer r says: E k: row k is the one looked for; s: the first slot -/
def Fnd (f : Nat → Int32) (E : Nat → Prop) (s r : Nat) : Prop :=
  (¬ f r < 0 ∧ E (f r).toNatClampNeg) ∨ (f r < 0 ∧ ∃ m i, f ((s + m) % 8) = -1 ∧ (∀ j, j < m → f ((s + j) % 8) ≠ -1 ∧ ¬ (¬ f ((s + j) % 8) < 0 ∧ E (f ((s + j) % 8)).toNatClampNeg)) ∧ i ≤ m ∧ r = (s + i) % 8)
theorem own_free {f : Nat → Int32} (r0 r1 : Nat) (h : ∀ j, j < 8 → j ≠ r0 → j ≠ r1 → f j = -1) (s : Nat) : ∃ m, f ((s + m) % 8) = -1 := by
  obtain ⟨j, hj, h0, h1⟩ : ∃ j, j < 8 ∧ j ≠ r0 ∧ j ≠ r1 := by
    by_cases a : (0 ≠ r0 ∧ 0 ≠ r1)
    · exact ⟨0, by omega, a.1, a.2⟩
    · by_cases b : (1 ≠ r0 ∧ 1 ≠ r1)
      · exact ⟨1, by omega, b.1, b.2⟩
      · exact ⟨2, by omega, by omega, by omega⟩
  refine ⟨j + 8 - s % 8, ?_⟩
  rw [show (s + (j + 8 - s % 8)) % 8 = j by omega]
  exact h j hj h0 h1
theorem own_us0 {us : Int32} (h : 0 ≤ us.toInt ∧ us.toInt ≤ 3) : 0 ≤ us.toInt ∧ us.toInt ≤ us.toInt + 1 := by omega
theorem own_us1 {us : Int32} (h : 0 ≤ us.toInt ∧ us.toInt ≤ 3) : 0 ≤ (us + 1).toInt ∧ (us + 1).toInt ≤ us.toInt + 1 := by
  have e := c_iadd us 1; have r := rng32 (us + 1); have e1 : (1 : Int32).toInt = 1 := rfl; omega
theorem own_2usA {us : Int32} (h : 0 ≤ us.toInt ∧ us.toInt ≤ 4) : ¬ 8 < 2 * us := by
  have e := c_imul 2 us; have r := rng32 (2 * us); have e1 : (2 : Int32).toInt = 2 := rfl; have e2 : (8 : Int32).toInt = 8 := rfl
  rw [e1] at e; rw [Int32.lt_iff_toInt_lt, e2]; omega
theorem own_2us {us : Int32} (h : 0 ≤ us.toInt ∧ us.toInt ≤ 3) : ¬ 8 < 2 * us := own_2usA (by omega)
theorem own_2us1 {us : Int32} (h : 0 ≤ us.toInt ∧ us.toInt ≤ 3) : ¬ 8 < 2 * (us + 1) := own_2usA (by have := own_us1 h; omega)
theorem d3_0 : decode jdk_65_method_103_code 0 = .ok (.iconst 0, 1) := by decide +kernel
theorem d3_1 : decode jdk_65_method_103_code 1 = .ok (.istore_n 2, 1) := by decide +kernel
theorem d3_2 : decode jdk_65_method_103_code 2 = .ok (.aload_n 0, 1) := by decide +kernel
theorem d3_3 : decode jdk_65_method_103_code 3 = .ok (.arraylength, 1) := by decide +kernel
theorem d3_4 : decode jdk_65_method_103_code 4 = .ok (.istore_n 3, 1) := by decide +kernel
theorem d3_5 : decode jdk_65_method_103_code 5 = .ok (.iload_n 2, 1) := by decide +kernel
theorem d3_6 : decode jdk_65_method_103_code 6 = .ok (.iload_n 3, 1) := by decide +kernel
theorem d3_7 : decode jdk_65_method_103_code 7 = .ok (.if_icmp .ge 13, 3) := by decide +kernel
theorem d3_10 : decode jdk_65_method_103_code 10 = .ok (.aload_n 0, 1) := by decide +kernel
theorem d3_11 : decode jdk_65_method_103_code 11 = .ok (.iload_n 2, 1) := by decide +kernel
theorem d3_12 : decode jdk_65_method_103_code 12 = .ok (.iload_n 1, 1) := by decide +kernel
theorem d3_13 : decode jdk_65_method_103_code 13 = .ok (.iastore, 1) := by decide +kernel
theorem d3_14 : decode jdk_65_method_103_code 14 = .ok (.iinc 2 1, 3) := by decide +kernel
theorem d3_17 : decode jdk_65_method_103_code 17 = .ok (.goto (-12), 3) := by decide +kernel
theorem d3_20 : decode jdk_65_method_103_code 20 = .ok (.return_, 1) := by decide +kernel
theorem pn_java_util_Arrays : plainName "java/util/Arrays" = true := by first | (simp [plainName, overriddenIn]; done) | decide +kernel
set_option maxRecDepth 65536 in
set_option maxHeartbeats 40000000 in
theorem rm_fill (l : Launch) (Z : State) (a0 : Array Value) (hw : ∀ d ∈ tables_1, d.before a0 Z = true) (ws : List Jvm.Cond) (n0 : Nat) (h0 : Heap) (Z0 : Old Z n0 h0) (a : Addr) (A_a : PA .int Z h0 a [(.int (0 : Int32)), (.int (0 : Int32)), (.int (0 : Int32)), (.int (0 : Int32)), (.int (0 : Int32)), (.int (0 : Int32)), (.int (0 : Int32)), (.int (0 : Int32))]) (ge_a : n0 ≤ a)  :
    Met l Z n0 (⟨"java/util/Arrays", "fill", "([II)V"⟩ : MethodName) jdk_65_method_103_code 4 none ws ({ frames := 0, cells := 0, slots := 0, locals := 0 } : Room) #[(.ref a), (.int (-1 : Int32))] h0 (fun u h => u = none ∧ Keep h0 h [a] ∧ PA .int Z h a [(.int (-1 : Int32)), (.int (-1 : Int32)), (.int (-1 : Int32)), (.int (-1 : Int32)), (.int (-1 : Int32)), (.int (-1 : Int32)), (.int (-1 : Int32)), (.int (-1 : Int32))]) := by
  refine met_of Z0 (plainFor_of_name pn_java_util_Arrays) (Ls := #[.val (.ref a), .val (.int (-1 : Int32)), .unset, .unset]) (fun m => by first | (simp [entryFrame, mkF, argsToLocals, Value.category]; done) | rfl) ?_
  intro K ok
  have Kp : Keep h0 h0 [a] := Keep.refl _ _
  show W K l _ n0 _ h0 0 0 0 #[.val (.ref a), .val (.int (-1 : Int32)), .unset, .unset] []
  refine w_iconst ok d3_0 (v := (0 : Int32)) rfl ?_
  refine w_istoreN ok d3_1 (L' := #[.val (.ref a), .val (.int (-1 : Int32)), .val (.int (0 : Int32)), .unset]) rfl ?_
  refine w_aloadN ok d3_2 rfl rfl ?_
  refine w_arraylength ok (z := (8 : Int32)) d3_3 A_a rfl (by decide) ?_
  show W K l _ n0 _ h0 0 0 4 #[.val (.ref a), .val (.int (-1 : Int32)), .val (.int (0 : Int32)), .unset] [(.int (8 : Int32))]
  refine w_istoreN ok d3_4 (L' := #[.val (.ref a), .val (.int (-1 : Int32)), .val (.int (0 : Int32)), .val (.int (8 : Int32))]) rfl ?_
  refine w_iloadN ok d3_5 rfl ?_
  refine w_iloadN ok d3_6 rfl ?_
  refine w_icmp_ge ok d3_7 (pc' := 20) (by decide) (fun hc1 => False.elim (by revert hc1; decide)) (fun hc1 => ?_)
  show W K l _ n0 _ h0 0 0 10 #[.val (.ref a), .val (.int (-1 : Int32)), .val (.int (0 : Int32)), .val (.int (8 : Int32))] []
  refine w_aloadN ok d3_10 rfl rfl ?_
  refine w_iloadN ok d3_11 rfl ?_
  refine w_iloadN ok d3_12 rfl ?_
  refine w_iastore ok d3_13 A_a ge_a (by decide) (Nat.le_of_ble_eq_true rfl) (fun h2 W_h2 A1_h2 => ?_)
  replace Kp := Kp.wr W_h2 (Or.inl (by simp))
  replace A_a : PA .int Z h2 a [(.int (-1 : Int32)), (.int (0 : Int32)), (.int (0 : Int32)), (.int (0 : Int32)), (.int (0 : Int32)), (.int (0 : Int32)), (.int (0 : Int32)), (.int (0 : Int32))] := A1_h2
  refine w_iinc ok d3_14 (u := (1 : Int32)) rfl rfl (L' := #[.val (.ref a), .val (.int (-1 : Int32)), .val (.int (1 : Int32)), .val (.int (8 : Int32))]) rfl ?_
  show W K l _ n0 _ h2 0 0 17 #[.val (.ref a), .val (.int (-1 : Int32)), .val (.int (1 : Int32)), .val (.int (8 : Int32))] []
  refine w_goto ok d3_17 (pc' := 5) (by decide) ?_
  refine w_iloadN ok d3_5 rfl ?_
  refine w_iloadN ok d3_6 rfl ?_
  refine w_icmp_ge ok d3_7 (pc' := 20) (by decide) (fun hc4 => False.elim (by revert hc4; decide)) (fun hc4 => ?_)
  show W K l _ n0 _ h2 0 0 10 #[.val (.ref a), .val (.int (-1 : Int32)), .val (.int (1 : Int32)), .val (.int (8 : Int32))] []
  refine w_aloadN ok d3_10 rfl rfl ?_
  refine w_iloadN ok d3_11 rfl ?_
  refine w_iloadN ok d3_12 rfl ?_
  refine w_iastore ok d3_13 A_a ge_a (by decide) (Nat.le_of_ble_eq_true rfl) (fun h5 W_h5 A1_h5 => ?_)
  replace Kp := Kp.wr W_h5 (Or.inl (by simp))
  replace A_a : PA .int Z h5 a [(.int (-1 : Int32)), (.int (-1 : Int32)), (.int (0 : Int32)), (.int (0 : Int32)), (.int (0 : Int32)), (.int (0 : Int32)), (.int (0 : Int32)), (.int (0 : Int32))] := A1_h5
  refine w_iinc ok d3_14 (u := (1 : Int32)) rfl rfl (L' := #[.val (.ref a), .val (.int (-1 : Int32)), .val (.int (2 : Int32)), .val (.int (8 : Int32))]) rfl ?_
  show W K l _ n0 _ h5 0 0 17 #[.val (.ref a), .val (.int (-1 : Int32)), .val (.int (2 : Int32)), .val (.int (8 : Int32))] []
  refine w_goto ok d3_17 (pc' := 5) (by decide) ?_
  refine w_iloadN ok d3_5 rfl ?_
  refine w_iloadN ok d3_6 rfl ?_
  refine w_icmp_ge ok d3_7 (pc' := 20) (by decide) (fun hc7 => False.elim (by revert hc7; decide)) (fun hc7 => ?_)
  show W K l _ n0 _ h5 0 0 10 #[.val (.ref a), .val (.int (-1 : Int32)), .val (.int (2 : Int32)), .val (.int (8 : Int32))] []
  refine w_aloadN ok d3_10 rfl rfl ?_
  refine w_iloadN ok d3_11 rfl ?_
  refine w_iloadN ok d3_12 rfl ?_
  refine w_iastore ok d3_13 A_a ge_a (by decide) (Nat.le_of_ble_eq_true rfl) (fun h8 W_h8 A1_h8 => ?_)
  replace Kp := Kp.wr W_h8 (Or.inl (by simp))
  replace A_a : PA .int Z h8 a [(.int (-1 : Int32)), (.int (-1 : Int32)), (.int (-1 : Int32)), (.int (0 : Int32)), (.int (0 : Int32)), (.int (0 : Int32)), (.int (0 : Int32)), (.int (0 : Int32))] := A1_h8
  refine w_iinc ok d3_14 (u := (1 : Int32)) rfl rfl (L' := #[.val (.ref a), .val (.int (-1 : Int32)), .val (.int (3 : Int32)), .val (.int (8 : Int32))]) rfl ?_
  show W K l _ n0 _ h8 0 0 17 #[.val (.ref a), .val (.int (-1 : Int32)), .val (.int (3 : Int32)), .val (.int (8 : Int32))] []
  refine w_goto ok d3_17 (pc' := 5) (by decide) ?_
  refine w_iloadN ok d3_5 rfl ?_
  refine w_iloadN ok d3_6 rfl ?_
  refine w_icmp_ge ok d3_7 (pc' := 20) (by decide) (fun hc10 => False.elim (by revert hc10; decide)) (fun hc10 => ?_)
  show W K l _ n0 _ h8 0 0 10 #[.val (.ref a), .val (.int (-1 : Int32)), .val (.int (3 : Int32)), .val (.int (8 : Int32))] []
  refine w_aloadN ok d3_10 rfl rfl ?_
  refine w_iloadN ok d3_11 rfl ?_
  refine w_iloadN ok d3_12 rfl ?_
  refine w_iastore ok d3_13 A_a ge_a (by decide) (Nat.le_of_ble_eq_true rfl) (fun h11 W_h11 A1_h11 => ?_)
  replace Kp := Kp.wr W_h11 (Or.inl (by simp))
  replace A_a : PA .int Z h11 a [(.int (-1 : Int32)), (.int (-1 : Int32)), (.int (-1 : Int32)), (.int (-1 : Int32)), (.int (0 : Int32)), (.int (0 : Int32)), (.int (0 : Int32)), (.int (0 : Int32))] := A1_h11
  refine w_iinc ok d3_14 (u := (1 : Int32)) rfl rfl (L' := #[.val (.ref a), .val (.int (-1 : Int32)), .val (.int (4 : Int32)), .val (.int (8 : Int32))]) rfl ?_
  show W K l _ n0 _ h11 0 0 17 #[.val (.ref a), .val (.int (-1 : Int32)), .val (.int (4 : Int32)), .val (.int (8 : Int32))] []
  refine w_goto ok d3_17 (pc' := 5) (by decide) ?_
  refine w_iloadN ok d3_5 rfl ?_
  refine w_iloadN ok d3_6 rfl ?_
  refine w_icmp_ge ok d3_7 (pc' := 20) (by decide) (fun hc13 => False.elim (by revert hc13; decide)) (fun hc13 => ?_)
  show W K l _ n0 _ h11 0 0 10 #[.val (.ref a), .val (.int (-1 : Int32)), .val (.int (4 : Int32)), .val (.int (8 : Int32))] []
  refine w_aloadN ok d3_10 rfl rfl ?_
  refine w_iloadN ok d3_11 rfl ?_
  refine w_iloadN ok d3_12 rfl ?_
  refine w_iastore ok d3_13 A_a ge_a (by decide) (Nat.le_of_ble_eq_true rfl) (fun h14 W_h14 A1_h14 => ?_)
  replace Kp := Kp.wr W_h14 (Or.inl (by simp))
  replace A_a : PA .int Z h14 a [(.int (-1 : Int32)), (.int (-1 : Int32)), (.int (-1 : Int32)), (.int (-1 : Int32)), (.int (-1 : Int32)), (.int (0 : Int32)), (.int (0 : Int32)), (.int (0 : Int32))] := A1_h14
  refine w_iinc ok d3_14 (u := (1 : Int32)) rfl rfl (L' := #[.val (.ref a), .val (.int (-1 : Int32)), .val (.int (5 : Int32)), .val (.int (8 : Int32))]) rfl ?_
  show W K l _ n0 _ h14 0 0 17 #[.val (.ref a), .val (.int (-1 : Int32)), .val (.int (5 : Int32)), .val (.int (8 : Int32))] []
  refine w_goto ok d3_17 (pc' := 5) (by decide) ?_
  refine w_iloadN ok d3_5 rfl ?_
  refine w_iloadN ok d3_6 rfl ?_
  refine w_icmp_ge ok d3_7 (pc' := 20) (by decide) (fun hc16 => False.elim (by revert hc16; decide)) (fun hc16 => ?_)
  show W K l _ n0 _ h14 0 0 10 #[.val (.ref a), .val (.int (-1 : Int32)), .val (.int (5 : Int32)), .val (.int (8 : Int32))] []
  refine w_aloadN ok d3_10 rfl rfl ?_
  refine w_iloadN ok d3_11 rfl ?_
  refine w_iloadN ok d3_12 rfl ?_
  refine w_iastore ok d3_13 A_a ge_a (by decide) (Nat.le_of_ble_eq_true rfl) (fun h17 W_h17 A1_h17 => ?_)
  replace Kp := Kp.wr W_h17 (Or.inl (by simp))
  replace A_a : PA .int Z h17 a [(.int (-1 : Int32)), (.int (-1 : Int32)), (.int (-1 : Int32)), (.int (-1 : Int32)), (.int (-1 : Int32)), (.int (-1 : Int32)), (.int (0 : Int32)), (.int (0 : Int32))] := A1_h17
  refine w_iinc ok d3_14 (u := (1 : Int32)) rfl rfl (L' := #[.val (.ref a), .val (.int (-1 : Int32)), .val (.int (6 : Int32)), .val (.int (8 : Int32))]) rfl ?_
  show W K l _ n0 _ h17 0 0 17 #[.val (.ref a), .val (.int (-1 : Int32)), .val (.int (6 : Int32)), .val (.int (8 : Int32))] []
  refine w_goto ok d3_17 (pc' := 5) (by decide) ?_
  refine w_iloadN ok d3_5 rfl ?_
  refine w_iloadN ok d3_6 rfl ?_
  refine w_icmp_ge ok d3_7 (pc' := 20) (by decide) (fun hc19 => False.elim (by revert hc19; decide)) (fun hc19 => ?_)
  show W K l _ n0 _ h17 0 0 10 #[.val (.ref a), .val (.int (-1 : Int32)), .val (.int (6 : Int32)), .val (.int (8 : Int32))] []
  refine w_aloadN ok d3_10 rfl rfl ?_
  refine w_iloadN ok d3_11 rfl ?_
  refine w_iloadN ok d3_12 rfl ?_
  refine w_iastore ok d3_13 A_a ge_a (by decide) (Nat.le_of_ble_eq_true rfl) (fun h20 W_h20 A1_h20 => ?_)
  replace Kp := Kp.wr W_h20 (Or.inl (by simp))
  replace A_a : PA .int Z h20 a [(.int (-1 : Int32)), (.int (-1 : Int32)), (.int (-1 : Int32)), (.int (-1 : Int32)), (.int (-1 : Int32)), (.int (-1 : Int32)), (.int (-1 : Int32)), (.int (0 : Int32))] := A1_h20
  refine w_iinc ok d3_14 (u := (1 : Int32)) rfl rfl (L' := #[.val (.ref a), .val (.int (-1 : Int32)), .val (.int (7 : Int32)), .val (.int (8 : Int32))]) rfl ?_
  show W K l _ n0 _ h20 0 0 17 #[.val (.ref a), .val (.int (-1 : Int32)), .val (.int (7 : Int32)), .val (.int (8 : Int32))] []
  refine w_goto ok d3_17 (pc' := 5) (by decide) ?_
  refine w_iloadN ok d3_5 rfl ?_
  refine w_iloadN ok d3_6 rfl ?_
  refine w_icmp_ge ok d3_7 (pc' := 20) (by decide) (fun hc22 => False.elim (by revert hc22; decide)) (fun hc22 => ?_)
  show W K l _ n0 _ h20 0 0 10 #[.val (.ref a), .val (.int (-1 : Int32)), .val (.int (7 : Int32)), .val (.int (8 : Int32))] []
  refine w_aloadN ok d3_10 rfl rfl ?_
  refine w_iloadN ok d3_11 rfl ?_
  refine w_iloadN ok d3_12 rfl ?_
  refine w_iastore ok d3_13 A_a ge_a (by decide) (Nat.le_of_ble_eq_true rfl) (fun h23 W_h23 A1_h23 => ?_)
  replace Kp := Kp.wr W_h23 (Or.inl (by simp))
  replace A_a : PA .int Z h23 a [(.int (-1 : Int32)), (.int (-1 : Int32)), (.int (-1 : Int32)), (.int (-1 : Int32)), (.int (-1 : Int32)), (.int (-1 : Int32)), (.int (-1 : Int32)), (.int (-1 : Int32))] := A1_h23
  refine w_iinc ok d3_14 (u := (1 : Int32)) rfl rfl (L' := #[.val (.ref a), .val (.int (-1 : Int32)), .val (.int (8 : Int32)), .val (.int (8 : Int32))]) rfl ?_
  show W K l _ n0 _ h23 0 0 17 #[.val (.ref a), .val (.int (-1 : Int32)), .val (.int (8 : Int32)), .val (.int (8 : Int32))] []
  refine w_goto ok d3_17 (pc' := 5) (by decide) ?_
  refine w_iloadN ok d3_5 rfl ?_
  refine w_iloadN ok d3_6 rfl ?_
  refine w_icmp_ge ok d3_7 (pc' := 20) (by decide) (fun hc25 => ?_) (fun hc25 => False.elim (by revert hc25; decide))
  show W K l _ n0 _ h23 0 0 20 #[.val (.ref a), .val (.int (-1 : Int32)), .val (.int (8 : Int32)), .val (.int (8 : Int32))] []
  refine w_ret ok d3_20 (by decide) (by decide) ?_
  exact ⟨rfl, Kp, A_a⟩
theorem d1_0 : decode prog_3_method_1_code 0 = .ok (.aload_n 0, 1) := by decide +kernel
theorem d1_1 : decode prog_3_method_1_code 1 = .ok (.invokespecial 1, 3) := by decide +kernel
theorem d1_4 : decode prog_3_method_1_code 4 = .ok (.aload_n 0, 1) := by decide +kernel
theorem d1_5 : decode prog_3_method_1_code 5 = .ok (.iconst 1, 1) := by decide +kernel
theorem d1_6 : decode prog_3_method_1_code 6 = .ok (.newarray .int, 2) := by decide +kernel
theorem d1_8 : decode prog_3_method_1_code 8 = .ok (.putfield 7, 3) := by decide +kernel
theorem d1_11 : decode prog_3_method_1_code 11 = .ok (.aload_n 0, 1) := by decide +kernel
theorem d1_12 : decode prog_3_method_1_code 12 = .ok (.iconst 0, 1) := by decide +kernel
theorem d1_13 : decode prog_3_method_1_code 13 = .ok (.newarray .long, 2) := by decide +kernel
theorem d1_15 : decode prog_3_method_1_code 15 = .ok (.putfield 13, 3) := by decide +kernel
theorem d1_18 : decode prog_3_method_1_code 18 = .ok (.aload_n 0, 1) := by decide +kernel
theorem d1_19 : decode prog_3_method_1_code 19 = .ok (.iload_n 1, 1) := by decide +kernel
theorem d1_20 : decode prog_3_method_1_code 20 = .ok (.putfield 17, 3) := by decide +kernel
theorem d1_23 : decode prog_3_method_1_code 23 = .ok (.aload_n 0, 1) := by decide +kernel
theorem d1_24 : decode prog_3_method_1_code 24 = .ok (.iconst 4, 1) := by decide +kernel
theorem d1_25 : decode prog_3_method_1_code 25 = .ok (.iload_n 1, 1) := by decide +kernel
theorem d1_26 : decode prog_3_method_1_code 26 = .ok (.imul, 1) := by decide +kernel
theorem d1_27 : decode prog_3_method_1_code 27 = .ok (.newarray .int, 2) := by decide +kernel
theorem d1_29 : decode prog_3_method_1_code 29 = .ok (.putfield 21, 3) := by decide +kernel
theorem d1_32 : decode prog_3_method_1_code 32 = .ok (.aload_n 0, 1) := by decide +kernel
theorem d1_33 : decode prog_3_method_1_code 33 = .ok (.iconst 4, 1) := by decide +kernel
theorem d1_34 : decode prog_3_method_1_code 34 = .ok (.newarray .boolean, 2) := by decide +kernel
theorem d1_36 : decode prog_3_method_1_code 36 = .ok (.putfield 24, 3) := by decide +kernel
theorem d1_39 : decode prog_3_method_1_code 39 = .ok (.aload_n 0, 1) := by decide +kernel
theorem d1_40 : decode prog_3_method_1_code 40 = .ok (.bipush 8, 2) := by decide +kernel
theorem d1_42 : decode prog_3_method_1_code 42 = .ok (.newarray .int, 2) := by decide +kernel
theorem d1_44 : decode prog_3_method_1_code 44 = .ok (.putfield 28, 3) := by decide +kernel
theorem d1_47 : decode prog_3_method_1_code 47 = .ok (.aload_n 0, 1) := by decide +kernel
theorem d1_48 : decode prog_3_method_1_code 48 = .ok (.getfield 28, 3) := by decide +kernel
theorem d1_51 : decode prog_3_method_1_code 51 = .ok (.iconst (-1), 1) := by decide +kernel
theorem d1_52 : decode prog_3_method_1_code 52 = .ok (.invokestatic 31, 3) := by decide +kernel
theorem d1_55 : decode prog_3_method_1_code 55 = .ok (.aload_n 0, 1) := by decide +kernel
theorem d1_56 : decode prog_3_method_1_code 56 = .ok (.iload_n 1, 1) := by decide +kernel
theorem d1_57 : decode prog_3_method_1_code 57 = .ok (.iconst 1, 1) := by decide +kernel
theorem d1_58 : decode prog_3_method_1_code 58 = .ok (.if_icmp .ne 7, 3) := by decide +kernel
theorem d1_61 : decode prog_3_method_1_code 61 = .ok (.iconst 0, 1) := by decide +kernel
theorem d1_62 : decode prog_3_method_1_code 62 = .ok (.goto 4, 3) := by decide +kernel
theorem d1_65 : decode prog_3_method_1_code 65 = .ok (.iload_n 1, 1) := by decide +kernel
theorem d1_66 : decode prog_3_method_1_code 66 = .ok (.anewarray 37, 3) := by decide +kernel
theorem d1_69 : decode prog_3_method_1_code 69 = .ok (.putfield 39, 3) := by decide +kernel
theorem d1_72 : decode prog_3_method_1_code 72 = .ok (.return_, 1) := by decide +kernel
theorem pn_com_example_hornconv_hornconv_FactTable : plainName "com/example/hornconv/hornconv/FactTable" = true := by first | (simp [plainName, overriddenIn]; done) | decide +kernel
theorem pd_285bII29V : parseMethodDescriptor "([II)V" = some ⟨[(.array .int), .int], none⟩ := by decide +kernel
set_option maxRecDepth 65536 in
set_option maxHeartbeats 40000000 in
theorem rm_ctor (l : Launch) (Z : State) (a0 : Array Value) (hw : ∀ d ∈ tables_1, d.before a0 Z = true) (ws : List Jvm.Cond) (n0 : Nat) (h0 : Heap) (Z0 : Old Z n0 h0) (t : Addr) (A_t : Ob Z h0 t "com/example/hornconv/hornconv/FactTable" fl_FactTable [.null, .null, (.int (0 : Int32)), .null, .null, .null, .null, (.int (0 : Int32)), (.int (0 : Int32)), (.int (0 : Int32))]) (ge_t : n0 ≤ t)  :
    Met l Z n0 (⟨"com/example/hornconv/hornconv/FactTable", "<init>", "(I)V"⟩ : MethodName) prog_3_method_1_code 2 none ws ({ frames := 1, cells := 6, slots := 23, locals := 15 } : Room) #[(.ref t), (.int (2 : Int32))] h0 (fun u h => u = none ∧ ∃ un me ag de sl po, (h0.size ≤ ag ∧ h0.size ≤ de ∧ h0.size ≤ sl ∧ h0.size ≤ po) ∧ (n0 ≤ ag ∧ n0 ≤ de ∧ n0 ≤ sl ∧ n0 ≤ po) ∧ (t ≠ ag ∧ t ≠ de ∧ t ≠ sl ∧ t ≠ po ∧ ag ≠ de ∧ ag ≠ sl ∧ ag ≠ po ∧ de ≠ sl ∧ de ≠ po ∧ sl ≠ po) ∧ Keep h0 h [t] ∧ Ob Z h t "com/example/hornconv/hornconv/FactTable" fl_FactTable [(.ref un), (.ref me), (.int (2 : Int32)), (.ref ag), (.ref de), (.ref sl), (.ref po), (.int (0 : Int32)), (.int (0 : Int32)), (.int (0 : Int32))] ∧ PA .int Z h ag [(.int (0 : Int32)), (.int (0 : Int32)), (.int (0 : Int32)), (.int (0 : Int32)), (.int (0 : Int32)), (.int (0 : Int32)), (.int (0 : Int32)), (.int (0 : Int32))] ∧ PA .boolean Z h de [(.int (0 : Int32)), (.int (0 : Int32)), (.int (0 : Int32)), (.int (0 : Int32))] ∧ PA .int Z h sl (sv 8 (fun _ => -1)) ∧ PA (.object "com/example/hornconv/hornconv/FactTable$PositionIndex") Z h po [.null, .null]) := by
  refine met_of Z0 (plainFor_of_name pn_com_example_hornconv_hornconv_FactTable) (Ls := #[.val (.ref t), .val (.int (2 : Int32))]) (fun m => by first | (simp [entryFrame, mkF, argsToLocals, Value.category]; done) | rfl) ?_
  intro K ok
  have Kp : Keep h0 h0 [t] := Keep.refl _ _
  show W K l _ n0 _ h0 0 0 0 #[.val (.ref t), .val (.int (2 : Int32))] []
  refine w_aloadN ok d1_0 rfl rfl ?_
  refine w_initO ok d1_1 (hw _ (List.mem_of_getElem? (i := 7) rfl)) (hw _ (List.mem_of_getElem? (i := 8) rfl)) (hw _ (List.mem_of_getElem? (i := 9) rfl)) rfl (by decide) (Nat.le_of_ble_eq_true rfl) ?_
  show W K l _ n0 _ h0 0 0 4 #[.val (.ref t), .val (.int (2 : Int32))] []
  refine w_aloadN ok d1_4 rfl rfl ?_
  refine w_iconst ok d1_5 (v := (1 : Int32)) rfl ?_
  refine w_newarray ok d1_6 (hw _ (List.mem_of_getElem? (i := 0) rfl)) (by decide) (cap := 1) (by decide) (by decide) (by decide) (by decide) (fun h2 b1 ea_b1 ge_b1 E_b1 A_b1 => ?_)
  have sz_b1 : h0.size ≤ b1 := Nat.le_trans Kp.1 (Nat.le_of_eq ea_b1.symm)
  have ne_t_b1 : t ≠ b1 := fun q => Nat.lt_irrefl _ (Nat.lt_of_lt_of_eq A_t.lt (ea_b1.symm.trans q.symm))
  replace Kp := Kp.ext E_b1
  replace A_t := A_t.ext E_b1
  replace A_b1 : PA .int Z h2 b1 [(.int (0 : Int32))] := A_b1
  refine w_putfield ok (host := "") (f := ("com/example/hornconv/hornconv/FactTable", "unary", "[I", (.array .int))) 0 d1_8 (Or.inl (hw _ (List.mem_of_getElem? (i := 10) rfl))) Via.refl A_t (la_FactTable hw) rfl rfl (Or.inr ⟨(hw _ (List.mem_of_getElem? (i := 11) rfl)), rfl, rfl⟩) (hw _ (List.mem_of_getElem? (i := 2) rfl)) rfl rfl ge_t (fun h3 W_h3 A1_h3 => ?_)
  replace Kp := Kp.wr W_h3 (Or.inl (by simp))
  replace A_b1 := A_b1.other W_h3 (Ne.symm ne_t_b1)
  replace A_t : Ob Z h3 t "com/example/hornconv/hornconv/FactTable" fl_FactTable [(.ref b1), .null, (.int (0 : Int32)), .null, .null, .null, .null, (.int (0 : Int32)), (.int (0 : Int32)), (.int (0 : Int32))] := A1_h3
  refine w_aloadN ok d1_11 rfl rfl ?_
  refine w_iconst ok d1_12 (v := (0 : Int32)) rfl ?_
  refine w_newarray ok d1_13 (hw _ (List.mem_of_getElem? (i := 12) rfl)) (by decide) (cap := 0) (by decide) (by decide) (by decide) (by decide) (fun h5 b4 ea_b4 ge_b4 E_b4 A_b4 => ?_)
  have sz_b4 : h0.size ≤ b4 := Nat.le_trans Kp.1 (Nat.le_of_eq ea_b4.symm)
  have ne_t_b4 : t ≠ b4 := fun q => Nat.lt_irrefl _ (Nat.lt_of_lt_of_eq A_t.lt (ea_b4.symm.trans q.symm))
  have ne_b1_b4 : b1 ≠ b4 := fun q => Nat.lt_irrefl _ (Nat.lt_of_lt_of_eq A_b1.lt (ea_b4.symm.trans q.symm))
  replace Kp := Kp.ext E_b4
  replace A_t := A_t.ext E_b4
  replace A_b1 := A_b1.ext E_b4
  replace A_b4 : PA .long Z h5 b4 [] := A_b4
  refine w_putfield ok (host := "") (f := ("com/example/hornconv/hornconv/FactTable", "members", "[J", (.array .long))) 1 d1_15 (Or.inl (hw _ (List.mem_of_getElem? (i := 13) rfl))) Via.refl A_t (la_FactTable hw) rfl rfl (Or.inl (hw _ (List.mem_of_getElem? (i := 14) rfl))) (hw _ (List.mem_of_getElem? (i := 2) rfl)) rfl rfl ge_t (fun h6 W_h6 A1_h6 => ?_)
  replace Kp := Kp.wr W_h6 (Or.inl (by simp))
  replace A_b1 := A_b1.other W_h6 (Ne.symm ne_t_b1)
  replace A_b4 := A_b4.other W_h6 (Ne.symm ne_t_b4)
  replace A_t : Ob Z h6 t "com/example/hornconv/hornconv/FactTable" fl_FactTable [(.ref b1), (.ref b4), (.int (0 : Int32)), .null, .null, .null, .null, (.int (0 : Int32)), (.int (0 : Int32)), (.int (0 : Int32))] := A1_h6
  refine w_aloadN ok d1_18 rfl rfl ?_
  refine w_iloadN ok d1_19 rfl ?_
  refine w_putfield ok (host := "") (f := ("com/example/hornconv/hornconv/FactTable", "arity", "I", .int)) 2 d1_20 (Or.inl (hw _ (List.mem_of_getElem? (i := 15) rfl))) Via.refl A_t (la_FactTable hw) rfl rfl (Or.inr ⟨(hw _ (List.mem_of_getElem? (i := 16) rfl)), rfl, rfl⟩) (hw _ (List.mem_of_getElem? (i := 2) rfl)) rfl rfl ge_t (fun h7 W_h7 A1_h7 => ?_)
  replace Kp := Kp.wr W_h7 (Or.inl (by simp))
  replace A_b1 := A_b1.other W_h7 (Ne.symm ne_t_b1)
  replace A_b4 := A_b4.other W_h7 (Ne.symm ne_t_b4)
  replace A_t : Ob Z h7 t "com/example/hornconv/hornconv/FactTable" fl_FactTable [(.ref b1), (.ref b4), (.int (2 : Int32)), .null, .null, .null, .null, (.int (0 : Int32)), (.int (0 : Int32)), (.int (0 : Int32))] := A1_h7
  refine w_aloadN ok d1_23 rfl rfl ?_
  refine w_iconst ok d1_24 (v := (4 : Int32)) rfl ?_
  refine w_iloadN ok d1_25 rfl ?_
  refine w_imul ok d1_26 ?_
  show W K l _ n0 _ h7 2 1 27 #[.val (.ref t), .val (.int (2 : Int32))] [(.int (8 : Int32)), (.ref t)]
  refine w_newarray ok d1_27 (hw _ (List.mem_of_getElem? (i := 0) rfl)) (by decide) (cap := 8) (by decide) (by decide) (by decide) (by decide) (fun h9 b8 ea_b8 ge_b8 E_b8 A_b8 => ?_)
  have sz_b8 : h0.size ≤ b8 := Nat.le_trans Kp.1 (Nat.le_of_eq ea_b8.symm)
  have ne_t_b8 : t ≠ b8 := fun q => Nat.lt_irrefl _ (Nat.lt_of_lt_of_eq A_t.lt (ea_b8.symm.trans q.symm))
  have ne_b1_b8 : b1 ≠ b8 := fun q => Nat.lt_irrefl _ (Nat.lt_of_lt_of_eq A_b1.lt (ea_b8.symm.trans q.symm))
  have ne_b4_b8 : b4 ≠ b8 := fun q => Nat.lt_irrefl _ (Nat.lt_of_lt_of_eq A_b4.lt (ea_b8.symm.trans q.symm))
  replace Kp := Kp.ext E_b8
  replace A_t := A_t.ext E_b8
  replace A_b1 := A_b1.ext E_b8
  replace A_b4 := A_b4.ext E_b8
  replace A_b8 : PA .int Z h9 b8 [(.int (0 : Int32)), (.int (0 : Int32)), (.int (0 : Int32)), (.int (0 : Int32)), (.int (0 : Int32)), (.int (0 : Int32)), (.int (0 : Int32)), (.int (0 : Int32))] := A_b8
  refine w_putfield ok (host := "") (f := ("com/example/hornconv/hornconv/FactTable", "arguments", "[I", (.array .int))) 3 d1_29 (Or.inl (hw _ (List.mem_of_getElem? (i := 17) rfl))) Via.refl A_t (la_FactTable hw) rfl rfl (Or.inl (hw _ (List.mem_of_getElem? (i := 18) rfl))) (hw _ (List.mem_of_getElem? (i := 2) rfl)) rfl rfl ge_t (fun h10 W_h10 A1_h10 => ?_)
  replace Kp := Kp.wr W_h10 (Or.inl (by simp))
  replace A_b1 := A_b1.other W_h10 (Ne.symm ne_t_b1)
  replace A_b4 := A_b4.other W_h10 (Ne.symm ne_t_b4)
  replace A_b8 := A_b8.other W_h10 (Ne.symm ne_t_b8)
  replace A_t : Ob Z h10 t "com/example/hornconv/hornconv/FactTable" fl_FactTable [(.ref b1), (.ref b4), (.int (2 : Int32)), (.ref b8), .null, .null, .null, (.int (0 : Int32)), (.int (0 : Int32)), (.int (0 : Int32))] := A1_h10
  refine w_aloadN ok d1_32 rfl rfl ?_
  refine w_iconst ok d1_33 (v := (4 : Int32)) rfl ?_
  refine w_newarray ok d1_34 (hw _ (List.mem_of_getElem? (i := 19) rfl)) (by decide) (cap := 4) (by decide) (by decide) (by decide) (by decide) (fun h12 b11 ea_b11 ge_b11 E_b11 A_b11 => ?_)
  have sz_b11 : h0.size ≤ b11 := Nat.le_trans Kp.1 (Nat.le_of_eq ea_b11.symm)
  have ne_t_b11 : t ≠ b11 := fun q => Nat.lt_irrefl _ (Nat.lt_of_lt_of_eq A_t.lt (ea_b11.symm.trans q.symm))
  have ne_b1_b11 : b1 ≠ b11 := fun q => Nat.lt_irrefl _ (Nat.lt_of_lt_of_eq A_b1.lt (ea_b11.symm.trans q.symm))
  have ne_b4_b11 : b4 ≠ b11 := fun q => Nat.lt_irrefl _ (Nat.lt_of_lt_of_eq A_b4.lt (ea_b11.symm.trans q.symm))
  have ne_b8_b11 : b8 ≠ b11 := fun q => Nat.lt_irrefl _ (Nat.lt_of_lt_of_eq A_b8.lt (ea_b11.symm.trans q.symm))
  replace Kp := Kp.ext E_b11
  replace A_t := A_t.ext E_b11
  replace A_b1 := A_b1.ext E_b11
  replace A_b4 := A_b4.ext E_b11
  replace A_b8 := A_b8.ext E_b11
  replace A_b11 : PA .boolean Z h12 b11 [(.int (0 : Int32)), (.int (0 : Int32)), (.int (0 : Int32)), (.int (0 : Int32))] := A_b11
  refine w_putfield ok (host := "") (f := ("com/example/hornconv/hornconv/FactTable", "dead", "[Z", (.array .boolean))) 4 d1_36 (Or.inl (hw _ (List.mem_of_getElem? (i := 20) rfl))) Via.refl A_t (la_FactTable hw) rfl rfl (Or.inl (hw _ (List.mem_of_getElem? (i := 21) rfl))) (hw _ (List.mem_of_getElem? (i := 2) rfl)) rfl rfl ge_t (fun h13 W_h13 A1_h13 => ?_)
  replace Kp := Kp.wr W_h13 (Or.inl (by simp))
  replace A_b1 := A_b1.other W_h13 (Ne.symm ne_t_b1)
  replace A_b4 := A_b4.other W_h13 (Ne.symm ne_t_b4)
  replace A_b8 := A_b8.other W_h13 (Ne.symm ne_t_b8)
  replace A_b11 := A_b11.other W_h13 (Ne.symm ne_t_b11)
  replace A_t : Ob Z h13 t "com/example/hornconv/hornconv/FactTable" fl_FactTable [(.ref b1), (.ref b4), (.int (2 : Int32)), (.ref b8), (.ref b11), .null, .null, (.int (0 : Int32)), (.int (0 : Int32)), (.int (0 : Int32))] := A1_h13
  refine w_aloadN ok d1_39 rfl rfl ?_
  refine w_bipush ok d1_40 (v := (8 : Int32)) rfl ?_
  refine w_newarray ok d1_42 (hw _ (List.mem_of_getElem? (i := 0) rfl)) (by decide) (cap := 8) (by decide) (by decide) (by decide) (by decide) (fun h15 b14 ea_b14 ge_b14 E_b14 A_b14 => ?_)
  have sz_b14 : h0.size ≤ b14 := Nat.le_trans Kp.1 (Nat.le_of_eq ea_b14.symm)
  have ne_t_b14 : t ≠ b14 := fun q => Nat.lt_irrefl _ (Nat.lt_of_lt_of_eq A_t.lt (ea_b14.symm.trans q.symm))
  have ne_b1_b14 : b1 ≠ b14 := fun q => Nat.lt_irrefl _ (Nat.lt_of_lt_of_eq A_b1.lt (ea_b14.symm.trans q.symm))
  have ne_b4_b14 : b4 ≠ b14 := fun q => Nat.lt_irrefl _ (Nat.lt_of_lt_of_eq A_b4.lt (ea_b14.symm.trans q.symm))
  have ne_b8_b14 : b8 ≠ b14 := fun q => Nat.lt_irrefl _ (Nat.lt_of_lt_of_eq A_b8.lt (ea_b14.symm.trans q.symm))
  have ne_b11_b14 : b11 ≠ b14 := fun q => Nat.lt_irrefl _ (Nat.lt_of_lt_of_eq A_b11.lt (ea_b14.symm.trans q.symm))
  replace Kp := Kp.ext E_b14
  replace A_t := A_t.ext E_b14
  replace A_b1 := A_b1.ext E_b14
  replace A_b4 := A_b4.ext E_b14
  replace A_b8 := A_b8.ext E_b14
  replace A_b11 := A_b11.ext E_b14
  replace A_b14 : PA .int Z h15 b14 [(.int (0 : Int32)), (.int (0 : Int32)), (.int (0 : Int32)), (.int (0 : Int32)), (.int (0 : Int32)), (.int (0 : Int32)), (.int (0 : Int32)), (.int (0 : Int32))] := A_b14
  refine w_putfield ok (host := "") (f := ("com/example/hornconv/hornconv/FactTable", "slots", "[I", (.array .int))) 5 d1_44 (Or.inl (hw _ (List.mem_of_getElem? (i := 22) rfl))) Via.refl A_t (la_FactTable hw) rfl rfl (Or.inl (hw _ (List.mem_of_getElem? (i := 23) rfl))) (hw _ (List.mem_of_getElem? (i := 2) rfl)) rfl rfl ge_t (fun h16 W_h16 A1_h16 => ?_)
  replace Kp := Kp.wr W_h16 (Or.inl (by simp))
  replace A_b1 := A_b1.other W_h16 (Ne.symm ne_t_b1)
  replace A_b4 := A_b4.other W_h16 (Ne.symm ne_t_b4)
  replace A_b8 := A_b8.other W_h16 (Ne.symm ne_t_b8)
  replace A_b11 := A_b11.other W_h16 (Ne.symm ne_t_b11)
  replace A_b14 := A_b14.other W_h16 (Ne.symm ne_t_b14)
  replace A_t : Ob Z h16 t "com/example/hornconv/hornconv/FactTable" fl_FactTable [(.ref b1), (.ref b4), (.int (2 : Int32)), (.ref b8), (.ref b11), (.ref b14), .null, (.int (0 : Int32)), (.int (0 : Int32)), (.int (0 : Int32))] := A1_h16
  refine w_aloadN ok d1_47 rfl rfl ?_
  refine w_getfield ok (v := (.ref b14)) (host := "") (f := ("com/example/hornconv/hornconv/FactTable", "slots", "[I", (.array .int))) 5 d1_48 (Or.inl (hw _ (List.mem_of_getElem? (i := 22) rfl))) Via.refl A_t rfl rfl ?_
  refine w_iconst ok d1_51 (v := (-1 : Int32)) rfl ?_
  refine w_callS ok (y := (⟨"java/util/Arrays", "fill", "([II)V"⟩ : MethodName)) (argsL := [(.ref b14), (.int (-1 : Int32))]) (rest := []) d1_52 (hw _ (List.mem_of_getElem? (i := 24) rfl)) (hw _ (List.mem_of_getElem? (i := 25) rfl)) (hw _ (List.mem_of_getElem? (i := 26) rfl)) (hw _ (List.mem_of_getElem? (i := 27) rfl)) (by decide) pd_285bII29V rfl rfl (by decide) (Nat.le_of_ble_eq_true rfl) (by decide) (by decide) (fun z0 => rm_fill l Z a0 hw [] n0 h16 z0 b14 A_b14 ge_b14) (fun v17 h18 qv17 => ?_)
  obtain ⟨rfl, K1, A1⟩ := qv17
  replace Kp := Kp.trans K1 (allS (Or.inr sz_b14) all0)
  replace A_t := A_t.keep K1 (ninS ne_t_b14 nin0)
  replace A_b1 := A_b1.keep K1 (ninS ne_b1_b14 nin0)
  replace A_b4 := A_b4.keep K1 (ninS ne_b4_b14 nin0)
  replace A_b8 := A_b8.keep K1 (ninS ne_b8_b14 nin0)
  replace A_b11 := A_b11.keep K1 (ninS ne_b11_b14 nin0)
  replace A_b14 := A1
  show W K l _ n0 _ h18 5 21 55 #[.val (.ref t), .val (.int (2 : Int32))] []
  refine w_aloadN ok d1_55 rfl rfl ?_
  refine w_iloadN ok d1_56 rfl ?_
  refine w_iconst ok d1_57 (v := (1 : Int32)) rfl ?_
  refine w_icmp_ne ok d1_58 (pc' := 65) (by decide) (fun hc20 => ?_) (fun hc20 => False.elim (by revert hc20; decide))
  show W K l _ n0 _ h18 5 21 65 #[.val (.ref t), .val (.int (2 : Int32))] [(.ref t)]
  refine w_iloadN ok d1_65 rfl ?_
  refine w_anewarray ok d1_66 (hw _ (List.mem_of_getElem? (i := 28) rfl)) (hw _ (List.mem_of_getElem? (i := 29) rfl)) (by decide) (cap := 2) (by decide) (by decide) (by decide) (by decide) (fun h22 b21 ea_b21 ge_b21 E_b21 A_b21 O_b21 => ?_)
  have sz_b21 : h0.size ≤ b21 := Nat.le_trans Kp.1 (Nat.le_of_eq ea_b21.symm)
  have ne_t_b21 : t ≠ b21 := fun q => Nat.lt_irrefl _ (Nat.lt_of_lt_of_eq A_t.lt (ea_b21.symm.trans q.symm))
  have ne_b1_b21 : b1 ≠ b21 := fun q => Nat.lt_irrefl _ (Nat.lt_of_lt_of_eq A_b1.lt (ea_b21.symm.trans q.symm))
  have ne_b4_b21 : b4 ≠ b21 := fun q => Nat.lt_irrefl _ (Nat.lt_of_lt_of_eq A_b4.lt (ea_b21.symm.trans q.symm))
  have ne_b8_b21 : b8 ≠ b21 := fun q => Nat.lt_irrefl _ (Nat.lt_of_lt_of_eq A_b8.lt (ea_b21.symm.trans q.symm))
  have ne_b11_b21 : b11 ≠ b21 := fun q => Nat.lt_irrefl _ (Nat.lt_of_lt_of_eq A_b11.lt (ea_b21.symm.trans q.symm))
  have ne_b14_b21 : b14 ≠ b21 := fun q => Nat.lt_irrefl _ (Nat.lt_of_lt_of_eq A_b14.lt (ea_b21.symm.trans q.symm))
  replace Kp := Kp.ext E_b21
  replace A_t := A_t.ext E_b21
  replace A_b1 := A_b1.ext E_b21
  replace A_b4 := A_b4.ext E_b21
  replace A_b8 := A_b8.ext E_b21
  replace A_b11 := A_b11.ext E_b21
  replace A_b14 := A_b14.ext E_b21
  replace A_b21 : PA (.object "com/example/hornconv/hornconv/FactTable$PositionIndex") Z h22 b21 [.null, .null] := A_b21
  refine w_putfield ok (host := "") (f := ("com/example/hornconv/hornconv/FactTable", "positions", "[Lcom/example/hornconv/hornconv/FactTable$PositionIndex;", (.array (.object "com/example/hornconv/hornconv/FactTable$PositionIndex")))) 6 d1_69 (Or.inl (hw _ (List.mem_of_getElem? (i := 30) rfl))) Via.refl A_t (la_FactTable hw) rfl rfl (Or.inr ⟨(hw _ (List.mem_of_getElem? (i := 31) rfl)), rfl, rfl⟩) (hw _ (List.mem_of_getElem? (i := 2) rfl)) rfl rfl ge_t (fun h23 W_h23 A1_h23 => ?_)
  replace Kp := Kp.wr W_h23 (Or.inl (by simp))
  replace A_b1 := A_b1.other W_h23 (Ne.symm ne_t_b1)
  replace A_b4 := A_b4.other W_h23 (Ne.symm ne_t_b4)
  replace A_b8 := A_b8.other W_h23 (Ne.symm ne_t_b8)
  replace A_b11 := A_b11.other W_h23 (Ne.symm ne_t_b11)
  replace A_b14 := A_b14.other W_h23 (Ne.symm ne_t_b14)
  replace A_b21 := A_b21.other W_h23 (Ne.symm ne_t_b21)
  replace A_t : Ob Z h23 t "com/example/hornconv/hornconv/FactTable" fl_FactTable [(.ref b1), (.ref b4), (.int (2 : Int32)), (.ref b8), (.ref b11), (.ref b14), (.ref b21), (.int (0 : Int32)), (.int (0 : Int32)), (.int (0 : Int32))] := A1_h23
  refine w_ret ok d1_72 (by decide) (by decide) ?_
  refine ⟨rfl, b1, b4, b8, b11, b14, b21, ⟨sz_b8, sz_b11, sz_b14, sz_b21⟩, ⟨ge_b8, ge_b11, ge_b14, ge_b21⟩, ⟨ne_t_b8, ne_t_b11, ne_t_b14, ne_t_b21, ne_b8_b11, ne_b8_b14, ne_b8_b21, ne_b11_b14, ne_b11_b21, ne_b14_b21⟩, Kp, A_t, A_b8, A_b11, A_b14, A_b21⟩
theorem d5_0 : decode prog_3_method_18_code 0 = .ok (.iconst 0, 1) := by decide +kernel
theorem d5_1 : decode prog_3_method_18_code 1 = .ok (.istore_n 3, 1) := by decide +kernel
theorem d5_2 : decode prog_3_method_18_code 2 = .ok (.iconst 0, 1) := by decide +kernel
theorem d5_3 : decode prog_3_method_18_code 3 = .ok (.istore 4, 2) := by decide +kernel
theorem d5_5 : decode prog_3_method_18_code 5 = .ok (.iload 4, 2) := by decide +kernel
theorem d5_7 : decode prog_3_method_18_code 7 = .ok (.aload_n 0, 1) := by decide +kernel
theorem d5_8 : decode prog_3_method_18_code 8 = .ok (.getfield 17, 3) := by decide +kernel
theorem d5_11 : decode prog_3_method_18_code 11 = .ok (.if_icmp .ge 21, 3) := by decide +kernel
theorem d5_14 : decode prog_3_method_18_code 14 = .ok (.iload_n 3, 1) := by decide +kernel
theorem d5_15 : decode prog_3_method_18_code 15 = .ok (.aload_n 1, 1) := by decide +kernel
theorem d5_16 : decode prog_3_method_18_code 16 = .ok (.iload_n 2, 1) := by decide +kernel
theorem d5_17 : decode prog_3_method_18_code 17 = .ok (.iload 4, 2) := by decide +kernel
theorem d5_19 : decode prog_3_method_18_code 19 = .ok (.iadd, 1) := by decide +kernel
theorem d5_20 : decode prog_3_method_18_code 20 = .ok (.iaload, 1) := by decide +kernel
theorem d5_21 : decode prog_3_method_18_code 21 = .ok (.iadd, 1) := by decide +kernel
theorem d5_22 : decode prog_3_method_18_code 22 = .ok (.ldc 127, 2) := by decide +kernel
theorem d5_24 : decode prog_3_method_18_code 24 = .ok (.imul, 1) := by decide +kernel
theorem d5_25 : decode prog_3_method_18_code 25 = .ok (.istore_n 3, 1) := by decide +kernel
theorem d5_26 : decode prog_3_method_18_code 26 = .ok (.iinc 4 1, 3) := by decide +kernel
theorem d5_29 : decode prog_3_method_18_code 29 = .ok (.goto (-24), 3) := by decide +kernel
theorem d5_32 : decode prog_3_method_18_code 32 = .ok (.iload_n 3, 1) := by decide +kernel
theorem d5_33 : decode prog_3_method_18_code 33 = .ok (.iload_n 3, 1) := by decide +kernel
theorem d5_34 : decode prog_3_method_18_code 34 = .ok (.bipush 16, 2) := by decide +kernel
theorem d5_36 : decode prog_3_method_18_code 36 = .ok (.iushr, 1) := by decide +kernel
theorem d5_37 : decode prog_3_method_18_code 37 = .ok (.ixor, 1) := by decide +kernel
theorem d5_38 : decode prog_3_method_18_code 38 = .ok (.ireturn, 1) := by decide +kernel
set_option maxRecDepth 65536 in
set_option maxHeartbeats 40000000 in
theorem rm_h_2_0 (l : Launch) (Z : State) (a0 : Array Value) (hw : ∀ d ∈ tables_1, d.before a0 Z = true) (ws : List Jvm.Cond) (n0 : Nat) (h0 : Heap) (Z0 : Old Z n0 h0) (t vv un me ag de sl po : Addr) (rw lv us : Int32) (e0 e1 : Int32) (A_t : Ob Z h0 t "com/example/hornconv/hornconv/FactTable" fl_FactTable [(.ref un), (.ref me), (.int (2 : Int32)), (.ref ag), (.ref de), (.ref sl), (.ref po), (.int rw), (.int lv), (.int us)]) (A_v : PA .int Z h0 vv [(.int e0), (.int e1)])  :
    Met l Z n0 (⟨"com/example/hornconv/hornconv/FactTable", "hash", "([II)I"⟩ : MethodName) prog_3_method_18_code 5 (some .int) ws ({ frames := 0, cells := 0, slots := 0, locals := 0 } : Room) #[(.ref t), (.ref vv), (.int (0 : Int32))] h0 (fun u h => u = some (.int (own_hs [e0, e1])) ∧ h0 = h) := by
  refine met_of Z0 (plainFor_of_name pn_com_example_hornconv_hornconv_FactTable) (Ls := #[.val (.ref t), .val (.ref vv), .val (.int (0 : Int32)), .unset, .unset]) (fun m => by first | (simp [entryFrame, mkF, argsToLocals, Value.category]; done) | rfl) ?_
  intro K ok
  show W K l _ n0 _ h0 0 0 0 #[.val (.ref t), .val (.ref vv), .val (.int (0 : Int32)), .unset, .unset] []
  refine w_iconst ok d5_0 (v := (0 : Int32)) rfl ?_
  refine w_istoreN ok d5_1 (L' := #[.val (.ref t), .val (.ref vv), .val (.int (0 : Int32)), .val (.int (0 : Int32)), .unset]) rfl ?_
  refine w_iconst ok d5_2 (v := (0 : Int32)) rfl ?_
  refine w_istore ok d5_3 (L' := #[.val (.ref t), .val (.ref vv), .val (.int (0 : Int32)), .val (.int (0 : Int32)), .val (.int (0 : Int32))]) rfl ?_
  refine w_iload ok d5_5 rfl ?_
  refine w_aloadN ok d5_7 rfl rfl ?_
  refine w_getfield ok (v := (.int (2 : Int32))) (host := "") (f := ("com/example/hornconv/hornconv/FactTable", "arity", "I", .int)) 2 d5_8 (Or.inl (hw _ (List.mem_of_getElem? (i := 15) rfl))) Via.refl A_t rfl rfl ?_
  refine w_icmp_ge ok d5_11 (pc' := 32) (by decide) (fun hc1 => False.elim (by revert hc1; decide)) (fun hc1 => ?_)
  show W K l _ n0 _ h0 0 0 14 #[.val (.ref t), .val (.ref vv), .val (.int (0 : Int32)), .val (.int (0 : Int32)), .val (.int (0 : Int32))] []
  refine w_iloadN ok d5_14 rfl ?_
  refine w_aloadN ok d5_15 rfl rfl ?_
  refine w_iloadN ok d5_16 rfl ?_
  refine w_iload ok d5_17 rfl ?_
  refine w_iadd ok d5_19 ?_
  show W K l _ n0 _ h0 0 0 20 #[.val (.ref t), .val (.ref vv), .val (.int (0 : Int32)), .val (.int (0 : Int32)), .val (.int (0 : Int32))] [(.int (0 : Int32)), (.ref vv), (.int (0 : Int32))]
  refine w_iaload ok (v := (.int e0)) d5_20 A_v (by decide) rfl ?_
  refine w_iadd ok d5_21 ?_
  refine w_ldcI (v := (-1640531527 : Int32)) ok d5_22 (hw _ (List.mem_of_getElem? (i := 41) rfl)) ?_
  refine w_imul ok d5_24 ?_
  refine w_istoreN ok d5_25 (L' := #[.val (.ref t), .val (.ref vv), .val (.int (0 : Int32)), .val (.int (((0 : Int32) + e0) * (-1640531527 : Int32))), .val (.int (0 : Int32))]) rfl ?_
  refine w_iinc ok d5_26 (u := (1 : Int32)) rfl rfl (L' := #[.val (.ref t), .val (.ref vv), .val (.int (0 : Int32)), .val (.int (((0 : Int32) + e0) * (-1640531527 : Int32))), .val (.int (1 : Int32))]) rfl ?_
  show W K l _ n0 _ h0 0 0 29 #[.val (.ref t), .val (.ref vv), .val (.int (0 : Int32)), .val (.int (((0 : Int32) + e0) * (-1640531527 : Int32))), .val (.int (1 : Int32))] []
  refine w_goto ok d5_29 (pc' := 5) (by decide) ?_
  refine w_iload ok d5_5 rfl ?_
  refine w_aloadN ok d5_7 rfl rfl ?_
  refine w_getfield ok (v := (.int (2 : Int32))) (host := "") (f := ("com/example/hornconv/hornconv/FactTable", "arity", "I", .int)) 2 d5_8 (Or.inl (hw _ (List.mem_of_getElem? (i := 15) rfl))) Via.refl A_t rfl rfl ?_
  refine w_icmp_ge ok d5_11 (pc' := 32) (by decide) (fun hc3 => False.elim (by revert hc3; decide)) (fun hc3 => ?_)
  show W K l _ n0 _ h0 0 0 14 #[.val (.ref t), .val (.ref vv), .val (.int (0 : Int32)), .val (.int (((0 : Int32) + e0) * (-1640531527 : Int32))), .val (.int (1 : Int32))] []
  refine w_iloadN ok d5_14 rfl ?_
  refine w_aloadN ok d5_15 rfl rfl ?_
  refine w_iloadN ok d5_16 rfl ?_
  refine w_iload ok d5_17 rfl ?_
  refine w_iadd ok d5_19 ?_
  show W K l _ n0 _ h0 0 0 20 #[.val (.ref t), .val (.ref vv), .val (.int (0 : Int32)), .val (.int (((0 : Int32) + e0) * (-1640531527 : Int32))), .val (.int (1 : Int32))] [(.int (1 : Int32)), (.ref vv), (.int (((0 : Int32) + e0) * (-1640531527 : Int32)))]
  refine w_iaload ok (v := (.int e1)) d5_20 A_v (by decide) rfl ?_
  refine w_iadd ok d5_21 ?_
  refine w_ldcI (v := (-1640531527 : Int32)) ok d5_22 (hw _ (List.mem_of_getElem? (i := 41) rfl)) ?_
  refine w_imul ok d5_24 ?_
  refine w_istoreN ok d5_25 (L' := #[.val (.ref t), .val (.ref vv), .val (.int (0 : Int32)), .val (.int (((((0 : Int32) + e0) * (-1640531527 : Int32)) + e1) * (-1640531527 : Int32))), .val (.int (1 : Int32))]) rfl ?_
  refine w_iinc ok d5_26 (u := (1 : Int32)) rfl rfl (L' := #[.val (.ref t), .val (.ref vv), .val (.int (0 : Int32)), .val (.int (((((0 : Int32) + e0) * (-1640531527 : Int32)) + e1) * (-1640531527 : Int32))), .val (.int (2 : Int32))]) rfl ?_
  show W K l _ n0 _ h0 0 0 29 #[.val (.ref t), .val (.ref vv), .val (.int (0 : Int32)), .val (.int (((((0 : Int32) + e0) * (-1640531527 : Int32)) + e1) * (-1640531527 : Int32))), .val (.int (2 : Int32))] []
  refine w_goto ok d5_29 (pc' := 5) (by decide) ?_
  refine w_iload ok d5_5 rfl ?_
  refine w_aloadN ok d5_7 rfl rfl ?_
  refine w_getfield ok (v := (.int (2 : Int32))) (host := "") (f := ("com/example/hornconv/hornconv/FactTable", "arity", "I", .int)) 2 d5_8 (Or.inl (hw _ (List.mem_of_getElem? (i := 15) rfl))) Via.refl A_t rfl rfl ?_
  refine w_icmp_ge ok d5_11 (pc' := 32) (by decide) (fun hc5 => ?_) (fun hc5 => False.elim (by revert hc5; decide))
  show W K l _ n0 _ h0 0 0 32 #[.val (.ref t), .val (.ref vv), .val (.int (0 : Int32)), .val (.int (((((0 : Int32) + e0) * (-1640531527 : Int32)) + e1) * (-1640531527 : Int32))), .val (.int (2 : Int32))] []
  refine w_iloadN ok d5_32 rfl ?_
  refine w_iloadN ok d5_33 rfl ?_
  refine w_bipush ok d5_34 (v := (16 : Int32)) rfl ?_
  refine w_iushr ok d5_36 ?_
  refine w_ixor ok d5_37 ?_
  refine w_iret ok d5_38 (by decide) (by decide) ?_
  exact ⟨rfl, rfl⟩
set_option maxRecDepth 65536 in
set_option maxHeartbeats 40000000 in
theorem rm_h_8_0 (l : Launch) (Z : State) (a0 : Array Value) (hw : ∀ d ∈ tables_1, d.before a0 Z = true) (ws : List Jvm.Cond) (n0 : Nat) (h0 : Heap) (Z0 : Old Z n0 h0) (t vv un me ag de sl po : Addr) (rw lv us : Int32) (e0 e1 e2 e3 e4 e5 e6 e7 : Int32) (A_t : Ob Z h0 t "com/example/hornconv/hornconv/FactTable" fl_FactTable [(.ref un), (.ref me), (.int (2 : Int32)), (.ref ag), (.ref de), (.ref sl), (.ref po), (.int rw), (.int lv), (.int us)]) (A_v : PA .int Z h0 vv [(.int e0), (.int e1), (.int e2), (.int e3), (.int e4), (.int e5), (.int e6), (.int e7)])  :
    Met l Z n0 (⟨"com/example/hornconv/hornconv/FactTable", "hash", "([II)I"⟩ : MethodName) prog_3_method_18_code 5 (some .int) ws ({ frames := 0, cells := 0, slots := 0, locals := 0 } : Room) #[(.ref t), (.ref vv), (.int (0 : Int32))] h0 (fun u h => u = some (.int (own_hs [e0, e1])) ∧ h0 = h) := by
  refine met_of Z0 (plainFor_of_name pn_com_example_hornconv_hornconv_FactTable) (Ls := #[.val (.ref t), .val (.ref vv), .val (.int (0 : Int32)), .unset, .unset]) (fun m => by first | (simp [entryFrame, mkF, argsToLocals, Value.category]; done) | rfl) ?_
  intro K ok
  show W K l _ n0 _ h0 0 0 0 #[.val (.ref t), .val (.ref vv), .val (.int (0 : Int32)), .unset, .unset] []
  refine w_iconst ok d5_0 (v := (0 : Int32)) rfl ?_
  refine w_istoreN ok d5_1 (L' := #[.val (.ref t), .val (.ref vv), .val (.int (0 : Int32)), .val (.int (0 : Int32)), .unset]) rfl ?_
  refine w_iconst ok d5_2 (v := (0 : Int32)) rfl ?_
  refine w_istore ok d5_3 (L' := #[.val (.ref t), .val (.ref vv), .val (.int (0 : Int32)), .val (.int (0 : Int32)), .val (.int (0 : Int32))]) rfl ?_
  refine w_iload ok d5_5 rfl ?_
  refine w_aloadN ok d5_7 rfl rfl ?_
  refine w_getfield ok (v := (.int (2 : Int32))) (host := "") (f := ("com/example/hornconv/hornconv/FactTable", "arity", "I", .int)) 2 d5_8 (Or.inl (hw _ (List.mem_of_getElem? (i := 15) rfl))) Via.refl A_t rfl rfl ?_
  refine w_icmp_ge ok d5_11 (pc' := 32) (by decide) (fun hc1 => False.elim (by revert hc1; decide)) (fun hc1 => ?_)
  show W K l _ n0 _ h0 0 0 14 #[.val (.ref t), .val (.ref vv), .val (.int (0 : Int32)), .val (.int (0 : Int32)), .val (.int (0 : Int32))] []
  refine w_iloadN ok d5_14 rfl ?_
  refine w_aloadN ok d5_15 rfl rfl ?_
  refine w_iloadN ok d5_16 rfl ?_
  refine w_iload ok d5_17 rfl ?_
  refine w_iadd ok d5_19 ?_
  show W K l _ n0 _ h0 0 0 20 #[.val (.ref t), .val (.ref vv), .val (.int (0 : Int32)), .val (.int (0 : Int32)), .val (.int (0 : Int32))] [(.int (0 : Int32)), (.ref vv), (.int (0 : Int32))]
  refine w_iaload ok (v := (.int e0)) d5_20 A_v (by decide) rfl ?_
  refine w_iadd ok d5_21 ?_
  refine w_ldcI (v := (-1640531527 : Int32)) ok d5_22 (hw _ (List.mem_of_getElem? (i := 41) rfl)) ?_
  refine w_imul ok d5_24 ?_
  refine w_istoreN ok d5_25 (L' := #[.val (.ref t), .val (.ref vv), .val (.int (0 : Int32)), .val (.int (((0 : Int32) + e0) * (-1640531527 : Int32))), .val (.int (0 : Int32))]) rfl ?_
  refine w_iinc ok d5_26 (u := (1 : Int32)) rfl rfl (L' := #[.val (.ref t), .val (.ref vv), .val (.int (0 : Int32)), .val (.int (((0 : Int32) + e0) * (-1640531527 : Int32))), .val (.int (1 : Int32))]) rfl ?_
  show W K l _ n0 _ h0 0 0 29 #[.val (.ref t), .val (.ref vv), .val (.int (0 : Int32)), .val (.int (((0 : Int32) + e0) * (-1640531527 : Int32))), .val (.int (1 : Int32))] []
  refine w_goto ok d5_29 (pc' := 5) (by decide) ?_
  refine w_iload ok d5_5 rfl ?_
  refine w_aloadN ok d5_7 rfl rfl ?_
  refine w_getfield ok (v := (.int (2 : Int32))) (host := "") (f := ("com/example/hornconv/hornconv/FactTable", "arity", "I", .int)) 2 d5_8 (Or.inl (hw _ (List.mem_of_getElem? (i := 15) rfl))) Via.refl A_t rfl rfl ?_
  refine w_icmp_ge ok d5_11 (pc' := 32) (by decide) (fun hc3 => False.elim (by revert hc3; decide)) (fun hc3 => ?_)
  show W K l _ n0 _ h0 0 0 14 #[.val (.ref t), .val (.ref vv), .val (.int (0 : Int32)), .val (.int (((0 : Int32) + e0) * (-1640531527 : Int32))), .val (.int (1 : Int32))] []
  refine w_iloadN ok d5_14 rfl ?_
  refine w_aloadN ok d5_15 rfl rfl ?_
  refine w_iloadN ok d5_16 rfl ?_
  refine w_iload ok d5_17 rfl ?_
  refine w_iadd ok d5_19 ?_
  show W K l _ n0 _ h0 0 0 20 #[.val (.ref t), .val (.ref vv), .val (.int (0 : Int32)), .val (.int (((0 : Int32) + e0) * (-1640531527 : Int32))), .val (.int (1 : Int32))] [(.int (1 : Int32)), (.ref vv), (.int (((0 : Int32) + e0) * (-1640531527 : Int32)))]
  refine w_iaload ok (v := (.int e1)) d5_20 A_v (by decide) rfl ?_
  refine w_iadd ok d5_21 ?_
  refine w_ldcI (v := (-1640531527 : Int32)) ok d5_22 (hw _ (List.mem_of_getElem? (i := 41) rfl)) ?_
  refine w_imul ok d5_24 ?_
  refine w_istoreN ok d5_25 (L' := #[.val (.ref t), .val (.ref vv), .val (.int (0 : Int32)), .val (.int (((((0 : Int32) + e0) * (-1640531527 : Int32)) + e1) * (-1640531527 : Int32))), .val (.int (1 : Int32))]) rfl ?_
  refine w_iinc ok d5_26 (u := (1 : Int32)) rfl rfl (L' := #[.val (.ref t), .val (.ref vv), .val (.int (0 : Int32)), .val (.int (((((0 : Int32) + e0) * (-1640531527 : Int32)) + e1) * (-1640531527 : Int32))), .val (.int (2 : Int32))]) rfl ?_
  show W K l _ n0 _ h0 0 0 29 #[.val (.ref t), .val (.ref vv), .val (.int (0 : Int32)), .val (.int (((((0 : Int32) + e0) * (-1640531527 : Int32)) + e1) * (-1640531527 : Int32))), .val (.int (2 : Int32))] []
  refine w_goto ok d5_29 (pc' := 5) (by decide) ?_
  refine w_iload ok d5_5 rfl ?_
  refine w_aloadN ok d5_7 rfl rfl ?_
  refine w_getfield ok (v := (.int (2 : Int32))) (host := "") (f := ("com/example/hornconv/hornconv/FactTable", "arity", "I", .int)) 2 d5_8 (Or.inl (hw _ (List.mem_of_getElem? (i := 15) rfl))) Via.refl A_t rfl rfl ?_
  refine w_icmp_ge ok d5_11 (pc' := 32) (by decide) (fun hc5 => ?_) (fun hc5 => False.elim (by revert hc5; decide))
  show W K l _ n0 _ h0 0 0 32 #[.val (.ref t), .val (.ref vv), .val (.int (0 : Int32)), .val (.int (((((0 : Int32) + e0) * (-1640531527 : Int32)) + e1) * (-1640531527 : Int32))), .val (.int (2 : Int32))] []
  refine w_iloadN ok d5_32 rfl ?_
  refine w_iloadN ok d5_33 rfl ?_
  refine w_bipush ok d5_34 (v := (16 : Int32)) rfl ?_
  refine w_iushr ok d5_36 ?_
  refine w_ixor ok d5_37 ?_
  refine w_iret ok d5_38 (by decide) (by decide) ?_
  exact ⟨rfl, rfl⟩
set_option maxRecDepth 65536 in
set_option maxHeartbeats 40000000 in
theorem rm_h_8_2 (l : Launch) (Z : State) (a0 : Array Value) (hw : ∀ d ∈ tables_1, d.before a0 Z = true) (ws : List Jvm.Cond) (n0 : Nat) (h0 : Heap) (Z0 : Old Z n0 h0) (t vv un me ag de sl po : Addr) (rw lv us : Int32) (e0 e1 e2 e3 e4 e5 e6 e7 : Int32) (A_t : Ob Z h0 t "com/example/hornconv/hornconv/FactTable" fl_FactTable [(.ref un), (.ref me), (.int (2 : Int32)), (.ref ag), (.ref de), (.ref sl), (.ref po), (.int rw), (.int lv), (.int us)]) (A_v : PA .int Z h0 vv [(.int e0), (.int e1), (.int e2), (.int e3), (.int e4), (.int e5), (.int e6), (.int e7)])  :
    Met l Z n0 (⟨"com/example/hornconv/hornconv/FactTable", "hash", "([II)I"⟩ : MethodName) prog_3_method_18_code 5 (some .int) ws ({ frames := 0, cells := 0, slots := 0, locals := 0 } : Room) #[(.ref t), (.ref vv), (.int (2 : Int32))] h0 (fun u h => u = some (.int (own_hs [e2, e3])) ∧ h0 = h) := by
  refine met_of Z0 (plainFor_of_name pn_com_example_hornconv_hornconv_FactTable) (Ls := #[.val (.ref t), .val (.ref vv), .val (.int (2 : Int32)), .unset, .unset]) (fun m => by first | (simp [entryFrame, mkF, argsToLocals, Value.category]; done) | rfl) ?_
  intro K ok
  show W K l _ n0 _ h0 0 0 0 #[.val (.ref t), .val (.ref vv), .val (.int (2 : Int32)), .unset, .unset] []
  refine w_iconst ok d5_0 (v := (0 : Int32)) rfl ?_
  refine w_istoreN ok d5_1 (L' := #[.val (.ref t), .val (.ref vv), .val (.int (2 : Int32)), .val (.int (0 : Int32)), .unset]) rfl ?_
  refine w_iconst ok d5_2 (v := (0 : Int32)) rfl ?_
  refine w_istore ok d5_3 (L' := #[.val (.ref t), .val (.ref vv), .val (.int (2 : Int32)), .val (.int (0 : Int32)), .val (.int (0 : Int32))]) rfl ?_
  refine w_iload ok d5_5 rfl ?_
  refine w_aloadN ok d5_7 rfl rfl ?_
  refine w_getfield ok (v := (.int (2 : Int32))) (host := "") (f := ("com/example/hornconv/hornconv/FactTable", "arity", "I", .int)) 2 d5_8 (Or.inl (hw _ (List.mem_of_getElem? (i := 15) rfl))) Via.refl A_t rfl rfl ?_
  refine w_icmp_ge ok d5_11 (pc' := 32) (by decide) (fun hc1 => False.elim (by revert hc1; decide)) (fun hc1 => ?_)
  show W K l _ n0 _ h0 0 0 14 #[.val (.ref t), .val (.ref vv), .val (.int (2 : Int32)), .val (.int (0 : Int32)), .val (.int (0 : Int32))] []
  refine w_iloadN ok d5_14 rfl ?_
  refine w_aloadN ok d5_15 rfl rfl ?_
  refine w_iloadN ok d5_16 rfl ?_
  refine w_iload ok d5_17 rfl ?_
  refine w_iadd ok d5_19 ?_
  show W K l _ n0 _ h0 0 0 20 #[.val (.ref t), .val (.ref vv), .val (.int (2 : Int32)), .val (.int (0 : Int32)), .val (.int (0 : Int32))] [(.int (2 : Int32)), (.ref vv), (.int (0 : Int32))]
  refine w_iaload ok (v := (.int e2)) d5_20 A_v (by decide) rfl ?_
  refine w_iadd ok d5_21 ?_
  refine w_ldcI (v := (-1640531527 : Int32)) ok d5_22 (hw _ (List.mem_of_getElem? (i := 41) rfl)) ?_
  refine w_imul ok d5_24 ?_
  refine w_istoreN ok d5_25 (L' := #[.val (.ref t), .val (.ref vv), .val (.int (2 : Int32)), .val (.int (((0 : Int32) + e2) * (-1640531527 : Int32))), .val (.int (0 : Int32))]) rfl ?_
  refine w_iinc ok d5_26 (u := (1 : Int32)) rfl rfl (L' := #[.val (.ref t), .val (.ref vv), .val (.int (2 : Int32)), .val (.int (((0 : Int32) + e2) * (-1640531527 : Int32))), .val (.int (1 : Int32))]) rfl ?_
  show W K l _ n0 _ h0 0 0 29 #[.val (.ref t), .val (.ref vv), .val (.int (2 : Int32)), .val (.int (((0 : Int32) + e2) * (-1640531527 : Int32))), .val (.int (1 : Int32))] []
  refine w_goto ok d5_29 (pc' := 5) (by decide) ?_
  refine w_iload ok d5_5 rfl ?_
  refine w_aloadN ok d5_7 rfl rfl ?_
  refine w_getfield ok (v := (.int (2 : Int32))) (host := "") (f := ("com/example/hornconv/hornconv/FactTable", "arity", "I", .int)) 2 d5_8 (Or.inl (hw _ (List.mem_of_getElem? (i := 15) rfl))) Via.refl A_t rfl rfl ?_
  refine w_icmp_ge ok d5_11 (pc' := 32) (by decide) (fun hc3 => False.elim (by revert hc3; decide)) (fun hc3 => ?_)
  show W K l _ n0 _ h0 0 0 14 #[.val (.ref t), .val (.ref vv), .val (.int (2 : Int32)), .val (.int (((0 : Int32) + e2) * (-1640531527 : Int32))), .val (.int (1 : Int32))] []
  refine w_iloadN ok d5_14 rfl ?_
  refine w_aloadN ok d5_15 rfl rfl ?_
  refine w_iloadN ok d5_16 rfl ?_
  refine w_iload ok d5_17 rfl ?_
  refine w_iadd ok d5_19 ?_
  show W K l _ n0 _ h0 0 0 20 #[.val (.ref t), .val (.ref vv), .val (.int (2 : Int32)), .val (.int (((0 : Int32) + e2) * (-1640531527 : Int32))), .val (.int (1 : Int32))] [(.int (3 : Int32)), (.ref vv), (.int (((0 : Int32) + e2) * (-1640531527 : Int32)))]
  refine w_iaload ok (v := (.int e3)) d5_20 A_v (by decide) rfl ?_
  refine w_iadd ok d5_21 ?_
  refine w_ldcI (v := (-1640531527 : Int32)) ok d5_22 (hw _ (List.mem_of_getElem? (i := 41) rfl)) ?_
  refine w_imul ok d5_24 ?_
  refine w_istoreN ok d5_25 (L' := #[.val (.ref t), .val (.ref vv), .val (.int (2 : Int32)), .val (.int (((((0 : Int32) + e2) * (-1640531527 : Int32)) + e3) * (-1640531527 : Int32))), .val (.int (1 : Int32))]) rfl ?_
  refine w_iinc ok d5_26 (u := (1 : Int32)) rfl rfl (L' := #[.val (.ref t), .val (.ref vv), .val (.int (2 : Int32)), .val (.int (((((0 : Int32) + e2) * (-1640531527 : Int32)) + e3) * (-1640531527 : Int32))), .val (.int (2 : Int32))]) rfl ?_
  show W K l _ n0 _ h0 0 0 29 #[.val (.ref t), .val (.ref vv), .val (.int (2 : Int32)), .val (.int (((((0 : Int32) + e2) * (-1640531527 : Int32)) + e3) * (-1640531527 : Int32))), .val (.int (2 : Int32))] []
  refine w_goto ok d5_29 (pc' := 5) (by decide) ?_
  refine w_iload ok d5_5 rfl ?_
  refine w_aloadN ok d5_7 rfl rfl ?_
  refine w_getfield ok (v := (.int (2 : Int32))) (host := "") (f := ("com/example/hornconv/hornconv/FactTable", "arity", "I", .int)) 2 d5_8 (Or.inl (hw _ (List.mem_of_getElem? (i := 15) rfl))) Via.refl A_t rfl rfl ?_
  refine w_icmp_ge ok d5_11 (pc' := 32) (by decide) (fun hc5 => ?_) (fun hc5 => False.elim (by revert hc5; decide))
  show W K l _ n0 _ h0 0 0 32 #[.val (.ref t), .val (.ref vv), .val (.int (2 : Int32)), .val (.int (((((0 : Int32) + e2) * (-1640531527 : Int32)) + e3) * (-1640531527 : Int32))), .val (.int (2 : Int32))] []
  refine w_iloadN ok d5_32 rfl ?_
  refine w_iloadN ok d5_33 rfl ?_
  refine w_bipush ok d5_34 (v := (16 : Int32)) rfl ?_
  refine w_iushr ok d5_36 ?_
  refine w_ixor ok d5_37 ?_
  refine w_iret ok d5_38 (by decide) (by decide) ?_
  exact ⟨rfl, rfl⟩
theorem d7_0 : decode prog_3_method_17_code 0 = .ok (.iload_n 1, 1) := by decide +kernel
theorem d7_1 : decode prog_3_method_17_code 1 = .ok (.aload_n 0, 1) := by decide +kernel
theorem d7_2 : decode prog_3_method_17_code 2 = .ok (.getfield 17, 3) := by decide +kernel
theorem d7_5 : decode prog_3_method_17_code 5 = .ok (.imul, 1) := by decide +kernel
theorem d7_6 : decode prog_3_method_17_code 6 = .ok (.istore_n 3, 1) := by decide +kernel
theorem d7_7 : decode prog_3_method_17_code 7 = .ok (.iconst 0, 1) := by decide +kernel
theorem d7_8 : decode prog_3_method_17_code 8 = .ok (.istore 4, 2) := by decide +kernel
theorem d7_10 : decode prog_3_method_17_code 10 = .ok (.iload 4, 2) := by decide +kernel
theorem d7_12 : decode prog_3_method_17_code 12 = .ok (.aload_n 0, 1) := by decide +kernel
theorem d7_13 : decode prog_3_method_17_code 13 = .ok (.getfield 17, 3) := by decide +kernel
theorem d7_16 : decode prog_3_method_17_code 16 = .ok (.if_icmp .ge 27, 3) := by decide +kernel
theorem d7_19 : decode prog_3_method_17_code 19 = .ok (.aload_n 0, 1) := by decide +kernel
theorem d7_20 : decode prog_3_method_17_code 20 = .ok (.getfield 21, 3) := by decide +kernel
theorem d7_23 : decode prog_3_method_17_code 23 = .ok (.iload_n 3, 1) := by decide +kernel
theorem d7_24 : decode prog_3_method_17_code 24 = .ok (.iload 4, 2) := by decide +kernel
theorem d7_26 : decode prog_3_method_17_code 26 = .ok (.iadd, 1) := by decide +kernel
theorem d7_27 : decode prog_3_method_17_code 27 = .ok (.iaload, 1) := by decide +kernel
theorem d7_28 : decode prog_3_method_17_code 28 = .ok (.aload_n 2, 1) := by decide +kernel
theorem d7_29 : decode prog_3_method_17_code 29 = .ok (.iload 4, 2) := by decide +kernel
theorem d7_31 : decode prog_3_method_17_code 31 = .ok (.iaload, 1) := by decide +kernel
theorem d7_32 : decode prog_3_method_17_code 32 = .ok (.if_icmp .eq 5, 3) := by decide +kernel
theorem d7_35 : decode prog_3_method_17_code 35 = .ok (.iconst 0, 1) := by decide +kernel
theorem d7_36 : decode prog_3_method_17_code 36 = .ok (.ireturn, 1) := by decide +kernel
theorem d7_37 : decode prog_3_method_17_code 37 = .ok (.iinc 4 1, 3) := by decide +kernel
theorem d7_40 : decode prog_3_method_17_code 40 = .ok (.goto (-30), 3) := by decide +kernel
theorem d7_43 : decode prog_3_method_17_code 43 = .ok (.iconst 1, 1) := by decide +kernel
theorem d7_44 : decode prog_3_method_17_code 44 = .ok (.ireturn, 1) := by decide +kernel
set_option maxRecDepth 65536 in
set_option maxHeartbeats 40000000 in
theorem rm_eq (l : Launch) (Z : State) (a0 : Array Value) (hw : ∀ d ∈ tables_1, d.before a0 Z = true) (ws : List Jvm.Cond) (n0 : Nat) (h0 : Heap) (Z0 : Old Z n0 h0) (t vv un me ag de sl po : Addr) (rw lv us : Int32) (x0 x1 x2 x3 x4 x5 x6 x7 y0 y1 : Int32) (A_t : Ob Z h0 t "com/example/hornconv/hornconv/FactTable" fl_FactTable [(.ref un), (.ref me), (.int (2 : Int32)), (.ref ag), (.ref de), (.ref sl), (.ref po), (.int rw), (.int lv), (.int us)]) (A_ag : PA .int Z h0 ag [(.int x0), (.int x1), (.int x2), (.int x3), (.int x4), (.int x5), (.int x6), (.int x7)]) (A_v : PA .int Z h0 vv [(.int y0), (.int y1)]) (row : Int32) (hrow : row = 0 ∨ row = 1 ∨ row = 2) :
    Met l Z n0 (⟨"com/example/hornconv/hornconv/FactTable", "equalsRow", "(I[I)Z"⟩ : MethodName) prog_3_method_17_code 5 (some .boolean) ws ({ frames := 0, cells := 0, slots := 0, locals := 0 } : Room) #[.ref t, .int row, .ref vv] h0 (fun u h => u = some (.int (own_eqr 2 [x0, x1, x2, x3, x4, x5, x6, x7] [y0, y1] row.toNatClampNeg)) ∧ h0 = h) := by
  refine met_of Z0 (plainFor_of_name pn_com_example_hornconv_hornconv_FactTable) (Ls := #[.val (.ref t), .val (.int row), .val (.ref vv), .unset, .unset]) (fun m => by first | (simp [entryFrame, mkF, argsToLocals, Value.category]; done) | rfl) ?_
  intro K ok
  rcases hrow with rfl | rfl | rfl
  · skip
    show W K l _ n0 _ h0 0 0 0 #[.val (.ref t), .val (.int (0 : Int32)), .val (.ref vv), .unset, .unset] []
    refine w_iloadN ok d7_0 rfl ?_
    refine w_aloadN ok d7_1 rfl rfl ?_
    refine w_getfield ok (v := (.int (2 : Int32))) (host := "") (f := ("com/example/hornconv/hornconv/FactTable", "arity", "I", .int)) 2 d7_2 (Or.inl (hw _ (List.mem_of_getElem? (i := 15) rfl))) Via.refl A_t rfl rfl ?_
    refine w_imul ok d7_5 ?_
    show W K l _ n0 _ h0 0 0 6 #[.val (.ref t), .val (.int (0 : Int32)), .val (.ref vv), .unset, .unset] [(.int (0 : Int32))]
    refine w_istoreN ok d7_6 (L' := #[.val (.ref t), .val (.int (0 : Int32)), .val (.ref vv), .val (.int (0 : Int32)), .unset]) rfl ?_
    refine w_iconst ok d7_7 (v := (0 : Int32)) rfl ?_
    refine w_istore ok d7_8 (L' := #[.val (.ref t), .val (.int (0 : Int32)), .val (.ref vv), .val (.int (0 : Int32)), .val (.int (0 : Int32))]) rfl ?_
    refine w_iload ok d7_10 rfl ?_
    refine w_aloadN ok d7_12 rfl rfl ?_
    refine w_getfield ok (v := (.int (2 : Int32))) (host := "") (f := ("com/example/hornconv/hornconv/FactTable", "arity", "I", .int)) 2 d7_13 (Or.inl (hw _ (List.mem_of_getElem? (i := 15) rfl))) Via.refl A_t rfl rfl ?_
    refine w_icmp_ge ok d7_16 (pc' := 43) (by decide) (fun hc1 => False.elim (by revert hc1; decide)) (fun hc1 => ?_)
    show W K l _ n0 _ h0 0 0 19 #[.val (.ref t), .val (.int (0 : Int32)), .val (.ref vv), .val (.int (0 : Int32)), .val (.int (0 : Int32))] []
    refine w_aloadN ok d7_19 rfl rfl ?_
    refine w_getfield ok (v := (.ref ag)) (host := "") (f := ("com/example/hornconv/hornconv/FactTable", "arguments", "[I", (.array .int))) 3 d7_20 (Or.inl (hw _ (List.mem_of_getElem? (i := 17) rfl))) Via.refl A_t rfl rfl ?_
    refine w_iloadN ok d7_23 rfl ?_
    refine w_iload ok d7_24 rfl ?_
    refine w_iadd ok d7_26 ?_
    show W K l _ n0 _ h0 0 0 27 #[.val (.ref t), .val (.int (0 : Int32)), .val (.ref vv), .val (.int (0 : Int32)), .val (.int (0 : Int32))] [(.int (0 : Int32)), (.ref ag)]
    refine w_iaload ok (v := (.int x0)) d7_27 A_ag (by decide) rfl ?_
    refine w_aloadN ok d7_28 rfl rfl ?_
    refine w_iload ok d7_29 rfl ?_
    refine w_iaload ok (v := (.int y0)) d7_31 A_v (by decide) rfl ?_
    refine w_icmp_eq ok d7_32 (pc' := 37) (by decide) (fun hc3 => ?_) (fun hc3 => ?_)
    · show W K l _ n0 _ h0 0 0 37 #[.val (.ref t), .val (.int (0 : Int32)), .val (.ref vv), .val (.int (0 : Int32)), .val (.int (0 : Int32))] []
      refine w_iinc ok d7_37 (u := (1 : Int32)) rfl rfl (L' := #[.val (.ref t), .val (.int (0 : Int32)), .val (.ref vv), .val (.int (0 : Int32)), .val (.int (1 : Int32))]) rfl ?_
      show W K l _ n0 _ h0 0 0 40 #[.val (.ref t), .val (.int (0 : Int32)), .val (.ref vv), .val (.int (0 : Int32)), .val (.int (1 : Int32))] []
      refine w_goto ok d7_40 (pc' := 10) (by decide) ?_
      refine w_iload ok d7_10 rfl ?_
      refine w_aloadN ok d7_12 rfl rfl ?_
      refine w_getfield ok (v := (.int (2 : Int32))) (host := "") (f := ("com/example/hornconv/hornconv/FactTable", "arity", "I", .int)) 2 d7_13 (Or.inl (hw _ (List.mem_of_getElem? (i := 15) rfl))) Via.refl A_t rfl rfl ?_
      refine w_icmp_ge ok d7_16 (pc' := 43) (by decide) (fun hc5 => False.elim (by revert hc5; decide)) (fun hc5 => ?_)
      show W K l _ n0 _ h0 0 0 19 #[.val (.ref t), .val (.int (0 : Int32)), .val (.ref vv), .val (.int (0 : Int32)), .val (.int (1 : Int32))] []
      refine w_aloadN ok d7_19 rfl rfl ?_
      refine w_getfield ok (v := (.ref ag)) (host := "") (f := ("com/example/hornconv/hornconv/FactTable", "arguments", "[I", (.array .int))) 3 d7_20 (Or.inl (hw _ (List.mem_of_getElem? (i := 17) rfl))) Via.refl A_t rfl rfl ?_
      refine w_iloadN ok d7_23 rfl ?_
      refine w_iload ok d7_24 rfl ?_
      refine w_iadd ok d7_26 ?_
      show W K l _ n0 _ h0 0 0 27 #[.val (.ref t), .val (.int (0 : Int32)), .val (.ref vv), .val (.int (0 : Int32)), .val (.int (1 : Int32))] [(.int (1 : Int32)), (.ref ag)]
      refine w_iaload ok (v := (.int x1)) d7_27 A_ag (by decide) rfl ?_
      refine w_aloadN ok d7_28 rfl rfl ?_
      refine w_iload ok d7_29 rfl ?_
      refine w_iaload ok (v := (.int y1)) d7_31 A_v (by decide) rfl ?_
      refine w_icmp_eq ok d7_32 (pc' := 37) (by decide) (fun hc7 => ?_) (fun hc7 => ?_)
      · show W K l _ n0 _ h0 0 0 37 #[.val (.ref t), .val (.int (0 : Int32)), .val (.ref vv), .val (.int (0 : Int32)), .val (.int (1 : Int32))] []
        refine w_iinc ok d7_37 (u := (1 : Int32)) rfl rfl (L' := #[.val (.ref t), .val (.int (0 : Int32)), .val (.ref vv), .val (.int (0 : Int32)), .val (.int (2 : Int32))]) rfl ?_
        show W K l _ n0 _ h0 0 0 40 #[.val (.ref t), .val (.int (0 : Int32)), .val (.ref vv), .val (.int (0 : Int32)), .val (.int (2 : Int32))] []
        refine w_goto ok d7_40 (pc' := 10) (by decide) ?_
        refine w_iload ok d7_10 rfl ?_
        refine w_aloadN ok d7_12 rfl rfl ?_
        refine w_getfield ok (v := (.int (2 : Int32))) (host := "") (f := ("com/example/hornconv/hornconv/FactTable", "arity", "I", .int)) 2 d7_13 (Or.inl (hw _ (List.mem_of_getElem? (i := 15) rfl))) Via.refl A_t rfl rfl ?_
        refine w_icmp_ge ok d7_16 (pc' := 43) (by decide) (fun hc9 => ?_) (fun hc9 => False.elim (by revert hc9; decide))
        show W K l _ n0 _ h0 0 0 43 #[.val (.ref t), .val (.int (0 : Int32)), .val (.ref vv), .val (.int (0 : Int32)), .val (.int (2 : Int32))] []
        refine w_iconst ok d7_43 (v := (1 : Int32)) rfl ?_
        refine w_bret ok (by simp) d7_44 (by decide) (by decide) ?_
        refine ⟨?_, rfl⟩
        have e : (([x0, x1, x2, x3, x4, x5, x6, x7] : List Int32).drop (0 * 2)).take 2 = [x0, x1] := rfl
        show _ = some (Value.int (own_eqr 2 [x0, x1, x2, x3, x4, x5, x6, x7] [y0, y1] 0))
        rw [own_eqr, e]
        simp only [List.cons.injEq, and_true, hc3, hc7]
        try rfl
        try (simp; rfl)
      · show W K l _ n0 _ h0 0 0 35 #[.val (.ref t), .val (.int (0 : Int32)), .val (.ref vv), .val (.int (0 : Int32)), .val (.int (1 : Int32))] []
        refine w_iconst ok d7_35 (v := (0 : Int32)) rfl ?_
        refine w_bret ok (by simp) d7_36 (by decide) (by decide) ?_
        refine ⟨?_, rfl⟩
        have e : (([x0, x1, x2, x3, x4, x5, x6, x7] : List Int32).drop (0 * 2)).take 2 = [x0, x1] := rfl
        show _ = some (Value.int (own_eqr 2 [x0, x1, x2, x3, x4, x5, x6, x7] [y0, y1] 0))
        rw [own_eqr, e]
        simp only [List.cons.injEq, and_true, hc3, hc7]
        try rfl
        try (simp; rfl)
    · show W K l _ n0 _ h0 0 0 35 #[.val (.ref t), .val (.int (0 : Int32)), .val (.ref vv), .val (.int (0 : Int32)), .val (.int (0 : Int32))] []
      refine w_iconst ok d7_35 (v := (0 : Int32)) rfl ?_
      refine w_bret ok (by simp) d7_36 (by decide) (by decide) ?_
      refine ⟨?_, rfl⟩
      have e : (([x0, x1, x2, x3, x4, x5, x6, x7] : List Int32).drop (0 * 2)).take 2 = [x0, x1] := rfl
      show _ = some (Value.int (own_eqr 2 [x0, x1, x2, x3, x4, x5, x6, x7] [y0, y1] 0))
      rw [own_eqr, e]
      simp only [List.cons.injEq, and_true, hc3]
      try rfl
      try (simp; rfl)
  · skip
    show W K l _ n0 _ h0 0 0 0 #[.val (.ref t), .val (.int (1 : Int32)), .val (.ref vv), .unset, .unset] []
    refine w_iloadN ok d7_0 rfl ?_
    refine w_aloadN ok d7_1 rfl rfl ?_
    refine w_getfield ok (v := (.int (2 : Int32))) (host := "") (f := ("com/example/hornconv/hornconv/FactTable", "arity", "I", .int)) 2 d7_2 (Or.inl (hw _ (List.mem_of_getElem? (i := 15) rfl))) Via.refl A_t rfl rfl ?_
    refine w_imul ok d7_5 ?_
    show W K l _ n0 _ h0 0 0 6 #[.val (.ref t), .val (.int (1 : Int32)), .val (.ref vv), .unset, .unset] [(.int (2 : Int32))]
    refine w_istoreN ok d7_6 (L' := #[.val (.ref t), .val (.int (1 : Int32)), .val (.ref vv), .val (.int (2 : Int32)), .unset]) rfl ?_
    refine w_iconst ok d7_7 (v := (0 : Int32)) rfl ?_
    refine w_istore ok d7_8 (L' := #[.val (.ref t), .val (.int (1 : Int32)), .val (.ref vv), .val (.int (2 : Int32)), .val (.int (0 : Int32))]) rfl ?_
    refine w_iload ok d7_10 rfl ?_
    refine w_aloadN ok d7_12 rfl rfl ?_
    refine w_getfield ok (v := (.int (2 : Int32))) (host := "") (f := ("com/example/hornconv/hornconv/FactTable", "arity", "I", .int)) 2 d7_13 (Or.inl (hw _ (List.mem_of_getElem? (i := 15) rfl))) Via.refl A_t rfl rfl ?_
    refine w_icmp_ge ok d7_16 (pc' := 43) (by decide) (fun hc1 => False.elim (by revert hc1; decide)) (fun hc1 => ?_)
    show W K l _ n0 _ h0 0 0 19 #[.val (.ref t), .val (.int (1 : Int32)), .val (.ref vv), .val (.int (2 : Int32)), .val (.int (0 : Int32))] []
    refine w_aloadN ok d7_19 rfl rfl ?_
    refine w_getfield ok (v := (.ref ag)) (host := "") (f := ("com/example/hornconv/hornconv/FactTable", "arguments", "[I", (.array .int))) 3 d7_20 (Or.inl (hw _ (List.mem_of_getElem? (i := 17) rfl))) Via.refl A_t rfl rfl ?_
    refine w_iloadN ok d7_23 rfl ?_
    refine w_iload ok d7_24 rfl ?_
    refine w_iadd ok d7_26 ?_
    show W K l _ n0 _ h0 0 0 27 #[.val (.ref t), .val (.int (1 : Int32)), .val (.ref vv), .val (.int (2 : Int32)), .val (.int (0 : Int32))] [(.int (2 : Int32)), (.ref ag)]
    refine w_iaload ok (v := (.int x2)) d7_27 A_ag (by decide) rfl ?_
    refine w_aloadN ok d7_28 rfl rfl ?_
    refine w_iload ok d7_29 rfl ?_
    refine w_iaload ok (v := (.int y0)) d7_31 A_v (by decide) rfl ?_
    refine w_icmp_eq ok d7_32 (pc' := 37) (by decide) (fun hc3 => ?_) (fun hc3 => ?_)
    · show W K l _ n0 _ h0 0 0 37 #[.val (.ref t), .val (.int (1 : Int32)), .val (.ref vv), .val (.int (2 : Int32)), .val (.int (0 : Int32))] []
      refine w_iinc ok d7_37 (u := (1 : Int32)) rfl rfl (L' := #[.val (.ref t), .val (.int (1 : Int32)), .val (.ref vv), .val (.int (2 : Int32)), .val (.int (1 : Int32))]) rfl ?_
      show W K l _ n0 _ h0 0 0 40 #[.val (.ref t), .val (.int (1 : Int32)), .val (.ref vv), .val (.int (2 : Int32)), .val (.int (1 : Int32))] []
      refine w_goto ok d7_40 (pc' := 10) (by decide) ?_
      refine w_iload ok d7_10 rfl ?_
      refine w_aloadN ok d7_12 rfl rfl ?_
      refine w_getfield ok (v := (.int (2 : Int32))) (host := "") (f := ("com/example/hornconv/hornconv/FactTable", "arity", "I", .int)) 2 d7_13 (Or.inl (hw _ (List.mem_of_getElem? (i := 15) rfl))) Via.refl A_t rfl rfl ?_
      refine w_icmp_ge ok d7_16 (pc' := 43) (by decide) (fun hc5 => False.elim (by revert hc5; decide)) (fun hc5 => ?_)
      show W K l _ n0 _ h0 0 0 19 #[.val (.ref t), .val (.int (1 : Int32)), .val (.ref vv), .val (.int (2 : Int32)), .val (.int (1 : Int32))] []
      refine w_aloadN ok d7_19 rfl rfl ?_
      refine w_getfield ok (v := (.ref ag)) (host := "") (f := ("com/example/hornconv/hornconv/FactTable", "arguments", "[I", (.array .int))) 3 d7_20 (Or.inl (hw _ (List.mem_of_getElem? (i := 17) rfl))) Via.refl A_t rfl rfl ?_
      refine w_iloadN ok d7_23 rfl ?_
      refine w_iload ok d7_24 rfl ?_
      refine w_iadd ok d7_26 ?_
      show W K l _ n0 _ h0 0 0 27 #[.val (.ref t), .val (.int (1 : Int32)), .val (.ref vv), .val (.int (2 : Int32)), .val (.int (1 : Int32))] [(.int (3 : Int32)), (.ref ag)]
      refine w_iaload ok (v := (.int x3)) d7_27 A_ag (by decide) rfl ?_
      refine w_aloadN ok d7_28 rfl rfl ?_
      refine w_iload ok d7_29 rfl ?_
      refine w_iaload ok (v := (.int y1)) d7_31 A_v (by decide) rfl ?_
      refine w_icmp_eq ok d7_32 (pc' := 37) (by decide) (fun hc7 => ?_) (fun hc7 => ?_)
      · show W K l _ n0 _ h0 0 0 37 #[.val (.ref t), .val (.int (1 : Int32)), .val (.ref vv), .val (.int (2 : Int32)), .val (.int (1 : Int32))] []
        refine w_iinc ok d7_37 (u := (1 : Int32)) rfl rfl (L' := #[.val (.ref t), .val (.int (1 : Int32)), .val (.ref vv), .val (.int (2 : Int32)), .val (.int (2 : Int32))]) rfl ?_
        show W K l _ n0 _ h0 0 0 40 #[.val (.ref t), .val (.int (1 : Int32)), .val (.ref vv), .val (.int (2 : Int32)), .val (.int (2 : Int32))] []
        refine w_goto ok d7_40 (pc' := 10) (by decide) ?_
        refine w_iload ok d7_10 rfl ?_
        refine w_aloadN ok d7_12 rfl rfl ?_
        refine w_getfield ok (v := (.int (2 : Int32))) (host := "") (f := ("com/example/hornconv/hornconv/FactTable", "arity", "I", .int)) 2 d7_13 (Or.inl (hw _ (List.mem_of_getElem? (i := 15) rfl))) Via.refl A_t rfl rfl ?_
        refine w_icmp_ge ok d7_16 (pc' := 43) (by decide) (fun hc9 => ?_) (fun hc9 => False.elim (by revert hc9; decide))
        show W K l _ n0 _ h0 0 0 43 #[.val (.ref t), .val (.int (1 : Int32)), .val (.ref vv), .val (.int (2 : Int32)), .val (.int (2 : Int32))] []
        refine w_iconst ok d7_43 (v := (1 : Int32)) rfl ?_
        refine w_bret ok (by simp) d7_44 (by decide) (by decide) ?_
        refine ⟨?_, rfl⟩
        have e : (([x0, x1, x2, x3, x4, x5, x6, x7] : List Int32).drop (1 * 2)).take 2 = [x2, x3] := rfl
        show _ = some (Value.int (own_eqr 2 [x0, x1, x2, x3, x4, x5, x6, x7] [y0, y1] 1))
        rw [own_eqr, e]
        simp only [List.cons.injEq, and_true, hc3, hc7]
        try rfl
        try (simp; rfl)
      · show W K l _ n0 _ h0 0 0 35 #[.val (.ref t), .val (.int (1 : Int32)), .val (.ref vv), .val (.int (2 : Int32)), .val (.int (1 : Int32))] []
        refine w_iconst ok d7_35 (v := (0 : Int32)) rfl ?_
        refine w_bret ok (by simp) d7_36 (by decide) (by decide) ?_
        refine ⟨?_, rfl⟩
        have e : (([x0, x1, x2, x3, x4, x5, x6, x7] : List Int32).drop (1 * 2)).take 2 = [x2, x3] := rfl
        show _ = some (Value.int (own_eqr 2 [x0, x1, x2, x3, x4, x5, x6, x7] [y0, y1] 1))
        rw [own_eqr, e]
        simp only [List.cons.injEq, and_true, hc3, hc7]
        try rfl
        try (simp; rfl)
    · show W K l _ n0 _ h0 0 0 35 #[.val (.ref t), .val (.int (1 : Int32)), .val (.ref vv), .val (.int (2 : Int32)), .val (.int (0 : Int32))] []
      refine w_iconst ok d7_35 (v := (0 : Int32)) rfl ?_
      refine w_bret ok (by simp) d7_36 (by decide) (by decide) ?_
      refine ⟨?_, rfl⟩
      have e : (([x0, x1, x2, x3, x4, x5, x6, x7] : List Int32).drop (1 * 2)).take 2 = [x2, x3] := rfl
      show _ = some (Value.int (own_eqr 2 [x0, x1, x2, x3, x4, x5, x6, x7] [y0, y1] 1))
      rw [own_eqr, e]
      simp only [List.cons.injEq, and_true, hc3]
      try rfl
      try (simp; rfl)
  · skip
    show W K l _ n0 _ h0 0 0 0 #[.val (.ref t), .val (.int (2 : Int32)), .val (.ref vv), .unset, .unset] []
    refine w_iloadN ok d7_0 rfl ?_
    refine w_aloadN ok d7_1 rfl rfl ?_
    refine w_getfield ok (v := (.int (2 : Int32))) (host := "") (f := ("com/example/hornconv/hornconv/FactTable", "arity", "I", .int)) 2 d7_2 (Or.inl (hw _ (List.mem_of_getElem? (i := 15) rfl))) Via.refl A_t rfl rfl ?_
    refine w_imul ok d7_5 ?_
    show W K l _ n0 _ h0 0 0 6 #[.val (.ref t), .val (.int (2 : Int32)), .val (.ref vv), .unset, .unset] [(.int (4 : Int32))]
    refine w_istoreN ok d7_6 (L' := #[.val (.ref t), .val (.int (2 : Int32)), .val (.ref vv), .val (.int (4 : Int32)), .unset]) rfl ?_
    refine w_iconst ok d7_7 (v := (0 : Int32)) rfl ?_
    refine w_istore ok d7_8 (L' := #[.val (.ref t), .val (.int (2 : Int32)), .val (.ref vv), .val (.int (4 : Int32)), .val (.int (0 : Int32))]) rfl ?_
    refine w_iload ok d7_10 rfl ?_
    refine w_aloadN ok d7_12 rfl rfl ?_
    refine w_getfield ok (v := (.int (2 : Int32))) (host := "") (f := ("com/example/hornconv/hornconv/FactTable", "arity", "I", .int)) 2 d7_13 (Or.inl (hw _ (List.mem_of_getElem? (i := 15) rfl))) Via.refl A_t rfl rfl ?_
    refine w_icmp_ge ok d7_16 (pc' := 43) (by decide) (fun hc1 => False.elim (by revert hc1; decide)) (fun hc1 => ?_)
    show W K l _ n0 _ h0 0 0 19 #[.val (.ref t), .val (.int (2 : Int32)), .val (.ref vv), .val (.int (4 : Int32)), .val (.int (0 : Int32))] []
    refine w_aloadN ok d7_19 rfl rfl ?_
    refine w_getfield ok (v := (.ref ag)) (host := "") (f := ("com/example/hornconv/hornconv/FactTable", "arguments", "[I", (.array .int))) 3 d7_20 (Or.inl (hw _ (List.mem_of_getElem? (i := 17) rfl))) Via.refl A_t rfl rfl ?_
    refine w_iloadN ok d7_23 rfl ?_
    refine w_iload ok d7_24 rfl ?_
    refine w_iadd ok d7_26 ?_
    show W K l _ n0 _ h0 0 0 27 #[.val (.ref t), .val (.int (2 : Int32)), .val (.ref vv), .val (.int (4 : Int32)), .val (.int (0 : Int32))] [(.int (4 : Int32)), (.ref ag)]
    refine w_iaload ok (v := (.int x4)) d7_27 A_ag (by decide) rfl ?_
    refine w_aloadN ok d7_28 rfl rfl ?_
    refine w_iload ok d7_29 rfl ?_
    refine w_iaload ok (v := (.int y0)) d7_31 A_v (by decide) rfl ?_
    refine w_icmp_eq ok d7_32 (pc' := 37) (by decide) (fun hc3 => ?_) (fun hc3 => ?_)
    · show W K l _ n0 _ h0 0 0 37 #[.val (.ref t), .val (.int (2 : Int32)), .val (.ref vv), .val (.int (4 : Int32)), .val (.int (0 : Int32))] []
      refine w_iinc ok d7_37 (u := (1 : Int32)) rfl rfl (L' := #[.val (.ref t), .val (.int (2 : Int32)), .val (.ref vv), .val (.int (4 : Int32)), .val (.int (1 : Int32))]) rfl ?_
      show W K l _ n0 _ h0 0 0 40 #[.val (.ref t), .val (.int (2 : Int32)), .val (.ref vv), .val (.int (4 : Int32)), .val (.int (1 : Int32))] []
      refine w_goto ok d7_40 (pc' := 10) (by decide) ?_
      refine w_iload ok d7_10 rfl ?_
      refine w_aloadN ok d7_12 rfl rfl ?_
      refine w_getfield ok (v := (.int (2 : Int32))) (host := "") (f := ("com/example/hornconv/hornconv/FactTable", "arity", "I", .int)) 2 d7_13 (Or.inl (hw _ (List.mem_of_getElem? (i := 15) rfl))) Via.refl A_t rfl rfl ?_
      refine w_icmp_ge ok d7_16 (pc' := 43) (by decide) (fun hc5 => False.elim (by revert hc5; decide)) (fun hc5 => ?_)
      show W K l _ n0 _ h0 0 0 19 #[.val (.ref t), .val (.int (2 : Int32)), .val (.ref vv), .val (.int (4 : Int32)), .val (.int (1 : Int32))] []
      refine w_aloadN ok d7_19 rfl rfl ?_
      refine w_getfield ok (v := (.ref ag)) (host := "") (f := ("com/example/hornconv/hornconv/FactTable", "arguments", "[I", (.array .int))) 3 d7_20 (Or.inl (hw _ (List.mem_of_getElem? (i := 17) rfl))) Via.refl A_t rfl rfl ?_
      refine w_iloadN ok d7_23 rfl ?_
      refine w_iload ok d7_24 rfl ?_
      refine w_iadd ok d7_26 ?_
      show W K l _ n0 _ h0 0 0 27 #[.val (.ref t), .val (.int (2 : Int32)), .val (.ref vv), .val (.int (4 : Int32)), .val (.int (1 : Int32))] [(.int (5 : Int32)), (.ref ag)]
      refine w_iaload ok (v := (.int x5)) d7_27 A_ag (by decide) rfl ?_
      refine w_aloadN ok d7_28 rfl rfl ?_
      refine w_iload ok d7_29 rfl ?_
      refine w_iaload ok (v := (.int y1)) d7_31 A_v (by decide) rfl ?_
      refine w_icmp_eq ok d7_32 (pc' := 37) (by decide) (fun hc7 => ?_) (fun hc7 => ?_)
      · show W K l _ n0 _ h0 0 0 37 #[.val (.ref t), .val (.int (2 : Int32)), .val (.ref vv), .val (.int (4 : Int32)), .val (.int (1 : Int32))] []
        refine w_iinc ok d7_37 (u := (1 : Int32)) rfl rfl (L' := #[.val (.ref t), .val (.int (2 : Int32)), .val (.ref vv), .val (.int (4 : Int32)), .val (.int (2 : Int32))]) rfl ?_
        show W K l _ n0 _ h0 0 0 40 #[.val (.ref t), .val (.int (2 : Int32)), .val (.ref vv), .val (.int (4 : Int32)), .val (.int (2 : Int32))] []
        refine w_goto ok d7_40 (pc' := 10) (by decide) ?_
        refine w_iload ok d7_10 rfl ?_
        refine w_aloadN ok d7_12 rfl rfl ?_
        refine w_getfield ok (v := (.int (2 : Int32))) (host := "") (f := ("com/example/hornconv/hornconv/FactTable", "arity", "I", .int)) 2 d7_13 (Or.inl (hw _ (List.mem_of_getElem? (i := 15) rfl))) Via.refl A_t rfl rfl ?_
        refine w_icmp_ge ok d7_16 (pc' := 43) (by decide) (fun hc9 => ?_) (fun hc9 => False.elim (by revert hc9; decide))
        show W K l _ n0 _ h0 0 0 43 #[.val (.ref t), .val (.int (2 : Int32)), .val (.ref vv), .val (.int (4 : Int32)), .val (.int (2 : Int32))] []
        refine w_iconst ok d7_43 (v := (1 : Int32)) rfl ?_
        refine w_bret ok (by simp) d7_44 (by decide) (by decide) ?_
        refine ⟨?_, rfl⟩
        have e : (([x0, x1, x2, x3, x4, x5, x6, x7] : List Int32).drop (2 * 2)).take 2 = [x4, x5] := rfl
        show _ = some (Value.int (own_eqr 2 [x0, x1, x2, x3, x4, x5, x6, x7] [y0, y1] 2))
        rw [own_eqr, e]
        simp only [List.cons.injEq, and_true, hc3, hc7]
        try rfl
        try (simp; rfl)
      · show W K l _ n0 _ h0 0 0 35 #[.val (.ref t), .val (.int (2 : Int32)), .val (.ref vv), .val (.int (4 : Int32)), .val (.int (1 : Int32))] []
        refine w_iconst ok d7_35 (v := (0 : Int32)) rfl ?_
        refine w_bret ok (by simp) d7_36 (by decide) (by decide) ?_
        refine ⟨?_, rfl⟩
        have e : (([x0, x1, x2, x3, x4, x5, x6, x7] : List Int32).drop (2 * 2)).take 2 = [x4, x5] := rfl
        show _ = some (Value.int (own_eqr 2 [x0, x1, x2, x3, x4, x5, x6, x7] [y0, y1] 2))
        rw [own_eqr, e]
        simp only [List.cons.injEq, and_true, hc3, hc7]
        try rfl
        try (simp; rfl)
    · show W K l _ n0 _ h0 0 0 35 #[.val (.ref t), .val (.int (2 : Int32)), .val (.ref vv), .val (.int (4 : Int32)), .val (.int (0 : Int32))] []
      refine w_iconst ok d7_35 (v := (0 : Int32)) rfl ?_
      refine w_bret ok (by simp) d7_36 (by decide) (by decide) ?_
      refine ⟨?_, rfl⟩
      have e : (([x0, x1, x2, x3, x4, x5, x6, x7] : List Int32).drop (2 * 2)).take 2 = [x4, x5] := rfl
      show _ = some (Value.int (own_eqr 2 [x0, x1, x2, x3, x4, x5, x6, x7] [y0, y1] 2))
      rw [own_eqr, e]
      simp only [List.cons.injEq, and_true, hc3]
      try rfl
      try (simp; rfl)
theorem d6_0 : decode prog_3_method_16_code 0 = .ok (.aload_n 0, 1) := by decide +kernel
theorem d6_1 : decode prog_3_method_16_code 1 = .ok (.getfield 28, 3) := by decide +kernel
theorem d6_4 : decode prog_3_method_16_code 4 = .ok (.arraylength, 1) := by decide +kernel
theorem d6_5 : decode prog_3_method_16_code 5 = .ok (.iconst 1, 1) := by decide +kernel
theorem d6_6 : decode prog_3_method_16_code 6 = .ok (.isub, 1) := by decide +kernel
theorem d6_7 : decode prog_3_method_16_code 7 = .ok (.istore_n 3, 1) := by decide +kernel
theorem d6_8 : decode prog_3_method_16_code 8 = .ok (.iload_n 2, 1) := by decide +kernel
theorem d6_9 : decode prog_3_method_16_code 9 = .ok (.iload_n 3, 1) := by decide +kernel
theorem d6_10 : decode prog_3_method_16_code 10 = .ok (.iand, 1) := by decide +kernel
theorem d6_11 : decode prog_3_method_16_code 11 = .ok (.istore 4, 2) := by decide +kernel
theorem d6_13 : decode prog_3_method_16_code 13 = .ok (.iconst (-1), 1) := by decide +kernel
theorem d6_14 : decode prog_3_method_16_code 14 = .ok (.istore 5, 2) := by decide +kernel
theorem d6_16 : decode prog_3_method_16_code 16 = .ok (.aload_n 0, 1) := by decide +kernel
theorem d6_17 : decode prog_3_method_16_code 17 = .ok (.getfield 28, 3) := by decide +kernel
theorem d6_20 : decode prog_3_method_16_code 20 = .ok (.iload 4, 2) := by decide +kernel
theorem d6_22 : decode prog_3_method_16_code 22 = .ok (.iaload, 1) := by decide +kernel
theorem d6_23 : decode prog_3_method_16_code 23 = .ok (.iconst (-1), 1) := by decide +kernel
theorem d6_24 : decode prog_3_method_16_code 24 = .ok (.if_icmp .eq 56, 3) := by decide +kernel
theorem d6_27 : decode prog_3_method_16_code 27 = .ok (.aload_n 0, 1) := by decide +kernel
theorem d6_28 : decode prog_3_method_16_code 28 = .ok (.getfield 28, 3) := by decide +kernel
theorem d6_31 : decode prog_3_method_16_code 31 = .ok (.iload 4, 2) := by decide +kernel
theorem d6_33 : decode prog_3_method_16_code 33 = .ok (.iaload, 1) := by decide +kernel
theorem d6_34 : decode prog_3_method_16_code 34 = .ok (.istore 6, 2) := by decide +kernel
theorem d6_36 : decode prog_3_method_16_code 36 = .ok (.iload 6, 2) := by decide +kernel
theorem d6_38 : decode prog_3_method_16_code 38 = .ok (.bipush (-2), 2) := by decide +kernel
theorem d6_40 : decode prog_3_method_16_code 40 = .ok (.if_icmp .ne 16, 3) := by decide +kernel
theorem d6_43 : decode prog_3_method_16_code 43 = .ok (.iload 5, 2) := by decide +kernel
theorem d6_45 : decode prog_3_method_16_code 45 = .ok (.iconst (-1), 1) := by decide +kernel
theorem d6_46 : decode prog_3_method_16_code 46 = .ok (.if_icmp .ne 23, 3) := by decide +kernel
theorem d6_49 : decode prog_3_method_16_code 49 = .ok (.iload 4, 2) := by decide +kernel
theorem d6_51 : decode prog_3_method_16_code 51 = .ok (.istore 5, 2) := by decide +kernel
theorem d6_53 : decode prog_3_method_16_code 53 = .ok (.goto 16, 3) := by decide +kernel
theorem d6_56 : decode prog_3_method_16_code 56 = .ok (.aload_n 0, 1) := by decide +kernel
theorem d6_57 : decode prog_3_method_16_code 57 = .ok (.iload 6, 2) := by decide +kernel
theorem d6_59 : decode prog_3_method_16_code 59 = .ok (.aload_n 1, 1) := by decide +kernel
theorem d6_60 : decode prog_3_method_16_code 60 = .ok (.invokevirtual 123, 3) := by decide +kernel
theorem d6_63 : decode prog_3_method_16_code 63 = .ok (.ifCond .eq 6, 3) := by decide +kernel
theorem d6_66 : decode prog_3_method_16_code 66 = .ok (.iload 4, 2) := by decide +kernel
theorem d6_68 : decode prog_3_method_16_code 68 = .ok (.ireturn, 1) := by decide +kernel
theorem d6_69 : decode prog_3_method_16_code 69 = .ok (.iload 4, 2) := by decide +kernel
theorem d6_71 : decode prog_3_method_16_code 71 = .ok (.iconst 1, 1) := by decide +kernel
theorem d6_72 : decode prog_3_method_16_code 72 = .ok (.iadd, 1) := by decide +kernel
theorem d6_73 : decode prog_3_method_16_code 73 = .ok (.iload_n 3, 1) := by decide +kernel
theorem d6_74 : decode prog_3_method_16_code 74 = .ok (.iand, 1) := by decide +kernel
theorem d6_75 : decode prog_3_method_16_code 75 = .ok (.istore 4, 2) := by decide +kernel
theorem d6_77 : decode prog_3_method_16_code 77 = .ok (.goto (-61), 3) := by decide +kernel
theorem d6_80 : decode prog_3_method_16_code 80 = .ok (.iload 5, 2) := by decide +kernel
theorem d6_82 : decode prog_3_method_16_code 82 = .ok (.iconst (-1), 1) := by decide +kernel
theorem d6_83 : decode prog_3_method_16_code 83 = .ok (.if_icmp .ne 8, 3) := by decide +kernel
theorem d6_86 : decode prog_3_method_16_code 86 = .ok (.iload 4, 2) := by decide +kernel
theorem d6_88 : decode prog_3_method_16_code 88 = .ok (.goto 5, 3) := by decide +kernel
theorem d6_91 : decode prog_3_method_16_code 91 = .ok (.iload 5, 2) := by decide +kernel
theorem d6_93 : decode prog_3_method_16_code 93 = .ok (.ireturn, 1) := by decide +kernel
theorem own_row {x : Int32} (h : x = -1 ∨ x = -2 ∨ x = 0 ∨ x = 1 ∨ x = 2) (h1 : ¬ x = -1) (h2 : ¬ x = -2) : x = 0 ∨ x = 1 ∨ x = 2 := by
  rcases h with h | h | h
  · exact absurd h h1
  · exact absurd h h2
  · exact h
theorem own_row0 {x : Int32} (h : x = 0 ∨ x = 1 ∨ x = 2) : ¬ x < 0 := by rcases h with rfl | rfl | rfl <;> decide
theorem own_e1 {n : Nat} {as vs : List Int32} {k : Nat} (h : ¬ own_eqr n as vs k = 0) : own_eqr n as vs k = 1 := by
  unfold own_eqr at h ⊢; split
  · rfl
  · rename_i c; rw [if_neg c] at h; exact absurd rfl h
theorem own_e0 {n : Nat} {as vs : List Int32} {k : Nat} (h : own_eqr n as vs k = 0) : ¬ own_eqr n as vs k = 1 := by rw [h]; decide
theorem own_ext {f : Nat → Int32} {E : Nat → Prop} {s i : Nat} (hb : ∀ j, j < i → f ((s + j) % 8) ≠ -1 ∧ ¬ (¬ f ((s + j) % 8) < 0 ∧ E (f ((s + j) % 8)).toNatClampNeg)) (h1 : ¬ f ((s + i) % 8) = -1) (h2 : ¬ (¬ f ((s + i) % 8) < 0 ∧ E (f ((s + i) % 8)).toNatClampNeg)) : ∀ j, j < i + 1 → f ((s + j) % 8) ≠ -1 ∧ ¬ (¬ f ((s + j) % 8) < 0 ∧ E (f ((s + j) % 8)).toNatClampNeg) := by
  intro j hj
  by_cases e : j = i
  · subst e; exact ⟨h1, h2⟩
  · exact hb j (by omega)
theorem pd_28I5bI29Z : parseMethodDescriptor "(I[I)Z" = some ⟨[.int, (.array .int)], some .boolean⟩ := by decide +kernel
set_option maxRecDepth 65536 in
set_option maxHeartbeats 40000000 in
theorem lp_find (l : Launch) (Z : State) (a0 : Array Value) (hw : ∀ d ∈ tables_1, d.before a0 Z = true) (n0 : Nat) (h0 : Heap) (K : Cx) (ok : Ok K Z n0 "com/example/hornconv/hornconv/FactTable" prog_3_method_16_code 7 (some .int) "find") (t vv un me ag de sl po : Addr) (rw lv us : Int32) (x0 x1 x2 x3 x4 x5 x6 x7 y0 y1 : Int32) (f : Nat → Int32) (hs : Int32) (A_t : Ob Z h0 t "com/example/hornconv/hornconv/FactTable" fl_FactTable [(.ref un), (.ref me), (.int (2 : Int32)), (.ref ag), (.ref de), (.ref sl), (.ref po), (.int rw), (.int lv), (.int us)]) (A_ag : PA .int Z h0 ag [(.int x0), (.int x1), (.int x2), (.int x3), (.int x4), (.int x5), (.int x6), (.int x7)]) (A_v : PA .int Z h0 vv [(.int y0), (.int y1)]) (A_sl : PA .int Z h0 sl (sv 8 f)) (hR : Rw f) (s : Nat) :
    ∀ (c i : Nat) (fr : Int32) (s6 : Slot), One s6 → f ((s + (i + c)) % 8) = -1 → (∀ j, j < i → f ((s + j) % 8) ≠ -1 ∧ ¬ (¬ f ((s + j) % 8) < 0 ∧ (fun k => own_eqr 2 [x0, x1, x2, x3, x4, x5, x6, x7] [y0, y1] k = 1) (f ((s + j) % 8)).toNatClampNeg)) → (fr = -1 ∨ ∃ k, k < i ∧ fr = Int32.ofNat ((s + k) % 8) ∧ f ((s + k) % 8) = -2) → W K l ({ frames := 1, cells := 0, slots := 0, locals := 17 } : Room) n0 (fun u h => ∃ r, r < 8 ∧ u = some (.int (Int32.ofNat r)) ∧ Fnd f (fun k => own_eqr 2 [x0, x1, x2, x3, x4, x5, x6, x7] [y0, y1] k = 1) s r ∧ h0 = h) h0 0 0 16 #[.val (.ref t), .val (.ref vv), .val (.int hs), .val (.int (7 : Int32)), .val (.int (Int32.ofNat ((s + i) % 8))), .val (.int fr), s6] [] := by
  intro c
  induction c with
  | zero =>
    intro i fr s6 o6 hc hb hf
    have hc : f ((s + i) % 8) = -1 := hc
    show W K l _ n0 _ h0 0 0 16 #[.val (.ref t), .val (.ref vv), .val (.int hs), .val (.int (7 : Int32)), .val (.int (Int32.ofNat ((s + i) % 8))), .val (.int fr), s6] []
    refine w_aloadN ok d6_16 rfl rfl ?_
    refine w_getfield ok (v := (.ref sl)) (host := "") (f := ("com/example/hornconv/hornconv/FactTable", "slots", "[I", (.array .int))) 5 d6_17 (Or.inl (hw _ (List.mem_of_getElem? (i := 22) rfl))) Via.refl A_t rfl rfl ?_
    refine w_iload ok d6_20 rfl ?_
    refine w_iaload ok (v := (.int (f ((s + i) % 8)))) d6_22 A_sl (own_nn (own_o8 _)) (by rw [own_clamp (own_o8 _)]; exact sv_get (by omega)) ?_
    refine w_iconst ok d6_23 (v := (-1 : Int32)) rfl ?_
    refine w_icmp_eq ok d6_24 (pc' := 80) (by decide) (fun hc1 => ?_) (fun hc1 => False.elim (by exact hc1 hc))
    show W K l _ n0 _ h0 0 0 80 #[.val (.ref t), .val (.ref vv), .val (.int hs), .val (.int (7 : Int32)), .val (.int (Int32.ofNat ((s + i) % 8))), .val (.int fr), s6] []
    refine w_iload ok d6_80 rfl ?_
    refine w_iconst ok d6_82 (v := (-1 : Int32)) rfl ?_
    refine w_icmp_ne ok d6_83 (pc' := 91) (by decide) (fun hc3 => ?_) (fun hc3 => ?_)
    · show W K l _ n0 _ h0 0 0 91 #[.val (.ref t), .val (.ref vv), .val (.int hs), .val (.int (7 : Int32)), .val (.int (Int32.ofNat ((s + i) % 8))), .val (.int fr), s6] []
      refine w_iload ok d6_91 rfl ?_
      refine w_iret ok d6_93 (by decide) (by decide) ?_
      rcases hf with hf | ⟨k, hk, rfl, hk2⟩
      · exact absurd hf hc3
      · exact ⟨(s + k) % 8, by omega, rfl, Or.inr ⟨by rw [hk2]; decide, i, k, hc, hb, Nat.le_of_lt hk, rfl⟩, rfl⟩
    · show W K l _ n0 _ h0 0 0 86 #[.val (.ref t), .val (.ref vv), .val (.int hs), .val (.int (7 : Int32)), .val (.int (Int32.ofNat ((s + i) % 8))), .val (.int fr), s6] []
      refine w_iload ok d6_86 rfl ?_
      refine w_goto ok d6_88 (pc' := 93) (by decide) ?_
      refine w_iret ok d6_93 (by decide) (by decide) ?_
      refine ⟨(s + i) % 8, by omega, rfl, Or.inr ⟨by rw [hc]; decide, i, i, hc, hb, Nat.le_refl _, rfl⟩, rfl⟩
  | succ c ih =>
    intro i fr s6 o6 hc hb hf
    show W K l _ n0 _ h0 0 0 16 #[.val (.ref t), .val (.ref vv), .val (.int hs), .val (.int (7 : Int32)), .val (.int (Int32.ofNat ((s + i) % 8))), .val (.int fr), s6] []
    refine w_aloadN ok d6_16 rfl rfl ?_
    refine w_getfield ok (v := (.ref sl)) (host := "") (f := ("com/example/hornconv/hornconv/FactTable", "slots", "[I", (.array .int))) 5 d6_17 (Or.inl (hw _ (List.mem_of_getElem? (i := 22) rfl))) Via.refl A_t rfl rfl ?_
    refine w_iload ok d6_20 rfl ?_
    refine w_iaload ok (v := (.int (f ((s + i) % 8)))) d6_22 A_sl (own_nn (own_o8 _)) (by rw [own_clamp (own_o8 _)]; exact sv_get (by omega)) ?_
    refine w_iconst ok d6_23 (v := (-1 : Int32)) rfl ?_
    refine w_icmp_eq ok d6_24 (pc' := 80) (by decide) (fun hc5 => ?_) (fun hc5 => ?_)
    · show W K l _ n0 _ h0 0 0 80 #[.val (.ref t), .val (.ref vv), .val (.int hs), .val (.int (7 : Int32)), .val (.int (Int32.ofNat ((s + i) % 8))), .val (.int fr), s6] []
      refine w_iload ok d6_80 rfl ?_
      refine w_iconst ok d6_82 (v := (-1 : Int32)) rfl ?_
      refine w_icmp_ne ok d6_83 (pc' := 91) (by decide) (fun hc7 => ?_) (fun hc7 => ?_)
      · show W K l _ n0 _ h0 0 0 91 #[.val (.ref t), .val (.ref vv), .val (.int hs), .val (.int (7 : Int32)), .val (.int (Int32.ofNat ((s + i) % 8))), .val (.int fr), s6] []
        refine w_iload ok d6_91 rfl ?_
        refine w_iret ok d6_93 (by decide) (by decide) ?_
        rcases hf with hf | ⟨k, hk, rfl, hk2⟩
        · exact absurd hf hc7
        · exact ⟨(s + k) % 8, by omega, rfl, Or.inr ⟨by rw [hk2]; decide, i, k, hc5, hb, Nat.le_of_lt hk, rfl⟩, rfl⟩
      · show W K l _ n0 _ h0 0 0 86 #[.val (.ref t), .val (.ref vv), .val (.int hs), .val (.int (7 : Int32)), .val (.int (Int32.ofNat ((s + i) % 8))), .val (.int fr), s6] []
        refine w_iload ok d6_86 rfl ?_
        refine w_goto ok d6_88 (pc' := 93) (by decide) ?_
        refine w_iret ok d6_93 (by decide) (by decide) ?_
        refine ⟨(s + i) % 8, by omega, rfl, Or.inr ⟨by rw [hc5]; decide, i, i, hc5, hb, Nat.le_refl _, rfl⟩, rfl⟩
    · show W K l _ n0 _ h0 0 0 27 #[.val (.ref t), .val (.ref vv), .val (.int hs), .val (.int (7 : Int32)), .val (.int (Int32.ofNat ((s + i) % 8))), .val (.int fr), s6] []
      refine w_aloadN ok d6_27 rfl rfl ?_
      refine w_getfield ok (v := (.ref sl)) (host := "") (f := ("com/example/hornconv/hornconv/FactTable", "slots", "[I", (.array .int))) 5 d6_28 (Or.inl (hw _ (List.mem_of_getElem? (i := 22) rfl))) Via.refl A_t rfl rfl ?_
      refine w_iload ok d6_31 rfl ?_
      refine w_iaload ok (v := (.int (f ((s + i) % 8)))) d6_33 A_sl (own_nn (own_o8 _)) (by rw [own_clamp (own_o8 _)]; exact sv_get (by omega)) ?_
      refine w_istore ok d6_34 (L' := #[.val (.ref t), .val (.ref vv), .val (.int hs), .val (.int (7 : Int32)), .val (.int (Int32.ofNat ((s + i) % 8))), .val (.int fr), .val (.int (f ((s + i) % 8)))]) (by exact XS.store1 (o := s6) rfl o6 rfl) ?_
      refine w_iload ok d6_36 rfl ?_
      refine w_bipush ok d6_38 (v := (-2 : Int32)) rfl ?_
      refine w_icmp_ne ok d6_40 (pc' := 56) (by decide) (fun hc9 => ?_) (fun hc9 => ?_)
      · show W K l _ n0 _ h0 0 0 56 #[.val (.ref t), .val (.ref vv), .val (.int hs), .val (.int (7 : Int32)), .val (.int (Int32.ofNat ((s + i) % 8))), .val (.int fr), .val (.int (f ((s + i) % 8)))] []
        refine w_aloadN ok d6_56 rfl rfl ?_
        refine w_iload ok d6_57 rfl ?_
        refine w_aloadN ok d6_59 rfl rfl ?_
        refine w_callP ok (y := (⟨"com/example/hornconv/hornconv/FactTable", "equalsRow", "(I[I)Z"⟩ : MethodName)) (a := t) (argsL := [(.int (f ((s + i) % 8))), (.ref vv)]) (rest := []) d6_60 (hw _ (List.mem_of_getElem? (i := 56) rfl)) (hw _ (List.mem_of_getElem? (i := 57) rfl)) (hw _ (List.mem_of_getElem? (i := 58) rfl)) (hw _ (List.mem_of_getElem? (i := 2) rfl)) (hw _ (List.mem_of_getElem? (i := 3) rfl)) (hw _ (List.mem_of_getElem? (i := 59) rfl)) (by decide) A_t.1 pd_28I5bI29Z rfl rfl (by decide) (Nat.le_of_ble_eq_true rfl) (by decide) (by decide) (fun z0 => rm_eq l Z a0 hw [] n0 h0 z0 t vv un me ag de sl po rw lv us x0 x1 x2 x3 x4 x5 x6 x7 y0 y1 A_t A_ag A_v (f ((s + i) % 8)) (own_row (hR _ (by omega)) hc5 hc9)) (fun v10 h11 qv10 => ?_)
        obtain ⟨rfl, rfl⟩ := qv10
        show W K l _ n0 _ h0 0 0 63 #[.val (.ref t), .val (.ref vv), .val (.int hs), .val (.int (7 : Int32)), .val (.int (Int32.ofNat ((s + i) % 8))), .val (.int fr), .val (.int (f ((s + i) % 8)))] [(.int (own_eqr 2 [x0, x1, x2, x3, x4, x5, x6, x7] [y0, y1] (f ((s + i) % 8)).toNatClampNeg))]
        refine w_if_eq ok d6_63 (pc' := 69) (by decide) (fun hc13 => ?_) (fun hc13 => ?_)
        · show W K l _ n0 _ h0 0 0 69 #[.val (.ref t), .val (.ref vv), .val (.int hs), .val (.int (7 : Int32)), .val (.int (Int32.ofNat ((s + i) % 8))), .val (.int fr), .val (.int (f ((s + i) % 8)))] []
          refine w_iload ok d6_69 rfl ?_
          refine w_iconst ok d6_71 (v := (1 : Int32)) rfl ?_
          refine w_iadd ok d6_72 ?_
          refine w_iloadN ok d6_73 rfl ?_
          refine w_iand ok d6_74 ?_
          refine w_istore ok d6_75 (L' := #[.val (.ref t), .val (.ref vv), .val (.int hs), .val (.int (7 : Int32)), .val (.int (((Int32.ofNat ((s + i) % 8)) + (1 : Int32)) &&& (7 : Int32))), .val (.int fr), .val (.int (f ((s + i) % 8)))]) rfl ?_
          refine w_goto ok d6_77 (pc' := 16) (by decide) ?_
          show W K l _ n0 _ h0 0 0 16 #[.val (.ref t), .val (.ref vv), .val (.int hs), .val (.int (7 : Int32)), .val (.int (((Int32.ofNat ((s + i) % 8)) + (1 : Int32)) &&& (7 : Int32))), .val (.int fr), .val (.int (f ((s + i) % 8)))] []
          rw [show (Int32.ofNat ((s + i) % 8) + 1) &&& 7 = Int32.ofNat ((s + (i + 1)) % 8) from own_nx (s + i)]
          exact ih (i + 1) _ _ (One.val rfl) (by rw [show s + (i + 1 + c) = s + (i + (c + 1)) by omega]; exact hc) (own_ext (E := (fun k => own_eqr 2 [x0, x1, x2, x3, x4, x5, x6, x7] [y0, y1] k = 1)) hb hc5 (fun q => own_e0 hc13 q.2)) (hf.imp id fun ⟨k, a, b, c⟩ => ⟨k, Nat.lt_succ_of_lt a, b, c⟩)
        · show W K l _ n0 _ h0 0 0 66 #[.val (.ref t), .val (.ref vv), .val (.int hs), .val (.int (7 : Int32)), .val (.int (Int32.ofNat ((s + i) % 8))), .val (.int fr), .val (.int (f ((s + i) % 8)))] []
          refine w_iload ok d6_66 rfl ?_
          refine w_iret ok d6_68 (by decide) (by decide) ?_
          refine ⟨(s + i) % 8, by omega, rfl, Or.inl ⟨own_row0 (own_row (hR _ (by omega)) hc5 hc9), own_e1 hc13⟩, rfl⟩
      · show W K l _ n0 _ h0 0 0 43 #[.val (.ref t), .val (.ref vv), .val (.int hs), .val (.int (7 : Int32)), .val (.int (Int32.ofNat ((s + i) % 8))), .val (.int fr), .val (.int (f ((s + i) % 8)))] []
        refine w_iload ok d6_43 rfl ?_
        refine w_iconst ok d6_45 (v := (-1 : Int32)) rfl ?_
        refine w_icmp_ne ok d6_46 (pc' := 69) (by decide) (fun hc15 => ?_) (fun hc15 => ?_)
        · show W K l _ n0 _ h0 0 0 69 #[.val (.ref t), .val (.ref vv), .val (.int hs), .val (.int (7 : Int32)), .val (.int (Int32.ofNat ((s + i) % 8))), .val (.int fr), .val (.int (f ((s + i) % 8)))] []
          refine w_iload ok d6_69 rfl ?_
          refine w_iconst ok d6_71 (v := (1 : Int32)) rfl ?_
          refine w_iadd ok d6_72 ?_
          refine w_iloadN ok d6_73 rfl ?_
          refine w_iand ok d6_74 ?_
          refine w_istore ok d6_75 (L' := #[.val (.ref t), .val (.ref vv), .val (.int hs), .val (.int (7 : Int32)), .val (.int (((Int32.ofNat ((s + i) % 8)) + (1 : Int32)) &&& (7 : Int32))), .val (.int fr), .val (.int (f ((s + i) % 8)))]) rfl ?_
          refine w_goto ok d6_77 (pc' := 16) (by decide) ?_
          show W K l _ n0 _ h0 0 0 16 #[.val (.ref t), .val (.ref vv), .val (.int hs), .val (.int (7 : Int32)), .val (.int (((Int32.ofNat ((s + i) % 8)) + (1 : Int32)) &&& (7 : Int32))), .val (.int fr), .val (.int (f ((s + i) % 8)))] []
          rw [show (Int32.ofNat ((s + i) % 8) + 1) &&& 7 = Int32.ofNat ((s + (i + 1)) % 8) from own_nx (s + i)]
          exact ih (i + 1) _ _ (One.val rfl) (by rw [show s + (i + 1 + c) = s + (i + (c + 1)) by omega]; exact hc) (own_ext (E := (fun k => own_eqr 2 [x0, x1, x2, x3, x4, x5, x6, x7] [y0, y1] k = 1)) hb hc5 (fun q => q.1 (by rw [hc9]; decide))) (hf.imp id fun ⟨k, a, b, c⟩ => ⟨k, Nat.lt_succ_of_lt a, b, c⟩)
        · show W K l _ n0 _ h0 0 0 49 #[.val (.ref t), .val (.ref vv), .val (.int hs), .val (.int (7 : Int32)), .val (.int (Int32.ofNat ((s + i) % 8))), .val (.int fr), .val (.int (f ((s + i) % 8)))] []
          refine w_iload ok d6_49 rfl ?_
          refine w_istore ok d6_51 (L' := #[.val (.ref t), .val (.ref vv), .val (.int hs), .val (.int (7 : Int32)), .val (.int (Int32.ofNat ((s + i) % 8))), .val (.int (Int32.ofNat ((s + i) % 8))), .val (.int (f ((s + i) % 8)))]) rfl ?_
          refine w_goto ok d6_53 (pc' := 69) (by decide) ?_
          refine w_iload ok d6_69 rfl ?_
          refine w_iconst ok d6_71 (v := (1 : Int32)) rfl ?_
          refine w_iadd ok d6_72 ?_
          refine w_iloadN ok d6_73 rfl ?_
          refine w_iand ok d6_74 ?_
          refine w_istore ok d6_75 (L' := #[.val (.ref t), .val (.ref vv), .val (.int hs), .val (.int (7 : Int32)), .val (.int (((Int32.ofNat ((s + i) % 8)) + (1 : Int32)) &&& (7 : Int32))), .val (.int (Int32.ofNat ((s + i) % 8))), .val (.int (f ((s + i) % 8)))]) rfl ?_
          refine w_goto ok d6_77 (pc' := 16) (by decide) ?_
          show W K l _ n0 _ h0 0 0 16 #[.val (.ref t), .val (.ref vv), .val (.int hs), .val (.int (7 : Int32)), .val (.int (((Int32.ofNat ((s + i) % 8)) + (1 : Int32)) &&& (7 : Int32))), .val (.int (Int32.ofNat ((s + i) % 8))), .val (.int (f ((s + i) % 8)))] []
          rw [show (Int32.ofNat ((s + i) % 8) + 1) &&& 7 = Int32.ofNat ((s + (i + 1)) % 8) from own_nx (s + i)]
          exact ih (i + 1) _ _ (One.val rfl) (by rw [show s + (i + 1 + c) = s + (i + (c + 1)) by omega]; exact hc) (own_ext (E := (fun k => own_eqr 2 [x0, x1, x2, x3, x4, x5, x6, x7] [y0, y1] k = 1)) hb hc5 (fun q => q.1 (by rw [hc9]; decide))) (Or.inr ⟨i, Nat.lt_succ_self _, rfl, hc9⟩)
set_option maxRecDepth 65536 in
set_option maxHeartbeats 40000000 in
theorem rm_find (l : Launch) (Z : State) (a0 : Array Value) (hw : ∀ d ∈ tables_1, d.before a0 Z = true) (ws : List Jvm.Cond) (n0 : Nat) (h0 : Heap) (Z0 : Old Z n0 h0) (t vv un me ag de sl po : Addr) (rw lv us : Int32) (x0 x1 x2 x3 x4 x5 x6 x7 y0 y1 : Int32) (f : Nat → Int32) (hs : Int32) (A_t : Ob Z h0 t "com/example/hornconv/hornconv/FactTable" fl_FactTable [(.ref un), (.ref me), (.int (2 : Int32)), (.ref ag), (.ref de), (.ref sl), (.ref po), (.int rw), (.int lv), (.int us)]) (A_ag : PA .int Z h0 ag [(.int x0), (.int x1), (.int x2), (.int x3), (.int x4), (.int x5), (.int x6), (.int x7)]) (A_v : PA .int Z h0 vv [(.int y0), (.int y1)]) (A_sl : PA .int Z h0 sl (sv 8 f)) (hR : Rw f) (hN : ∀ s, ∃ m, f ((s + m) % 8) = -1)  :
    Met l Z n0 (⟨"com/example/hornconv/hornconv/FactTable", "find", "([II)I"⟩ : MethodName) prog_3_method_16_code 7 (some .int) ws ({ frames := 1, cells := 0, slots := 0, locals := 17 } : Room) #[(.ref t), (.ref vv), (.int hs)] h0 (fun u h => ∃ r, r < 8 ∧ u = some (.int (Int32.ofNat r)) ∧ Fnd f (fun k => own_eqr 2 [x0, x1, x2, x3, x4, x5, x6, x7] [y0, y1] k = 1) (hs &&& 7).toNatClampNeg r ∧ h0 = h) := by
  refine met_of Z0 (plainFor_of_name pn_com_example_hornconv_hornconv_FactTable) (Ls := #[.val (.ref t), .val (.ref vv), .val (.int hs), .unset, .unset, .unset, .unset]) (fun m => by first | (simp [entryFrame, mkF, argsToLocals, Value.category]; done) | rfl) ?_
  intro K ok
  show W K l _ n0 _ h0 0 0 0 #[.val (.ref t), .val (.ref vv), .val (.int hs), .unset, .unset, .unset, .unset] []
  refine w_aloadN ok d6_0 rfl rfl ?_
  refine w_getfield ok (v := (.ref sl)) (host := "") (f := ("com/example/hornconv/hornconv/FactTable", "slots", "[I", (.array .int))) 5 d6_1 (Or.inl (hw _ (List.mem_of_getElem? (i := 22) rfl))) Via.refl A_t rfl rfl ?_
  refine w_arraylength ok (z := (8 : Int32)) d6_4 A_sl (sv_len 8 f) (by decide) ?_
  show W K l _ n0 _ h0 0 0 5 #[.val (.ref t), .val (.ref vv), .val (.int hs), .unset, .unset, .unset, .unset] [(.int (8 : Int32))]
  refine w_iconst ok d6_5 (v := (1 : Int32)) rfl ?_
  refine w_isub ok d6_6 ?_
  show W K l _ n0 _ h0 0 0 7 #[.val (.ref t), .val (.ref vv), .val (.int hs), .unset, .unset, .unset, .unset] [(.int (7 : Int32))]
  refine w_istoreN ok d6_7 (L' := #[.val (.ref t), .val (.ref vv), .val (.int hs), .val (.int (7 : Int32)), .unset, .unset, .unset]) rfl ?_
  refine w_iloadN ok d6_8 rfl ?_
  refine w_iloadN ok d6_9 rfl ?_
  refine w_iand ok d6_10 ?_
  refine w_istore ok d6_11 (L' := #[.val (.ref t), .val (.ref vv), .val (.int hs), .val (.int (7 : Int32)), .val (.int (hs &&& (7 : Int32))), .unset, .unset]) rfl ?_
  refine w_iconst ok d6_13 (v := (-1 : Int32)) rfl ?_
  refine w_istore ok d6_14 (L' := #[.val (.ref t), .val (.ref vv), .val (.int hs), .val (.int (7 : Int32)), .val (.int (hs &&& (7 : Int32))), .val (.int (-1 : Int32)), .unset]) rfl ?_
  show W K l _ n0 _ h0 0 0 16 #[.val (.ref t), .val (.ref vv), .val (.int hs), .val (.int (7 : Int32)), .val (.int (hs &&& (7 : Int32))), .val (.int (-1 : Int32)), .unset] []
  obtain ⟨c, hc⟩ := hN (hs &&& 7).toNatClampNeg
  have e := own_st hs
  generalize hn : (hs &&& 7).toNatClampNeg = n at hc e ⊢
  rw [e]
  exact lp_find l Z a0 hw n0 h0 K ok t vv un me ag de sl po rw lv us x0 x1 x2 x3 x4 x5 x6 x7 y0 y1 f hs A_t A_ag A_v A_sl hR _ c 0 _ _ One.u (by rw [Nat.zero_add]; exact hc) (fun j hj => absurd hj (Nat.not_lt_zero _)) (Or.inl rfl)
theorem d4_0 : decode prog_3_method_7_code 0 = .ok (.aload_n 0, 1) := by decide +kernel
theorem d4_1 : decode prog_3_method_7_code 1 = .ok (.getfield 17, 3) := by decide +kernel
theorem d4_4 : decode prog_3_method_7_code 4 = .ok (.iconst 1, 1) := by decide +kernel
theorem d4_5 : decode prog_3_method_7_code 5 = .ok (.if_icmp .ne 15, 3) := by decide +kernel
theorem d4_8 : decode prog_3_method_7_code 8 = .ok (.aload_n 0, 1) := by decide +kernel
theorem d4_9 : decode prog_3_method_7_code 9 = .ok (.aload_n 1, 1) := by decide +kernel
theorem d4_10 : decode prog_3_method_7_code 10 = .ok (.iconst 0, 1) := by decide +kernel
theorem d4_11 : decode prog_3_method_7_code 11 = .ok (.iaload, 1) := by decide +kernel
theorem d4_12 : decode prog_3_method_7_code 12 = .ok (.invokevirtual 49, 3) := by decide +kernel
theorem d4_15 : decode prog_3_method_7_code 15 = .ok (.ifCond .eq 5, 3) := by decide +kernel
theorem d4_18 : decode prog_3_method_7_code 18 = .ok (.iconst (-1), 1) := by decide +kernel
theorem d4_19 : decode prog_3_method_7_code 19 = .ok (.ireturn, 1) := by decide +kernel
theorem d4_20 : decode prog_3_method_7_code 20 = .ok (.aload_n 0, 1) := by decide +kernel
theorem d4_21 : decode prog_3_method_7_code 21 = .ok (.aload_n 1, 1) := by decide +kernel
theorem d4_22 : decode prog_3_method_7_code 22 = .ok (.iconst 0, 1) := by decide +kernel
theorem d4_23 : decode prog_3_method_7_code 23 = .ok (.invokevirtual 53, 3) := by decide +kernel
theorem d4_26 : decode prog_3_method_7_code 26 = .ok (.istore_n 2, 1) := by decide +kernel
theorem d4_27 : decode prog_3_method_7_code 27 = .ok (.aload_n 0, 1) := by decide +kernel
theorem d4_28 : decode prog_3_method_7_code 28 = .ok (.aload_n 1, 1) := by decide +kernel
theorem d4_29 : decode prog_3_method_7_code 29 = .ok (.iload_n 2, 1) := by decide +kernel
theorem d4_30 : decode prog_3_method_7_code 30 = .ok (.invokevirtual 57, 3) := by decide +kernel
theorem d4_33 : decode prog_3_method_7_code 33 = .ok (.istore_n 3, 1) := by decide +kernel
theorem d4_34 : decode prog_3_method_7_code 34 = .ok (.aload_n 0, 1) := by decide +kernel
theorem d4_35 : decode prog_3_method_7_code 35 = .ok (.getfield 28, 3) := by decide +kernel
theorem d4_38 : decode prog_3_method_7_code 38 = .ok (.iload_n 3, 1) := by decide +kernel
theorem d4_39 : decode prog_3_method_7_code 39 = .ok (.iaload, 1) := by decide +kernel
theorem d4_40 : decode prog_3_method_7_code 40 = .ok (.ifCond .lt 5, 3) := by decide +kernel
theorem d4_43 : decode prog_3_method_7_code 43 = .ok (.iconst (-1), 1) := by decide +kernel
theorem d4_44 : decode prog_3_method_7_code 44 = .ok (.ireturn, 1) := by decide +kernel
theorem d4_45 : decode prog_3_method_7_code 45 = .ok (.aload_n 0, 1) := by decide +kernel
theorem d4_46 : decode prog_3_method_7_code 46 = .ok (.getfield 43, 3) := by decide +kernel
theorem d4_49 : decode prog_3_method_7_code 49 = .ok (.istore 4, 2) := by decide +kernel
theorem d4_51 : decode prog_3_method_7_code 51 = .ok (.iload 4, 2) := by decide +kernel
theorem d4_53 : decode prog_3_method_7_code 53 = .ok (.aload_n 0, 1) := by decide +kernel
theorem d4_54 : decode prog_3_method_7_code 54 = .ok (.getfield 24, 3) := by decide +kernel
theorem d4_57 : decode prog_3_method_7_code 57 = .ok (.arraylength, 1) := by decide +kernel
theorem d4_58 : decode prog_3_method_7_code 58 = .ok (.if_icmp .ne 38, 3) := by decide +kernel
theorem d4_61 : decode prog_3_method_7_code 61 = .ok (.aload_n 0, 1) := by decide +kernel
theorem d4_62 : decode prog_3_method_7_code 62 = .ok (.aload_n 0, 1) := by decide +kernel
theorem d4_63 : decode prog_3_method_7_code 63 = .ok (.getfield 24, 3) := by decide +kernel
theorem d4_66 : decode prog_3_method_7_code 66 = .ok (.iconst 2, 1) := by decide +kernel
theorem d4_67 : decode prog_3_method_7_code 67 = .ok (.iload 4, 2) := by decide +kernel
theorem d4_69 : decode prog_3_method_7_code 69 = .ok (.imul, 1) := by decide +kernel
theorem d4_70 : decode prog_3_method_7_code 70 = .ok (.invokestatic 60, 3) := by decide +kernel
theorem d4_73 : decode prog_3_method_7_code 73 = .ok (.putfield 24, 3) := by decide +kernel
theorem d4_76 : decode prog_3_method_7_code 76 = .ok (.aload_n 0, 1) := by decide +kernel
theorem d4_77 : decode prog_3_method_7_code 77 = .ok (.aload_n 0, 1) := by decide +kernel
theorem d4_78 : decode prog_3_method_7_code 78 = .ok (.getfield 21, 3) := by decide +kernel
theorem d4_81 : decode prog_3_method_7_code 81 = .ok (.iconst 2, 1) := by decide +kernel
theorem d4_82 : decode prog_3_method_7_code 82 = .ok (.iload 4, 2) := by decide +kernel
theorem d4_84 : decode prog_3_method_7_code 84 = .ok (.imul, 1) := by decide +kernel
theorem d4_85 : decode prog_3_method_7_code 85 = .ok (.aload_n 0, 1) := by decide +kernel
theorem d4_86 : decode prog_3_method_7_code 86 = .ok (.getfield 17, 3) := by decide +kernel
theorem d4_89 : decode prog_3_method_7_code 89 = .ok (.imul, 1) := by decide +kernel
theorem d4_90 : decode prog_3_method_7_code 90 = .ok (.invokestatic 64, 3) := by decide +kernel
theorem d4_93 : decode prog_3_method_7_code 93 = .ok (.putfield 21, 3) := by decide +kernel
theorem d4_96 : decode prog_3_method_7_code 96 = .ok (.aload_n 1, 1) := by decide +kernel
theorem d4_97 : decode prog_3_method_7_code 97 = .ok (.iconst 0, 1) := by decide +kernel
theorem d4_98 : decode prog_3_method_7_code 98 = .ok (.aload_n 0, 1) := by decide +kernel
theorem d4_99 : decode prog_3_method_7_code 99 = .ok (.getfield 21, 3) := by decide +kernel
theorem d4_102 : decode prog_3_method_7_code 102 = .ok (.iload 4, 2) := by decide +kernel
theorem d4_104 : decode prog_3_method_7_code 104 = .ok (.aload_n 0, 1) := by decide +kernel
theorem d4_105 : decode prog_3_method_7_code 105 = .ok (.getfield 17, 3) := by decide +kernel
theorem d4_108 : decode prog_3_method_7_code 108 = .ok (.imul, 1) := by decide +kernel
theorem d4_109 : decode prog_3_method_7_code 109 = .ok (.aload_n 0, 1) := by decide +kernel
theorem d4_110 : decode prog_3_method_7_code 110 = .ok (.getfield 17, 3) := by decide +kernel
theorem d4_113 : decode prog_3_method_7_code 113 = .ok (.invokestatic 67, 3) := by decide +kernel
theorem d4_116 : decode prog_3_method_7_code 116 = .ok (.aload_n 0, 1) := by decide +kernel
theorem d4_117 : decode prog_3_method_7_code 117 = .ok (.dup, 1) := by decide +kernel
theorem d4_118 : decode prog_3_method_7_code 118 = .ok (.getfield 43, 3) := by decide +kernel
theorem d4_121 : decode prog_3_method_7_code 121 = .ok (.iconst 1, 1) := by decide +kernel
theorem d4_122 : decode prog_3_method_7_code 122 = .ok (.iadd, 1) := by decide +kernel
theorem d4_123 : decode prog_3_method_7_code 123 = .ok (.putfield 43, 3) := by decide +kernel
theorem d4_126 : decode prog_3_method_7_code 126 = .ok (.aload_n 0, 1) := by decide +kernel
theorem d4_127 : decode prog_3_method_7_code 127 = .ok (.dup, 1) := by decide +kernel
theorem d4_128 : decode prog_3_method_7_code 128 = .ok (.getfield 46, 3) := by decide +kernel
theorem d4_131 : decode prog_3_method_7_code 131 = .ok (.iconst 1, 1) := by decide +kernel
theorem d4_132 : decode prog_3_method_7_code 132 = .ok (.iadd, 1) := by decide +kernel
theorem d4_133 : decode prog_3_method_7_code 133 = .ok (.putfield 46, 3) := by decide +kernel
theorem d4_136 : decode prog_3_method_7_code 136 = .ok (.aload_n 0, 1) := by decide +kernel
theorem d4_137 : decode prog_3_method_7_code 137 = .ok (.getfield 17, 3) := by decide +kernel
theorem d4_140 : decode prog_3_method_7_code 140 = .ok (.iconst 1, 1) := by decide +kernel
theorem d4_141 : decode prog_3_method_7_code 141 = .ok (.if_icmp .ne 11, 3) := by decide +kernel
theorem d4_144 : decode prog_3_method_7_code 144 = .ok (.aload_n 0, 1) := by decide +kernel
theorem d4_145 : decode prog_3_method_7_code 145 = .ok (.aload_n 1, 1) := by decide +kernel
theorem d4_146 : decode prog_3_method_7_code 146 = .ok (.iconst 0, 1) := by decide +kernel
theorem d4_147 : decode prog_3_method_7_code 147 = .ok (.iaload, 1) := by decide +kernel
theorem d4_148 : decode prog_3_method_7_code 148 = .ok (.iconst 1, 1) := by decide +kernel
theorem d4_149 : decode prog_3_method_7_code 149 = .ok (.invokevirtual 73, 3) := by decide +kernel
theorem d4_152 : decode prog_3_method_7_code 152 = .ok (.iconst 0, 1) := by decide +kernel
theorem d4_153 : decode prog_3_method_7_code 153 = .ok (.istore 5, 2) := by decide +kernel
theorem d4_155 : decode prog_3_method_7_code 155 = .ok (.iload 5, 2) := by decide +kernel
theorem d4_157 : decode prog_3_method_7_code 157 = .ok (.aload_n 0, 1) := by decide +kernel
theorem d4_158 : decode prog_3_method_7_code 158 = .ok (.getfield 39, 3) := by decide +kernel
theorem d4_161 : decode prog_3_method_7_code 161 = .ok (.arraylength, 1) := by decide +kernel
theorem d4_162 : decode prog_3_method_7_code 162 = .ok (.if_icmp .ge 35, 3) := by decide +kernel
theorem d4_165 : decode prog_3_method_7_code 165 = .ok (.aload_n 0, 1) := by decide +kernel
theorem d4_166 : decode prog_3_method_7_code 166 = .ok (.getfield 39, 3) := by decide +kernel
theorem d4_169 : decode prog_3_method_7_code 169 = .ok (.iload 5, 2) := by decide +kernel
theorem d4_171 : decode prog_3_method_7_code 171 = .ok (.aaload, 1) := by decide +kernel
theorem d4_172 : decode prog_3_method_7_code 172 = .ok (.ifnull 19, 3) := by decide +kernel
theorem d4_175 : decode prog_3_method_7_code 175 = .ok (.aload_n 0, 1) := by decide +kernel
theorem d4_176 : decode prog_3_method_7_code 176 = .ok (.getfield 39, 3) := by decide +kernel
theorem d4_179 : decode prog_3_method_7_code 179 = .ok (.iload 5, 2) := by decide +kernel
theorem d4_181 : decode prog_3_method_7_code 181 = .ok (.aaload, 1) := by decide +kernel
theorem d4_182 : decode prog_3_method_7_code 182 = .ok (.aload_n 1, 1) := by decide +kernel
theorem d4_183 : decode prog_3_method_7_code 183 = .ok (.iload 5, 2) := by decide +kernel
theorem d4_185 : decode prog_3_method_7_code 185 = .ok (.iaload, 1) := by decide +kernel
theorem d4_186 : decode prog_3_method_7_code 186 = .ok (.iload 4, 2) := by decide +kernel
theorem d4_188 : decode prog_3_method_7_code 188 = .ok (.invokevirtual 77, 3) := by decide +kernel
theorem d4_191 : decode prog_3_method_7_code 191 = .ok (.iinc 5 1, 3) := by decide +kernel
theorem d4_194 : decode prog_3_method_7_code 194 = .ok (.goto (-39), 3) := by decide +kernel
theorem d4_197 : decode prog_3_method_7_code 197 = .ok (.aload_n 0, 1) := by decide +kernel
theorem d4_198 : decode prog_3_method_7_code 198 = .ok (.getfield 28, 3) := by decide +kernel
theorem d4_201 : decode prog_3_method_7_code 201 = .ok (.iload_n 3, 1) := by decide +kernel
theorem d4_202 : decode prog_3_method_7_code 202 = .ok (.iaload, 1) := by decide +kernel
theorem d4_203 : decode prog_3_method_7_code 203 = .ok (.iconst (-1), 1) := by decide +kernel
theorem d4_204 : decode prog_3_method_7_code 204 = .ok (.if_icmp .ne 13, 3) := by decide +kernel
theorem d4_207 : decode prog_3_method_7_code 207 = .ok (.aload_n 0, 1) := by decide +kernel
theorem d4_208 : decode prog_3_method_7_code 208 = .ok (.dup, 1) := by decide +kernel
theorem d4_209 : decode prog_3_method_7_code 209 = .ok (.getfield 81, 3) := by decide +kernel
theorem d4_212 : decode prog_3_method_7_code 212 = .ok (.iconst 1, 1) := by decide +kernel
theorem d4_213 : decode prog_3_method_7_code 213 = .ok (.iadd, 1) := by decide +kernel
theorem d4_214 : decode prog_3_method_7_code 214 = .ok (.putfield 81, 3) := by decide +kernel
theorem d4_217 : decode prog_3_method_7_code 217 = .ok (.aload_n 0, 1) := by decide +kernel
theorem d4_218 : decode prog_3_method_7_code 218 = .ok (.getfield 28, 3) := by decide +kernel
theorem d4_221 : decode prog_3_method_7_code 221 = .ok (.iload_n 3, 1) := by decide +kernel
theorem d4_222 : decode prog_3_method_7_code 222 = .ok (.iload 4, 2) := by decide +kernel
theorem d4_224 : decode prog_3_method_7_code 224 = .ok (.iastore, 1) := by decide +kernel
theorem d4_225 : decode prog_3_method_7_code 225 = .ok (.iconst 2, 1) := by decide +kernel
theorem d4_226 : decode prog_3_method_7_code 226 = .ok (.aload_n 0, 1) := by decide +kernel
theorem d4_227 : decode prog_3_method_7_code 227 = .ok (.getfield 81, 3) := by decide +kernel
theorem d4_230 : decode prog_3_method_7_code 230 = .ok (.imul, 1) := by decide +kernel
theorem d4_231 : decode prog_3_method_7_code 231 = .ok (.aload_n 0, 1) := by decide +kernel
theorem d4_232 : decode prog_3_method_7_code 232 = .ok (.getfield 28, 3) := by decide +kernel
theorem d4_235 : decode prog_3_method_7_code 235 = .ok (.arraylength, 1) := by decide +kernel
theorem d4_236 : decode prog_3_method_7_code 236 = .ok (.if_icmp .le 7, 3) := by decide +kernel
theorem d4_239 : decode prog_3_method_7_code 239 = .ok (.aload_n 0, 1) := by decide +kernel
theorem d4_240 : decode prog_3_method_7_code 240 = .ok (.invokevirtual 84, 3) := by decide +kernel
theorem d4_243 : decode prog_3_method_7_code 243 = .ok (.iload 4, 2) := by decide +kernel
theorem d4_245 : decode prog_3_method_7_code 245 = .ok (.ireturn, 1) := by decide +kernel
theorem pd_285bII29I : parseMethodDescriptor "([II)I" = some ⟨[(.array .int), .int], some .int⟩ := by decide +kernel
set_option maxRecDepth 65536 in
set_option maxHeartbeats 40000000 in
theorem rm_add0 (l : Launch) (Z : State) (a0 : Array Value) (hw : ∀ d ∈ tables_1, d.before a0 Z = true) (ws : List Jvm.Cond) (n0 : Nat) (h0 : Heap) (Z0 : Old Z n0 h0) (t vv un me ag de sl po : Addr) (lv us : Int32) (x0 x1 x2 x3 x4 x5 x6 x7 d0 d1 d2 d3 y0 y1 : Int32) (f : Nat → Int32) (A_t : Ob Z h0 t "com/example/hornconv/hornconv/FactTable" fl_FactTable [(.ref un), (.ref me), (.int (2 : Int32)), (.ref ag), (.ref de), (.ref sl), (.ref po), (.int (0 : Int32)), (.int lv), (.int us)]) (A_ag : PA .int Z h0 ag [(.int x0), (.int x1), (.int x2), (.int x3), (.int x4), (.int x5), (.int x6), (.int x7)]) (A_de : PA .boolean Z h0 de [(.int d0), (.int d1), (.int d2), (.int d3)]) (A_sl : PA .int Z h0 sl (sv 8 f)) (A_po : PA (.object "com/example/hornconv/hornconv/FactTable$PositionIndex") Z h0 po [.null, .null]) (A_v : PA .int Z h0 vv [(.int y0), (.int y1)]) (ge_t : n0 ≤ t) (ge_ag : n0 ≤ ag) (ge_sl : n0 ≤ sl) (ne_t_ag : t ≠ ag) (ne_t_de : t ≠ de) (ne_t_sl : t ≠ sl) (ne_t_po : t ≠ po) (ne_t_vv : t ≠ vv) (ne_ag_de : ag ≠ de) (ne_ag_sl : ag ≠ sl) (ne_ag_po : ag ≠ po) (ne_ag_vv : ag ≠ vv) (ne_de_sl : de ≠ sl) (ne_sl_po : sl ≠ po) (ne_sl_vv : sl ≠ vv) (hR : Rw f) (hN : ∀ s, ∃ m, f ((s + m) % 8) = -1) (hus : 0 ≤ us.toInt ∧ us.toInt ≤ 3)  :
    Met l Z n0 (⟨"com/example/hornconv/hornconv/FactTable", "add", "([I)I"⟩ : MethodName) prog_3_method_7_code 6 (some .int) ws ({ frames := 2, cells := 0, slots := 0, locals := 35 } : Room) #[(.ref t), (.ref vv)] h0 (fun u h => (u = some (.int (-1)) ∧ h0 = h ∧ ∃ r, r < 8 ∧ ¬ f r < 0 ∧ (fun k => own_eqr 2 [x0, x1, x2, x3, x4, x5, x6, x7] [y0, y1] k = 1) (f r).toNatClampNeg) ∨ (u = some (.int 0) ∧ ∃ r us', r < 8 ∧ (f r < 0 ∧ ∃ m i, f (((own_hs [y0, y1] &&& 7).toNatClampNeg + m) % 8) = -1 ∧ (∀ j, j < m → f (((own_hs [y0, y1] &&& 7).toNatClampNeg + j) % 8) ≠ -1 ∧ ¬ (¬ f (((own_hs [y0, y1] &&& 7).toNatClampNeg + j) % 8) < 0 ∧ (fun k => own_eqr 2 [x0, x1, x2, x3, x4, x5, x6, x7] [y0, y1] k = 1) (f (((own_hs [y0, y1] &&& 7).toNatClampNeg + j) % 8)).toNatClampNeg)) ∧ i ≤ m ∧ r = ((own_hs [y0, y1] &&& 7).toNatClampNeg + i) % 8) ∧ (0 ≤ us'.toInt ∧ us'.toInt ≤ us.toInt + 1) ∧ Keep h0 h [t, ag, sl] ∧ Ob Z h t "com/example/hornconv/hornconv/FactTable" fl_FactTable [(.ref un), (.ref me), (.int (2 : Int32)), (.ref ag), (.ref de), (.ref sl), (.ref po), (.int (1 : Int32)), (.int (lv + 1)), (.int us')] ∧ PA .int Z h ag [(.int y0), (.int y1), (.int x2), (.int x3), (.int x4), (.int x5), (.int x6), (.int x7)] ∧ PA .int Z h sl (sv 8 (upd f r 0)))) := by
  refine met_of Z0 (plainFor_of_name pn_com_example_hornconv_hornconv_FactTable) (Ls := #[.val (.ref t), .val (.ref vv), .unset, .unset, .unset, .unset]) (fun m => by first | (simp [entryFrame, mkF, argsToLocals, Value.category]; done) | rfl) ?_
  intro K ok
  have Kp : Keep h0 h0 [t, ag, sl] := Keep.refl _ _
  show W K l _ n0 _ h0 0 0 0 #[.val (.ref t), .val (.ref vv), .unset, .unset, .unset, .unset] []
  refine w_aloadN ok d4_0 rfl rfl ?_
  refine w_getfield ok (v := (.int (2 : Int32))) (host := "") (f := ("com/example/hornconv/hornconv/FactTable", "arity", "I", .int)) 2 d4_1 (Or.inl (hw _ (List.mem_of_getElem? (i := 15) rfl))) Via.refl A_t rfl rfl ?_
  refine w_iconst ok d4_4 (v := (1 : Int32)) rfl ?_
  refine w_icmp_ne ok d4_5 (pc' := 20) (by decide) (fun hc1 => ?_) (fun hc1 => False.elim (by revert hc1; decide))
  show W K l _ n0 _ h0 0 0 20 #[.val (.ref t), .val (.ref vv), .unset, .unset, .unset, .unset] []
  refine w_aloadN ok d4_20 rfl rfl ?_
  refine w_aloadN ok d4_21 rfl rfl ?_
  refine w_iconst ok d4_22 (v := (0 : Int32)) rfl ?_
  refine w_callP ok (y := (⟨"com/example/hornconv/hornconv/FactTable", "hash", "([II)I"⟩ : MethodName)) (a := t) (argsL := [(.ref vv), (.int (0 : Int32))]) (rest := []) d4_23 (hw _ (List.mem_of_getElem? (i := 37) rfl)) (hw _ (List.mem_of_getElem? (i := 38) rfl)) (hw _ (List.mem_of_getElem? (i := 39) rfl)) (hw _ (List.mem_of_getElem? (i := 2) rfl)) (hw _ (List.mem_of_getElem? (i := 3) rfl)) (hw _ (List.mem_of_getElem? (i := 40) rfl)) (by decide) A_t.1 pd_285bII29I rfl rfl (by decide) (Nat.le_of_ble_eq_true rfl) (by decide) (by decide) (fun z0 => rm_h_2_0 l Z a0 hw [] n0 h0 z0 t vv un me ag de sl po (0 : Int32) lv us y0 y1 A_t A_v) (fun v2 h3 qv2 => ?_)
  obtain ⟨rfl, rfl⟩ := qv2
  show W K l _ n0 _ h0 0 0 26 #[.val (.ref t), .val (.ref vv), .unset, .unset, .unset, .unset] [(.int (own_hs [y0, y1]))]
  refine w_istoreN ok d4_26 (L' := #[.val (.ref t), .val (.ref vv), .val (.int (own_hs [y0, y1])), .unset, .unset, .unset]) rfl ?_
  refine w_aloadN ok d4_27 rfl rfl ?_
  refine w_aloadN ok d4_28 rfl rfl ?_
  refine w_iloadN ok d4_29 rfl ?_
  refine w_callP ok (y := (⟨"com/example/hornconv/hornconv/FactTable", "find", "([II)I"⟩ : MethodName)) (a := t) (argsL := [(.ref vv), (.int (own_hs [y0, y1]))]) (rest := []) d4_30 (hw _ (List.mem_of_getElem? (i := 42) rfl)) (hw _ (List.mem_of_getElem? (i := 43) rfl)) (hw _ (List.mem_of_getElem? (i := 44) rfl)) (hw _ (List.mem_of_getElem? (i := 2) rfl)) (hw _ (List.mem_of_getElem? (i := 3) rfl)) (hw _ (List.mem_of_getElem? (i := 45) rfl)) (by decide) A_t.1 pd_285bII29I rfl rfl (by decide) (Nat.le_of_ble_eq_true rfl) (by decide) (by decide) (fun z0 => rm_find l Z a0 hw [] n0 h0 z0 t vv un me ag de sl po (0 : Int32) lv us x0 x1 x2 x3 x4 x5 x6 x7 y0 y1 f (own_hs [y0, y1]) A_t A_ag A_v A_sl hR hN) (fun v4 h5 qv4 => ?_)
  obtain ⟨r, hr8, rfl, hF, rfl⟩ := qv4
  show W K l _ n0 _ h0 0 0 33 #[.val (.ref t), .val (.ref vv), .val (.int (own_hs [y0, y1])), .unset, .unset, .unset] [(.int (Int32.ofNat r))]
  refine w_istoreN ok d4_33 (L' := #[.val (.ref t), .val (.ref vv), .val (.int (own_hs [y0, y1])), .val (.int (Int32.ofNat r)), .unset, .unset]) rfl ?_
  refine w_aloadN ok d4_34 rfl rfl ?_
  refine w_getfield ok (v := (.ref sl)) (host := "") (f := ("com/example/hornconv/hornconv/FactTable", "slots", "[I", (.array .int))) 5 d4_35 (Or.inl (hw _ (List.mem_of_getElem? (i := 22) rfl))) Via.refl A_t rfl rfl ?_
  refine w_iloadN ok d4_38 rfl ?_
  refine w_iaload ok (v := (.int (f r))) d4_39 A_sl (own_nn (own_ofNat (by omega))) (by rw [own_clamp (own_ofNat (j := r) (by omega))]; exact sv_get hr8) ?_
  refine w_if_lt ok d4_40 (pc' := 45) (by decide) (fun hc7 => ?_) (fun hc7 => ?_)
  · show W K l _ n0 _ h0 0 0 45 #[.val (.ref t), .val (.ref vv), .val (.int (own_hs [y0, y1])), .val (.int (Int32.ofNat r)), .unset, .unset] []
    refine w_aloadN ok d4_45 rfl rfl ?_
    refine w_getfield ok (v := (.int (0 : Int32))) (host := "") (f := ("com/example/hornconv/hornconv/FactTable", "rows", "I", .int)) 7 d4_46 (Or.inl (hw _ (List.mem_of_getElem? (i := 46) rfl))) Via.refl A_t rfl rfl ?_
    refine w_istore ok d4_49 (L' := #[.val (.ref t), .val (.ref vv), .val (.int (own_hs [y0, y1])), .val (.int (Int32.ofNat r)), .val (.int (0 : Int32)), .unset]) rfl ?_
    refine w_iload ok d4_51 rfl ?_
    refine w_aloadN ok d4_53 rfl rfl ?_
    refine w_getfield ok (v := (.ref de)) (host := "") (f := ("com/example/hornconv/hornconv/FactTable", "dead", "[Z", (.array .boolean))) 4 d4_54 (Or.inl (hw _ (List.mem_of_getElem? (i := 20) rfl))) Via.refl A_t rfl rfl ?_
    refine w_arraylength ok (z := (4 : Int32)) d4_57 A_de rfl (by decide) ?_
    show W K l _ n0 _ h0 0 0 58 #[.val (.ref t), .val (.ref vv), .val (.int (own_hs [y0, y1])), .val (.int (Int32.ofNat r)), .val (.int (0 : Int32)), .unset] [(.int (4 : Int32)), (.int (0 : Int32))]
    refine w_icmp_ne ok d4_58 (pc' := 96) (by decide) (fun hc9 => ?_) (fun hc9 => False.elim (by revert hc9; decide))
    show W K l _ n0 _ h0 0 0 96 #[.val (.ref t), .val (.ref vv), .val (.int (own_hs [y0, y1])), .val (.int (Int32.ofNat r)), .val (.int (0 : Int32)), .unset] []
    refine w_aloadN ok d4_96 rfl rfl ?_
    refine w_iconst ok d4_97 (v := (0 : Int32)) rfl ?_
    refine w_aloadN ok d4_98 rfl rfl ?_
    refine w_getfield ok (v := (.ref ag)) (host := "") (f := ("com/example/hornconv/hornconv/FactTable", "arguments", "[I", (.array .int))) 3 d4_99 (Or.inl (hw _ (List.mem_of_getElem? (i := 17) rfl))) Via.refl A_t rfl rfl ?_
    refine w_iload ok d4_102 rfl ?_
    refine w_aloadN ok d4_104 rfl rfl ?_
    refine w_getfield ok (v := (.int (2 : Int32))) (host := "") (f := ("com/example/hornconv/hornconv/FactTable", "arity", "I", .int)) 2 d4_105 (Or.inl (hw _ (List.mem_of_getElem? (i := 15) rfl))) Via.refl A_t rfl rfl ?_
    refine w_imul ok d4_108 ?_
    show W K l _ n0 _ h0 0 0 109 #[.val (.ref t), .val (.ref vv), .val (.int (own_hs [y0, y1])), .val (.int (Int32.ofNat r)), .val (.int (0 : Int32)), .unset] [(.int (0 : Int32)), (.ref ag), (.int (0 : Int32)), (.ref vv)]
    refine w_aloadN ok d4_109 rfl rfl ?_
    refine w_getfield ok (v := (.int (2 : Int32))) (host := "") (f := ("com/example/hornconv/hornconv/FactTable", "arity", "I", .int)) 2 d4_110 (Or.inl (hw _ (List.mem_of_getElem? (i := 15) rfl))) Via.refl A_t rfl rfl ?_
    refine w_arraycopy ok (sp' := 0) (dp' := 0) (nn' := 2) d4_113 (hw _ (List.mem_of_getElem? (i := 48) rfl)) (hw _ (List.mem_of_getElem? (i := 51) rfl)) (hw _ (List.mem_of_getElem? (i := 49) rfl)) (hw _ (List.mem_of_getElem? (i := 50) rfl)) A_v A_ag rfl ge_ag (by decide) (by decide) (by decide) rfl rfl rfl (Nat.le_of_ble_eq_true rfl) (Nat.le_of_ble_eq_true rfl) rfl (by decide) (Nat.le_of_ble_eq_true rfl) (fun h10 K_h10 A1_h10 => ?_)
    replace Kp := Kp.trans K_h10 (allS (Or.inl (by simp)) all0)
    replace A_t := A_t.keep K_h10 (ninS ne_t_ag nin0)
    replace A_de := A_de.keep K_h10 (ninS (Ne.symm ne_ag_de) nin0)
    replace A_sl := A_sl.keep K_h10 (ninS (Ne.symm ne_ag_sl) nin0)
    replace A_po := A_po.keep K_h10 (ninS (Ne.symm ne_ag_po) nin0)
    replace A_v := A_v.keep K_h10 (ninS (Ne.symm ne_ag_vv) nin0)
    replace A_ag : PA .int Z h10 ag [(.int y0), (.int y1), (.int x2), (.int x3), (.int x4), (.int x5), (.int x6), (.int x7)] := A1_h10
    show W K l _ n0 _ h10 0 0 116 #[.val (.ref t), .val (.ref vv), .val (.int (own_hs [y0, y1])), .val (.int (Int32.ofNat r)), .val (.int (0 : Int32)), .unset] []
    refine w_aloadN ok d4_116 rfl rfl ?_
    refine w_dup ok d4_117 rfl ?_
    refine w_getfield ok (v := (.int (0 : Int32))) (host := "") (f := ("com/example/hornconv/hornconv/FactTable", "rows", "I", .int)) 7 d4_118 (Or.inl (hw _ (List.mem_of_getElem? (i := 46) rfl))) Via.refl A_t rfl rfl ?_
    refine w_iconst ok d4_121 (v := (1 : Int32)) rfl ?_
    refine w_iadd ok d4_122 ?_
    show W K l _ n0 _ h10 0 0 123 #[.val (.ref t), .val (.ref vv), .val (.int (own_hs [y0, y1])), .val (.int (Int32.ofNat r)), .val (.int (0 : Int32)), .unset] [(.int (1 : Int32)), (.ref t)]
    refine w_putfield ok (host := "") (f := ("com/example/hornconv/hornconv/FactTable", "rows", "I", .int)) 7 d4_123 (Or.inl (hw _ (List.mem_of_getElem? (i := 46) rfl))) Via.refl A_t (la_FactTable hw) rfl rfl (Or.inl (hw _ (List.mem_of_getElem? (i := 47) rfl))) (hw _ (List.mem_of_getElem? (i := 2) rfl)) rfl rfl ge_t (fun h11 W_h11 A1_h11 => ?_)
    replace Kp := Kp.wr W_h11 (Or.inl (by simp))
    replace A_ag := A_ag.other W_h11 (Ne.symm ne_t_ag)
    replace A_de := A_de.other W_h11 (Ne.symm ne_t_de)
    replace A_sl := A_sl.other W_h11 (Ne.symm ne_t_sl)
    replace A_po := A_po.other W_h11 (Ne.symm ne_t_po)
    replace A_v := A_v.other W_h11 (Ne.symm ne_t_vv)
    replace A_t : Ob Z h11 t "com/example/hornconv/hornconv/FactTable" fl_FactTable [(.ref un), (.ref me), (.int (2 : Int32)), (.ref ag), (.ref de), (.ref sl), (.ref po), (.int (1 : Int32)), (.int lv), (.int us)] := A1_h11
    refine w_aloadN ok d4_126 rfl rfl ?_
    refine w_dup ok d4_127 rfl ?_
    refine w_getfield ok (v := (.int lv)) (host := "") (f := ("com/example/hornconv/hornconv/FactTable", "live", "I", .int)) 8 d4_128 (Or.inl (hw _ (List.mem_of_getElem? (i := 52) rfl))) Via.refl A_t rfl rfl ?_
    refine w_iconst ok d4_131 (v := (1 : Int32)) rfl ?_
    refine w_iadd ok d4_132 ?_
    refine w_putfield ok (host := "") (f := ("com/example/hornconv/hornconv/FactTable", "live", "I", .int)) 8 d4_133 (Or.inl (hw _ (List.mem_of_getElem? (i := 52) rfl))) Via.refl A_t (la_FactTable hw) rfl rfl (Or.inl (hw _ (List.mem_of_getElem? (i := 53) rfl))) (hw _ (List.mem_of_getElem? (i := 2) rfl)) rfl rfl ge_t (fun h12 W_h12 A1_h12 => ?_)
    replace Kp := Kp.wr W_h12 (Or.inl (by simp))
    replace A_ag := A_ag.other W_h12 (Ne.symm ne_t_ag)
    replace A_de := A_de.other W_h12 (Ne.symm ne_t_de)
    replace A_sl := A_sl.other W_h12 (Ne.symm ne_t_sl)
    replace A_po := A_po.other W_h12 (Ne.symm ne_t_po)
    replace A_v := A_v.other W_h12 (Ne.symm ne_t_vv)
    replace A_t : Ob Z h12 t "com/example/hornconv/hornconv/FactTable" fl_FactTable [(.ref un), (.ref me), (.int (2 : Int32)), (.ref ag), (.ref de), (.ref sl), (.ref po), (.int (1 : Int32)), (.int (lv + (1 : Int32))), (.int us)] := A1_h12
    refine w_aloadN ok d4_136 rfl rfl ?_
    refine w_getfield ok (v := (.int (2 : Int32))) (host := "") (f := ("com/example/hornconv/hornconv/FactTable", "arity", "I", .int)) 2 d4_137 (Or.inl (hw _ (List.mem_of_getElem? (i := 15) rfl))) Via.refl A_t rfl rfl ?_
    refine w_iconst ok d4_140 (v := (1 : Int32)) rfl ?_
    refine w_icmp_ne ok d4_141 (pc' := 152) (by decide) (fun hc14 => ?_) (fun hc14 => False.elim (by revert hc14; decide))
    show W K l _ n0 _ h12 0 0 152 #[.val (.ref t), .val (.ref vv), .val (.int (own_hs [y0, y1])), .val (.int (Int32.ofNat r)), .val (.int (0 : Int32)), .unset] []
    refine w_iconst ok d4_152 (v := (0 : Int32)) rfl ?_
    refine w_istore ok d4_153 (L' := #[.val (.ref t), .val (.ref vv), .val (.int (own_hs [y0, y1])), .val (.int (Int32.ofNat r)), .val (.int (0 : Int32)), .val (.int (0 : Int32))]) rfl ?_
    refine w_iload ok d4_155 rfl ?_
    refine w_aloadN ok d4_157 rfl rfl ?_
    refine w_getfield ok (v := (.ref po)) (host := "") (f := ("com/example/hornconv/hornconv/FactTable", "positions", "[Lcom/example/hornconv/hornconv/FactTable$PositionIndex;", (.array (.object "com/example/hornconv/hornconv/FactTable$PositionIndex")))) 6 d4_158 (Or.inl (hw _ (List.mem_of_getElem? (i := 30) rfl))) Via.refl A_t rfl rfl ?_
    refine w_arraylength ok (z := (2 : Int32)) d4_161 A_po rfl (by decide) ?_
    show W K l _ n0 _ h12 0 0 162 #[.val (.ref t), .val (.ref vv), .val (.int (own_hs [y0, y1])), .val (.int (Int32.ofNat r)), .val (.int (0 : Int32)), .val (.int (0 : Int32))] [(.int (2 : Int32)), (.int (0 : Int32))]
    refine w_icmp_ge ok d4_162 (pc' := 197) (by decide) (fun hc16 => False.elim (by revert hc16; decide)) (fun hc16 => ?_)
    show W K l _ n0 _ h12 0 0 165 #[.val (.ref t), .val (.ref vv), .val (.int (own_hs [y0, y1])), .val (.int (Int32.ofNat r)), .val (.int (0 : Int32)), .val (.int (0 : Int32))] []
    refine w_aloadN ok d4_165 rfl rfl ?_
    refine w_getfield ok (v := (.ref po)) (host := "") (f := ("com/example/hornconv/hornconv/FactTable", "positions", "[Lcom/example/hornconv/hornconv/FactTable$PositionIndex;", (.array (.object "com/example/hornconv/hornconv/FactTable$PositionIndex")))) 6 d4_166 (Or.inl (hw _ (List.mem_of_getElem? (i := 30) rfl))) Via.refl A_t rfl rfl ?_
    refine w_iload ok d4_169 rfl ?_
    refine w_aaload ok (v := .null) d4_171 A_po rfl (by decide) rfl ?_
    refine w_ifnullY ok d4_172 (pc' := 191) (by decide) ?_
    show W K l _ n0 _ h12 0 0 191 #[.val (.ref t), .val (.ref vv), .val (.int (own_hs [y0, y1])), .val (.int (Int32.ofNat r)), .val (.int (0 : Int32)), .val (.int (0 : Int32))] []
    refine w_iinc ok d4_191 (u := (1 : Int32)) rfl rfl (L' := #[.val (.ref t), .val (.ref vv), .val (.int (own_hs [y0, y1])), .val (.int (Int32.ofNat r)), .val (.int (0 : Int32)), .val (.int (1 : Int32))]) rfl ?_
    show W K l _ n0 _ h12 0 0 194 #[.val (.ref t), .val (.ref vv), .val (.int (own_hs [y0, y1])), .val (.int (Int32.ofNat r)), .val (.int (0 : Int32)), .val (.int (1 : Int32))] []
    refine w_goto ok d4_194 (pc' := 155) (by decide) ?_
    refine w_iload ok d4_155 rfl ?_
    refine w_aloadN ok d4_157 rfl rfl ?_
    refine w_getfield ok (v := (.ref po)) (host := "") (f := ("com/example/hornconv/hornconv/FactTable", "positions", "[Lcom/example/hornconv/hornconv/FactTable$PositionIndex;", (.array (.object "com/example/hornconv/hornconv/FactTable$PositionIndex")))) 6 d4_158 (Or.inl (hw _ (List.mem_of_getElem? (i := 30) rfl))) Via.refl A_t rfl rfl ?_
    refine w_arraylength ok (z := (2 : Int32)) d4_161 A_po rfl (by decide) ?_
    show W K l _ n0 _ h12 0 0 162 #[.val (.ref t), .val (.ref vv), .val (.int (own_hs [y0, y1])), .val (.int (Int32.ofNat r)), .val (.int (0 : Int32)), .val (.int (1 : Int32))] [(.int (2 : Int32)), (.int (1 : Int32))]
    refine w_icmp_ge ok d4_162 (pc' := 197) (by decide) (fun hc18 => False.elim (by revert hc18; decide)) (fun hc18 => ?_)
    show W K l _ n0 _ h12 0 0 165 #[.val (.ref t), .val (.ref vv), .val (.int (own_hs [y0, y1])), .val (.int (Int32.ofNat r)), .val (.int (0 : Int32)), .val (.int (1 : Int32))] []
    refine w_aloadN ok d4_165 rfl rfl ?_
    refine w_getfield ok (v := (.ref po)) (host := "") (f := ("com/example/hornconv/hornconv/FactTable", "positions", "[Lcom/example/hornconv/hornconv/FactTable$PositionIndex;", (.array (.object "com/example/hornconv/hornconv/FactTable$PositionIndex")))) 6 d4_166 (Or.inl (hw _ (List.mem_of_getElem? (i := 30) rfl))) Via.refl A_t rfl rfl ?_
    refine w_iload ok d4_169 rfl ?_
    refine w_aaload ok (v := .null) d4_171 A_po rfl (by decide) rfl ?_
    refine w_ifnullY ok d4_172 (pc' := 191) (by decide) ?_
    show W K l _ n0 _ h12 0 0 191 #[.val (.ref t), .val (.ref vv), .val (.int (own_hs [y0, y1])), .val (.int (Int32.ofNat r)), .val (.int (0 : Int32)), .val (.int (1 : Int32))] []
    refine w_iinc ok d4_191 (u := (1 : Int32)) rfl rfl (L' := #[.val (.ref t), .val (.ref vv), .val (.int (own_hs [y0, y1])), .val (.int (Int32.ofNat r)), .val (.int (0 : Int32)), .val (.int (2 : Int32))]) rfl ?_
    show W K l _ n0 _ h12 0 0 194 #[.val (.ref t), .val (.ref vv), .val (.int (own_hs [y0, y1])), .val (.int (Int32.ofNat r)), .val (.int (0 : Int32)), .val (.int (2 : Int32))] []
    refine w_goto ok d4_194 (pc' := 155) (by decide) ?_
    refine w_iload ok d4_155 rfl ?_
    refine w_aloadN ok d4_157 rfl rfl ?_
    refine w_getfield ok (v := (.ref po)) (host := "") (f := ("com/example/hornconv/hornconv/FactTable", "positions", "[Lcom/example/hornconv/hornconv/FactTable$PositionIndex;", (.array (.object "com/example/hornconv/hornconv/FactTable$PositionIndex")))) 6 d4_158 (Or.inl (hw _ (List.mem_of_getElem? (i := 30) rfl))) Via.refl A_t rfl rfl ?_
    refine w_arraylength ok (z := (2 : Int32)) d4_161 A_po rfl (by decide) ?_
    show W K l _ n0 _ h12 0 0 162 #[.val (.ref t), .val (.ref vv), .val (.int (own_hs [y0, y1])), .val (.int (Int32.ofNat r)), .val (.int (0 : Int32)), .val (.int (2 : Int32))] [(.int (2 : Int32)), (.int (2 : Int32))]
    refine w_icmp_ge ok d4_162 (pc' := 197) (by decide) (fun hc20 => ?_) (fun hc20 => False.elim (by revert hc20; decide))
    show W K l _ n0 _ h12 0 0 197 #[.val (.ref t), .val (.ref vv), .val (.int (own_hs [y0, y1])), .val (.int (Int32.ofNat r)), .val (.int (0 : Int32)), .val (.int (2 : Int32))] []
    refine w_aloadN ok d4_197 rfl rfl ?_
    refine w_getfield ok (v := (.ref sl)) (host := "") (f := ("com/example/hornconv/hornconv/FactTable", "slots", "[I", (.array .int))) 5 d4_198 (Or.inl (hw _ (List.mem_of_getElem? (i := 22) rfl))) Via.refl A_t rfl rfl ?_
    refine w_iloadN ok d4_201 rfl ?_
    refine w_iaload ok (v := (.int (f r))) d4_202 A_sl (own_nn (own_ofNat (by omega))) (by rw [own_clamp (own_ofNat (j := r) (by omega))]; exact sv_get hr8) ?_
    refine w_iconst ok d4_203 (v := (-1 : Int32)) rfl ?_
    refine w_icmp_ne ok d4_204 (pc' := 217) (by decide) (fun hc22 => ?_) (fun hc22 => ?_)
    · show W K l _ n0 _ h12 0 0 217 #[.val (.ref t), .val (.ref vv), .val (.int (own_hs [y0, y1])), .val (.int (Int32.ofNat r)), .val (.int (0 : Int32)), .val (.int (2 : Int32))] []
      refine w_aloadN ok d4_217 rfl rfl ?_
      refine w_getfield ok (v := (.ref sl)) (host := "") (f := ("com/example/hornconv/hornconv/FactTable", "slots", "[I", (.array .int))) 5 d4_218 (Or.inl (hw _ (List.mem_of_getElem? (i := 22) rfl))) Via.refl A_t rfl rfl ?_
      refine w_iloadN ok d4_221 rfl ?_
      refine w_iload ok d4_222 rfl ?_
      refine w_iastore ok d4_224 A_sl ge_sl (own_nn (own_ofNat (by omega))) (by rw [own_clamp (own_ofNat (j := r) (by omega)), sv_len]; exact hr8) (fun h23 W_h23 A1_h23 => ?_)
      replace Kp := Kp.wr W_h23 (Or.inl (by simp))
      replace A_t := A_t.other W_h23 ne_t_sl
      replace A_ag := A_ag.other W_h23 ne_ag_sl
      replace A_de := A_de.other W_h23 ne_de_sl
      replace A_po := A_po.other W_h23 (Ne.symm ne_sl_po)
      replace A_v := A_v.other W_h23 (Ne.symm ne_sl_vv)
      replace A_sl : PA .int Z h23 sl ((sv 8 f).set (Int32.ofNat r).toNatClampNeg (.int (0 : Int32))) := A1_h23
      rw [own_clamp (own_ofNat (j := r) (by omega)), sv_set] at A_sl
      refine w_iconst ok d4_225 (v := (2 : Int32)) rfl ?_
      refine w_aloadN ok d4_226 rfl rfl ?_
      refine w_getfield ok (v := (.int us)) (host := "") (f := ("com/example/hornconv/hornconv/FactTable", "used", "I", .int)) 9 d4_227 (Or.inl (hw _ (List.mem_of_getElem? (i := 54) rfl))) Via.refl A_t rfl rfl ?_
      refine w_imul ok d4_230 ?_
      refine w_aloadN ok d4_231 rfl rfl ?_
      refine w_getfield ok (v := (.ref sl)) (host := "") (f := ("com/example/hornconv/hornconv/FactTable", "slots", "[I", (.array .int))) 5 d4_232 (Or.inl (hw _ (List.mem_of_getElem? (i := 22) rfl))) Via.refl A_t rfl rfl ?_
      refine w_arraylength ok (z := (8 : Int32)) d4_235 A_sl (sv_len 8 _) (by decide) ?_
      show W K l _ n0 _ h23 0 0 236 #[.val (.ref t), .val (.ref vv), .val (.int (own_hs [y0, y1])), .val (.int (Int32.ofNat r)), .val (.int (0 : Int32)), .val (.int (2 : Int32))] [(.int (8 : Int32)), (.int ((2 : Int32) * us))]
      refine w_icmp_le ok d4_236 (pc' := 243) (by decide) (fun hc25 => ?_) (fun hc25 => False.elim (by exact own_2us hus hc25))
      show W K l _ n0 _ h23 0 0 243 #[.val (.ref t), .val (.ref vv), .val (.int (own_hs [y0, y1])), .val (.int (Int32.ofNat r)), .val (.int (0 : Int32)), .val (.int (2 : Int32))] []
      refine w_iload ok d4_243 rfl ?_
      refine w_iret ok d4_245 (by decide) (by decide) ?_
      rcases hF with hF | hF
      · exact absurd hc7 hF.1
      · exact Or.inr ⟨rfl, r, us, hr8, hF, own_us0 hus, Kp, A_t, A_ag, A_sl⟩
    · show W K l _ n0 _ h12 0 0 207 #[.val (.ref t), .val (.ref vv), .val (.int (own_hs [y0, y1])), .val (.int (Int32.ofNat r)), .val (.int (0 : Int32)), .val (.int (2 : Int32))] []
      refine w_aloadN ok d4_207 rfl rfl ?_
      refine w_dup ok d4_208 rfl ?_
      refine w_getfield ok (v := (.int us)) (host := "") (f := ("com/example/hornconv/hornconv/FactTable", "used", "I", .int)) 9 d4_209 (Or.inl (hw _ (List.mem_of_getElem? (i := 54) rfl))) Via.refl A_t rfl rfl ?_
      refine w_iconst ok d4_212 (v := (1 : Int32)) rfl ?_
      refine w_iadd ok d4_213 ?_
      refine w_putfield ok (host := "") (f := ("com/example/hornconv/hornconv/FactTable", "used", "I", .int)) 9 d4_214 (Or.inl (hw _ (List.mem_of_getElem? (i := 54) rfl))) Via.refl A_t (la_FactTable hw) rfl rfl (Or.inl (hw _ (List.mem_of_getElem? (i := 55) rfl))) (hw _ (List.mem_of_getElem? (i := 2) rfl)) rfl rfl ge_t (fun h26 W_h26 A1_h26 => ?_)
      replace Kp := Kp.wr W_h26 (Or.inl (by simp))
      replace A_ag := A_ag.other W_h26 (Ne.symm ne_t_ag)
      replace A_de := A_de.other W_h26 (Ne.symm ne_t_de)
      replace A_sl := A_sl.other W_h26 (Ne.symm ne_t_sl)
      replace A_po := A_po.other W_h26 (Ne.symm ne_t_po)
      replace A_v := A_v.other W_h26 (Ne.symm ne_t_vv)
      replace A_t : Ob Z h26 t "com/example/hornconv/hornconv/FactTable" fl_FactTable [(.ref un), (.ref me), (.int (2 : Int32)), (.ref ag), (.ref de), (.ref sl), (.ref po), (.int (1 : Int32)), (.int (lv + (1 : Int32))), (.int (us + (1 : Int32)))] := A1_h26
      refine w_aloadN ok d4_217 rfl rfl ?_
      refine w_getfield ok (v := (.ref sl)) (host := "") (f := ("com/example/hornconv/hornconv/FactTable", "slots", "[I", (.array .int))) 5 d4_218 (Or.inl (hw _ (List.mem_of_getElem? (i := 22) rfl))) Via.refl A_t rfl rfl ?_
      refine w_iloadN ok d4_221 rfl ?_
      refine w_iload ok d4_222 rfl ?_
      refine w_iastore ok d4_224 A_sl ge_sl (own_nn (own_ofNat (by omega))) (by rw [own_clamp (own_ofNat (j := r) (by omega)), sv_len]; exact hr8) (fun h27 W_h27 A1_h27 => ?_)
      replace Kp := Kp.wr W_h27 (Or.inl (by simp))
      replace A_t := A_t.other W_h27 ne_t_sl
      replace A_ag := A_ag.other W_h27 ne_ag_sl
      replace A_de := A_de.other W_h27 ne_de_sl
      replace A_po := A_po.other W_h27 (Ne.symm ne_sl_po)
      replace A_v := A_v.other W_h27 (Ne.symm ne_sl_vv)
      replace A_sl : PA .int Z h27 sl ((sv 8 f).set (Int32.ofNat r).toNatClampNeg (.int (0 : Int32))) := A1_h27
      rw [own_clamp (own_ofNat (j := r) (by omega)), sv_set] at A_sl
      refine w_iconst ok d4_225 (v := (2 : Int32)) rfl ?_
      refine w_aloadN ok d4_226 rfl rfl ?_
      refine w_getfield ok (v := (.int (us + (1 : Int32)))) (host := "") (f := ("com/example/hornconv/hornconv/FactTable", "used", "I", .int)) 9 d4_227 (Or.inl (hw _ (List.mem_of_getElem? (i := 54) rfl))) Via.refl A_t rfl rfl ?_
      refine w_imul ok d4_230 ?_
      refine w_aloadN ok d4_231 rfl rfl ?_
      refine w_getfield ok (v := (.ref sl)) (host := "") (f := ("com/example/hornconv/hornconv/FactTable", "slots", "[I", (.array .int))) 5 d4_232 (Or.inl (hw _ (List.mem_of_getElem? (i := 22) rfl))) Via.refl A_t rfl rfl ?_
      refine w_arraylength ok (z := (8 : Int32)) d4_235 A_sl (sv_len 8 _) (by decide) ?_
      show W K l _ n0 _ h27 0 0 236 #[.val (.ref t), .val (.ref vv), .val (.int (own_hs [y0, y1])), .val (.int (Int32.ofNat r)), .val (.int (0 : Int32)), .val (.int (2 : Int32))] [(.int (8 : Int32)), (.int ((2 : Int32) * (us + (1 : Int32))))]
      refine w_icmp_le ok d4_236 (pc' := 243) (by decide) (fun hc29 => ?_) (fun hc29 => False.elim (by exact own_2us1 hus hc29))
      show W K l _ n0 _ h27 0 0 243 #[.val (.ref t), .val (.ref vv), .val (.int (own_hs [y0, y1])), .val (.int (Int32.ofNat r)), .val (.int (0 : Int32)), .val (.int (2 : Int32))] []
      refine w_iload ok d4_243 rfl ?_
      refine w_iret ok d4_245 (by decide) (by decide) ?_
      rcases hF with hF | hF
      · exact absurd hc7 hF.1
      · exact Or.inr ⟨rfl, r, (us + (1 : Int32)), hr8, hF, own_us1 hus, Kp, A_t, A_ag, A_sl⟩
  · show W K l _ n0 _ h0 0 0 43 #[.val (.ref t), .val (.ref vv), .val (.int (own_hs [y0, y1])), .val (.int (Int32.ofNat r)), .unset, .unset] []
    refine w_iconst ok d4_43 (v := (-1 : Int32)) rfl ?_
    refine w_iret ok d4_44 (by decide) (by decide) ?_
    rcases hF with hF | hF
    · exact Or.inl ⟨rfl, rfl, r, hr8, hF.1, hF.2⟩
    · exact absurd hF.1 hc7
set_option maxRecDepth 65536 in
set_option maxHeartbeats 40000000 in
theorem rm_add1 (l : Launch) (Z : State) (a0 : Array Value) (hw : ∀ d ∈ tables_1, d.before a0 Z = true) (ws : List Jvm.Cond) (n0 : Nat) (h0 : Heap) (Z0 : Old Z n0 h0) (t vv un me ag de sl po : Addr) (lv us : Int32) (x0 x1 x2 x3 x4 x5 x6 x7 d0 d1 d2 d3 y0 y1 : Int32) (f : Nat → Int32) (A_t : Ob Z h0 t "com/example/hornconv/hornconv/FactTable" fl_FactTable [(.ref un), (.ref me), (.int (2 : Int32)), (.ref ag), (.ref de), (.ref sl), (.ref po), (.int (1 : Int32)), (.int lv), (.int us)]) (A_ag : PA .int Z h0 ag [(.int x0), (.int x1), (.int x2), (.int x3), (.int x4), (.int x5), (.int x6), (.int x7)]) (A_de : PA .boolean Z h0 de [(.int d0), (.int d1), (.int d2), (.int d3)]) (A_sl : PA .int Z h0 sl (sv 8 f)) (A_po : PA (.object "com/example/hornconv/hornconv/FactTable$PositionIndex") Z h0 po [.null, .null]) (A_v : PA .int Z h0 vv [(.int y0), (.int y1)]) (ge_t : n0 ≤ t) (ge_ag : n0 ≤ ag) (ge_sl : n0 ≤ sl) (ne_t_ag : t ≠ ag) (ne_t_de : t ≠ de) (ne_t_sl : t ≠ sl) (ne_t_po : t ≠ po) (ne_t_vv : t ≠ vv) (ne_ag_de : ag ≠ de) (ne_ag_sl : ag ≠ sl) (ne_ag_po : ag ≠ po) (ne_ag_vv : ag ≠ vv) (ne_de_sl : de ≠ sl) (ne_sl_po : sl ≠ po) (ne_sl_vv : sl ≠ vv) (hR : Rw f) (hN : ∀ s, ∃ m, f ((s + m) % 8) = -1) (hus : 0 ≤ us.toInt ∧ us.toInt ≤ 3)  :
    Met l Z n0 (⟨"com/example/hornconv/hornconv/FactTable", "add", "([I)I"⟩ : MethodName) prog_3_method_7_code 6 (some .int) ws ({ frames := 2, cells := 0, slots := 0, locals := 35 } : Room) #[(.ref t), (.ref vv)] h0 (fun u h => (u = some (.int (-1)) ∧ h0 = h ∧ ∃ r, r < 8 ∧ ¬ f r < 0 ∧ (fun k => own_eqr 2 [x0, x1, x2, x3, x4, x5, x6, x7] [y0, y1] k = 1) (f r).toNatClampNeg) ∨ (u = some (.int 1) ∧ ∃ r us', r < 8 ∧ (f r < 0 ∧ ∃ m i, f (((own_hs [y0, y1] &&& 7).toNatClampNeg + m) % 8) = -1 ∧ (∀ j, j < m → f (((own_hs [y0, y1] &&& 7).toNatClampNeg + j) % 8) ≠ -1 ∧ ¬ (¬ f (((own_hs [y0, y1] &&& 7).toNatClampNeg + j) % 8) < 0 ∧ (fun k => own_eqr 2 [x0, x1, x2, x3, x4, x5, x6, x7] [y0, y1] k = 1) (f (((own_hs [y0, y1] &&& 7).toNatClampNeg + j) % 8)).toNatClampNeg)) ∧ i ≤ m ∧ r = ((own_hs [y0, y1] &&& 7).toNatClampNeg + i) % 8) ∧ (0 ≤ us'.toInt ∧ us'.toInt ≤ us.toInt + 1) ∧ Keep h0 h [t, ag, sl] ∧ Ob Z h t "com/example/hornconv/hornconv/FactTable" fl_FactTable [(.ref un), (.ref me), (.int (2 : Int32)), (.ref ag), (.ref de), (.ref sl), (.ref po), (.int (2 : Int32)), (.int (lv + 1)), (.int us')] ∧ PA .int Z h ag [(.int x0), (.int x1), (.int y0), (.int y1), (.int x4), (.int x5), (.int x6), (.int x7)] ∧ PA .int Z h sl (sv 8 (upd f r 1)))) := by
  refine met_of Z0 (plainFor_of_name pn_com_example_hornconv_hornconv_FactTable) (Ls := #[.val (.ref t), .val (.ref vv), .unset, .unset, .unset, .unset]) (fun m => by first | (simp [entryFrame, mkF, argsToLocals, Value.category]; done) | rfl) ?_
  intro K ok
  have Kp : Keep h0 h0 [t, ag, sl] := Keep.refl _ _
  show W K l _ n0 _ h0 0 0 0 #[.val (.ref t), .val (.ref vv), .unset, .unset, .unset, .unset] []
  refine w_aloadN ok d4_0 rfl rfl ?_
  refine w_getfield ok (v := (.int (2 : Int32))) (host := "") (f := ("com/example/hornconv/hornconv/FactTable", "arity", "I", .int)) 2 d4_1 (Or.inl (hw _ (List.mem_of_getElem? (i := 15) rfl))) Via.refl A_t rfl rfl ?_
  refine w_iconst ok d4_4 (v := (1 : Int32)) rfl ?_
  refine w_icmp_ne ok d4_5 (pc' := 20) (by decide) (fun hc1 => ?_) (fun hc1 => False.elim (by revert hc1; decide))
  show W K l _ n0 _ h0 0 0 20 #[.val (.ref t), .val (.ref vv), .unset, .unset, .unset, .unset] []
  refine w_aloadN ok d4_20 rfl rfl ?_
  refine w_aloadN ok d4_21 rfl rfl ?_
  refine w_iconst ok d4_22 (v := (0 : Int32)) rfl ?_
  refine w_callP ok (y := (⟨"com/example/hornconv/hornconv/FactTable", "hash", "([II)I"⟩ : MethodName)) (a := t) (argsL := [(.ref vv), (.int (0 : Int32))]) (rest := []) d4_23 (hw _ (List.mem_of_getElem? (i := 37) rfl)) (hw _ (List.mem_of_getElem? (i := 38) rfl)) (hw _ (List.mem_of_getElem? (i := 39) rfl)) (hw _ (List.mem_of_getElem? (i := 2) rfl)) (hw _ (List.mem_of_getElem? (i := 3) rfl)) (hw _ (List.mem_of_getElem? (i := 40) rfl)) (by decide) A_t.1 pd_285bII29I rfl rfl (by decide) (Nat.le_of_ble_eq_true rfl) (by decide) (by decide) (fun z0 => rm_h_2_0 l Z a0 hw [] n0 h0 z0 t vv un me ag de sl po (1 : Int32) lv us y0 y1 A_t A_v) (fun v2 h3 qv2 => ?_)
  obtain ⟨rfl, rfl⟩ := qv2
  show W K l _ n0 _ h0 0 0 26 #[.val (.ref t), .val (.ref vv), .unset, .unset, .unset, .unset] [(.int (own_hs [y0, y1]))]
  refine w_istoreN ok d4_26 (L' := #[.val (.ref t), .val (.ref vv), .val (.int (own_hs [y0, y1])), .unset, .unset, .unset]) rfl ?_
  refine w_aloadN ok d4_27 rfl rfl ?_
  refine w_aloadN ok d4_28 rfl rfl ?_
  refine w_iloadN ok d4_29 rfl ?_
  refine w_callP ok (y := (⟨"com/example/hornconv/hornconv/FactTable", "find", "([II)I"⟩ : MethodName)) (a := t) (argsL := [(.ref vv), (.int (own_hs [y0, y1]))]) (rest := []) d4_30 (hw _ (List.mem_of_getElem? (i := 42) rfl)) (hw _ (List.mem_of_getElem? (i := 43) rfl)) (hw _ (List.mem_of_getElem? (i := 44) rfl)) (hw _ (List.mem_of_getElem? (i := 2) rfl)) (hw _ (List.mem_of_getElem? (i := 3) rfl)) (hw _ (List.mem_of_getElem? (i := 45) rfl)) (by decide) A_t.1 pd_285bII29I rfl rfl (by decide) (Nat.le_of_ble_eq_true rfl) (by decide) (by decide) (fun z0 => rm_find l Z a0 hw [] n0 h0 z0 t vv un me ag de sl po (1 : Int32) lv us x0 x1 x2 x3 x4 x5 x6 x7 y0 y1 f (own_hs [y0, y1]) A_t A_ag A_v A_sl hR hN) (fun v4 h5 qv4 => ?_)
  obtain ⟨r, hr8, rfl, hF, rfl⟩ := qv4
  show W K l _ n0 _ h0 0 0 33 #[.val (.ref t), .val (.ref vv), .val (.int (own_hs [y0, y1])), .unset, .unset, .unset] [(.int (Int32.ofNat r))]
  refine w_istoreN ok d4_33 (L' := #[.val (.ref t), .val (.ref vv), .val (.int (own_hs [y0, y1])), .val (.int (Int32.ofNat r)), .unset, .unset]) rfl ?_
  refine w_aloadN ok d4_34 rfl rfl ?_
  refine w_getfield ok (v := (.ref sl)) (host := "") (f := ("com/example/hornconv/hornconv/FactTable", "slots", "[I", (.array .int))) 5 d4_35 (Or.inl (hw _ (List.mem_of_getElem? (i := 22) rfl))) Via.refl A_t rfl rfl ?_
  refine w_iloadN ok d4_38 rfl ?_
  refine w_iaload ok (v := (.int (f r))) d4_39 A_sl (own_nn (own_ofNat (by omega))) (by rw [own_clamp (own_ofNat (j := r) (by omega))]; exact sv_get hr8) ?_
  refine w_if_lt ok d4_40 (pc' := 45) (by decide) (fun hc7 => ?_) (fun hc7 => ?_)
  · show W K l _ n0 _ h0 0 0 45 #[.val (.ref t), .val (.ref vv), .val (.int (own_hs [y0, y1])), .val (.int (Int32.ofNat r)), .unset, .unset] []
    refine w_aloadN ok d4_45 rfl rfl ?_
    refine w_getfield ok (v := (.int (1 : Int32))) (host := "") (f := ("com/example/hornconv/hornconv/FactTable", "rows", "I", .int)) 7 d4_46 (Or.inl (hw _ (List.mem_of_getElem? (i := 46) rfl))) Via.refl A_t rfl rfl ?_
    refine w_istore ok d4_49 (L' := #[.val (.ref t), .val (.ref vv), .val (.int (own_hs [y0, y1])), .val (.int (Int32.ofNat r)), .val (.int (1 : Int32)), .unset]) rfl ?_
    refine w_iload ok d4_51 rfl ?_
    refine w_aloadN ok d4_53 rfl rfl ?_
    refine w_getfield ok (v := (.ref de)) (host := "") (f := ("com/example/hornconv/hornconv/FactTable", "dead", "[Z", (.array .boolean))) 4 d4_54 (Or.inl (hw _ (List.mem_of_getElem? (i := 20) rfl))) Via.refl A_t rfl rfl ?_
    refine w_arraylength ok (z := (4 : Int32)) d4_57 A_de rfl (by decide) ?_
    show W K l _ n0 _ h0 0 0 58 #[.val (.ref t), .val (.ref vv), .val (.int (own_hs [y0, y1])), .val (.int (Int32.ofNat r)), .val (.int (1 : Int32)), .unset] [(.int (4 : Int32)), (.int (1 : Int32))]
    refine w_icmp_ne ok d4_58 (pc' := 96) (by decide) (fun hc9 => ?_) (fun hc9 => False.elim (by revert hc9; decide))
    show W K l _ n0 _ h0 0 0 96 #[.val (.ref t), .val (.ref vv), .val (.int (own_hs [y0, y1])), .val (.int (Int32.ofNat r)), .val (.int (1 : Int32)), .unset] []
    refine w_aloadN ok d4_96 rfl rfl ?_
    refine w_iconst ok d4_97 (v := (0 : Int32)) rfl ?_
    refine w_aloadN ok d4_98 rfl rfl ?_
    refine w_getfield ok (v := (.ref ag)) (host := "") (f := ("com/example/hornconv/hornconv/FactTable", "arguments", "[I", (.array .int))) 3 d4_99 (Or.inl (hw _ (List.mem_of_getElem? (i := 17) rfl))) Via.refl A_t rfl rfl ?_
    refine w_iload ok d4_102 rfl ?_
    refine w_aloadN ok d4_104 rfl rfl ?_
    refine w_getfield ok (v := (.int (2 : Int32))) (host := "") (f := ("com/example/hornconv/hornconv/FactTable", "arity", "I", .int)) 2 d4_105 (Or.inl (hw _ (List.mem_of_getElem? (i := 15) rfl))) Via.refl A_t rfl rfl ?_
    refine w_imul ok d4_108 ?_
    show W K l _ n0 _ h0 0 0 109 #[.val (.ref t), .val (.ref vv), .val (.int (own_hs [y0, y1])), .val (.int (Int32.ofNat r)), .val (.int (1 : Int32)), .unset] [(.int (2 : Int32)), (.ref ag), (.int (0 : Int32)), (.ref vv)]
    refine w_aloadN ok d4_109 rfl rfl ?_
    refine w_getfield ok (v := (.int (2 : Int32))) (host := "") (f := ("com/example/hornconv/hornconv/FactTable", "arity", "I", .int)) 2 d4_110 (Or.inl (hw _ (List.mem_of_getElem? (i := 15) rfl))) Via.refl A_t rfl rfl ?_
    refine w_arraycopy ok (sp' := 0) (dp' := 2) (nn' := 2) d4_113 (hw _ (List.mem_of_getElem? (i := 48) rfl)) (hw _ (List.mem_of_getElem? (i := 51) rfl)) (hw _ (List.mem_of_getElem? (i := 49) rfl)) (hw _ (List.mem_of_getElem? (i := 50) rfl)) A_v A_ag rfl ge_ag (by decide) (by decide) (by decide) rfl rfl rfl (Nat.le_of_ble_eq_true rfl) (Nat.le_of_ble_eq_true rfl) rfl (by decide) (Nat.le_of_ble_eq_true rfl) (fun h10 K_h10 A1_h10 => ?_)
    replace Kp := Kp.trans K_h10 (allS (Or.inl (by simp)) all0)
    replace A_t := A_t.keep K_h10 (ninS ne_t_ag nin0)
    replace A_de := A_de.keep K_h10 (ninS (Ne.symm ne_ag_de) nin0)
    replace A_sl := A_sl.keep K_h10 (ninS (Ne.symm ne_ag_sl) nin0)
    replace A_po := A_po.keep K_h10 (ninS (Ne.symm ne_ag_po) nin0)
    replace A_v := A_v.keep K_h10 (ninS (Ne.symm ne_ag_vv) nin0)
    replace A_ag : PA .int Z h10 ag [(.int x0), (.int x1), (.int y0), (.int y1), (.int x4), (.int x5), (.int x6), (.int x7)] := A1_h10
    show W K l _ n0 _ h10 0 0 116 #[.val (.ref t), .val (.ref vv), .val (.int (own_hs [y0, y1])), .val (.int (Int32.ofNat r)), .val (.int (1 : Int32)), .unset] []
    refine w_aloadN ok d4_116 rfl rfl ?_
    refine w_dup ok d4_117 rfl ?_
    refine w_getfield ok (v := (.int (1 : Int32))) (host := "") (f := ("com/example/hornconv/hornconv/FactTable", "rows", "I", .int)) 7 d4_118 (Or.inl (hw _ (List.mem_of_getElem? (i := 46) rfl))) Via.refl A_t rfl rfl ?_
    refine w_iconst ok d4_121 (v := (1 : Int32)) rfl ?_
    refine w_iadd ok d4_122 ?_
    show W K l _ n0 _ h10 0 0 123 #[.val (.ref t), .val (.ref vv), .val (.int (own_hs [y0, y1])), .val (.int (Int32.ofNat r)), .val (.int (1 : Int32)), .unset] [(.int (2 : Int32)), (.ref t)]
    refine w_putfield ok (host := "") (f := ("com/example/hornconv/hornconv/FactTable", "rows", "I", .int)) 7 d4_123 (Or.inl (hw _ (List.mem_of_getElem? (i := 46) rfl))) Via.refl A_t (la_FactTable hw) rfl rfl (Or.inl (hw _ (List.mem_of_getElem? (i := 47) rfl))) (hw _ (List.mem_of_getElem? (i := 2) rfl)) rfl rfl ge_t (fun h11 W_h11 A1_h11 => ?_)
    replace Kp := Kp.wr W_h11 (Or.inl (by simp))
    replace A_ag := A_ag.other W_h11 (Ne.symm ne_t_ag)
    replace A_de := A_de.other W_h11 (Ne.symm ne_t_de)
    replace A_sl := A_sl.other W_h11 (Ne.symm ne_t_sl)
    replace A_po := A_po.other W_h11 (Ne.symm ne_t_po)
    replace A_v := A_v.other W_h11 (Ne.symm ne_t_vv)
    replace A_t : Ob Z h11 t "com/example/hornconv/hornconv/FactTable" fl_FactTable [(.ref un), (.ref me), (.int (2 : Int32)), (.ref ag), (.ref de), (.ref sl), (.ref po), (.int (2 : Int32)), (.int lv), (.int us)] := A1_h11
    refine w_aloadN ok d4_126 rfl rfl ?_
    refine w_dup ok d4_127 rfl ?_
    refine w_getfield ok (v := (.int lv)) (host := "") (f := ("com/example/hornconv/hornconv/FactTable", "live", "I", .int)) 8 d4_128 (Or.inl (hw _ (List.mem_of_getElem? (i := 52) rfl))) Via.refl A_t rfl rfl ?_
    refine w_iconst ok d4_131 (v := (1 : Int32)) rfl ?_
    refine w_iadd ok d4_132 ?_
    refine w_putfield ok (host := "") (f := ("com/example/hornconv/hornconv/FactTable", "live", "I", .int)) 8 d4_133 (Or.inl (hw _ (List.mem_of_getElem? (i := 52) rfl))) Via.refl A_t (la_FactTable hw) rfl rfl (Or.inl (hw _ (List.mem_of_getElem? (i := 53) rfl))) (hw _ (List.mem_of_getElem? (i := 2) rfl)) rfl rfl ge_t (fun h12 W_h12 A1_h12 => ?_)
    replace Kp := Kp.wr W_h12 (Or.inl (by simp))
    replace A_ag := A_ag.other W_h12 (Ne.symm ne_t_ag)
    replace A_de := A_de.other W_h12 (Ne.symm ne_t_de)
    replace A_sl := A_sl.other W_h12 (Ne.symm ne_t_sl)
    replace A_po := A_po.other W_h12 (Ne.symm ne_t_po)
    replace A_v := A_v.other W_h12 (Ne.symm ne_t_vv)
    replace A_t : Ob Z h12 t "com/example/hornconv/hornconv/FactTable" fl_FactTable [(.ref un), (.ref me), (.int (2 : Int32)), (.ref ag), (.ref de), (.ref sl), (.ref po), (.int (2 : Int32)), (.int (lv + (1 : Int32))), (.int us)] := A1_h12
    refine w_aloadN ok d4_136 rfl rfl ?_
    refine w_getfield ok (v := (.int (2 : Int32))) (host := "") (f := ("com/example/hornconv/hornconv/FactTable", "arity", "I", .int)) 2 d4_137 (Or.inl (hw _ (List.mem_of_getElem? (i := 15) rfl))) Via.refl A_t rfl rfl ?_
    refine w_iconst ok d4_140 (v := (1 : Int32)) rfl ?_
    refine w_icmp_ne ok d4_141 (pc' := 152) (by decide) (fun hc14 => ?_) (fun hc14 => False.elim (by revert hc14; decide))
    show W K l _ n0 _ h12 0 0 152 #[.val (.ref t), .val (.ref vv), .val (.int (own_hs [y0, y1])), .val (.int (Int32.ofNat r)), .val (.int (1 : Int32)), .unset] []
    refine w_iconst ok d4_152 (v := (0 : Int32)) rfl ?_
    refine w_istore ok d4_153 (L' := #[.val (.ref t), .val (.ref vv), .val (.int (own_hs [y0, y1])), .val (.int (Int32.ofNat r)), .val (.int (1 : Int32)), .val (.int (0 : Int32))]) rfl ?_
    refine w_iload ok d4_155 rfl ?_
    refine w_aloadN ok d4_157 rfl rfl ?_
    refine w_getfield ok (v := (.ref po)) (host := "") (f := ("com/example/hornconv/hornconv/FactTable", "positions", "[Lcom/example/hornconv/hornconv/FactTable$PositionIndex;", (.array (.object "com/example/hornconv/hornconv/FactTable$PositionIndex")))) 6 d4_158 (Or.inl (hw _ (List.mem_of_getElem? (i := 30) rfl))) Via.refl A_t rfl rfl ?_
    refine w_arraylength ok (z := (2 : Int32)) d4_161 A_po rfl (by decide) ?_
    show W K l _ n0 _ h12 0 0 162 #[.val (.ref t), .val (.ref vv), .val (.int (own_hs [y0, y1])), .val (.int (Int32.ofNat r)), .val (.int (1 : Int32)), .val (.int (0 : Int32))] [(.int (2 : Int32)), (.int (0 : Int32))]
    refine w_icmp_ge ok d4_162 (pc' := 197) (by decide) (fun hc16 => False.elim (by revert hc16; decide)) (fun hc16 => ?_)
    show W K l _ n0 _ h12 0 0 165 #[.val (.ref t), .val (.ref vv), .val (.int (own_hs [y0, y1])), .val (.int (Int32.ofNat r)), .val (.int (1 : Int32)), .val (.int (0 : Int32))] []
    refine w_aloadN ok d4_165 rfl rfl ?_
    refine w_getfield ok (v := (.ref po)) (host := "") (f := ("com/example/hornconv/hornconv/FactTable", "positions", "[Lcom/example/hornconv/hornconv/FactTable$PositionIndex;", (.array (.object "com/example/hornconv/hornconv/FactTable$PositionIndex")))) 6 d4_166 (Or.inl (hw _ (List.mem_of_getElem? (i := 30) rfl))) Via.refl A_t rfl rfl ?_
    refine w_iload ok d4_169 rfl ?_
    refine w_aaload ok (v := .null) d4_171 A_po rfl (by decide) rfl ?_
    refine w_ifnullY ok d4_172 (pc' := 191) (by decide) ?_
    show W K l _ n0 _ h12 0 0 191 #[.val (.ref t), .val (.ref vv), .val (.int (own_hs [y0, y1])), .val (.int (Int32.ofNat r)), .val (.int (1 : Int32)), .val (.int (0 : Int32))] []
    refine w_iinc ok d4_191 (u := (1 : Int32)) rfl rfl (L' := #[.val (.ref t), .val (.ref vv), .val (.int (own_hs [y0, y1])), .val (.int (Int32.ofNat r)), .val (.int (1 : Int32)), .val (.int (1 : Int32))]) rfl ?_
    show W K l _ n0 _ h12 0 0 194 #[.val (.ref t), .val (.ref vv), .val (.int (own_hs [y0, y1])), .val (.int (Int32.ofNat r)), .val (.int (1 : Int32)), .val (.int (1 : Int32))] []
    refine w_goto ok d4_194 (pc' := 155) (by decide) ?_
    refine w_iload ok d4_155 rfl ?_
    refine w_aloadN ok d4_157 rfl rfl ?_
    refine w_getfield ok (v := (.ref po)) (host := "") (f := ("com/example/hornconv/hornconv/FactTable", "positions", "[Lcom/example/hornconv/hornconv/FactTable$PositionIndex;", (.array (.object "com/example/hornconv/hornconv/FactTable$PositionIndex")))) 6 d4_158 (Or.inl (hw _ (List.mem_of_getElem? (i := 30) rfl))) Via.refl A_t rfl rfl ?_
    refine w_arraylength ok (z := (2 : Int32)) d4_161 A_po rfl (by decide) ?_
    show W K l _ n0 _ h12 0 0 162 #[.val (.ref t), .val (.ref vv), .val (.int (own_hs [y0, y1])), .val (.int (Int32.ofNat r)), .val (.int (1 : Int32)), .val (.int (1 : Int32))] [(.int (2 : Int32)), (.int (1 : Int32))]
    refine w_icmp_ge ok d4_162 (pc' := 197) (by decide) (fun hc18 => False.elim (by revert hc18; decide)) (fun hc18 => ?_)
    show W K l _ n0 _ h12 0 0 165 #[.val (.ref t), .val (.ref vv), .val (.int (own_hs [y0, y1])), .val (.int (Int32.ofNat r)), .val (.int (1 : Int32)), .val (.int (1 : Int32))] []
    refine w_aloadN ok d4_165 rfl rfl ?_
    refine w_getfield ok (v := (.ref po)) (host := "") (f := ("com/example/hornconv/hornconv/FactTable", "positions", "[Lcom/example/hornconv/hornconv/FactTable$PositionIndex;", (.array (.object "com/example/hornconv/hornconv/FactTable$PositionIndex")))) 6 d4_166 (Or.inl (hw _ (List.mem_of_getElem? (i := 30) rfl))) Via.refl A_t rfl rfl ?_
    refine w_iload ok d4_169 rfl ?_
    refine w_aaload ok (v := .null) d4_171 A_po rfl (by decide) rfl ?_
    refine w_ifnullY ok d4_172 (pc' := 191) (by decide) ?_
    show W K l _ n0 _ h12 0 0 191 #[.val (.ref t), .val (.ref vv), .val (.int (own_hs [y0, y1])), .val (.int (Int32.ofNat r)), .val (.int (1 : Int32)), .val (.int (1 : Int32))] []
    refine w_iinc ok d4_191 (u := (1 : Int32)) rfl rfl (L' := #[.val (.ref t), .val (.ref vv), .val (.int (own_hs [y0, y1])), .val (.int (Int32.ofNat r)), .val (.int (1 : Int32)), .val (.int (2 : Int32))]) rfl ?_
    show W K l _ n0 _ h12 0 0 194 #[.val (.ref t), .val (.ref vv), .val (.int (own_hs [y0, y1])), .val (.int (Int32.ofNat r)), .val (.int (1 : Int32)), .val (.int (2 : Int32))] []
    refine w_goto ok d4_194 (pc' := 155) (by decide) ?_
    refine w_iload ok d4_155 rfl ?_
    refine w_aloadN ok d4_157 rfl rfl ?_
    refine w_getfield ok (v := (.ref po)) (host := "") (f := ("com/example/hornconv/hornconv/FactTable", "positions", "[Lcom/example/hornconv/hornconv/FactTable$PositionIndex;", (.array (.object "com/example/hornconv/hornconv/FactTable$PositionIndex")))) 6 d4_158 (Or.inl (hw _ (List.mem_of_getElem? (i := 30) rfl))) Via.refl A_t rfl rfl ?_
    refine w_arraylength ok (z := (2 : Int32)) d4_161 A_po rfl (by decide) ?_
    show W K l _ n0 _ h12 0 0 162 #[.val (.ref t), .val (.ref vv), .val (.int (own_hs [y0, y1])), .val (.int (Int32.ofNat r)), .val (.int (1 : Int32)), .val (.int (2 : Int32))] [(.int (2 : Int32)), (.int (2 : Int32))]
    refine w_icmp_ge ok d4_162 (pc' := 197) (by decide) (fun hc20 => ?_) (fun hc20 => False.elim (by revert hc20; decide))
    show W K l _ n0 _ h12 0 0 197 #[.val (.ref t), .val (.ref vv), .val (.int (own_hs [y0, y1])), .val (.int (Int32.ofNat r)), .val (.int (1 : Int32)), .val (.int (2 : Int32))] []
    refine w_aloadN ok d4_197 rfl rfl ?_
    refine w_getfield ok (v := (.ref sl)) (host := "") (f := ("com/example/hornconv/hornconv/FactTable", "slots", "[I", (.array .int))) 5 d4_198 (Or.inl (hw _ (List.mem_of_getElem? (i := 22) rfl))) Via.refl A_t rfl rfl ?_
    refine w_iloadN ok d4_201 rfl ?_
    refine w_iaload ok (v := (.int (f r))) d4_202 A_sl (own_nn (own_ofNat (by omega))) (by rw [own_clamp (own_ofNat (j := r) (by omega))]; exact sv_get hr8) ?_
    refine w_iconst ok d4_203 (v := (-1 : Int32)) rfl ?_
    refine w_icmp_ne ok d4_204 (pc' := 217) (by decide) (fun hc22 => ?_) (fun hc22 => ?_)
    · show W K l _ n0 _ h12 0 0 217 #[.val (.ref t), .val (.ref vv), .val (.int (own_hs [y0, y1])), .val (.int (Int32.ofNat r)), .val (.int (1 : Int32)), .val (.int (2 : Int32))] []
      refine w_aloadN ok d4_217 rfl rfl ?_
      refine w_getfield ok (v := (.ref sl)) (host := "") (f := ("com/example/hornconv/hornconv/FactTable", "slots", "[I", (.array .int))) 5 d4_218 (Or.inl (hw _ (List.mem_of_getElem? (i := 22) rfl))) Via.refl A_t rfl rfl ?_
      refine w_iloadN ok d4_221 rfl ?_
      refine w_iload ok d4_222 rfl ?_
      refine w_iastore ok d4_224 A_sl ge_sl (own_nn (own_ofNat (by omega))) (by rw [own_clamp (own_ofNat (j := r) (by omega)), sv_len]; exact hr8) (fun h23 W_h23 A1_h23 => ?_)
      replace Kp := Kp.wr W_h23 (Or.inl (by simp))
      replace A_t := A_t.other W_h23 ne_t_sl
      replace A_ag := A_ag.other W_h23 ne_ag_sl
      replace A_de := A_de.other W_h23 ne_de_sl
      replace A_po := A_po.other W_h23 (Ne.symm ne_sl_po)
      replace A_v := A_v.other W_h23 (Ne.symm ne_sl_vv)
      replace A_sl : PA .int Z h23 sl ((sv 8 f).set (Int32.ofNat r).toNatClampNeg (.int (1 : Int32))) := A1_h23
      rw [own_clamp (own_ofNat (j := r) (by omega)), sv_set] at A_sl
      refine w_iconst ok d4_225 (v := (2 : Int32)) rfl ?_
      refine w_aloadN ok d4_226 rfl rfl ?_
      refine w_getfield ok (v := (.int us)) (host := "") (f := ("com/example/hornconv/hornconv/FactTable", "used", "I", .int)) 9 d4_227 (Or.inl (hw _ (List.mem_of_getElem? (i := 54) rfl))) Via.refl A_t rfl rfl ?_
      refine w_imul ok d4_230 ?_
      refine w_aloadN ok d4_231 rfl rfl ?_
      refine w_getfield ok (v := (.ref sl)) (host := "") (f := ("com/example/hornconv/hornconv/FactTable", "slots", "[I", (.array .int))) 5 d4_232 (Or.inl (hw _ (List.mem_of_getElem? (i := 22) rfl))) Via.refl A_t rfl rfl ?_
      refine w_arraylength ok (z := (8 : Int32)) d4_235 A_sl (sv_len 8 _) (by decide) ?_
      show W K l _ n0 _ h23 0 0 236 #[.val (.ref t), .val (.ref vv), .val (.int (own_hs [y0, y1])), .val (.int (Int32.ofNat r)), .val (.int (1 : Int32)), .val (.int (2 : Int32))] [(.int (8 : Int32)), (.int ((2 : Int32) * us))]
      refine w_icmp_le ok d4_236 (pc' := 243) (by decide) (fun hc25 => ?_) (fun hc25 => False.elim (by exact own_2us hus hc25))
      show W K l _ n0 _ h23 0 0 243 #[.val (.ref t), .val (.ref vv), .val (.int (own_hs [y0, y1])), .val (.int (Int32.ofNat r)), .val (.int (1 : Int32)), .val (.int (2 : Int32))] []
      refine w_iload ok d4_243 rfl ?_
      refine w_iret ok d4_245 (by decide) (by decide) ?_
      rcases hF with hF | hF
      · exact absurd hc7 hF.1
      · exact Or.inr ⟨rfl, r, us, hr8, hF, own_us0 hus, Kp, A_t, A_ag, A_sl⟩
    · show W K l _ n0 _ h12 0 0 207 #[.val (.ref t), .val (.ref vv), .val (.int (own_hs [y0, y1])), .val (.int (Int32.ofNat r)), .val (.int (1 : Int32)), .val (.int (2 : Int32))] []
      refine w_aloadN ok d4_207 rfl rfl ?_
      refine w_dup ok d4_208 rfl ?_
      refine w_getfield ok (v := (.int us)) (host := "") (f := ("com/example/hornconv/hornconv/FactTable", "used", "I", .int)) 9 d4_209 (Or.inl (hw _ (List.mem_of_getElem? (i := 54) rfl))) Via.refl A_t rfl rfl ?_
      refine w_iconst ok d4_212 (v := (1 : Int32)) rfl ?_
      refine w_iadd ok d4_213 ?_
      refine w_putfield ok (host := "") (f := ("com/example/hornconv/hornconv/FactTable", "used", "I", .int)) 9 d4_214 (Or.inl (hw _ (List.mem_of_getElem? (i := 54) rfl))) Via.refl A_t (la_FactTable hw) rfl rfl (Or.inl (hw _ (List.mem_of_getElem? (i := 55) rfl))) (hw _ (List.mem_of_getElem? (i := 2) rfl)) rfl rfl ge_t (fun h26 W_h26 A1_h26 => ?_)
      replace Kp := Kp.wr W_h26 (Or.inl (by simp))
      replace A_ag := A_ag.other W_h26 (Ne.symm ne_t_ag)
      replace A_de := A_de.other W_h26 (Ne.symm ne_t_de)
      replace A_sl := A_sl.other W_h26 (Ne.symm ne_t_sl)
      replace A_po := A_po.other W_h26 (Ne.symm ne_t_po)
      replace A_v := A_v.other W_h26 (Ne.symm ne_t_vv)
      replace A_t : Ob Z h26 t "com/example/hornconv/hornconv/FactTable" fl_FactTable [(.ref un), (.ref me), (.int (2 : Int32)), (.ref ag), (.ref de), (.ref sl), (.ref po), (.int (2 : Int32)), (.int (lv + (1 : Int32))), (.int (us + (1 : Int32)))] := A1_h26
      refine w_aloadN ok d4_217 rfl rfl ?_
      refine w_getfield ok (v := (.ref sl)) (host := "") (f := ("com/example/hornconv/hornconv/FactTable", "slots", "[I", (.array .int))) 5 d4_218 (Or.inl (hw _ (List.mem_of_getElem? (i := 22) rfl))) Via.refl A_t rfl rfl ?_
      refine w_iloadN ok d4_221 rfl ?_
      refine w_iload ok d4_222 rfl ?_
      refine w_iastore ok d4_224 A_sl ge_sl (own_nn (own_ofNat (by omega))) (by rw [own_clamp (own_ofNat (j := r) (by omega)), sv_len]; exact hr8) (fun h27 W_h27 A1_h27 => ?_)
      replace Kp := Kp.wr W_h27 (Or.inl (by simp))
      replace A_t := A_t.other W_h27 ne_t_sl
      replace A_ag := A_ag.other W_h27 ne_ag_sl
      replace A_de := A_de.other W_h27 ne_de_sl
      replace A_po := A_po.other W_h27 (Ne.symm ne_sl_po)
      replace A_v := A_v.other W_h27 (Ne.symm ne_sl_vv)
      replace A_sl : PA .int Z h27 sl ((sv 8 f).set (Int32.ofNat r).toNatClampNeg (.int (1 : Int32))) := A1_h27
      rw [own_clamp (own_ofNat (j := r) (by omega)), sv_set] at A_sl
      refine w_iconst ok d4_225 (v := (2 : Int32)) rfl ?_
      refine w_aloadN ok d4_226 rfl rfl ?_
      refine w_getfield ok (v := (.int (us + (1 : Int32)))) (host := "") (f := ("com/example/hornconv/hornconv/FactTable", "used", "I", .int)) 9 d4_227 (Or.inl (hw _ (List.mem_of_getElem? (i := 54) rfl))) Via.refl A_t rfl rfl ?_
      refine w_imul ok d4_230 ?_
      refine w_aloadN ok d4_231 rfl rfl ?_
      refine w_getfield ok (v := (.ref sl)) (host := "") (f := ("com/example/hornconv/hornconv/FactTable", "slots", "[I", (.array .int))) 5 d4_232 (Or.inl (hw _ (List.mem_of_getElem? (i := 22) rfl))) Via.refl A_t rfl rfl ?_
      refine w_arraylength ok (z := (8 : Int32)) d4_235 A_sl (sv_len 8 _) (by decide) ?_
      show W K l _ n0 _ h27 0 0 236 #[.val (.ref t), .val (.ref vv), .val (.int (own_hs [y0, y1])), .val (.int (Int32.ofNat r)), .val (.int (1 : Int32)), .val (.int (2 : Int32))] [(.int (8 : Int32)), (.int ((2 : Int32) * (us + (1 : Int32))))]
      refine w_icmp_le ok d4_236 (pc' := 243) (by decide) (fun hc29 => ?_) (fun hc29 => False.elim (by exact own_2us1 hus hc29))
      show W K l _ n0 _ h27 0 0 243 #[.val (.ref t), .val (.ref vv), .val (.int (own_hs [y0, y1])), .val (.int (Int32.ofNat r)), .val (.int (1 : Int32)), .val (.int (2 : Int32))] []
      refine w_iload ok d4_243 rfl ?_
      refine w_iret ok d4_245 (by decide) (by decide) ?_
      rcases hF with hF | hF
      · exact absurd hc7 hF.1
      · exact Or.inr ⟨rfl, r, (us + (1 : Int32)), hr8, hF, own_us1 hus, Kp, A_t, A_ag, A_sl⟩
  · show W K l _ n0 _ h0 0 0 43 #[.val (.ref t), .val (.ref vv), .val (.int (own_hs [y0, y1])), .val (.int (Int32.ofNat r)), .unset, .unset] []
    refine w_iconst ok d4_43 (v := (-1 : Int32)) rfl ?_
    refine w_iret ok d4_44 (by decide) (by decide) ?_
    rcases hF with hF | hF
    · exact Or.inl ⟨rfl, rfl, r, hr8, hF.1, hF.2⟩
    · exact absurd hF.1 hc7
set_option maxRecDepth 65536 in
set_option maxHeartbeats 40000000 in
theorem rm_add2 (l : Launch) (Z : State) (a0 : Array Value) (hw : ∀ d ∈ tables_1, d.before a0 Z = true) (ws : List Jvm.Cond) (n0 : Nat) (h0 : Heap) (Z0 : Old Z n0 h0) (t vv un me ag de sl po : Addr) (lv us : Int32) (x0 x1 x2 x3 x4 x5 x6 x7 d0 d1 d2 d3 y0 y1 : Int32) (f : Nat → Int32) (A_t : Ob Z h0 t "com/example/hornconv/hornconv/FactTable" fl_FactTable [(.ref un), (.ref me), (.int (2 : Int32)), (.ref ag), (.ref de), (.ref sl), (.ref po), (.int (2 : Int32)), (.int lv), (.int us)]) (A_ag : PA .int Z h0 ag [(.int x0), (.int x1), (.int x2), (.int x3), (.int x4), (.int x5), (.int x6), (.int x7)]) (A_de : PA .boolean Z h0 de [(.int d0), (.int d1), (.int d2), (.int d3)]) (A_sl : PA .int Z h0 sl (sv 8 f)) (A_po : PA (.object "com/example/hornconv/hornconv/FactTable$PositionIndex") Z h0 po [.null, .null]) (A_v : PA .int Z h0 vv [(.int y0), (.int y1)]) (ge_t : n0 ≤ t) (ge_ag : n0 ≤ ag) (ge_sl : n0 ≤ sl) (ne_t_ag : t ≠ ag) (ne_t_de : t ≠ de) (ne_t_sl : t ≠ sl) (ne_t_po : t ≠ po) (ne_t_vv : t ≠ vv) (ne_ag_de : ag ≠ de) (ne_ag_sl : ag ≠ sl) (ne_ag_po : ag ≠ po) (ne_ag_vv : ag ≠ vv) (ne_de_sl : de ≠ sl) (ne_sl_po : sl ≠ po) (ne_sl_vv : sl ≠ vv) (hR : Rw f) (hN : ∀ s, ∃ m, f ((s + m) % 8) = -1) (hus : 0 ≤ us.toInt ∧ us.toInt ≤ 3)  :
    Met l Z n0 (⟨"com/example/hornconv/hornconv/FactTable", "add", "([I)I"⟩ : MethodName) prog_3_method_7_code 6 (some .int) ws ({ frames := 2, cells := 0, slots := 0, locals := 35 } : Room) #[(.ref t), (.ref vv)] h0 (fun u h => (u = some (.int (-1)) ∧ h0 = h ∧ ∃ r, r < 8 ∧ ¬ f r < 0 ∧ (fun k => own_eqr 2 [x0, x1, x2, x3, x4, x5, x6, x7] [y0, y1] k = 1) (f r).toNatClampNeg) ∨ (u = some (.int 2) ∧ ∃ r us', r < 8 ∧ (f r < 0 ∧ ∃ m i, f (((own_hs [y0, y1] &&& 7).toNatClampNeg + m) % 8) = -1 ∧ (∀ j, j < m → f (((own_hs [y0, y1] &&& 7).toNatClampNeg + j) % 8) ≠ -1 ∧ ¬ (¬ f (((own_hs [y0, y1] &&& 7).toNatClampNeg + j) % 8) < 0 ∧ (fun k => own_eqr 2 [x0, x1, x2, x3, x4, x5, x6, x7] [y0, y1] k = 1) (f (((own_hs [y0, y1] &&& 7).toNatClampNeg + j) % 8)).toNatClampNeg)) ∧ i ≤ m ∧ r = ((own_hs [y0, y1] &&& 7).toNatClampNeg + i) % 8) ∧ (0 ≤ us'.toInt ∧ us'.toInt ≤ us.toInt + 1) ∧ Keep h0 h [t, ag, sl] ∧ Ob Z h t "com/example/hornconv/hornconv/FactTable" fl_FactTable [(.ref un), (.ref me), (.int (2 : Int32)), (.ref ag), (.ref de), (.ref sl), (.ref po), (.int (3 : Int32)), (.int (lv + 1)), (.int us')] ∧ PA .int Z h ag [(.int x0), (.int x1), (.int x2), (.int x3), (.int y0), (.int y1), (.int x6), (.int x7)] ∧ PA .int Z h sl (sv 8 (upd f r 2)))) := by
  refine met_of Z0 (plainFor_of_name pn_com_example_hornconv_hornconv_FactTable) (Ls := #[.val (.ref t), .val (.ref vv), .unset, .unset, .unset, .unset]) (fun m => by first | (simp [entryFrame, mkF, argsToLocals, Value.category]; done) | rfl) ?_
  intro K ok
  have Kp : Keep h0 h0 [t, ag, sl] := Keep.refl _ _
  show W K l _ n0 _ h0 0 0 0 #[.val (.ref t), .val (.ref vv), .unset, .unset, .unset, .unset] []
  refine w_aloadN ok d4_0 rfl rfl ?_
  refine w_getfield ok (v := (.int (2 : Int32))) (host := "") (f := ("com/example/hornconv/hornconv/FactTable", "arity", "I", .int)) 2 d4_1 (Or.inl (hw _ (List.mem_of_getElem? (i := 15) rfl))) Via.refl A_t rfl rfl ?_
  refine w_iconst ok d4_4 (v := (1 : Int32)) rfl ?_
  refine w_icmp_ne ok d4_5 (pc' := 20) (by decide) (fun hc1 => ?_) (fun hc1 => False.elim (by revert hc1; decide))
  show W K l _ n0 _ h0 0 0 20 #[.val (.ref t), .val (.ref vv), .unset, .unset, .unset, .unset] []
  refine w_aloadN ok d4_20 rfl rfl ?_
  refine w_aloadN ok d4_21 rfl rfl ?_
  refine w_iconst ok d4_22 (v := (0 : Int32)) rfl ?_
  refine w_callP ok (y := (⟨"com/example/hornconv/hornconv/FactTable", "hash", "([II)I"⟩ : MethodName)) (a := t) (argsL := [(.ref vv), (.int (0 : Int32))]) (rest := []) d4_23 (hw _ (List.mem_of_getElem? (i := 37) rfl)) (hw _ (List.mem_of_getElem? (i := 38) rfl)) (hw _ (List.mem_of_getElem? (i := 39) rfl)) (hw _ (List.mem_of_getElem? (i := 2) rfl)) (hw _ (List.mem_of_getElem? (i := 3) rfl)) (hw _ (List.mem_of_getElem? (i := 40) rfl)) (by decide) A_t.1 pd_285bII29I rfl rfl (by decide) (Nat.le_of_ble_eq_true rfl) (by decide) (by decide) (fun z0 => rm_h_2_0 l Z a0 hw [] n0 h0 z0 t vv un me ag de sl po (2 : Int32) lv us y0 y1 A_t A_v) (fun v2 h3 qv2 => ?_)
  obtain ⟨rfl, rfl⟩ := qv2
  show W K l _ n0 _ h0 0 0 26 #[.val (.ref t), .val (.ref vv), .unset, .unset, .unset, .unset] [(.int (own_hs [y0, y1]))]
  refine w_istoreN ok d4_26 (L' := #[.val (.ref t), .val (.ref vv), .val (.int (own_hs [y0, y1])), .unset, .unset, .unset]) rfl ?_
  refine w_aloadN ok d4_27 rfl rfl ?_
  refine w_aloadN ok d4_28 rfl rfl ?_
  refine w_iloadN ok d4_29 rfl ?_
  refine w_callP ok (y := (⟨"com/example/hornconv/hornconv/FactTable", "find", "([II)I"⟩ : MethodName)) (a := t) (argsL := [(.ref vv), (.int (own_hs [y0, y1]))]) (rest := []) d4_30 (hw _ (List.mem_of_getElem? (i := 42) rfl)) (hw _ (List.mem_of_getElem? (i := 43) rfl)) (hw _ (List.mem_of_getElem? (i := 44) rfl)) (hw _ (List.mem_of_getElem? (i := 2) rfl)) (hw _ (List.mem_of_getElem? (i := 3) rfl)) (hw _ (List.mem_of_getElem? (i := 45) rfl)) (by decide) A_t.1 pd_285bII29I rfl rfl (by decide) (Nat.le_of_ble_eq_true rfl) (by decide) (by decide) (fun z0 => rm_find l Z a0 hw [] n0 h0 z0 t vv un me ag de sl po (2 : Int32) lv us x0 x1 x2 x3 x4 x5 x6 x7 y0 y1 f (own_hs [y0, y1]) A_t A_ag A_v A_sl hR hN) (fun v4 h5 qv4 => ?_)
  obtain ⟨r, hr8, rfl, hF, rfl⟩ := qv4
  show W K l _ n0 _ h0 0 0 33 #[.val (.ref t), .val (.ref vv), .val (.int (own_hs [y0, y1])), .unset, .unset, .unset] [(.int (Int32.ofNat r))]
  refine w_istoreN ok d4_33 (L' := #[.val (.ref t), .val (.ref vv), .val (.int (own_hs [y0, y1])), .val (.int (Int32.ofNat r)), .unset, .unset]) rfl ?_
  refine w_aloadN ok d4_34 rfl rfl ?_
  refine w_getfield ok (v := (.ref sl)) (host := "") (f := ("com/example/hornconv/hornconv/FactTable", "slots", "[I", (.array .int))) 5 d4_35 (Or.inl (hw _ (List.mem_of_getElem? (i := 22) rfl))) Via.refl A_t rfl rfl ?_
  refine w_iloadN ok d4_38 rfl ?_
  refine w_iaload ok (v := (.int (f r))) d4_39 A_sl (own_nn (own_ofNat (by omega))) (by rw [own_clamp (own_ofNat (j := r) (by omega))]; exact sv_get hr8) ?_
  refine w_if_lt ok d4_40 (pc' := 45) (by decide) (fun hc7 => ?_) (fun hc7 => ?_)
  · show W K l _ n0 _ h0 0 0 45 #[.val (.ref t), .val (.ref vv), .val (.int (own_hs [y0, y1])), .val (.int (Int32.ofNat r)), .unset, .unset] []
    refine w_aloadN ok d4_45 rfl rfl ?_
    refine w_getfield ok (v := (.int (2 : Int32))) (host := "") (f := ("com/example/hornconv/hornconv/FactTable", "rows", "I", .int)) 7 d4_46 (Or.inl (hw _ (List.mem_of_getElem? (i := 46) rfl))) Via.refl A_t rfl rfl ?_
    refine w_istore ok d4_49 (L' := #[.val (.ref t), .val (.ref vv), .val (.int (own_hs [y0, y1])), .val (.int (Int32.ofNat r)), .val (.int (2 : Int32)), .unset]) rfl ?_
    refine w_iload ok d4_51 rfl ?_
    refine w_aloadN ok d4_53 rfl rfl ?_
    refine w_getfield ok (v := (.ref de)) (host := "") (f := ("com/example/hornconv/hornconv/FactTable", "dead", "[Z", (.array .boolean))) 4 d4_54 (Or.inl (hw _ (List.mem_of_getElem? (i := 20) rfl))) Via.refl A_t rfl rfl ?_
    refine w_arraylength ok (z := (4 : Int32)) d4_57 A_de rfl (by decide) ?_
    show W K l _ n0 _ h0 0 0 58 #[.val (.ref t), .val (.ref vv), .val (.int (own_hs [y0, y1])), .val (.int (Int32.ofNat r)), .val (.int (2 : Int32)), .unset] [(.int (4 : Int32)), (.int (2 : Int32))]
    refine w_icmp_ne ok d4_58 (pc' := 96) (by decide) (fun hc9 => ?_) (fun hc9 => False.elim (by revert hc9; decide))
    show W K l _ n0 _ h0 0 0 96 #[.val (.ref t), .val (.ref vv), .val (.int (own_hs [y0, y1])), .val (.int (Int32.ofNat r)), .val (.int (2 : Int32)), .unset] []
    refine w_aloadN ok d4_96 rfl rfl ?_
    refine w_iconst ok d4_97 (v := (0 : Int32)) rfl ?_
    refine w_aloadN ok d4_98 rfl rfl ?_
    refine w_getfield ok (v := (.ref ag)) (host := "") (f := ("com/example/hornconv/hornconv/FactTable", "arguments", "[I", (.array .int))) 3 d4_99 (Or.inl (hw _ (List.mem_of_getElem? (i := 17) rfl))) Via.refl A_t rfl rfl ?_
    refine w_iload ok d4_102 rfl ?_
    refine w_aloadN ok d4_104 rfl rfl ?_
    refine w_getfield ok (v := (.int (2 : Int32))) (host := "") (f := ("com/example/hornconv/hornconv/FactTable", "arity", "I", .int)) 2 d4_105 (Or.inl (hw _ (List.mem_of_getElem? (i := 15) rfl))) Via.refl A_t rfl rfl ?_
    refine w_imul ok d4_108 ?_
    show W K l _ n0 _ h0 0 0 109 #[.val (.ref t), .val (.ref vv), .val (.int (own_hs [y0, y1])), .val (.int (Int32.ofNat r)), .val (.int (2 : Int32)), .unset] [(.int (4 : Int32)), (.ref ag), (.int (0 : Int32)), (.ref vv)]
    refine w_aloadN ok d4_109 rfl rfl ?_
    refine w_getfield ok (v := (.int (2 : Int32))) (host := "") (f := ("com/example/hornconv/hornconv/FactTable", "arity", "I", .int)) 2 d4_110 (Or.inl (hw _ (List.mem_of_getElem? (i := 15) rfl))) Via.refl A_t rfl rfl ?_
    refine w_arraycopy ok (sp' := 0) (dp' := 4) (nn' := 2) d4_113 (hw _ (List.mem_of_getElem? (i := 48) rfl)) (hw _ (List.mem_of_getElem? (i := 51) rfl)) (hw _ (List.mem_of_getElem? (i := 49) rfl)) (hw _ (List.mem_of_getElem? (i := 50) rfl)) A_v A_ag rfl ge_ag (by decide) (by decide) (by decide) rfl rfl rfl (Nat.le_of_ble_eq_true rfl) (Nat.le_of_ble_eq_true rfl) rfl (by decide) (Nat.le_of_ble_eq_true rfl) (fun h10 K_h10 A1_h10 => ?_)
    replace Kp := Kp.trans K_h10 (allS (Or.inl (by simp)) all0)
    replace A_t := A_t.keep K_h10 (ninS ne_t_ag nin0)
    replace A_de := A_de.keep K_h10 (ninS (Ne.symm ne_ag_de) nin0)
    replace A_sl := A_sl.keep K_h10 (ninS (Ne.symm ne_ag_sl) nin0)
    replace A_po := A_po.keep K_h10 (ninS (Ne.symm ne_ag_po) nin0)
    replace A_v := A_v.keep K_h10 (ninS (Ne.symm ne_ag_vv) nin0)
    replace A_ag : PA .int Z h10 ag [(.int x0), (.int x1), (.int x2), (.int x3), (.int y0), (.int y1), (.int x6), (.int x7)] := A1_h10
    show W K l _ n0 _ h10 0 0 116 #[.val (.ref t), .val (.ref vv), .val (.int (own_hs [y0, y1])), .val (.int (Int32.ofNat r)), .val (.int (2 : Int32)), .unset] []
    refine w_aloadN ok d4_116 rfl rfl ?_
    refine w_dup ok d4_117 rfl ?_
    refine w_getfield ok (v := (.int (2 : Int32))) (host := "") (f := ("com/example/hornconv/hornconv/FactTable", "rows", "I", .int)) 7 d4_118 (Or.inl (hw _ (List.mem_of_getElem? (i := 46) rfl))) Via.refl A_t rfl rfl ?_
    refine w_iconst ok d4_121 (v := (1 : Int32)) rfl ?_
    refine w_iadd ok d4_122 ?_
    show W K l _ n0 _ h10 0 0 123 #[.val (.ref t), .val (.ref vv), .val (.int (own_hs [y0, y1])), .val (.int (Int32.ofNat r)), .val (.int (2 : Int32)), .unset] [(.int (3 : Int32)), (.ref t)]
    refine w_putfield ok (host := "") (f := ("com/example/hornconv/hornconv/FactTable", "rows", "I", .int)) 7 d4_123 (Or.inl (hw _ (List.mem_of_getElem? (i := 46) rfl))) Via.refl A_t (la_FactTable hw) rfl rfl (Or.inl (hw _ (List.mem_of_getElem? (i := 47) rfl))) (hw _ (List.mem_of_getElem? (i := 2) rfl)) rfl rfl ge_t (fun h11 W_h11 A1_h11 => ?_)
    replace Kp := Kp.wr W_h11 (Or.inl (by simp))
    replace A_ag := A_ag.other W_h11 (Ne.symm ne_t_ag)
    replace A_de := A_de.other W_h11 (Ne.symm ne_t_de)
    replace A_sl := A_sl.other W_h11 (Ne.symm ne_t_sl)
    replace A_po := A_po.other W_h11 (Ne.symm ne_t_po)
    replace A_v := A_v.other W_h11 (Ne.symm ne_t_vv)
    replace A_t : Ob Z h11 t "com/example/hornconv/hornconv/FactTable" fl_FactTable [(.ref un), (.ref me), (.int (2 : Int32)), (.ref ag), (.ref de), (.ref sl), (.ref po), (.int (3 : Int32)), (.int lv), (.int us)] := A1_h11
    refine w_aloadN ok d4_126 rfl rfl ?_
    refine w_dup ok d4_127 rfl ?_
    refine w_getfield ok (v := (.int lv)) (host := "") (f := ("com/example/hornconv/hornconv/FactTable", "live", "I", .int)) 8 d4_128 (Or.inl (hw _ (List.mem_of_getElem? (i := 52) rfl))) Via.refl A_t rfl rfl ?_
    refine w_iconst ok d4_131 (v := (1 : Int32)) rfl ?_
    refine w_iadd ok d4_132 ?_
    refine w_putfield ok (host := "") (f := ("com/example/hornconv/hornconv/FactTable", "live", "I", .int)) 8 d4_133 (Or.inl (hw _ (List.mem_of_getElem? (i := 52) rfl))) Via.refl A_t (la_FactTable hw) rfl rfl (Or.inl (hw _ (List.mem_of_getElem? (i := 53) rfl))) (hw _ (List.mem_of_getElem? (i := 2) rfl)) rfl rfl ge_t (fun h12 W_h12 A1_h12 => ?_)
    replace Kp := Kp.wr W_h12 (Or.inl (by simp))
    replace A_ag := A_ag.other W_h12 (Ne.symm ne_t_ag)
    replace A_de := A_de.other W_h12 (Ne.symm ne_t_de)
    replace A_sl := A_sl.other W_h12 (Ne.symm ne_t_sl)
    replace A_po := A_po.other W_h12 (Ne.symm ne_t_po)
    replace A_v := A_v.other W_h12 (Ne.symm ne_t_vv)
    replace A_t : Ob Z h12 t "com/example/hornconv/hornconv/FactTable" fl_FactTable [(.ref un), (.ref me), (.int (2 : Int32)), (.ref ag), (.ref de), (.ref sl), (.ref po), (.int (3 : Int32)), (.int (lv + (1 : Int32))), (.int us)] := A1_h12
    refine w_aloadN ok d4_136 rfl rfl ?_
    refine w_getfield ok (v := (.int (2 : Int32))) (host := "") (f := ("com/example/hornconv/hornconv/FactTable", "arity", "I", .int)) 2 d4_137 (Or.inl (hw _ (List.mem_of_getElem? (i := 15) rfl))) Via.refl A_t rfl rfl ?_
    refine w_iconst ok d4_140 (v := (1 : Int32)) rfl ?_
    refine w_icmp_ne ok d4_141 (pc' := 152) (by decide) (fun hc14 => ?_) (fun hc14 => False.elim (by revert hc14; decide))
    show W K l _ n0 _ h12 0 0 152 #[.val (.ref t), .val (.ref vv), .val (.int (own_hs [y0, y1])), .val (.int (Int32.ofNat r)), .val (.int (2 : Int32)), .unset] []
    refine w_iconst ok d4_152 (v := (0 : Int32)) rfl ?_
    refine w_istore ok d4_153 (L' := #[.val (.ref t), .val (.ref vv), .val (.int (own_hs [y0, y1])), .val (.int (Int32.ofNat r)), .val (.int (2 : Int32)), .val (.int (0 : Int32))]) rfl ?_
    refine w_iload ok d4_155 rfl ?_
    refine w_aloadN ok d4_157 rfl rfl ?_
    refine w_getfield ok (v := (.ref po)) (host := "") (f := ("com/example/hornconv/hornconv/FactTable", "positions", "[Lcom/example/hornconv/hornconv/FactTable$PositionIndex;", (.array (.object "com/example/hornconv/hornconv/FactTable$PositionIndex")))) 6 d4_158 (Or.inl (hw _ (List.mem_of_getElem? (i := 30) rfl))) Via.refl A_t rfl rfl ?_
    refine w_arraylength ok (z := (2 : Int32)) d4_161 A_po rfl (by decide) ?_
    show W K l _ n0 _ h12 0 0 162 #[.val (.ref t), .val (.ref vv), .val (.int (own_hs [y0, y1])), .val (.int (Int32.ofNat r)), .val (.int (2 : Int32)), .val (.int (0 : Int32))] [(.int (2 : Int32)), (.int (0 : Int32))]
    refine w_icmp_ge ok d4_162 (pc' := 197) (by decide) (fun hc16 => False.elim (by revert hc16; decide)) (fun hc16 => ?_)
    show W K l _ n0 _ h12 0 0 165 #[.val (.ref t), .val (.ref vv), .val (.int (own_hs [y0, y1])), .val (.int (Int32.ofNat r)), .val (.int (2 : Int32)), .val (.int (0 : Int32))] []
    refine w_aloadN ok d4_165 rfl rfl ?_
    refine w_getfield ok (v := (.ref po)) (host := "") (f := ("com/example/hornconv/hornconv/FactTable", "positions", "[Lcom/example/hornconv/hornconv/FactTable$PositionIndex;", (.array (.object "com/example/hornconv/hornconv/FactTable$PositionIndex")))) 6 d4_166 (Or.inl (hw _ (List.mem_of_getElem? (i := 30) rfl))) Via.refl A_t rfl rfl ?_
    refine w_iload ok d4_169 rfl ?_
    refine w_aaload ok (v := .null) d4_171 A_po rfl (by decide) rfl ?_
    refine w_ifnullY ok d4_172 (pc' := 191) (by decide) ?_
    show W K l _ n0 _ h12 0 0 191 #[.val (.ref t), .val (.ref vv), .val (.int (own_hs [y0, y1])), .val (.int (Int32.ofNat r)), .val (.int (2 : Int32)), .val (.int (0 : Int32))] []
    refine w_iinc ok d4_191 (u := (1 : Int32)) rfl rfl (L' := #[.val (.ref t), .val (.ref vv), .val (.int (own_hs [y0, y1])), .val (.int (Int32.ofNat r)), .val (.int (2 : Int32)), .val (.int (1 : Int32))]) rfl ?_
    show W K l _ n0 _ h12 0 0 194 #[.val (.ref t), .val (.ref vv), .val (.int (own_hs [y0, y1])), .val (.int (Int32.ofNat r)), .val (.int (2 : Int32)), .val (.int (1 : Int32))] []
    refine w_goto ok d4_194 (pc' := 155) (by decide) ?_
    refine w_iload ok d4_155 rfl ?_
    refine w_aloadN ok d4_157 rfl rfl ?_
    refine w_getfield ok (v := (.ref po)) (host := "") (f := ("com/example/hornconv/hornconv/FactTable", "positions", "[Lcom/example/hornconv/hornconv/FactTable$PositionIndex;", (.array (.object "com/example/hornconv/hornconv/FactTable$PositionIndex")))) 6 d4_158 (Or.inl (hw _ (List.mem_of_getElem? (i := 30) rfl))) Via.refl A_t rfl rfl ?_
    refine w_arraylength ok (z := (2 : Int32)) d4_161 A_po rfl (by decide) ?_
    show W K l _ n0 _ h12 0 0 162 #[.val (.ref t), .val (.ref vv), .val (.int (own_hs [y0, y1])), .val (.int (Int32.ofNat r)), .val (.int (2 : Int32)), .val (.int (1 : Int32))] [(.int (2 : Int32)), (.int (1 : Int32))]
    refine w_icmp_ge ok d4_162 (pc' := 197) (by decide) (fun hc18 => False.elim (by revert hc18; decide)) (fun hc18 => ?_)
    show W K l _ n0 _ h12 0 0 165 #[.val (.ref t), .val (.ref vv), .val (.int (own_hs [y0, y1])), .val (.int (Int32.ofNat r)), .val (.int (2 : Int32)), .val (.int (1 : Int32))] []
    refine w_aloadN ok d4_165 rfl rfl ?_
    refine w_getfield ok (v := (.ref po)) (host := "") (f := ("com/example/hornconv/hornconv/FactTable", "positions", "[Lcom/example/hornconv/hornconv/FactTable$PositionIndex;", (.array (.object "com/example/hornconv/hornconv/FactTable$PositionIndex")))) 6 d4_166 (Or.inl (hw _ (List.mem_of_getElem? (i := 30) rfl))) Via.refl A_t rfl rfl ?_
    refine w_iload ok d4_169 rfl ?_
    refine w_aaload ok (v := .null) d4_171 A_po rfl (by decide) rfl ?_
    refine w_ifnullY ok d4_172 (pc' := 191) (by decide) ?_
    show W K l _ n0 _ h12 0 0 191 #[.val (.ref t), .val (.ref vv), .val (.int (own_hs [y0, y1])), .val (.int (Int32.ofNat r)), .val (.int (2 : Int32)), .val (.int (1 : Int32))] []
    refine w_iinc ok d4_191 (u := (1 : Int32)) rfl rfl (L' := #[.val (.ref t), .val (.ref vv), .val (.int (own_hs [y0, y1])), .val (.int (Int32.ofNat r)), .val (.int (2 : Int32)), .val (.int (2 : Int32))]) rfl ?_
    show W K l _ n0 _ h12 0 0 194 #[.val (.ref t), .val (.ref vv), .val (.int (own_hs [y0, y1])), .val (.int (Int32.ofNat r)), .val (.int (2 : Int32)), .val (.int (2 : Int32))] []
    refine w_goto ok d4_194 (pc' := 155) (by decide) ?_
    refine w_iload ok d4_155 rfl ?_
    refine w_aloadN ok d4_157 rfl rfl ?_
    refine w_getfield ok (v := (.ref po)) (host := "") (f := ("com/example/hornconv/hornconv/FactTable", "positions", "[Lcom/example/hornconv/hornconv/FactTable$PositionIndex;", (.array (.object "com/example/hornconv/hornconv/FactTable$PositionIndex")))) 6 d4_158 (Or.inl (hw _ (List.mem_of_getElem? (i := 30) rfl))) Via.refl A_t rfl rfl ?_
    refine w_arraylength ok (z := (2 : Int32)) d4_161 A_po rfl (by decide) ?_
    show W K l _ n0 _ h12 0 0 162 #[.val (.ref t), .val (.ref vv), .val (.int (own_hs [y0, y1])), .val (.int (Int32.ofNat r)), .val (.int (2 : Int32)), .val (.int (2 : Int32))] [(.int (2 : Int32)), (.int (2 : Int32))]
    refine w_icmp_ge ok d4_162 (pc' := 197) (by decide) (fun hc20 => ?_) (fun hc20 => False.elim (by revert hc20; decide))
    show W K l _ n0 _ h12 0 0 197 #[.val (.ref t), .val (.ref vv), .val (.int (own_hs [y0, y1])), .val (.int (Int32.ofNat r)), .val (.int (2 : Int32)), .val (.int (2 : Int32))] []
    refine w_aloadN ok d4_197 rfl rfl ?_
    refine w_getfield ok (v := (.ref sl)) (host := "") (f := ("com/example/hornconv/hornconv/FactTable", "slots", "[I", (.array .int))) 5 d4_198 (Or.inl (hw _ (List.mem_of_getElem? (i := 22) rfl))) Via.refl A_t rfl rfl ?_
    refine w_iloadN ok d4_201 rfl ?_
    refine w_iaload ok (v := (.int (f r))) d4_202 A_sl (own_nn (own_ofNat (by omega))) (by rw [own_clamp (own_ofNat (j := r) (by omega))]; exact sv_get hr8) ?_
    refine w_iconst ok d4_203 (v := (-1 : Int32)) rfl ?_
    refine w_icmp_ne ok d4_204 (pc' := 217) (by decide) (fun hc22 => ?_) (fun hc22 => ?_)
    · show W K l _ n0 _ h12 0 0 217 #[.val (.ref t), .val (.ref vv), .val (.int (own_hs [y0, y1])), .val (.int (Int32.ofNat r)), .val (.int (2 : Int32)), .val (.int (2 : Int32))] []
      refine w_aloadN ok d4_217 rfl rfl ?_
      refine w_getfield ok (v := (.ref sl)) (host := "") (f := ("com/example/hornconv/hornconv/FactTable", "slots", "[I", (.array .int))) 5 d4_218 (Or.inl (hw _ (List.mem_of_getElem? (i := 22) rfl))) Via.refl A_t rfl rfl ?_
      refine w_iloadN ok d4_221 rfl ?_
      refine w_iload ok d4_222 rfl ?_
      refine w_iastore ok d4_224 A_sl ge_sl (own_nn (own_ofNat (by omega))) (by rw [own_clamp (own_ofNat (j := r) (by omega)), sv_len]; exact hr8) (fun h23 W_h23 A1_h23 => ?_)
      replace Kp := Kp.wr W_h23 (Or.inl (by simp))
      replace A_t := A_t.other W_h23 ne_t_sl
      replace A_ag := A_ag.other W_h23 ne_ag_sl
      replace A_de := A_de.other W_h23 ne_de_sl
      replace A_po := A_po.other W_h23 (Ne.symm ne_sl_po)
      replace A_v := A_v.other W_h23 (Ne.symm ne_sl_vv)
      replace A_sl : PA .int Z h23 sl ((sv 8 f).set (Int32.ofNat r).toNatClampNeg (.int (2 : Int32))) := A1_h23
      rw [own_clamp (own_ofNat (j := r) (by omega)), sv_set] at A_sl
      refine w_iconst ok d4_225 (v := (2 : Int32)) rfl ?_
      refine w_aloadN ok d4_226 rfl rfl ?_
      refine w_getfield ok (v := (.int us)) (host := "") (f := ("com/example/hornconv/hornconv/FactTable", "used", "I", .int)) 9 d4_227 (Or.inl (hw _ (List.mem_of_getElem? (i := 54) rfl))) Via.refl A_t rfl rfl ?_
      refine w_imul ok d4_230 ?_
      refine w_aloadN ok d4_231 rfl rfl ?_
      refine w_getfield ok (v := (.ref sl)) (host := "") (f := ("com/example/hornconv/hornconv/FactTable", "slots", "[I", (.array .int))) 5 d4_232 (Or.inl (hw _ (List.mem_of_getElem? (i := 22) rfl))) Via.refl A_t rfl rfl ?_
      refine w_arraylength ok (z := (8 : Int32)) d4_235 A_sl (sv_len 8 _) (by decide) ?_
      show W K l _ n0 _ h23 0 0 236 #[.val (.ref t), .val (.ref vv), .val (.int (own_hs [y0, y1])), .val (.int (Int32.ofNat r)), .val (.int (2 : Int32)), .val (.int (2 : Int32))] [(.int (8 : Int32)), (.int ((2 : Int32) * us))]
      refine w_icmp_le ok d4_236 (pc' := 243) (by decide) (fun hc25 => ?_) (fun hc25 => False.elim (by exact own_2us hus hc25))
      show W K l _ n0 _ h23 0 0 243 #[.val (.ref t), .val (.ref vv), .val (.int (own_hs [y0, y1])), .val (.int (Int32.ofNat r)), .val (.int (2 : Int32)), .val (.int (2 : Int32))] []
      refine w_iload ok d4_243 rfl ?_
      refine w_iret ok d4_245 (by decide) (by decide) ?_
      rcases hF with hF | hF
      · exact absurd hc7 hF.1
      · exact Or.inr ⟨rfl, r, us, hr8, hF, own_us0 hus, Kp, A_t, A_ag, A_sl⟩
    · show W K l _ n0 _ h12 0 0 207 #[.val (.ref t), .val (.ref vv), .val (.int (own_hs [y0, y1])), .val (.int (Int32.ofNat r)), .val (.int (2 : Int32)), .val (.int (2 : Int32))] []
      refine w_aloadN ok d4_207 rfl rfl ?_
      refine w_dup ok d4_208 rfl ?_
      refine w_getfield ok (v := (.int us)) (host := "") (f := ("com/example/hornconv/hornconv/FactTable", "used", "I", .int)) 9 d4_209 (Or.inl (hw _ (List.mem_of_getElem? (i := 54) rfl))) Via.refl A_t rfl rfl ?_
      refine w_iconst ok d4_212 (v := (1 : Int32)) rfl ?_
      refine w_iadd ok d4_213 ?_
      refine w_putfield ok (host := "") (f := ("com/example/hornconv/hornconv/FactTable", "used", "I", .int)) 9 d4_214 (Or.inl (hw _ (List.mem_of_getElem? (i := 54) rfl))) Via.refl A_t (la_FactTable hw) rfl rfl (Or.inl (hw _ (List.mem_of_getElem? (i := 55) rfl))) (hw _ (List.mem_of_getElem? (i := 2) rfl)) rfl rfl ge_t (fun h26 W_h26 A1_h26 => ?_)
      replace Kp := Kp.wr W_h26 (Or.inl (by simp))
      replace A_ag := A_ag.other W_h26 (Ne.symm ne_t_ag)
      replace A_de := A_de.other W_h26 (Ne.symm ne_t_de)
      replace A_sl := A_sl.other W_h26 (Ne.symm ne_t_sl)
      replace A_po := A_po.other W_h26 (Ne.symm ne_t_po)
      replace A_v := A_v.other W_h26 (Ne.symm ne_t_vv)
      replace A_t : Ob Z h26 t "com/example/hornconv/hornconv/FactTable" fl_FactTable [(.ref un), (.ref me), (.int (2 : Int32)), (.ref ag), (.ref de), (.ref sl), (.ref po), (.int (3 : Int32)), (.int (lv + (1 : Int32))), (.int (us + (1 : Int32)))] := A1_h26
      refine w_aloadN ok d4_217 rfl rfl ?_
      refine w_getfield ok (v := (.ref sl)) (host := "") (f := ("com/example/hornconv/hornconv/FactTable", "slots", "[I", (.array .int))) 5 d4_218 (Or.inl (hw _ (List.mem_of_getElem? (i := 22) rfl))) Via.refl A_t rfl rfl ?_
      refine w_iloadN ok d4_221 rfl ?_
      refine w_iload ok d4_222 rfl ?_
      refine w_iastore ok d4_224 A_sl ge_sl (own_nn (own_ofNat (by omega))) (by rw [own_clamp (own_ofNat (j := r) (by omega)), sv_len]; exact hr8) (fun h27 W_h27 A1_h27 => ?_)
      replace Kp := Kp.wr W_h27 (Or.inl (by simp))
      replace A_t := A_t.other W_h27 ne_t_sl
      replace A_ag := A_ag.other W_h27 ne_ag_sl
      replace A_de := A_de.other W_h27 ne_de_sl
      replace A_po := A_po.other W_h27 (Ne.symm ne_sl_po)
      replace A_v := A_v.other W_h27 (Ne.symm ne_sl_vv)
      replace A_sl : PA .int Z h27 sl ((sv 8 f).set (Int32.ofNat r).toNatClampNeg (.int (2 : Int32))) := A1_h27
      rw [own_clamp (own_ofNat (j := r) (by omega)), sv_set] at A_sl
      refine w_iconst ok d4_225 (v := (2 : Int32)) rfl ?_
      refine w_aloadN ok d4_226 rfl rfl ?_
      refine w_getfield ok (v := (.int (us + (1 : Int32)))) (host := "") (f := ("com/example/hornconv/hornconv/FactTable", "used", "I", .int)) 9 d4_227 (Or.inl (hw _ (List.mem_of_getElem? (i := 54) rfl))) Via.refl A_t rfl rfl ?_
      refine w_imul ok d4_230 ?_
      refine w_aloadN ok d4_231 rfl rfl ?_
      refine w_getfield ok (v := (.ref sl)) (host := "") (f := ("com/example/hornconv/hornconv/FactTable", "slots", "[I", (.array .int))) 5 d4_232 (Or.inl (hw _ (List.mem_of_getElem? (i := 22) rfl))) Via.refl A_t rfl rfl ?_
      refine w_arraylength ok (z := (8 : Int32)) d4_235 A_sl (sv_len 8 _) (by decide) ?_
      show W K l _ n0 _ h27 0 0 236 #[.val (.ref t), .val (.ref vv), .val (.int (own_hs [y0, y1])), .val (.int (Int32.ofNat r)), .val (.int (2 : Int32)), .val (.int (2 : Int32))] [(.int (8 : Int32)), (.int ((2 : Int32) * (us + (1 : Int32))))]
      refine w_icmp_le ok d4_236 (pc' := 243) (by decide) (fun hc29 => ?_) (fun hc29 => False.elim (by exact own_2us1 hus hc29))
      show W K l _ n0 _ h27 0 0 243 #[.val (.ref t), .val (.ref vv), .val (.int (own_hs [y0, y1])), .val (.int (Int32.ofNat r)), .val (.int (2 : Int32)), .val (.int (2 : Int32))] []
      refine w_iload ok d4_243 rfl ?_
      refine w_iret ok d4_245 (by decide) (by decide) ?_
      rcases hF with hF | hF
      · exact absurd hc7 hF.1
      · exact Or.inr ⟨rfl, r, (us + (1 : Int32)), hr8, hF, own_us1 hus, Kp, A_t, A_ag, A_sl⟩
  · show W K l _ n0 _ h0 0 0 43 #[.val (.ref t), .val (.ref vv), .val (.int (own_hs [y0, y1])), .val (.int (Int32.ofNat r)), .unset, .unset] []
    refine w_iconst ok d4_43 (v := (-1 : Int32)) rfl ?_
    refine w_iret ok d4_44 (by decide) (by decide) ?_
    rcases hF with hF | hF
    · exact Or.inl ⟨rfl, rfl, r, hr8, hF.1, hF.2⟩
    · exact absurd hF.1 hc7
theorem d9_0 : decode prog_3_method_8_code 0 = .ok (.aload_n 0, 1) := by decide +kernel
theorem d9_1 : decode prog_3_method_8_code 1 = .ok (.getfield 28, 3) := by decide +kernel
theorem d9_4 : decode prog_3_method_8_code 4 = .ok (.arraylength, 1) := by decide +kernel
theorem d9_5 : decode prog_3_method_8_code 5 = .ok (.iconst 1, 1) := by decide +kernel
theorem d9_6 : decode prog_3_method_8_code 6 = .ok (.isub, 1) := by decide +kernel
theorem d9_7 : decode prog_3_method_8_code 7 = .ok (.istore_n 2, 1) := by decide +kernel
theorem d9_8 : decode prog_3_method_8_code 8 = .ok (.aload_n 0, 1) := by decide +kernel
theorem d9_9 : decode prog_3_method_8_code 9 = .ok (.aload_n 0, 1) := by decide +kernel
theorem d9_10 : decode prog_3_method_8_code 10 = .ok (.getfield 21, 3) := by decide +kernel
theorem d9_13 : decode prog_3_method_8_code 13 = .ok (.iload_n 1, 1) := by decide +kernel
theorem d9_14 : decode prog_3_method_8_code 14 = .ok (.aload_n 0, 1) := by decide +kernel
theorem d9_15 : decode prog_3_method_8_code 15 = .ok (.getfield 17, 3) := by decide +kernel
theorem d9_18 : decode prog_3_method_8_code 18 = .ok (.imul, 1) := by decide +kernel
theorem d9_19 : decode prog_3_method_8_code 19 = .ok (.invokevirtual 53, 3) := by decide +kernel
theorem d9_22 : decode prog_3_method_8_code 22 = .ok (.iload_n 2, 1) := by decide +kernel
theorem d9_23 : decode prog_3_method_8_code 23 = .ok (.iand, 1) := by decide +kernel
theorem d9_24 : decode prog_3_method_8_code 24 = .ok (.istore_n 3, 1) := by decide +kernel
theorem d9_25 : decode prog_3_method_8_code 25 = .ok (.aload_n 0, 1) := by decide +kernel
theorem d9_26 : decode prog_3_method_8_code 26 = .ok (.getfield 28, 3) := by decide +kernel
theorem d9_29 : decode prog_3_method_8_code 29 = .ok (.iload_n 3, 1) := by decide +kernel
theorem d9_30 : decode prog_3_method_8_code 30 = .ok (.iaload, 1) := by decide +kernel
theorem d9_31 : decode prog_3_method_8_code 31 = .ok (.iload_n 1, 1) := by decide +kernel
theorem d9_32 : decode prog_3_method_8_code 32 = .ok (.if_icmp .eq 12, 3) := by decide +kernel
theorem d9_35 : decode prog_3_method_8_code 35 = .ok (.iload_n 3, 1) := by decide +kernel
theorem d9_36 : decode prog_3_method_8_code 36 = .ok (.iconst 1, 1) := by decide +kernel
theorem d9_37 : decode prog_3_method_8_code 37 = .ok (.iadd, 1) := by decide +kernel
theorem d9_38 : decode prog_3_method_8_code 38 = .ok (.iload_n 2, 1) := by decide +kernel
theorem d9_39 : decode prog_3_method_8_code 39 = .ok (.iand, 1) := by decide +kernel
theorem d9_40 : decode prog_3_method_8_code 40 = .ok (.istore_n 3, 1) := by decide +kernel
theorem d9_41 : decode prog_3_method_8_code 41 = .ok (.goto (-16), 3) := by decide +kernel
theorem d9_44 : decode prog_3_method_8_code 44 = .ok (.aload_n 0, 1) := by decide +kernel
theorem d9_45 : decode prog_3_method_8_code 45 = .ok (.getfield 28, 3) := by decide +kernel
theorem d9_48 : decode prog_3_method_8_code 48 = .ok (.iload_n 3, 1) := by decide +kernel
theorem d9_49 : decode prog_3_method_8_code 49 = .ok (.bipush (-2), 2) := by decide +kernel
theorem d9_51 : decode prog_3_method_8_code 51 = .ok (.iastore, 1) := by decide +kernel
theorem d9_52 : decode prog_3_method_8_code 52 = .ok (.aload_n 0, 1) := by decide +kernel
theorem d9_53 : decode prog_3_method_8_code 53 = .ok (.getfield 24, 3) := by decide +kernel
theorem d9_56 : decode prog_3_method_8_code 56 = .ok (.iload_n 1, 1) := by decide +kernel
theorem d9_57 : decode prog_3_method_8_code 57 = .ok (.iconst 1, 1) := by decide +kernel
theorem d9_58 : decode prog_3_method_8_code 58 = .ok (.bastore, 1) := by decide +kernel
theorem d9_59 : decode prog_3_method_8_code 59 = .ok (.aload_n 0, 1) := by decide +kernel
theorem d9_60 : decode prog_3_method_8_code 60 = .ok (.dup, 1) := by decide +kernel
theorem d9_61 : decode prog_3_method_8_code 61 = .ok (.getfield 46, 3) := by decide +kernel
theorem d9_64 : decode prog_3_method_8_code 64 = .ok (.iconst 1, 1) := by decide +kernel
theorem d9_65 : decode prog_3_method_8_code 65 = .ok (.isub, 1) := by decide +kernel
theorem d9_66 : decode prog_3_method_8_code 66 = .ok (.putfield 46, 3) := by decide +kernel
theorem d9_69 : decode prog_3_method_8_code 69 = .ok (.aload_n 0, 1) := by decide +kernel
theorem d9_70 : decode prog_3_method_8_code 70 = .ok (.getfield 17, 3) := by decide +kernel
theorem d9_73 : decode prog_3_method_8_code 73 = .ok (.iconst 1, 1) := by decide +kernel
theorem d9_74 : decode prog_3_method_8_code 74 = .ok (.if_icmp .ne 14, 3) := by decide +kernel
theorem d9_77 : decode prog_3_method_8_code 77 = .ok (.aload_n 0, 1) := by decide +kernel
theorem d9_78 : decode prog_3_method_8_code 78 = .ok (.aload_n 0, 1) := by decide +kernel
theorem d9_79 : decode prog_3_method_8_code 79 = .ok (.iload_n 1, 1) := by decide +kernel
theorem d9_80 : decode prog_3_method_8_code 80 = .ok (.iconst 0, 1) := by decide +kernel
theorem d9_81 : decode prog_3_method_8_code 81 = .ok (.invokevirtual 87, 3) := by decide +kernel
theorem d9_84 : decode prog_3_method_8_code 84 = .ok (.iconst 0, 1) := by decide +kernel
theorem d9_85 : decode prog_3_method_8_code 85 = .ok (.invokevirtual 73, 3) := by decide +kernel
theorem d9_88 : decode prog_3_method_8_code 88 = .ok (.iconst 0, 1) := by decide +kernel
theorem d9_89 : decode prog_3_method_8_code 89 = .ok (.istore 4, 2) := by decide +kernel
theorem d9_91 : decode prog_3_method_8_code 91 = .ok (.iload 4, 2) := by decide +kernel
theorem d9_93 : decode prog_3_method_8_code 93 = .ok (.aload_n 0, 1) := by decide +kernel
theorem d9_94 : decode prog_3_method_8_code 94 = .ok (.getfield 39, 3) := by decide +kernel
theorem d9_97 : decode prog_3_method_8_code 97 = .ok (.arraylength, 1) := by decide +kernel
theorem d9_98 : decode prog_3_method_8_code 98 = .ok (.if_icmp .ge 36, 3) := by decide +kernel
theorem d9_101 : decode prog_3_method_8_code 101 = .ok (.aload_n 0, 1) := by decide +kernel
theorem d9_102 : decode prog_3_method_8_code 102 = .ok (.getfield 39, 3) := by decide +kernel
theorem d9_105 : decode prog_3_method_8_code 105 = .ok (.iload 4, 2) := by decide +kernel
theorem d9_107 : decode prog_3_method_8_code 107 = .ok (.aaload, 1) := by decide +kernel
theorem d9_108 : decode prog_3_method_8_code 108 = .ok (.ifnull 20, 3) := by decide +kernel
theorem d9_111 : decode prog_3_method_8_code 111 = .ok (.aload_n 0, 1) := by decide +kernel
theorem d9_112 : decode prog_3_method_8_code 112 = .ok (.getfield 39, 3) := by decide +kernel
theorem d9_115 : decode prog_3_method_8_code 115 = .ok (.iload 4, 2) := by decide +kernel
theorem d9_117 : decode prog_3_method_8_code 117 = .ok (.aaload, 1) := by decide +kernel
theorem d9_118 : decode prog_3_method_8_code 118 = .ok (.aload_n 0, 1) := by decide +kernel
theorem d9_119 : decode prog_3_method_8_code 119 = .ok (.iload_n 1, 1) := by decide +kernel
theorem d9_120 : decode prog_3_method_8_code 120 = .ok (.iload 4, 2) := by decide +kernel
theorem d9_122 : decode prog_3_method_8_code 122 = .ok (.invokevirtual 87, 3) := by decide +kernel
theorem d9_125 : decode prog_3_method_8_code 125 = .ok (.invokevirtual 91, 3) := by decide +kernel
theorem d9_128 : decode prog_3_method_8_code 128 = .ok (.iinc 4 1, 3) := by decide +kernel
theorem d9_131 : decode prog_3_method_8_code 131 = .ok (.goto (-40), 3) := by decide +kernel
theorem d9_134 : decode prog_3_method_8_code 134 = .ok (.return_, 1) := by decide +kernel
set_option maxRecDepth 65536 in
set_option maxHeartbeats 40000000 in
theorem c44_0 (l : Launch) (Z : State) (a0 : Array Value) (hw : ∀ d ∈ tables_1, d.before a0 Z = true) (n0 : Nat) (h0 : Heap) (K : Cx) (ok : Ok K Z n0 "com/example/hornconv/hornconv/FactTable" prog_3_method_8_code 5 none "remove") (t un me ag de sl po : Addr) (rw lv us : Int32) (x0 x1 x2 x3 x4 x5 x6 x7 d0 d1 d2 d3 : Int32) (f : Nat → Int32) (A_t : Ob Z h0 t "com/example/hornconv/hornconv/FactTable" fl_FactTable [(.ref un), (.ref me), (.int (2 : Int32)), (.ref ag), (.ref de), (.ref sl), (.ref po), (.int rw), (.int lv), (.int us)]) (A_ag : PA .int Z h0 ag [(.int x0), (.int x1), (.int x2), (.int x3), (.int x4), (.int x5), (.int x6), (.int x7)]) (A_de : PA .boolean Z h0 de [(.int d0), (.int d1), (.int d2), (.int d3)]) (A_sl : PA .int Z h0 sl (sv 8 f)) (A_po : PA (.object "com/example/hornconv/hornconv/FactTable$PositionIndex") Z h0 po [.null, .null]) (ge_t : n0 ≤ t) (ge_de : n0 ≤ de) (ge_sl : n0 ≤ sl) (ne_t_ag : t ≠ ag) (ne_t_de : t ≠ de) (ne_t_sl : t ≠ sl) (ne_t_po : t ≠ po) (ne_ag_de : ag ≠ de) (ne_ag_sl : ag ≠ sl) (ne_ag_po : ag ≠ po) (ne_de_sl : de ≠ sl) (ne_sl_po : sl ≠ po) (ne_de_po : de ≠ po) (r : Nat) (hr8 : r < 8) (hfr : f r = 0) (s4 : Slot) (o4 : One s4) :
    W K l ({ frames := 1, cells := 0, slots := 0, locals := 16 } : Room) n0 (fun u h => u = none ∧ ∃ r, r < 8 ∧ f r = 0 ∧ Keep h0 h [t, de, sl] ∧ Ob Z h t "com/example/hornconv/hornconv/FactTable" fl_FactTable [(.ref un), (.ref me), (.int (2 : Int32)), (.ref ag), (.ref de), (.ref sl), (.ref po), (.int rw), (.int (lv - 1)), (.int us)] ∧ PA .boolean Z h de [(.int (1 : Int32)), (.int d1), (.int d2), (.int d3)] ∧ PA .int Z h sl (sv 8 (upd f r (-2)))) h0 0 0 44 #[.val (.ref t), .val (.int (0 : Int32)), .val (.int (7 : Int32)), .val (.int (Int32.ofNat r)), s4] [] := by
  have Kp : Keep h0 h0 [t, de, sl] := Keep.refl _ _
  show W K l _ n0 _ h0 0 0 44 #[.val (.ref t), .val (.int (0 : Int32)), .val (.int (7 : Int32)), .val (.int (Int32.ofNat r)), s4] []
  refine w_aloadN ok d9_44 rfl rfl ?_
  refine w_getfield ok (v := (.ref sl)) (host := "") (f := ("com/example/hornconv/hornconv/FactTable", "slots", "[I", (.array .int))) 5 d9_45 (Or.inl (hw _ (List.mem_of_getElem? (i := 22) rfl))) Via.refl A_t rfl rfl ?_
  refine w_iloadN ok d9_48 rfl ?_
  refine w_bipush ok d9_49 (v := (-2 : Int32)) rfl ?_
  refine w_iastore ok d9_51 A_sl ge_sl (own_nn (own_ofNat (by omega))) (by rw [own_clamp (own_ofNat (j := r) (by omega)), sv_len]; exact hr8) (fun h1 W_h1 A1_h1 => ?_)
  replace Kp := Kp.wr W_h1 (Or.inl (by simp))
  replace A_t := A_t.other W_h1 ne_t_sl
  replace A_ag := A_ag.other W_h1 ne_ag_sl
  replace A_de := A_de.other W_h1 ne_de_sl
  replace A_po := A_po.other W_h1 (Ne.symm ne_sl_po)
  replace A_sl : PA .int Z h1 sl ((sv 8 f).set (Int32.ofNat r).toNatClampNeg (.int (-2 : Int32))) := A1_h1
  rw [own_clamp (own_ofNat (j := r) (by omega)), sv_set] at A_sl
  refine w_aloadN ok d9_52 rfl rfl ?_
  refine w_getfield ok (v := (.ref de)) (host := "") (f := ("com/example/hornconv/hornconv/FactTable", "dead", "[Z", (.array .boolean))) 4 d9_53 (Or.inl (hw _ (List.mem_of_getElem? (i := 20) rfl))) Via.refl A_t rfl rfl ?_
  refine w_iloadN ok d9_56 rfl ?_
  refine w_iconst ok d9_57 (v := (1 : Int32)) rfl ?_
  refine w_zastore ok d9_58 A_de ge_de (by decide) (Nat.le_of_ble_eq_true rfl) (fun h2 W_h2 A1_h2 => ?_)
  replace Kp := Kp.wr W_h2 (Or.inl (by simp))
  replace A_t := A_t.other W_h2 ne_t_de
  replace A_ag := A_ag.other W_h2 ne_ag_de
  replace A_sl := A_sl.other W_h2 (Ne.symm ne_de_sl)
  replace A_po := A_po.other W_h2 (Ne.symm ne_de_po)
  replace A_de : PA .boolean Z h2 de [(.int (1 : Int32)), (.int d1), (.int d2), (.int d3)] := A1_h2
  refine w_aloadN ok d9_59 rfl rfl ?_
  refine w_dup ok d9_60 rfl ?_
  refine w_getfield ok (v := (.int lv)) (host := "") (f := ("com/example/hornconv/hornconv/FactTable", "live", "I", .int)) 8 d9_61 (Or.inl (hw _ (List.mem_of_getElem? (i := 52) rfl))) Via.refl A_t rfl rfl ?_
  refine w_iconst ok d9_64 (v := (1 : Int32)) rfl ?_
  refine w_isub ok d9_65 ?_
  refine w_putfield ok (host := "") (f := ("com/example/hornconv/hornconv/FactTable", "live", "I", .int)) 8 d9_66 (Or.inl (hw _ (List.mem_of_getElem? (i := 52) rfl))) Via.refl A_t (la_FactTable hw) rfl rfl (Or.inl (hw _ (List.mem_of_getElem? (i := 53) rfl))) (hw _ (List.mem_of_getElem? (i := 2) rfl)) rfl rfl ge_t (fun h3 W_h3 A1_h3 => ?_)
  replace Kp := Kp.wr W_h3 (Or.inl (by simp))
  replace A_ag := A_ag.other W_h3 (Ne.symm ne_t_ag)
  replace A_de := A_de.other W_h3 (Ne.symm ne_t_de)
  replace A_sl := A_sl.other W_h3 (Ne.symm ne_t_sl)
  replace A_po := A_po.other W_h3 (Ne.symm ne_t_po)
  replace A_t : Ob Z h3 t "com/example/hornconv/hornconv/FactTable" fl_FactTable [(.ref un), (.ref me), (.int (2 : Int32)), (.ref ag), (.ref de), (.ref sl), (.ref po), (.int rw), (.int (lv - (1 : Int32))), (.int us)] := A1_h3
  refine w_aloadN ok d9_69 rfl rfl ?_
  refine w_getfield ok (v := (.int (2 : Int32))) (host := "") (f := ("com/example/hornconv/hornconv/FactTable", "arity", "I", .int)) 2 d9_70 (Or.inl (hw _ (List.mem_of_getElem? (i := 15) rfl))) Via.refl A_t rfl rfl ?_
  refine w_iconst ok d9_73 (v := (1 : Int32)) rfl ?_
  refine w_icmp_ne ok d9_74 (pc' := 88) (by decide) (fun hc5 => ?_) (fun hc5 => False.elim (by revert hc5; decide))
  show W K l _ n0 _ h3 0 0 88 #[.val (.ref t), .val (.int (0 : Int32)), .val (.int (7 : Int32)), .val (.int (Int32.ofNat r)), s4] []
  refine w_iconst ok d9_88 (v := (0 : Int32)) rfl ?_
  refine w_istore ok d9_89 (L' := #[.val (.ref t), .val (.int (0 : Int32)), .val (.int (7 : Int32)), .val (.int (Int32.ofNat r)), .val (.int (0 : Int32))]) (by exact XS.store1 (o := s4) rfl o4 rfl) ?_
  refine w_iload ok d9_91 rfl ?_
  refine w_aloadN ok d9_93 rfl rfl ?_
  refine w_getfield ok (v := (.ref po)) (host := "") (f := ("com/example/hornconv/hornconv/FactTable", "positions", "[Lcom/example/hornconv/hornconv/FactTable$PositionIndex;", (.array (.object "com/example/hornconv/hornconv/FactTable$PositionIndex")))) 6 d9_94 (Or.inl (hw _ (List.mem_of_getElem? (i := 30) rfl))) Via.refl A_t rfl rfl ?_
  refine w_arraylength ok (z := (2 : Int32)) d9_97 A_po rfl (by decide) ?_
  show W K l _ n0 _ h3 0 0 98 #[.val (.ref t), .val (.int (0 : Int32)), .val (.int (7 : Int32)), .val (.int (Int32.ofNat r)), .val (.int (0 : Int32))] [(.int (2 : Int32)), (.int (0 : Int32))]
  refine w_icmp_ge ok d9_98 (pc' := 134) (by decide) (fun hc7 => False.elim (by revert hc7; decide)) (fun hc7 => ?_)
  show W K l _ n0 _ h3 0 0 101 #[.val (.ref t), .val (.int (0 : Int32)), .val (.int (7 : Int32)), .val (.int (Int32.ofNat r)), .val (.int (0 : Int32))] []
  refine w_aloadN ok d9_101 rfl rfl ?_
  refine w_getfield ok (v := (.ref po)) (host := "") (f := ("com/example/hornconv/hornconv/FactTable", "positions", "[Lcom/example/hornconv/hornconv/FactTable$PositionIndex;", (.array (.object "com/example/hornconv/hornconv/FactTable$PositionIndex")))) 6 d9_102 (Or.inl (hw _ (List.mem_of_getElem? (i := 30) rfl))) Via.refl A_t rfl rfl ?_
  refine w_iload ok d9_105 rfl ?_
  refine w_aaload ok (v := .null) d9_107 A_po rfl (by decide) rfl ?_
  refine w_ifnullY ok d9_108 (pc' := 128) (by decide) ?_
  show W K l _ n0 _ h3 0 0 128 #[.val (.ref t), .val (.int (0 : Int32)), .val (.int (7 : Int32)), .val (.int (Int32.ofNat r)), .val (.int (0 : Int32))] []
  refine w_iinc ok d9_128 (u := (1 : Int32)) rfl rfl (L' := #[.val (.ref t), .val (.int (0 : Int32)), .val (.int (7 : Int32)), .val (.int (Int32.ofNat r)), .val (.int (1 : Int32))]) rfl ?_
  show W K l _ n0 _ h3 0 0 131 #[.val (.ref t), .val (.int (0 : Int32)), .val (.int (7 : Int32)), .val (.int (Int32.ofNat r)), .val (.int (1 : Int32))] []
  refine w_goto ok d9_131 (pc' := 91) (by decide) ?_
  refine w_iload ok d9_91 rfl ?_
  refine w_aloadN ok d9_93 rfl rfl ?_
  refine w_getfield ok (v := (.ref po)) (host := "") (f := ("com/example/hornconv/hornconv/FactTable", "positions", "[Lcom/example/hornconv/hornconv/FactTable$PositionIndex;", (.array (.object "com/example/hornconv/hornconv/FactTable$PositionIndex")))) 6 d9_94 (Or.inl (hw _ (List.mem_of_getElem? (i := 30) rfl))) Via.refl A_t rfl rfl ?_
  refine w_arraylength ok (z := (2 : Int32)) d9_97 A_po rfl (by decide) ?_
  show W K l _ n0 _ h3 0 0 98 #[.val (.ref t), .val (.int (0 : Int32)), .val (.int (7 : Int32)), .val (.int (Int32.ofNat r)), .val (.int (1 : Int32))] [(.int (2 : Int32)), (.int (1 : Int32))]
  refine w_icmp_ge ok d9_98 (pc' := 134) (by decide) (fun hc9 => False.elim (by revert hc9; decide)) (fun hc9 => ?_)
  show W K l _ n0 _ h3 0 0 101 #[.val (.ref t), .val (.int (0 : Int32)), .val (.int (7 : Int32)), .val (.int (Int32.ofNat r)), .val (.int (1 : Int32))] []
  refine w_aloadN ok d9_101 rfl rfl ?_
  refine w_getfield ok (v := (.ref po)) (host := "") (f := ("com/example/hornconv/hornconv/FactTable", "positions", "[Lcom/example/hornconv/hornconv/FactTable$PositionIndex;", (.array (.object "com/example/hornconv/hornconv/FactTable$PositionIndex")))) 6 d9_102 (Or.inl (hw _ (List.mem_of_getElem? (i := 30) rfl))) Via.refl A_t rfl rfl ?_
  refine w_iload ok d9_105 rfl ?_
  refine w_aaload ok (v := .null) d9_107 A_po rfl (by decide) rfl ?_
  refine w_ifnullY ok d9_108 (pc' := 128) (by decide) ?_
  show W K l _ n0 _ h3 0 0 128 #[.val (.ref t), .val (.int (0 : Int32)), .val (.int (7 : Int32)), .val (.int (Int32.ofNat r)), .val (.int (1 : Int32))] []
  refine w_iinc ok d9_128 (u := (1 : Int32)) rfl rfl (L' := #[.val (.ref t), .val (.int (0 : Int32)), .val (.int (7 : Int32)), .val (.int (Int32.ofNat r)), .val (.int (2 : Int32))]) rfl ?_
  show W K l _ n0 _ h3 0 0 131 #[.val (.ref t), .val (.int (0 : Int32)), .val (.int (7 : Int32)), .val (.int (Int32.ofNat r)), .val (.int (2 : Int32))] []
  refine w_goto ok d9_131 (pc' := 91) (by decide) ?_
  refine w_iload ok d9_91 rfl ?_
  refine w_aloadN ok d9_93 rfl rfl ?_
  refine w_getfield ok (v := (.ref po)) (host := "") (f := ("com/example/hornconv/hornconv/FactTable", "positions", "[Lcom/example/hornconv/hornconv/FactTable$PositionIndex;", (.array (.object "com/example/hornconv/hornconv/FactTable$PositionIndex")))) 6 d9_94 (Or.inl (hw _ (List.mem_of_getElem? (i := 30) rfl))) Via.refl A_t rfl rfl ?_
  refine w_arraylength ok (z := (2 : Int32)) d9_97 A_po rfl (by decide) ?_
  show W K l _ n0 _ h3 0 0 98 #[.val (.ref t), .val (.int (0 : Int32)), .val (.int (7 : Int32)), .val (.int (Int32.ofNat r)), .val (.int (2 : Int32))] [(.int (2 : Int32)), (.int (2 : Int32))]
  refine w_icmp_ge ok d9_98 (pc' := 134) (by decide) (fun hc11 => ?_) (fun hc11 => False.elim (by revert hc11; decide))
  show W K l _ n0 _ h3 0 0 134 #[.val (.ref t), .val (.int (0 : Int32)), .val (.int (7 : Int32)), .val (.int (Int32.ofNat r)), .val (.int (2 : Int32))] []
  refine w_ret ok d9_134 (by decide) (by decide) ?_
  exact ⟨rfl, r, hr8, hfr, Kp, A_t, A_de, A_sl⟩
set_option maxRecDepth 65536 in
set_option maxHeartbeats 40000000 in
theorem lp_rm0 (l : Launch) (Z : State) (a0 : Array Value) (hw : ∀ d ∈ tables_1, d.before a0 Z = true) (n0 : Nat) (h0 : Heap) (K : Cx) (ok : Ok K Z n0 "com/example/hornconv/hornconv/FactTable" prog_3_method_8_code 5 none "remove") (t un me ag de sl po : Addr) (rw lv us : Int32) (x0 x1 x2 x3 x4 x5 x6 x7 d0 d1 d2 d3 : Int32) (f : Nat → Int32) (A_t : Ob Z h0 t "com/example/hornconv/hornconv/FactTable" fl_FactTable [(.ref un), (.ref me), (.int (2 : Int32)), (.ref ag), (.ref de), (.ref sl), (.ref po), (.int rw), (.int lv), (.int us)]) (A_ag : PA .int Z h0 ag [(.int x0), (.int x1), (.int x2), (.int x3), (.int x4), (.int x5), (.int x6), (.int x7)]) (A_de : PA .boolean Z h0 de [(.int d0), (.int d1), (.int d2), (.int d3)]) (A_sl : PA .int Z h0 sl (sv 8 f)) (A_po : PA (.object "com/example/hornconv/hornconv/FactTable$PositionIndex") Z h0 po [.null, .null]) (ge_t : n0 ≤ t) (ge_de : n0 ≤ de) (ge_sl : n0 ≤ sl) (ne_t_ag : t ≠ ag) (ne_t_de : t ≠ de) (ne_t_sl : t ≠ sl) (ne_t_po : t ≠ po) (ne_ag_de : ag ≠ de) (ne_ag_sl : ag ≠ sl) (ne_ag_po : ag ≠ po) (ne_de_sl : de ≠ sl) (ne_sl_po : sl ≠ po) (ne_de_po : de ≠ po) (s : Nat) (s4 : Slot) (o4 : One s4) :
    ∀ (c i : Nat), f ((s + (i + c)) % 8) = 0 → W K l ({ frames := 1, cells := 0, slots := 0, locals := 16 } : Room) n0 (fun u h => u = none ∧ ∃ r, r < 8 ∧ f r = 0 ∧ Keep h0 h [t, de, sl] ∧ Ob Z h t "com/example/hornconv/hornconv/FactTable" fl_FactTable [(.ref un), (.ref me), (.int (2 : Int32)), (.ref ag), (.ref de), (.ref sl), (.ref po), (.int rw), (.int (lv - 1)), (.int us)] ∧ PA .boolean Z h de [(.int (1 : Int32)), (.int d1), (.int d2), (.int d3)] ∧ PA .int Z h sl (sv 8 (upd f r (-2)))) h0 0 0 25 #[.val (.ref t), .val (.int (0 : Int32)), .val (.int (7 : Int32)), .val (.int (Int32.ofNat ((s + i) % 8))), s4] [] := by
  intro c
  induction c with
  | zero =>
    intro i hc
    have hc : f ((s + i) % 8) = 0 := hc
    show W K l _ n0 _ h0 0 0 25 #[.val (.ref t), .val (.int (0 : Int32)), .val (.int (7 : Int32)), .val (.int (Int32.ofNat ((s + i) % 8))), s4] []
    refine w_aloadN ok d9_25 rfl rfl ?_
    refine w_getfield ok (v := (.ref sl)) (host := "") (f := ("com/example/hornconv/hornconv/FactTable", "slots", "[I", (.array .int))) 5 d9_26 (Or.inl (hw _ (List.mem_of_getElem? (i := 22) rfl))) Via.refl A_t rfl rfl ?_
    refine w_iloadN ok d9_29 rfl ?_
    refine w_iaload ok (v := (.int (f ((s + i) % 8)))) d9_30 A_sl (own_nn (own_o8 _)) (by rw [own_clamp (own_o8 _)]; exact sv_get (by omega)) ?_
    refine w_iloadN ok d9_31 rfl ?_
    refine w_icmp_eq ok d9_32 (pc' := 44) (by decide) (fun hc1 => ?_) (fun hc1 => False.elim (by exact hc1 hc))
    show W K l _ n0 _ h0 0 0 44 #[.val (.ref t), .val (.int (0 : Int32)), .val (.int (7 : Int32)), .val (.int (Int32.ofNat ((s + i) % 8))), s4] []
    exact c44_0 l Z a0 hw n0 h0 K ok t un me ag de sl po rw lv us x0 x1 x2 x3 x4 x5 x6 x7 d0 d1 d2 d3 f A_t A_ag A_de A_sl A_po ge_t ge_de ge_sl ne_t_ag ne_t_de ne_t_sl ne_t_po ne_ag_de ne_ag_sl ne_ag_po ne_de_sl ne_sl_po ne_de_po ((s + i) % 8) (by omega) hc s4 o4
  | succ c ih =>
    intro i hc
    show W K l _ n0 _ h0 0 0 25 #[.val (.ref t), .val (.int (0 : Int32)), .val (.int (7 : Int32)), .val (.int (Int32.ofNat ((s + i) % 8))), s4] []
    refine w_aloadN ok d9_25 rfl rfl ?_
    refine w_getfield ok (v := (.ref sl)) (host := "") (f := ("com/example/hornconv/hornconv/FactTable", "slots", "[I", (.array .int))) 5 d9_26 (Or.inl (hw _ (List.mem_of_getElem? (i := 22) rfl))) Via.refl A_t rfl rfl ?_
    refine w_iloadN ok d9_29 rfl ?_
    refine w_iaload ok (v := (.int (f ((s + i) % 8)))) d9_30 A_sl (own_nn (own_o8 _)) (by rw [own_clamp (own_o8 _)]; exact sv_get (by omega)) ?_
    refine w_iloadN ok d9_31 rfl ?_
    refine w_icmp_eq ok d9_32 (pc' := 44) (by decide) (fun hc3 => ?_) (fun hc3 => ?_)
    · show W K l _ n0 _ h0 0 0 44 #[.val (.ref t), .val (.int (0 : Int32)), .val (.int (7 : Int32)), .val (.int (Int32.ofNat ((s + i) % 8))), s4] []
      exact c44_0 l Z a0 hw n0 h0 K ok t un me ag de sl po rw lv us x0 x1 x2 x3 x4 x5 x6 x7 d0 d1 d2 d3 f A_t A_ag A_de A_sl A_po ge_t ge_de ge_sl ne_t_ag ne_t_de ne_t_sl ne_t_po ne_ag_de ne_ag_sl ne_ag_po ne_de_sl ne_sl_po ne_de_po ((s + i) % 8) (by omega) hc3 s4 o4
    · show W K l _ n0 _ h0 0 0 35 #[.val (.ref t), .val (.int (0 : Int32)), .val (.int (7 : Int32)), .val (.int (Int32.ofNat ((s + i) % 8))), s4] []
      refine w_iloadN ok d9_35 rfl ?_
      refine w_iconst ok d9_36 (v := (1 : Int32)) rfl ?_
      refine w_iadd ok d9_37 ?_
      refine w_iloadN ok d9_38 rfl ?_
      refine w_iand ok d9_39 ?_
      refine w_istoreN ok d9_40 (L' := #[.val (.ref t), .val (.int (0 : Int32)), .val (.int (7 : Int32)), .val (.int (((Int32.ofNat ((s + i) % 8)) + (1 : Int32)) &&& (7 : Int32))), s4]) rfl ?_
      refine w_goto ok d9_41 (pc' := 25) (by decide) ?_
      show W K l _ n0 _ h0 0 0 25 #[.val (.ref t), .val (.int (0 : Int32)), .val (.int (7 : Int32)), .val (.int (((Int32.ofNat ((s + i) % 8)) + (1 : Int32)) &&& (7 : Int32))), s4] []
      rw [show (Int32.ofNat ((s + i) % 8) + 1) &&& 7 = Int32.ofNat ((s + (i + 1)) % 8) from own_nx (s + i)]
      exact ih (i + 1) (by rw [show s + (i + 1 + c) = s + (i + (c + 1)) by omega]; exact hc)
set_option maxRecDepth 65536 in
set_option maxHeartbeats 40000000 in
theorem rm_rm0 (l : Launch) (Z : State) (a0 : Array Value) (hw : ∀ d ∈ tables_1, d.before a0 Z = true) (ws : List Jvm.Cond) (n0 : Nat) (h0 : Heap) (Z0 : Old Z n0 h0) (t un me ag de sl po : Addr) (rw lv us : Int32) (x0 x1 x2 x3 x4 x5 x6 x7 d0 d1 d2 d3 : Int32) (f : Nat → Int32) (A_t : Ob Z h0 t "com/example/hornconv/hornconv/FactTable" fl_FactTable [(.ref un), (.ref me), (.int (2 : Int32)), (.ref ag), (.ref de), (.ref sl), (.ref po), (.int rw), (.int lv), (.int us)]) (A_ag : PA .int Z h0 ag [(.int x0), (.int x1), (.int x2), (.int x3), (.int x4), (.int x5), (.int x6), (.int x7)]) (A_de : PA .boolean Z h0 de [(.int d0), (.int d1), (.int d2), (.int d3)]) (A_sl : PA .int Z h0 sl (sv 8 f)) (A_po : PA (.object "com/example/hornconv/hornconv/FactTable$PositionIndex") Z h0 po [.null, .null]) (ge_t : n0 ≤ t) (ge_de : n0 ≤ de) (ge_sl : n0 ≤ sl) (ne_t_ag : t ≠ ag) (ne_t_de : t ≠ de) (ne_t_sl : t ≠ sl) (ne_t_po : t ≠ po) (ne_ag_de : ag ≠ de) (ne_ag_sl : ag ≠ sl) (ne_ag_po : ag ≠ po) (ne_de_sl : de ≠ sl) (ne_sl_po : sl ≠ po) (ne_de_po : de ≠ po) (hE : ∃ m, f (((own_hs [x0, x1] &&& 7).toNatClampNeg + m) % 8) = 0)  :
    Met l Z n0 (⟨"com/example/hornconv/hornconv/FactTable", "remove", "(I)V"⟩ : MethodName) prog_3_method_8_code 5 none ws ({ frames := 1, cells := 0, slots := 0, locals := 16 } : Room) #[(.ref t), (.int (0 : Int32))] h0 (fun u h => u = none ∧ ∃ r, r < 8 ∧ f r = 0 ∧ Keep h0 h [t, de, sl] ∧ Ob Z h t "com/example/hornconv/hornconv/FactTable" fl_FactTable [(.ref un), (.ref me), (.int (2 : Int32)), (.ref ag), (.ref de), (.ref sl), (.ref po), (.int rw), (.int (lv - 1)), (.int us)] ∧ PA .boolean Z h de [(.int (1 : Int32)), (.int d1), (.int d2), (.int d3)] ∧ PA .int Z h sl (sv 8 (upd f r (-2)))) := by
  refine met_of Z0 (plainFor_of_name pn_com_example_hornconv_hornconv_FactTable) (Ls := #[.val (.ref t), .val (.int (0 : Int32)), .unset, .unset, .unset]) (fun m => by first | (simp [entryFrame, mkF, argsToLocals, Value.category]; done) | rfl) ?_
  intro K ok
  show W K l _ n0 _ h0 0 0 0 #[.val (.ref t), .val (.int (0 : Int32)), .unset, .unset, .unset] []
  refine w_aloadN ok d9_0 rfl rfl ?_
  refine w_getfield ok (v := (.ref sl)) (host := "") (f := ("com/example/hornconv/hornconv/FactTable", "slots", "[I", (.array .int))) 5 d9_1 (Or.inl (hw _ (List.mem_of_getElem? (i := 22) rfl))) Via.refl A_t rfl rfl ?_
  refine w_arraylength ok (z := (8 : Int32)) d9_4 A_sl (sv_len 8 _) (by decide) ?_
  show W K l _ n0 _ h0 0 0 5 #[.val (.ref t), .val (.int (0 : Int32)), .unset, .unset, .unset] [(.int (8 : Int32))]
  refine w_iconst ok d9_5 (v := (1 : Int32)) rfl ?_
  refine w_isub ok d9_6 ?_
  show W K l _ n0 _ h0 0 0 7 #[.val (.ref t), .val (.int (0 : Int32)), .unset, .unset, .unset] [(.int (7 : Int32))]
  refine w_istoreN ok d9_7 (L' := #[.val (.ref t), .val (.int (0 : Int32)), .val (.int (7 : Int32)), .unset, .unset]) rfl ?_
  refine w_aloadN ok d9_8 rfl rfl ?_
  refine w_aloadN ok d9_9 rfl rfl ?_
  refine w_getfield ok (v := (.ref ag)) (host := "") (f := ("com/example/hornconv/hornconv/FactTable", "arguments", "[I", (.array .int))) 3 d9_10 (Or.inl (hw _ (List.mem_of_getElem? (i := 17) rfl))) Via.refl A_t rfl rfl ?_
  refine w_iloadN ok d9_13 rfl ?_
  refine w_aloadN ok d9_14 rfl rfl ?_
  refine w_getfield ok (v := (.int (2 : Int32))) (host := "") (f := ("com/example/hornconv/hornconv/FactTable", "arity", "I", .int)) 2 d9_15 (Or.inl (hw _ (List.mem_of_getElem? (i := 15) rfl))) Via.refl A_t rfl rfl ?_
  refine w_imul ok d9_18 ?_
  show W K l _ n0 _ h0 0 0 19 #[.val (.ref t), .val (.int (0 : Int32)), .val (.int (7 : Int32)), .unset, .unset] [(.int (0 : Int32)), (.ref ag), (.ref t)]
  refine w_callP ok (y := (⟨"com/example/hornconv/hornconv/FactTable", "hash", "([II)I"⟩ : MethodName)) (a := t) (argsL := [(.ref ag), (.int (0 : Int32))]) (rest := []) d9_19 (hw _ (List.mem_of_getElem? (i := 37) rfl)) (hw _ (List.mem_of_getElem? (i := 38) rfl)) (hw _ (List.mem_of_getElem? (i := 39) rfl)) (hw _ (List.mem_of_getElem? (i := 2) rfl)) (hw _ (List.mem_of_getElem? (i := 3) rfl)) (hw _ (List.mem_of_getElem? (i := 40) rfl)) (by decide) A_t.1 pd_285bII29I rfl rfl (by decide) (Nat.le_of_ble_eq_true rfl) (by decide) (by decide) (fun z0 => rm_h_8_0 l Z a0 hw [] n0 h0 z0 t ag un me ag de sl po rw lv us x0 x1 x2 x3 x4 x5 x6 x7 A_t A_ag) (fun v1 h2 qv1 => ?_)
  obtain ⟨rfl, rfl⟩ := qv1
  show W K l _ n0 _ h0 0 0 22 #[.val (.ref t), .val (.int (0 : Int32)), .val (.int (7 : Int32)), .unset, .unset] [(.int (own_hs [x0, x1]))]
  refine w_iloadN ok d9_22 rfl ?_
  refine w_iand ok d9_23 ?_
  refine w_istoreN ok d9_24 (L' := #[.val (.ref t), .val (.int (0 : Int32)), .val (.int (7 : Int32)), .val (.int ((own_hs [x0, x1]) &&& (7 : Int32))), .unset]) rfl ?_
  show W K l _ n0 _ h0 0 0 25 #[.val (.ref t), .val (.int (0 : Int32)), .val (.int (7 : Int32)), .val (.int ((own_hs [x0, x1]) &&& (7 : Int32))), .unset] []
  obtain ⟨c, hc⟩ := hE
  have e := own_st (own_hs [x0, x1])
  generalize hn : (own_hs [x0, x1] &&& 7).toNatClampNeg = n at hc e ⊢
  rw [e]
  exact lp_rm0 l Z a0 hw n0 h0 K ok t un me ag de sl po rw lv us x0 x1 x2 x3 x4 x5 x6 x7 d0 d1 d2 d3 f A_t A_ag A_de A_sl A_po ge_t ge_de ge_sl ne_t_ag ne_t_de ne_t_sl ne_t_po ne_ag_de ne_ag_sl ne_ag_po ne_de_sl ne_sl_po ne_de_po n _ One.u c 0 (by rw [Nat.zero_add]; exact hc)
set_option maxRecDepth 65536 in
set_option maxHeartbeats 40000000 in
theorem c44_1 (l : Launch) (Z : State) (a0 : Array Value) (hw : ∀ d ∈ tables_1, d.before a0 Z = true) (n0 : Nat) (h0 : Heap) (K : Cx) (ok : Ok K Z n0 "com/example/hornconv/hornconv/FactTable" prog_3_method_8_code 5 none "remove") (t un me ag de sl po : Addr) (rw lv us : Int32) (x0 x1 x2 x3 x4 x5 x6 x7 d0 d1 d2 d3 : Int32) (f : Nat → Int32) (A_t : Ob Z h0 t "com/example/hornconv/hornconv/FactTable" fl_FactTable [(.ref un), (.ref me), (.int (2 : Int32)), (.ref ag), (.ref de), (.ref sl), (.ref po), (.int rw), (.int lv), (.int us)]) (A_ag : PA .int Z h0 ag [(.int x0), (.int x1), (.int x2), (.int x3), (.int x4), (.int x5), (.int x6), (.int x7)]) (A_de : PA .boolean Z h0 de [(.int d0), (.int d1), (.int d2), (.int d3)]) (A_sl : PA .int Z h0 sl (sv 8 f)) (A_po : PA (.object "com/example/hornconv/hornconv/FactTable$PositionIndex") Z h0 po [.null, .null]) (ge_t : n0 ≤ t) (ge_de : n0 ≤ de) (ge_sl : n0 ≤ sl) (ne_t_ag : t ≠ ag) (ne_t_de : t ≠ de) (ne_t_sl : t ≠ sl) (ne_t_po : t ≠ po) (ne_ag_de : ag ≠ de) (ne_ag_sl : ag ≠ sl) (ne_ag_po : ag ≠ po) (ne_de_sl : de ≠ sl) (ne_sl_po : sl ≠ po) (ne_de_po : de ≠ po) (r : Nat) (hr8 : r < 8) (hfr : f r = 1) (s4 : Slot) (o4 : One s4) :
    W K l ({ frames := 1, cells := 0, slots := 0, locals := 16 } : Room) n0 (fun u h => u = none ∧ ∃ r, r < 8 ∧ f r = 1 ∧ Keep h0 h [t, de, sl] ∧ Ob Z h t "com/example/hornconv/hornconv/FactTable" fl_FactTable [(.ref un), (.ref me), (.int (2 : Int32)), (.ref ag), (.ref de), (.ref sl), (.ref po), (.int rw), (.int (lv - 1)), (.int us)] ∧ PA .boolean Z h de [(.int d0), (.int (1 : Int32)), (.int d2), (.int d3)] ∧ PA .int Z h sl (sv 8 (upd f r (-2)))) h0 0 0 44 #[.val (.ref t), .val (.int (1 : Int32)), .val (.int (7 : Int32)), .val (.int (Int32.ofNat r)), s4] [] := by
  have Kp : Keep h0 h0 [t, de, sl] := Keep.refl _ _
  show W K l _ n0 _ h0 0 0 44 #[.val (.ref t), .val (.int (1 : Int32)), .val (.int (7 : Int32)), .val (.int (Int32.ofNat r)), s4] []
  refine w_aloadN ok d9_44 rfl rfl ?_
  refine w_getfield ok (v := (.ref sl)) (host := "") (f := ("com/example/hornconv/hornconv/FactTable", "slots", "[I", (.array .int))) 5 d9_45 (Or.inl (hw _ (List.mem_of_getElem? (i := 22) rfl))) Via.refl A_t rfl rfl ?_
  refine w_iloadN ok d9_48 rfl ?_
  refine w_bipush ok d9_49 (v := (-2 : Int32)) rfl ?_
  refine w_iastore ok d9_51 A_sl ge_sl (own_nn (own_ofNat (by omega))) (by rw [own_clamp (own_ofNat (j := r) (by omega)), sv_len]; exact hr8) (fun h1 W_h1 A1_h1 => ?_)
  replace Kp := Kp.wr W_h1 (Or.inl (by simp))
  replace A_t := A_t.other W_h1 ne_t_sl
  replace A_ag := A_ag.other W_h1 ne_ag_sl
  replace A_de := A_de.other W_h1 ne_de_sl
  replace A_po := A_po.other W_h1 (Ne.symm ne_sl_po)
  replace A_sl : PA .int Z h1 sl ((sv 8 f).set (Int32.ofNat r).toNatClampNeg (.int (-2 : Int32))) := A1_h1
  rw [own_clamp (own_ofNat (j := r) (by omega)), sv_set] at A_sl
  refine w_aloadN ok d9_52 rfl rfl ?_
  refine w_getfield ok (v := (.ref de)) (host := "") (f := ("com/example/hornconv/hornconv/FactTable", "dead", "[Z", (.array .boolean))) 4 d9_53 (Or.inl (hw _ (List.mem_of_getElem? (i := 20) rfl))) Via.refl A_t rfl rfl ?_
  refine w_iloadN ok d9_56 rfl ?_
  refine w_iconst ok d9_57 (v := (1 : Int32)) rfl ?_
  refine w_zastore ok d9_58 A_de ge_de (by decide) (Nat.le_of_ble_eq_true rfl) (fun h2 W_h2 A1_h2 => ?_)
  replace Kp := Kp.wr W_h2 (Or.inl (by simp))
  replace A_t := A_t.other W_h2 ne_t_de
  replace A_ag := A_ag.other W_h2 ne_ag_de
  replace A_sl := A_sl.other W_h2 (Ne.symm ne_de_sl)
  replace A_po := A_po.other W_h2 (Ne.symm ne_de_po)
  replace A_de : PA .boolean Z h2 de [(.int d0), (.int (1 : Int32)), (.int d2), (.int d3)] := A1_h2
  refine w_aloadN ok d9_59 rfl rfl ?_
  refine w_dup ok d9_60 rfl ?_
  refine w_getfield ok (v := (.int lv)) (host := "") (f := ("com/example/hornconv/hornconv/FactTable", "live", "I", .int)) 8 d9_61 (Or.inl (hw _ (List.mem_of_getElem? (i := 52) rfl))) Via.refl A_t rfl rfl ?_
  refine w_iconst ok d9_64 (v := (1 : Int32)) rfl ?_
  refine w_isub ok d9_65 ?_
  refine w_putfield ok (host := "") (f := ("com/example/hornconv/hornconv/FactTable", "live", "I", .int)) 8 d9_66 (Or.inl (hw _ (List.mem_of_getElem? (i := 52) rfl))) Via.refl A_t (la_FactTable hw) rfl rfl (Or.inl (hw _ (List.mem_of_getElem? (i := 53) rfl))) (hw _ (List.mem_of_getElem? (i := 2) rfl)) rfl rfl ge_t (fun h3 W_h3 A1_h3 => ?_)
  replace Kp := Kp.wr W_h3 (Or.inl (by simp))
  replace A_ag := A_ag.other W_h3 (Ne.symm ne_t_ag)
  replace A_de := A_de.other W_h3 (Ne.symm ne_t_de)
  replace A_sl := A_sl.other W_h3 (Ne.symm ne_t_sl)
  replace A_po := A_po.other W_h3 (Ne.symm ne_t_po)
  replace A_t : Ob Z h3 t "com/example/hornconv/hornconv/FactTable" fl_FactTable [(.ref un), (.ref me), (.int (2 : Int32)), (.ref ag), (.ref de), (.ref sl), (.ref po), (.int rw), (.int (lv - (1 : Int32))), (.int us)] := A1_h3
  refine w_aloadN ok d9_69 rfl rfl ?_
  refine w_getfield ok (v := (.int (2 : Int32))) (host := "") (f := ("com/example/hornconv/hornconv/FactTable", "arity", "I", .int)) 2 d9_70 (Or.inl (hw _ (List.mem_of_getElem? (i := 15) rfl))) Via.refl A_t rfl rfl ?_
  refine w_iconst ok d9_73 (v := (1 : Int32)) rfl ?_
  refine w_icmp_ne ok d9_74 (pc' := 88) (by decide) (fun hc5 => ?_) (fun hc5 => False.elim (by revert hc5; decide))
  show W K l _ n0 _ h3 0 0 88 #[.val (.ref t), .val (.int (1 : Int32)), .val (.int (7 : Int32)), .val (.int (Int32.ofNat r)), s4] []
  refine w_iconst ok d9_88 (v := (0 : Int32)) rfl ?_
  refine w_istore ok d9_89 (L' := #[.val (.ref t), .val (.int (1 : Int32)), .val (.int (7 : Int32)), .val (.int (Int32.ofNat r)), .val (.int (0 : Int32))]) (by exact XS.store1 (o := s4) rfl o4 rfl) ?_
  refine w_iload ok d9_91 rfl ?_
  refine w_aloadN ok d9_93 rfl rfl ?_
  refine w_getfield ok (v := (.ref po)) (host := "") (f := ("com/example/hornconv/hornconv/FactTable", "positions", "[Lcom/example/hornconv/hornconv/FactTable$PositionIndex;", (.array (.object "com/example/hornconv/hornconv/FactTable$PositionIndex")))) 6 d9_94 (Or.inl (hw _ (List.mem_of_getElem? (i := 30) rfl))) Via.refl A_t rfl rfl ?_
  refine w_arraylength ok (z := (2 : Int32)) d9_97 A_po rfl (by decide) ?_
  show W K l _ n0 _ h3 0 0 98 #[.val (.ref t), .val (.int (1 : Int32)), .val (.int (7 : Int32)), .val (.int (Int32.ofNat r)), .val (.int (0 : Int32))] [(.int (2 : Int32)), (.int (0 : Int32))]
  refine w_icmp_ge ok d9_98 (pc' := 134) (by decide) (fun hc7 => False.elim (by revert hc7; decide)) (fun hc7 => ?_)
  show W K l _ n0 _ h3 0 0 101 #[.val (.ref t), .val (.int (1 : Int32)), .val (.int (7 : Int32)), .val (.int (Int32.ofNat r)), .val (.int (0 : Int32))] []
  refine w_aloadN ok d9_101 rfl rfl ?_
  refine w_getfield ok (v := (.ref po)) (host := "") (f := ("com/example/hornconv/hornconv/FactTable", "positions", "[Lcom/example/hornconv/hornconv/FactTable$PositionIndex;", (.array (.object "com/example/hornconv/hornconv/FactTable$PositionIndex")))) 6 d9_102 (Or.inl (hw _ (List.mem_of_getElem? (i := 30) rfl))) Via.refl A_t rfl rfl ?_
  refine w_iload ok d9_105 rfl ?_
  refine w_aaload ok (v := .null) d9_107 A_po rfl (by decide) rfl ?_
  refine w_ifnullY ok d9_108 (pc' := 128) (by decide) ?_
  show W K l _ n0 _ h3 0 0 128 #[.val (.ref t), .val (.int (1 : Int32)), .val (.int (7 : Int32)), .val (.int (Int32.ofNat r)), .val (.int (0 : Int32))] []
  refine w_iinc ok d9_128 (u := (1 : Int32)) rfl rfl (L' := #[.val (.ref t), .val (.int (1 : Int32)), .val (.int (7 : Int32)), .val (.int (Int32.ofNat r)), .val (.int (1 : Int32))]) rfl ?_
  show W K l _ n0 _ h3 0 0 131 #[.val (.ref t), .val (.int (1 : Int32)), .val (.int (7 : Int32)), .val (.int (Int32.ofNat r)), .val (.int (1 : Int32))] []
  refine w_goto ok d9_131 (pc' := 91) (by decide) ?_
  refine w_iload ok d9_91 rfl ?_
  refine w_aloadN ok d9_93 rfl rfl ?_
  refine w_getfield ok (v := (.ref po)) (host := "") (f := ("com/example/hornconv/hornconv/FactTable", "positions", "[Lcom/example/hornconv/hornconv/FactTable$PositionIndex;", (.array (.object "com/example/hornconv/hornconv/FactTable$PositionIndex")))) 6 d9_94 (Or.inl (hw _ (List.mem_of_getElem? (i := 30) rfl))) Via.refl A_t rfl rfl ?_
  refine w_arraylength ok (z := (2 : Int32)) d9_97 A_po rfl (by decide) ?_
  show W K l _ n0 _ h3 0 0 98 #[.val (.ref t), .val (.int (1 : Int32)), .val (.int (7 : Int32)), .val (.int (Int32.ofNat r)), .val (.int (1 : Int32))] [(.int (2 : Int32)), (.int (1 : Int32))]
  refine w_icmp_ge ok d9_98 (pc' := 134) (by decide) (fun hc9 => False.elim (by revert hc9; decide)) (fun hc9 => ?_)
  show W K l _ n0 _ h3 0 0 101 #[.val (.ref t), .val (.int (1 : Int32)), .val (.int (7 : Int32)), .val (.int (Int32.ofNat r)), .val (.int (1 : Int32))] []
  refine w_aloadN ok d9_101 rfl rfl ?_
  refine w_getfield ok (v := (.ref po)) (host := "") (f := ("com/example/hornconv/hornconv/FactTable", "positions", "[Lcom/example/hornconv/hornconv/FactTable$PositionIndex;", (.array (.object "com/example/hornconv/hornconv/FactTable$PositionIndex")))) 6 d9_102 (Or.inl (hw _ (List.mem_of_getElem? (i := 30) rfl))) Via.refl A_t rfl rfl ?_
  refine w_iload ok d9_105 rfl ?_
  refine w_aaload ok (v := .null) d9_107 A_po rfl (by decide) rfl ?_
  refine w_ifnullY ok d9_108 (pc' := 128) (by decide) ?_
  show W K l _ n0 _ h3 0 0 128 #[.val (.ref t), .val (.int (1 : Int32)), .val (.int (7 : Int32)), .val (.int (Int32.ofNat r)), .val (.int (1 : Int32))] []
  refine w_iinc ok d9_128 (u := (1 : Int32)) rfl rfl (L' := #[.val (.ref t), .val (.int (1 : Int32)), .val (.int (7 : Int32)), .val (.int (Int32.ofNat r)), .val (.int (2 : Int32))]) rfl ?_
  show W K l _ n0 _ h3 0 0 131 #[.val (.ref t), .val (.int (1 : Int32)), .val (.int (7 : Int32)), .val (.int (Int32.ofNat r)), .val (.int (2 : Int32))] []
  refine w_goto ok d9_131 (pc' := 91) (by decide) ?_
  refine w_iload ok d9_91 rfl ?_
  refine w_aloadN ok d9_93 rfl rfl ?_
  refine w_getfield ok (v := (.ref po)) (host := "") (f := ("com/example/hornconv/hornconv/FactTable", "positions", "[Lcom/example/hornconv/hornconv/FactTable$PositionIndex;", (.array (.object "com/example/hornconv/hornconv/FactTable$PositionIndex")))) 6 d9_94 (Or.inl (hw _ (List.mem_of_getElem? (i := 30) rfl))) Via.refl A_t rfl rfl ?_
  refine w_arraylength ok (z := (2 : Int32)) d9_97 A_po rfl (by decide) ?_
  show W K l _ n0 _ h3 0 0 98 #[.val (.ref t), .val (.int (1 : Int32)), .val (.int (7 : Int32)), .val (.int (Int32.ofNat r)), .val (.int (2 : Int32))] [(.int (2 : Int32)), (.int (2 : Int32))]
  refine w_icmp_ge ok d9_98 (pc' := 134) (by decide) (fun hc11 => ?_) (fun hc11 => False.elim (by revert hc11; decide))
  show W K l _ n0 _ h3 0 0 134 #[.val (.ref t), .val (.int (1 : Int32)), .val (.int (7 : Int32)), .val (.int (Int32.ofNat r)), .val (.int (2 : Int32))] []
  refine w_ret ok d9_134 (by decide) (by decide) ?_
  exact ⟨rfl, r, hr8, hfr, Kp, A_t, A_de, A_sl⟩
set_option maxRecDepth 65536 in
set_option maxHeartbeats 40000000 in
theorem lp_rm1 (l : Launch) (Z : State) (a0 : Array Value) (hw : ∀ d ∈ tables_1, d.before a0 Z = true) (n0 : Nat) (h0 : Heap) (K : Cx) (ok : Ok K Z n0 "com/example/hornconv/hornconv/FactTable" prog_3_method_8_code 5 none "remove") (t un me ag de sl po : Addr) (rw lv us : Int32) (x0 x1 x2 x3 x4 x5 x6 x7 d0 d1 d2 d3 : Int32) (f : Nat → Int32) (A_t : Ob Z h0 t "com/example/hornconv/hornconv/FactTable" fl_FactTable [(.ref un), (.ref me), (.int (2 : Int32)), (.ref ag), (.ref de), (.ref sl), (.ref po), (.int rw), (.int lv), (.int us)]) (A_ag : PA .int Z h0 ag [(.int x0), (.int x1), (.int x2), (.int x3), (.int x4), (.int x5), (.int x6), (.int x7)]) (A_de : PA .boolean Z h0 de [(.int d0), (.int d1), (.int d2), (.int d3)]) (A_sl : PA .int Z h0 sl (sv 8 f)) (A_po : PA (.object "com/example/hornconv/hornconv/FactTable$PositionIndex") Z h0 po [.null, .null]) (ge_t : n0 ≤ t) (ge_de : n0 ≤ de) (ge_sl : n0 ≤ sl) (ne_t_ag : t ≠ ag) (ne_t_de : t ≠ de) (ne_t_sl : t ≠ sl) (ne_t_po : t ≠ po) (ne_ag_de : ag ≠ de) (ne_ag_sl : ag ≠ sl) (ne_ag_po : ag ≠ po) (ne_de_sl : de ≠ sl) (ne_sl_po : sl ≠ po) (ne_de_po : de ≠ po) (s : Nat) (s4 : Slot) (o4 : One s4) :
    ∀ (c i : Nat), f ((s + (i + c)) % 8) = 1 → W K l ({ frames := 1, cells := 0, slots := 0, locals := 16 } : Room) n0 (fun u h => u = none ∧ ∃ r, r < 8 ∧ f r = 1 ∧ Keep h0 h [t, de, sl] ∧ Ob Z h t "com/example/hornconv/hornconv/FactTable" fl_FactTable [(.ref un), (.ref me), (.int (2 : Int32)), (.ref ag), (.ref de), (.ref sl), (.ref po), (.int rw), (.int (lv - 1)), (.int us)] ∧ PA .boolean Z h de [(.int d0), (.int (1 : Int32)), (.int d2), (.int d3)] ∧ PA .int Z h sl (sv 8 (upd f r (-2)))) h0 0 0 25 #[.val (.ref t), .val (.int (1 : Int32)), .val (.int (7 : Int32)), .val (.int (Int32.ofNat ((s + i) % 8))), s4] [] := by
  intro c
  induction c with
  | zero =>
    intro i hc
    have hc : f ((s + i) % 8) = 1 := hc
    show W K l _ n0 _ h0 0 0 25 #[.val (.ref t), .val (.int (1 : Int32)), .val (.int (7 : Int32)), .val (.int (Int32.ofNat ((s + i) % 8))), s4] []
    refine w_aloadN ok d9_25 rfl rfl ?_
    refine w_getfield ok (v := (.ref sl)) (host := "") (f := ("com/example/hornconv/hornconv/FactTable", "slots", "[I", (.array .int))) 5 d9_26 (Or.inl (hw _ (List.mem_of_getElem? (i := 22) rfl))) Via.refl A_t rfl rfl ?_
    refine w_iloadN ok d9_29 rfl ?_
    refine w_iaload ok (v := (.int (f ((s + i) % 8)))) d9_30 A_sl (own_nn (own_o8 _)) (by rw [own_clamp (own_o8 _)]; exact sv_get (by omega)) ?_
    refine w_iloadN ok d9_31 rfl ?_
    refine w_icmp_eq ok d9_32 (pc' := 44) (by decide) (fun hc1 => ?_) (fun hc1 => False.elim (by exact hc1 hc))
    show W K l _ n0 _ h0 0 0 44 #[.val (.ref t), .val (.int (1 : Int32)), .val (.int (7 : Int32)), .val (.int (Int32.ofNat ((s + i) % 8))), s4] []
    exact c44_1 l Z a0 hw n0 h0 K ok t un me ag de sl po rw lv us x0 x1 x2 x3 x4 x5 x6 x7 d0 d1 d2 d3 f A_t A_ag A_de A_sl A_po ge_t ge_de ge_sl ne_t_ag ne_t_de ne_t_sl ne_t_po ne_ag_de ne_ag_sl ne_ag_po ne_de_sl ne_sl_po ne_de_po ((s + i) % 8) (by omega) hc s4 o4
  | succ c ih =>
    intro i hc
    show W K l _ n0 _ h0 0 0 25 #[.val (.ref t), .val (.int (1 : Int32)), .val (.int (7 : Int32)), .val (.int (Int32.ofNat ((s + i) % 8))), s4] []
    refine w_aloadN ok d9_25 rfl rfl ?_
    refine w_getfield ok (v := (.ref sl)) (host := "") (f := ("com/example/hornconv/hornconv/FactTable", "slots", "[I", (.array .int))) 5 d9_26 (Or.inl (hw _ (List.mem_of_getElem? (i := 22) rfl))) Via.refl A_t rfl rfl ?_
    refine w_iloadN ok d9_29 rfl ?_
    refine w_iaload ok (v := (.int (f ((s + i) % 8)))) d9_30 A_sl (own_nn (own_o8 _)) (by rw [own_clamp (own_o8 _)]; exact sv_get (by omega)) ?_
    refine w_iloadN ok d9_31 rfl ?_
    refine w_icmp_eq ok d9_32 (pc' := 44) (by decide) (fun hc3 => ?_) (fun hc3 => ?_)
    · show W K l _ n0 _ h0 0 0 44 #[.val (.ref t), .val (.int (1 : Int32)), .val (.int (7 : Int32)), .val (.int (Int32.ofNat ((s + i) % 8))), s4] []
      exact c44_1 l Z a0 hw n0 h0 K ok t un me ag de sl po rw lv us x0 x1 x2 x3 x4 x5 x6 x7 d0 d1 d2 d3 f A_t A_ag A_de A_sl A_po ge_t ge_de ge_sl ne_t_ag ne_t_de ne_t_sl ne_t_po ne_ag_de ne_ag_sl ne_ag_po ne_de_sl ne_sl_po ne_de_po ((s + i) % 8) (by omega) hc3 s4 o4
    · show W K l _ n0 _ h0 0 0 35 #[.val (.ref t), .val (.int (1 : Int32)), .val (.int (7 : Int32)), .val (.int (Int32.ofNat ((s + i) % 8))), s4] []
      refine w_iloadN ok d9_35 rfl ?_
      refine w_iconst ok d9_36 (v := (1 : Int32)) rfl ?_
      refine w_iadd ok d9_37 ?_
      refine w_iloadN ok d9_38 rfl ?_
      refine w_iand ok d9_39 ?_
      refine w_istoreN ok d9_40 (L' := #[.val (.ref t), .val (.int (1 : Int32)), .val (.int (7 : Int32)), .val (.int (((Int32.ofNat ((s + i) % 8)) + (1 : Int32)) &&& (7 : Int32))), s4]) rfl ?_
      refine w_goto ok d9_41 (pc' := 25) (by decide) ?_
      show W K l _ n0 _ h0 0 0 25 #[.val (.ref t), .val (.int (1 : Int32)), .val (.int (7 : Int32)), .val (.int (((Int32.ofNat ((s + i) % 8)) + (1 : Int32)) &&& (7 : Int32))), s4] []
      rw [show (Int32.ofNat ((s + i) % 8) + 1) &&& 7 = Int32.ofNat ((s + (i + 1)) % 8) from own_nx (s + i)]
      exact ih (i + 1) (by rw [show s + (i + 1 + c) = s + (i + (c + 1)) by omega]; exact hc)
set_option maxRecDepth 65536 in
set_option maxHeartbeats 40000000 in
theorem rm_rm1 (l : Launch) (Z : State) (a0 : Array Value) (hw : ∀ d ∈ tables_1, d.before a0 Z = true) (ws : List Jvm.Cond) (n0 : Nat) (h0 : Heap) (Z0 : Old Z n0 h0) (t un me ag de sl po : Addr) (rw lv us : Int32) (x0 x1 x2 x3 x4 x5 x6 x7 d0 d1 d2 d3 : Int32) (f : Nat → Int32) (A_t : Ob Z h0 t "com/example/hornconv/hornconv/FactTable" fl_FactTable [(.ref un), (.ref me), (.int (2 : Int32)), (.ref ag), (.ref de), (.ref sl), (.ref po), (.int rw), (.int lv), (.int us)]) (A_ag : PA .int Z h0 ag [(.int x0), (.int x1), (.int x2), (.int x3), (.int x4), (.int x5), (.int x6), (.int x7)]) (A_de : PA .boolean Z h0 de [(.int d0), (.int d1), (.int d2), (.int d3)]) (A_sl : PA .int Z h0 sl (sv 8 f)) (A_po : PA (.object "com/example/hornconv/hornconv/FactTable$PositionIndex") Z h0 po [.null, .null]) (ge_t : n0 ≤ t) (ge_de : n0 ≤ de) (ge_sl : n0 ≤ sl) (ne_t_ag : t ≠ ag) (ne_t_de : t ≠ de) (ne_t_sl : t ≠ sl) (ne_t_po : t ≠ po) (ne_ag_de : ag ≠ de) (ne_ag_sl : ag ≠ sl) (ne_ag_po : ag ≠ po) (ne_de_sl : de ≠ sl) (ne_sl_po : sl ≠ po) (ne_de_po : de ≠ po) (hE : ∃ m, f (((own_hs [x2, x3] &&& 7).toNatClampNeg + m) % 8) = 1)  :
    Met l Z n0 (⟨"com/example/hornconv/hornconv/FactTable", "remove", "(I)V"⟩ : MethodName) prog_3_method_8_code 5 none ws ({ frames := 1, cells := 0, slots := 0, locals := 16 } : Room) #[(.ref t), (.int (1 : Int32))] h0 (fun u h => u = none ∧ ∃ r, r < 8 ∧ f r = 1 ∧ Keep h0 h [t, de, sl] ∧ Ob Z h t "com/example/hornconv/hornconv/FactTable" fl_FactTable [(.ref un), (.ref me), (.int (2 : Int32)), (.ref ag), (.ref de), (.ref sl), (.ref po), (.int rw), (.int (lv - 1)), (.int us)] ∧ PA .boolean Z h de [(.int d0), (.int (1 : Int32)), (.int d2), (.int d3)] ∧ PA .int Z h sl (sv 8 (upd f r (-2)))) := by
  refine met_of Z0 (plainFor_of_name pn_com_example_hornconv_hornconv_FactTable) (Ls := #[.val (.ref t), .val (.int (1 : Int32)), .unset, .unset, .unset]) (fun m => by first | (simp [entryFrame, mkF, argsToLocals, Value.category]; done) | rfl) ?_
  intro K ok
  show W K l _ n0 _ h0 0 0 0 #[.val (.ref t), .val (.int (1 : Int32)), .unset, .unset, .unset] []
  refine w_aloadN ok d9_0 rfl rfl ?_
  refine w_getfield ok (v := (.ref sl)) (host := "") (f := ("com/example/hornconv/hornconv/FactTable", "slots", "[I", (.array .int))) 5 d9_1 (Or.inl (hw _ (List.mem_of_getElem? (i := 22) rfl))) Via.refl A_t rfl rfl ?_
  refine w_arraylength ok (z := (8 : Int32)) d9_4 A_sl (sv_len 8 _) (by decide) ?_
  show W K l _ n0 _ h0 0 0 5 #[.val (.ref t), .val (.int (1 : Int32)), .unset, .unset, .unset] [(.int (8 : Int32))]
  refine w_iconst ok d9_5 (v := (1 : Int32)) rfl ?_
  refine w_isub ok d9_6 ?_
  show W K l _ n0 _ h0 0 0 7 #[.val (.ref t), .val (.int (1 : Int32)), .unset, .unset, .unset] [(.int (7 : Int32))]
  refine w_istoreN ok d9_7 (L' := #[.val (.ref t), .val (.int (1 : Int32)), .val (.int (7 : Int32)), .unset, .unset]) rfl ?_
  refine w_aloadN ok d9_8 rfl rfl ?_
  refine w_aloadN ok d9_9 rfl rfl ?_
  refine w_getfield ok (v := (.ref ag)) (host := "") (f := ("com/example/hornconv/hornconv/FactTable", "arguments", "[I", (.array .int))) 3 d9_10 (Or.inl (hw _ (List.mem_of_getElem? (i := 17) rfl))) Via.refl A_t rfl rfl ?_
  refine w_iloadN ok d9_13 rfl ?_
  refine w_aloadN ok d9_14 rfl rfl ?_
  refine w_getfield ok (v := (.int (2 : Int32))) (host := "") (f := ("com/example/hornconv/hornconv/FactTable", "arity", "I", .int)) 2 d9_15 (Or.inl (hw _ (List.mem_of_getElem? (i := 15) rfl))) Via.refl A_t rfl rfl ?_
  refine w_imul ok d9_18 ?_
  show W K l _ n0 _ h0 0 0 19 #[.val (.ref t), .val (.int (1 : Int32)), .val (.int (7 : Int32)), .unset, .unset] [(.int (2 : Int32)), (.ref ag), (.ref t)]
  refine w_callP ok (y := (⟨"com/example/hornconv/hornconv/FactTable", "hash", "([II)I"⟩ : MethodName)) (a := t) (argsL := [(.ref ag), (.int (2 : Int32))]) (rest := []) d9_19 (hw _ (List.mem_of_getElem? (i := 37) rfl)) (hw _ (List.mem_of_getElem? (i := 38) rfl)) (hw _ (List.mem_of_getElem? (i := 39) rfl)) (hw _ (List.mem_of_getElem? (i := 2) rfl)) (hw _ (List.mem_of_getElem? (i := 3) rfl)) (hw _ (List.mem_of_getElem? (i := 40) rfl)) (by decide) A_t.1 pd_285bII29I rfl rfl (by decide) (Nat.le_of_ble_eq_true rfl) (by decide) (by decide) (fun z0 => rm_h_8_2 l Z a0 hw [] n0 h0 z0 t ag un me ag de sl po rw lv us x0 x1 x2 x3 x4 x5 x6 x7 A_t A_ag) (fun v1 h2 qv1 => ?_)
  obtain ⟨rfl, rfl⟩ := qv1
  show W K l _ n0 _ h0 0 0 22 #[.val (.ref t), .val (.int (1 : Int32)), .val (.int (7 : Int32)), .unset, .unset] [(.int (own_hs [x2, x3]))]
  refine w_iloadN ok d9_22 rfl ?_
  refine w_iand ok d9_23 ?_
  refine w_istoreN ok d9_24 (L' := #[.val (.ref t), .val (.int (1 : Int32)), .val (.int (7 : Int32)), .val (.int ((own_hs [x2, x3]) &&& (7 : Int32))), .unset]) rfl ?_
  show W K l _ n0 _ h0 0 0 25 #[.val (.ref t), .val (.int (1 : Int32)), .val (.int (7 : Int32)), .val (.int ((own_hs [x2, x3]) &&& (7 : Int32))), .unset] []
  obtain ⟨c, hc⟩ := hE
  have e := own_st (own_hs [x2, x3])
  generalize hn : (own_hs [x2, x3] &&& 7).toNatClampNeg = n at hc e ⊢
  rw [e]
  exact lp_rm1 l Z a0 hw n0 h0 K ok t un me ag de sl po rw lv us x0 x1 x2 x3 x4 x5 x6 x7 d0 d1 d2 d3 f A_t A_ag A_de A_sl A_po ge_t ge_de ge_sl ne_t_ag ne_t_de ne_t_sl ne_t_po ne_ag_de ne_ag_sl ne_ag_po ne_de_sl ne_sl_po ne_de_po n _ One.u c 0 (by rw [Nat.zero_add]; exact hc)
def own_live (d : Int32) : Int32 := if d = 0 then 1 else 0
theorem d8_0 : decode prog_3_method_5_code 0 = .ok (.aload_n 0, 1) := by decide +kernel
theorem d8_1 : decode prog_3_method_5_code 1 = .ok (.getfield 24, 3) := by decide +kernel
theorem d8_4 : decode prog_3_method_5_code 4 = .ok (.iload_n 1, 1) := by decide +kernel
theorem d8_5 : decode prog_3_method_5_code 5 = .ok (.baload, 1) := by decide +kernel
theorem d8_6 : decode prog_3_method_5_code 6 = .ok (.ifCond .ne 7, 3) := by decide +kernel
theorem d8_9 : decode prog_3_method_5_code 9 = .ok (.iconst 1, 1) := by decide +kernel
theorem d8_10 : decode prog_3_method_5_code 10 = .ok (.goto 4, 3) := by decide +kernel
theorem d8_13 : decode prog_3_method_5_code 13 = .ok (.iconst 0, 1) := by decide +kernel
theorem d8_14 : decode prog_3_method_5_code 14 = .ok (.ireturn, 1) := by decide +kernel
set_option maxRecDepth 65536 in
set_option maxHeartbeats 40000000 in
theorem rm_live0 (l : Launch) (Z : State) (a0 : Array Value) (hw : ∀ d ∈ tables_1, d.before a0 Z = true) (ws : List Jvm.Cond) (n0 : Nat) (h0 : Heap) (Z0 : Old Z n0 h0) (t un me ag de sl po : Addr) (rw lv us : Int32) (d0 d1 d2 d3 : Int32) (A_t : Ob Z h0 t "com/example/hornconv/hornconv/FactTable" fl_FactTable [(.ref un), (.ref me), (.int (2 : Int32)), (.ref ag), (.ref de), (.ref sl), (.ref po), (.int rw), (.int lv), (.int us)]) (A_de : PA .boolean Z h0 de [(.int d0), (.int d1), (.int d2), (.int d3)])  :
    Met l Z n0 (⟨"com/example/hornconv/hornconv/FactTable", "isLive", "(I)Z"⟩ : MethodName) prog_3_method_5_code 2 (some .boolean) ws ({ frames := 0, cells := 0, slots := 0, locals := 0 } : Room) #[(.ref t), (.int (0 : Int32))] h0 (fun u h => u = some (.int (own_live d0)) ∧ h0 = h) := by
  refine met_of Z0 (plainFor_of_name pn_com_example_hornconv_hornconv_FactTable) (Ls := #[.val (.ref t), .val (.int (0 : Int32))]) (fun m => by first | (simp [entryFrame, mkF, argsToLocals, Value.category]; done) | rfl) ?_
  intro K ok
  show W K l _ n0 _ h0 0 0 0 #[.val (.ref t), .val (.int (0 : Int32))] []
  refine w_aloadN ok d8_0 rfl rfl ?_
  refine w_getfield ok (v := (.ref de)) (host := "") (f := ("com/example/hornconv/hornconv/FactTable", "dead", "[Z", (.array .boolean))) 4 d8_1 (Or.inl (hw _ (List.mem_of_getElem? (i := 20) rfl))) Via.refl A_t rfl rfl ?_
  refine w_iloadN ok d8_4 rfl ?_
  refine w_zaload ok (v := (.int d0)) d8_5 A_de (by decide) rfl ?_
  refine w_if_ne ok d8_6 (pc' := 13) (by decide) (fun hc1 => ?_) (fun hc1 => ?_)
  · show W K l _ n0 _ h0 0 0 13 #[.val (.ref t), .val (.int (0 : Int32))] []
    refine w_iconst ok d8_13 (v := (0 : Int32)) rfl ?_
    refine w_bret ok (by simp) d8_14 (by decide) (by decide) ?_
    exact ⟨by simp only [own_live, hc1, if_true, if_false] <;> rfl, rfl⟩
  · show W K l _ n0 _ h0 0 0 9 #[.val (.ref t), .val (.int (0 : Int32))] []
    refine w_iconst ok d8_9 (v := (1 : Int32)) rfl ?_
    refine w_goto ok d8_10 (pc' := 14) (by decide) ?_
    refine w_bret ok (by simp) d8_14 (by decide) (by decide) ?_
    exact ⟨by simp only [own_live, hc1, if_true, if_false] <;> rfl, rfl⟩
set_option maxRecDepth 65536 in
set_option maxHeartbeats 40000000 in
theorem rm_live1 (l : Launch) (Z : State) (a0 : Array Value) (hw : ∀ d ∈ tables_1, d.before a0 Z = true) (ws : List Jvm.Cond) (n0 : Nat) (h0 : Heap) (Z0 : Old Z n0 h0) (t un me ag de sl po : Addr) (rw lv us : Int32) (d0 d1 d2 d3 : Int32) (A_t : Ob Z h0 t "com/example/hornconv/hornconv/FactTable" fl_FactTable [(.ref un), (.ref me), (.int (2 : Int32)), (.ref ag), (.ref de), (.ref sl), (.ref po), (.int rw), (.int lv), (.int us)]) (A_de : PA .boolean Z h0 de [(.int d0), (.int d1), (.int d2), (.int d3)])  :
    Met l Z n0 (⟨"com/example/hornconv/hornconv/FactTable", "isLive", "(I)Z"⟩ : MethodName) prog_3_method_5_code 2 (some .boolean) ws ({ frames := 0, cells := 0, slots := 0, locals := 0 } : Room) #[(.ref t), (.int (1 : Int32))] h0 (fun u h => u = some (.int (own_live d1)) ∧ h0 = h) := by
  refine met_of Z0 (plainFor_of_name pn_com_example_hornconv_hornconv_FactTable) (Ls := #[.val (.ref t), .val (.int (1 : Int32))]) (fun m => by first | (simp [entryFrame, mkF, argsToLocals, Value.category]; done) | rfl) ?_
  intro K ok
  show W K l _ n0 _ h0 0 0 0 #[.val (.ref t), .val (.int (1 : Int32))] []
  refine w_aloadN ok d8_0 rfl rfl ?_
  refine w_getfield ok (v := (.ref de)) (host := "") (f := ("com/example/hornconv/hornconv/FactTable", "dead", "[Z", (.array .boolean))) 4 d8_1 (Or.inl (hw _ (List.mem_of_getElem? (i := 20) rfl))) Via.refl A_t rfl rfl ?_
  refine w_iloadN ok d8_4 rfl ?_
  refine w_zaload ok (v := (.int d1)) d8_5 A_de (by decide) rfl ?_
  refine w_if_ne ok d8_6 (pc' := 13) (by decide) (fun hc1 => ?_) (fun hc1 => ?_)
  · show W K l _ n0 _ h0 0 0 13 #[.val (.ref t), .val (.int (1 : Int32))] []
    refine w_iconst ok d8_13 (v := (0 : Int32)) rfl ?_
    refine w_bret ok (by simp) d8_14 (by decide) (by decide) ?_
    exact ⟨by simp only [own_live, hc1, if_true, if_false] <;> rfl, rfl⟩
  · show W K l _ n0 _ h0 0 0 9 #[.val (.ref t), .val (.int (1 : Int32))] []
    refine w_iconst ok d8_9 (v := (1 : Int32)) rfl ?_
    refine w_goto ok d8_10 (pc' := 14) (by decide) ?_
    refine w_bret ok (by simp) d8_14 (by decide) (by decide) ?_
    exact ⟨by simp only [own_live, hc1, if_true, if_false] <;> rfl, rfl⟩
set_option maxRecDepth 65536 in
set_option maxHeartbeats 40000000 in
theorem rm_live2 (l : Launch) (Z : State) (a0 : Array Value) (hw : ∀ d ∈ tables_1, d.before a0 Z = true) (ws : List Jvm.Cond) (n0 : Nat) (h0 : Heap) (Z0 : Old Z n0 h0) (t un me ag de sl po : Addr) (rw lv us : Int32) (d0 d1 d2 d3 : Int32) (A_t : Ob Z h0 t "com/example/hornconv/hornconv/FactTable" fl_FactTable [(.ref un), (.ref me), (.int (2 : Int32)), (.ref ag), (.ref de), (.ref sl), (.ref po), (.int rw), (.int lv), (.int us)]) (A_de : PA .boolean Z h0 de [(.int d0), (.int d1), (.int d2), (.int d3)])  :
    Met l Z n0 (⟨"com/example/hornconv/hornconv/FactTable", "isLive", "(I)Z"⟩ : MethodName) prog_3_method_5_code 2 (some .boolean) ws ({ frames := 0, cells := 0, slots := 0, locals := 0 } : Room) #[(.ref t), (.int (2 : Int32))] h0 (fun u h => u = some (.int (own_live d2)) ∧ h0 = h) := by
  refine met_of Z0 (plainFor_of_name pn_com_example_hornconv_hornconv_FactTable) (Ls := #[.val (.ref t), .val (.int (2 : Int32))]) (fun m => by first | (simp [entryFrame, mkF, argsToLocals, Value.category]; done) | rfl) ?_
  intro K ok
  show W K l _ n0 _ h0 0 0 0 #[.val (.ref t), .val (.int (2 : Int32))] []
  refine w_aloadN ok d8_0 rfl rfl ?_
  refine w_getfield ok (v := (.ref de)) (host := "") (f := ("com/example/hornconv/hornconv/FactTable", "dead", "[Z", (.array .boolean))) 4 d8_1 (Or.inl (hw _ (List.mem_of_getElem? (i := 20) rfl))) Via.refl A_t rfl rfl ?_
  refine w_iloadN ok d8_4 rfl ?_
  refine w_zaload ok (v := (.int d2)) d8_5 A_de (by decide) rfl ?_
  refine w_if_ne ok d8_6 (pc' := 13) (by decide) (fun hc1 => ?_) (fun hc1 => ?_)
  · show W K l _ n0 _ h0 0 0 13 #[.val (.ref t), .val (.int (2 : Int32))] []
    refine w_iconst ok d8_13 (v := (0 : Int32)) rfl ?_
    refine w_bret ok (by simp) d8_14 (by decide) (by decide) ?_
    exact ⟨by simp only [own_live, hc1, if_true, if_false] <;> rfl, rfl⟩
  · show W K l _ n0 _ h0 0 0 9 #[.val (.ref t), .val (.int (2 : Int32))] []
    refine w_iconst ok d8_9 (v := (1 : Int32)) rfl ?_
    refine w_goto ok d8_10 (pc' := 14) (by decide) ?_
    refine w_bret ok (by simp) d8_14 (by decide) (by decide) ?_
    exact ⟨by simp only [own_live, hc1, if_true, if_false] <;> rfl, rfl⟩
abbrev f00 : Nat → Int32 := fun _ => (-1 : Int32)
theorem own_rw0 : Rw f00 := fun _ _ => Or.inl rfl
theorem own_rwu {f : Nat → Int32} {r : Nat} {v : Int32} (h : Rw f) (hv : v = -1 ∨ v = -2 ∨ v = 0 ∨ v = 1 ∨ v = 2) : Rw (upd f r v) := fun j hj => by
  by_cases e : j = r
  · rw [e, upd_same]; exact hv
  · rw [upd_ne e]; exact h j hj
theorem own_first {E : Nat → Prop} {s r : Nat} (hF : f00 r < 0 ∧ ∃ m i, f00 ((s + m) % 8) = -1 ∧ (∀ j, j < m → f00 ((s + j) % 8) ≠ -1 ∧ ¬ (¬ f00 ((s + j) % 8) < 0 ∧ E (f00 ((s + j) % 8)).toNatClampNeg)) ∧ i ≤ m ∧ r = (s + i) % 8) : r = (s + 0) % 8 := by
  obtain ⟨-, m, i, -, hb, hi, hr⟩ := hF
  have hm : m = 0 := by
    rcases Nat.eq_zero_or_pos m with h | h
    · exact h
    · exact absurd rfl (hb 0 h).1
  have : i = 0 := by omega
  rw [hr, this]
theorem own_at {f : Nat → Int32} {E : Nat → Prop} {s r : Nat} (hF : f r < 0 ∧ ∃ m i, f ((s + m) % 8) = -1 ∧ (∀ j, j < m → f ((s + j) % 8) ≠ -1 ∧ ¬ (¬ f ((s + j) % 8) < 0 ∧ E (f ((s + j) % 8)).toNatClampNeg)) ∧ i ≤ m ∧ r = (s + i) % 8) : ∃ i, r = (s + i) % 8 := by
  obtain ⟨-, m, i, -, -, -, hr⟩ := hF
  exact ⟨i, hr⟩
theorem own_hit {f : Nat → Int32} {E : Nat → Prop} {s r : Nat} (hF : f r < 0 ∧ ∃ m i, f ((s + m) % 8) = -1 ∧ (∀ j, j < m → f ((s + j) % 8) ≠ -1 ∧ ¬ (¬ f ((s + j) % 8) < 0 ∧ E (f ((s + j) % 8)).toNatClampNeg)) ∧ i ≤ m ∧ r = (s + i) % 8) (h : f ((s + 0) % 8) = 0) (e : E 0) : False := by
  obtain ⟨-, m, i, hm, hb, -, -⟩ := hF
  rcases Nat.eq_zero_or_pos m with q | q
  · rw [q, h] at hm; exact absurd hm (by decide)
  · refine (hb 0 q).2 ⟨by rw [h]; decide, ?_⟩
    rw [h]; exact e
theorem own_eqk {n : Nat} {as vs : List Int32} {k : Nat} (h : own_eqr n as vs k = 1) : (as.drop (k * n)).take n = vs := by
  unfold own_eqr at h; split at h
  · assumption
  · exact absurd h (by decide)
theorem own_eqk' {n : Nat} {as vs : List Int32} {k : Nat} (h : (as.drop (k * n)).take n = vs) : own_eqr n as vs k = 1 := if_pos h
theorem own_noneg {z : Int32} (h : z < 0) (h1 : ¬ z < 0) : False := h1 h
theorem own_one {z a b c d : Int32} (ns : ¬ (a = c ∧ b = d)) (h1 : ¬ z < 0) (h2 : own_eqr 2 [a, b, c, d, 0, 0, 0, 0] [a, b] z.toNatClampNeg = 1) (h : z = 1 ∨ z = -1 ∨ z = -2) : False := by
  rcases h with rfl | rfl | rfl
  · have := own_eqk h2
    have e : [c, d] = [a, b] := this
    simp only [List.cons.injEq, and_true] at e
    exact ns ⟨e.1.symm, e.2.symm⟩
  · exact h1 (by decide)
  · exact h1 (by decide)
theorem own_sA {r0 ra : Nat} {a b c d : Int32} (h1 : ¬ upd f00 r0 0 ra < 0) (h2 : own_eqr 2 [a, b, 0, 0, 0, 0, 0, 0] [c, d] (upd f00 r0 0 ra).toNatClampNeg = 1) : a = c ∧ b = d := by
  by_cases e : ra = r0
  · rw [e, upd_same] at h2
    have := own_eqk h2
    have e2 : [a, b] = [c, d] := this
    simpa using e2
  · rw [upd_ne e] at h1; exact absurd (show (-1 : Int32) < 0 by decide) h1
theorem pn_com_example_hornconv_hornconv_FactTableIsLivePinLaw : plainName "com/example/hornconv/hornconv/FactTableIsLivePinLaw" = true := by first | (simp [plainName, overriddenIn]; done) | decide +kernel
theorem pd_28I29V : parseMethodDescriptor "(I)V" = some ⟨[.int], none⟩ := by decide +kernel
theorem pd_285bI29I : parseMethodDescriptor "([I)I" = some ⟨[(.array .int)], some .int⟩ := by decide +kernel
theorem pd_28I29Z : parseMethodDescriptor "(I)Z" = some ⟨[.int], some .boolean⟩ := by decide +kernel
set_option maxRecDepth 65536 in
set_option maxHeartbeats 40000000 in
theorem rm0 (l : Launch) (Z : State) (a0 : Array Value) (hw : ∀ d ∈ tables_1, d.before a0 Z = true) (ws : List Jvm.Cond) (n0 : Nat) (h0 : Heap) (Z0 : Old Z n0 h0) (a b c d fl : Int32)  :
    Met l Z n0 x code maxLocals ret ws room_1 #[(.int a), (.int b), (.int c), (.int d), (.int fl)] h0 (fun u h => u = some (.int 1)) := by
  refine met_of Z0 (plainFor_of_name pn_com_example_hornconv_hornconv_FactTableIsLivePinLaw) (Ls := #[.val (.int a), .val (.int b), .val (.int c), .val (.int d), .val (.int fl), .unset, .unset, .unset, .unset, .unset, .unset, .unset, .unset, .unset, .unset, .unset, .unset, .unset, .unset]) (fun m => by first | (simp [entryFrame, mkF, argsToLocals, Value.category, maxLocals]; done) | rfl) ?_
  intro K ok
  show W K l _ n0 _ h0 0 0 0 #[.val (.int a), .val (.int b), .val (.int c), .val (.int d), .val (.int fl), .unset, .unset, .unset, .unset, .unset, .unset, .unset, .unset, .unset, .unset, .unset, .unset, .unset, .unset] []
  refine w_iload ok at_0 rfl ?_
  refine w_iconst ok at_2 (v := (1 : Int32)) rfl ?_
  refine w_iand ok at_3 ?_
  refine w_if_eq ok at_4 (pc' := 11) (by decide) (fun hc1 => ?_) (fun hc1 => ?_)
  · show W K l _ n0 _ h0 0 0 11 #[.val (.int a), .val (.int b), .val (.int c), .val (.int d), .val (.int fl), .unset, .unset, .unset, .unset, .unset, .unset, .unset, .unset, .unset, .unset, .unset, .unset, .unset, .unset] []
    refine w_iconst ok at_11 (v := (0 : Int32)) rfl ?_
    refine w_istore ok at_12 (L' := #[.val (.int a), .val (.int b), .val (.int c), .val (.int d), .val (.int fl), .val (.int (0 : Int32)), .unset, .unset, .unset, .unset, .unset, .unset, .unset, .unset, .unset, .unset, .unset, .unset, .unset]) rfl ?_
    refine w_iload ok at_14 rfl ?_
    refine w_iconst ok at_16 (v := (2 : Int32)) rfl ?_
    refine w_iand ok at_17 ?_
    refine w_if_eq ok at_18 (pc' := 25) (by decide) (fun hc3 => ?_) (fun hc3 => ?_)
    · show W K l _ n0 _ h0 0 0 25 #[.val (.int a), .val (.int b), .val (.int c), .val (.int d), .val (.int fl), .val (.int (0 : Int32)), .unset, .unset, .unset, .unset, .unset, .unset, .unset, .unset, .unset, .unset, .unset, .unset, .unset] []
      refine w_iconst ok at_25 (v := (0 : Int32)) rfl ?_
      refine w_istore ok at_26 (L' := #[.val (.int a), .val (.int b), .val (.int c), .val (.int d), .val (.int fl), .val (.int (0 : Int32)), .val (.int (0 : Int32)), .unset, .unset, .unset, .unset, .unset, .unset, .unset, .unset, .unset, .unset, .unset, .unset]) rfl ?_
      refine w_iconst ok at_28 (v := (2 : Int32)) rfl ?_
      refine w_newarray ok at_29 (hw _ (List.mem_of_getElem? (i := 0) rfl)) (by decide) (cap := 2) (by decide) (by decide) (by decide) (by decide) (fun h5 b4 ea_b4 ge_b4 E_b4 A_b4 => ?_)
      replace A_b4 : PA .int Z h5 b4 [(.int (0 : Int32)), (.int (0 : Int32))] := A_b4
      refine w_dup ok at_31 rfl ?_
      refine w_iconst ok at_32 (v := (0 : Int32)) rfl ?_
      refine w_iloadN ok at_33 rfl ?_
      refine w_iastore ok at_34 A_b4 ge_b4 (by decide) (Nat.le_of_ble_eq_true rfl) (fun h6 W_h6 A1_h6 => ?_)
      replace A_b4 : PA .int Z h6 b4 [(.int a), (.int (0 : Int32))] := A1_h6
      refine w_dup ok at_35 rfl ?_
      refine w_iconst ok at_36 (v := (1 : Int32)) rfl ?_
      refine w_iloadN ok at_37 rfl ?_
      refine w_iastore ok at_38 A_b4 ge_b4 (by decide) (Nat.le_of_ble_eq_true rfl) (fun h7 W_h7 A1_h7 => ?_)
      replace A_b4 : PA .int Z h7 b4 [(.int a), (.int b)] := A1_h7
      refine w_astore ok at_39 rfl (L' := #[.val (.int a), .val (.int b), .val (.int c), .val (.int d), .val (.int fl), .val (.int (0 : Int32)), .val (.int (0 : Int32)), .val (.ref b4), .unset, .unset, .unset, .unset, .unset, .unset, .unset, .unset, .unset, .unset, .unset]) rfl ?_
      refine w_iconst ok at_41 (v := (2 : Int32)) rfl ?_
      refine w_newarray ok at_42 (hw _ (List.mem_of_getElem? (i := 0) rfl)) (by decide) (cap := 2) (by decide) (by decide) (by decide) (by decide) (fun h9 b8 ea_b8 ge_b8 E_b8 A_b8 => ?_)
      have ne_b4_b8 : b4 ≠ b8 := fun q => Nat.lt_irrefl _ (Nat.lt_of_lt_of_eq A_b4.lt (ea_b8.symm.trans q.symm))
      replace A_b4 := A_b4.ext E_b8
      replace A_b8 : PA .int Z h9 b8 [(.int (0 : Int32)), (.int (0 : Int32))] := A_b8
      refine w_dup ok at_44 rfl ?_
      refine w_iconst ok at_45 (v := (0 : Int32)) rfl ?_
      refine w_iloadN ok at_46 rfl ?_
      refine w_iastore ok at_47 A_b8 ge_b8 (by decide) (Nat.le_of_ble_eq_true rfl) (fun h10 W_h10 A1_h10 => ?_)
      replace A_b4 := A_b4.other W_h10 ne_b4_b8
      replace A_b8 : PA .int Z h10 b8 [(.int c), (.int (0 : Int32))] := A1_h10
      refine w_dup ok at_48 rfl ?_
      refine w_iconst ok at_49 (v := (1 : Int32)) rfl ?_
      refine w_iloadN ok at_50 rfl ?_
      refine w_iastore ok at_51 A_b8 ge_b8 (by decide) (Nat.le_of_ble_eq_true rfl) (fun h11 W_h11 A1_h11 => ?_)
      replace A_b4 := A_b4.other W_h11 ne_b4_b8
      replace A_b8 : PA .int Z h11 b8 [(.int c), (.int d)] := A1_h11
      refine w_astore ok at_52 rfl (L' := #[.val (.int a), .val (.int b), .val (.int c), .val (.int d), .val (.int fl), .val (.int (0 : Int32)), .val (.int (0 : Int32)), .val (.ref b4), .val (.ref b8), .unset, .unset, .unset, .unset, .unset, .unset, .unset, .unset, .unset, .unset]) rfl ?_
      refine w_iconst ok at_54 (v := (2 : Int32)) rfl ?_
      refine w_newarray ok at_55 (hw _ (List.mem_of_getElem? (i := 0) rfl)) (by decide) (cap := 2) (by decide) (by decide) (by decide) (by decide) (fun h13 b12 ea_b12 ge_b12 E_b12 A_b12 => ?_)
      have ne_b4_b12 : b4 ≠ b12 := fun q => Nat.lt_irrefl _ (Nat.lt_of_lt_of_eq A_b4.lt (ea_b12.symm.trans q.symm))
      have ne_b8_b12 : b8 ≠ b12 := fun q => Nat.lt_irrefl _ (Nat.lt_of_lt_of_eq A_b8.lt (ea_b12.symm.trans q.symm))
      replace A_b4 := A_b4.ext E_b12
      replace A_b8 := A_b8.ext E_b12
      replace A_b12 : PA .int Z h13 b12 [(.int (0 : Int32)), (.int (0 : Int32))] := A_b12
      refine w_dup ok at_57 rfl ?_
      refine w_iconst ok at_58 (v := (0 : Int32)) rfl ?_
      refine w_iloadN ok at_59 rfl ?_
      refine w_iastore ok at_60 A_b12 ge_b12 (by decide) (Nat.le_of_ble_eq_true rfl) (fun h14 W_h14 A1_h14 => ?_)
      replace A_b4 := A_b4.other W_h14 ne_b4_b12
      replace A_b8 := A_b8.other W_h14 ne_b8_b12
      replace A_b12 : PA .int Z h14 b12 [(.int a), (.int (0 : Int32))] := A1_h14
      refine w_dup ok at_61 rfl ?_
      refine w_iconst ok at_62 (v := (1 : Int32)) rfl ?_
      refine w_iloadN ok at_63 rfl ?_
      refine w_iastore ok at_64 A_b12 ge_b12 (by decide) (Nat.le_of_ble_eq_true rfl) (fun h15 W_h15 A1_h15 => ?_)
      replace A_b4 := A_b4.other W_h15 ne_b4_b12
      replace A_b8 := A_b8.other W_h15 ne_b8_b12
      replace A_b12 : PA .int Z h15 b12 [(.int a), (.int b)] := A1_h15
      refine w_astore ok at_65 rfl (L' := #[.val (.int a), .val (.int b), .val (.int c), .val (.int d), .val (.int fl), .val (.int (0 : Int32)), .val (.int (0 : Int32)), .val (.ref b4), .val (.ref b8), .val (.ref b12), .unset, .unset, .unset, .unset, .unset, .unset, .unset, .unset, .unset]) rfl ?_
      refine w_new ok at_67 (hw _ (List.mem_of_getElem? (i := 1) rfl)) (hw _ (List.mem_of_getElem? (i := 2) rfl)) (hw _ (List.mem_of_getElem? (i := 3) rfl)) (la_FactTable hw) (by decide) (by decide) (fun h17 b16 ea_b16 ge_b16 E_b16 A_b16 => ?_)
      have ne_b4_b16 : b4 ≠ b16 := fun q => Nat.lt_irrefl _ (Nat.lt_of_lt_of_eq A_b4.lt (ea_b16.symm.trans q.symm))
      have ne_b8_b16 : b8 ≠ b16 := fun q => Nat.lt_irrefl _ (Nat.lt_of_lt_of_eq A_b8.lt (ea_b16.symm.trans q.symm))
      have ne_b12_b16 : b12 ≠ b16 := fun q => Nat.lt_irrefl _ (Nat.lt_of_lt_of_eq A_b12.lt (ea_b16.symm.trans q.symm))
      replace A_b4 := A_b4.ext E_b16
      replace A_b8 := A_b8.ext E_b16
      replace A_b12 := A_b12.ext E_b16
      replace A_b16 : Ob Z h17 b16 "com/example/hornconv/hornconv/FactTable" fl_FactTable [.null, .null, (.int (0 : Int32)), .null, .null, .null, .null, (.int (0 : Int32)), (.int (0 : Int32)), (.int (0 : Int32))] := A_b16
      refine w_dup ok at_70 rfl ?_
      refine w_iconst ok at_71 (v := (2 : Int32)) rfl ?_
      refine w_callI ok (y := (⟨"com/example/hornconv/hornconv/FactTable", "<init>", "(I)V"⟩ : MethodName)) (a := b16) (argsL := [(.int (2 : Int32))]) (rest := [(.ref b16)]) at_72 rfl (hw _ (List.mem_of_getElem? (i := 4) rfl)) (hw _ (List.mem_of_getElem? (i := 5) rfl)) (hw _ (List.mem_of_getElem? (i := 3) rfl)) (hw _ (List.mem_of_getElem? (i := 6) rfl)) (by decide) pd_28I29V rfl rfl (by decide) (Nat.le_of_ble_eq_true rfl) (by decide) (by decide) (fun z0 => rm_ctor l Z a0 hw [] n0 h17 z0 b16 A_b16 ge_b16) (fun v18 h19 qv18 => ?_)
      obtain ⟨rfl, un, me, ag, de, sl, po, ⟨z1, z2, z3, z4⟩, ⟨g1, g2, g3, g4⟩, ⟨nn0, nn1, nn2, nn3, nn4, nn5, nn6, nn7, nn8, nn9⟩, K1, A1, A_ag, A_de, A_sl, A_po⟩ := qv18
      have ne_b4_ag : b4 ≠ ag := Nat.ne_of_lt (Nat.lt_of_lt_of_le A_b4.lt z1)
      have ne_b8_ag : b8 ≠ ag := Nat.ne_of_lt (Nat.lt_of_lt_of_le A_b8.lt z1)
      have ne_b12_ag : b12 ≠ ag := Nat.ne_of_lt (Nat.lt_of_lt_of_le A_b12.lt z1)
      have ne_b16_ag : b16 ≠ ag := Nat.ne_of_lt (Nat.lt_of_lt_of_le A_b16.lt z1)
      have ne_b4_de : b4 ≠ de := Nat.ne_of_lt (Nat.lt_of_lt_of_le A_b4.lt z2)
      have ne_b8_de : b8 ≠ de := Nat.ne_of_lt (Nat.lt_of_lt_of_le A_b8.lt z2)
      have ne_b12_de : b12 ≠ de := Nat.ne_of_lt (Nat.lt_of_lt_of_le A_b12.lt z2)
      have ne_b16_de : b16 ≠ de := Nat.ne_of_lt (Nat.lt_of_lt_of_le A_b16.lt z2)
      have ne_b4_sl : b4 ≠ sl := Nat.ne_of_lt (Nat.lt_of_lt_of_le A_b4.lt z3)
      have ne_b8_sl : b8 ≠ sl := Nat.ne_of_lt (Nat.lt_of_lt_of_le A_b8.lt z3)
      have ne_b12_sl : b12 ≠ sl := Nat.ne_of_lt (Nat.lt_of_lt_of_le A_b12.lt z3)
      have ne_b16_sl : b16 ≠ sl := Nat.ne_of_lt (Nat.lt_of_lt_of_le A_b16.lt z3)
      have ne_b4_po : b4 ≠ po := Nat.ne_of_lt (Nat.lt_of_lt_of_le A_b4.lt z4)
      have ne_b8_po : b8 ≠ po := Nat.ne_of_lt (Nat.lt_of_lt_of_le A_b8.lt z4)
      have ne_b12_po : b12 ≠ po := Nat.ne_of_lt (Nat.lt_of_lt_of_le A_b12.lt z4)
      have ne_b16_po : b16 ≠ po := Nat.ne_of_lt (Nat.lt_of_lt_of_le A_b16.lt z4)
      replace A_b4 := A_b4.keep K1 (ninS ne_b4_b16 nin0)
      replace A_b8 := A_b8.keep K1 (ninS ne_b8_b16 nin0)
      replace A_b12 := A_b12.keep K1 (ninS ne_b12_b16 nin0)
      replace A_b16 := A1
      show W K l _ n0 _ h19 10 39 75 #[.val (.int a), .val (.int b), .val (.int c), .val (.int d), .val (.int fl), .val (.int (0 : Int32)), .val (.int (0 : Int32)), .val (.ref b4), .val (.ref b8), .val (.ref b12), .unset, .unset, .unset, .unset, .unset, .unset, .unset, .unset, .unset] [(.ref b16)]
      refine w_astore ok at_75 rfl (L' := #[.val (.int a), .val (.int b), .val (.int c), .val (.int d), .val (.int fl), .val (.int (0 : Int32)), .val (.int (0 : Int32)), .val (.ref b4), .val (.ref b8), .val (.ref b12), .val (.ref b16), .unset, .unset, .unset, .unset, .unset, .unset, .unset, .unset]) rfl ?_
      refine w_aload ok at_77 rfl rfl ?_
      refine w_aload ok at_79 rfl rfl ?_
      refine w_callV ok (y := (⟨"com/example/hornconv/hornconv/FactTable", "add", "([I)I"⟩ : MethodName)) (a := b16) (argsL := [(.ref b4)]) (rest := []) at_81 (hw _ (List.mem_of_getElem? (i := 32) rfl)) (hw _ (List.mem_of_getElem? (i := 33) rfl)) (hw _ (List.mem_of_getElem? (i := 35) rfl)) (hw _ (List.mem_of_getElem? (i := 34) rfl)) (hw _ (List.mem_of_getElem? (i := 3) rfl)) (hw _ (List.mem_of_getElem? (i := 36) rfl)) (by decide) A_b16.1 pd_285bI29I rfl rfl (by decide) (Nat.le_of_ble_eq_true rfl) (by decide) (by decide) (fun z0 => rm_add0 l Z a0 hw [] n0 h19 z0 b16 b4 un me ag de sl po (0 : Int32) (0 : Int32) (0 : Int32) (0 : Int32) (0 : Int32) (0 : Int32) (0 : Int32) (0 : Int32) (0 : Int32) (0 : Int32) (0 : Int32) (0 : Int32) (0 : Int32) (0 : Int32) a b f00 A_b16 A_ag A_de A_sl A_po A_b4 ge_b16 g1 g3 nn0 nn1 nn2 nn3 (Ne.symm ne_b4_b16) nn4 nn5 nn6 (Ne.symm ne_b4_ag) nn7 nn9 (Ne.symm ne_b4_sl) own_rw0 (own_free 8 8 (fun _ _ _ _ => rfl)) (by decide)) (fun v20 h21 qv20 => ?_)
      rcases qv20 with qv20 | qv20
      · obtain ⟨-, -, r, -, h1, -⟩ := qv20; exact absurd (show (-1 : Int32) < 0 by decide) h1
      · skip
        obtain ⟨rfl, r0, u0, h8_r0, hF_r0, hu_r0, K1, A1, A2, A3⟩ := qv20
        replace A_b4 := A_b4.keep K1 (ninS ne_b4_b16 (ninS ne_b4_ag (ninS ne_b4_sl nin0)))
        replace A_b8 := A_b8.keep K1 (ninS ne_b8_b16 (ninS ne_b8_ag (ninS ne_b8_sl nin0)))
        replace A_b12 := A_b12.keep K1 (ninS ne_b12_b16 (ninS ne_b12_ag (ninS ne_b12_sl nin0)))
        replace A_de := A_de.keep K1 (ninS (Ne.symm nn1) (ninS (Ne.symm nn4) (ninS nn7 nin0)))
        replace A_po := A_po.keep K1 (ninS (Ne.symm nn3) (ninS (Ne.symm nn6) (ninS (Ne.symm nn9) nin0)))
        replace A_b16 := A1
        replace A_ag := A2
        replace A_sl := A3
        have hus_u0 : 0 ≤ u0.toInt ∧ u0.toInt ≤ 1 := by have q := hu_r0; have z : (0 : Int32).toInt = 0 := rfl; omega
        have hr0 := own_first (E := fun k => own_eqr 2 [(0 : Int32), (0 : Int32), (0 : Int32), (0 : Int32), (0 : Int32), (0 : Int32), (0 : Int32), (0 : Int32)] [a, b] k = 1) hF_r0
        have hRn22 : Rw (upd f00 r0 0) := own_rwu own_rw0 (by decide)
        have hNn22 := own_free (f := (upd f00 r0 0)) r0 r0 (fun j _ h0 h1 => by simp [upd, h0, h1])
        show W K l _ n0 _ h21 10 39 84 #[.val (.int a), .val (.int b), .val (.int c), .val (.int d), .val (.int fl), .val (.int (0 : Int32)), .val (.int (0 : Int32)), .val (.ref b4), .val (.ref b8), .val (.ref b12), .val (.ref b16), .unset, .unset, .unset, .unset, .unset, .unset, .unset, .unset] [(.int (0 : Int32))]
        refine w_istore ok at_84 (L' := #[.val (.int a), .val (.int b), .val (.int c), .val (.int d), .val (.int fl), .val (.int (0 : Int32)), .val (.int (0 : Int32)), .val (.ref b4), .val (.ref b8), .val (.ref b12), .val (.ref b16), .val (.int (0 : Int32)), .unset, .unset, .unset, .unset, .unset, .unset, .unset]) rfl ?_
        refine w_aload ok at_86 rfl rfl ?_
        refine w_aload ok at_88 rfl rfl ?_
        refine w_callV ok (y := (⟨"com/example/hornconv/hornconv/FactTable", "add", "([I)I"⟩ : MethodName)) (a := b16) (argsL := [(.ref b8)]) (rest := []) at_90 (hw _ (List.mem_of_getElem? (i := 32) rfl)) (hw _ (List.mem_of_getElem? (i := 33) rfl)) (hw _ (List.mem_of_getElem? (i := 35) rfl)) (hw _ (List.mem_of_getElem? (i := 34) rfl)) (hw _ (List.mem_of_getElem? (i := 3) rfl)) (hw _ (List.mem_of_getElem? (i := 36) rfl)) (by decide) A_b16.1 pd_285bI29I rfl rfl (by decide) (Nat.le_of_ble_eq_true rfl) (by decide) (by decide) (fun z0 => rm_add1 l Z a0 hw [] n0 h21 z0 b16 b8 un me ag de sl po ((0 : Int32) + 1) u0 a b (0 : Int32) (0 : Int32) (0 : Int32) (0 : Int32) (0 : Int32) (0 : Int32) (0 : Int32) (0 : Int32) (0 : Int32) (0 : Int32) c d (upd f00 r0 0) A_b16 A_ag A_de A_sl A_po A_b8 ge_b16 g1 g3 nn0 nn1 nn2 nn3 (Ne.symm ne_b8_b16) nn4 nn5 nn6 (Ne.symm ne_b8_ag) nn7 nn9 (Ne.symm ne_b8_sl) hRn22 hNn22 (by omega)) (fun v23 h24 qv23 => ?_)
        rcases qv23 with qv23 | qv23
        · skip
          obtain ⟨rfl, rfl, ra1, hA8_1, hA1_1, hA2_1⟩ := qv23
          obtain ⟨s1, s2⟩ := own_sA hA1_1 hA2_1
          show W K l _ n0 _ h21 10 39 93 #[.val (.int a), .val (.int b), .val (.int c), .val (.int d), .val (.int fl), .val (.int (0 : Int32)), .val (.int (0 : Int32)), .val (.ref b4), .val (.ref b8), .val (.ref b12), .val (.ref b16), .val (.int (0 : Int32)), .unset, .unset, .unset, .unset, .unset, .unset, .unset] [(.int (-1 : Int32))]
          refine w_istore ok at_93 (L' := #[.val (.int a), .val (.int b), .val (.int c), .val (.int d), .val (.int fl), .val (.int (0 : Int32)), .val (.int (0 : Int32)), .val (.ref b4), .val (.ref b8), .val (.ref b12), .val (.ref b16), .val (.int (0 : Int32)), .val (.int (-1 : Int32)), .unset, .unset, .unset, .unset, .unset, .unset]) rfl ?_
          refine w_iloadN ok at_95 rfl ?_
          refine w_iloadN ok at_96 rfl ?_
          refine w_icmp_ne ok at_97 (pc' := 109) (by decide) (fun hc26 => False.elim (by exact hc26 s1)) (fun hc26 => ?_)
          show W K l _ n0 _ h21 10 39 100 #[.val (.int a), .val (.int b), .val (.int c), .val (.int d), .val (.int fl), .val (.int (0 : Int32)), .val (.int (0 : Int32)), .val (.ref b4), .val (.ref b8), .val (.ref b12), .val (.ref b16), .val (.int (0 : Int32)), .val (.int (-1 : Int32)), .unset, .unset, .unset, .unset, .unset, .unset] []
          refine w_iloadN ok at_100 rfl ?_
          refine w_iloadN ok at_101 rfl ?_
          refine w_icmp_ne ok at_102 (pc' := 109) (by decide) (fun hc28 => False.elim (by exact hc28 s2)) (fun hc28 => ?_)
          show W K l _ n0 _ h21 10 39 105 #[.val (.int a), .val (.int b), .val (.int c), .val (.int d), .val (.int fl), .val (.int (0 : Int32)), .val (.int (0 : Int32)), .val (.ref b4), .val (.ref b8), .val (.ref b12), .val (.ref b16), .val (.int (0 : Int32)), .val (.int (-1 : Int32)), .unset, .unset, .unset, .unset, .unset, .unset] []
          refine w_iconst ok at_105 (v := (1 : Int32)) rfl ?_
          refine w_goto ok at_106 (pc' := 110) (by decide) ?_
          refine w_istore ok at_110 (L' := #[.val (.int a), .val (.int b), .val (.int c), .val (.int d), .val (.int fl), .val (.int (0 : Int32)), .val (.int (0 : Int32)), .val (.ref b4), .val (.ref b8), .val (.ref b12), .val (.ref b16), .val (.int (0 : Int32)), .val (.int (-1 : Int32)), .val (.int (1 : Int32)), .unset, .unset, .unset, .unset, .unset]) rfl ?_
          refine w_iload ok at_112 rfl ?_
          refine w_if_eq ok at_114 (pc' := 119) (by decide) (fun hc30 => ?_) (fun hc30 => False.elim (by revert hc30; decide))
          show W K l _ n0 _ h21 10 39 119 #[.val (.int a), .val (.int b), .val (.int c), .val (.int d), .val (.int fl), .val (.int (0 : Int32)), .val (.int (0 : Int32)), .val (.ref b4), .val (.ref b8), .val (.ref b12), .val (.ref b16), .val (.int (0 : Int32)), .val (.int (-1 : Int32)), .val (.int (1 : Int32)), .unset, .unset, .unset, .unset, .unset] []
          refine w_iload ok at_119 rfl ?_
          refine w_if_eq ok at_121 (pc' := 133) (by decide) (fun hc32 => False.elim (by revert hc32; decide)) (fun hc32 => ?_)
          show W K l _ n0 _ h21 10 39 124 #[.val (.int a), .val (.int b), .val (.int c), .val (.int d), .val (.int fl), .val (.int (0 : Int32)), .val (.int (0 : Int32)), .val (.ref b4), .val (.ref b8), .val (.ref b12), .val (.ref b16), .val (.int (0 : Int32)), .val (.int (-1 : Int32)), .val (.int (1 : Int32)), .unset, .unset, .unset, .unset, .unset] []
          refine w_iload ok at_124 rfl ?_
          refine w_iconst ok at_126 (v := (-1 : Int32)) rfl ?_
          refine w_icmp_eq ok at_127 (pc' := 141) (by decide) (fun hc34 => ?_) (fun hc34 => False.elim (by revert hc34; decide))
          show W K l _ n0 _ h21 10 39 141 #[.val (.int a), .val (.int b), .val (.int c), .val (.int d), .val (.int fl), .val (.int (0 : Int32)), .val (.int (0 : Int32)), .val (.ref b4), .val (.ref b8), .val (.ref b12), .val (.ref b16), .val (.int (0 : Int32)), .val (.int (-1 : Int32)), .val (.int (1 : Int32)), .unset, .unset, .unset, .unset, .unset] []
          refine w_iload ok at_141 rfl ?_
          refine w_istore ok at_143 (L' := #[.val (.int a), .val (.int b), .val (.int c), .val (.int d), .val (.int fl), .val (.int (0 : Int32)), .val (.int (0 : Int32)), .val (.ref b4), .val (.ref b8), .val (.ref b12), .val (.ref b16), .val (.int (0 : Int32)), .val (.int (-1 : Int32)), .val (.int (1 : Int32)), .val (.int (0 : Int32)), .unset, .unset, .unset, .unset]) rfl ?_
          refine w_iload ok at_145 rfl ?_
          refine w_if_lt ok at_147 (pc' := 159) (by decide) (fun hc36 => ?_) (fun hc36 => False.elim (by revert hc36; decide))
          show W K l _ n0 _ h21 10 39 159 #[.val (.int a), .val (.int b), .val (.int c), .val (.int d), .val (.int fl), .val (.int (0 : Int32)), .val (.int (0 : Int32)), .val (.ref b4), .val (.ref b8), .val (.ref b12), .val (.ref b16), .val (.int (0 : Int32)), .val (.int (-1 : Int32)), .val (.int (1 : Int32)), .val (.int (0 : Int32)), .unset, .unset, .unset, .unset] []
          refine w_iconst ok at_159 (v := (0 : Int32)) rfl ?_
          refine w_istore ok at_160 (L' := #[.val (.int a), .val (.int b), .val (.int c), .val (.int d), .val (.int fl), .val (.int (0 : Int32)), .val (.int (0 : Int32)), .val (.ref b4), .val (.ref b8), .val (.ref b12), .val (.ref b16), .val (.int (0 : Int32)), .val (.int (-1 : Int32)), .val (.int (1 : Int32)), .val (.int (0 : Int32)), .val (.int (0 : Int32)), .unset, .unset, .unset]) rfl ?_
          refine w_iload ok at_162 rfl ?_
          refine w_if_eq ok at_164 (pc' := 173) (by decide) (fun hc38 => ?_) (fun hc38 => False.elim (by revert hc38; decide))
          show W K l _ n0 _ h21 10 39 173 #[.val (.int a), .val (.int b), .val (.int c), .val (.int d), .val (.int fl), .val (.int (0 : Int32)), .val (.int (0 : Int32)), .val (.ref b4), .val (.ref b8), .val (.ref b12), .val (.ref b16), .val (.int (0 : Int32)), .val (.int (-1 : Int32)), .val (.int (1 : Int32)), .val (.int (0 : Int32)), .val (.int (0 : Int32)), .unset, .unset, .unset] []
          refine w_iload ok at_173 rfl ?_
          refine w_if_eq ok at_175 (pc' := 185) (by decide) (fun hc40 => ?_) (fun hc40 => False.elim (by revert hc40; decide))
          show W K l _ n0 _ h21 10 39 185 #[.val (.int a), .val (.int b), .val (.int c), .val (.int d), .val (.int fl), .val (.int (0 : Int32)), .val (.int (0 : Int32)), .val (.ref b4), .val (.ref b8), .val (.ref b12), .val (.ref b16), .val (.int (0 : Int32)), .val (.int (-1 : Int32)), .val (.int (1 : Int32)), .val (.int (0 : Int32)), .val (.int (0 : Int32)), .unset, .unset, .unset] []
          refine w_aload ok at_185 rfl rfl ?_
          refine w_aload ok at_187 rfl rfl ?_
          refine w_callV ok (y := (⟨"com/example/hornconv/hornconv/FactTable", "add", "([I)I"⟩ : MethodName)) (a := b16) (argsL := [(.ref b12)]) (rest := []) at_189 (hw _ (List.mem_of_getElem? (i := 32) rfl)) (hw _ (List.mem_of_getElem? (i := 33) rfl)) (hw _ (List.mem_of_getElem? (i := 35) rfl)) (hw _ (List.mem_of_getElem? (i := 34) rfl)) (hw _ (List.mem_of_getElem? (i := 3) rfl)) (hw _ (List.mem_of_getElem? (i := 36) rfl)) (by decide) A_b16.1 pd_285bI29I rfl rfl (by decide) (Nat.le_of_ble_eq_true rfl) (by decide) (by decide) (fun z0 => rm_add1 l Z a0 hw [] n0 h21 z0 b16 b12 un me ag de sl po ((0 : Int32) + 1) u0 a b (0 : Int32) (0 : Int32) (0 : Int32) (0 : Int32) (0 : Int32) (0 : Int32) (0 : Int32) (0 : Int32) (0 : Int32) (0 : Int32) a b (upd f00 r0 0) A_b16 A_ag A_de A_sl A_po A_b12 ge_b16 g1 g3 nn0 nn1 nn2 nn3 (Ne.symm ne_b12_b16) nn4 nn5 nn6 (Ne.symm ne_b12_ag) nn7 nn9 (Ne.symm ne_b12_sl) hRn22 hNn22 (by omega)) (fun v41 h42 qv41 => ?_)
          rcases qv41 with qv41 | qv41
          · skip
            obtain ⟨rfl, rfl, ra2, hA8_2, hA1_2, hA2_2⟩ := qv41
            show W K l _ n0 _ h21 10 39 192 #[.val (.int a), .val (.int b), .val (.int c), .val (.int d), .val (.int fl), .val (.int (0 : Int32)), .val (.int (0 : Int32)), .val (.ref b4), .val (.ref b8), .val (.ref b12), .val (.ref b16), .val (.int (0 : Int32)), .val (.int (-1 : Int32)), .val (.int (1 : Int32)), .val (.int (0 : Int32)), .val (.int (0 : Int32)), .unset, .unset, .unset] [(.int (-1 : Int32))]
            refine w_istore ok at_192 (L' := #[.val (.int a), .val (.int b), .val (.int c), .val (.int d), .val (.int fl), .val (.int (0 : Int32)), .val (.int (0 : Int32)), .val (.ref b4), .val (.ref b8), .val (.ref b12), .val (.ref b16), .val (.int (0 : Int32)), .val (.int (-1 : Int32)), .val (.int (1 : Int32)), .val (.int (0 : Int32)), .val (.int (0 : Int32)), .val (.int (-1 : Int32)), .unset, .unset]) rfl ?_
            refine w_aload ok at_194 rfl rfl ?_
            refine w_iconst ok at_196 (v := (0 : Int32)) rfl ?_
            refine w_callV ok (y := (⟨"com/example/hornconv/hornconv/FactTable", "isLive", "(I)Z"⟩ : MethodName)) (a := b16) (argsL := [(.int (0 : Int32))]) (rest := []) at_197 (hw _ (List.mem_of_getElem? (i := 60) rfl)) (hw _ (List.mem_of_getElem? (i := 61) rfl)) (hw _ (List.mem_of_getElem? (i := 63) rfl)) (hw _ (List.mem_of_getElem? (i := 62) rfl)) (hw _ (List.mem_of_getElem? (i := 3) rfl)) (hw _ (List.mem_of_getElem? (i := 64) rfl)) (by decide) A_b16.1 pd_28I29Z rfl rfl (by decide) (Nat.le_of_ble_eq_true rfl) (by decide) (by decide) (fun z0 => rm_live0 l Z a0 hw [] n0 h21 z0 b16 un me ag de sl po (1 : Int32) ((0 : Int32) + 1) u0 (0 : Int32) (0 : Int32) (0 : Int32) (0 : Int32) A_b16 A_de) (fun v43 h44 qv43 => ?_)
            obtain ⟨rfl, rfl⟩ := qv43
            rw [show own_live (0 : Int32) = 1 from rfl]
            show W K l _ n0 _ h21 10 39 200 #[.val (.int a), .val (.int b), .val (.int c), .val (.int d), .val (.int fl), .val (.int (0 : Int32)), .val (.int (0 : Int32)), .val (.ref b4), .val (.ref b8), .val (.ref b12), .val (.ref b16), .val (.int (0 : Int32)), .val (.int (-1 : Int32)), .val (.int (1 : Int32)), .val (.int (0 : Int32)), .val (.int (0 : Int32)), .val (.int (-1 : Int32)), .unset, .unset] [(.int (1 : Int32))]
            refine w_iload ok at_200 rfl ?_
            refine w_if_ne ok at_202 (pc' := 209) (by decide) (fun hc46 => False.elim (by revert hc46; decide)) (fun hc46 => ?_)
            show W K l _ n0 _ h21 10 39 205 #[.val (.int a), .val (.int b), .val (.int c), .val (.int d), .val (.int fl), .val (.int (0 : Int32)), .val (.int (0 : Int32)), .val (.ref b4), .val (.ref b8), .val (.ref b12), .val (.ref b16), .val (.int (0 : Int32)), .val (.int (-1 : Int32)), .val (.int (1 : Int32)), .val (.int (0 : Int32)), .val (.int (0 : Int32)), .val (.int (-1 : Int32)), .unset, .unset] [(.int (1 : Int32))]
            refine w_iconst ok at_205 (v := (1 : Int32)) rfl ?_
            refine w_goto ok at_206 (pc' := 210) (by decide) ?_
            refine w_icmp_ne ok at_210 (pc' := 217) (by decide) (fun hc48 => False.elim (by revert hc48; decide)) (fun hc48 => ?_)
            show W K l _ n0 _ h21 10 39 213 #[.val (.int a), .val (.int b), .val (.int c), .val (.int d), .val (.int fl), .val (.int (0 : Int32)), .val (.int (0 : Int32)), .val (.ref b4), .val (.ref b8), .val (.ref b12), .val (.ref b16), .val (.int (0 : Int32)), .val (.int (-1 : Int32)), .val (.int (1 : Int32)), .val (.int (0 : Int32)), .val (.int (0 : Int32)), .val (.int (-1 : Int32)), .unset, .unset] []
            refine w_iconst ok at_213 (v := (1 : Int32)) rfl ?_
            refine w_goto ok at_214 (pc' := 218) (by decide) ?_
            refine w_istore ok at_218 (L' := #[.val (.int a), .val (.int b), .val (.int c), .val (.int d), .val (.int fl), .val (.int (0 : Int32)), .val (.int (0 : Int32)), .val (.ref b4), .val (.ref b8), .val (.ref b12), .val (.ref b16), .val (.int (0 : Int32)), .val (.int (-1 : Int32)), .val (.int (1 : Int32)), .val (.int (0 : Int32)), .val (.int (0 : Int32)), .val (.int (-1 : Int32)), .val (.int (1 : Int32)), .unset]) rfl ?_
            refine w_iload ok at_220 rfl ?_
            refine w_if_lt ok at_222 (pc' := 257) (by decide) (fun hc50 => ?_) (fun hc50 => False.elim (by revert hc50; decide))
            show W K l _ n0 _ h21 10 39 257 #[.val (.int a), .val (.int b), .val (.int c), .val (.int d), .val (.int fl), .val (.int (0 : Int32)), .val (.int (0 : Int32)), .val (.ref b4), .val (.ref b8), .val (.ref b12), .val (.ref b16), .val (.int (0 : Int32)), .val (.int (-1 : Int32)), .val (.int (1 : Int32)), .val (.int (0 : Int32)), .val (.int (0 : Int32)), .val (.int (-1 : Int32)), .val (.int (1 : Int32)), .unset] []
            refine w_iload ok at_257 rfl ?_
            refine w_if_eq ok at_259 (pc' := 306) (by decide) (fun hc52 => ?_) (fun hc52 => False.elim (by revert hc52; decide))
            show W K l _ n0 _ h21 10 39 306 #[.val (.int a), .val (.int b), .val (.int c), .val (.int d), .val (.int fl), .val (.int (0 : Int32)), .val (.int (0 : Int32)), .val (.ref b4), .val (.ref b8), .val (.ref b12), .val (.ref b16), .val (.int (0 : Int32)), .val (.int (-1 : Int32)), .val (.int (1 : Int32)), .val (.int (0 : Int32)), .val (.int (0 : Int32)), .val (.int (-1 : Int32)), .val (.int (1 : Int32)), .unset] []
            refine w_iload ok at_306 rfl ?_
            refine w_if_eq ok at_308 (pc' := 321) (by decide) (fun hc54 => False.elim (by revert hc54; decide)) (fun hc54 => ?_)
            show W K l _ n0 _ h21 10 39 311 #[.val (.int a), .val (.int b), .val (.int c), .val (.int d), .val (.int fl), .val (.int (0 : Int32)), .val (.int (0 : Int32)), .val (.ref b4), .val (.ref b8), .val (.ref b12), .val (.ref b16), .val (.int (0 : Int32)), .val (.int (-1 : Int32)), .val (.int (1 : Int32)), .val (.int (0 : Int32)), .val (.int (0 : Int32)), .val (.int (-1 : Int32)), .val (.int (1 : Int32)), .unset] []
            refine w_iload ok at_311 rfl ?_
            refine w_iconst ok at_313 (v := (-1 : Int32)) rfl ?_
            refine w_icmp_ne ok at_314 (pc' := 321) (by decide) (fun hc56 => False.elim (by revert hc56; decide)) (fun hc56 => ?_)
            show W K l _ n0 _ h21 10 39 317 #[.val (.int a), .val (.int b), .val (.int c), .val (.int d), .val (.int fl), .val (.int (0 : Int32)), .val (.int (0 : Int32)), .val (.ref b4), .val (.ref b8), .val (.ref b12), .val (.ref b16), .val (.int (0 : Int32)), .val (.int (-1 : Int32)), .val (.int (1 : Int32)), .val (.int (0 : Int32)), .val (.int (0 : Int32)), .val (.int (-1 : Int32)), .val (.int (1 : Int32)), .unset] []
            refine w_iconst ok at_317 (v := (1 : Int32)) rfl ?_
            refine w_goto ok at_318 (pc' := 322) (by decide) ?_
            refine w_istore ok at_322 (L' := #[.val (.int a), .val (.int b), .val (.int c), .val (.int d), .val (.int fl), .val (.int (0 : Int32)), .val (.int (0 : Int32)), .val (.ref b4), .val (.ref b8), .val (.ref b12), .val (.ref b16), .val (.int (0 : Int32)), .val (.int (-1 : Int32)), .val (.int (1 : Int32)), .val (.int (0 : Int32)), .val (.int (0 : Int32)), .val (.int (-1 : Int32)), .val (.int (1 : Int32)), .unset]) rfl ?_
            refine w_iload ok at_324 rfl ?_
            refine w_bret ok (by simp) at_326 (by decide) (by decide) ?_
            exact rfl
          · obtain ⟨-, r, u', -, hF, -⟩ := qv41; exact (own_hit (E := fun k => own_eqr 2 [a, b, (0 : Int32), (0 : Int32), (0 : Int32), (0 : Int32), (0 : Int32), (0 : Int32)] [a, b] k = 1) hF (by rw [← hr0]; simp [upd]) (own_eqk' rfl)).elim
        · skip
          obtain ⟨rfl, r1, u1, h8_r1, hF_r1, hu_r1, K1, A1, A2, A3⟩ := qv23
          replace A_b4 := A_b4.keep K1 (ninS ne_b4_b16 (ninS ne_b4_ag (ninS ne_b4_sl nin0)))
          replace A_b8 := A_b8.keep K1 (ninS ne_b8_b16 (ninS ne_b8_ag (ninS ne_b8_sl nin0)))
          replace A_b12 := A_b12.keep K1 (ninS ne_b12_b16 (ninS ne_b12_ag (ninS ne_b12_sl nin0)))
          replace A_de := A_de.keep K1 (ninS (Ne.symm nn1) (ninS (Ne.symm nn4) (ninS nn7 nin0)))
          replace A_po := A_po.keep K1 (ninS (Ne.symm nn3) (ninS (Ne.symm nn6) (ninS (Ne.symm nn9) nin0)))
          replace A_b16 := A1
          replace A_ag := A2
          replace A_sl := A3
          have hus_u1 : 0 ≤ u1.toInt ∧ u1.toInt ≤ 2 := by have q := hu_r1; have z : (0 : Int32).toInt = 0 := rfl; omega
          have nsame : ¬ (a = c ∧ b = d) := fun q => own_hit (E := fun k => own_eqr 2 [a, b, 0, 0, 0, 0, 0, 0] [c, d] k = 1) hF_r1 (by rw [← q.1, ← q.2, ← hr0]; exact upd_same _ _ _) (own_eqk' (by rw [← q.1, ← q.2]; rfl))
          have ne10 : r1 ≠ r0 := fun q => by have h := hF_r1.1; rw [q, upd_same] at h; exact absurd h (by decide)
          obtain ⟨i1, hr1⟩ := own_at (E := fun k => own_eqr 2 [a, b, (0 : Int32), (0 : Int32), (0 : Int32), (0 : Int32), (0 : Int32), (0 : Int32)] [c, d] k = 1) hF_r1
          have hRn57 : Rw (upd (upd f00 r0 0) r1 1) := own_rwu hRn22 (by decide)
          have hNn57 := own_free (f := (upd (upd f00 r0 0) r1 1)) r0 r1 (fun j _ h0 h1 => by simp [upd, h0, h1])
          show W K l _ n0 _ h24 10 39 93 #[.val (.int a), .val (.int b), .val (.int c), .val (.int d), .val (.int fl), .val (.int (0 : Int32)), .val (.int (0 : Int32)), .val (.ref b4), .val (.ref b8), .val (.ref b12), .val (.ref b16), .val (.int (0 : Int32)), .unset, .unset, .unset, .unset, .unset, .unset, .unset] [(.int (1 : Int32))]
          refine w_istore ok at_93 (L' := #[.val (.int a), .val (.int b), .val (.int c), .val (.int d), .val (.int fl), .val (.int (0 : Int32)), .val (.int (0 : Int32)), .val (.ref b4), .val (.ref b8), .val (.ref b12), .val (.ref b16), .val (.int (0 : Int32)), .val (.int (1 : Int32)), .unset, .unset, .unset, .unset, .unset, .unset]) rfl ?_
          refine w_iloadN ok at_95 rfl ?_
          refine w_iloadN ok at_96 rfl ?_
          refine w_icmp_ne ok at_97 (pc' := 109) (by decide) (fun hc59 => ?_) (fun hc59 => ?_)
          · show W K l _ n0 _ h24 10 39 109 #[.val (.int a), .val (.int b), .val (.int c), .val (.int d), .val (.int fl), .val (.int (0 : Int32)), .val (.int (0 : Int32)), .val (.ref b4), .val (.ref b8), .val (.ref b12), .val (.ref b16), .val (.int (0 : Int32)), .val (.int (1 : Int32)), .unset, .unset, .unset, .unset, .unset, .unset] []
            refine w_iconst ok at_109 (v := (0 : Int32)) rfl ?_
            refine w_istore ok at_110 (L' := #[.val (.int a), .val (.int b), .val (.int c), .val (.int d), .val (.int fl), .val (.int (0 : Int32)), .val (.int (0 : Int32)), .val (.ref b4), .val (.ref b8), .val (.ref b12), .val (.ref b16), .val (.int (0 : Int32)), .val (.int (1 : Int32)), .val (.int (0 : Int32)), .unset, .unset, .unset, .unset, .unset]) rfl ?_
            refine w_iload ok at_112 rfl ?_
            refine w_if_eq ok at_114 (pc' := 119) (by decide) (fun hc61 => ?_) (fun hc61 => False.elim (by revert hc61; decide))
            show W K l _ n0 _ h24 10 39 119 #[.val (.int a), .val (.int b), .val (.int c), .val (.int d), .val (.int fl), .val (.int (0 : Int32)), .val (.int (0 : Int32)), .val (.ref b4), .val (.ref b8), .val (.ref b12), .val (.ref b16), .val (.int (0 : Int32)), .val (.int (1 : Int32)), .val (.int (0 : Int32)), .unset, .unset, .unset, .unset, .unset] []
            refine w_iload ok at_119 rfl ?_
            refine w_if_eq ok at_121 (pc' := 133) (by decide) (fun hc63 => ?_) (fun hc63 => False.elim (by revert hc63; decide))
            show W K l _ n0 _ h24 10 39 133 #[.val (.int a), .val (.int b), .val (.int c), .val (.int d), .val (.int fl), .val (.int (0 : Int32)), .val (.int (0 : Int32)), .val (.ref b4), .val (.ref b8), .val (.ref b12), .val (.ref b16), .val (.int (0 : Int32)), .val (.int (1 : Int32)), .val (.int (0 : Int32)), .unset, .unset, .unset, .unset, .unset] []
            refine w_iload ok at_133 rfl ?_
            refine w_iconst ok at_135 (v := (1 : Int32)) rfl ?_
            refine w_icmp_eq ok at_136 (pc' := 141) (by decide) (fun hc65 => ?_) (fun hc65 => False.elim (by revert hc65; decide))
            show W K l _ n0 _ h24 10 39 141 #[.val (.int a), .val (.int b), .val (.int c), .val (.int d), .val (.int fl), .val (.int (0 : Int32)), .val (.int (0 : Int32)), .val (.ref b4), .val (.ref b8), .val (.ref b12), .val (.ref b16), .val (.int (0 : Int32)), .val (.int (1 : Int32)), .val (.int (0 : Int32)), .unset, .unset, .unset, .unset, .unset] []
            refine w_iload ok at_141 rfl ?_
            refine w_istore ok at_143 (L' := #[.val (.int a), .val (.int b), .val (.int c), .val (.int d), .val (.int fl), .val (.int (0 : Int32)), .val (.int (0 : Int32)), .val (.ref b4), .val (.ref b8), .val (.ref b12), .val (.ref b16), .val (.int (0 : Int32)), .val (.int (1 : Int32)), .val (.int (0 : Int32)), .val (.int (0 : Int32)), .unset, .unset, .unset, .unset]) rfl ?_
            refine w_iload ok at_145 rfl ?_
            refine w_if_lt ok at_147 (pc' := 159) (by decide) (fun hc67 => False.elim (by revert hc67; decide)) (fun hc67 => ?_)
            show W K l _ n0 _ h24 10 39 150 #[.val (.int a), .val (.int b), .val (.int c), .val (.int d), .val (.int fl), .val (.int (0 : Int32)), .val (.int (0 : Int32)), .val (.ref b4), .val (.ref b8), .val (.ref b12), .val (.ref b16), .val (.int (0 : Int32)), .val (.int (1 : Int32)), .val (.int (0 : Int32)), .val (.int (0 : Int32)), .unset, .unset, .unset, .unset] []
            refine w_iload ok at_150 rfl ?_
            refine w_if_eq ok at_152 (pc' := 159) (by decide) (fun hc69 => ?_) (fun hc69 => False.elim (by revert hc69; decide))
            show W K l _ n0 _ h24 10 39 159 #[.val (.int a), .val (.int b), .val (.int c), .val (.int d), .val (.int fl), .val (.int (0 : Int32)), .val (.int (0 : Int32)), .val (.ref b4), .val (.ref b8), .val (.ref b12), .val (.ref b16), .val (.int (0 : Int32)), .val (.int (1 : Int32)), .val (.int (0 : Int32)), .val (.int (0 : Int32)), .unset, .unset, .unset, .unset] []
            refine w_iconst ok at_159 (v := (0 : Int32)) rfl ?_
            refine w_istore ok at_160 (L' := #[.val (.int a), .val (.int b), .val (.int c), .val (.int d), .val (.int fl), .val (.int (0 : Int32)), .val (.int (0 : Int32)), .val (.ref b4), .val (.ref b8), .val (.ref b12), .val (.ref b16), .val (.int (0 : Int32)), .val (.int (1 : Int32)), .val (.int (0 : Int32)), .val (.int (0 : Int32)), .val (.int (0 : Int32)), .unset, .unset, .unset]) rfl ?_
            refine w_iload ok at_162 rfl ?_
            refine w_if_eq ok at_164 (pc' := 173) (by decide) (fun hc71 => ?_) (fun hc71 => False.elim (by revert hc71; decide))
            show W K l _ n0 _ h24 10 39 173 #[.val (.int a), .val (.int b), .val (.int c), .val (.int d), .val (.int fl), .val (.int (0 : Int32)), .val (.int (0 : Int32)), .val (.ref b4), .val (.ref b8), .val (.ref b12), .val (.ref b16), .val (.int (0 : Int32)), .val (.int (1 : Int32)), .val (.int (0 : Int32)), .val (.int (0 : Int32)), .val (.int (0 : Int32)), .unset, .unset, .unset] []
            refine w_iload ok at_173 rfl ?_
            refine w_if_eq ok at_175 (pc' := 185) (by decide) (fun hc73 => ?_) (fun hc73 => False.elim (by revert hc73; decide))
            show W K l _ n0 _ h24 10 39 185 #[.val (.int a), .val (.int b), .val (.int c), .val (.int d), .val (.int fl), .val (.int (0 : Int32)), .val (.int (0 : Int32)), .val (.ref b4), .val (.ref b8), .val (.ref b12), .val (.ref b16), .val (.int (0 : Int32)), .val (.int (1 : Int32)), .val (.int (0 : Int32)), .val (.int (0 : Int32)), .val (.int (0 : Int32)), .unset, .unset, .unset] []
            refine w_aload ok at_185 rfl rfl ?_
            refine w_aload ok at_187 rfl rfl ?_
            refine w_callV ok (y := (⟨"com/example/hornconv/hornconv/FactTable", "add", "([I)I"⟩ : MethodName)) (a := b16) (argsL := [(.ref b12)]) (rest := []) at_189 (hw _ (List.mem_of_getElem? (i := 32) rfl)) (hw _ (List.mem_of_getElem? (i := 33) rfl)) (hw _ (List.mem_of_getElem? (i := 35) rfl)) (hw _ (List.mem_of_getElem? (i := 34) rfl)) (hw _ (List.mem_of_getElem? (i := 3) rfl)) (hw _ (List.mem_of_getElem? (i := 36) rfl)) (by decide) A_b16.1 pd_285bI29I rfl rfl (by decide) (Nat.le_of_ble_eq_true rfl) (by decide) (by decide) (fun z0 => rm_add2 l Z a0 hw [] n0 h24 z0 b16 b12 un me ag de sl po (((0 : Int32) + 1) + 1) u1 a b c d (0 : Int32) (0 : Int32) (0 : Int32) (0 : Int32) (0 : Int32) (0 : Int32) (0 : Int32) (0 : Int32) a b (upd (upd f00 r0 0) r1 1) A_b16 A_ag A_de A_sl A_po A_b12 ge_b16 g1 g3 nn0 nn1 nn2 nn3 (Ne.symm ne_b12_b16) nn4 nn5 nn6 (Ne.symm ne_b12_ag) nn7 nn9 (Ne.symm ne_b12_sl) hRn57 hNn57 (by omega)) (fun v74 h75 qv74 => ?_)
            rcases qv74 with qv74 | qv74
            · skip
              obtain ⟨rfl, rfl, ra2, hA8_2, hA1_2, hA2_2⟩ := qv74
              show W K l _ n0 _ h24 10 39 192 #[.val (.int a), .val (.int b), .val (.int c), .val (.int d), .val (.int fl), .val (.int (0 : Int32)), .val (.int (0 : Int32)), .val (.ref b4), .val (.ref b8), .val (.ref b12), .val (.ref b16), .val (.int (0 : Int32)), .val (.int (1 : Int32)), .val (.int (0 : Int32)), .val (.int (0 : Int32)), .val (.int (0 : Int32)), .unset, .unset, .unset] [(.int (-1 : Int32))]
              refine w_istore ok at_192 (L' := #[.val (.int a), .val (.int b), .val (.int c), .val (.int d), .val (.int fl), .val (.int (0 : Int32)), .val (.int (0 : Int32)), .val (.ref b4), .val (.ref b8), .val (.ref b12), .val (.ref b16), .val (.int (0 : Int32)), .val (.int (1 : Int32)), .val (.int (0 : Int32)), .val (.int (0 : Int32)), .val (.int (0 : Int32)), .val (.int (-1 : Int32)), .unset, .unset]) rfl ?_
              refine w_aload ok at_194 rfl rfl ?_
              refine w_iconst ok at_196 (v := (0 : Int32)) rfl ?_
              refine w_callV ok (y := (⟨"com/example/hornconv/hornconv/FactTable", "isLive", "(I)Z"⟩ : MethodName)) (a := b16) (argsL := [(.int (0 : Int32))]) (rest := []) at_197 (hw _ (List.mem_of_getElem? (i := 60) rfl)) (hw _ (List.mem_of_getElem? (i := 61) rfl)) (hw _ (List.mem_of_getElem? (i := 63) rfl)) (hw _ (List.mem_of_getElem? (i := 62) rfl)) (hw _ (List.mem_of_getElem? (i := 3) rfl)) (hw _ (List.mem_of_getElem? (i := 64) rfl)) (by decide) A_b16.1 pd_28I29Z rfl rfl (by decide) (Nat.le_of_ble_eq_true rfl) (by decide) (by decide) (fun z0 => rm_live0 l Z a0 hw [] n0 h24 z0 b16 un me ag de sl po (2 : Int32) (((0 : Int32) + 1) + 1) u1 (0 : Int32) (0 : Int32) (0 : Int32) (0 : Int32) A_b16 A_de) (fun v76 h77 qv76 => ?_)
              obtain ⟨rfl, rfl⟩ := qv76
              rw [show own_live (0 : Int32) = 1 from rfl]
              show W K l _ n0 _ h24 10 39 200 #[.val (.int a), .val (.int b), .val (.int c), .val (.int d), .val (.int fl), .val (.int (0 : Int32)), .val (.int (0 : Int32)), .val (.ref b4), .val (.ref b8), .val (.ref b12), .val (.ref b16), .val (.int (0 : Int32)), .val (.int (1 : Int32)), .val (.int (0 : Int32)), .val (.int (0 : Int32)), .val (.int (0 : Int32)), .val (.int (-1 : Int32)), .unset, .unset] [(.int (1 : Int32))]
              refine w_iload ok at_200 rfl ?_
              refine w_if_ne ok at_202 (pc' := 209) (by decide) (fun hc79 => False.elim (by revert hc79; decide)) (fun hc79 => ?_)
              show W K l _ n0 _ h24 10 39 205 #[.val (.int a), .val (.int b), .val (.int c), .val (.int d), .val (.int fl), .val (.int (0 : Int32)), .val (.int (0 : Int32)), .val (.ref b4), .val (.ref b8), .val (.ref b12), .val (.ref b16), .val (.int (0 : Int32)), .val (.int (1 : Int32)), .val (.int (0 : Int32)), .val (.int (0 : Int32)), .val (.int (0 : Int32)), .val (.int (-1 : Int32)), .unset, .unset] [(.int (1 : Int32))]
              refine w_iconst ok at_205 (v := (1 : Int32)) rfl ?_
              refine w_goto ok at_206 (pc' := 210) (by decide) ?_
              refine w_icmp_ne ok at_210 (pc' := 217) (by decide) (fun hc81 => False.elim (by revert hc81; decide)) (fun hc81 => ?_)
              show W K l _ n0 _ h24 10 39 213 #[.val (.int a), .val (.int b), .val (.int c), .val (.int d), .val (.int fl), .val (.int (0 : Int32)), .val (.int (0 : Int32)), .val (.ref b4), .val (.ref b8), .val (.ref b12), .val (.ref b16), .val (.int (0 : Int32)), .val (.int (1 : Int32)), .val (.int (0 : Int32)), .val (.int (0 : Int32)), .val (.int (0 : Int32)), .val (.int (-1 : Int32)), .unset, .unset] []
              refine w_iconst ok at_213 (v := (1 : Int32)) rfl ?_
              refine w_goto ok at_214 (pc' := 218) (by decide) ?_
              refine w_istore ok at_218 (L' := #[.val (.int a), .val (.int b), .val (.int c), .val (.int d), .val (.int fl), .val (.int (0 : Int32)), .val (.int (0 : Int32)), .val (.ref b4), .val (.ref b8), .val (.ref b12), .val (.ref b16), .val (.int (0 : Int32)), .val (.int (1 : Int32)), .val (.int (0 : Int32)), .val (.int (0 : Int32)), .val (.int (0 : Int32)), .val (.int (-1 : Int32)), .val (.int (1 : Int32)), .unset]) rfl ?_
              refine w_iload ok at_220 rfl ?_
              refine w_if_lt ok at_222 (pc' := 257) (by decide) (fun hc83 => False.elim (by revert hc83; decide)) (fun hc83 => ?_)
              show W K l _ n0 _ h24 10 39 225 #[.val (.int a), .val (.int b), .val (.int c), .val (.int d), .val (.int fl), .val (.int (0 : Int32)), .val (.int (0 : Int32)), .val (.ref b4), .val (.ref b8), .val (.ref b12), .val (.ref b16), .val (.int (0 : Int32)), .val (.int (1 : Int32)), .val (.int (0 : Int32)), .val (.int (0 : Int32)), .val (.int (0 : Int32)), .val (.int (-1 : Int32)), .val (.int (1 : Int32)), .unset] []
              refine w_iload ok at_225 rfl ?_
              refine w_if_eq ok at_227 (pc' := 254) (by decide) (fun hc85 => False.elim (by revert hc85; decide)) (fun hc85 => ?_)
              show W K l _ n0 _ h24 10 39 230 #[.val (.int a), .val (.int b), .val (.int c), .val (.int d), .val (.int fl), .val (.int (0 : Int32)), .val (.int (0 : Int32)), .val (.ref b4), .val (.ref b8), .val (.ref b12), .val (.ref b16), .val (.int (0 : Int32)), .val (.int (1 : Int32)), .val (.int (0 : Int32)), .val (.int (0 : Int32)), .val (.int (0 : Int32)), .val (.int (-1 : Int32)), .val (.int (1 : Int32)), .unset] []
              refine w_aload ok at_230 rfl rfl ?_
              refine w_iload ok at_232 rfl ?_
              refine w_callV ok (y := (⟨"com/example/hornconv/hornconv/FactTable", "isLive", "(I)Z"⟩ : MethodName)) (a := b16) (argsL := [(.int (1 : Int32))]) (rest := []) at_234 (hw _ (List.mem_of_getElem? (i := 60) rfl)) (hw _ (List.mem_of_getElem? (i := 61) rfl)) (hw _ (List.mem_of_getElem? (i := 63) rfl)) (hw _ (List.mem_of_getElem? (i := 62) rfl)) (hw _ (List.mem_of_getElem? (i := 3) rfl)) (hw _ (List.mem_of_getElem? (i := 64) rfl)) (by decide) A_b16.1 pd_28I29Z rfl rfl (by decide) (Nat.le_of_ble_eq_true rfl) (by decide) (by decide) (fun z0 => rm_live1 l Z a0 hw [] n0 h24 z0 b16 un me ag de sl po (2 : Int32) (((0 : Int32) + 1) + 1) u1 (0 : Int32) (0 : Int32) (0 : Int32) (0 : Int32) A_b16 A_de) (fun v86 h87 qv86 => ?_)
              obtain ⟨rfl, rfl⟩ := qv86
              rw [show own_live (0 : Int32) = 1 from rfl]
              show W K l _ n0 _ h24 10 39 237 #[.val (.int a), .val (.int b), .val (.int c), .val (.int d), .val (.int fl), .val (.int (0 : Int32)), .val (.int (0 : Int32)), .val (.ref b4), .val (.ref b8), .val (.ref b12), .val (.ref b16), .val (.int (0 : Int32)), .val (.int (1 : Int32)), .val (.int (0 : Int32)), .val (.int (0 : Int32)), .val (.int (0 : Int32)), .val (.int (-1 : Int32)), .val (.int (1 : Int32)), .unset] [(.int (1 : Int32))]
              refine w_iload ok at_237 rfl ?_
              refine w_if_ne ok at_239 (pc' := 246) (by decide) (fun hc89 => False.elim (by revert hc89; decide)) (fun hc89 => ?_)
              show W K l _ n0 _ h24 10 39 242 #[.val (.int a), .val (.int b), .val (.int c), .val (.int d), .val (.int fl), .val (.int (0 : Int32)), .val (.int (0 : Int32)), .val (.ref b4), .val (.ref b8), .val (.ref b12), .val (.ref b16), .val (.int (0 : Int32)), .val (.int (1 : Int32)), .val (.int (0 : Int32)), .val (.int (0 : Int32)), .val (.int (0 : Int32)), .val (.int (-1 : Int32)), .val (.int (1 : Int32)), .unset] [(.int (1 : Int32))]
              refine w_iconst ok at_242 (v := (1 : Int32)) rfl ?_
              refine w_goto ok at_243 (pc' := 247) (by decide) ?_
              refine w_icmp_ne ok at_247 (pc' := 254) (by decide) (fun hc91 => False.elim (by revert hc91; decide)) (fun hc91 => ?_)
              show W K l _ n0 _ h24 10 39 250 #[.val (.int a), .val (.int b), .val (.int c), .val (.int d), .val (.int fl), .val (.int (0 : Int32)), .val (.int (0 : Int32)), .val (.ref b4), .val (.ref b8), .val (.ref b12), .val (.ref b16), .val (.int (0 : Int32)), .val (.int (1 : Int32)), .val (.int (0 : Int32)), .val (.int (0 : Int32)), .val (.int (0 : Int32)), .val (.int (-1 : Int32)), .val (.int (1 : Int32)), .unset] []
              refine w_iconst ok at_250 (v := (1 : Int32)) rfl ?_
              refine w_goto ok at_251 (pc' := 255) (by decide) ?_
              refine w_istore ok at_255 (L' := #[.val (.int a), .val (.int b), .val (.int c), .val (.int d), .val (.int fl), .val (.int (0 : Int32)), .val (.int (0 : Int32)), .val (.ref b4), .val (.ref b8), .val (.ref b12), .val (.ref b16), .val (.int (0 : Int32)), .val (.int (1 : Int32)), .val (.int (0 : Int32)), .val (.int (0 : Int32)), .val (.int (0 : Int32)), .val (.int (-1 : Int32)), .val (.int (1 : Int32)), .unset]) rfl ?_
              refine w_iload ok at_257 rfl ?_
              refine w_if_eq ok at_259 (pc' := 306) (by decide) (fun hc93 => ?_) (fun hc93 => False.elim (by revert hc93; decide))
              show W K l _ n0 _ h24 10 39 306 #[.val (.int a), .val (.int b), .val (.int c), .val (.int d), .val (.int fl), .val (.int (0 : Int32)), .val (.int (0 : Int32)), .val (.ref b4), .val (.ref b8), .val (.ref b12), .val (.ref b16), .val (.int (0 : Int32)), .val (.int (1 : Int32)), .val (.int (0 : Int32)), .val (.int (0 : Int32)), .val (.int (0 : Int32)), .val (.int (-1 : Int32)), .val (.int (1 : Int32)), .unset] []
              refine w_iload ok at_306 rfl ?_
              refine w_if_eq ok at_308 (pc' := 321) (by decide) (fun hc95 => False.elim (by revert hc95; decide)) (fun hc95 => ?_)
              show W K l _ n0 _ h24 10 39 311 #[.val (.int a), .val (.int b), .val (.int c), .val (.int d), .val (.int fl), .val (.int (0 : Int32)), .val (.int (0 : Int32)), .val (.ref b4), .val (.ref b8), .val (.ref b12), .val (.ref b16), .val (.int (0 : Int32)), .val (.int (1 : Int32)), .val (.int (0 : Int32)), .val (.int (0 : Int32)), .val (.int (0 : Int32)), .val (.int (-1 : Int32)), .val (.int (1 : Int32)), .unset] []
              refine w_iload ok at_311 rfl ?_
              refine w_iconst ok at_313 (v := (-1 : Int32)) rfl ?_
              refine w_icmp_ne ok at_314 (pc' := 321) (by decide) (fun hc97 => False.elim (by revert hc97; decide)) (fun hc97 => ?_)
              show W K l _ n0 _ h24 10 39 317 #[.val (.int a), .val (.int b), .val (.int c), .val (.int d), .val (.int fl), .val (.int (0 : Int32)), .val (.int (0 : Int32)), .val (.ref b4), .val (.ref b8), .val (.ref b12), .val (.ref b16), .val (.int (0 : Int32)), .val (.int (1 : Int32)), .val (.int (0 : Int32)), .val (.int (0 : Int32)), .val (.int (0 : Int32)), .val (.int (-1 : Int32)), .val (.int (1 : Int32)), .unset] []
              refine w_iconst ok at_317 (v := (1 : Int32)) rfl ?_
              refine w_goto ok at_318 (pc' := 322) (by decide) ?_
              refine w_istore ok at_322 (L' := #[.val (.int a), .val (.int b), .val (.int c), .val (.int d), .val (.int fl), .val (.int (0 : Int32)), .val (.int (0 : Int32)), .val (.ref b4), .val (.ref b8), .val (.ref b12), .val (.ref b16), .val (.int (0 : Int32)), .val (.int (1 : Int32)), .val (.int (0 : Int32)), .val (.int (0 : Int32)), .val (.int (0 : Int32)), .val (.int (-1 : Int32)), .val (.int (1 : Int32)), .unset]) rfl ?_
              refine w_iload ok at_324 rfl ?_
              refine w_bret ok (by simp) at_326 (by decide) (by decide) ?_
              exact rfl
            · obtain ⟨-, r, u', -, hF, -⟩ := qv74; exact (own_hit (E := fun k => own_eqr 2 [a, b, c, d, (0 : Int32), (0 : Int32), (0 : Int32), (0 : Int32)] [a, b] k = 1) hF (by rw [← hr0]; simp [upd, Ne.symm ne10]) (own_eqk' rfl)).elim
          · show W K l _ n0 _ h24 10 39 100 #[.val (.int a), .val (.int b), .val (.int c), .val (.int d), .val (.int fl), .val (.int (0 : Int32)), .val (.int (0 : Int32)), .val (.ref b4), .val (.ref b8), .val (.ref b12), .val (.ref b16), .val (.int (0 : Int32)), .val (.int (1 : Int32)), .unset, .unset, .unset, .unset, .unset, .unset] []
            refine w_iloadN ok at_100 rfl ?_
            refine w_iloadN ok at_101 rfl ?_
            refine w_icmp_ne ok at_102 (pc' := 109) (by decide) (fun hc99 => ?_) (fun hc99 => False.elim (by exact nsame ⟨hc59, hc99⟩))
            show W K l _ n0 _ h24 10 39 109 #[.val (.int a), .val (.int b), .val (.int c), .val (.int d), .val (.int fl), .val (.int (0 : Int32)), .val (.int (0 : Int32)), .val (.ref b4), .val (.ref b8), .val (.ref b12), .val (.ref b16), .val (.int (0 : Int32)), .val (.int (1 : Int32)), .unset, .unset, .unset, .unset, .unset, .unset] []
            refine w_iconst ok at_109 (v := (0 : Int32)) rfl ?_
            refine w_istore ok at_110 (L' := #[.val (.int a), .val (.int b), .val (.int c), .val (.int d), .val (.int fl), .val (.int (0 : Int32)), .val (.int (0 : Int32)), .val (.ref b4), .val (.ref b8), .val (.ref b12), .val (.ref b16), .val (.int (0 : Int32)), .val (.int (1 : Int32)), .val (.int (0 : Int32)), .unset, .unset, .unset, .unset, .unset]) rfl ?_
            refine w_iload ok at_112 rfl ?_
            refine w_if_eq ok at_114 (pc' := 119) (by decide) (fun hc101 => ?_) (fun hc101 => False.elim (by revert hc101; decide))
            show W K l _ n0 _ h24 10 39 119 #[.val (.int a), .val (.int b), .val (.int c), .val (.int d), .val (.int fl), .val (.int (0 : Int32)), .val (.int (0 : Int32)), .val (.ref b4), .val (.ref b8), .val (.ref b12), .val (.ref b16), .val (.int (0 : Int32)), .val (.int (1 : Int32)), .val (.int (0 : Int32)), .unset, .unset, .unset, .unset, .unset] []
            refine w_iload ok at_119 rfl ?_
            refine w_if_eq ok at_121 (pc' := 133) (by decide) (fun hc103 => ?_) (fun hc103 => False.elim (by revert hc103; decide))
            show W K l _ n0 _ h24 10 39 133 #[.val (.int a), .val (.int b), .val (.int c), .val (.int d), .val (.int fl), .val (.int (0 : Int32)), .val (.int (0 : Int32)), .val (.ref b4), .val (.ref b8), .val (.ref b12), .val (.ref b16), .val (.int (0 : Int32)), .val (.int (1 : Int32)), .val (.int (0 : Int32)), .unset, .unset, .unset, .unset, .unset] []
            refine w_iload ok at_133 rfl ?_
            refine w_iconst ok at_135 (v := (1 : Int32)) rfl ?_
            refine w_icmp_eq ok at_136 (pc' := 141) (by decide) (fun hc105 => ?_) (fun hc105 => False.elim (by revert hc105; decide))
            show W K l _ n0 _ h24 10 39 141 #[.val (.int a), .val (.int b), .val (.int c), .val (.int d), .val (.int fl), .val (.int (0 : Int32)), .val (.int (0 : Int32)), .val (.ref b4), .val (.ref b8), .val (.ref b12), .val (.ref b16), .val (.int (0 : Int32)), .val (.int (1 : Int32)), .val (.int (0 : Int32)), .unset, .unset, .unset, .unset, .unset] []
            refine w_iload ok at_141 rfl ?_
            refine w_istore ok at_143 (L' := #[.val (.int a), .val (.int b), .val (.int c), .val (.int d), .val (.int fl), .val (.int (0 : Int32)), .val (.int (0 : Int32)), .val (.ref b4), .val (.ref b8), .val (.ref b12), .val (.ref b16), .val (.int (0 : Int32)), .val (.int (1 : Int32)), .val (.int (0 : Int32)), .val (.int (0 : Int32)), .unset, .unset, .unset, .unset]) rfl ?_
            refine w_iload ok at_145 rfl ?_
            refine w_if_lt ok at_147 (pc' := 159) (by decide) (fun hc107 => False.elim (by revert hc107; decide)) (fun hc107 => ?_)
            show W K l _ n0 _ h24 10 39 150 #[.val (.int a), .val (.int b), .val (.int c), .val (.int d), .val (.int fl), .val (.int (0 : Int32)), .val (.int (0 : Int32)), .val (.ref b4), .val (.ref b8), .val (.ref b12), .val (.ref b16), .val (.int (0 : Int32)), .val (.int (1 : Int32)), .val (.int (0 : Int32)), .val (.int (0 : Int32)), .unset, .unset, .unset, .unset] []
            refine w_iload ok at_150 rfl ?_
            refine w_if_eq ok at_152 (pc' := 159) (by decide) (fun hc109 => ?_) (fun hc109 => False.elim (by revert hc109; decide))
            show W K l _ n0 _ h24 10 39 159 #[.val (.int a), .val (.int b), .val (.int c), .val (.int d), .val (.int fl), .val (.int (0 : Int32)), .val (.int (0 : Int32)), .val (.ref b4), .val (.ref b8), .val (.ref b12), .val (.ref b16), .val (.int (0 : Int32)), .val (.int (1 : Int32)), .val (.int (0 : Int32)), .val (.int (0 : Int32)), .unset, .unset, .unset, .unset] []
            refine w_iconst ok at_159 (v := (0 : Int32)) rfl ?_
            refine w_istore ok at_160 (L' := #[.val (.int a), .val (.int b), .val (.int c), .val (.int d), .val (.int fl), .val (.int (0 : Int32)), .val (.int (0 : Int32)), .val (.ref b4), .val (.ref b8), .val (.ref b12), .val (.ref b16), .val (.int (0 : Int32)), .val (.int (1 : Int32)), .val (.int (0 : Int32)), .val (.int (0 : Int32)), .val (.int (0 : Int32)), .unset, .unset, .unset]) rfl ?_
            refine w_iload ok at_162 rfl ?_
            refine w_if_eq ok at_164 (pc' := 173) (by decide) (fun hc111 => ?_) (fun hc111 => False.elim (by revert hc111; decide))
            show W K l _ n0 _ h24 10 39 173 #[.val (.int a), .val (.int b), .val (.int c), .val (.int d), .val (.int fl), .val (.int (0 : Int32)), .val (.int (0 : Int32)), .val (.ref b4), .val (.ref b8), .val (.ref b12), .val (.ref b16), .val (.int (0 : Int32)), .val (.int (1 : Int32)), .val (.int (0 : Int32)), .val (.int (0 : Int32)), .val (.int (0 : Int32)), .unset, .unset, .unset] []
            refine w_iload ok at_173 rfl ?_
            refine w_if_eq ok at_175 (pc' := 185) (by decide) (fun hc113 => ?_) (fun hc113 => False.elim (by revert hc113; decide))
            show W K l _ n0 _ h24 10 39 185 #[.val (.int a), .val (.int b), .val (.int c), .val (.int d), .val (.int fl), .val (.int (0 : Int32)), .val (.int (0 : Int32)), .val (.ref b4), .val (.ref b8), .val (.ref b12), .val (.ref b16), .val (.int (0 : Int32)), .val (.int (1 : Int32)), .val (.int (0 : Int32)), .val (.int (0 : Int32)), .val (.int (0 : Int32)), .unset, .unset, .unset] []
            refine w_aload ok at_185 rfl rfl ?_
            refine w_aload ok at_187 rfl rfl ?_
            refine w_callV ok (y := (⟨"com/example/hornconv/hornconv/FactTable", "add", "([I)I"⟩ : MethodName)) (a := b16) (argsL := [(.ref b12)]) (rest := []) at_189 (hw _ (List.mem_of_getElem? (i := 32) rfl)) (hw _ (List.mem_of_getElem? (i := 33) rfl)) (hw _ (List.mem_of_getElem? (i := 35) rfl)) (hw _ (List.mem_of_getElem? (i := 34) rfl)) (hw _ (List.mem_of_getElem? (i := 3) rfl)) (hw _ (List.mem_of_getElem? (i := 36) rfl)) (by decide) A_b16.1 pd_285bI29I rfl rfl (by decide) (Nat.le_of_ble_eq_true rfl) (by decide) (by decide) (fun z0 => rm_add2 l Z a0 hw [] n0 h24 z0 b16 b12 un me ag de sl po (((0 : Int32) + 1) + 1) u1 a b c d (0 : Int32) (0 : Int32) (0 : Int32) (0 : Int32) (0 : Int32) (0 : Int32) (0 : Int32) (0 : Int32) a b (upd (upd f00 r0 0) r1 1) A_b16 A_ag A_de A_sl A_po A_b12 ge_b16 g1 g3 nn0 nn1 nn2 nn3 (Ne.symm ne_b12_b16) nn4 nn5 nn6 (Ne.symm ne_b12_ag) nn7 nn9 (Ne.symm ne_b12_sl) hRn57 hNn57 (by omega)) (fun v114 h115 qv114 => ?_)
            rcases qv114 with qv114 | qv114
            · skip
              obtain ⟨rfl, rfl, ra2, hA8_2, hA1_2, hA2_2⟩ := qv114
              show W K l _ n0 _ h24 10 39 192 #[.val (.int a), .val (.int b), .val (.int c), .val (.int d), .val (.int fl), .val (.int (0 : Int32)), .val (.int (0 : Int32)), .val (.ref b4), .val (.ref b8), .val (.ref b12), .val (.ref b16), .val (.int (0 : Int32)), .val (.int (1 : Int32)), .val (.int (0 : Int32)), .val (.int (0 : Int32)), .val (.int (0 : Int32)), .unset, .unset, .unset] [(.int (-1 : Int32))]
              refine w_istore ok at_192 (L' := #[.val (.int a), .val (.int b), .val (.int c), .val (.int d), .val (.int fl), .val (.int (0 : Int32)), .val (.int (0 : Int32)), .val (.ref b4), .val (.ref b8), .val (.ref b12), .val (.ref b16), .val (.int (0 : Int32)), .val (.int (1 : Int32)), .val (.int (0 : Int32)), .val (.int (0 : Int32)), .val (.int (0 : Int32)), .val (.int (-1 : Int32)), .unset, .unset]) rfl ?_
              refine w_aload ok at_194 rfl rfl ?_
              refine w_iconst ok at_196 (v := (0 : Int32)) rfl ?_
              refine w_callV ok (y := (⟨"com/example/hornconv/hornconv/FactTable", "isLive", "(I)Z"⟩ : MethodName)) (a := b16) (argsL := [(.int (0 : Int32))]) (rest := []) at_197 (hw _ (List.mem_of_getElem? (i := 60) rfl)) (hw _ (List.mem_of_getElem? (i := 61) rfl)) (hw _ (List.mem_of_getElem? (i := 63) rfl)) (hw _ (List.mem_of_getElem? (i := 62) rfl)) (hw _ (List.mem_of_getElem? (i := 3) rfl)) (hw _ (List.mem_of_getElem? (i := 64) rfl)) (by decide) A_b16.1 pd_28I29Z rfl rfl (by decide) (Nat.le_of_ble_eq_true rfl) (by decide) (by decide) (fun z0 => rm_live0 l Z a0 hw [] n0 h24 z0 b16 un me ag de sl po (2 : Int32) (((0 : Int32) + 1) + 1) u1 (0 : Int32) (0 : Int32) (0 : Int32) (0 : Int32) A_b16 A_de) (fun v116 h117 qv116 => ?_)
              obtain ⟨rfl, rfl⟩ := qv116
              rw [show own_live (0 : Int32) = 1 from rfl]
              show W K l _ n0 _ h24 10 39 200 #[.val (.int a), .val (.int b), .val (.int c), .val (.int d), .val (.int fl), .val (.int (0 : Int32)), .val (.int (0 : Int32)), .val (.ref b4), .val (.ref b8), .val (.ref b12), .val (.ref b16), .val (.int (0 : Int32)), .val (.int (1 : Int32)), .val (.int (0 : Int32)), .val (.int (0 : Int32)), .val (.int (0 : Int32)), .val (.int (-1 : Int32)), .unset, .unset] [(.int (1 : Int32))]
              refine w_iload ok at_200 rfl ?_
              refine w_if_ne ok at_202 (pc' := 209) (by decide) (fun hc119 => False.elim (by revert hc119; decide)) (fun hc119 => ?_)
              show W K l _ n0 _ h24 10 39 205 #[.val (.int a), .val (.int b), .val (.int c), .val (.int d), .val (.int fl), .val (.int (0 : Int32)), .val (.int (0 : Int32)), .val (.ref b4), .val (.ref b8), .val (.ref b12), .val (.ref b16), .val (.int (0 : Int32)), .val (.int (1 : Int32)), .val (.int (0 : Int32)), .val (.int (0 : Int32)), .val (.int (0 : Int32)), .val (.int (-1 : Int32)), .unset, .unset] [(.int (1 : Int32))]
              refine w_iconst ok at_205 (v := (1 : Int32)) rfl ?_
              refine w_goto ok at_206 (pc' := 210) (by decide) ?_
              refine w_icmp_ne ok at_210 (pc' := 217) (by decide) (fun hc121 => False.elim (by revert hc121; decide)) (fun hc121 => ?_)
              show W K l _ n0 _ h24 10 39 213 #[.val (.int a), .val (.int b), .val (.int c), .val (.int d), .val (.int fl), .val (.int (0 : Int32)), .val (.int (0 : Int32)), .val (.ref b4), .val (.ref b8), .val (.ref b12), .val (.ref b16), .val (.int (0 : Int32)), .val (.int (1 : Int32)), .val (.int (0 : Int32)), .val (.int (0 : Int32)), .val (.int (0 : Int32)), .val (.int (-1 : Int32)), .unset, .unset] []
              refine w_iconst ok at_213 (v := (1 : Int32)) rfl ?_
              refine w_goto ok at_214 (pc' := 218) (by decide) ?_
              refine w_istore ok at_218 (L' := #[.val (.int a), .val (.int b), .val (.int c), .val (.int d), .val (.int fl), .val (.int (0 : Int32)), .val (.int (0 : Int32)), .val (.ref b4), .val (.ref b8), .val (.ref b12), .val (.ref b16), .val (.int (0 : Int32)), .val (.int (1 : Int32)), .val (.int (0 : Int32)), .val (.int (0 : Int32)), .val (.int (0 : Int32)), .val (.int (-1 : Int32)), .val (.int (1 : Int32)), .unset]) rfl ?_
              refine w_iload ok at_220 rfl ?_
              refine w_if_lt ok at_222 (pc' := 257) (by decide) (fun hc123 => False.elim (by revert hc123; decide)) (fun hc123 => ?_)
              show W K l _ n0 _ h24 10 39 225 #[.val (.int a), .val (.int b), .val (.int c), .val (.int d), .val (.int fl), .val (.int (0 : Int32)), .val (.int (0 : Int32)), .val (.ref b4), .val (.ref b8), .val (.ref b12), .val (.ref b16), .val (.int (0 : Int32)), .val (.int (1 : Int32)), .val (.int (0 : Int32)), .val (.int (0 : Int32)), .val (.int (0 : Int32)), .val (.int (-1 : Int32)), .val (.int (1 : Int32)), .unset] []
              refine w_iload ok at_225 rfl ?_
              refine w_if_eq ok at_227 (pc' := 254) (by decide) (fun hc125 => False.elim (by revert hc125; decide)) (fun hc125 => ?_)
              show W K l _ n0 _ h24 10 39 230 #[.val (.int a), .val (.int b), .val (.int c), .val (.int d), .val (.int fl), .val (.int (0 : Int32)), .val (.int (0 : Int32)), .val (.ref b4), .val (.ref b8), .val (.ref b12), .val (.ref b16), .val (.int (0 : Int32)), .val (.int (1 : Int32)), .val (.int (0 : Int32)), .val (.int (0 : Int32)), .val (.int (0 : Int32)), .val (.int (-1 : Int32)), .val (.int (1 : Int32)), .unset] []
              refine w_aload ok at_230 rfl rfl ?_
              refine w_iload ok at_232 rfl ?_
              refine w_callV ok (y := (⟨"com/example/hornconv/hornconv/FactTable", "isLive", "(I)Z"⟩ : MethodName)) (a := b16) (argsL := [(.int (1 : Int32))]) (rest := []) at_234 (hw _ (List.mem_of_getElem? (i := 60) rfl)) (hw _ (List.mem_of_getElem? (i := 61) rfl)) (hw _ (List.mem_of_getElem? (i := 63) rfl)) (hw _ (List.mem_of_getElem? (i := 62) rfl)) (hw _ (List.mem_of_getElem? (i := 3) rfl)) (hw _ (List.mem_of_getElem? (i := 64) rfl)) (by decide) A_b16.1 pd_28I29Z rfl rfl (by decide) (Nat.le_of_ble_eq_true rfl) (by decide) (by decide) (fun z0 => rm_live1 l Z a0 hw [] n0 h24 z0 b16 un me ag de sl po (2 : Int32) (((0 : Int32) + 1) + 1) u1 (0 : Int32) (0 : Int32) (0 : Int32) (0 : Int32) A_b16 A_de) (fun v126 h127 qv126 => ?_)
              obtain ⟨rfl, rfl⟩ := qv126
              rw [show own_live (0 : Int32) = 1 from rfl]
              show W K l _ n0 _ h24 10 39 237 #[.val (.int a), .val (.int b), .val (.int c), .val (.int d), .val (.int fl), .val (.int (0 : Int32)), .val (.int (0 : Int32)), .val (.ref b4), .val (.ref b8), .val (.ref b12), .val (.ref b16), .val (.int (0 : Int32)), .val (.int (1 : Int32)), .val (.int (0 : Int32)), .val (.int (0 : Int32)), .val (.int (0 : Int32)), .val (.int (-1 : Int32)), .val (.int (1 : Int32)), .unset] [(.int (1 : Int32))]
              refine w_iload ok at_237 rfl ?_
              refine w_if_ne ok at_239 (pc' := 246) (by decide) (fun hc129 => False.elim (by revert hc129; decide)) (fun hc129 => ?_)
              show W K l _ n0 _ h24 10 39 242 #[.val (.int a), .val (.int b), .val (.int c), .val (.int d), .val (.int fl), .val (.int (0 : Int32)), .val (.int (0 : Int32)), .val (.ref b4), .val (.ref b8), .val (.ref b12), .val (.ref b16), .val (.int (0 : Int32)), .val (.int (1 : Int32)), .val (.int (0 : Int32)), .val (.int (0 : Int32)), .val (.int (0 : Int32)), .val (.int (-1 : Int32)), .val (.int (1 : Int32)), .unset] [(.int (1 : Int32))]
              refine w_iconst ok at_242 (v := (1 : Int32)) rfl ?_
              refine w_goto ok at_243 (pc' := 247) (by decide) ?_
              refine w_icmp_ne ok at_247 (pc' := 254) (by decide) (fun hc131 => False.elim (by revert hc131; decide)) (fun hc131 => ?_)
              show W K l _ n0 _ h24 10 39 250 #[.val (.int a), .val (.int b), .val (.int c), .val (.int d), .val (.int fl), .val (.int (0 : Int32)), .val (.int (0 : Int32)), .val (.ref b4), .val (.ref b8), .val (.ref b12), .val (.ref b16), .val (.int (0 : Int32)), .val (.int (1 : Int32)), .val (.int (0 : Int32)), .val (.int (0 : Int32)), .val (.int (0 : Int32)), .val (.int (-1 : Int32)), .val (.int (1 : Int32)), .unset] []
              refine w_iconst ok at_250 (v := (1 : Int32)) rfl ?_
              refine w_goto ok at_251 (pc' := 255) (by decide) ?_
              refine w_istore ok at_255 (L' := #[.val (.int a), .val (.int b), .val (.int c), .val (.int d), .val (.int fl), .val (.int (0 : Int32)), .val (.int (0 : Int32)), .val (.ref b4), .val (.ref b8), .val (.ref b12), .val (.ref b16), .val (.int (0 : Int32)), .val (.int (1 : Int32)), .val (.int (0 : Int32)), .val (.int (0 : Int32)), .val (.int (0 : Int32)), .val (.int (-1 : Int32)), .val (.int (1 : Int32)), .unset]) rfl ?_
              refine w_iload ok at_257 rfl ?_
              refine w_if_eq ok at_259 (pc' := 306) (by decide) (fun hc133 => ?_) (fun hc133 => False.elim (by revert hc133; decide))
              show W K l _ n0 _ h24 10 39 306 #[.val (.int a), .val (.int b), .val (.int c), .val (.int d), .val (.int fl), .val (.int (0 : Int32)), .val (.int (0 : Int32)), .val (.ref b4), .val (.ref b8), .val (.ref b12), .val (.ref b16), .val (.int (0 : Int32)), .val (.int (1 : Int32)), .val (.int (0 : Int32)), .val (.int (0 : Int32)), .val (.int (0 : Int32)), .val (.int (-1 : Int32)), .val (.int (1 : Int32)), .unset] []
              refine w_iload ok at_306 rfl ?_
              refine w_if_eq ok at_308 (pc' := 321) (by decide) (fun hc135 => False.elim (by revert hc135; decide)) (fun hc135 => ?_)
              show W K l _ n0 _ h24 10 39 311 #[.val (.int a), .val (.int b), .val (.int c), .val (.int d), .val (.int fl), .val (.int (0 : Int32)), .val (.int (0 : Int32)), .val (.ref b4), .val (.ref b8), .val (.ref b12), .val (.ref b16), .val (.int (0 : Int32)), .val (.int (1 : Int32)), .val (.int (0 : Int32)), .val (.int (0 : Int32)), .val (.int (0 : Int32)), .val (.int (-1 : Int32)), .val (.int (1 : Int32)), .unset] []
              refine w_iload ok at_311 rfl ?_
              refine w_iconst ok at_313 (v := (-1 : Int32)) rfl ?_
              refine w_icmp_ne ok at_314 (pc' := 321) (by decide) (fun hc137 => False.elim (by revert hc137; decide)) (fun hc137 => ?_)
              show W K l _ n0 _ h24 10 39 317 #[.val (.int a), .val (.int b), .val (.int c), .val (.int d), .val (.int fl), .val (.int (0 : Int32)), .val (.int (0 : Int32)), .val (.ref b4), .val (.ref b8), .val (.ref b12), .val (.ref b16), .val (.int (0 : Int32)), .val (.int (1 : Int32)), .val (.int (0 : Int32)), .val (.int (0 : Int32)), .val (.int (0 : Int32)), .val (.int (-1 : Int32)), .val (.int (1 : Int32)), .unset] []
              refine w_iconst ok at_317 (v := (1 : Int32)) rfl ?_
              refine w_goto ok at_318 (pc' := 322) (by decide) ?_
              refine w_istore ok at_322 (L' := #[.val (.int a), .val (.int b), .val (.int c), .val (.int d), .val (.int fl), .val (.int (0 : Int32)), .val (.int (0 : Int32)), .val (.ref b4), .val (.ref b8), .val (.ref b12), .val (.ref b16), .val (.int (0 : Int32)), .val (.int (1 : Int32)), .val (.int (0 : Int32)), .val (.int (0 : Int32)), .val (.int (0 : Int32)), .val (.int (-1 : Int32)), .val (.int (1 : Int32)), .unset]) rfl ?_
              refine w_iload ok at_324 rfl ?_
              refine w_bret ok (by simp) at_326 (by decide) (by decide) ?_
              exact rfl
            · obtain ⟨-, r, u', -, hF, -⟩ := qv114; exact (own_hit (E := fun k => own_eqr 2 [a, b, c, d, (0 : Int32), (0 : Int32), (0 : Int32), (0 : Int32)] [a, b] k = 1) hF (by rw [← hr0]; simp [upd, Ne.symm ne10]) (own_eqk' rfl)).elim
    · show W K l _ n0 _ h0 0 0 21 #[.val (.int a), .val (.int b), .val (.int c), .val (.int d), .val (.int fl), .val (.int (0 : Int32)), .unset, .unset, .unset, .unset, .unset, .unset, .unset, .unset, .unset, .unset, .unset, .unset, .unset] []
      refine w_iconst ok at_21 (v := (1 : Int32)) rfl ?_
      refine w_goto ok at_22 (pc' := 26) (by decide) ?_
      refine w_istore ok at_26 (L' := #[.val (.int a), .val (.int b), .val (.int c), .val (.int d), .val (.int fl), .val (.int (0 : Int32)), .val (.int (1 : Int32)), .unset, .unset, .unset, .unset, .unset, .unset, .unset, .unset, .unset, .unset, .unset, .unset]) rfl ?_
      refine w_iconst ok at_28 (v := (2 : Int32)) rfl ?_
      refine w_newarray ok at_29 (hw _ (List.mem_of_getElem? (i := 0) rfl)) (by decide) (cap := 2) (by decide) (by decide) (by decide) (by decide) (fun h139 b138 ea_b138 ge_b138 E_b138 A_b138 => ?_)
      replace A_b138 : PA .int Z h139 b138 [(.int (0 : Int32)), (.int (0 : Int32))] := A_b138
      refine w_dup ok at_31 rfl ?_
      refine w_iconst ok at_32 (v := (0 : Int32)) rfl ?_
      refine w_iloadN ok at_33 rfl ?_
      refine w_iastore ok at_34 A_b138 ge_b138 (by decide) (Nat.le_of_ble_eq_true rfl) (fun h140 W_h140 A1_h140 => ?_)
      replace A_b138 : PA .int Z h140 b138 [(.int a), (.int (0 : Int32))] := A1_h140
      refine w_dup ok at_35 rfl ?_
      refine w_iconst ok at_36 (v := (1 : Int32)) rfl ?_
      refine w_iloadN ok at_37 rfl ?_
      refine w_iastore ok at_38 A_b138 ge_b138 (by decide) (Nat.le_of_ble_eq_true rfl) (fun h141 W_h141 A1_h141 => ?_)
      replace A_b138 : PA .int Z h141 b138 [(.int a), (.int b)] := A1_h141
      refine w_astore ok at_39 rfl (L' := #[.val (.int a), .val (.int b), .val (.int c), .val (.int d), .val (.int fl), .val (.int (0 : Int32)), .val (.int (1 : Int32)), .val (.ref b138), .unset, .unset, .unset, .unset, .unset, .unset, .unset, .unset, .unset, .unset, .unset]) rfl ?_
      refine w_iconst ok at_41 (v := (2 : Int32)) rfl ?_
      refine w_newarray ok at_42 (hw _ (List.mem_of_getElem? (i := 0) rfl)) (by decide) (cap := 2) (by decide) (by decide) (by decide) (by decide) (fun h143 b142 ea_b142 ge_b142 E_b142 A_b142 => ?_)
      have ne_b138_b142 : b138 ≠ b142 := fun q => Nat.lt_irrefl _ (Nat.lt_of_lt_of_eq A_b138.lt (ea_b142.symm.trans q.symm))
      replace A_b138 := A_b138.ext E_b142
      replace A_b142 : PA .int Z h143 b142 [(.int (0 : Int32)), (.int (0 : Int32))] := A_b142
      refine w_dup ok at_44 rfl ?_
      refine w_iconst ok at_45 (v := (0 : Int32)) rfl ?_
      refine w_iloadN ok at_46 rfl ?_
      refine w_iastore ok at_47 A_b142 ge_b142 (by decide) (Nat.le_of_ble_eq_true rfl) (fun h144 W_h144 A1_h144 => ?_)
      replace A_b138 := A_b138.other W_h144 ne_b138_b142
      replace A_b142 : PA .int Z h144 b142 [(.int c), (.int (0 : Int32))] := A1_h144
      refine w_dup ok at_48 rfl ?_
      refine w_iconst ok at_49 (v := (1 : Int32)) rfl ?_
      refine w_iloadN ok at_50 rfl ?_
      refine w_iastore ok at_51 A_b142 ge_b142 (by decide) (Nat.le_of_ble_eq_true rfl) (fun h145 W_h145 A1_h145 => ?_)
      replace A_b138 := A_b138.other W_h145 ne_b138_b142
      replace A_b142 : PA .int Z h145 b142 [(.int c), (.int d)] := A1_h145
      refine w_astore ok at_52 rfl (L' := #[.val (.int a), .val (.int b), .val (.int c), .val (.int d), .val (.int fl), .val (.int (0 : Int32)), .val (.int (1 : Int32)), .val (.ref b138), .val (.ref b142), .unset, .unset, .unset, .unset, .unset, .unset, .unset, .unset, .unset, .unset]) rfl ?_
      refine w_iconst ok at_54 (v := (2 : Int32)) rfl ?_
      refine w_newarray ok at_55 (hw _ (List.mem_of_getElem? (i := 0) rfl)) (by decide) (cap := 2) (by decide) (by decide) (by decide) (by decide) (fun h147 b146 ea_b146 ge_b146 E_b146 A_b146 => ?_)
      have ne_b138_b146 : b138 ≠ b146 := fun q => Nat.lt_irrefl _ (Nat.lt_of_lt_of_eq A_b138.lt (ea_b146.symm.trans q.symm))
      have ne_b142_b146 : b142 ≠ b146 := fun q => Nat.lt_irrefl _ (Nat.lt_of_lt_of_eq A_b142.lt (ea_b146.symm.trans q.symm))
      replace A_b138 := A_b138.ext E_b146
      replace A_b142 := A_b142.ext E_b146
      replace A_b146 : PA .int Z h147 b146 [(.int (0 : Int32)), (.int (0 : Int32))] := A_b146
      refine w_dup ok at_57 rfl ?_
      refine w_iconst ok at_58 (v := (0 : Int32)) rfl ?_
      refine w_iloadN ok at_59 rfl ?_
      refine w_iastore ok at_60 A_b146 ge_b146 (by decide) (Nat.le_of_ble_eq_true rfl) (fun h148 W_h148 A1_h148 => ?_)
      replace A_b138 := A_b138.other W_h148 ne_b138_b146
      replace A_b142 := A_b142.other W_h148 ne_b142_b146
      replace A_b146 : PA .int Z h148 b146 [(.int a), (.int (0 : Int32))] := A1_h148
      refine w_dup ok at_61 rfl ?_
      refine w_iconst ok at_62 (v := (1 : Int32)) rfl ?_
      refine w_iloadN ok at_63 rfl ?_
      refine w_iastore ok at_64 A_b146 ge_b146 (by decide) (Nat.le_of_ble_eq_true rfl) (fun h149 W_h149 A1_h149 => ?_)
      replace A_b138 := A_b138.other W_h149 ne_b138_b146
      replace A_b142 := A_b142.other W_h149 ne_b142_b146
      replace A_b146 : PA .int Z h149 b146 [(.int a), (.int b)] := A1_h149
      refine w_astore ok at_65 rfl (L' := #[.val (.int a), .val (.int b), .val (.int c), .val (.int d), .val (.int fl), .val (.int (0 : Int32)), .val (.int (1 : Int32)), .val (.ref b138), .val (.ref b142), .val (.ref b146), .unset, .unset, .unset, .unset, .unset, .unset, .unset, .unset, .unset]) rfl ?_
      refine w_new ok at_67 (hw _ (List.mem_of_getElem? (i := 1) rfl)) (hw _ (List.mem_of_getElem? (i := 2) rfl)) (hw _ (List.mem_of_getElem? (i := 3) rfl)) (la_FactTable hw) (by decide) (by decide) (fun h151 b150 ea_b150 ge_b150 E_b150 A_b150 => ?_)
      have ne_b138_b150 : b138 ≠ b150 := fun q => Nat.lt_irrefl _ (Nat.lt_of_lt_of_eq A_b138.lt (ea_b150.symm.trans q.symm))
      have ne_b142_b150 : b142 ≠ b150 := fun q => Nat.lt_irrefl _ (Nat.lt_of_lt_of_eq A_b142.lt (ea_b150.symm.trans q.symm))
      have ne_b146_b150 : b146 ≠ b150 := fun q => Nat.lt_irrefl _ (Nat.lt_of_lt_of_eq A_b146.lt (ea_b150.symm.trans q.symm))
      replace A_b138 := A_b138.ext E_b150
      replace A_b142 := A_b142.ext E_b150
      replace A_b146 := A_b146.ext E_b150
      replace A_b150 : Ob Z h151 b150 "com/example/hornconv/hornconv/FactTable" fl_FactTable [.null, .null, (.int (0 : Int32)), .null, .null, .null, .null, (.int (0 : Int32)), (.int (0 : Int32)), (.int (0 : Int32))] := A_b150
      refine w_dup ok at_70 rfl ?_
      refine w_iconst ok at_71 (v := (2 : Int32)) rfl ?_
      refine w_callI ok (y := (⟨"com/example/hornconv/hornconv/FactTable", "<init>", "(I)V"⟩ : MethodName)) (a := b150) (argsL := [(.int (2 : Int32))]) (rest := [(.ref b150)]) at_72 rfl (hw _ (List.mem_of_getElem? (i := 4) rfl)) (hw _ (List.mem_of_getElem? (i := 5) rfl)) (hw _ (List.mem_of_getElem? (i := 3) rfl)) (hw _ (List.mem_of_getElem? (i := 6) rfl)) (by decide) pd_28I29V rfl rfl (by decide) (Nat.le_of_ble_eq_true rfl) (by decide) (by decide) (fun z0 => rm_ctor l Z a0 hw [] n0 h151 z0 b150 A_b150 ge_b150) (fun v152 h153 qv152 => ?_)
      obtain ⟨rfl, un, me, ag, de, sl, po, ⟨z1, z2, z3, z4⟩, ⟨g1, g2, g3, g4⟩, ⟨nn0, nn1, nn2, nn3, nn4, nn5, nn6, nn7, nn8, nn9⟩, K1, A1, A_ag, A_de, A_sl, A_po⟩ := qv152
      have ne_b138_ag : b138 ≠ ag := Nat.ne_of_lt (Nat.lt_of_lt_of_le A_b138.lt z1)
      have ne_b142_ag : b142 ≠ ag := Nat.ne_of_lt (Nat.lt_of_lt_of_le A_b142.lt z1)
      have ne_b146_ag : b146 ≠ ag := Nat.ne_of_lt (Nat.lt_of_lt_of_le A_b146.lt z1)
      have ne_b150_ag : b150 ≠ ag := Nat.ne_of_lt (Nat.lt_of_lt_of_le A_b150.lt z1)
      have ne_b138_de : b138 ≠ de := Nat.ne_of_lt (Nat.lt_of_lt_of_le A_b138.lt z2)
      have ne_b142_de : b142 ≠ de := Nat.ne_of_lt (Nat.lt_of_lt_of_le A_b142.lt z2)
      have ne_b146_de : b146 ≠ de := Nat.ne_of_lt (Nat.lt_of_lt_of_le A_b146.lt z2)
      have ne_b150_de : b150 ≠ de := Nat.ne_of_lt (Nat.lt_of_lt_of_le A_b150.lt z2)
      have ne_b138_sl : b138 ≠ sl := Nat.ne_of_lt (Nat.lt_of_lt_of_le A_b138.lt z3)
      have ne_b142_sl : b142 ≠ sl := Nat.ne_of_lt (Nat.lt_of_lt_of_le A_b142.lt z3)
      have ne_b146_sl : b146 ≠ sl := Nat.ne_of_lt (Nat.lt_of_lt_of_le A_b146.lt z3)
      have ne_b150_sl : b150 ≠ sl := Nat.ne_of_lt (Nat.lt_of_lt_of_le A_b150.lt z3)
      have ne_b138_po : b138 ≠ po := Nat.ne_of_lt (Nat.lt_of_lt_of_le A_b138.lt z4)
      have ne_b142_po : b142 ≠ po := Nat.ne_of_lt (Nat.lt_of_lt_of_le A_b142.lt z4)
      have ne_b146_po : b146 ≠ po := Nat.ne_of_lt (Nat.lt_of_lt_of_le A_b146.lt z4)
      have ne_b150_po : b150 ≠ po := Nat.ne_of_lt (Nat.lt_of_lt_of_le A_b150.lt z4)
      replace A_b138 := A_b138.keep K1 (ninS ne_b138_b150 nin0)
      replace A_b142 := A_b142.keep K1 (ninS ne_b142_b150 nin0)
      replace A_b146 := A_b146.keep K1 (ninS ne_b146_b150 nin0)
      replace A_b150 := A1
      show W K l _ n0 _ h153 10 39 75 #[.val (.int a), .val (.int b), .val (.int c), .val (.int d), .val (.int fl), .val (.int (0 : Int32)), .val (.int (1 : Int32)), .val (.ref b138), .val (.ref b142), .val (.ref b146), .unset, .unset, .unset, .unset, .unset, .unset, .unset, .unset, .unset] [(.ref b150)]
      refine w_astore ok at_75 rfl (L' := #[.val (.int a), .val (.int b), .val (.int c), .val (.int d), .val (.int fl), .val (.int (0 : Int32)), .val (.int (1 : Int32)), .val (.ref b138), .val (.ref b142), .val (.ref b146), .val (.ref b150), .unset, .unset, .unset, .unset, .unset, .unset, .unset, .unset]) rfl ?_
      refine w_aload ok at_77 rfl rfl ?_
      refine w_aload ok at_79 rfl rfl ?_
      refine w_callV ok (y := (⟨"com/example/hornconv/hornconv/FactTable", "add", "([I)I"⟩ : MethodName)) (a := b150) (argsL := [(.ref b138)]) (rest := []) at_81 (hw _ (List.mem_of_getElem? (i := 32) rfl)) (hw _ (List.mem_of_getElem? (i := 33) rfl)) (hw _ (List.mem_of_getElem? (i := 35) rfl)) (hw _ (List.mem_of_getElem? (i := 34) rfl)) (hw _ (List.mem_of_getElem? (i := 3) rfl)) (hw _ (List.mem_of_getElem? (i := 36) rfl)) (by decide) A_b150.1 pd_285bI29I rfl rfl (by decide) (Nat.le_of_ble_eq_true rfl) (by decide) (by decide) (fun z0 => rm_add0 l Z a0 hw [] n0 h153 z0 b150 b138 un me ag de sl po (0 : Int32) (0 : Int32) (0 : Int32) (0 : Int32) (0 : Int32) (0 : Int32) (0 : Int32) (0 : Int32) (0 : Int32) (0 : Int32) (0 : Int32) (0 : Int32) (0 : Int32) (0 : Int32) a b f00 A_b150 A_ag A_de A_sl A_po A_b138 ge_b150 g1 g3 nn0 nn1 nn2 nn3 (Ne.symm ne_b138_b150) nn4 nn5 nn6 (Ne.symm ne_b138_ag) nn7 nn9 (Ne.symm ne_b138_sl) own_rw0 (own_free 8 8 (fun _ _ _ _ => rfl)) (by decide)) (fun v154 h155 qv154 => ?_)
      rcases qv154 with qv154 | qv154
      · obtain ⟨-, -, r, -, h1, -⟩ := qv154; exact absurd (show (-1 : Int32) < 0 by decide) h1
      · skip
        obtain ⟨rfl, r0, u0, h8_r0, hF_r0, hu_r0, K1, A1, A2, A3⟩ := qv154
        replace A_b138 := A_b138.keep K1 (ninS ne_b138_b150 (ninS ne_b138_ag (ninS ne_b138_sl nin0)))
        replace A_b142 := A_b142.keep K1 (ninS ne_b142_b150 (ninS ne_b142_ag (ninS ne_b142_sl nin0)))
        replace A_b146 := A_b146.keep K1 (ninS ne_b146_b150 (ninS ne_b146_ag (ninS ne_b146_sl nin0)))
        replace A_de := A_de.keep K1 (ninS (Ne.symm nn1) (ninS (Ne.symm nn4) (ninS nn7 nin0)))
        replace A_po := A_po.keep K1 (ninS (Ne.symm nn3) (ninS (Ne.symm nn6) (ninS (Ne.symm nn9) nin0)))
        replace A_b150 := A1
        replace A_ag := A2
        replace A_sl := A3
        have hus_u0 : 0 ≤ u0.toInt ∧ u0.toInt ≤ 1 := by have q := hu_r0; have z : (0 : Int32).toInt = 0 := rfl; omega
        have hr0 := own_first (E := fun k => own_eqr 2 [(0 : Int32), (0 : Int32), (0 : Int32), (0 : Int32), (0 : Int32), (0 : Int32), (0 : Int32), (0 : Int32)] [a, b] k = 1) hF_r0
        have hRn156 : Rw (upd f00 r0 0) := own_rwu own_rw0 (by decide)
        have hNn156 := own_free (f := (upd f00 r0 0)) r0 r0 (fun j _ h0 h1 => by simp [upd, h0, h1])
        show W K l _ n0 _ h155 10 39 84 #[.val (.int a), .val (.int b), .val (.int c), .val (.int d), .val (.int fl), .val (.int (0 : Int32)), .val (.int (1 : Int32)), .val (.ref b138), .val (.ref b142), .val (.ref b146), .val (.ref b150), .unset, .unset, .unset, .unset, .unset, .unset, .unset, .unset] [(.int (0 : Int32))]
        refine w_istore ok at_84 (L' := #[.val (.int a), .val (.int b), .val (.int c), .val (.int d), .val (.int fl), .val (.int (0 : Int32)), .val (.int (1 : Int32)), .val (.ref b138), .val (.ref b142), .val (.ref b146), .val (.ref b150), .val (.int (0 : Int32)), .unset, .unset, .unset, .unset, .unset, .unset, .unset]) rfl ?_
        refine w_aload ok at_86 rfl rfl ?_
        refine w_aload ok at_88 rfl rfl ?_
        refine w_callV ok (y := (⟨"com/example/hornconv/hornconv/FactTable", "add", "([I)I"⟩ : MethodName)) (a := b150) (argsL := [(.ref b142)]) (rest := []) at_90 (hw _ (List.mem_of_getElem? (i := 32) rfl)) (hw _ (List.mem_of_getElem? (i := 33) rfl)) (hw _ (List.mem_of_getElem? (i := 35) rfl)) (hw _ (List.mem_of_getElem? (i := 34) rfl)) (hw _ (List.mem_of_getElem? (i := 3) rfl)) (hw _ (List.mem_of_getElem? (i := 36) rfl)) (by decide) A_b150.1 pd_285bI29I rfl rfl (by decide) (Nat.le_of_ble_eq_true rfl) (by decide) (by decide) (fun z0 => rm_add1 l Z a0 hw [] n0 h155 z0 b150 b142 un me ag de sl po ((0 : Int32) + 1) u0 a b (0 : Int32) (0 : Int32) (0 : Int32) (0 : Int32) (0 : Int32) (0 : Int32) (0 : Int32) (0 : Int32) (0 : Int32) (0 : Int32) c d (upd f00 r0 0) A_b150 A_ag A_de A_sl A_po A_b142 ge_b150 g1 g3 nn0 nn1 nn2 nn3 (Ne.symm ne_b142_b150) nn4 nn5 nn6 (Ne.symm ne_b142_ag) nn7 nn9 (Ne.symm ne_b142_sl) hRn156 hNn156 (by omega)) (fun v157 h158 qv157 => ?_)
        rcases qv157 with qv157 | qv157
        · skip
          obtain ⟨rfl, rfl, ra1, hA8_1, hA1_1, hA2_1⟩ := qv157
          obtain ⟨s1, s2⟩ := own_sA hA1_1 hA2_1
          show W K l _ n0 _ h155 10 39 93 #[.val (.int a), .val (.int b), .val (.int c), .val (.int d), .val (.int fl), .val (.int (0 : Int32)), .val (.int (1 : Int32)), .val (.ref b138), .val (.ref b142), .val (.ref b146), .val (.ref b150), .val (.int (0 : Int32)), .unset, .unset, .unset, .unset, .unset, .unset, .unset] [(.int (-1 : Int32))]
          refine w_istore ok at_93 (L' := #[.val (.int a), .val (.int b), .val (.int c), .val (.int d), .val (.int fl), .val (.int (0 : Int32)), .val (.int (1 : Int32)), .val (.ref b138), .val (.ref b142), .val (.ref b146), .val (.ref b150), .val (.int (0 : Int32)), .val (.int (-1 : Int32)), .unset, .unset, .unset, .unset, .unset, .unset]) rfl ?_
          refine w_iloadN ok at_95 rfl ?_
          refine w_iloadN ok at_96 rfl ?_
          refine w_icmp_ne ok at_97 (pc' := 109) (by decide) (fun hc160 => False.elim (by exact hc160 s1)) (fun hc160 => ?_)
          show W K l _ n0 _ h155 10 39 100 #[.val (.int a), .val (.int b), .val (.int c), .val (.int d), .val (.int fl), .val (.int (0 : Int32)), .val (.int (1 : Int32)), .val (.ref b138), .val (.ref b142), .val (.ref b146), .val (.ref b150), .val (.int (0 : Int32)), .val (.int (-1 : Int32)), .unset, .unset, .unset, .unset, .unset, .unset] []
          refine w_iloadN ok at_100 rfl ?_
          refine w_iloadN ok at_101 rfl ?_
          refine w_icmp_ne ok at_102 (pc' := 109) (by decide) (fun hc162 => False.elim (by exact hc162 s2)) (fun hc162 => ?_)
          show W K l _ n0 _ h155 10 39 105 #[.val (.int a), .val (.int b), .val (.int c), .val (.int d), .val (.int fl), .val (.int (0 : Int32)), .val (.int (1 : Int32)), .val (.ref b138), .val (.ref b142), .val (.ref b146), .val (.ref b150), .val (.int (0 : Int32)), .val (.int (-1 : Int32)), .unset, .unset, .unset, .unset, .unset, .unset] []
          refine w_iconst ok at_105 (v := (1 : Int32)) rfl ?_
          refine w_goto ok at_106 (pc' := 110) (by decide) ?_
          refine w_istore ok at_110 (L' := #[.val (.int a), .val (.int b), .val (.int c), .val (.int d), .val (.int fl), .val (.int (0 : Int32)), .val (.int (1 : Int32)), .val (.ref b138), .val (.ref b142), .val (.ref b146), .val (.ref b150), .val (.int (0 : Int32)), .val (.int (-1 : Int32)), .val (.int (1 : Int32)), .unset, .unset, .unset, .unset, .unset]) rfl ?_
          refine w_iload ok at_112 rfl ?_
          refine w_if_eq ok at_114 (pc' := 119) (by decide) (fun hc164 => ?_) (fun hc164 => False.elim (by revert hc164; decide))
          show W K l _ n0 _ h155 10 39 119 #[.val (.int a), .val (.int b), .val (.int c), .val (.int d), .val (.int fl), .val (.int (0 : Int32)), .val (.int (1 : Int32)), .val (.ref b138), .val (.ref b142), .val (.ref b146), .val (.ref b150), .val (.int (0 : Int32)), .val (.int (-1 : Int32)), .val (.int (1 : Int32)), .unset, .unset, .unset, .unset, .unset] []
          refine w_iload ok at_119 rfl ?_
          refine w_if_eq ok at_121 (pc' := 133) (by decide) (fun hc166 => False.elim (by revert hc166; decide)) (fun hc166 => ?_)
          show W K l _ n0 _ h155 10 39 124 #[.val (.int a), .val (.int b), .val (.int c), .val (.int d), .val (.int fl), .val (.int (0 : Int32)), .val (.int (1 : Int32)), .val (.ref b138), .val (.ref b142), .val (.ref b146), .val (.ref b150), .val (.int (0 : Int32)), .val (.int (-1 : Int32)), .val (.int (1 : Int32)), .unset, .unset, .unset, .unset, .unset] []
          refine w_iload ok at_124 rfl ?_
          refine w_iconst ok at_126 (v := (-1 : Int32)) rfl ?_
          refine w_icmp_eq ok at_127 (pc' := 141) (by decide) (fun hc168 => ?_) (fun hc168 => False.elim (by revert hc168; decide))
          show W K l _ n0 _ h155 10 39 141 #[.val (.int a), .val (.int b), .val (.int c), .val (.int d), .val (.int fl), .val (.int (0 : Int32)), .val (.int (1 : Int32)), .val (.ref b138), .val (.ref b142), .val (.ref b146), .val (.ref b150), .val (.int (0 : Int32)), .val (.int (-1 : Int32)), .val (.int (1 : Int32)), .unset, .unset, .unset, .unset, .unset] []
          refine w_iload ok at_141 rfl ?_
          refine w_istore ok at_143 (L' := #[.val (.int a), .val (.int b), .val (.int c), .val (.int d), .val (.int fl), .val (.int (0 : Int32)), .val (.int (1 : Int32)), .val (.ref b138), .val (.ref b142), .val (.ref b146), .val (.ref b150), .val (.int (0 : Int32)), .val (.int (-1 : Int32)), .val (.int (1 : Int32)), .val (.int (0 : Int32)), .unset, .unset, .unset, .unset]) rfl ?_
          refine w_iload ok at_145 rfl ?_
          refine w_if_lt ok at_147 (pc' := 159) (by decide) (fun hc170 => ?_) (fun hc170 => False.elim (by revert hc170; decide))
          show W K l _ n0 _ h155 10 39 159 #[.val (.int a), .val (.int b), .val (.int c), .val (.int d), .val (.int fl), .val (.int (0 : Int32)), .val (.int (1 : Int32)), .val (.ref b138), .val (.ref b142), .val (.ref b146), .val (.ref b150), .val (.int (0 : Int32)), .val (.int (-1 : Int32)), .val (.int (1 : Int32)), .val (.int (0 : Int32)), .unset, .unset, .unset, .unset] []
          refine w_iconst ok at_159 (v := (0 : Int32)) rfl ?_
          refine w_istore ok at_160 (L' := #[.val (.int a), .val (.int b), .val (.int c), .val (.int d), .val (.int fl), .val (.int (0 : Int32)), .val (.int (1 : Int32)), .val (.ref b138), .val (.ref b142), .val (.ref b146), .val (.ref b150), .val (.int (0 : Int32)), .val (.int (-1 : Int32)), .val (.int (1 : Int32)), .val (.int (0 : Int32)), .val (.int (0 : Int32)), .unset, .unset, .unset]) rfl ?_
          refine w_iload ok at_162 rfl ?_
          refine w_if_eq ok at_164 (pc' := 173) (by decide) (fun hc172 => ?_) (fun hc172 => False.elim (by revert hc172; decide))
          show W K l _ n0 _ h155 10 39 173 #[.val (.int a), .val (.int b), .val (.int c), .val (.int d), .val (.int fl), .val (.int (0 : Int32)), .val (.int (1 : Int32)), .val (.ref b138), .val (.ref b142), .val (.ref b146), .val (.ref b150), .val (.int (0 : Int32)), .val (.int (-1 : Int32)), .val (.int (1 : Int32)), .val (.int (0 : Int32)), .val (.int (0 : Int32)), .unset, .unset, .unset] []
          refine w_iload ok at_173 rfl ?_
          refine w_if_eq ok at_175 (pc' := 185) (by decide) (fun hc174 => ?_) (fun hc174 => False.elim (by revert hc174; decide))
          show W K l _ n0 _ h155 10 39 185 #[.val (.int a), .val (.int b), .val (.int c), .val (.int d), .val (.int fl), .val (.int (0 : Int32)), .val (.int (1 : Int32)), .val (.ref b138), .val (.ref b142), .val (.ref b146), .val (.ref b150), .val (.int (0 : Int32)), .val (.int (-1 : Int32)), .val (.int (1 : Int32)), .val (.int (0 : Int32)), .val (.int (0 : Int32)), .unset, .unset, .unset] []
          refine w_aload ok at_185 rfl rfl ?_
          refine w_aload ok at_187 rfl rfl ?_
          refine w_callV ok (y := (⟨"com/example/hornconv/hornconv/FactTable", "add", "([I)I"⟩ : MethodName)) (a := b150) (argsL := [(.ref b146)]) (rest := []) at_189 (hw _ (List.mem_of_getElem? (i := 32) rfl)) (hw _ (List.mem_of_getElem? (i := 33) rfl)) (hw _ (List.mem_of_getElem? (i := 35) rfl)) (hw _ (List.mem_of_getElem? (i := 34) rfl)) (hw _ (List.mem_of_getElem? (i := 3) rfl)) (hw _ (List.mem_of_getElem? (i := 36) rfl)) (by decide) A_b150.1 pd_285bI29I rfl rfl (by decide) (Nat.le_of_ble_eq_true rfl) (by decide) (by decide) (fun z0 => rm_add1 l Z a0 hw [] n0 h155 z0 b150 b146 un me ag de sl po ((0 : Int32) + 1) u0 a b (0 : Int32) (0 : Int32) (0 : Int32) (0 : Int32) (0 : Int32) (0 : Int32) (0 : Int32) (0 : Int32) (0 : Int32) (0 : Int32) a b (upd f00 r0 0) A_b150 A_ag A_de A_sl A_po A_b146 ge_b150 g1 g3 nn0 nn1 nn2 nn3 (Ne.symm ne_b146_b150) nn4 nn5 nn6 (Ne.symm ne_b146_ag) nn7 nn9 (Ne.symm ne_b146_sl) hRn156 hNn156 (by omega)) (fun v175 h176 qv175 => ?_)
          rcases qv175 with qv175 | qv175
          · skip
            obtain ⟨rfl, rfl, ra2, hA8_2, hA1_2, hA2_2⟩ := qv175
            show W K l _ n0 _ h155 10 39 192 #[.val (.int a), .val (.int b), .val (.int c), .val (.int d), .val (.int fl), .val (.int (0 : Int32)), .val (.int (1 : Int32)), .val (.ref b138), .val (.ref b142), .val (.ref b146), .val (.ref b150), .val (.int (0 : Int32)), .val (.int (-1 : Int32)), .val (.int (1 : Int32)), .val (.int (0 : Int32)), .val (.int (0 : Int32)), .unset, .unset, .unset] [(.int (-1 : Int32))]
            refine w_istore ok at_192 (L' := #[.val (.int a), .val (.int b), .val (.int c), .val (.int d), .val (.int fl), .val (.int (0 : Int32)), .val (.int (1 : Int32)), .val (.ref b138), .val (.ref b142), .val (.ref b146), .val (.ref b150), .val (.int (0 : Int32)), .val (.int (-1 : Int32)), .val (.int (1 : Int32)), .val (.int (0 : Int32)), .val (.int (0 : Int32)), .val (.int (-1 : Int32)), .unset, .unset]) rfl ?_
            refine w_aload ok at_194 rfl rfl ?_
            refine w_iconst ok at_196 (v := (0 : Int32)) rfl ?_
            refine w_callV ok (y := (⟨"com/example/hornconv/hornconv/FactTable", "isLive", "(I)Z"⟩ : MethodName)) (a := b150) (argsL := [(.int (0 : Int32))]) (rest := []) at_197 (hw _ (List.mem_of_getElem? (i := 60) rfl)) (hw _ (List.mem_of_getElem? (i := 61) rfl)) (hw _ (List.mem_of_getElem? (i := 63) rfl)) (hw _ (List.mem_of_getElem? (i := 62) rfl)) (hw _ (List.mem_of_getElem? (i := 3) rfl)) (hw _ (List.mem_of_getElem? (i := 64) rfl)) (by decide) A_b150.1 pd_28I29Z rfl rfl (by decide) (Nat.le_of_ble_eq_true rfl) (by decide) (by decide) (fun z0 => rm_live0 l Z a0 hw [] n0 h155 z0 b150 un me ag de sl po (1 : Int32) ((0 : Int32) + 1) u0 (0 : Int32) (0 : Int32) (0 : Int32) (0 : Int32) A_b150 A_de) (fun v177 h178 qv177 => ?_)
            obtain ⟨rfl, rfl⟩ := qv177
            rw [show own_live (0 : Int32) = 1 from rfl]
            show W K l _ n0 _ h155 10 39 200 #[.val (.int a), .val (.int b), .val (.int c), .val (.int d), .val (.int fl), .val (.int (0 : Int32)), .val (.int (1 : Int32)), .val (.ref b138), .val (.ref b142), .val (.ref b146), .val (.ref b150), .val (.int (0 : Int32)), .val (.int (-1 : Int32)), .val (.int (1 : Int32)), .val (.int (0 : Int32)), .val (.int (0 : Int32)), .val (.int (-1 : Int32)), .unset, .unset] [(.int (1 : Int32))]
            refine w_iload ok at_200 rfl ?_
            refine w_if_ne ok at_202 (pc' := 209) (by decide) (fun hc180 => False.elim (by revert hc180; decide)) (fun hc180 => ?_)
            show W K l _ n0 _ h155 10 39 205 #[.val (.int a), .val (.int b), .val (.int c), .val (.int d), .val (.int fl), .val (.int (0 : Int32)), .val (.int (1 : Int32)), .val (.ref b138), .val (.ref b142), .val (.ref b146), .val (.ref b150), .val (.int (0 : Int32)), .val (.int (-1 : Int32)), .val (.int (1 : Int32)), .val (.int (0 : Int32)), .val (.int (0 : Int32)), .val (.int (-1 : Int32)), .unset, .unset] [(.int (1 : Int32))]
            refine w_iconst ok at_205 (v := (1 : Int32)) rfl ?_
            refine w_goto ok at_206 (pc' := 210) (by decide) ?_
            refine w_icmp_ne ok at_210 (pc' := 217) (by decide) (fun hc182 => False.elim (by revert hc182; decide)) (fun hc182 => ?_)
            show W K l _ n0 _ h155 10 39 213 #[.val (.int a), .val (.int b), .val (.int c), .val (.int d), .val (.int fl), .val (.int (0 : Int32)), .val (.int (1 : Int32)), .val (.ref b138), .val (.ref b142), .val (.ref b146), .val (.ref b150), .val (.int (0 : Int32)), .val (.int (-1 : Int32)), .val (.int (1 : Int32)), .val (.int (0 : Int32)), .val (.int (0 : Int32)), .val (.int (-1 : Int32)), .unset, .unset] []
            refine w_iconst ok at_213 (v := (1 : Int32)) rfl ?_
            refine w_goto ok at_214 (pc' := 218) (by decide) ?_
            refine w_istore ok at_218 (L' := #[.val (.int a), .val (.int b), .val (.int c), .val (.int d), .val (.int fl), .val (.int (0 : Int32)), .val (.int (1 : Int32)), .val (.ref b138), .val (.ref b142), .val (.ref b146), .val (.ref b150), .val (.int (0 : Int32)), .val (.int (-1 : Int32)), .val (.int (1 : Int32)), .val (.int (0 : Int32)), .val (.int (0 : Int32)), .val (.int (-1 : Int32)), .val (.int (1 : Int32)), .unset]) rfl ?_
            refine w_iload ok at_220 rfl ?_
            refine w_if_lt ok at_222 (pc' := 257) (by decide) (fun hc184 => ?_) (fun hc184 => False.elim (by revert hc184; decide))
            show W K l _ n0 _ h155 10 39 257 #[.val (.int a), .val (.int b), .val (.int c), .val (.int d), .val (.int fl), .val (.int (0 : Int32)), .val (.int (1 : Int32)), .val (.ref b138), .val (.ref b142), .val (.ref b146), .val (.ref b150), .val (.int (0 : Int32)), .val (.int (-1 : Int32)), .val (.int (1 : Int32)), .val (.int (0 : Int32)), .val (.int (0 : Int32)), .val (.int (-1 : Int32)), .val (.int (1 : Int32)), .unset] []
            refine w_iload ok at_257 rfl ?_
            refine w_if_eq ok at_259 (pc' := 306) (by decide) (fun hc186 => ?_) (fun hc186 => False.elim (by revert hc186; decide))
            show W K l _ n0 _ h155 10 39 306 #[.val (.int a), .val (.int b), .val (.int c), .val (.int d), .val (.int fl), .val (.int (0 : Int32)), .val (.int (1 : Int32)), .val (.ref b138), .val (.ref b142), .val (.ref b146), .val (.ref b150), .val (.int (0 : Int32)), .val (.int (-1 : Int32)), .val (.int (1 : Int32)), .val (.int (0 : Int32)), .val (.int (0 : Int32)), .val (.int (-1 : Int32)), .val (.int (1 : Int32)), .unset] []
            refine w_iload ok at_306 rfl ?_
            refine w_if_eq ok at_308 (pc' := 321) (by decide) (fun hc188 => False.elim (by revert hc188; decide)) (fun hc188 => ?_)
            show W K l _ n0 _ h155 10 39 311 #[.val (.int a), .val (.int b), .val (.int c), .val (.int d), .val (.int fl), .val (.int (0 : Int32)), .val (.int (1 : Int32)), .val (.ref b138), .val (.ref b142), .val (.ref b146), .val (.ref b150), .val (.int (0 : Int32)), .val (.int (-1 : Int32)), .val (.int (1 : Int32)), .val (.int (0 : Int32)), .val (.int (0 : Int32)), .val (.int (-1 : Int32)), .val (.int (1 : Int32)), .unset] []
            refine w_iload ok at_311 rfl ?_
            refine w_iconst ok at_313 (v := (-1 : Int32)) rfl ?_
            refine w_icmp_ne ok at_314 (pc' := 321) (by decide) (fun hc190 => False.elim (by revert hc190; decide)) (fun hc190 => ?_)
            show W K l _ n0 _ h155 10 39 317 #[.val (.int a), .val (.int b), .val (.int c), .val (.int d), .val (.int fl), .val (.int (0 : Int32)), .val (.int (1 : Int32)), .val (.ref b138), .val (.ref b142), .val (.ref b146), .val (.ref b150), .val (.int (0 : Int32)), .val (.int (-1 : Int32)), .val (.int (1 : Int32)), .val (.int (0 : Int32)), .val (.int (0 : Int32)), .val (.int (-1 : Int32)), .val (.int (1 : Int32)), .unset] []
            refine w_iconst ok at_317 (v := (1 : Int32)) rfl ?_
            refine w_goto ok at_318 (pc' := 322) (by decide) ?_
            refine w_istore ok at_322 (L' := #[.val (.int a), .val (.int b), .val (.int c), .val (.int d), .val (.int fl), .val (.int (0 : Int32)), .val (.int (1 : Int32)), .val (.ref b138), .val (.ref b142), .val (.ref b146), .val (.ref b150), .val (.int (0 : Int32)), .val (.int (-1 : Int32)), .val (.int (1 : Int32)), .val (.int (0 : Int32)), .val (.int (0 : Int32)), .val (.int (-1 : Int32)), .val (.int (1 : Int32)), .unset]) rfl ?_
            refine w_iload ok at_324 rfl ?_
            refine w_bret ok (by simp) at_326 (by decide) (by decide) ?_
            exact rfl
          · obtain ⟨-, r, u', -, hF, -⟩ := qv175; exact (own_hit (E := fun k => own_eqr 2 [a, b, (0 : Int32), (0 : Int32), (0 : Int32), (0 : Int32), (0 : Int32), (0 : Int32)] [a, b] k = 1) hF (by rw [← hr0]; simp [upd]) (own_eqk' rfl)).elim
        · skip
          obtain ⟨rfl, r1, u1, h8_r1, hF_r1, hu_r1, K1, A1, A2, A3⟩ := qv157
          replace A_b138 := A_b138.keep K1 (ninS ne_b138_b150 (ninS ne_b138_ag (ninS ne_b138_sl nin0)))
          replace A_b142 := A_b142.keep K1 (ninS ne_b142_b150 (ninS ne_b142_ag (ninS ne_b142_sl nin0)))
          replace A_b146 := A_b146.keep K1 (ninS ne_b146_b150 (ninS ne_b146_ag (ninS ne_b146_sl nin0)))
          replace A_de := A_de.keep K1 (ninS (Ne.symm nn1) (ninS (Ne.symm nn4) (ninS nn7 nin0)))
          replace A_po := A_po.keep K1 (ninS (Ne.symm nn3) (ninS (Ne.symm nn6) (ninS (Ne.symm nn9) nin0)))
          replace A_b150 := A1
          replace A_ag := A2
          replace A_sl := A3
          have hus_u1 : 0 ≤ u1.toInt ∧ u1.toInt ≤ 2 := by have q := hu_r1; have z : (0 : Int32).toInt = 0 := rfl; omega
          have nsame : ¬ (a = c ∧ b = d) := fun q => own_hit (E := fun k => own_eqr 2 [a, b, 0, 0, 0, 0, 0, 0] [c, d] k = 1) hF_r1 (by rw [← q.1, ← q.2, ← hr0]; exact upd_same _ _ _) (own_eqk' (by rw [← q.1, ← q.2]; rfl))
          have ne10 : r1 ≠ r0 := fun q => by have h := hF_r1.1; rw [q, upd_same] at h; exact absurd h (by decide)
          obtain ⟨i1, hr1⟩ := own_at (E := fun k => own_eqr 2 [a, b, (0 : Int32), (0 : Int32), (0 : Int32), (0 : Int32), (0 : Int32), (0 : Int32)] [c, d] k = 1) hF_r1
          have hRn191 : Rw (upd (upd f00 r0 0) r1 1) := own_rwu hRn156 (by decide)
          have hNn191 := own_free (f := (upd (upd f00 r0 0) r1 1)) r0 r1 (fun j _ h0 h1 => by simp [upd, h0, h1])
          show W K l _ n0 _ h158 10 39 93 #[.val (.int a), .val (.int b), .val (.int c), .val (.int d), .val (.int fl), .val (.int (0 : Int32)), .val (.int (1 : Int32)), .val (.ref b138), .val (.ref b142), .val (.ref b146), .val (.ref b150), .val (.int (0 : Int32)), .unset, .unset, .unset, .unset, .unset, .unset, .unset] [(.int (1 : Int32))]
          refine w_istore ok at_93 (L' := #[.val (.int a), .val (.int b), .val (.int c), .val (.int d), .val (.int fl), .val (.int (0 : Int32)), .val (.int (1 : Int32)), .val (.ref b138), .val (.ref b142), .val (.ref b146), .val (.ref b150), .val (.int (0 : Int32)), .val (.int (1 : Int32)), .unset, .unset, .unset, .unset, .unset, .unset]) rfl ?_
          refine w_iloadN ok at_95 rfl ?_
          refine w_iloadN ok at_96 rfl ?_
          refine w_icmp_ne ok at_97 (pc' := 109) (by decide) (fun hc193 => ?_) (fun hc193 => ?_)
          · show W K l _ n0 _ h158 10 39 109 #[.val (.int a), .val (.int b), .val (.int c), .val (.int d), .val (.int fl), .val (.int (0 : Int32)), .val (.int (1 : Int32)), .val (.ref b138), .val (.ref b142), .val (.ref b146), .val (.ref b150), .val (.int (0 : Int32)), .val (.int (1 : Int32)), .unset, .unset, .unset, .unset, .unset, .unset] []
            refine w_iconst ok at_109 (v := (0 : Int32)) rfl ?_
            refine w_istore ok at_110 (L' := #[.val (.int a), .val (.int b), .val (.int c), .val (.int d), .val (.int fl), .val (.int (0 : Int32)), .val (.int (1 : Int32)), .val (.ref b138), .val (.ref b142), .val (.ref b146), .val (.ref b150), .val (.int (0 : Int32)), .val (.int (1 : Int32)), .val (.int (0 : Int32)), .unset, .unset, .unset, .unset, .unset]) rfl ?_
            refine w_iload ok at_112 rfl ?_
            refine w_if_eq ok at_114 (pc' := 119) (by decide) (fun hc195 => ?_) (fun hc195 => False.elim (by revert hc195; decide))
            show W K l _ n0 _ h158 10 39 119 #[.val (.int a), .val (.int b), .val (.int c), .val (.int d), .val (.int fl), .val (.int (0 : Int32)), .val (.int (1 : Int32)), .val (.ref b138), .val (.ref b142), .val (.ref b146), .val (.ref b150), .val (.int (0 : Int32)), .val (.int (1 : Int32)), .val (.int (0 : Int32)), .unset, .unset, .unset, .unset, .unset] []
            refine w_iload ok at_119 rfl ?_
            refine w_if_eq ok at_121 (pc' := 133) (by decide) (fun hc197 => ?_) (fun hc197 => False.elim (by revert hc197; decide))
            show W K l _ n0 _ h158 10 39 133 #[.val (.int a), .val (.int b), .val (.int c), .val (.int d), .val (.int fl), .val (.int (0 : Int32)), .val (.int (1 : Int32)), .val (.ref b138), .val (.ref b142), .val (.ref b146), .val (.ref b150), .val (.int (0 : Int32)), .val (.int (1 : Int32)), .val (.int (0 : Int32)), .unset, .unset, .unset, .unset, .unset] []
            refine w_iload ok at_133 rfl ?_
            refine w_iconst ok at_135 (v := (1 : Int32)) rfl ?_
            refine w_icmp_eq ok at_136 (pc' := 141) (by decide) (fun hc199 => ?_) (fun hc199 => False.elim (by revert hc199; decide))
            show W K l _ n0 _ h158 10 39 141 #[.val (.int a), .val (.int b), .val (.int c), .val (.int d), .val (.int fl), .val (.int (0 : Int32)), .val (.int (1 : Int32)), .val (.ref b138), .val (.ref b142), .val (.ref b146), .val (.ref b150), .val (.int (0 : Int32)), .val (.int (1 : Int32)), .val (.int (0 : Int32)), .unset, .unset, .unset, .unset, .unset] []
            refine w_iload ok at_141 rfl ?_
            refine w_istore ok at_143 (L' := #[.val (.int a), .val (.int b), .val (.int c), .val (.int d), .val (.int fl), .val (.int (0 : Int32)), .val (.int (1 : Int32)), .val (.ref b138), .val (.ref b142), .val (.ref b146), .val (.ref b150), .val (.int (0 : Int32)), .val (.int (1 : Int32)), .val (.int (0 : Int32)), .val (.int (0 : Int32)), .unset, .unset, .unset, .unset]) rfl ?_
            refine w_iload ok at_145 rfl ?_
            refine w_if_lt ok at_147 (pc' := 159) (by decide) (fun hc201 => False.elim (by revert hc201; decide)) (fun hc201 => ?_)
            show W K l _ n0 _ h158 10 39 150 #[.val (.int a), .val (.int b), .val (.int c), .val (.int d), .val (.int fl), .val (.int (0 : Int32)), .val (.int (1 : Int32)), .val (.ref b138), .val (.ref b142), .val (.ref b146), .val (.ref b150), .val (.int (0 : Int32)), .val (.int (1 : Int32)), .val (.int (0 : Int32)), .val (.int (0 : Int32)), .unset, .unset, .unset, .unset] []
            refine w_iload ok at_150 rfl ?_
            refine w_if_eq ok at_152 (pc' := 159) (by decide) (fun hc203 => False.elim (by revert hc203; decide)) (fun hc203 => ?_)
            show W K l _ n0 _ h158 10 39 155 #[.val (.int a), .val (.int b), .val (.int c), .val (.int d), .val (.int fl), .val (.int (0 : Int32)), .val (.int (1 : Int32)), .val (.ref b138), .val (.ref b142), .val (.ref b146), .val (.ref b150), .val (.int (0 : Int32)), .val (.int (1 : Int32)), .val (.int (0 : Int32)), .val (.int (0 : Int32)), .unset, .unset, .unset, .unset] []
            refine w_iconst ok at_155 (v := (1 : Int32)) rfl ?_
            refine w_goto ok at_156 (pc' := 160) (by decide) ?_
            refine w_istore ok at_160 (L' := #[.val (.int a), .val (.int b), .val (.int c), .val (.int d), .val (.int fl), .val (.int (0 : Int32)), .val (.int (1 : Int32)), .val (.ref b138), .val (.ref b142), .val (.ref b146), .val (.ref b150), .val (.int (0 : Int32)), .val (.int (1 : Int32)), .val (.int (0 : Int32)), .val (.int (0 : Int32)), .val (.int (1 : Int32)), .unset, .unset, .unset]) rfl ?_
            refine w_iload ok at_162 rfl ?_
            refine w_if_eq ok at_164 (pc' := 173) (by decide) (fun hc205 => ?_) (fun hc205 => False.elim (by revert hc205; decide))
            show W K l _ n0 _ h158 10 39 173 #[.val (.int a), .val (.int b), .val (.int c), .val (.int d), .val (.int fl), .val (.int (0 : Int32)), .val (.int (1 : Int32)), .val (.ref b138), .val (.ref b142), .val (.ref b146), .val (.ref b150), .val (.int (0 : Int32)), .val (.int (1 : Int32)), .val (.int (0 : Int32)), .val (.int (0 : Int32)), .val (.int (1 : Int32)), .unset, .unset, .unset] []
            refine w_iload ok at_173 rfl ?_
            refine w_if_eq ok at_175 (pc' := 185) (by decide) (fun hc207 => False.elim (by revert hc207; decide)) (fun hc207 => ?_)
            show W K l _ n0 _ h158 10 39 178 #[.val (.int a), .val (.int b), .val (.int c), .val (.int d), .val (.int fl), .val (.int (0 : Int32)), .val (.int (1 : Int32)), .val (.ref b138), .val (.ref b142), .val (.ref b146), .val (.ref b150), .val (.int (0 : Int32)), .val (.int (1 : Int32)), .val (.int (0 : Int32)), .val (.int (0 : Int32)), .val (.int (1 : Int32)), .unset, .unset, .unset] []
            refine w_aload ok at_178 rfl rfl ?_
            refine w_iload ok at_180 rfl ?_
            refine w_callV ok (y := (⟨"com/example/hornconv/hornconv/FactTable", "remove", "(I)V"⟩ : MethodName)) (a := b150) (argsL := [(.int (1 : Int32))]) (rest := []) at_182 (hw _ (List.mem_of_getElem? (i := 65) rfl)) (hw _ (List.mem_of_getElem? (i := 66) rfl)) (hw _ (List.mem_of_getElem? (i := 68) rfl)) (hw _ (List.mem_of_getElem? (i := 67) rfl)) (hw _ (List.mem_of_getElem? (i := 3) rfl)) (hw _ (List.mem_of_getElem? (i := 69) rfl)) (by decide) A_b150.1 pd_28I29V rfl rfl (by decide) (Nat.le_of_ble_eq_true rfl) (by decide) (by decide) (fun z0 => rm_rm1 l Z a0 hw [] n0 h158 z0 b150 un me ag de sl po (2 : Int32) (((0 : Int32) + 1) + 1) u1 a b c d (0 : Int32) (0 : Int32) (0 : Int32) (0 : Int32) (0 : Int32) (0 : Int32) (0 : Int32) (0 : Int32) (upd (upd f00 r0 0) r1 1) A_b150 A_ag A_de A_sl A_po ge_b150 g2 g3 nn0 nn1 nn2 nn3 nn4 nn5 nn6 nn7 nn9 nn8 ⟨i1, by rw [← hr1]; simp [upd, ne10]⟩) (fun v208 h209 qv208 => ?_)
            obtain ⟨rfl, rr, h8_rr, hfr, K1, A1, A2, A3⟩ := qv208
            replace A_b138 := A_b138.keep K1 (ninS ne_b138_b150 (ninS ne_b138_de (ninS ne_b138_sl nin0)))
            replace A_b142 := A_b142.keep K1 (ninS ne_b142_b150 (ninS ne_b142_de (ninS ne_b142_sl nin0)))
            replace A_b146 := A_b146.keep K1 (ninS ne_b146_b150 (ninS ne_b146_de (ninS ne_b146_sl nin0)))
            replace A_ag := A_ag.keep K1 (ninS (Ne.symm nn0) (ninS nn4 (ninS nn5 nin0)))
            replace A_po := A_po.keep K1 (ninS (Ne.symm nn3) (ninS (Ne.symm nn8) (ninS (Ne.symm nn9) nin0)))
            replace A_b150 := A1
            replace A_de := A2
            replace A_sl := A3
            have e : rr = r1 := by
              simp only [upd, f00] at hfr; repeat' split at hfr
              all_goals first | assumption | exact absurd hfr (by decide)
            rw [e] at A_sl
            have hRn210 : Rw (upd (upd (upd f00 r0 0) r1 1) r1 (-2)) := own_rwu hRn191 (by decide)
            have hNn210 := own_free (f := (upd (upd (upd f00 r0 0) r1 1) r1 (-2))) r0 r1 (fun j _ h0 h1 => by simp [upd, h0, h1])
            show W K l _ n0 _ h209 10 39 185 #[.val (.int a), .val (.int b), .val (.int c), .val (.int d), .val (.int fl), .val (.int (0 : Int32)), .val (.int (1 : Int32)), .val (.ref b138), .val (.ref b142), .val (.ref b146), .val (.ref b150), .val (.int (0 : Int32)), .val (.int (1 : Int32)), .val (.int (0 : Int32)), .val (.int (0 : Int32)), .val (.int (1 : Int32)), .unset, .unset, .unset] []
            refine w_aload ok at_185 rfl rfl ?_
            refine w_aload ok at_187 rfl rfl ?_
            refine w_callV ok (y := (⟨"com/example/hornconv/hornconv/FactTable", "add", "([I)I"⟩ : MethodName)) (a := b150) (argsL := [(.ref b146)]) (rest := []) at_189 (hw _ (List.mem_of_getElem? (i := 32) rfl)) (hw _ (List.mem_of_getElem? (i := 33) rfl)) (hw _ (List.mem_of_getElem? (i := 35) rfl)) (hw _ (List.mem_of_getElem? (i := 34) rfl)) (hw _ (List.mem_of_getElem? (i := 3) rfl)) (hw _ (List.mem_of_getElem? (i := 36) rfl)) (by decide) A_b150.1 pd_285bI29I rfl rfl (by decide) (Nat.le_of_ble_eq_true rfl) (by decide) (by decide) (fun z0 => rm_add2 l Z a0 hw [] n0 h209 z0 b150 b146 un me ag de sl po ((((0 : Int32) + 1) + 1) - 1) u1 a b c d (0 : Int32) (0 : Int32) (0 : Int32) (0 : Int32) (0 : Int32) (1 : Int32) (0 : Int32) (0 : Int32) a b (upd (upd (upd f00 r0 0) r1 1) r1 (-2)) A_b150 A_ag A_de A_sl A_po A_b146 ge_b150 g1 g3 nn0 nn1 nn2 nn3 (Ne.symm ne_b146_b150) nn4 nn5 nn6 (Ne.symm ne_b146_ag) nn7 nn9 (Ne.symm ne_b146_sl) hRn210 hNn210 (by omega)) (fun v211 h212 qv211 => ?_)
            rcases qv211 with qv211 | qv211
            · skip
              obtain ⟨rfl, rfl, ra2, hA8_2, hA1_2, hA2_2⟩ := qv211
              show W K l _ n0 _ h209 10 39 192 #[.val (.int a), .val (.int b), .val (.int c), .val (.int d), .val (.int fl), .val (.int (0 : Int32)), .val (.int (1 : Int32)), .val (.ref b138), .val (.ref b142), .val (.ref b146), .val (.ref b150), .val (.int (0 : Int32)), .val (.int (1 : Int32)), .val (.int (0 : Int32)), .val (.int (0 : Int32)), .val (.int (1 : Int32)), .unset, .unset, .unset] [(.int (-1 : Int32))]
              refine w_istore ok at_192 (L' := #[.val (.int a), .val (.int b), .val (.int c), .val (.int d), .val (.int fl), .val (.int (0 : Int32)), .val (.int (1 : Int32)), .val (.ref b138), .val (.ref b142), .val (.ref b146), .val (.ref b150), .val (.int (0 : Int32)), .val (.int (1 : Int32)), .val (.int (0 : Int32)), .val (.int (0 : Int32)), .val (.int (1 : Int32)), .val (.int (-1 : Int32)), .unset, .unset]) rfl ?_
              refine w_aload ok at_194 rfl rfl ?_
              refine w_iconst ok at_196 (v := (0 : Int32)) rfl ?_
              refine w_callV ok (y := (⟨"com/example/hornconv/hornconv/FactTable", "isLive", "(I)Z"⟩ : MethodName)) (a := b150) (argsL := [(.int (0 : Int32))]) (rest := []) at_197 (hw _ (List.mem_of_getElem? (i := 60) rfl)) (hw _ (List.mem_of_getElem? (i := 61) rfl)) (hw _ (List.mem_of_getElem? (i := 63) rfl)) (hw _ (List.mem_of_getElem? (i := 62) rfl)) (hw _ (List.mem_of_getElem? (i := 3) rfl)) (hw _ (List.mem_of_getElem? (i := 64) rfl)) (by decide) A_b150.1 pd_28I29Z rfl rfl (by decide) (Nat.le_of_ble_eq_true rfl) (by decide) (by decide) (fun z0 => rm_live0 l Z a0 hw [] n0 h209 z0 b150 un me ag de sl po (2 : Int32) ((((0 : Int32) + 1) + 1) - 1) u1 (0 : Int32) (1 : Int32) (0 : Int32) (0 : Int32) A_b150 A_de) (fun v213 h214 qv213 => ?_)
              obtain ⟨rfl, rfl⟩ := qv213
              rw [show own_live (0 : Int32) = 1 from rfl]
              show W K l _ n0 _ h209 10 39 200 #[.val (.int a), .val (.int b), .val (.int c), .val (.int d), .val (.int fl), .val (.int (0 : Int32)), .val (.int (1 : Int32)), .val (.ref b138), .val (.ref b142), .val (.ref b146), .val (.ref b150), .val (.int (0 : Int32)), .val (.int (1 : Int32)), .val (.int (0 : Int32)), .val (.int (0 : Int32)), .val (.int (1 : Int32)), .val (.int (-1 : Int32)), .unset, .unset] [(.int (1 : Int32))]
              refine w_iload ok at_200 rfl ?_
              refine w_if_ne ok at_202 (pc' := 209) (by decide) (fun hc216 => False.elim (by revert hc216; decide)) (fun hc216 => ?_)
              show W K l _ n0 _ h209 10 39 205 #[.val (.int a), .val (.int b), .val (.int c), .val (.int d), .val (.int fl), .val (.int (0 : Int32)), .val (.int (1 : Int32)), .val (.ref b138), .val (.ref b142), .val (.ref b146), .val (.ref b150), .val (.int (0 : Int32)), .val (.int (1 : Int32)), .val (.int (0 : Int32)), .val (.int (0 : Int32)), .val (.int (1 : Int32)), .val (.int (-1 : Int32)), .unset, .unset] [(.int (1 : Int32))]
              refine w_iconst ok at_205 (v := (1 : Int32)) rfl ?_
              refine w_goto ok at_206 (pc' := 210) (by decide) ?_
              refine w_icmp_ne ok at_210 (pc' := 217) (by decide) (fun hc218 => False.elim (by revert hc218; decide)) (fun hc218 => ?_)
              show W K l _ n0 _ h209 10 39 213 #[.val (.int a), .val (.int b), .val (.int c), .val (.int d), .val (.int fl), .val (.int (0 : Int32)), .val (.int (1 : Int32)), .val (.ref b138), .val (.ref b142), .val (.ref b146), .val (.ref b150), .val (.int (0 : Int32)), .val (.int (1 : Int32)), .val (.int (0 : Int32)), .val (.int (0 : Int32)), .val (.int (1 : Int32)), .val (.int (-1 : Int32)), .unset, .unset] []
              refine w_iconst ok at_213 (v := (1 : Int32)) rfl ?_
              refine w_goto ok at_214 (pc' := 218) (by decide) ?_
              refine w_istore ok at_218 (L' := #[.val (.int a), .val (.int b), .val (.int c), .val (.int d), .val (.int fl), .val (.int (0 : Int32)), .val (.int (1 : Int32)), .val (.ref b138), .val (.ref b142), .val (.ref b146), .val (.ref b150), .val (.int (0 : Int32)), .val (.int (1 : Int32)), .val (.int (0 : Int32)), .val (.int (0 : Int32)), .val (.int (1 : Int32)), .val (.int (-1 : Int32)), .val (.int (1 : Int32)), .unset]) rfl ?_
              refine w_iload ok at_220 rfl ?_
              refine w_if_lt ok at_222 (pc' := 257) (by decide) (fun hc220 => False.elim (by revert hc220; decide)) (fun hc220 => ?_)
              show W K l _ n0 _ h209 10 39 225 #[.val (.int a), .val (.int b), .val (.int c), .val (.int d), .val (.int fl), .val (.int (0 : Int32)), .val (.int (1 : Int32)), .val (.ref b138), .val (.ref b142), .val (.ref b146), .val (.ref b150), .val (.int (0 : Int32)), .val (.int (1 : Int32)), .val (.int (0 : Int32)), .val (.int (0 : Int32)), .val (.int (1 : Int32)), .val (.int (-1 : Int32)), .val (.int (1 : Int32)), .unset] []
              refine w_iload ok at_225 rfl ?_
              refine w_if_eq ok at_227 (pc' := 254) (by decide) (fun hc222 => False.elim (by revert hc222; decide)) (fun hc222 => ?_)
              show W K l _ n0 _ h209 10 39 230 #[.val (.int a), .val (.int b), .val (.int c), .val (.int d), .val (.int fl), .val (.int (0 : Int32)), .val (.int (1 : Int32)), .val (.ref b138), .val (.ref b142), .val (.ref b146), .val (.ref b150), .val (.int (0 : Int32)), .val (.int (1 : Int32)), .val (.int (0 : Int32)), .val (.int (0 : Int32)), .val (.int (1 : Int32)), .val (.int (-1 : Int32)), .val (.int (1 : Int32)), .unset] []
              refine w_aload ok at_230 rfl rfl ?_
              refine w_iload ok at_232 rfl ?_
              refine w_callV ok (y := (⟨"com/example/hornconv/hornconv/FactTable", "isLive", "(I)Z"⟩ : MethodName)) (a := b150) (argsL := [(.int (1 : Int32))]) (rest := []) at_234 (hw _ (List.mem_of_getElem? (i := 60) rfl)) (hw _ (List.mem_of_getElem? (i := 61) rfl)) (hw _ (List.mem_of_getElem? (i := 63) rfl)) (hw _ (List.mem_of_getElem? (i := 62) rfl)) (hw _ (List.mem_of_getElem? (i := 3) rfl)) (hw _ (List.mem_of_getElem? (i := 64) rfl)) (by decide) A_b150.1 pd_28I29Z rfl rfl (by decide) (Nat.le_of_ble_eq_true rfl) (by decide) (by decide) (fun z0 => rm_live1 l Z a0 hw [] n0 h209 z0 b150 un me ag de sl po (2 : Int32) ((((0 : Int32) + 1) + 1) - 1) u1 (0 : Int32) (1 : Int32) (0 : Int32) (0 : Int32) A_b150 A_de) (fun v223 h224 qv223 => ?_)
              obtain ⟨rfl, rfl⟩ := qv223
              rw [show own_live (1 : Int32) = 0 from rfl]
              show W K l _ n0 _ h209 10 39 237 #[.val (.int a), .val (.int b), .val (.int c), .val (.int d), .val (.int fl), .val (.int (0 : Int32)), .val (.int (1 : Int32)), .val (.ref b138), .val (.ref b142), .val (.ref b146), .val (.ref b150), .val (.int (0 : Int32)), .val (.int (1 : Int32)), .val (.int (0 : Int32)), .val (.int (0 : Int32)), .val (.int (1 : Int32)), .val (.int (-1 : Int32)), .val (.int (1 : Int32)), .unset] [(.int (0 : Int32))]
              refine w_iload ok at_237 rfl ?_
              refine w_if_ne ok at_239 (pc' := 246) (by decide) (fun hc226 => ?_) (fun hc226 => False.elim (by revert hc226; decide))
              show W K l _ n0 _ h209 10 39 246 #[.val (.int a), .val (.int b), .val (.int c), .val (.int d), .val (.int fl), .val (.int (0 : Int32)), .val (.int (1 : Int32)), .val (.ref b138), .val (.ref b142), .val (.ref b146), .val (.ref b150), .val (.int (0 : Int32)), .val (.int (1 : Int32)), .val (.int (0 : Int32)), .val (.int (0 : Int32)), .val (.int (1 : Int32)), .val (.int (-1 : Int32)), .val (.int (1 : Int32)), .unset] [(.int (0 : Int32))]
              refine w_iconst ok at_246 (v := (0 : Int32)) rfl ?_
              refine w_icmp_ne ok at_247 (pc' := 254) (by decide) (fun hc228 => False.elim (by revert hc228; decide)) (fun hc228 => ?_)
              show W K l _ n0 _ h209 10 39 250 #[.val (.int a), .val (.int b), .val (.int c), .val (.int d), .val (.int fl), .val (.int (0 : Int32)), .val (.int (1 : Int32)), .val (.ref b138), .val (.ref b142), .val (.ref b146), .val (.ref b150), .val (.int (0 : Int32)), .val (.int (1 : Int32)), .val (.int (0 : Int32)), .val (.int (0 : Int32)), .val (.int (1 : Int32)), .val (.int (-1 : Int32)), .val (.int (1 : Int32)), .unset] []
              refine w_iconst ok at_250 (v := (1 : Int32)) rfl ?_
              refine w_goto ok at_251 (pc' := 255) (by decide) ?_
              refine w_istore ok at_255 (L' := #[.val (.int a), .val (.int b), .val (.int c), .val (.int d), .val (.int fl), .val (.int (0 : Int32)), .val (.int (1 : Int32)), .val (.ref b138), .val (.ref b142), .val (.ref b146), .val (.ref b150), .val (.int (0 : Int32)), .val (.int (1 : Int32)), .val (.int (0 : Int32)), .val (.int (0 : Int32)), .val (.int (1 : Int32)), .val (.int (-1 : Int32)), .val (.int (1 : Int32)), .unset]) rfl ?_
              refine w_iload ok at_257 rfl ?_
              refine w_if_eq ok at_259 (pc' := 306) (by decide) (fun hc230 => ?_) (fun hc230 => False.elim (by revert hc230; decide))
              show W K l _ n0 _ h209 10 39 306 #[.val (.int a), .val (.int b), .val (.int c), .val (.int d), .val (.int fl), .val (.int (0 : Int32)), .val (.int (1 : Int32)), .val (.ref b138), .val (.ref b142), .val (.ref b146), .val (.ref b150), .val (.int (0 : Int32)), .val (.int (1 : Int32)), .val (.int (0 : Int32)), .val (.int (0 : Int32)), .val (.int (1 : Int32)), .val (.int (-1 : Int32)), .val (.int (1 : Int32)), .unset] []
              refine w_iload ok at_306 rfl ?_
              refine w_if_eq ok at_308 (pc' := 321) (by decide) (fun hc232 => False.elim (by revert hc232; decide)) (fun hc232 => ?_)
              show W K l _ n0 _ h209 10 39 311 #[.val (.int a), .val (.int b), .val (.int c), .val (.int d), .val (.int fl), .val (.int (0 : Int32)), .val (.int (1 : Int32)), .val (.ref b138), .val (.ref b142), .val (.ref b146), .val (.ref b150), .val (.int (0 : Int32)), .val (.int (1 : Int32)), .val (.int (0 : Int32)), .val (.int (0 : Int32)), .val (.int (1 : Int32)), .val (.int (-1 : Int32)), .val (.int (1 : Int32)), .unset] []
              refine w_iload ok at_311 rfl ?_
              refine w_iconst ok at_313 (v := (-1 : Int32)) rfl ?_
              refine w_icmp_ne ok at_314 (pc' := 321) (by decide) (fun hc234 => False.elim (by revert hc234; decide)) (fun hc234 => ?_)
              show W K l _ n0 _ h209 10 39 317 #[.val (.int a), .val (.int b), .val (.int c), .val (.int d), .val (.int fl), .val (.int (0 : Int32)), .val (.int (1 : Int32)), .val (.ref b138), .val (.ref b142), .val (.ref b146), .val (.ref b150), .val (.int (0 : Int32)), .val (.int (1 : Int32)), .val (.int (0 : Int32)), .val (.int (0 : Int32)), .val (.int (1 : Int32)), .val (.int (-1 : Int32)), .val (.int (1 : Int32)), .unset] []
              refine w_iconst ok at_317 (v := (1 : Int32)) rfl ?_
              refine w_goto ok at_318 (pc' := 322) (by decide) ?_
              refine w_istore ok at_322 (L' := #[.val (.int a), .val (.int b), .val (.int c), .val (.int d), .val (.int fl), .val (.int (0 : Int32)), .val (.int (1 : Int32)), .val (.ref b138), .val (.ref b142), .val (.ref b146), .val (.ref b150), .val (.int (0 : Int32)), .val (.int (1 : Int32)), .val (.int (0 : Int32)), .val (.int (0 : Int32)), .val (.int (1 : Int32)), .val (.int (-1 : Int32)), .val (.int (1 : Int32)), .unset]) rfl ?_
              refine w_iload ok at_324 rfl ?_
              refine w_bret ok (by simp) at_326 (by decide) (by decide) ?_
              exact rfl
            · obtain ⟨-, r, u', -, hF, -⟩ := qv211; exact (own_hit (E := fun k => own_eqr 2 [a, b, c, d, (0 : Int32), (0 : Int32), (0 : Int32), (0 : Int32)] [a, b] k = 1) hF (by rw [← hr0]; simp [upd, Ne.symm ne10]) (own_eqk' rfl)).elim
          · show W K l _ n0 _ h158 10 39 100 #[.val (.int a), .val (.int b), .val (.int c), .val (.int d), .val (.int fl), .val (.int (0 : Int32)), .val (.int (1 : Int32)), .val (.ref b138), .val (.ref b142), .val (.ref b146), .val (.ref b150), .val (.int (0 : Int32)), .val (.int (1 : Int32)), .unset, .unset, .unset, .unset, .unset, .unset] []
            refine w_iloadN ok at_100 rfl ?_
            refine w_iloadN ok at_101 rfl ?_
            refine w_icmp_ne ok at_102 (pc' := 109) (by decide) (fun hc236 => ?_) (fun hc236 => False.elim (by exact nsame ⟨hc193, hc236⟩))
            show W K l _ n0 _ h158 10 39 109 #[.val (.int a), .val (.int b), .val (.int c), .val (.int d), .val (.int fl), .val (.int (0 : Int32)), .val (.int (1 : Int32)), .val (.ref b138), .val (.ref b142), .val (.ref b146), .val (.ref b150), .val (.int (0 : Int32)), .val (.int (1 : Int32)), .unset, .unset, .unset, .unset, .unset, .unset] []
            refine w_iconst ok at_109 (v := (0 : Int32)) rfl ?_
            refine w_istore ok at_110 (L' := #[.val (.int a), .val (.int b), .val (.int c), .val (.int d), .val (.int fl), .val (.int (0 : Int32)), .val (.int (1 : Int32)), .val (.ref b138), .val (.ref b142), .val (.ref b146), .val (.ref b150), .val (.int (0 : Int32)), .val (.int (1 : Int32)), .val (.int (0 : Int32)), .unset, .unset, .unset, .unset, .unset]) rfl ?_
            refine w_iload ok at_112 rfl ?_
            refine w_if_eq ok at_114 (pc' := 119) (by decide) (fun hc238 => ?_) (fun hc238 => False.elim (by revert hc238; decide))
            show W K l _ n0 _ h158 10 39 119 #[.val (.int a), .val (.int b), .val (.int c), .val (.int d), .val (.int fl), .val (.int (0 : Int32)), .val (.int (1 : Int32)), .val (.ref b138), .val (.ref b142), .val (.ref b146), .val (.ref b150), .val (.int (0 : Int32)), .val (.int (1 : Int32)), .val (.int (0 : Int32)), .unset, .unset, .unset, .unset, .unset] []
            refine w_iload ok at_119 rfl ?_
            refine w_if_eq ok at_121 (pc' := 133) (by decide) (fun hc240 => ?_) (fun hc240 => False.elim (by revert hc240; decide))
            show W K l _ n0 _ h158 10 39 133 #[.val (.int a), .val (.int b), .val (.int c), .val (.int d), .val (.int fl), .val (.int (0 : Int32)), .val (.int (1 : Int32)), .val (.ref b138), .val (.ref b142), .val (.ref b146), .val (.ref b150), .val (.int (0 : Int32)), .val (.int (1 : Int32)), .val (.int (0 : Int32)), .unset, .unset, .unset, .unset, .unset] []
            refine w_iload ok at_133 rfl ?_
            refine w_iconst ok at_135 (v := (1 : Int32)) rfl ?_
            refine w_icmp_eq ok at_136 (pc' := 141) (by decide) (fun hc242 => ?_) (fun hc242 => False.elim (by revert hc242; decide))
            show W K l _ n0 _ h158 10 39 141 #[.val (.int a), .val (.int b), .val (.int c), .val (.int d), .val (.int fl), .val (.int (0 : Int32)), .val (.int (1 : Int32)), .val (.ref b138), .val (.ref b142), .val (.ref b146), .val (.ref b150), .val (.int (0 : Int32)), .val (.int (1 : Int32)), .val (.int (0 : Int32)), .unset, .unset, .unset, .unset, .unset] []
            refine w_iload ok at_141 rfl ?_
            refine w_istore ok at_143 (L' := #[.val (.int a), .val (.int b), .val (.int c), .val (.int d), .val (.int fl), .val (.int (0 : Int32)), .val (.int (1 : Int32)), .val (.ref b138), .val (.ref b142), .val (.ref b146), .val (.ref b150), .val (.int (0 : Int32)), .val (.int (1 : Int32)), .val (.int (0 : Int32)), .val (.int (0 : Int32)), .unset, .unset, .unset, .unset]) rfl ?_
            refine w_iload ok at_145 rfl ?_
            refine w_if_lt ok at_147 (pc' := 159) (by decide) (fun hc244 => False.elim (by revert hc244; decide)) (fun hc244 => ?_)
            show W K l _ n0 _ h158 10 39 150 #[.val (.int a), .val (.int b), .val (.int c), .val (.int d), .val (.int fl), .val (.int (0 : Int32)), .val (.int (1 : Int32)), .val (.ref b138), .val (.ref b142), .val (.ref b146), .val (.ref b150), .val (.int (0 : Int32)), .val (.int (1 : Int32)), .val (.int (0 : Int32)), .val (.int (0 : Int32)), .unset, .unset, .unset, .unset] []
            refine w_iload ok at_150 rfl ?_
            refine w_if_eq ok at_152 (pc' := 159) (by decide) (fun hc246 => False.elim (by revert hc246; decide)) (fun hc246 => ?_)
            show W K l _ n0 _ h158 10 39 155 #[.val (.int a), .val (.int b), .val (.int c), .val (.int d), .val (.int fl), .val (.int (0 : Int32)), .val (.int (1 : Int32)), .val (.ref b138), .val (.ref b142), .val (.ref b146), .val (.ref b150), .val (.int (0 : Int32)), .val (.int (1 : Int32)), .val (.int (0 : Int32)), .val (.int (0 : Int32)), .unset, .unset, .unset, .unset] []
            refine w_iconst ok at_155 (v := (1 : Int32)) rfl ?_
            refine w_goto ok at_156 (pc' := 160) (by decide) ?_
            refine w_istore ok at_160 (L' := #[.val (.int a), .val (.int b), .val (.int c), .val (.int d), .val (.int fl), .val (.int (0 : Int32)), .val (.int (1 : Int32)), .val (.ref b138), .val (.ref b142), .val (.ref b146), .val (.ref b150), .val (.int (0 : Int32)), .val (.int (1 : Int32)), .val (.int (0 : Int32)), .val (.int (0 : Int32)), .val (.int (1 : Int32)), .unset, .unset, .unset]) rfl ?_
            refine w_iload ok at_162 rfl ?_
            refine w_if_eq ok at_164 (pc' := 173) (by decide) (fun hc248 => ?_) (fun hc248 => False.elim (by revert hc248; decide))
            show W K l _ n0 _ h158 10 39 173 #[.val (.int a), .val (.int b), .val (.int c), .val (.int d), .val (.int fl), .val (.int (0 : Int32)), .val (.int (1 : Int32)), .val (.ref b138), .val (.ref b142), .val (.ref b146), .val (.ref b150), .val (.int (0 : Int32)), .val (.int (1 : Int32)), .val (.int (0 : Int32)), .val (.int (0 : Int32)), .val (.int (1 : Int32)), .unset, .unset, .unset] []
            refine w_iload ok at_173 rfl ?_
            refine w_if_eq ok at_175 (pc' := 185) (by decide) (fun hc250 => False.elim (by revert hc250; decide)) (fun hc250 => ?_)
            show W K l _ n0 _ h158 10 39 178 #[.val (.int a), .val (.int b), .val (.int c), .val (.int d), .val (.int fl), .val (.int (0 : Int32)), .val (.int (1 : Int32)), .val (.ref b138), .val (.ref b142), .val (.ref b146), .val (.ref b150), .val (.int (0 : Int32)), .val (.int (1 : Int32)), .val (.int (0 : Int32)), .val (.int (0 : Int32)), .val (.int (1 : Int32)), .unset, .unset, .unset] []
            refine w_aload ok at_178 rfl rfl ?_
            refine w_iload ok at_180 rfl ?_
            refine w_callV ok (y := (⟨"com/example/hornconv/hornconv/FactTable", "remove", "(I)V"⟩ : MethodName)) (a := b150) (argsL := [(.int (1 : Int32))]) (rest := []) at_182 (hw _ (List.mem_of_getElem? (i := 65) rfl)) (hw _ (List.mem_of_getElem? (i := 66) rfl)) (hw _ (List.mem_of_getElem? (i := 68) rfl)) (hw _ (List.mem_of_getElem? (i := 67) rfl)) (hw _ (List.mem_of_getElem? (i := 3) rfl)) (hw _ (List.mem_of_getElem? (i := 69) rfl)) (by decide) A_b150.1 pd_28I29V rfl rfl (by decide) (Nat.le_of_ble_eq_true rfl) (by decide) (by decide) (fun z0 => rm_rm1 l Z a0 hw [] n0 h158 z0 b150 un me ag de sl po (2 : Int32) (((0 : Int32) + 1) + 1) u1 a b c d (0 : Int32) (0 : Int32) (0 : Int32) (0 : Int32) (0 : Int32) (0 : Int32) (0 : Int32) (0 : Int32) (upd (upd f00 r0 0) r1 1) A_b150 A_ag A_de A_sl A_po ge_b150 g2 g3 nn0 nn1 nn2 nn3 nn4 nn5 nn6 nn7 nn9 nn8 ⟨i1, by rw [← hr1]; simp [upd, ne10]⟩) (fun v251 h252 qv251 => ?_)
            obtain ⟨rfl, rr, h8_rr, hfr, K1, A1, A2, A3⟩ := qv251
            replace A_b138 := A_b138.keep K1 (ninS ne_b138_b150 (ninS ne_b138_de (ninS ne_b138_sl nin0)))
            replace A_b142 := A_b142.keep K1 (ninS ne_b142_b150 (ninS ne_b142_de (ninS ne_b142_sl nin0)))
            replace A_b146 := A_b146.keep K1 (ninS ne_b146_b150 (ninS ne_b146_de (ninS ne_b146_sl nin0)))
            replace A_ag := A_ag.keep K1 (ninS (Ne.symm nn0) (ninS nn4 (ninS nn5 nin0)))
            replace A_po := A_po.keep K1 (ninS (Ne.symm nn3) (ninS (Ne.symm nn8) (ninS (Ne.symm nn9) nin0)))
            replace A_b150 := A1
            replace A_de := A2
            replace A_sl := A3
            have e : rr = r1 := by
              simp only [upd, f00] at hfr; repeat' split at hfr
              all_goals first | assumption | exact absurd hfr (by decide)
            rw [e] at A_sl
            have hRn253 : Rw (upd (upd (upd f00 r0 0) r1 1) r1 (-2)) := own_rwu hRn191 (by decide)
            have hNn253 := own_free (f := (upd (upd (upd f00 r0 0) r1 1) r1 (-2))) r0 r1 (fun j _ h0 h1 => by simp [upd, h0, h1])
            show W K l _ n0 _ h252 10 39 185 #[.val (.int a), .val (.int b), .val (.int c), .val (.int d), .val (.int fl), .val (.int (0 : Int32)), .val (.int (1 : Int32)), .val (.ref b138), .val (.ref b142), .val (.ref b146), .val (.ref b150), .val (.int (0 : Int32)), .val (.int (1 : Int32)), .val (.int (0 : Int32)), .val (.int (0 : Int32)), .val (.int (1 : Int32)), .unset, .unset, .unset] []
            refine w_aload ok at_185 rfl rfl ?_
            refine w_aload ok at_187 rfl rfl ?_
            refine w_callV ok (y := (⟨"com/example/hornconv/hornconv/FactTable", "add", "([I)I"⟩ : MethodName)) (a := b150) (argsL := [(.ref b146)]) (rest := []) at_189 (hw _ (List.mem_of_getElem? (i := 32) rfl)) (hw _ (List.mem_of_getElem? (i := 33) rfl)) (hw _ (List.mem_of_getElem? (i := 35) rfl)) (hw _ (List.mem_of_getElem? (i := 34) rfl)) (hw _ (List.mem_of_getElem? (i := 3) rfl)) (hw _ (List.mem_of_getElem? (i := 36) rfl)) (by decide) A_b150.1 pd_285bI29I rfl rfl (by decide) (Nat.le_of_ble_eq_true rfl) (by decide) (by decide) (fun z0 => rm_add2 l Z a0 hw [] n0 h252 z0 b150 b146 un me ag de sl po ((((0 : Int32) + 1) + 1) - 1) u1 a b c d (0 : Int32) (0 : Int32) (0 : Int32) (0 : Int32) (0 : Int32) (1 : Int32) (0 : Int32) (0 : Int32) a b (upd (upd (upd f00 r0 0) r1 1) r1 (-2)) A_b150 A_ag A_de A_sl A_po A_b146 ge_b150 g1 g3 nn0 nn1 nn2 nn3 (Ne.symm ne_b146_b150) nn4 nn5 nn6 (Ne.symm ne_b146_ag) nn7 nn9 (Ne.symm ne_b146_sl) hRn253 hNn253 (by omega)) (fun v254 h255 qv254 => ?_)
            rcases qv254 with qv254 | qv254
            · skip
              obtain ⟨rfl, rfl, ra2, hA8_2, hA1_2, hA2_2⟩ := qv254
              show W K l _ n0 _ h252 10 39 192 #[.val (.int a), .val (.int b), .val (.int c), .val (.int d), .val (.int fl), .val (.int (0 : Int32)), .val (.int (1 : Int32)), .val (.ref b138), .val (.ref b142), .val (.ref b146), .val (.ref b150), .val (.int (0 : Int32)), .val (.int (1 : Int32)), .val (.int (0 : Int32)), .val (.int (0 : Int32)), .val (.int (1 : Int32)), .unset, .unset, .unset] [(.int (-1 : Int32))]
              refine w_istore ok at_192 (L' := #[.val (.int a), .val (.int b), .val (.int c), .val (.int d), .val (.int fl), .val (.int (0 : Int32)), .val (.int (1 : Int32)), .val (.ref b138), .val (.ref b142), .val (.ref b146), .val (.ref b150), .val (.int (0 : Int32)), .val (.int (1 : Int32)), .val (.int (0 : Int32)), .val (.int (0 : Int32)), .val (.int (1 : Int32)), .val (.int (-1 : Int32)), .unset, .unset]) rfl ?_
              refine w_aload ok at_194 rfl rfl ?_
              refine w_iconst ok at_196 (v := (0 : Int32)) rfl ?_
              refine w_callV ok (y := (⟨"com/example/hornconv/hornconv/FactTable", "isLive", "(I)Z"⟩ : MethodName)) (a := b150) (argsL := [(.int (0 : Int32))]) (rest := []) at_197 (hw _ (List.mem_of_getElem? (i := 60) rfl)) (hw _ (List.mem_of_getElem? (i := 61) rfl)) (hw _ (List.mem_of_getElem? (i := 63) rfl)) (hw _ (List.mem_of_getElem? (i := 62) rfl)) (hw _ (List.mem_of_getElem? (i := 3) rfl)) (hw _ (List.mem_of_getElem? (i := 64) rfl)) (by decide) A_b150.1 pd_28I29Z rfl rfl (by decide) (Nat.le_of_ble_eq_true rfl) (by decide) (by decide) (fun z0 => rm_live0 l Z a0 hw [] n0 h252 z0 b150 un me ag de sl po (2 : Int32) ((((0 : Int32) + 1) + 1) - 1) u1 (0 : Int32) (1 : Int32) (0 : Int32) (0 : Int32) A_b150 A_de) (fun v256 h257 qv256 => ?_)
              obtain ⟨rfl, rfl⟩ := qv256
              rw [show own_live (0 : Int32) = 1 from rfl]
              show W K l _ n0 _ h252 10 39 200 #[.val (.int a), .val (.int b), .val (.int c), .val (.int d), .val (.int fl), .val (.int (0 : Int32)), .val (.int (1 : Int32)), .val (.ref b138), .val (.ref b142), .val (.ref b146), .val (.ref b150), .val (.int (0 : Int32)), .val (.int (1 : Int32)), .val (.int (0 : Int32)), .val (.int (0 : Int32)), .val (.int (1 : Int32)), .val (.int (-1 : Int32)), .unset, .unset] [(.int (1 : Int32))]
              refine w_iload ok at_200 rfl ?_
              refine w_if_ne ok at_202 (pc' := 209) (by decide) (fun hc259 => False.elim (by revert hc259; decide)) (fun hc259 => ?_)
              show W K l _ n0 _ h252 10 39 205 #[.val (.int a), .val (.int b), .val (.int c), .val (.int d), .val (.int fl), .val (.int (0 : Int32)), .val (.int (1 : Int32)), .val (.ref b138), .val (.ref b142), .val (.ref b146), .val (.ref b150), .val (.int (0 : Int32)), .val (.int (1 : Int32)), .val (.int (0 : Int32)), .val (.int (0 : Int32)), .val (.int (1 : Int32)), .val (.int (-1 : Int32)), .unset, .unset] [(.int (1 : Int32))]
              refine w_iconst ok at_205 (v := (1 : Int32)) rfl ?_
              refine w_goto ok at_206 (pc' := 210) (by decide) ?_
              refine w_icmp_ne ok at_210 (pc' := 217) (by decide) (fun hc261 => False.elim (by revert hc261; decide)) (fun hc261 => ?_)
              show W K l _ n0 _ h252 10 39 213 #[.val (.int a), .val (.int b), .val (.int c), .val (.int d), .val (.int fl), .val (.int (0 : Int32)), .val (.int (1 : Int32)), .val (.ref b138), .val (.ref b142), .val (.ref b146), .val (.ref b150), .val (.int (0 : Int32)), .val (.int (1 : Int32)), .val (.int (0 : Int32)), .val (.int (0 : Int32)), .val (.int (1 : Int32)), .val (.int (-1 : Int32)), .unset, .unset] []
              refine w_iconst ok at_213 (v := (1 : Int32)) rfl ?_
              refine w_goto ok at_214 (pc' := 218) (by decide) ?_
              refine w_istore ok at_218 (L' := #[.val (.int a), .val (.int b), .val (.int c), .val (.int d), .val (.int fl), .val (.int (0 : Int32)), .val (.int (1 : Int32)), .val (.ref b138), .val (.ref b142), .val (.ref b146), .val (.ref b150), .val (.int (0 : Int32)), .val (.int (1 : Int32)), .val (.int (0 : Int32)), .val (.int (0 : Int32)), .val (.int (1 : Int32)), .val (.int (-1 : Int32)), .val (.int (1 : Int32)), .unset]) rfl ?_
              refine w_iload ok at_220 rfl ?_
              refine w_if_lt ok at_222 (pc' := 257) (by decide) (fun hc263 => False.elim (by revert hc263; decide)) (fun hc263 => ?_)
              show W K l _ n0 _ h252 10 39 225 #[.val (.int a), .val (.int b), .val (.int c), .val (.int d), .val (.int fl), .val (.int (0 : Int32)), .val (.int (1 : Int32)), .val (.ref b138), .val (.ref b142), .val (.ref b146), .val (.ref b150), .val (.int (0 : Int32)), .val (.int (1 : Int32)), .val (.int (0 : Int32)), .val (.int (0 : Int32)), .val (.int (1 : Int32)), .val (.int (-1 : Int32)), .val (.int (1 : Int32)), .unset] []
              refine w_iload ok at_225 rfl ?_
              refine w_if_eq ok at_227 (pc' := 254) (by decide) (fun hc265 => False.elim (by revert hc265; decide)) (fun hc265 => ?_)
              show W K l _ n0 _ h252 10 39 230 #[.val (.int a), .val (.int b), .val (.int c), .val (.int d), .val (.int fl), .val (.int (0 : Int32)), .val (.int (1 : Int32)), .val (.ref b138), .val (.ref b142), .val (.ref b146), .val (.ref b150), .val (.int (0 : Int32)), .val (.int (1 : Int32)), .val (.int (0 : Int32)), .val (.int (0 : Int32)), .val (.int (1 : Int32)), .val (.int (-1 : Int32)), .val (.int (1 : Int32)), .unset] []
              refine w_aload ok at_230 rfl rfl ?_
              refine w_iload ok at_232 rfl ?_
              refine w_callV ok (y := (⟨"com/example/hornconv/hornconv/FactTable", "isLive", "(I)Z"⟩ : MethodName)) (a := b150) (argsL := [(.int (1 : Int32))]) (rest := []) at_234 (hw _ (List.mem_of_getElem? (i := 60) rfl)) (hw _ (List.mem_of_getElem? (i := 61) rfl)) (hw _ (List.mem_of_getElem? (i := 63) rfl)) (hw _ (List.mem_of_getElem? (i := 62) rfl)) (hw _ (List.mem_of_getElem? (i := 3) rfl)) (hw _ (List.mem_of_getElem? (i := 64) rfl)) (by decide) A_b150.1 pd_28I29Z rfl rfl (by decide) (Nat.le_of_ble_eq_true rfl) (by decide) (by decide) (fun z0 => rm_live1 l Z a0 hw [] n0 h252 z0 b150 un me ag de sl po (2 : Int32) ((((0 : Int32) + 1) + 1) - 1) u1 (0 : Int32) (1 : Int32) (0 : Int32) (0 : Int32) A_b150 A_de) (fun v266 h267 qv266 => ?_)
              obtain ⟨rfl, rfl⟩ := qv266
              rw [show own_live (1 : Int32) = 0 from rfl]
              show W K l _ n0 _ h252 10 39 237 #[.val (.int a), .val (.int b), .val (.int c), .val (.int d), .val (.int fl), .val (.int (0 : Int32)), .val (.int (1 : Int32)), .val (.ref b138), .val (.ref b142), .val (.ref b146), .val (.ref b150), .val (.int (0 : Int32)), .val (.int (1 : Int32)), .val (.int (0 : Int32)), .val (.int (0 : Int32)), .val (.int (1 : Int32)), .val (.int (-1 : Int32)), .val (.int (1 : Int32)), .unset] [(.int (0 : Int32))]
              refine w_iload ok at_237 rfl ?_
              refine w_if_ne ok at_239 (pc' := 246) (by decide) (fun hc269 => ?_) (fun hc269 => False.elim (by revert hc269; decide))
              show W K l _ n0 _ h252 10 39 246 #[.val (.int a), .val (.int b), .val (.int c), .val (.int d), .val (.int fl), .val (.int (0 : Int32)), .val (.int (1 : Int32)), .val (.ref b138), .val (.ref b142), .val (.ref b146), .val (.ref b150), .val (.int (0 : Int32)), .val (.int (1 : Int32)), .val (.int (0 : Int32)), .val (.int (0 : Int32)), .val (.int (1 : Int32)), .val (.int (-1 : Int32)), .val (.int (1 : Int32)), .unset] [(.int (0 : Int32))]
              refine w_iconst ok at_246 (v := (0 : Int32)) rfl ?_
              refine w_icmp_ne ok at_247 (pc' := 254) (by decide) (fun hc271 => False.elim (by revert hc271; decide)) (fun hc271 => ?_)
              show W K l _ n0 _ h252 10 39 250 #[.val (.int a), .val (.int b), .val (.int c), .val (.int d), .val (.int fl), .val (.int (0 : Int32)), .val (.int (1 : Int32)), .val (.ref b138), .val (.ref b142), .val (.ref b146), .val (.ref b150), .val (.int (0 : Int32)), .val (.int (1 : Int32)), .val (.int (0 : Int32)), .val (.int (0 : Int32)), .val (.int (1 : Int32)), .val (.int (-1 : Int32)), .val (.int (1 : Int32)), .unset] []
              refine w_iconst ok at_250 (v := (1 : Int32)) rfl ?_
              refine w_goto ok at_251 (pc' := 255) (by decide) ?_
              refine w_istore ok at_255 (L' := #[.val (.int a), .val (.int b), .val (.int c), .val (.int d), .val (.int fl), .val (.int (0 : Int32)), .val (.int (1 : Int32)), .val (.ref b138), .val (.ref b142), .val (.ref b146), .val (.ref b150), .val (.int (0 : Int32)), .val (.int (1 : Int32)), .val (.int (0 : Int32)), .val (.int (0 : Int32)), .val (.int (1 : Int32)), .val (.int (-1 : Int32)), .val (.int (1 : Int32)), .unset]) rfl ?_
              refine w_iload ok at_257 rfl ?_
              refine w_if_eq ok at_259 (pc' := 306) (by decide) (fun hc273 => ?_) (fun hc273 => False.elim (by revert hc273; decide))
              show W K l _ n0 _ h252 10 39 306 #[.val (.int a), .val (.int b), .val (.int c), .val (.int d), .val (.int fl), .val (.int (0 : Int32)), .val (.int (1 : Int32)), .val (.ref b138), .val (.ref b142), .val (.ref b146), .val (.ref b150), .val (.int (0 : Int32)), .val (.int (1 : Int32)), .val (.int (0 : Int32)), .val (.int (0 : Int32)), .val (.int (1 : Int32)), .val (.int (-1 : Int32)), .val (.int (1 : Int32)), .unset] []
              refine w_iload ok at_306 rfl ?_
              refine w_if_eq ok at_308 (pc' := 321) (by decide) (fun hc275 => False.elim (by revert hc275; decide)) (fun hc275 => ?_)
              show W K l _ n0 _ h252 10 39 311 #[.val (.int a), .val (.int b), .val (.int c), .val (.int d), .val (.int fl), .val (.int (0 : Int32)), .val (.int (1 : Int32)), .val (.ref b138), .val (.ref b142), .val (.ref b146), .val (.ref b150), .val (.int (0 : Int32)), .val (.int (1 : Int32)), .val (.int (0 : Int32)), .val (.int (0 : Int32)), .val (.int (1 : Int32)), .val (.int (-1 : Int32)), .val (.int (1 : Int32)), .unset] []
              refine w_iload ok at_311 rfl ?_
              refine w_iconst ok at_313 (v := (-1 : Int32)) rfl ?_
              refine w_icmp_ne ok at_314 (pc' := 321) (by decide) (fun hc277 => False.elim (by revert hc277; decide)) (fun hc277 => ?_)
              show W K l _ n0 _ h252 10 39 317 #[.val (.int a), .val (.int b), .val (.int c), .val (.int d), .val (.int fl), .val (.int (0 : Int32)), .val (.int (1 : Int32)), .val (.ref b138), .val (.ref b142), .val (.ref b146), .val (.ref b150), .val (.int (0 : Int32)), .val (.int (1 : Int32)), .val (.int (0 : Int32)), .val (.int (0 : Int32)), .val (.int (1 : Int32)), .val (.int (-1 : Int32)), .val (.int (1 : Int32)), .unset] []
              refine w_iconst ok at_317 (v := (1 : Int32)) rfl ?_
              refine w_goto ok at_318 (pc' := 322) (by decide) ?_
              refine w_istore ok at_322 (L' := #[.val (.int a), .val (.int b), .val (.int c), .val (.int d), .val (.int fl), .val (.int (0 : Int32)), .val (.int (1 : Int32)), .val (.ref b138), .val (.ref b142), .val (.ref b146), .val (.ref b150), .val (.int (0 : Int32)), .val (.int (1 : Int32)), .val (.int (0 : Int32)), .val (.int (0 : Int32)), .val (.int (1 : Int32)), .val (.int (-1 : Int32)), .val (.int (1 : Int32)), .unset]) rfl ?_
              refine w_iload ok at_324 rfl ?_
              refine w_bret ok (by simp) at_326 (by decide) (by decide) ?_
              exact rfl
            · obtain ⟨-, r, u', -, hF, -⟩ := qv254; exact (own_hit (E := fun k => own_eqr 2 [a, b, c, d, (0 : Int32), (0 : Int32), (0 : Int32), (0 : Int32)] [a, b] k = 1) hF (by rw [← hr0]; simp [upd, Ne.symm ne10]) (own_eqk' rfl)).elim
  · show W K l _ n0 _ h0 0 0 7 #[.val (.int a), .val (.int b), .val (.int c), .val (.int d), .val (.int fl), .unset, .unset, .unset, .unset, .unset, .unset, .unset, .unset, .unset, .unset, .unset, .unset, .unset, .unset] []
    refine w_iconst ok at_7 (v := (1 : Int32)) rfl ?_
    refine w_goto ok at_8 (pc' := 12) (by decide) ?_
    refine w_istore ok at_12 (L' := #[.val (.int a), .val (.int b), .val (.int c), .val (.int d), .val (.int fl), .val (.int (1 : Int32)), .unset, .unset, .unset, .unset, .unset, .unset, .unset, .unset, .unset, .unset, .unset, .unset, .unset]) rfl ?_
    refine w_iload ok at_14 rfl ?_
    refine w_iconst ok at_16 (v := (2 : Int32)) rfl ?_
    refine w_iand ok at_17 ?_
    refine w_if_eq ok at_18 (pc' := 25) (by decide) (fun hc279 => ?_) (fun hc279 => ?_)
    · show W K l _ n0 _ h0 0 0 25 #[.val (.int a), .val (.int b), .val (.int c), .val (.int d), .val (.int fl), .val (.int (1 : Int32)), .unset, .unset, .unset, .unset, .unset, .unset, .unset, .unset, .unset, .unset, .unset, .unset, .unset] []
      refine w_iconst ok at_25 (v := (0 : Int32)) rfl ?_
      refine w_istore ok at_26 (L' := #[.val (.int a), .val (.int b), .val (.int c), .val (.int d), .val (.int fl), .val (.int (1 : Int32)), .val (.int (0 : Int32)), .unset, .unset, .unset, .unset, .unset, .unset, .unset, .unset, .unset, .unset, .unset, .unset]) rfl ?_
      refine w_iconst ok at_28 (v := (2 : Int32)) rfl ?_
      refine w_newarray ok at_29 (hw _ (List.mem_of_getElem? (i := 0) rfl)) (by decide) (cap := 2) (by decide) (by decide) (by decide) (by decide) (fun h281 b280 ea_b280 ge_b280 E_b280 A_b280 => ?_)
      replace A_b280 : PA .int Z h281 b280 [(.int (0 : Int32)), (.int (0 : Int32))] := A_b280
      refine w_dup ok at_31 rfl ?_
      refine w_iconst ok at_32 (v := (0 : Int32)) rfl ?_
      refine w_iloadN ok at_33 rfl ?_
      refine w_iastore ok at_34 A_b280 ge_b280 (by decide) (Nat.le_of_ble_eq_true rfl) (fun h282 W_h282 A1_h282 => ?_)
      replace A_b280 : PA .int Z h282 b280 [(.int a), (.int (0 : Int32))] := A1_h282
      refine w_dup ok at_35 rfl ?_
      refine w_iconst ok at_36 (v := (1 : Int32)) rfl ?_
      refine w_iloadN ok at_37 rfl ?_
      refine w_iastore ok at_38 A_b280 ge_b280 (by decide) (Nat.le_of_ble_eq_true rfl) (fun h283 W_h283 A1_h283 => ?_)
      replace A_b280 : PA .int Z h283 b280 [(.int a), (.int b)] := A1_h283
      refine w_astore ok at_39 rfl (L' := #[.val (.int a), .val (.int b), .val (.int c), .val (.int d), .val (.int fl), .val (.int (1 : Int32)), .val (.int (0 : Int32)), .val (.ref b280), .unset, .unset, .unset, .unset, .unset, .unset, .unset, .unset, .unset, .unset, .unset]) rfl ?_
      refine w_iconst ok at_41 (v := (2 : Int32)) rfl ?_
      refine w_newarray ok at_42 (hw _ (List.mem_of_getElem? (i := 0) rfl)) (by decide) (cap := 2) (by decide) (by decide) (by decide) (by decide) (fun h285 b284 ea_b284 ge_b284 E_b284 A_b284 => ?_)
      have ne_b280_b284 : b280 ≠ b284 := fun q => Nat.lt_irrefl _ (Nat.lt_of_lt_of_eq A_b280.lt (ea_b284.symm.trans q.symm))
      replace A_b280 := A_b280.ext E_b284
      replace A_b284 : PA .int Z h285 b284 [(.int (0 : Int32)), (.int (0 : Int32))] := A_b284
      refine w_dup ok at_44 rfl ?_
      refine w_iconst ok at_45 (v := (0 : Int32)) rfl ?_
      refine w_iloadN ok at_46 rfl ?_
      refine w_iastore ok at_47 A_b284 ge_b284 (by decide) (Nat.le_of_ble_eq_true rfl) (fun h286 W_h286 A1_h286 => ?_)
      replace A_b280 := A_b280.other W_h286 ne_b280_b284
      replace A_b284 : PA .int Z h286 b284 [(.int c), (.int (0 : Int32))] := A1_h286
      refine w_dup ok at_48 rfl ?_
      refine w_iconst ok at_49 (v := (1 : Int32)) rfl ?_
      refine w_iloadN ok at_50 rfl ?_
      refine w_iastore ok at_51 A_b284 ge_b284 (by decide) (Nat.le_of_ble_eq_true rfl) (fun h287 W_h287 A1_h287 => ?_)
      replace A_b280 := A_b280.other W_h287 ne_b280_b284
      replace A_b284 : PA .int Z h287 b284 [(.int c), (.int d)] := A1_h287
      refine w_astore ok at_52 rfl (L' := #[.val (.int a), .val (.int b), .val (.int c), .val (.int d), .val (.int fl), .val (.int (1 : Int32)), .val (.int (0 : Int32)), .val (.ref b280), .val (.ref b284), .unset, .unset, .unset, .unset, .unset, .unset, .unset, .unset, .unset, .unset]) rfl ?_
      refine w_iconst ok at_54 (v := (2 : Int32)) rfl ?_
      refine w_newarray ok at_55 (hw _ (List.mem_of_getElem? (i := 0) rfl)) (by decide) (cap := 2) (by decide) (by decide) (by decide) (by decide) (fun h289 b288 ea_b288 ge_b288 E_b288 A_b288 => ?_)
      have ne_b280_b288 : b280 ≠ b288 := fun q => Nat.lt_irrefl _ (Nat.lt_of_lt_of_eq A_b280.lt (ea_b288.symm.trans q.symm))
      have ne_b284_b288 : b284 ≠ b288 := fun q => Nat.lt_irrefl _ (Nat.lt_of_lt_of_eq A_b284.lt (ea_b288.symm.trans q.symm))
      replace A_b280 := A_b280.ext E_b288
      replace A_b284 := A_b284.ext E_b288
      replace A_b288 : PA .int Z h289 b288 [(.int (0 : Int32)), (.int (0 : Int32))] := A_b288
      refine w_dup ok at_57 rfl ?_
      refine w_iconst ok at_58 (v := (0 : Int32)) rfl ?_
      refine w_iloadN ok at_59 rfl ?_
      refine w_iastore ok at_60 A_b288 ge_b288 (by decide) (Nat.le_of_ble_eq_true rfl) (fun h290 W_h290 A1_h290 => ?_)
      replace A_b280 := A_b280.other W_h290 ne_b280_b288
      replace A_b284 := A_b284.other W_h290 ne_b284_b288
      replace A_b288 : PA .int Z h290 b288 [(.int a), (.int (0 : Int32))] := A1_h290
      refine w_dup ok at_61 rfl ?_
      refine w_iconst ok at_62 (v := (1 : Int32)) rfl ?_
      refine w_iloadN ok at_63 rfl ?_
      refine w_iastore ok at_64 A_b288 ge_b288 (by decide) (Nat.le_of_ble_eq_true rfl) (fun h291 W_h291 A1_h291 => ?_)
      replace A_b280 := A_b280.other W_h291 ne_b280_b288
      replace A_b284 := A_b284.other W_h291 ne_b284_b288
      replace A_b288 : PA .int Z h291 b288 [(.int a), (.int b)] := A1_h291
      refine w_astore ok at_65 rfl (L' := #[.val (.int a), .val (.int b), .val (.int c), .val (.int d), .val (.int fl), .val (.int (1 : Int32)), .val (.int (0 : Int32)), .val (.ref b280), .val (.ref b284), .val (.ref b288), .unset, .unset, .unset, .unset, .unset, .unset, .unset, .unset, .unset]) rfl ?_
      refine w_new ok at_67 (hw _ (List.mem_of_getElem? (i := 1) rfl)) (hw _ (List.mem_of_getElem? (i := 2) rfl)) (hw _ (List.mem_of_getElem? (i := 3) rfl)) (la_FactTable hw) (by decide) (by decide) (fun h293 b292 ea_b292 ge_b292 E_b292 A_b292 => ?_)
      have ne_b280_b292 : b280 ≠ b292 := fun q => Nat.lt_irrefl _ (Nat.lt_of_lt_of_eq A_b280.lt (ea_b292.symm.trans q.symm))
      have ne_b284_b292 : b284 ≠ b292 := fun q => Nat.lt_irrefl _ (Nat.lt_of_lt_of_eq A_b284.lt (ea_b292.symm.trans q.symm))
      have ne_b288_b292 : b288 ≠ b292 := fun q => Nat.lt_irrefl _ (Nat.lt_of_lt_of_eq A_b288.lt (ea_b292.symm.trans q.symm))
      replace A_b280 := A_b280.ext E_b292
      replace A_b284 := A_b284.ext E_b292
      replace A_b288 := A_b288.ext E_b292
      replace A_b292 : Ob Z h293 b292 "com/example/hornconv/hornconv/FactTable" fl_FactTable [.null, .null, (.int (0 : Int32)), .null, .null, .null, .null, (.int (0 : Int32)), (.int (0 : Int32)), (.int (0 : Int32))] := A_b292
      refine w_dup ok at_70 rfl ?_
      refine w_iconst ok at_71 (v := (2 : Int32)) rfl ?_
      refine w_callI ok (y := (⟨"com/example/hornconv/hornconv/FactTable", "<init>", "(I)V"⟩ : MethodName)) (a := b292) (argsL := [(.int (2 : Int32))]) (rest := [(.ref b292)]) at_72 rfl (hw _ (List.mem_of_getElem? (i := 4) rfl)) (hw _ (List.mem_of_getElem? (i := 5) rfl)) (hw _ (List.mem_of_getElem? (i := 3) rfl)) (hw _ (List.mem_of_getElem? (i := 6) rfl)) (by decide) pd_28I29V rfl rfl (by decide) (Nat.le_of_ble_eq_true rfl) (by decide) (by decide) (fun z0 => rm_ctor l Z a0 hw [] n0 h293 z0 b292 A_b292 ge_b292) (fun v294 h295 qv294 => ?_)
      obtain ⟨rfl, un, me, ag, de, sl, po, ⟨z1, z2, z3, z4⟩, ⟨g1, g2, g3, g4⟩, ⟨nn0, nn1, nn2, nn3, nn4, nn5, nn6, nn7, nn8, nn9⟩, K1, A1, A_ag, A_de, A_sl, A_po⟩ := qv294
      have ne_b280_ag : b280 ≠ ag := Nat.ne_of_lt (Nat.lt_of_lt_of_le A_b280.lt z1)
      have ne_b284_ag : b284 ≠ ag := Nat.ne_of_lt (Nat.lt_of_lt_of_le A_b284.lt z1)
      have ne_b288_ag : b288 ≠ ag := Nat.ne_of_lt (Nat.lt_of_lt_of_le A_b288.lt z1)
      have ne_b292_ag : b292 ≠ ag := Nat.ne_of_lt (Nat.lt_of_lt_of_le A_b292.lt z1)
      have ne_b280_de : b280 ≠ de := Nat.ne_of_lt (Nat.lt_of_lt_of_le A_b280.lt z2)
      have ne_b284_de : b284 ≠ de := Nat.ne_of_lt (Nat.lt_of_lt_of_le A_b284.lt z2)
      have ne_b288_de : b288 ≠ de := Nat.ne_of_lt (Nat.lt_of_lt_of_le A_b288.lt z2)
      have ne_b292_de : b292 ≠ de := Nat.ne_of_lt (Nat.lt_of_lt_of_le A_b292.lt z2)
      have ne_b280_sl : b280 ≠ sl := Nat.ne_of_lt (Nat.lt_of_lt_of_le A_b280.lt z3)
      have ne_b284_sl : b284 ≠ sl := Nat.ne_of_lt (Nat.lt_of_lt_of_le A_b284.lt z3)
      have ne_b288_sl : b288 ≠ sl := Nat.ne_of_lt (Nat.lt_of_lt_of_le A_b288.lt z3)
      have ne_b292_sl : b292 ≠ sl := Nat.ne_of_lt (Nat.lt_of_lt_of_le A_b292.lt z3)
      have ne_b280_po : b280 ≠ po := Nat.ne_of_lt (Nat.lt_of_lt_of_le A_b280.lt z4)
      have ne_b284_po : b284 ≠ po := Nat.ne_of_lt (Nat.lt_of_lt_of_le A_b284.lt z4)
      have ne_b288_po : b288 ≠ po := Nat.ne_of_lt (Nat.lt_of_lt_of_le A_b288.lt z4)
      have ne_b292_po : b292 ≠ po := Nat.ne_of_lt (Nat.lt_of_lt_of_le A_b292.lt z4)
      replace A_b280 := A_b280.keep K1 (ninS ne_b280_b292 nin0)
      replace A_b284 := A_b284.keep K1 (ninS ne_b284_b292 nin0)
      replace A_b288 := A_b288.keep K1 (ninS ne_b288_b292 nin0)
      replace A_b292 := A1
      show W K l _ n0 _ h295 10 39 75 #[.val (.int a), .val (.int b), .val (.int c), .val (.int d), .val (.int fl), .val (.int (1 : Int32)), .val (.int (0 : Int32)), .val (.ref b280), .val (.ref b284), .val (.ref b288), .unset, .unset, .unset, .unset, .unset, .unset, .unset, .unset, .unset] [(.ref b292)]
      refine w_astore ok at_75 rfl (L' := #[.val (.int a), .val (.int b), .val (.int c), .val (.int d), .val (.int fl), .val (.int (1 : Int32)), .val (.int (0 : Int32)), .val (.ref b280), .val (.ref b284), .val (.ref b288), .val (.ref b292), .unset, .unset, .unset, .unset, .unset, .unset, .unset, .unset]) rfl ?_
      refine w_aload ok at_77 rfl rfl ?_
      refine w_aload ok at_79 rfl rfl ?_
      refine w_callV ok (y := (⟨"com/example/hornconv/hornconv/FactTable", "add", "([I)I"⟩ : MethodName)) (a := b292) (argsL := [(.ref b280)]) (rest := []) at_81 (hw _ (List.mem_of_getElem? (i := 32) rfl)) (hw _ (List.mem_of_getElem? (i := 33) rfl)) (hw _ (List.mem_of_getElem? (i := 35) rfl)) (hw _ (List.mem_of_getElem? (i := 34) rfl)) (hw _ (List.mem_of_getElem? (i := 3) rfl)) (hw _ (List.mem_of_getElem? (i := 36) rfl)) (by decide) A_b292.1 pd_285bI29I rfl rfl (by decide) (Nat.le_of_ble_eq_true rfl) (by decide) (by decide) (fun z0 => rm_add0 l Z a0 hw [] n0 h295 z0 b292 b280 un me ag de sl po (0 : Int32) (0 : Int32) (0 : Int32) (0 : Int32) (0 : Int32) (0 : Int32) (0 : Int32) (0 : Int32) (0 : Int32) (0 : Int32) (0 : Int32) (0 : Int32) (0 : Int32) (0 : Int32) a b f00 A_b292 A_ag A_de A_sl A_po A_b280 ge_b292 g1 g3 nn0 nn1 nn2 nn3 (Ne.symm ne_b280_b292) nn4 nn5 nn6 (Ne.symm ne_b280_ag) nn7 nn9 (Ne.symm ne_b280_sl) own_rw0 (own_free 8 8 (fun _ _ _ _ => rfl)) (by decide)) (fun v296 h297 qv296 => ?_)
      rcases qv296 with qv296 | qv296
      · obtain ⟨-, -, r, -, h1, -⟩ := qv296; exact absurd (show (-1 : Int32) < 0 by decide) h1
      · skip
        obtain ⟨rfl, r0, u0, h8_r0, hF_r0, hu_r0, K1, A1, A2, A3⟩ := qv296
        replace A_b280 := A_b280.keep K1 (ninS ne_b280_b292 (ninS ne_b280_ag (ninS ne_b280_sl nin0)))
        replace A_b284 := A_b284.keep K1 (ninS ne_b284_b292 (ninS ne_b284_ag (ninS ne_b284_sl nin0)))
        replace A_b288 := A_b288.keep K1 (ninS ne_b288_b292 (ninS ne_b288_ag (ninS ne_b288_sl nin0)))
        replace A_de := A_de.keep K1 (ninS (Ne.symm nn1) (ninS (Ne.symm nn4) (ninS nn7 nin0)))
        replace A_po := A_po.keep K1 (ninS (Ne.symm nn3) (ninS (Ne.symm nn6) (ninS (Ne.symm nn9) nin0)))
        replace A_b292 := A1
        replace A_ag := A2
        replace A_sl := A3
        have hus_u0 : 0 ≤ u0.toInt ∧ u0.toInt ≤ 1 := by have q := hu_r0; have z : (0 : Int32).toInt = 0 := rfl; omega
        have hr0 := own_first (E := fun k => own_eqr 2 [(0 : Int32), (0 : Int32), (0 : Int32), (0 : Int32), (0 : Int32), (0 : Int32), (0 : Int32), (0 : Int32)] [a, b] k = 1) hF_r0
        have hRn298 : Rw (upd f00 r0 0) := own_rwu own_rw0 (by decide)
        have hNn298 := own_free (f := (upd f00 r0 0)) r0 r0 (fun j _ h0 h1 => by simp [upd, h0, h1])
        show W K l _ n0 _ h297 10 39 84 #[.val (.int a), .val (.int b), .val (.int c), .val (.int d), .val (.int fl), .val (.int (1 : Int32)), .val (.int (0 : Int32)), .val (.ref b280), .val (.ref b284), .val (.ref b288), .val (.ref b292), .unset, .unset, .unset, .unset, .unset, .unset, .unset, .unset] [(.int (0 : Int32))]
        refine w_istore ok at_84 (L' := #[.val (.int a), .val (.int b), .val (.int c), .val (.int d), .val (.int fl), .val (.int (1 : Int32)), .val (.int (0 : Int32)), .val (.ref b280), .val (.ref b284), .val (.ref b288), .val (.ref b292), .val (.int (0 : Int32)), .unset, .unset, .unset, .unset, .unset, .unset, .unset]) rfl ?_
        refine w_aload ok at_86 rfl rfl ?_
        refine w_aload ok at_88 rfl rfl ?_
        refine w_callV ok (y := (⟨"com/example/hornconv/hornconv/FactTable", "add", "([I)I"⟩ : MethodName)) (a := b292) (argsL := [(.ref b284)]) (rest := []) at_90 (hw _ (List.mem_of_getElem? (i := 32) rfl)) (hw _ (List.mem_of_getElem? (i := 33) rfl)) (hw _ (List.mem_of_getElem? (i := 35) rfl)) (hw _ (List.mem_of_getElem? (i := 34) rfl)) (hw _ (List.mem_of_getElem? (i := 3) rfl)) (hw _ (List.mem_of_getElem? (i := 36) rfl)) (by decide) A_b292.1 pd_285bI29I rfl rfl (by decide) (Nat.le_of_ble_eq_true rfl) (by decide) (by decide) (fun z0 => rm_add1 l Z a0 hw [] n0 h297 z0 b292 b284 un me ag de sl po ((0 : Int32) + 1) u0 a b (0 : Int32) (0 : Int32) (0 : Int32) (0 : Int32) (0 : Int32) (0 : Int32) (0 : Int32) (0 : Int32) (0 : Int32) (0 : Int32) c d (upd f00 r0 0) A_b292 A_ag A_de A_sl A_po A_b284 ge_b292 g1 g3 nn0 nn1 nn2 nn3 (Ne.symm ne_b284_b292) nn4 nn5 nn6 (Ne.symm ne_b284_ag) nn7 nn9 (Ne.symm ne_b284_sl) hRn298 hNn298 (by omega)) (fun v299 h300 qv299 => ?_)
        rcases qv299 with qv299 | qv299
        · skip
          obtain ⟨rfl, rfl, ra1, hA8_1, hA1_1, hA2_1⟩ := qv299
          obtain ⟨s1, s2⟩ := own_sA hA1_1 hA2_1
          show W K l _ n0 _ h297 10 39 93 #[.val (.int a), .val (.int b), .val (.int c), .val (.int d), .val (.int fl), .val (.int (1 : Int32)), .val (.int (0 : Int32)), .val (.ref b280), .val (.ref b284), .val (.ref b288), .val (.ref b292), .val (.int (0 : Int32)), .unset, .unset, .unset, .unset, .unset, .unset, .unset] [(.int (-1 : Int32))]
          refine w_istore ok at_93 (L' := #[.val (.int a), .val (.int b), .val (.int c), .val (.int d), .val (.int fl), .val (.int (1 : Int32)), .val (.int (0 : Int32)), .val (.ref b280), .val (.ref b284), .val (.ref b288), .val (.ref b292), .val (.int (0 : Int32)), .val (.int (-1 : Int32)), .unset, .unset, .unset, .unset, .unset, .unset]) rfl ?_
          refine w_iloadN ok at_95 rfl ?_
          refine w_iloadN ok at_96 rfl ?_
          refine w_icmp_ne ok at_97 (pc' := 109) (by decide) (fun hc302 => False.elim (by exact hc302 s1)) (fun hc302 => ?_)
          show W K l _ n0 _ h297 10 39 100 #[.val (.int a), .val (.int b), .val (.int c), .val (.int d), .val (.int fl), .val (.int (1 : Int32)), .val (.int (0 : Int32)), .val (.ref b280), .val (.ref b284), .val (.ref b288), .val (.ref b292), .val (.int (0 : Int32)), .val (.int (-1 : Int32)), .unset, .unset, .unset, .unset, .unset, .unset] []
          refine w_iloadN ok at_100 rfl ?_
          refine w_iloadN ok at_101 rfl ?_
          refine w_icmp_ne ok at_102 (pc' := 109) (by decide) (fun hc304 => False.elim (by exact hc304 s2)) (fun hc304 => ?_)
          show W K l _ n0 _ h297 10 39 105 #[.val (.int a), .val (.int b), .val (.int c), .val (.int d), .val (.int fl), .val (.int (1 : Int32)), .val (.int (0 : Int32)), .val (.ref b280), .val (.ref b284), .val (.ref b288), .val (.ref b292), .val (.int (0 : Int32)), .val (.int (-1 : Int32)), .unset, .unset, .unset, .unset, .unset, .unset] []
          refine w_iconst ok at_105 (v := (1 : Int32)) rfl ?_
          refine w_goto ok at_106 (pc' := 110) (by decide) ?_
          refine w_istore ok at_110 (L' := #[.val (.int a), .val (.int b), .val (.int c), .val (.int d), .val (.int fl), .val (.int (1 : Int32)), .val (.int (0 : Int32)), .val (.ref b280), .val (.ref b284), .val (.ref b288), .val (.ref b292), .val (.int (0 : Int32)), .val (.int (-1 : Int32)), .val (.int (1 : Int32)), .unset, .unset, .unset, .unset, .unset]) rfl ?_
          refine w_iload ok at_112 rfl ?_
          refine w_if_eq ok at_114 (pc' := 119) (by decide) (fun hc306 => ?_) (fun hc306 => False.elim (by revert hc306; decide))
          show W K l _ n0 _ h297 10 39 119 #[.val (.int a), .val (.int b), .val (.int c), .val (.int d), .val (.int fl), .val (.int (1 : Int32)), .val (.int (0 : Int32)), .val (.ref b280), .val (.ref b284), .val (.ref b288), .val (.ref b292), .val (.int (0 : Int32)), .val (.int (-1 : Int32)), .val (.int (1 : Int32)), .unset, .unset, .unset, .unset, .unset] []
          refine w_iload ok at_119 rfl ?_
          refine w_if_eq ok at_121 (pc' := 133) (by decide) (fun hc308 => False.elim (by revert hc308; decide)) (fun hc308 => ?_)
          show W K l _ n0 _ h297 10 39 124 #[.val (.int a), .val (.int b), .val (.int c), .val (.int d), .val (.int fl), .val (.int (1 : Int32)), .val (.int (0 : Int32)), .val (.ref b280), .val (.ref b284), .val (.ref b288), .val (.ref b292), .val (.int (0 : Int32)), .val (.int (-1 : Int32)), .val (.int (1 : Int32)), .unset, .unset, .unset, .unset, .unset] []
          refine w_iload ok at_124 rfl ?_
          refine w_iconst ok at_126 (v := (-1 : Int32)) rfl ?_
          refine w_icmp_eq ok at_127 (pc' := 141) (by decide) (fun hc310 => ?_) (fun hc310 => False.elim (by revert hc310; decide))
          show W K l _ n0 _ h297 10 39 141 #[.val (.int a), .val (.int b), .val (.int c), .val (.int d), .val (.int fl), .val (.int (1 : Int32)), .val (.int (0 : Int32)), .val (.ref b280), .val (.ref b284), .val (.ref b288), .val (.ref b292), .val (.int (0 : Int32)), .val (.int (-1 : Int32)), .val (.int (1 : Int32)), .unset, .unset, .unset, .unset, .unset] []
          refine w_iload ok at_141 rfl ?_
          refine w_istore ok at_143 (L' := #[.val (.int a), .val (.int b), .val (.int c), .val (.int d), .val (.int fl), .val (.int (1 : Int32)), .val (.int (0 : Int32)), .val (.ref b280), .val (.ref b284), .val (.ref b288), .val (.ref b292), .val (.int (0 : Int32)), .val (.int (-1 : Int32)), .val (.int (1 : Int32)), .val (.int (1 : Int32)), .unset, .unset, .unset, .unset]) rfl ?_
          refine w_iload ok at_145 rfl ?_
          refine w_if_lt ok at_147 (pc' := 159) (by decide) (fun hc312 => ?_) (fun hc312 => False.elim (by revert hc312; decide))
          show W K l _ n0 _ h297 10 39 159 #[.val (.int a), .val (.int b), .val (.int c), .val (.int d), .val (.int fl), .val (.int (1 : Int32)), .val (.int (0 : Int32)), .val (.ref b280), .val (.ref b284), .val (.ref b288), .val (.ref b292), .val (.int (0 : Int32)), .val (.int (-1 : Int32)), .val (.int (1 : Int32)), .val (.int (1 : Int32)), .unset, .unset, .unset, .unset] []
          refine w_iconst ok at_159 (v := (0 : Int32)) rfl ?_
          refine w_istore ok at_160 (L' := #[.val (.int a), .val (.int b), .val (.int c), .val (.int d), .val (.int fl), .val (.int (1 : Int32)), .val (.int (0 : Int32)), .val (.ref b280), .val (.ref b284), .val (.ref b288), .val (.ref b292), .val (.int (0 : Int32)), .val (.int (-1 : Int32)), .val (.int (1 : Int32)), .val (.int (1 : Int32)), .val (.int (0 : Int32)), .unset, .unset, .unset]) rfl ?_
          refine w_iload ok at_162 rfl ?_
          refine w_if_eq ok at_164 (pc' := 173) (by decide) (fun hc314 => False.elim (by revert hc314; decide)) (fun hc314 => ?_)
          show W K l _ n0 _ h297 10 39 167 #[.val (.int a), .val (.int b), .val (.int c), .val (.int d), .val (.int fl), .val (.int (1 : Int32)), .val (.int (0 : Int32)), .val (.ref b280), .val (.ref b284), .val (.ref b288), .val (.ref b292), .val (.int (0 : Int32)), .val (.int (-1 : Int32)), .val (.int (1 : Int32)), .val (.int (1 : Int32)), .val (.int (0 : Int32)), .unset, .unset, .unset] []
          refine w_aload ok at_167 rfl rfl ?_
          refine w_iconst ok at_169 (v := (0 : Int32)) rfl ?_
          refine w_callV ok (y := (⟨"com/example/hornconv/hornconv/FactTable", "remove", "(I)V"⟩ : MethodName)) (a := b292) (argsL := [(.int (0 : Int32))]) (rest := []) at_170 (hw _ (List.mem_of_getElem? (i := 65) rfl)) (hw _ (List.mem_of_getElem? (i := 66) rfl)) (hw _ (List.mem_of_getElem? (i := 68) rfl)) (hw _ (List.mem_of_getElem? (i := 67) rfl)) (hw _ (List.mem_of_getElem? (i := 3) rfl)) (hw _ (List.mem_of_getElem? (i := 69) rfl)) (by decide) A_b292.1 pd_28I29V rfl rfl (by decide) (Nat.le_of_ble_eq_true rfl) (by decide) (by decide) (fun z0 => rm_rm0 l Z a0 hw [] n0 h297 z0 b292 un me ag de sl po (1 : Int32) ((0 : Int32) + 1) u0 a b (0 : Int32) (0 : Int32) (0 : Int32) (0 : Int32) (0 : Int32) (0 : Int32) (0 : Int32) (0 : Int32) (0 : Int32) (0 : Int32) (upd f00 r0 0) A_b292 A_ag A_de A_sl A_po ge_b292 g2 g3 nn0 nn1 nn2 nn3 nn4 nn5 nn6 nn7 nn9 nn8 ⟨0, by rw [← hr0]; simp [upd]⟩) (fun v315 h316 qv315 => ?_)
          obtain ⟨rfl, rr, h8_rr, hfr, K1, A1, A2, A3⟩ := qv315
          replace A_b280 := A_b280.keep K1 (ninS ne_b280_b292 (ninS ne_b280_de (ninS ne_b280_sl nin0)))
          replace A_b284 := A_b284.keep K1 (ninS ne_b284_b292 (ninS ne_b284_de (ninS ne_b284_sl nin0)))
          replace A_b288 := A_b288.keep K1 (ninS ne_b288_b292 (ninS ne_b288_de (ninS ne_b288_sl nin0)))
          replace A_ag := A_ag.keep K1 (ninS (Ne.symm nn0) (ninS nn4 (ninS nn5 nin0)))
          replace A_po := A_po.keep K1 (ninS (Ne.symm nn3) (ninS (Ne.symm nn8) (ninS (Ne.symm nn9) nin0)))
          replace A_b292 := A1
          replace A_de := A2
          replace A_sl := A3
          have e : rr = r0 := by
            simp only [upd, f00] at hfr; repeat' split at hfr
            all_goals first | assumption | exact absurd hfr (by decide)
          rw [e] at A_sl
          have hRn317 : Rw (upd (upd f00 r0 0) r0 (-2)) := own_rwu hRn298 (by decide)
          have hNn317 := own_free (f := (upd (upd f00 r0 0) r0 (-2))) r0 r0 (fun j _ h0 h1 => by simp [upd, h0, h1])
          show W K l _ n0 _ h316 10 39 173 #[.val (.int a), .val (.int b), .val (.int c), .val (.int d), .val (.int fl), .val (.int (1 : Int32)), .val (.int (0 : Int32)), .val (.ref b280), .val (.ref b284), .val (.ref b288), .val (.ref b292), .val (.int (0 : Int32)), .val (.int (-1 : Int32)), .val (.int (1 : Int32)), .val (.int (1 : Int32)), .val (.int (0 : Int32)), .unset, .unset, .unset] []
          refine w_iload ok at_173 rfl ?_
          refine w_if_eq ok at_175 (pc' := 185) (by decide) (fun hc319 => ?_) (fun hc319 => False.elim (by revert hc319; decide))
          show W K l _ n0 _ h316 10 39 185 #[.val (.int a), .val (.int b), .val (.int c), .val (.int d), .val (.int fl), .val (.int (1 : Int32)), .val (.int (0 : Int32)), .val (.ref b280), .val (.ref b284), .val (.ref b288), .val (.ref b292), .val (.int (0 : Int32)), .val (.int (-1 : Int32)), .val (.int (1 : Int32)), .val (.int (1 : Int32)), .val (.int (0 : Int32)), .unset, .unset, .unset] []
          refine w_aload ok at_185 rfl rfl ?_
          refine w_aload ok at_187 rfl rfl ?_
          refine w_callV ok (y := (⟨"com/example/hornconv/hornconv/FactTable", "add", "([I)I"⟩ : MethodName)) (a := b292) (argsL := [(.ref b288)]) (rest := []) at_189 (hw _ (List.mem_of_getElem? (i := 32) rfl)) (hw _ (List.mem_of_getElem? (i := 33) rfl)) (hw _ (List.mem_of_getElem? (i := 35) rfl)) (hw _ (List.mem_of_getElem? (i := 34) rfl)) (hw _ (List.mem_of_getElem? (i := 3) rfl)) (hw _ (List.mem_of_getElem? (i := 36) rfl)) (by decide) A_b292.1 pd_285bI29I rfl rfl (by decide) (Nat.le_of_ble_eq_true rfl) (by decide) (by decide) (fun z0 => rm_add1 l Z a0 hw [] n0 h316 z0 b292 b288 un me ag de sl po (((0 : Int32) + 1) - 1) u0 a b (0 : Int32) (0 : Int32) (0 : Int32) (0 : Int32) (0 : Int32) (0 : Int32) (1 : Int32) (0 : Int32) (0 : Int32) (0 : Int32) a b (upd (upd f00 r0 0) r0 (-2)) A_b292 A_ag A_de A_sl A_po A_b288 ge_b292 g1 g3 nn0 nn1 nn2 nn3 (Ne.symm ne_b288_b292) nn4 nn5 nn6 (Ne.symm ne_b288_ag) nn7 nn9 (Ne.symm ne_b288_sl) hRn317 hNn317 (by omega)) (fun v320 h321 qv320 => ?_)
          rcases qv320 with qv320 | qv320
          · obtain ⟨-, -, r, -, h1, -⟩ := qv320; exact (own_noneg (by simp only [upd, f00]; repeat' (first | decide | split)) h1).elim
          · skip
            obtain ⟨rfl, r2, u2, h8_r2, hF_r2, hu_r2, K1, A1, A2, A3⟩ := qv320
            replace A_b280 := A_b280.keep K1 (ninS ne_b280_b292 (ninS ne_b280_ag (ninS ne_b280_sl nin0)))
            replace A_b284 := A_b284.keep K1 (ninS ne_b284_b292 (ninS ne_b284_ag (ninS ne_b284_sl nin0)))
            replace A_b288 := A_b288.keep K1 (ninS ne_b288_b292 (ninS ne_b288_ag (ninS ne_b288_sl nin0)))
            replace A_de := A_de.keep K1 (ninS (Ne.symm nn1) (ninS (Ne.symm nn4) (ninS nn7 nin0)))
            replace A_po := A_po.keep K1 (ninS (Ne.symm nn3) (ninS (Ne.symm nn6) (ninS (Ne.symm nn9) nin0)))
            replace A_b292 := A1
            replace A_ag := A2
            replace A_sl := A3
            have hus_u2 : 0 ≤ u2.toInt ∧ u2.toInt ≤ 3 := by have q := hu_r2; have z : (0 : Int32).toInt = 0 := rfl; omega
            show W K l _ n0 _ h321 10 39 192 #[.val (.int a), .val (.int b), .val (.int c), .val (.int d), .val (.int fl), .val (.int (1 : Int32)), .val (.int (0 : Int32)), .val (.ref b280), .val (.ref b284), .val (.ref b288), .val (.ref b292), .val (.int (0 : Int32)), .val (.int (-1 : Int32)), .val (.int (1 : Int32)), .val (.int (1 : Int32)), .val (.int (0 : Int32)), .unset, .unset, .unset] [(.int (1 : Int32))]
            refine w_istore ok at_192 (L' := #[.val (.int a), .val (.int b), .val (.int c), .val (.int d), .val (.int fl), .val (.int (1 : Int32)), .val (.int (0 : Int32)), .val (.ref b280), .val (.ref b284), .val (.ref b288), .val (.ref b292), .val (.int (0 : Int32)), .val (.int (-1 : Int32)), .val (.int (1 : Int32)), .val (.int (1 : Int32)), .val (.int (0 : Int32)), .val (.int (1 : Int32)), .unset, .unset]) rfl ?_
            refine w_aload ok at_194 rfl rfl ?_
            refine w_iconst ok at_196 (v := (0 : Int32)) rfl ?_
            refine w_callV ok (y := (⟨"com/example/hornconv/hornconv/FactTable", "isLive", "(I)Z"⟩ : MethodName)) (a := b292) (argsL := [(.int (0 : Int32))]) (rest := []) at_197 (hw _ (List.mem_of_getElem? (i := 60) rfl)) (hw _ (List.mem_of_getElem? (i := 61) rfl)) (hw _ (List.mem_of_getElem? (i := 63) rfl)) (hw _ (List.mem_of_getElem? (i := 62) rfl)) (hw _ (List.mem_of_getElem? (i := 3) rfl)) (hw _ (List.mem_of_getElem? (i := 64) rfl)) (by decide) A_b292.1 pd_28I29Z rfl rfl (by decide) (Nat.le_of_ble_eq_true rfl) (by decide) (by decide) (fun z0 => rm_live0 l Z a0 hw [] n0 h321 z0 b292 un me ag de sl po (2 : Int32) ((((0 : Int32) + 1) - 1) + 1) u2 (1 : Int32) (0 : Int32) (0 : Int32) (0 : Int32) A_b292 A_de) (fun v322 h323 qv322 => ?_)
            obtain ⟨rfl, rfl⟩ := qv322
            rw [show own_live (1 : Int32) = 0 from rfl]
            show W K l _ n0 _ h321 10 39 200 #[.val (.int a), .val (.int b), .val (.int c), .val (.int d), .val (.int fl), .val (.int (1 : Int32)), .val (.int (0 : Int32)), .val (.ref b280), .val (.ref b284), .val (.ref b288), .val (.ref b292), .val (.int (0 : Int32)), .val (.int (-1 : Int32)), .val (.int (1 : Int32)), .val (.int (1 : Int32)), .val (.int (0 : Int32)), .val (.int (1 : Int32)), .unset, .unset] [(.int (0 : Int32))]
            refine w_iload ok at_200 rfl ?_
            refine w_if_ne ok at_202 (pc' := 209) (by decide) (fun hc325 => ?_) (fun hc325 => False.elim (by revert hc325; decide))
            show W K l _ n0 _ h321 10 39 209 #[.val (.int a), .val (.int b), .val (.int c), .val (.int d), .val (.int fl), .val (.int (1 : Int32)), .val (.int (0 : Int32)), .val (.ref b280), .val (.ref b284), .val (.ref b288), .val (.ref b292), .val (.int (0 : Int32)), .val (.int (-1 : Int32)), .val (.int (1 : Int32)), .val (.int (1 : Int32)), .val (.int (0 : Int32)), .val (.int (1 : Int32)), .unset, .unset] [(.int (0 : Int32))]
            refine w_iconst ok at_209 (v := (0 : Int32)) rfl ?_
            refine w_icmp_ne ok at_210 (pc' := 217) (by decide) (fun hc327 => False.elim (by revert hc327; decide)) (fun hc327 => ?_)
            show W K l _ n0 _ h321 10 39 213 #[.val (.int a), .val (.int b), .val (.int c), .val (.int d), .val (.int fl), .val (.int (1 : Int32)), .val (.int (0 : Int32)), .val (.ref b280), .val (.ref b284), .val (.ref b288), .val (.ref b292), .val (.int (0 : Int32)), .val (.int (-1 : Int32)), .val (.int (1 : Int32)), .val (.int (1 : Int32)), .val (.int (0 : Int32)), .val (.int (1 : Int32)), .unset, .unset] []
            refine w_iconst ok at_213 (v := (1 : Int32)) rfl ?_
            refine w_goto ok at_214 (pc' := 218) (by decide) ?_
            refine w_istore ok at_218 (L' := #[.val (.int a), .val (.int b), .val (.int c), .val (.int d), .val (.int fl), .val (.int (1 : Int32)), .val (.int (0 : Int32)), .val (.ref b280), .val (.ref b284), .val (.ref b288), .val (.ref b292), .val (.int (0 : Int32)), .val (.int (-1 : Int32)), .val (.int (1 : Int32)), .val (.int (1 : Int32)), .val (.int (0 : Int32)), .val (.int (1 : Int32)), .val (.int (1 : Int32)), .unset]) rfl ?_
            refine w_iload ok at_220 rfl ?_
            refine w_if_lt ok at_222 (pc' := 257) (by decide) (fun hc329 => ?_) (fun hc329 => False.elim (by revert hc329; decide))
            show W K l _ n0 _ h321 10 39 257 #[.val (.int a), .val (.int b), .val (.int c), .val (.int d), .val (.int fl), .val (.int (1 : Int32)), .val (.int (0 : Int32)), .val (.ref b280), .val (.ref b284), .val (.ref b288), .val (.ref b292), .val (.int (0 : Int32)), .val (.int (-1 : Int32)), .val (.int (1 : Int32)), .val (.int (1 : Int32)), .val (.int (0 : Int32)), .val (.int (1 : Int32)), .val (.int (1 : Int32)), .unset] []
            refine w_iload ok at_257 rfl ?_
            refine w_if_eq ok at_259 (pc' := 306) (by decide) (fun hc331 => False.elim (by revert hc331; decide)) (fun hc331 => ?_)
            show W K l _ n0 _ h321 10 39 262 #[.val (.int a), .val (.int b), .val (.int c), .val (.int d), .val (.int fl), .val (.int (1 : Int32)), .val (.int (0 : Int32)), .val (.ref b280), .val (.ref b284), .val (.ref b288), .val (.ref b292), .val (.int (0 : Int32)), .val (.int (-1 : Int32)), .val (.int (1 : Int32)), .val (.int (1 : Int32)), .val (.int (0 : Int32)), .val (.int (1 : Int32)), .val (.int (1 : Int32)), .unset] []
            refine w_iload ok at_262 rfl ?_
            refine w_if_lt ok at_264 (pc' := 271) (by decide) (fun hc333 => ?_) (fun hc333 => False.elim (by revert hc333; decide))
            show W K l _ n0 _ h321 10 39 271 #[.val (.int a), .val (.int b), .val (.int c), .val (.int d), .val (.int fl), .val (.int (1 : Int32)), .val (.int (0 : Int32)), .val (.ref b280), .val (.ref b284), .val (.ref b288), .val (.ref b292), .val (.int (0 : Int32)), .val (.int (-1 : Int32)), .val (.int (1 : Int32)), .val (.int (1 : Int32)), .val (.int (0 : Int32)), .val (.int (1 : Int32)), .val (.int (1 : Int32)), .unset] []
            refine w_iconst ok at_271 (v := (1 : Int32)) rfl ?_
            refine w_istore ok at_272 (L' := #[.val (.int a), .val (.int b), .val (.int c), .val (.int d), .val (.int fl), .val (.int (1 : Int32)), .val (.int (0 : Int32)), .val (.ref b280), .val (.ref b284), .val (.ref b288), .val (.ref b292), .val (.int (0 : Int32)), .val (.int (-1 : Int32)), .val (.int (1 : Int32)), .val (.int (1 : Int32)), .val (.int (0 : Int32)), .val (.int (1 : Int32)), .val (.int (1 : Int32)), .val (.int (1 : Int32))]) rfl ?_
            refine w_iload ok at_274 rfl ?_
            refine w_if_eq ok at_276 (pc' := 300) (by decide) (fun hc335 => False.elim (by revert hc335; decide)) (fun hc335 => ?_)
            show W K l _ n0 _ h321 10 39 279 #[.val (.int a), .val (.int b), .val (.int c), .val (.int d), .val (.int fl), .val (.int (1 : Int32)), .val (.int (0 : Int32)), .val (.ref b280), .val (.ref b284), .val (.ref b288), .val (.ref b292), .val (.int (0 : Int32)), .val (.int (-1 : Int32)), .val (.int (1 : Int32)), .val (.int (1 : Int32)), .val (.int (0 : Int32)), .val (.int (1 : Int32)), .val (.int (1 : Int32)), .val (.int (1 : Int32))] []
            refine w_iload ok at_279 rfl ?_
            refine w_iload ok at_281 rfl ?_
            refine w_icmp_ne ok at_283 (pc' := 300) (by decide) (fun hc337 => False.elim (by revert hc337; decide)) (fun hc337 => ?_)
            show W K l _ n0 _ h321 10 39 286 #[.val (.int a), .val (.int b), .val (.int c), .val (.int d), .val (.int fl), .val (.int (1 : Int32)), .val (.int (0 : Int32)), .val (.ref b280), .val (.ref b284), .val (.ref b288), .val (.ref b292), .val (.int (0 : Int32)), .val (.int (-1 : Int32)), .val (.int (1 : Int32)), .val (.int (1 : Int32)), .val (.int (0 : Int32)), .val (.int (1 : Int32)), .val (.int (1 : Int32)), .val (.int (1 : Int32))] []
            refine w_aload ok at_286 rfl rfl ?_
            refine w_iload ok at_288 rfl ?_
            refine w_callV ok (y := (⟨"com/example/hornconv/hornconv/FactTable", "isLive", "(I)Z"⟩ : MethodName)) (a := b292) (argsL := [(.int (1 : Int32))]) (rest := []) at_290 (hw _ (List.mem_of_getElem? (i := 60) rfl)) (hw _ (List.mem_of_getElem? (i := 61) rfl)) (hw _ (List.mem_of_getElem? (i := 63) rfl)) (hw _ (List.mem_of_getElem? (i := 62) rfl)) (hw _ (List.mem_of_getElem? (i := 3) rfl)) (hw _ (List.mem_of_getElem? (i := 64) rfl)) (by decide) A_b292.1 pd_28I29Z rfl rfl (by decide) (Nat.le_of_ble_eq_true rfl) (by decide) (by decide) (fun z0 => rm_live1 l Z a0 hw [] n0 h321 z0 b292 un me ag de sl po (2 : Int32) ((((0 : Int32) + 1) - 1) + 1) u2 (1 : Int32) (0 : Int32) (0 : Int32) (0 : Int32) A_b292 A_de) (fun v338 h339 qv338 => ?_)
            obtain ⟨rfl, rfl⟩ := qv338
            rw [show own_live (0 : Int32) = 1 from rfl]
            show W K l _ n0 _ h321 10 39 293 #[.val (.int a), .val (.int b), .val (.int c), .val (.int d), .val (.int fl), .val (.int (1 : Int32)), .val (.int (0 : Int32)), .val (.ref b280), .val (.ref b284), .val (.ref b288), .val (.ref b292), .val (.int (0 : Int32)), .val (.int (-1 : Int32)), .val (.int (1 : Int32)), .val (.int (1 : Int32)), .val (.int (0 : Int32)), .val (.int (1 : Int32)), .val (.int (1 : Int32)), .val (.int (1 : Int32))] [(.int (1 : Int32))]
            refine w_if_eq ok at_293 (pc' := 300) (by decide) (fun hc341 => False.elim (by revert hc341; decide)) (fun hc341 => ?_)
            show W K l _ n0 _ h321 10 39 296 #[.val (.int a), .val (.int b), .val (.int c), .val (.int d), .val (.int fl), .val (.int (1 : Int32)), .val (.int (0 : Int32)), .val (.ref b280), .val (.ref b284), .val (.ref b288), .val (.ref b292), .val (.int (0 : Int32)), .val (.int (-1 : Int32)), .val (.int (1 : Int32)), .val (.int (1 : Int32)), .val (.int (0 : Int32)), .val (.int (1 : Int32)), .val (.int (1 : Int32)), .val (.int (1 : Int32))] []
            refine w_iconst ok at_296 (v := (1 : Int32)) rfl ?_
            refine w_goto ok at_297 (pc' := 301) (by decide) ?_
            refine w_istore ok at_301 (L' := #[.val (.int a), .val (.int b), .val (.int c), .val (.int d), .val (.int fl), .val (.int (1 : Int32)), .val (.int (0 : Int32)), .val (.ref b280), .val (.ref b284), .val (.ref b288), .val (.ref b292), .val (.int (0 : Int32)), .val (.int (-1 : Int32)), .val (.int (1 : Int32)), .val (.int (1 : Int32)), .val (.int (0 : Int32)), .val (.int (1 : Int32)), .val (.int (1 : Int32)), .val (.int (1 : Int32))]) rfl ?_
            refine w_goto ok at_303 (pc' := 324) (by decide) ?_
            refine w_iload ok at_324 rfl ?_
            refine w_bret ok (by simp) at_326 (by decide) (by decide) ?_
            exact rfl
        · skip
          obtain ⟨rfl, r1, u1, h8_r1, hF_r1, hu_r1, K1, A1, A2, A3⟩ := qv299
          replace A_b280 := A_b280.keep K1 (ninS ne_b280_b292 (ninS ne_b280_ag (ninS ne_b280_sl nin0)))
          replace A_b284 := A_b284.keep K1 (ninS ne_b284_b292 (ninS ne_b284_ag (ninS ne_b284_sl nin0)))
          replace A_b288 := A_b288.keep K1 (ninS ne_b288_b292 (ninS ne_b288_ag (ninS ne_b288_sl nin0)))
          replace A_de := A_de.keep K1 (ninS (Ne.symm nn1) (ninS (Ne.symm nn4) (ninS nn7 nin0)))
          replace A_po := A_po.keep K1 (ninS (Ne.symm nn3) (ninS (Ne.symm nn6) (ninS (Ne.symm nn9) nin0)))
          replace A_b292 := A1
          replace A_ag := A2
          replace A_sl := A3
          have hus_u1 : 0 ≤ u1.toInt ∧ u1.toInt ≤ 2 := by have q := hu_r1; have z : (0 : Int32).toInt = 0 := rfl; omega
          have nsame : ¬ (a = c ∧ b = d) := fun q => own_hit (E := fun k => own_eqr 2 [a, b, 0, 0, 0, 0, 0, 0] [c, d] k = 1) hF_r1 (by rw [← q.1, ← q.2, ← hr0]; exact upd_same _ _ _) (own_eqk' (by rw [← q.1, ← q.2]; rfl))
          have ne10 : r1 ≠ r0 := fun q => by have h := hF_r1.1; rw [q, upd_same] at h; exact absurd h (by decide)
          obtain ⟨i1, hr1⟩ := own_at (E := fun k => own_eqr 2 [a, b, (0 : Int32), (0 : Int32), (0 : Int32), (0 : Int32), (0 : Int32), (0 : Int32)] [c, d] k = 1) hF_r1
          have hRn342 : Rw (upd (upd f00 r0 0) r1 1) := own_rwu hRn298 (by decide)
          have hNn342 := own_free (f := (upd (upd f00 r0 0) r1 1)) r0 r1 (fun j _ h0 h1 => by simp [upd, h0, h1])
          show W K l _ n0 _ h300 10 39 93 #[.val (.int a), .val (.int b), .val (.int c), .val (.int d), .val (.int fl), .val (.int (1 : Int32)), .val (.int (0 : Int32)), .val (.ref b280), .val (.ref b284), .val (.ref b288), .val (.ref b292), .val (.int (0 : Int32)), .unset, .unset, .unset, .unset, .unset, .unset, .unset] [(.int (1 : Int32))]
          refine w_istore ok at_93 (L' := #[.val (.int a), .val (.int b), .val (.int c), .val (.int d), .val (.int fl), .val (.int (1 : Int32)), .val (.int (0 : Int32)), .val (.ref b280), .val (.ref b284), .val (.ref b288), .val (.ref b292), .val (.int (0 : Int32)), .val (.int (1 : Int32)), .unset, .unset, .unset, .unset, .unset, .unset]) rfl ?_
          refine w_iloadN ok at_95 rfl ?_
          refine w_iloadN ok at_96 rfl ?_
          refine w_icmp_ne ok at_97 (pc' := 109) (by decide) (fun hc344 => ?_) (fun hc344 => ?_)
          · show W K l _ n0 _ h300 10 39 109 #[.val (.int a), .val (.int b), .val (.int c), .val (.int d), .val (.int fl), .val (.int (1 : Int32)), .val (.int (0 : Int32)), .val (.ref b280), .val (.ref b284), .val (.ref b288), .val (.ref b292), .val (.int (0 : Int32)), .val (.int (1 : Int32)), .unset, .unset, .unset, .unset, .unset, .unset] []
            refine w_iconst ok at_109 (v := (0 : Int32)) rfl ?_
            refine w_istore ok at_110 (L' := #[.val (.int a), .val (.int b), .val (.int c), .val (.int d), .val (.int fl), .val (.int (1 : Int32)), .val (.int (0 : Int32)), .val (.ref b280), .val (.ref b284), .val (.ref b288), .val (.ref b292), .val (.int (0 : Int32)), .val (.int (1 : Int32)), .val (.int (0 : Int32)), .unset, .unset, .unset, .unset, .unset]) rfl ?_
            refine w_iload ok at_112 rfl ?_
            refine w_if_eq ok at_114 (pc' := 119) (by decide) (fun hc346 => ?_) (fun hc346 => False.elim (by revert hc346; decide))
            show W K l _ n0 _ h300 10 39 119 #[.val (.int a), .val (.int b), .val (.int c), .val (.int d), .val (.int fl), .val (.int (1 : Int32)), .val (.int (0 : Int32)), .val (.ref b280), .val (.ref b284), .val (.ref b288), .val (.ref b292), .val (.int (0 : Int32)), .val (.int (1 : Int32)), .val (.int (0 : Int32)), .unset, .unset, .unset, .unset, .unset] []
            refine w_iload ok at_119 rfl ?_
            refine w_if_eq ok at_121 (pc' := 133) (by decide) (fun hc348 => ?_) (fun hc348 => False.elim (by revert hc348; decide))
            show W K l _ n0 _ h300 10 39 133 #[.val (.int a), .val (.int b), .val (.int c), .val (.int d), .val (.int fl), .val (.int (1 : Int32)), .val (.int (0 : Int32)), .val (.ref b280), .val (.ref b284), .val (.ref b288), .val (.ref b292), .val (.int (0 : Int32)), .val (.int (1 : Int32)), .val (.int (0 : Int32)), .unset, .unset, .unset, .unset, .unset] []
            refine w_iload ok at_133 rfl ?_
            refine w_iconst ok at_135 (v := (1 : Int32)) rfl ?_
            refine w_icmp_eq ok at_136 (pc' := 141) (by decide) (fun hc350 => ?_) (fun hc350 => False.elim (by revert hc350; decide))
            show W K l _ n0 _ h300 10 39 141 #[.val (.int a), .val (.int b), .val (.int c), .val (.int d), .val (.int fl), .val (.int (1 : Int32)), .val (.int (0 : Int32)), .val (.ref b280), .val (.ref b284), .val (.ref b288), .val (.ref b292), .val (.int (0 : Int32)), .val (.int (1 : Int32)), .val (.int (0 : Int32)), .unset, .unset, .unset, .unset, .unset] []
            refine w_iload ok at_141 rfl ?_
            refine w_istore ok at_143 (L' := #[.val (.int a), .val (.int b), .val (.int c), .val (.int d), .val (.int fl), .val (.int (1 : Int32)), .val (.int (0 : Int32)), .val (.ref b280), .val (.ref b284), .val (.ref b288), .val (.ref b292), .val (.int (0 : Int32)), .val (.int (1 : Int32)), .val (.int (0 : Int32)), .val (.int (1 : Int32)), .unset, .unset, .unset, .unset]) rfl ?_
            refine w_iload ok at_145 rfl ?_
            refine w_if_lt ok at_147 (pc' := 159) (by decide) (fun hc352 => False.elim (by revert hc352; decide)) (fun hc352 => ?_)
            show W K l _ n0 _ h300 10 39 150 #[.val (.int a), .val (.int b), .val (.int c), .val (.int d), .val (.int fl), .val (.int (1 : Int32)), .val (.int (0 : Int32)), .val (.ref b280), .val (.ref b284), .val (.ref b288), .val (.ref b292), .val (.int (0 : Int32)), .val (.int (1 : Int32)), .val (.int (0 : Int32)), .val (.int (1 : Int32)), .unset, .unset, .unset, .unset] []
            refine w_iload ok at_150 rfl ?_
            refine w_if_eq ok at_152 (pc' := 159) (by decide) (fun hc354 => ?_) (fun hc354 => False.elim (by revert hc354; decide))
            show W K l _ n0 _ h300 10 39 159 #[.val (.int a), .val (.int b), .val (.int c), .val (.int d), .val (.int fl), .val (.int (1 : Int32)), .val (.int (0 : Int32)), .val (.ref b280), .val (.ref b284), .val (.ref b288), .val (.ref b292), .val (.int (0 : Int32)), .val (.int (1 : Int32)), .val (.int (0 : Int32)), .val (.int (1 : Int32)), .unset, .unset, .unset, .unset] []
            refine w_iconst ok at_159 (v := (0 : Int32)) rfl ?_
            refine w_istore ok at_160 (L' := #[.val (.int a), .val (.int b), .val (.int c), .val (.int d), .val (.int fl), .val (.int (1 : Int32)), .val (.int (0 : Int32)), .val (.ref b280), .val (.ref b284), .val (.ref b288), .val (.ref b292), .val (.int (0 : Int32)), .val (.int (1 : Int32)), .val (.int (0 : Int32)), .val (.int (1 : Int32)), .val (.int (0 : Int32)), .unset, .unset, .unset]) rfl ?_
            refine w_iload ok at_162 rfl ?_
            refine w_if_eq ok at_164 (pc' := 173) (by decide) (fun hc356 => False.elim (by revert hc356; decide)) (fun hc356 => ?_)
            show W K l _ n0 _ h300 10 39 167 #[.val (.int a), .val (.int b), .val (.int c), .val (.int d), .val (.int fl), .val (.int (1 : Int32)), .val (.int (0 : Int32)), .val (.ref b280), .val (.ref b284), .val (.ref b288), .val (.ref b292), .val (.int (0 : Int32)), .val (.int (1 : Int32)), .val (.int (0 : Int32)), .val (.int (1 : Int32)), .val (.int (0 : Int32)), .unset, .unset, .unset] []
            refine w_aload ok at_167 rfl rfl ?_
            refine w_iconst ok at_169 (v := (0 : Int32)) rfl ?_
            refine w_callV ok (y := (⟨"com/example/hornconv/hornconv/FactTable", "remove", "(I)V"⟩ : MethodName)) (a := b292) (argsL := [(.int (0 : Int32))]) (rest := []) at_170 (hw _ (List.mem_of_getElem? (i := 65) rfl)) (hw _ (List.mem_of_getElem? (i := 66) rfl)) (hw _ (List.mem_of_getElem? (i := 68) rfl)) (hw _ (List.mem_of_getElem? (i := 67) rfl)) (hw _ (List.mem_of_getElem? (i := 3) rfl)) (hw _ (List.mem_of_getElem? (i := 69) rfl)) (by decide) A_b292.1 pd_28I29V rfl rfl (by decide) (Nat.le_of_ble_eq_true rfl) (by decide) (by decide) (fun z0 => rm_rm0 l Z a0 hw [] n0 h300 z0 b292 un me ag de sl po (2 : Int32) (((0 : Int32) + 1) + 1) u1 a b c d (0 : Int32) (0 : Int32) (0 : Int32) (0 : Int32) (0 : Int32) (0 : Int32) (0 : Int32) (0 : Int32) (upd (upd f00 r0 0) r1 1) A_b292 A_ag A_de A_sl A_po ge_b292 g2 g3 nn0 nn1 nn2 nn3 nn4 nn5 nn6 nn7 nn9 nn8 ⟨0, by rw [← hr0]; simp [upd, Ne.symm ne10]⟩) (fun v357 h358 qv357 => ?_)
            obtain ⟨rfl, rr, h8_rr, hfr, K1, A1, A2, A3⟩ := qv357
            replace A_b280 := A_b280.keep K1 (ninS ne_b280_b292 (ninS ne_b280_de (ninS ne_b280_sl nin0)))
            replace A_b284 := A_b284.keep K1 (ninS ne_b284_b292 (ninS ne_b284_de (ninS ne_b284_sl nin0)))
            replace A_b288 := A_b288.keep K1 (ninS ne_b288_b292 (ninS ne_b288_de (ninS ne_b288_sl nin0)))
            replace A_ag := A_ag.keep K1 (ninS (Ne.symm nn0) (ninS nn4 (ninS nn5 nin0)))
            replace A_po := A_po.keep K1 (ninS (Ne.symm nn3) (ninS (Ne.symm nn8) (ninS (Ne.symm nn9) nin0)))
            replace A_b292 := A1
            replace A_de := A2
            replace A_sl := A3
            have e : rr = r0 := by
              simp only [upd, f00] at hfr; repeat' split at hfr
              all_goals first | assumption | exact absurd hfr (by decide)
            rw [e] at A_sl
            have hRn359 : Rw (upd (upd (upd f00 r0 0) r1 1) r0 (-2)) := own_rwu hRn342 (by decide)
            have hNn359 := own_free (f := (upd (upd (upd f00 r0 0) r1 1) r0 (-2))) r0 r1 (fun j _ h0 h1 => by simp [upd, h0, h1])
            show W K l _ n0 _ h358 10 39 173 #[.val (.int a), .val (.int b), .val (.int c), .val (.int d), .val (.int fl), .val (.int (1 : Int32)), .val (.int (0 : Int32)), .val (.ref b280), .val (.ref b284), .val (.ref b288), .val (.ref b292), .val (.int (0 : Int32)), .val (.int (1 : Int32)), .val (.int (0 : Int32)), .val (.int (1 : Int32)), .val (.int (0 : Int32)), .unset, .unset, .unset] []
            refine w_iload ok at_173 rfl ?_
            refine w_if_eq ok at_175 (pc' := 185) (by decide) (fun hc361 => ?_) (fun hc361 => False.elim (by revert hc361; decide))
            show W K l _ n0 _ h358 10 39 185 #[.val (.int a), .val (.int b), .val (.int c), .val (.int d), .val (.int fl), .val (.int (1 : Int32)), .val (.int (0 : Int32)), .val (.ref b280), .val (.ref b284), .val (.ref b288), .val (.ref b292), .val (.int (0 : Int32)), .val (.int (1 : Int32)), .val (.int (0 : Int32)), .val (.int (1 : Int32)), .val (.int (0 : Int32)), .unset, .unset, .unset] []
            refine w_aload ok at_185 rfl rfl ?_
            refine w_aload ok at_187 rfl rfl ?_
            refine w_callV ok (y := (⟨"com/example/hornconv/hornconv/FactTable", "add", "([I)I"⟩ : MethodName)) (a := b292) (argsL := [(.ref b288)]) (rest := []) at_189 (hw _ (List.mem_of_getElem? (i := 32) rfl)) (hw _ (List.mem_of_getElem? (i := 33) rfl)) (hw _ (List.mem_of_getElem? (i := 35) rfl)) (hw _ (List.mem_of_getElem? (i := 34) rfl)) (hw _ (List.mem_of_getElem? (i := 3) rfl)) (hw _ (List.mem_of_getElem? (i := 36) rfl)) (by decide) A_b292.1 pd_285bI29I rfl rfl (by decide) (Nat.le_of_ble_eq_true rfl) (by decide) (by decide) (fun z0 => rm_add2 l Z a0 hw [] n0 h358 z0 b292 b288 un me ag de sl po ((((0 : Int32) + 1) + 1) - 1) u1 a b c d (0 : Int32) (0 : Int32) (0 : Int32) (0 : Int32) (1 : Int32) (0 : Int32) (0 : Int32) (0 : Int32) a b (upd (upd (upd f00 r0 0) r1 1) r0 (-2)) A_b292 A_ag A_de A_sl A_po A_b288 ge_b292 g1 g3 nn0 nn1 nn2 nn3 (Ne.symm ne_b288_b292) nn4 nn5 nn6 (Ne.symm ne_b288_ag) nn7 nn9 (Ne.symm ne_b288_sl) hRn359 hNn359 (by omega)) (fun v362 h363 qv362 => ?_)
            rcases qv362 with qv362 | qv362
            · obtain ⟨-, -, r, -, h1, h2⟩ := qv362; exact (own_one nsame h1 h2 (by simp only [upd, f00]; repeat' (first | decide | split))).elim
            · skip
              obtain ⟨rfl, r2, u2, h8_r2, hF_r2, hu_r2, K1, A1, A2, A3⟩ := qv362
              replace A_b280 := A_b280.keep K1 (ninS ne_b280_b292 (ninS ne_b280_ag (ninS ne_b280_sl nin0)))
              replace A_b284 := A_b284.keep K1 (ninS ne_b284_b292 (ninS ne_b284_ag (ninS ne_b284_sl nin0)))
              replace A_b288 := A_b288.keep K1 (ninS ne_b288_b292 (ninS ne_b288_ag (ninS ne_b288_sl nin0)))
              replace A_de := A_de.keep K1 (ninS (Ne.symm nn1) (ninS (Ne.symm nn4) (ninS nn7 nin0)))
              replace A_po := A_po.keep K1 (ninS (Ne.symm nn3) (ninS (Ne.symm nn6) (ninS (Ne.symm nn9) nin0)))
              replace A_b292 := A1
              replace A_ag := A2
              replace A_sl := A3
              have hus_u2 : 0 ≤ u2.toInt ∧ u2.toInt ≤ 3 := by have q := hu_r2; have z : (0 : Int32).toInt = 0 := rfl; omega
              show W K l _ n0 _ h363 10 39 192 #[.val (.int a), .val (.int b), .val (.int c), .val (.int d), .val (.int fl), .val (.int (1 : Int32)), .val (.int (0 : Int32)), .val (.ref b280), .val (.ref b284), .val (.ref b288), .val (.ref b292), .val (.int (0 : Int32)), .val (.int (1 : Int32)), .val (.int (0 : Int32)), .val (.int (1 : Int32)), .val (.int (0 : Int32)), .unset, .unset, .unset] [(.int (2 : Int32))]
              refine w_istore ok at_192 (L' := #[.val (.int a), .val (.int b), .val (.int c), .val (.int d), .val (.int fl), .val (.int (1 : Int32)), .val (.int (0 : Int32)), .val (.ref b280), .val (.ref b284), .val (.ref b288), .val (.ref b292), .val (.int (0 : Int32)), .val (.int (1 : Int32)), .val (.int (0 : Int32)), .val (.int (1 : Int32)), .val (.int (0 : Int32)), .val (.int (2 : Int32)), .unset, .unset]) rfl ?_
              refine w_aload ok at_194 rfl rfl ?_
              refine w_iconst ok at_196 (v := (0 : Int32)) rfl ?_
              refine w_callV ok (y := (⟨"com/example/hornconv/hornconv/FactTable", "isLive", "(I)Z"⟩ : MethodName)) (a := b292) (argsL := [(.int (0 : Int32))]) (rest := []) at_197 (hw _ (List.mem_of_getElem? (i := 60) rfl)) (hw _ (List.mem_of_getElem? (i := 61) rfl)) (hw _ (List.mem_of_getElem? (i := 63) rfl)) (hw _ (List.mem_of_getElem? (i := 62) rfl)) (hw _ (List.mem_of_getElem? (i := 3) rfl)) (hw _ (List.mem_of_getElem? (i := 64) rfl)) (by decide) A_b292.1 pd_28I29Z rfl rfl (by decide) (Nat.le_of_ble_eq_true rfl) (by decide) (by decide) (fun z0 => rm_live0 l Z a0 hw [] n0 h363 z0 b292 un me ag de sl po (3 : Int32) (((((0 : Int32) + 1) + 1) - 1) + 1) u2 (1 : Int32) (0 : Int32) (0 : Int32) (0 : Int32) A_b292 A_de) (fun v364 h365 qv364 => ?_)
              obtain ⟨rfl, rfl⟩ := qv364
              rw [show own_live (1 : Int32) = 0 from rfl]
              show W K l _ n0 _ h363 10 39 200 #[.val (.int a), .val (.int b), .val (.int c), .val (.int d), .val (.int fl), .val (.int (1 : Int32)), .val (.int (0 : Int32)), .val (.ref b280), .val (.ref b284), .val (.ref b288), .val (.ref b292), .val (.int (0 : Int32)), .val (.int (1 : Int32)), .val (.int (0 : Int32)), .val (.int (1 : Int32)), .val (.int (0 : Int32)), .val (.int (2 : Int32)), .unset, .unset] [(.int (0 : Int32))]
              refine w_iload ok at_200 rfl ?_
              refine w_if_ne ok at_202 (pc' := 209) (by decide) (fun hc367 => ?_) (fun hc367 => False.elim (by revert hc367; decide))
              show W K l _ n0 _ h363 10 39 209 #[.val (.int a), .val (.int b), .val (.int c), .val (.int d), .val (.int fl), .val (.int (1 : Int32)), .val (.int (0 : Int32)), .val (.ref b280), .val (.ref b284), .val (.ref b288), .val (.ref b292), .val (.int (0 : Int32)), .val (.int (1 : Int32)), .val (.int (0 : Int32)), .val (.int (1 : Int32)), .val (.int (0 : Int32)), .val (.int (2 : Int32)), .unset, .unset] [(.int (0 : Int32))]
              refine w_iconst ok at_209 (v := (0 : Int32)) rfl ?_
              refine w_icmp_ne ok at_210 (pc' := 217) (by decide) (fun hc369 => False.elim (by revert hc369; decide)) (fun hc369 => ?_)
              show W K l _ n0 _ h363 10 39 213 #[.val (.int a), .val (.int b), .val (.int c), .val (.int d), .val (.int fl), .val (.int (1 : Int32)), .val (.int (0 : Int32)), .val (.ref b280), .val (.ref b284), .val (.ref b288), .val (.ref b292), .val (.int (0 : Int32)), .val (.int (1 : Int32)), .val (.int (0 : Int32)), .val (.int (1 : Int32)), .val (.int (0 : Int32)), .val (.int (2 : Int32)), .unset, .unset] []
              refine w_iconst ok at_213 (v := (1 : Int32)) rfl ?_
              refine w_goto ok at_214 (pc' := 218) (by decide) ?_
              refine w_istore ok at_218 (L' := #[.val (.int a), .val (.int b), .val (.int c), .val (.int d), .val (.int fl), .val (.int (1 : Int32)), .val (.int (0 : Int32)), .val (.ref b280), .val (.ref b284), .val (.ref b288), .val (.ref b292), .val (.int (0 : Int32)), .val (.int (1 : Int32)), .val (.int (0 : Int32)), .val (.int (1 : Int32)), .val (.int (0 : Int32)), .val (.int (2 : Int32)), .val (.int (1 : Int32)), .unset]) rfl ?_
              refine w_iload ok at_220 rfl ?_
              refine w_if_lt ok at_222 (pc' := 257) (by decide) (fun hc371 => False.elim (by revert hc371; decide)) (fun hc371 => ?_)
              show W K l _ n0 _ h363 10 39 225 #[.val (.int a), .val (.int b), .val (.int c), .val (.int d), .val (.int fl), .val (.int (1 : Int32)), .val (.int (0 : Int32)), .val (.ref b280), .val (.ref b284), .val (.ref b288), .val (.ref b292), .val (.int (0 : Int32)), .val (.int (1 : Int32)), .val (.int (0 : Int32)), .val (.int (1 : Int32)), .val (.int (0 : Int32)), .val (.int (2 : Int32)), .val (.int (1 : Int32)), .unset] []
              refine w_iload ok at_225 rfl ?_
              refine w_if_eq ok at_227 (pc' := 254) (by decide) (fun hc373 => False.elim (by revert hc373; decide)) (fun hc373 => ?_)
              show W K l _ n0 _ h363 10 39 230 #[.val (.int a), .val (.int b), .val (.int c), .val (.int d), .val (.int fl), .val (.int (1 : Int32)), .val (.int (0 : Int32)), .val (.ref b280), .val (.ref b284), .val (.ref b288), .val (.ref b292), .val (.int (0 : Int32)), .val (.int (1 : Int32)), .val (.int (0 : Int32)), .val (.int (1 : Int32)), .val (.int (0 : Int32)), .val (.int (2 : Int32)), .val (.int (1 : Int32)), .unset] []
              refine w_aload ok at_230 rfl rfl ?_
              refine w_iload ok at_232 rfl ?_
              refine w_callV ok (y := (⟨"com/example/hornconv/hornconv/FactTable", "isLive", "(I)Z"⟩ : MethodName)) (a := b292) (argsL := [(.int (1 : Int32))]) (rest := []) at_234 (hw _ (List.mem_of_getElem? (i := 60) rfl)) (hw _ (List.mem_of_getElem? (i := 61) rfl)) (hw _ (List.mem_of_getElem? (i := 63) rfl)) (hw _ (List.mem_of_getElem? (i := 62) rfl)) (hw _ (List.mem_of_getElem? (i := 3) rfl)) (hw _ (List.mem_of_getElem? (i := 64) rfl)) (by decide) A_b292.1 pd_28I29Z rfl rfl (by decide) (Nat.le_of_ble_eq_true rfl) (by decide) (by decide) (fun z0 => rm_live1 l Z a0 hw [] n0 h363 z0 b292 un me ag de sl po (3 : Int32) (((((0 : Int32) + 1) + 1) - 1) + 1) u2 (1 : Int32) (0 : Int32) (0 : Int32) (0 : Int32) A_b292 A_de) (fun v374 h375 qv374 => ?_)
              obtain ⟨rfl, rfl⟩ := qv374
              rw [show own_live (0 : Int32) = 1 from rfl]
              show W K l _ n0 _ h363 10 39 237 #[.val (.int a), .val (.int b), .val (.int c), .val (.int d), .val (.int fl), .val (.int (1 : Int32)), .val (.int (0 : Int32)), .val (.ref b280), .val (.ref b284), .val (.ref b288), .val (.ref b292), .val (.int (0 : Int32)), .val (.int (1 : Int32)), .val (.int (0 : Int32)), .val (.int (1 : Int32)), .val (.int (0 : Int32)), .val (.int (2 : Int32)), .val (.int (1 : Int32)), .unset] [(.int (1 : Int32))]
              refine w_iload ok at_237 rfl ?_
              refine w_if_ne ok at_239 (pc' := 246) (by decide) (fun hc377 => False.elim (by revert hc377; decide)) (fun hc377 => ?_)
              show W K l _ n0 _ h363 10 39 242 #[.val (.int a), .val (.int b), .val (.int c), .val (.int d), .val (.int fl), .val (.int (1 : Int32)), .val (.int (0 : Int32)), .val (.ref b280), .val (.ref b284), .val (.ref b288), .val (.ref b292), .val (.int (0 : Int32)), .val (.int (1 : Int32)), .val (.int (0 : Int32)), .val (.int (1 : Int32)), .val (.int (0 : Int32)), .val (.int (2 : Int32)), .val (.int (1 : Int32)), .unset] [(.int (1 : Int32))]
              refine w_iconst ok at_242 (v := (1 : Int32)) rfl ?_
              refine w_goto ok at_243 (pc' := 247) (by decide) ?_
              refine w_icmp_ne ok at_247 (pc' := 254) (by decide) (fun hc379 => False.elim (by revert hc379; decide)) (fun hc379 => ?_)
              show W K l _ n0 _ h363 10 39 250 #[.val (.int a), .val (.int b), .val (.int c), .val (.int d), .val (.int fl), .val (.int (1 : Int32)), .val (.int (0 : Int32)), .val (.ref b280), .val (.ref b284), .val (.ref b288), .val (.ref b292), .val (.int (0 : Int32)), .val (.int (1 : Int32)), .val (.int (0 : Int32)), .val (.int (1 : Int32)), .val (.int (0 : Int32)), .val (.int (2 : Int32)), .val (.int (1 : Int32)), .unset] []
              refine w_iconst ok at_250 (v := (1 : Int32)) rfl ?_
              refine w_goto ok at_251 (pc' := 255) (by decide) ?_
              refine w_istore ok at_255 (L' := #[.val (.int a), .val (.int b), .val (.int c), .val (.int d), .val (.int fl), .val (.int (1 : Int32)), .val (.int (0 : Int32)), .val (.ref b280), .val (.ref b284), .val (.ref b288), .val (.ref b292), .val (.int (0 : Int32)), .val (.int (1 : Int32)), .val (.int (0 : Int32)), .val (.int (1 : Int32)), .val (.int (0 : Int32)), .val (.int (2 : Int32)), .val (.int (1 : Int32)), .unset]) rfl ?_
              refine w_iload ok at_257 rfl ?_
              refine w_if_eq ok at_259 (pc' := 306) (by decide) (fun hc381 => False.elim (by revert hc381; decide)) (fun hc381 => ?_)
              show W K l _ n0 _ h363 10 39 262 #[.val (.int a), .val (.int b), .val (.int c), .val (.int d), .val (.int fl), .val (.int (1 : Int32)), .val (.int (0 : Int32)), .val (.ref b280), .val (.ref b284), .val (.ref b288), .val (.ref b292), .val (.int (0 : Int32)), .val (.int (1 : Int32)), .val (.int (0 : Int32)), .val (.int (1 : Int32)), .val (.int (0 : Int32)), .val (.int (2 : Int32)), .val (.int (1 : Int32)), .unset] []
              refine w_iload ok at_262 rfl ?_
              refine w_if_lt ok at_264 (pc' := 271) (by decide) (fun hc383 => False.elim (by revert hc383; decide)) (fun hc383 => ?_)
              show W K l _ n0 _ h363 10 39 267 #[.val (.int a), .val (.int b), .val (.int c), .val (.int d), .val (.int fl), .val (.int (1 : Int32)), .val (.int (0 : Int32)), .val (.ref b280), .val (.ref b284), .val (.ref b288), .val (.ref b292), .val (.int (0 : Int32)), .val (.int (1 : Int32)), .val (.int (0 : Int32)), .val (.int (1 : Int32)), .val (.int (0 : Int32)), .val (.int (2 : Int32)), .val (.int (1 : Int32)), .unset] []
              refine w_iconst ok at_267 (v := (2 : Int32)) rfl ?_
              refine w_goto ok at_268 (pc' := 272) (by decide) ?_
              refine w_istore ok at_272 (L' := #[.val (.int a), .val (.int b), .val (.int c), .val (.int d), .val (.int fl), .val (.int (1 : Int32)), .val (.int (0 : Int32)), .val (.ref b280), .val (.ref b284), .val (.ref b288), .val (.ref b292), .val (.int (0 : Int32)), .val (.int (1 : Int32)), .val (.int (0 : Int32)), .val (.int (1 : Int32)), .val (.int (0 : Int32)), .val (.int (2 : Int32)), .val (.int (1 : Int32)), .val (.int (2 : Int32))]) rfl ?_
              refine w_iload ok at_274 rfl ?_
              refine w_if_eq ok at_276 (pc' := 300) (by decide) (fun hc385 => False.elim (by revert hc385; decide)) (fun hc385 => ?_)
              show W K l _ n0 _ h363 10 39 279 #[.val (.int a), .val (.int b), .val (.int c), .val (.int d), .val (.int fl), .val (.int (1 : Int32)), .val (.int (0 : Int32)), .val (.ref b280), .val (.ref b284), .val (.ref b288), .val (.ref b292), .val (.int (0 : Int32)), .val (.int (1 : Int32)), .val (.int (0 : Int32)), .val (.int (1 : Int32)), .val (.int (0 : Int32)), .val (.int (2 : Int32)), .val (.int (1 : Int32)), .val (.int (2 : Int32))] []
              refine w_iload ok at_279 rfl ?_
              refine w_iload ok at_281 rfl ?_
              refine w_icmp_ne ok at_283 (pc' := 300) (by decide) (fun hc387 => False.elim (by revert hc387; decide)) (fun hc387 => ?_)
              show W K l _ n0 _ h363 10 39 286 #[.val (.int a), .val (.int b), .val (.int c), .val (.int d), .val (.int fl), .val (.int (1 : Int32)), .val (.int (0 : Int32)), .val (.ref b280), .val (.ref b284), .val (.ref b288), .val (.ref b292), .val (.int (0 : Int32)), .val (.int (1 : Int32)), .val (.int (0 : Int32)), .val (.int (1 : Int32)), .val (.int (0 : Int32)), .val (.int (2 : Int32)), .val (.int (1 : Int32)), .val (.int (2 : Int32))] []
              refine w_aload ok at_286 rfl rfl ?_
              refine w_iload ok at_288 rfl ?_
              refine w_callV ok (y := (⟨"com/example/hornconv/hornconv/FactTable", "isLive", "(I)Z"⟩ : MethodName)) (a := b292) (argsL := [(.int (2 : Int32))]) (rest := []) at_290 (hw _ (List.mem_of_getElem? (i := 60) rfl)) (hw _ (List.mem_of_getElem? (i := 61) rfl)) (hw _ (List.mem_of_getElem? (i := 63) rfl)) (hw _ (List.mem_of_getElem? (i := 62) rfl)) (hw _ (List.mem_of_getElem? (i := 3) rfl)) (hw _ (List.mem_of_getElem? (i := 64) rfl)) (by decide) A_b292.1 pd_28I29Z rfl rfl (by decide) (Nat.le_of_ble_eq_true rfl) (by decide) (by decide) (fun z0 => rm_live2 l Z a0 hw [] n0 h363 z0 b292 un me ag de sl po (3 : Int32) (((((0 : Int32) + 1) + 1) - 1) + 1) u2 (1 : Int32) (0 : Int32) (0 : Int32) (0 : Int32) A_b292 A_de) (fun v388 h389 qv388 => ?_)
              obtain ⟨rfl, rfl⟩ := qv388
              rw [show own_live (0 : Int32) = 1 from rfl]
              show W K l _ n0 _ h363 10 39 293 #[.val (.int a), .val (.int b), .val (.int c), .val (.int d), .val (.int fl), .val (.int (1 : Int32)), .val (.int (0 : Int32)), .val (.ref b280), .val (.ref b284), .val (.ref b288), .val (.ref b292), .val (.int (0 : Int32)), .val (.int (1 : Int32)), .val (.int (0 : Int32)), .val (.int (1 : Int32)), .val (.int (0 : Int32)), .val (.int (2 : Int32)), .val (.int (1 : Int32)), .val (.int (2 : Int32))] [(.int (1 : Int32))]
              refine w_if_eq ok at_293 (pc' := 300) (by decide) (fun hc391 => False.elim (by revert hc391; decide)) (fun hc391 => ?_)
              show W K l _ n0 _ h363 10 39 296 #[.val (.int a), .val (.int b), .val (.int c), .val (.int d), .val (.int fl), .val (.int (1 : Int32)), .val (.int (0 : Int32)), .val (.ref b280), .val (.ref b284), .val (.ref b288), .val (.ref b292), .val (.int (0 : Int32)), .val (.int (1 : Int32)), .val (.int (0 : Int32)), .val (.int (1 : Int32)), .val (.int (0 : Int32)), .val (.int (2 : Int32)), .val (.int (1 : Int32)), .val (.int (2 : Int32))] []
              refine w_iconst ok at_296 (v := (1 : Int32)) rfl ?_
              refine w_goto ok at_297 (pc' := 301) (by decide) ?_
              refine w_istore ok at_301 (L' := #[.val (.int a), .val (.int b), .val (.int c), .val (.int d), .val (.int fl), .val (.int (1 : Int32)), .val (.int (0 : Int32)), .val (.ref b280), .val (.ref b284), .val (.ref b288), .val (.ref b292), .val (.int (0 : Int32)), .val (.int (1 : Int32)), .val (.int (0 : Int32)), .val (.int (1 : Int32)), .val (.int (0 : Int32)), .val (.int (2 : Int32)), .val (.int (1 : Int32)), .val (.int (2 : Int32))]) rfl ?_
              refine w_goto ok at_303 (pc' := 324) (by decide) ?_
              refine w_iload ok at_324 rfl ?_
              refine w_bret ok (by simp) at_326 (by decide) (by decide) ?_
              exact rfl
          · show W K l _ n0 _ h300 10 39 100 #[.val (.int a), .val (.int b), .val (.int c), .val (.int d), .val (.int fl), .val (.int (1 : Int32)), .val (.int (0 : Int32)), .val (.ref b280), .val (.ref b284), .val (.ref b288), .val (.ref b292), .val (.int (0 : Int32)), .val (.int (1 : Int32)), .unset, .unset, .unset, .unset, .unset, .unset] []
            refine w_iloadN ok at_100 rfl ?_
            refine w_iloadN ok at_101 rfl ?_
            refine w_icmp_ne ok at_102 (pc' := 109) (by decide) (fun hc393 => ?_) (fun hc393 => False.elim (by exact nsame ⟨hc344, hc393⟩))
            show W K l _ n0 _ h300 10 39 109 #[.val (.int a), .val (.int b), .val (.int c), .val (.int d), .val (.int fl), .val (.int (1 : Int32)), .val (.int (0 : Int32)), .val (.ref b280), .val (.ref b284), .val (.ref b288), .val (.ref b292), .val (.int (0 : Int32)), .val (.int (1 : Int32)), .unset, .unset, .unset, .unset, .unset, .unset] []
            refine w_iconst ok at_109 (v := (0 : Int32)) rfl ?_
            refine w_istore ok at_110 (L' := #[.val (.int a), .val (.int b), .val (.int c), .val (.int d), .val (.int fl), .val (.int (1 : Int32)), .val (.int (0 : Int32)), .val (.ref b280), .val (.ref b284), .val (.ref b288), .val (.ref b292), .val (.int (0 : Int32)), .val (.int (1 : Int32)), .val (.int (0 : Int32)), .unset, .unset, .unset, .unset, .unset]) rfl ?_
            refine w_iload ok at_112 rfl ?_
            refine w_if_eq ok at_114 (pc' := 119) (by decide) (fun hc395 => ?_) (fun hc395 => False.elim (by revert hc395; decide))
            show W K l _ n0 _ h300 10 39 119 #[.val (.int a), .val (.int b), .val (.int c), .val (.int d), .val (.int fl), .val (.int (1 : Int32)), .val (.int (0 : Int32)), .val (.ref b280), .val (.ref b284), .val (.ref b288), .val (.ref b292), .val (.int (0 : Int32)), .val (.int (1 : Int32)), .val (.int (0 : Int32)), .unset, .unset, .unset, .unset, .unset] []
            refine w_iload ok at_119 rfl ?_
            refine w_if_eq ok at_121 (pc' := 133) (by decide) (fun hc397 => ?_) (fun hc397 => False.elim (by revert hc397; decide))
            show W K l _ n0 _ h300 10 39 133 #[.val (.int a), .val (.int b), .val (.int c), .val (.int d), .val (.int fl), .val (.int (1 : Int32)), .val (.int (0 : Int32)), .val (.ref b280), .val (.ref b284), .val (.ref b288), .val (.ref b292), .val (.int (0 : Int32)), .val (.int (1 : Int32)), .val (.int (0 : Int32)), .unset, .unset, .unset, .unset, .unset] []
            refine w_iload ok at_133 rfl ?_
            refine w_iconst ok at_135 (v := (1 : Int32)) rfl ?_
            refine w_icmp_eq ok at_136 (pc' := 141) (by decide) (fun hc399 => ?_) (fun hc399 => False.elim (by revert hc399; decide))
            show W K l _ n0 _ h300 10 39 141 #[.val (.int a), .val (.int b), .val (.int c), .val (.int d), .val (.int fl), .val (.int (1 : Int32)), .val (.int (0 : Int32)), .val (.ref b280), .val (.ref b284), .val (.ref b288), .val (.ref b292), .val (.int (0 : Int32)), .val (.int (1 : Int32)), .val (.int (0 : Int32)), .unset, .unset, .unset, .unset, .unset] []
            refine w_iload ok at_141 rfl ?_
            refine w_istore ok at_143 (L' := #[.val (.int a), .val (.int b), .val (.int c), .val (.int d), .val (.int fl), .val (.int (1 : Int32)), .val (.int (0 : Int32)), .val (.ref b280), .val (.ref b284), .val (.ref b288), .val (.ref b292), .val (.int (0 : Int32)), .val (.int (1 : Int32)), .val (.int (0 : Int32)), .val (.int (1 : Int32)), .unset, .unset, .unset, .unset]) rfl ?_
            refine w_iload ok at_145 rfl ?_
            refine w_if_lt ok at_147 (pc' := 159) (by decide) (fun hc401 => False.elim (by revert hc401; decide)) (fun hc401 => ?_)
            show W K l _ n0 _ h300 10 39 150 #[.val (.int a), .val (.int b), .val (.int c), .val (.int d), .val (.int fl), .val (.int (1 : Int32)), .val (.int (0 : Int32)), .val (.ref b280), .val (.ref b284), .val (.ref b288), .val (.ref b292), .val (.int (0 : Int32)), .val (.int (1 : Int32)), .val (.int (0 : Int32)), .val (.int (1 : Int32)), .unset, .unset, .unset, .unset] []
            refine w_iload ok at_150 rfl ?_
            refine w_if_eq ok at_152 (pc' := 159) (by decide) (fun hc403 => ?_) (fun hc403 => False.elim (by revert hc403; decide))
            show W K l _ n0 _ h300 10 39 159 #[.val (.int a), .val (.int b), .val (.int c), .val (.int d), .val (.int fl), .val (.int (1 : Int32)), .val (.int (0 : Int32)), .val (.ref b280), .val (.ref b284), .val (.ref b288), .val (.ref b292), .val (.int (0 : Int32)), .val (.int (1 : Int32)), .val (.int (0 : Int32)), .val (.int (1 : Int32)), .unset, .unset, .unset, .unset] []
            refine w_iconst ok at_159 (v := (0 : Int32)) rfl ?_
            refine w_istore ok at_160 (L' := #[.val (.int a), .val (.int b), .val (.int c), .val (.int d), .val (.int fl), .val (.int (1 : Int32)), .val (.int (0 : Int32)), .val (.ref b280), .val (.ref b284), .val (.ref b288), .val (.ref b292), .val (.int (0 : Int32)), .val (.int (1 : Int32)), .val (.int (0 : Int32)), .val (.int (1 : Int32)), .val (.int (0 : Int32)), .unset, .unset, .unset]) rfl ?_
            refine w_iload ok at_162 rfl ?_
            refine w_if_eq ok at_164 (pc' := 173) (by decide) (fun hc405 => False.elim (by revert hc405; decide)) (fun hc405 => ?_)
            show W K l _ n0 _ h300 10 39 167 #[.val (.int a), .val (.int b), .val (.int c), .val (.int d), .val (.int fl), .val (.int (1 : Int32)), .val (.int (0 : Int32)), .val (.ref b280), .val (.ref b284), .val (.ref b288), .val (.ref b292), .val (.int (0 : Int32)), .val (.int (1 : Int32)), .val (.int (0 : Int32)), .val (.int (1 : Int32)), .val (.int (0 : Int32)), .unset, .unset, .unset] []
            refine w_aload ok at_167 rfl rfl ?_
            refine w_iconst ok at_169 (v := (0 : Int32)) rfl ?_
            refine w_callV ok (y := (⟨"com/example/hornconv/hornconv/FactTable", "remove", "(I)V"⟩ : MethodName)) (a := b292) (argsL := [(.int (0 : Int32))]) (rest := []) at_170 (hw _ (List.mem_of_getElem? (i := 65) rfl)) (hw _ (List.mem_of_getElem? (i := 66) rfl)) (hw _ (List.mem_of_getElem? (i := 68) rfl)) (hw _ (List.mem_of_getElem? (i := 67) rfl)) (hw _ (List.mem_of_getElem? (i := 3) rfl)) (hw _ (List.mem_of_getElem? (i := 69) rfl)) (by decide) A_b292.1 pd_28I29V rfl rfl (by decide) (Nat.le_of_ble_eq_true rfl) (by decide) (by decide) (fun z0 => rm_rm0 l Z a0 hw [] n0 h300 z0 b292 un me ag de sl po (2 : Int32) (((0 : Int32) + 1) + 1) u1 a b c d (0 : Int32) (0 : Int32) (0 : Int32) (0 : Int32) (0 : Int32) (0 : Int32) (0 : Int32) (0 : Int32) (upd (upd f00 r0 0) r1 1) A_b292 A_ag A_de A_sl A_po ge_b292 g2 g3 nn0 nn1 nn2 nn3 nn4 nn5 nn6 nn7 nn9 nn8 ⟨0, by rw [← hr0]; simp [upd, Ne.symm ne10]⟩) (fun v406 h407 qv406 => ?_)
            obtain ⟨rfl, rr, h8_rr, hfr, K1, A1, A2, A3⟩ := qv406
            replace A_b280 := A_b280.keep K1 (ninS ne_b280_b292 (ninS ne_b280_de (ninS ne_b280_sl nin0)))
            replace A_b284 := A_b284.keep K1 (ninS ne_b284_b292 (ninS ne_b284_de (ninS ne_b284_sl nin0)))
            replace A_b288 := A_b288.keep K1 (ninS ne_b288_b292 (ninS ne_b288_de (ninS ne_b288_sl nin0)))
            replace A_ag := A_ag.keep K1 (ninS (Ne.symm nn0) (ninS nn4 (ninS nn5 nin0)))
            replace A_po := A_po.keep K1 (ninS (Ne.symm nn3) (ninS (Ne.symm nn8) (ninS (Ne.symm nn9) nin0)))
            replace A_b292 := A1
            replace A_de := A2
            replace A_sl := A3
            have e : rr = r0 := by
              simp only [upd, f00] at hfr; repeat' split at hfr
              all_goals first | assumption | exact absurd hfr (by decide)
            rw [e] at A_sl
            have hRn408 : Rw (upd (upd (upd f00 r0 0) r1 1) r0 (-2)) := own_rwu hRn342 (by decide)
            have hNn408 := own_free (f := (upd (upd (upd f00 r0 0) r1 1) r0 (-2))) r0 r1 (fun j _ h0 h1 => by simp [upd, h0, h1])
            show W K l _ n0 _ h407 10 39 173 #[.val (.int a), .val (.int b), .val (.int c), .val (.int d), .val (.int fl), .val (.int (1 : Int32)), .val (.int (0 : Int32)), .val (.ref b280), .val (.ref b284), .val (.ref b288), .val (.ref b292), .val (.int (0 : Int32)), .val (.int (1 : Int32)), .val (.int (0 : Int32)), .val (.int (1 : Int32)), .val (.int (0 : Int32)), .unset, .unset, .unset] []
            refine w_iload ok at_173 rfl ?_
            refine w_if_eq ok at_175 (pc' := 185) (by decide) (fun hc410 => ?_) (fun hc410 => False.elim (by revert hc410; decide))
            show W K l _ n0 _ h407 10 39 185 #[.val (.int a), .val (.int b), .val (.int c), .val (.int d), .val (.int fl), .val (.int (1 : Int32)), .val (.int (0 : Int32)), .val (.ref b280), .val (.ref b284), .val (.ref b288), .val (.ref b292), .val (.int (0 : Int32)), .val (.int (1 : Int32)), .val (.int (0 : Int32)), .val (.int (1 : Int32)), .val (.int (0 : Int32)), .unset, .unset, .unset] []
            refine w_aload ok at_185 rfl rfl ?_
            refine w_aload ok at_187 rfl rfl ?_
            refine w_callV ok (y := (⟨"com/example/hornconv/hornconv/FactTable", "add", "([I)I"⟩ : MethodName)) (a := b292) (argsL := [(.ref b288)]) (rest := []) at_189 (hw _ (List.mem_of_getElem? (i := 32) rfl)) (hw _ (List.mem_of_getElem? (i := 33) rfl)) (hw _ (List.mem_of_getElem? (i := 35) rfl)) (hw _ (List.mem_of_getElem? (i := 34) rfl)) (hw _ (List.mem_of_getElem? (i := 3) rfl)) (hw _ (List.mem_of_getElem? (i := 36) rfl)) (by decide) A_b292.1 pd_285bI29I rfl rfl (by decide) (Nat.le_of_ble_eq_true rfl) (by decide) (by decide) (fun z0 => rm_add2 l Z a0 hw [] n0 h407 z0 b292 b288 un me ag de sl po ((((0 : Int32) + 1) + 1) - 1) u1 a b c d (0 : Int32) (0 : Int32) (0 : Int32) (0 : Int32) (1 : Int32) (0 : Int32) (0 : Int32) (0 : Int32) a b (upd (upd (upd f00 r0 0) r1 1) r0 (-2)) A_b292 A_ag A_de A_sl A_po A_b288 ge_b292 g1 g3 nn0 nn1 nn2 nn3 (Ne.symm ne_b288_b292) nn4 nn5 nn6 (Ne.symm ne_b288_ag) nn7 nn9 (Ne.symm ne_b288_sl) hRn408 hNn408 (by omega)) (fun v411 h412 qv411 => ?_)
            rcases qv411 with qv411 | qv411
            · obtain ⟨-, -, r, -, h1, h2⟩ := qv411; exact (own_one nsame h1 h2 (by simp only [upd, f00]; repeat' (first | decide | split))).elim
            · skip
              obtain ⟨rfl, r2, u2, h8_r2, hF_r2, hu_r2, K1, A1, A2, A3⟩ := qv411
              replace A_b280 := A_b280.keep K1 (ninS ne_b280_b292 (ninS ne_b280_ag (ninS ne_b280_sl nin0)))
              replace A_b284 := A_b284.keep K1 (ninS ne_b284_b292 (ninS ne_b284_ag (ninS ne_b284_sl nin0)))
              replace A_b288 := A_b288.keep K1 (ninS ne_b288_b292 (ninS ne_b288_ag (ninS ne_b288_sl nin0)))
              replace A_de := A_de.keep K1 (ninS (Ne.symm nn1) (ninS (Ne.symm nn4) (ninS nn7 nin0)))
              replace A_po := A_po.keep K1 (ninS (Ne.symm nn3) (ninS (Ne.symm nn6) (ninS (Ne.symm nn9) nin0)))
              replace A_b292 := A1
              replace A_ag := A2
              replace A_sl := A3
              have hus_u2 : 0 ≤ u2.toInt ∧ u2.toInt ≤ 3 := by have q := hu_r2; have z : (0 : Int32).toInt = 0 := rfl; omega
              show W K l _ n0 _ h412 10 39 192 #[.val (.int a), .val (.int b), .val (.int c), .val (.int d), .val (.int fl), .val (.int (1 : Int32)), .val (.int (0 : Int32)), .val (.ref b280), .val (.ref b284), .val (.ref b288), .val (.ref b292), .val (.int (0 : Int32)), .val (.int (1 : Int32)), .val (.int (0 : Int32)), .val (.int (1 : Int32)), .val (.int (0 : Int32)), .unset, .unset, .unset] [(.int (2 : Int32))]
              refine w_istore ok at_192 (L' := #[.val (.int a), .val (.int b), .val (.int c), .val (.int d), .val (.int fl), .val (.int (1 : Int32)), .val (.int (0 : Int32)), .val (.ref b280), .val (.ref b284), .val (.ref b288), .val (.ref b292), .val (.int (0 : Int32)), .val (.int (1 : Int32)), .val (.int (0 : Int32)), .val (.int (1 : Int32)), .val (.int (0 : Int32)), .val (.int (2 : Int32)), .unset, .unset]) rfl ?_
              refine w_aload ok at_194 rfl rfl ?_
              refine w_iconst ok at_196 (v := (0 : Int32)) rfl ?_
              refine w_callV ok (y := (⟨"com/example/hornconv/hornconv/FactTable", "isLive", "(I)Z"⟩ : MethodName)) (a := b292) (argsL := [(.int (0 : Int32))]) (rest := []) at_197 (hw _ (List.mem_of_getElem? (i := 60) rfl)) (hw _ (List.mem_of_getElem? (i := 61) rfl)) (hw _ (List.mem_of_getElem? (i := 63) rfl)) (hw _ (List.mem_of_getElem? (i := 62) rfl)) (hw _ (List.mem_of_getElem? (i := 3) rfl)) (hw _ (List.mem_of_getElem? (i := 64) rfl)) (by decide) A_b292.1 pd_28I29Z rfl rfl (by decide) (Nat.le_of_ble_eq_true rfl) (by decide) (by decide) (fun z0 => rm_live0 l Z a0 hw [] n0 h412 z0 b292 un me ag de sl po (3 : Int32) (((((0 : Int32) + 1) + 1) - 1) + 1) u2 (1 : Int32) (0 : Int32) (0 : Int32) (0 : Int32) A_b292 A_de) (fun v413 h414 qv413 => ?_)
              obtain ⟨rfl, rfl⟩ := qv413
              rw [show own_live (1 : Int32) = 0 from rfl]
              show W K l _ n0 _ h412 10 39 200 #[.val (.int a), .val (.int b), .val (.int c), .val (.int d), .val (.int fl), .val (.int (1 : Int32)), .val (.int (0 : Int32)), .val (.ref b280), .val (.ref b284), .val (.ref b288), .val (.ref b292), .val (.int (0 : Int32)), .val (.int (1 : Int32)), .val (.int (0 : Int32)), .val (.int (1 : Int32)), .val (.int (0 : Int32)), .val (.int (2 : Int32)), .unset, .unset] [(.int (0 : Int32))]
              refine w_iload ok at_200 rfl ?_
              refine w_if_ne ok at_202 (pc' := 209) (by decide) (fun hc416 => ?_) (fun hc416 => False.elim (by revert hc416; decide))
              show W K l _ n0 _ h412 10 39 209 #[.val (.int a), .val (.int b), .val (.int c), .val (.int d), .val (.int fl), .val (.int (1 : Int32)), .val (.int (0 : Int32)), .val (.ref b280), .val (.ref b284), .val (.ref b288), .val (.ref b292), .val (.int (0 : Int32)), .val (.int (1 : Int32)), .val (.int (0 : Int32)), .val (.int (1 : Int32)), .val (.int (0 : Int32)), .val (.int (2 : Int32)), .unset, .unset] [(.int (0 : Int32))]
              refine w_iconst ok at_209 (v := (0 : Int32)) rfl ?_
              refine w_icmp_ne ok at_210 (pc' := 217) (by decide) (fun hc418 => False.elim (by revert hc418; decide)) (fun hc418 => ?_)
              show W K l _ n0 _ h412 10 39 213 #[.val (.int a), .val (.int b), .val (.int c), .val (.int d), .val (.int fl), .val (.int (1 : Int32)), .val (.int (0 : Int32)), .val (.ref b280), .val (.ref b284), .val (.ref b288), .val (.ref b292), .val (.int (0 : Int32)), .val (.int (1 : Int32)), .val (.int (0 : Int32)), .val (.int (1 : Int32)), .val (.int (0 : Int32)), .val (.int (2 : Int32)), .unset, .unset] []
              refine w_iconst ok at_213 (v := (1 : Int32)) rfl ?_
              refine w_goto ok at_214 (pc' := 218) (by decide) ?_
              refine w_istore ok at_218 (L' := #[.val (.int a), .val (.int b), .val (.int c), .val (.int d), .val (.int fl), .val (.int (1 : Int32)), .val (.int (0 : Int32)), .val (.ref b280), .val (.ref b284), .val (.ref b288), .val (.ref b292), .val (.int (0 : Int32)), .val (.int (1 : Int32)), .val (.int (0 : Int32)), .val (.int (1 : Int32)), .val (.int (0 : Int32)), .val (.int (2 : Int32)), .val (.int (1 : Int32)), .unset]) rfl ?_
              refine w_iload ok at_220 rfl ?_
              refine w_if_lt ok at_222 (pc' := 257) (by decide) (fun hc420 => False.elim (by revert hc420; decide)) (fun hc420 => ?_)
              show W K l _ n0 _ h412 10 39 225 #[.val (.int a), .val (.int b), .val (.int c), .val (.int d), .val (.int fl), .val (.int (1 : Int32)), .val (.int (0 : Int32)), .val (.ref b280), .val (.ref b284), .val (.ref b288), .val (.ref b292), .val (.int (0 : Int32)), .val (.int (1 : Int32)), .val (.int (0 : Int32)), .val (.int (1 : Int32)), .val (.int (0 : Int32)), .val (.int (2 : Int32)), .val (.int (1 : Int32)), .unset] []
              refine w_iload ok at_225 rfl ?_
              refine w_if_eq ok at_227 (pc' := 254) (by decide) (fun hc422 => False.elim (by revert hc422; decide)) (fun hc422 => ?_)
              show W K l _ n0 _ h412 10 39 230 #[.val (.int a), .val (.int b), .val (.int c), .val (.int d), .val (.int fl), .val (.int (1 : Int32)), .val (.int (0 : Int32)), .val (.ref b280), .val (.ref b284), .val (.ref b288), .val (.ref b292), .val (.int (0 : Int32)), .val (.int (1 : Int32)), .val (.int (0 : Int32)), .val (.int (1 : Int32)), .val (.int (0 : Int32)), .val (.int (2 : Int32)), .val (.int (1 : Int32)), .unset] []
              refine w_aload ok at_230 rfl rfl ?_
              refine w_iload ok at_232 rfl ?_
              refine w_callV ok (y := (⟨"com/example/hornconv/hornconv/FactTable", "isLive", "(I)Z"⟩ : MethodName)) (a := b292) (argsL := [(.int (1 : Int32))]) (rest := []) at_234 (hw _ (List.mem_of_getElem? (i := 60) rfl)) (hw _ (List.mem_of_getElem? (i := 61) rfl)) (hw _ (List.mem_of_getElem? (i := 63) rfl)) (hw _ (List.mem_of_getElem? (i := 62) rfl)) (hw _ (List.mem_of_getElem? (i := 3) rfl)) (hw _ (List.mem_of_getElem? (i := 64) rfl)) (by decide) A_b292.1 pd_28I29Z rfl rfl (by decide) (Nat.le_of_ble_eq_true rfl) (by decide) (by decide) (fun z0 => rm_live1 l Z a0 hw [] n0 h412 z0 b292 un me ag de sl po (3 : Int32) (((((0 : Int32) + 1) + 1) - 1) + 1) u2 (1 : Int32) (0 : Int32) (0 : Int32) (0 : Int32) A_b292 A_de) (fun v423 h424 qv423 => ?_)
              obtain ⟨rfl, rfl⟩ := qv423
              rw [show own_live (0 : Int32) = 1 from rfl]
              show W K l _ n0 _ h412 10 39 237 #[.val (.int a), .val (.int b), .val (.int c), .val (.int d), .val (.int fl), .val (.int (1 : Int32)), .val (.int (0 : Int32)), .val (.ref b280), .val (.ref b284), .val (.ref b288), .val (.ref b292), .val (.int (0 : Int32)), .val (.int (1 : Int32)), .val (.int (0 : Int32)), .val (.int (1 : Int32)), .val (.int (0 : Int32)), .val (.int (2 : Int32)), .val (.int (1 : Int32)), .unset] [(.int (1 : Int32))]
              refine w_iload ok at_237 rfl ?_
              refine w_if_ne ok at_239 (pc' := 246) (by decide) (fun hc426 => False.elim (by revert hc426; decide)) (fun hc426 => ?_)
              show W K l _ n0 _ h412 10 39 242 #[.val (.int a), .val (.int b), .val (.int c), .val (.int d), .val (.int fl), .val (.int (1 : Int32)), .val (.int (0 : Int32)), .val (.ref b280), .val (.ref b284), .val (.ref b288), .val (.ref b292), .val (.int (0 : Int32)), .val (.int (1 : Int32)), .val (.int (0 : Int32)), .val (.int (1 : Int32)), .val (.int (0 : Int32)), .val (.int (2 : Int32)), .val (.int (1 : Int32)), .unset] [(.int (1 : Int32))]
              refine w_iconst ok at_242 (v := (1 : Int32)) rfl ?_
              refine w_goto ok at_243 (pc' := 247) (by decide) ?_
              refine w_icmp_ne ok at_247 (pc' := 254) (by decide) (fun hc428 => False.elim (by revert hc428; decide)) (fun hc428 => ?_)
              show W K l _ n0 _ h412 10 39 250 #[.val (.int a), .val (.int b), .val (.int c), .val (.int d), .val (.int fl), .val (.int (1 : Int32)), .val (.int (0 : Int32)), .val (.ref b280), .val (.ref b284), .val (.ref b288), .val (.ref b292), .val (.int (0 : Int32)), .val (.int (1 : Int32)), .val (.int (0 : Int32)), .val (.int (1 : Int32)), .val (.int (0 : Int32)), .val (.int (2 : Int32)), .val (.int (1 : Int32)), .unset] []
              refine w_iconst ok at_250 (v := (1 : Int32)) rfl ?_
              refine w_goto ok at_251 (pc' := 255) (by decide) ?_
              refine w_istore ok at_255 (L' := #[.val (.int a), .val (.int b), .val (.int c), .val (.int d), .val (.int fl), .val (.int (1 : Int32)), .val (.int (0 : Int32)), .val (.ref b280), .val (.ref b284), .val (.ref b288), .val (.ref b292), .val (.int (0 : Int32)), .val (.int (1 : Int32)), .val (.int (0 : Int32)), .val (.int (1 : Int32)), .val (.int (0 : Int32)), .val (.int (2 : Int32)), .val (.int (1 : Int32)), .unset]) rfl ?_
              refine w_iload ok at_257 rfl ?_
              refine w_if_eq ok at_259 (pc' := 306) (by decide) (fun hc430 => False.elim (by revert hc430; decide)) (fun hc430 => ?_)
              show W K l _ n0 _ h412 10 39 262 #[.val (.int a), .val (.int b), .val (.int c), .val (.int d), .val (.int fl), .val (.int (1 : Int32)), .val (.int (0 : Int32)), .val (.ref b280), .val (.ref b284), .val (.ref b288), .val (.ref b292), .val (.int (0 : Int32)), .val (.int (1 : Int32)), .val (.int (0 : Int32)), .val (.int (1 : Int32)), .val (.int (0 : Int32)), .val (.int (2 : Int32)), .val (.int (1 : Int32)), .unset] []
              refine w_iload ok at_262 rfl ?_
              refine w_if_lt ok at_264 (pc' := 271) (by decide) (fun hc432 => False.elim (by revert hc432; decide)) (fun hc432 => ?_)
              show W K l _ n0 _ h412 10 39 267 #[.val (.int a), .val (.int b), .val (.int c), .val (.int d), .val (.int fl), .val (.int (1 : Int32)), .val (.int (0 : Int32)), .val (.ref b280), .val (.ref b284), .val (.ref b288), .val (.ref b292), .val (.int (0 : Int32)), .val (.int (1 : Int32)), .val (.int (0 : Int32)), .val (.int (1 : Int32)), .val (.int (0 : Int32)), .val (.int (2 : Int32)), .val (.int (1 : Int32)), .unset] []
              refine w_iconst ok at_267 (v := (2 : Int32)) rfl ?_
              refine w_goto ok at_268 (pc' := 272) (by decide) ?_
              refine w_istore ok at_272 (L' := #[.val (.int a), .val (.int b), .val (.int c), .val (.int d), .val (.int fl), .val (.int (1 : Int32)), .val (.int (0 : Int32)), .val (.ref b280), .val (.ref b284), .val (.ref b288), .val (.ref b292), .val (.int (0 : Int32)), .val (.int (1 : Int32)), .val (.int (0 : Int32)), .val (.int (1 : Int32)), .val (.int (0 : Int32)), .val (.int (2 : Int32)), .val (.int (1 : Int32)), .val (.int (2 : Int32))]) rfl ?_
              refine w_iload ok at_274 rfl ?_
              refine w_if_eq ok at_276 (pc' := 300) (by decide) (fun hc434 => False.elim (by revert hc434; decide)) (fun hc434 => ?_)
              show W K l _ n0 _ h412 10 39 279 #[.val (.int a), .val (.int b), .val (.int c), .val (.int d), .val (.int fl), .val (.int (1 : Int32)), .val (.int (0 : Int32)), .val (.ref b280), .val (.ref b284), .val (.ref b288), .val (.ref b292), .val (.int (0 : Int32)), .val (.int (1 : Int32)), .val (.int (0 : Int32)), .val (.int (1 : Int32)), .val (.int (0 : Int32)), .val (.int (2 : Int32)), .val (.int (1 : Int32)), .val (.int (2 : Int32))] []
              refine w_iload ok at_279 rfl ?_
              refine w_iload ok at_281 rfl ?_
              refine w_icmp_ne ok at_283 (pc' := 300) (by decide) (fun hc436 => False.elim (by revert hc436; decide)) (fun hc436 => ?_)
              show W K l _ n0 _ h412 10 39 286 #[.val (.int a), .val (.int b), .val (.int c), .val (.int d), .val (.int fl), .val (.int (1 : Int32)), .val (.int (0 : Int32)), .val (.ref b280), .val (.ref b284), .val (.ref b288), .val (.ref b292), .val (.int (0 : Int32)), .val (.int (1 : Int32)), .val (.int (0 : Int32)), .val (.int (1 : Int32)), .val (.int (0 : Int32)), .val (.int (2 : Int32)), .val (.int (1 : Int32)), .val (.int (2 : Int32))] []
              refine w_aload ok at_286 rfl rfl ?_
              refine w_iload ok at_288 rfl ?_
              refine w_callV ok (y := (⟨"com/example/hornconv/hornconv/FactTable", "isLive", "(I)Z"⟩ : MethodName)) (a := b292) (argsL := [(.int (2 : Int32))]) (rest := []) at_290 (hw _ (List.mem_of_getElem? (i := 60) rfl)) (hw _ (List.mem_of_getElem? (i := 61) rfl)) (hw _ (List.mem_of_getElem? (i := 63) rfl)) (hw _ (List.mem_of_getElem? (i := 62) rfl)) (hw _ (List.mem_of_getElem? (i := 3) rfl)) (hw _ (List.mem_of_getElem? (i := 64) rfl)) (by decide) A_b292.1 pd_28I29Z rfl rfl (by decide) (Nat.le_of_ble_eq_true rfl) (by decide) (by decide) (fun z0 => rm_live2 l Z a0 hw [] n0 h412 z0 b292 un me ag de sl po (3 : Int32) (((((0 : Int32) + 1) + 1) - 1) + 1) u2 (1 : Int32) (0 : Int32) (0 : Int32) (0 : Int32) A_b292 A_de) (fun v437 h438 qv437 => ?_)
              obtain ⟨rfl, rfl⟩ := qv437
              rw [show own_live (0 : Int32) = 1 from rfl]
              show W K l _ n0 _ h412 10 39 293 #[.val (.int a), .val (.int b), .val (.int c), .val (.int d), .val (.int fl), .val (.int (1 : Int32)), .val (.int (0 : Int32)), .val (.ref b280), .val (.ref b284), .val (.ref b288), .val (.ref b292), .val (.int (0 : Int32)), .val (.int (1 : Int32)), .val (.int (0 : Int32)), .val (.int (1 : Int32)), .val (.int (0 : Int32)), .val (.int (2 : Int32)), .val (.int (1 : Int32)), .val (.int (2 : Int32))] [(.int (1 : Int32))]
              refine w_if_eq ok at_293 (pc' := 300) (by decide) (fun hc440 => False.elim (by revert hc440; decide)) (fun hc440 => ?_)
              show W K l _ n0 _ h412 10 39 296 #[.val (.int a), .val (.int b), .val (.int c), .val (.int d), .val (.int fl), .val (.int (1 : Int32)), .val (.int (0 : Int32)), .val (.ref b280), .val (.ref b284), .val (.ref b288), .val (.ref b292), .val (.int (0 : Int32)), .val (.int (1 : Int32)), .val (.int (0 : Int32)), .val (.int (1 : Int32)), .val (.int (0 : Int32)), .val (.int (2 : Int32)), .val (.int (1 : Int32)), .val (.int (2 : Int32))] []
              refine w_iconst ok at_296 (v := (1 : Int32)) rfl ?_
              refine w_goto ok at_297 (pc' := 301) (by decide) ?_
              refine w_istore ok at_301 (L' := #[.val (.int a), .val (.int b), .val (.int c), .val (.int d), .val (.int fl), .val (.int (1 : Int32)), .val (.int (0 : Int32)), .val (.ref b280), .val (.ref b284), .val (.ref b288), .val (.ref b292), .val (.int (0 : Int32)), .val (.int (1 : Int32)), .val (.int (0 : Int32)), .val (.int (1 : Int32)), .val (.int (0 : Int32)), .val (.int (2 : Int32)), .val (.int (1 : Int32)), .val (.int (2 : Int32))]) rfl ?_
              refine w_goto ok at_303 (pc' := 324) (by decide) ?_
              refine w_iload ok at_324 rfl ?_
              refine w_bret ok (by simp) at_326 (by decide) (by decide) ?_
              exact rfl
    · show W K l _ n0 _ h0 0 0 21 #[.val (.int a), .val (.int b), .val (.int c), .val (.int d), .val (.int fl), .val (.int (1 : Int32)), .unset, .unset, .unset, .unset, .unset, .unset, .unset, .unset, .unset, .unset, .unset, .unset, .unset] []
      refine w_iconst ok at_21 (v := (1 : Int32)) rfl ?_
      refine w_goto ok at_22 (pc' := 26) (by decide) ?_
      refine w_istore ok at_26 (L' := #[.val (.int a), .val (.int b), .val (.int c), .val (.int d), .val (.int fl), .val (.int (1 : Int32)), .val (.int (1 : Int32)), .unset, .unset, .unset, .unset, .unset, .unset, .unset, .unset, .unset, .unset, .unset, .unset]) rfl ?_
      refine w_iconst ok at_28 (v := (2 : Int32)) rfl ?_
      refine w_newarray ok at_29 (hw _ (List.mem_of_getElem? (i := 0) rfl)) (by decide) (cap := 2) (by decide) (by decide) (by decide) (by decide) (fun h442 b441 ea_b441 ge_b441 E_b441 A_b441 => ?_)
      replace A_b441 : PA .int Z h442 b441 [(.int (0 : Int32)), (.int (0 : Int32))] := A_b441
      refine w_dup ok at_31 rfl ?_
      refine w_iconst ok at_32 (v := (0 : Int32)) rfl ?_
      refine w_iloadN ok at_33 rfl ?_
      refine w_iastore ok at_34 A_b441 ge_b441 (by decide) (Nat.le_of_ble_eq_true rfl) (fun h443 W_h443 A1_h443 => ?_)
      replace A_b441 : PA .int Z h443 b441 [(.int a), (.int (0 : Int32))] := A1_h443
      refine w_dup ok at_35 rfl ?_
      refine w_iconst ok at_36 (v := (1 : Int32)) rfl ?_
      refine w_iloadN ok at_37 rfl ?_
      refine w_iastore ok at_38 A_b441 ge_b441 (by decide) (Nat.le_of_ble_eq_true rfl) (fun h444 W_h444 A1_h444 => ?_)
      replace A_b441 : PA .int Z h444 b441 [(.int a), (.int b)] := A1_h444
      refine w_astore ok at_39 rfl (L' := #[.val (.int a), .val (.int b), .val (.int c), .val (.int d), .val (.int fl), .val (.int (1 : Int32)), .val (.int (1 : Int32)), .val (.ref b441), .unset, .unset, .unset, .unset, .unset, .unset, .unset, .unset, .unset, .unset, .unset]) rfl ?_
      refine w_iconst ok at_41 (v := (2 : Int32)) rfl ?_
      refine w_newarray ok at_42 (hw _ (List.mem_of_getElem? (i := 0) rfl)) (by decide) (cap := 2) (by decide) (by decide) (by decide) (by decide) (fun h446 b445 ea_b445 ge_b445 E_b445 A_b445 => ?_)
      have ne_b441_b445 : b441 ≠ b445 := fun q => Nat.lt_irrefl _ (Nat.lt_of_lt_of_eq A_b441.lt (ea_b445.symm.trans q.symm))
      replace A_b441 := A_b441.ext E_b445
      replace A_b445 : PA .int Z h446 b445 [(.int (0 : Int32)), (.int (0 : Int32))] := A_b445
      refine w_dup ok at_44 rfl ?_
      refine w_iconst ok at_45 (v := (0 : Int32)) rfl ?_
      refine w_iloadN ok at_46 rfl ?_
      refine w_iastore ok at_47 A_b445 ge_b445 (by decide) (Nat.le_of_ble_eq_true rfl) (fun h447 W_h447 A1_h447 => ?_)
      replace A_b441 := A_b441.other W_h447 ne_b441_b445
      replace A_b445 : PA .int Z h447 b445 [(.int c), (.int (0 : Int32))] := A1_h447
      refine w_dup ok at_48 rfl ?_
      refine w_iconst ok at_49 (v := (1 : Int32)) rfl ?_
      refine w_iloadN ok at_50 rfl ?_
      refine w_iastore ok at_51 A_b445 ge_b445 (by decide) (Nat.le_of_ble_eq_true rfl) (fun h448 W_h448 A1_h448 => ?_)
      replace A_b441 := A_b441.other W_h448 ne_b441_b445
      replace A_b445 : PA .int Z h448 b445 [(.int c), (.int d)] := A1_h448
      refine w_astore ok at_52 rfl (L' := #[.val (.int a), .val (.int b), .val (.int c), .val (.int d), .val (.int fl), .val (.int (1 : Int32)), .val (.int (1 : Int32)), .val (.ref b441), .val (.ref b445), .unset, .unset, .unset, .unset, .unset, .unset, .unset, .unset, .unset, .unset]) rfl ?_
      refine w_iconst ok at_54 (v := (2 : Int32)) rfl ?_
      refine w_newarray ok at_55 (hw _ (List.mem_of_getElem? (i := 0) rfl)) (by decide) (cap := 2) (by decide) (by decide) (by decide) (by decide) (fun h450 b449 ea_b449 ge_b449 E_b449 A_b449 => ?_)
      have ne_b441_b449 : b441 ≠ b449 := fun q => Nat.lt_irrefl _ (Nat.lt_of_lt_of_eq A_b441.lt (ea_b449.symm.trans q.symm))
      have ne_b445_b449 : b445 ≠ b449 := fun q => Nat.lt_irrefl _ (Nat.lt_of_lt_of_eq A_b445.lt (ea_b449.symm.trans q.symm))
      replace A_b441 := A_b441.ext E_b449
      replace A_b445 := A_b445.ext E_b449
      replace A_b449 : PA .int Z h450 b449 [(.int (0 : Int32)), (.int (0 : Int32))] := A_b449
      refine w_dup ok at_57 rfl ?_
      refine w_iconst ok at_58 (v := (0 : Int32)) rfl ?_
      refine w_iloadN ok at_59 rfl ?_
      refine w_iastore ok at_60 A_b449 ge_b449 (by decide) (Nat.le_of_ble_eq_true rfl) (fun h451 W_h451 A1_h451 => ?_)
      replace A_b441 := A_b441.other W_h451 ne_b441_b449
      replace A_b445 := A_b445.other W_h451 ne_b445_b449
      replace A_b449 : PA .int Z h451 b449 [(.int a), (.int (0 : Int32))] := A1_h451
      refine w_dup ok at_61 rfl ?_
      refine w_iconst ok at_62 (v := (1 : Int32)) rfl ?_
      refine w_iloadN ok at_63 rfl ?_
      refine w_iastore ok at_64 A_b449 ge_b449 (by decide) (Nat.le_of_ble_eq_true rfl) (fun h452 W_h452 A1_h452 => ?_)
      replace A_b441 := A_b441.other W_h452 ne_b441_b449
      replace A_b445 := A_b445.other W_h452 ne_b445_b449
      replace A_b449 : PA .int Z h452 b449 [(.int a), (.int b)] := A1_h452
      refine w_astore ok at_65 rfl (L' := #[.val (.int a), .val (.int b), .val (.int c), .val (.int d), .val (.int fl), .val (.int (1 : Int32)), .val (.int (1 : Int32)), .val (.ref b441), .val (.ref b445), .val (.ref b449), .unset, .unset, .unset, .unset, .unset, .unset, .unset, .unset, .unset]) rfl ?_
      refine w_new ok at_67 (hw _ (List.mem_of_getElem? (i := 1) rfl)) (hw _ (List.mem_of_getElem? (i := 2) rfl)) (hw _ (List.mem_of_getElem? (i := 3) rfl)) (la_FactTable hw) (by decide) (by decide) (fun h454 b453 ea_b453 ge_b453 E_b453 A_b453 => ?_)
      have ne_b441_b453 : b441 ≠ b453 := fun q => Nat.lt_irrefl _ (Nat.lt_of_lt_of_eq A_b441.lt (ea_b453.symm.trans q.symm))
      have ne_b445_b453 : b445 ≠ b453 := fun q => Nat.lt_irrefl _ (Nat.lt_of_lt_of_eq A_b445.lt (ea_b453.symm.trans q.symm))
      have ne_b449_b453 : b449 ≠ b453 := fun q => Nat.lt_irrefl _ (Nat.lt_of_lt_of_eq A_b449.lt (ea_b453.symm.trans q.symm))
      replace A_b441 := A_b441.ext E_b453
      replace A_b445 := A_b445.ext E_b453
      replace A_b449 := A_b449.ext E_b453
      replace A_b453 : Ob Z h454 b453 "com/example/hornconv/hornconv/FactTable" fl_FactTable [.null, .null, (.int (0 : Int32)), .null, .null, .null, .null, (.int (0 : Int32)), (.int (0 : Int32)), (.int (0 : Int32))] := A_b453
      refine w_dup ok at_70 rfl ?_
      refine w_iconst ok at_71 (v := (2 : Int32)) rfl ?_
      refine w_callI ok (y := (⟨"com/example/hornconv/hornconv/FactTable", "<init>", "(I)V"⟩ : MethodName)) (a := b453) (argsL := [(.int (2 : Int32))]) (rest := [(.ref b453)]) at_72 rfl (hw _ (List.mem_of_getElem? (i := 4) rfl)) (hw _ (List.mem_of_getElem? (i := 5) rfl)) (hw _ (List.mem_of_getElem? (i := 3) rfl)) (hw _ (List.mem_of_getElem? (i := 6) rfl)) (by decide) pd_28I29V rfl rfl (by decide) (Nat.le_of_ble_eq_true rfl) (by decide) (by decide) (fun z0 => rm_ctor l Z a0 hw [] n0 h454 z0 b453 A_b453 ge_b453) (fun v455 h456 qv455 => ?_)
      obtain ⟨rfl, un, me, ag, de, sl, po, ⟨z1, z2, z3, z4⟩, ⟨g1, g2, g3, g4⟩, ⟨nn0, nn1, nn2, nn3, nn4, nn5, nn6, nn7, nn8, nn9⟩, K1, A1, A_ag, A_de, A_sl, A_po⟩ := qv455
      have ne_b441_ag : b441 ≠ ag := Nat.ne_of_lt (Nat.lt_of_lt_of_le A_b441.lt z1)
      have ne_b445_ag : b445 ≠ ag := Nat.ne_of_lt (Nat.lt_of_lt_of_le A_b445.lt z1)
      have ne_b449_ag : b449 ≠ ag := Nat.ne_of_lt (Nat.lt_of_lt_of_le A_b449.lt z1)
      have ne_b453_ag : b453 ≠ ag := Nat.ne_of_lt (Nat.lt_of_lt_of_le A_b453.lt z1)
      have ne_b441_de : b441 ≠ de := Nat.ne_of_lt (Nat.lt_of_lt_of_le A_b441.lt z2)
      have ne_b445_de : b445 ≠ de := Nat.ne_of_lt (Nat.lt_of_lt_of_le A_b445.lt z2)
      have ne_b449_de : b449 ≠ de := Nat.ne_of_lt (Nat.lt_of_lt_of_le A_b449.lt z2)
      have ne_b453_de : b453 ≠ de := Nat.ne_of_lt (Nat.lt_of_lt_of_le A_b453.lt z2)
      have ne_b441_sl : b441 ≠ sl := Nat.ne_of_lt (Nat.lt_of_lt_of_le A_b441.lt z3)
      have ne_b445_sl : b445 ≠ sl := Nat.ne_of_lt (Nat.lt_of_lt_of_le A_b445.lt z3)
      have ne_b449_sl : b449 ≠ sl := Nat.ne_of_lt (Nat.lt_of_lt_of_le A_b449.lt z3)
      have ne_b453_sl : b453 ≠ sl := Nat.ne_of_lt (Nat.lt_of_lt_of_le A_b453.lt z3)
      have ne_b441_po : b441 ≠ po := Nat.ne_of_lt (Nat.lt_of_lt_of_le A_b441.lt z4)
      have ne_b445_po : b445 ≠ po := Nat.ne_of_lt (Nat.lt_of_lt_of_le A_b445.lt z4)
      have ne_b449_po : b449 ≠ po := Nat.ne_of_lt (Nat.lt_of_lt_of_le A_b449.lt z4)
      have ne_b453_po : b453 ≠ po := Nat.ne_of_lt (Nat.lt_of_lt_of_le A_b453.lt z4)
      replace A_b441 := A_b441.keep K1 (ninS ne_b441_b453 nin0)
      replace A_b445 := A_b445.keep K1 (ninS ne_b445_b453 nin0)
      replace A_b449 := A_b449.keep K1 (ninS ne_b449_b453 nin0)
      replace A_b453 := A1
      show W K l _ n0 _ h456 10 39 75 #[.val (.int a), .val (.int b), .val (.int c), .val (.int d), .val (.int fl), .val (.int (1 : Int32)), .val (.int (1 : Int32)), .val (.ref b441), .val (.ref b445), .val (.ref b449), .unset, .unset, .unset, .unset, .unset, .unset, .unset, .unset, .unset] [(.ref b453)]
      refine w_astore ok at_75 rfl (L' := #[.val (.int a), .val (.int b), .val (.int c), .val (.int d), .val (.int fl), .val (.int (1 : Int32)), .val (.int (1 : Int32)), .val (.ref b441), .val (.ref b445), .val (.ref b449), .val (.ref b453), .unset, .unset, .unset, .unset, .unset, .unset, .unset, .unset]) rfl ?_
      refine w_aload ok at_77 rfl rfl ?_
      refine w_aload ok at_79 rfl rfl ?_
      refine w_callV ok (y := (⟨"com/example/hornconv/hornconv/FactTable", "add", "([I)I"⟩ : MethodName)) (a := b453) (argsL := [(.ref b441)]) (rest := []) at_81 (hw _ (List.mem_of_getElem? (i := 32) rfl)) (hw _ (List.mem_of_getElem? (i := 33) rfl)) (hw _ (List.mem_of_getElem? (i := 35) rfl)) (hw _ (List.mem_of_getElem? (i := 34) rfl)) (hw _ (List.mem_of_getElem? (i := 3) rfl)) (hw _ (List.mem_of_getElem? (i := 36) rfl)) (by decide) A_b453.1 pd_285bI29I rfl rfl (by decide) (Nat.le_of_ble_eq_true rfl) (by decide) (by decide) (fun z0 => rm_add0 l Z a0 hw [] n0 h456 z0 b453 b441 un me ag de sl po (0 : Int32) (0 : Int32) (0 : Int32) (0 : Int32) (0 : Int32) (0 : Int32) (0 : Int32) (0 : Int32) (0 : Int32) (0 : Int32) (0 : Int32) (0 : Int32) (0 : Int32) (0 : Int32) a b f00 A_b453 A_ag A_de A_sl A_po A_b441 ge_b453 g1 g3 nn0 nn1 nn2 nn3 (Ne.symm ne_b441_b453) nn4 nn5 nn6 (Ne.symm ne_b441_ag) nn7 nn9 (Ne.symm ne_b441_sl) own_rw0 (own_free 8 8 (fun _ _ _ _ => rfl)) (by decide)) (fun v457 h458 qv457 => ?_)
      rcases qv457 with qv457 | qv457
      · obtain ⟨-, -, r, -, h1, -⟩ := qv457; exact absurd (show (-1 : Int32) < 0 by decide) h1
      · skip
        obtain ⟨rfl, r0, u0, h8_r0, hF_r0, hu_r0, K1, A1, A2, A3⟩ := qv457
        replace A_b441 := A_b441.keep K1 (ninS ne_b441_b453 (ninS ne_b441_ag (ninS ne_b441_sl nin0)))
        replace A_b445 := A_b445.keep K1 (ninS ne_b445_b453 (ninS ne_b445_ag (ninS ne_b445_sl nin0)))
        replace A_b449 := A_b449.keep K1 (ninS ne_b449_b453 (ninS ne_b449_ag (ninS ne_b449_sl nin0)))
        replace A_de := A_de.keep K1 (ninS (Ne.symm nn1) (ninS (Ne.symm nn4) (ninS nn7 nin0)))
        replace A_po := A_po.keep K1 (ninS (Ne.symm nn3) (ninS (Ne.symm nn6) (ninS (Ne.symm nn9) nin0)))
        replace A_b453 := A1
        replace A_ag := A2
        replace A_sl := A3
        have hus_u0 : 0 ≤ u0.toInt ∧ u0.toInt ≤ 1 := by have q := hu_r0; have z : (0 : Int32).toInt = 0 := rfl; omega
        have hr0 := own_first (E := fun k => own_eqr 2 [(0 : Int32), (0 : Int32), (0 : Int32), (0 : Int32), (0 : Int32), (0 : Int32), (0 : Int32), (0 : Int32)] [a, b] k = 1) hF_r0
        have hRn459 : Rw (upd f00 r0 0) := own_rwu own_rw0 (by decide)
        have hNn459 := own_free (f := (upd f00 r0 0)) r0 r0 (fun j _ h0 h1 => by simp [upd, h0, h1])
        show W K l _ n0 _ h458 10 39 84 #[.val (.int a), .val (.int b), .val (.int c), .val (.int d), .val (.int fl), .val (.int (1 : Int32)), .val (.int (1 : Int32)), .val (.ref b441), .val (.ref b445), .val (.ref b449), .val (.ref b453), .unset, .unset, .unset, .unset, .unset, .unset, .unset, .unset] [(.int (0 : Int32))]
        refine w_istore ok at_84 (L' := #[.val (.int a), .val (.int b), .val (.int c), .val (.int d), .val (.int fl), .val (.int (1 : Int32)), .val (.int (1 : Int32)), .val (.ref b441), .val (.ref b445), .val (.ref b449), .val (.ref b453), .val (.int (0 : Int32)), .unset, .unset, .unset, .unset, .unset, .unset, .unset]) rfl ?_
        refine w_aload ok at_86 rfl rfl ?_
        refine w_aload ok at_88 rfl rfl ?_
        refine w_callV ok (y := (⟨"com/example/hornconv/hornconv/FactTable", "add", "([I)I"⟩ : MethodName)) (a := b453) (argsL := [(.ref b445)]) (rest := []) at_90 (hw _ (List.mem_of_getElem? (i := 32) rfl)) (hw _ (List.mem_of_getElem? (i := 33) rfl)) (hw _ (List.mem_of_getElem? (i := 35) rfl)) (hw _ (List.mem_of_getElem? (i := 34) rfl)) (hw _ (List.mem_of_getElem? (i := 3) rfl)) (hw _ (List.mem_of_getElem? (i := 36) rfl)) (by decide) A_b453.1 pd_285bI29I rfl rfl (by decide) (Nat.le_of_ble_eq_true rfl) (by decide) (by decide) (fun z0 => rm_add1 l Z a0 hw [] n0 h458 z0 b453 b445 un me ag de sl po ((0 : Int32) + 1) u0 a b (0 : Int32) (0 : Int32) (0 : Int32) (0 : Int32) (0 : Int32) (0 : Int32) (0 : Int32) (0 : Int32) (0 : Int32) (0 : Int32) c d (upd f00 r0 0) A_b453 A_ag A_de A_sl A_po A_b445 ge_b453 g1 g3 nn0 nn1 nn2 nn3 (Ne.symm ne_b445_b453) nn4 nn5 nn6 (Ne.symm ne_b445_ag) nn7 nn9 (Ne.symm ne_b445_sl) hRn459 hNn459 (by omega)) (fun v460 h461 qv460 => ?_)
        rcases qv460 with qv460 | qv460
        · skip
          obtain ⟨rfl, rfl, ra1, hA8_1, hA1_1, hA2_1⟩ := qv460
          obtain ⟨s1, s2⟩ := own_sA hA1_1 hA2_1
          show W K l _ n0 _ h458 10 39 93 #[.val (.int a), .val (.int b), .val (.int c), .val (.int d), .val (.int fl), .val (.int (1 : Int32)), .val (.int (1 : Int32)), .val (.ref b441), .val (.ref b445), .val (.ref b449), .val (.ref b453), .val (.int (0 : Int32)), .unset, .unset, .unset, .unset, .unset, .unset, .unset] [(.int (-1 : Int32))]
          refine w_istore ok at_93 (L' := #[.val (.int a), .val (.int b), .val (.int c), .val (.int d), .val (.int fl), .val (.int (1 : Int32)), .val (.int (1 : Int32)), .val (.ref b441), .val (.ref b445), .val (.ref b449), .val (.ref b453), .val (.int (0 : Int32)), .val (.int (-1 : Int32)), .unset, .unset, .unset, .unset, .unset, .unset]) rfl ?_
          refine w_iloadN ok at_95 rfl ?_
          refine w_iloadN ok at_96 rfl ?_
          refine w_icmp_ne ok at_97 (pc' := 109) (by decide) (fun hc463 => False.elim (by exact hc463 s1)) (fun hc463 => ?_)
          show W K l _ n0 _ h458 10 39 100 #[.val (.int a), .val (.int b), .val (.int c), .val (.int d), .val (.int fl), .val (.int (1 : Int32)), .val (.int (1 : Int32)), .val (.ref b441), .val (.ref b445), .val (.ref b449), .val (.ref b453), .val (.int (0 : Int32)), .val (.int (-1 : Int32)), .unset, .unset, .unset, .unset, .unset, .unset] []
          refine w_iloadN ok at_100 rfl ?_
          refine w_iloadN ok at_101 rfl ?_
          refine w_icmp_ne ok at_102 (pc' := 109) (by decide) (fun hc465 => False.elim (by exact hc465 s2)) (fun hc465 => ?_)
          show W K l _ n0 _ h458 10 39 105 #[.val (.int a), .val (.int b), .val (.int c), .val (.int d), .val (.int fl), .val (.int (1 : Int32)), .val (.int (1 : Int32)), .val (.ref b441), .val (.ref b445), .val (.ref b449), .val (.ref b453), .val (.int (0 : Int32)), .val (.int (-1 : Int32)), .unset, .unset, .unset, .unset, .unset, .unset] []
          refine w_iconst ok at_105 (v := (1 : Int32)) rfl ?_
          refine w_goto ok at_106 (pc' := 110) (by decide) ?_
          refine w_istore ok at_110 (L' := #[.val (.int a), .val (.int b), .val (.int c), .val (.int d), .val (.int fl), .val (.int (1 : Int32)), .val (.int (1 : Int32)), .val (.ref b441), .val (.ref b445), .val (.ref b449), .val (.ref b453), .val (.int (0 : Int32)), .val (.int (-1 : Int32)), .val (.int (1 : Int32)), .unset, .unset, .unset, .unset, .unset]) rfl ?_
          refine w_iload ok at_112 rfl ?_
          refine w_if_eq ok at_114 (pc' := 119) (by decide) (fun hc467 => ?_) (fun hc467 => False.elim (by revert hc467; decide))
          show W K l _ n0 _ h458 10 39 119 #[.val (.int a), .val (.int b), .val (.int c), .val (.int d), .val (.int fl), .val (.int (1 : Int32)), .val (.int (1 : Int32)), .val (.ref b441), .val (.ref b445), .val (.ref b449), .val (.ref b453), .val (.int (0 : Int32)), .val (.int (-1 : Int32)), .val (.int (1 : Int32)), .unset, .unset, .unset, .unset, .unset] []
          refine w_iload ok at_119 rfl ?_
          refine w_if_eq ok at_121 (pc' := 133) (by decide) (fun hc469 => False.elim (by revert hc469; decide)) (fun hc469 => ?_)
          show W K l _ n0 _ h458 10 39 124 #[.val (.int a), .val (.int b), .val (.int c), .val (.int d), .val (.int fl), .val (.int (1 : Int32)), .val (.int (1 : Int32)), .val (.ref b441), .val (.ref b445), .val (.ref b449), .val (.ref b453), .val (.int (0 : Int32)), .val (.int (-1 : Int32)), .val (.int (1 : Int32)), .unset, .unset, .unset, .unset, .unset] []
          refine w_iload ok at_124 rfl ?_
          refine w_iconst ok at_126 (v := (-1 : Int32)) rfl ?_
          refine w_icmp_eq ok at_127 (pc' := 141) (by decide) (fun hc471 => ?_) (fun hc471 => False.elim (by revert hc471; decide))
          show W K l _ n0 _ h458 10 39 141 #[.val (.int a), .val (.int b), .val (.int c), .val (.int d), .val (.int fl), .val (.int (1 : Int32)), .val (.int (1 : Int32)), .val (.ref b441), .val (.ref b445), .val (.ref b449), .val (.ref b453), .val (.int (0 : Int32)), .val (.int (-1 : Int32)), .val (.int (1 : Int32)), .unset, .unset, .unset, .unset, .unset] []
          refine w_iload ok at_141 rfl ?_
          refine w_istore ok at_143 (L' := #[.val (.int a), .val (.int b), .val (.int c), .val (.int d), .val (.int fl), .val (.int (1 : Int32)), .val (.int (1 : Int32)), .val (.ref b441), .val (.ref b445), .val (.ref b449), .val (.ref b453), .val (.int (0 : Int32)), .val (.int (-1 : Int32)), .val (.int (1 : Int32)), .val (.int (1 : Int32)), .unset, .unset, .unset, .unset]) rfl ?_
          refine w_iload ok at_145 rfl ?_
          refine w_if_lt ok at_147 (pc' := 159) (by decide) (fun hc473 => ?_) (fun hc473 => False.elim (by revert hc473; decide))
          show W K l _ n0 _ h458 10 39 159 #[.val (.int a), .val (.int b), .val (.int c), .val (.int d), .val (.int fl), .val (.int (1 : Int32)), .val (.int (1 : Int32)), .val (.ref b441), .val (.ref b445), .val (.ref b449), .val (.ref b453), .val (.int (0 : Int32)), .val (.int (-1 : Int32)), .val (.int (1 : Int32)), .val (.int (1 : Int32)), .unset, .unset, .unset, .unset] []
          refine w_iconst ok at_159 (v := (0 : Int32)) rfl ?_
          refine w_istore ok at_160 (L' := #[.val (.int a), .val (.int b), .val (.int c), .val (.int d), .val (.int fl), .val (.int (1 : Int32)), .val (.int (1 : Int32)), .val (.ref b441), .val (.ref b445), .val (.ref b449), .val (.ref b453), .val (.int (0 : Int32)), .val (.int (-1 : Int32)), .val (.int (1 : Int32)), .val (.int (1 : Int32)), .val (.int (0 : Int32)), .unset, .unset, .unset]) rfl ?_
          refine w_iload ok at_162 rfl ?_
          refine w_if_eq ok at_164 (pc' := 173) (by decide) (fun hc475 => False.elim (by revert hc475; decide)) (fun hc475 => ?_)
          show W K l _ n0 _ h458 10 39 167 #[.val (.int a), .val (.int b), .val (.int c), .val (.int d), .val (.int fl), .val (.int (1 : Int32)), .val (.int (1 : Int32)), .val (.ref b441), .val (.ref b445), .val (.ref b449), .val (.ref b453), .val (.int (0 : Int32)), .val (.int (-1 : Int32)), .val (.int (1 : Int32)), .val (.int (1 : Int32)), .val (.int (0 : Int32)), .unset, .unset, .unset] []
          refine w_aload ok at_167 rfl rfl ?_
          refine w_iconst ok at_169 (v := (0 : Int32)) rfl ?_
          refine w_callV ok (y := (⟨"com/example/hornconv/hornconv/FactTable", "remove", "(I)V"⟩ : MethodName)) (a := b453) (argsL := [(.int (0 : Int32))]) (rest := []) at_170 (hw _ (List.mem_of_getElem? (i := 65) rfl)) (hw _ (List.mem_of_getElem? (i := 66) rfl)) (hw _ (List.mem_of_getElem? (i := 68) rfl)) (hw _ (List.mem_of_getElem? (i := 67) rfl)) (hw _ (List.mem_of_getElem? (i := 3) rfl)) (hw _ (List.mem_of_getElem? (i := 69) rfl)) (by decide) A_b453.1 pd_28I29V rfl rfl (by decide) (Nat.le_of_ble_eq_true rfl) (by decide) (by decide) (fun z0 => rm_rm0 l Z a0 hw [] n0 h458 z0 b453 un me ag de sl po (1 : Int32) ((0 : Int32) + 1) u0 a b (0 : Int32) (0 : Int32) (0 : Int32) (0 : Int32) (0 : Int32) (0 : Int32) (0 : Int32) (0 : Int32) (0 : Int32) (0 : Int32) (upd f00 r0 0) A_b453 A_ag A_de A_sl A_po ge_b453 g2 g3 nn0 nn1 nn2 nn3 nn4 nn5 nn6 nn7 nn9 nn8 ⟨0, by rw [← hr0]; simp [upd]⟩) (fun v476 h477 qv476 => ?_)
          obtain ⟨rfl, rr, h8_rr, hfr, K1, A1, A2, A3⟩ := qv476
          replace A_b441 := A_b441.keep K1 (ninS ne_b441_b453 (ninS ne_b441_de (ninS ne_b441_sl nin0)))
          replace A_b445 := A_b445.keep K1 (ninS ne_b445_b453 (ninS ne_b445_de (ninS ne_b445_sl nin0)))
          replace A_b449 := A_b449.keep K1 (ninS ne_b449_b453 (ninS ne_b449_de (ninS ne_b449_sl nin0)))
          replace A_ag := A_ag.keep K1 (ninS (Ne.symm nn0) (ninS nn4 (ninS nn5 nin0)))
          replace A_po := A_po.keep K1 (ninS (Ne.symm nn3) (ninS (Ne.symm nn8) (ninS (Ne.symm nn9) nin0)))
          replace A_b453 := A1
          replace A_de := A2
          replace A_sl := A3
          have e : rr = r0 := by
            simp only [upd, f00] at hfr; repeat' split at hfr
            all_goals first | assumption | exact absurd hfr (by decide)
          rw [e] at A_sl
          have hRn478 : Rw (upd (upd f00 r0 0) r0 (-2)) := own_rwu hRn459 (by decide)
          have hNn478 := own_free (f := (upd (upd f00 r0 0) r0 (-2))) r0 r0 (fun j _ h0 h1 => by simp [upd, h0, h1])
          show W K l _ n0 _ h477 10 39 173 #[.val (.int a), .val (.int b), .val (.int c), .val (.int d), .val (.int fl), .val (.int (1 : Int32)), .val (.int (1 : Int32)), .val (.ref b441), .val (.ref b445), .val (.ref b449), .val (.ref b453), .val (.int (0 : Int32)), .val (.int (-1 : Int32)), .val (.int (1 : Int32)), .val (.int (1 : Int32)), .val (.int (0 : Int32)), .unset, .unset, .unset] []
          refine w_iload ok at_173 rfl ?_
          refine w_if_eq ok at_175 (pc' := 185) (by decide) (fun hc480 => ?_) (fun hc480 => False.elim (by revert hc480; decide))
          show W K l _ n0 _ h477 10 39 185 #[.val (.int a), .val (.int b), .val (.int c), .val (.int d), .val (.int fl), .val (.int (1 : Int32)), .val (.int (1 : Int32)), .val (.ref b441), .val (.ref b445), .val (.ref b449), .val (.ref b453), .val (.int (0 : Int32)), .val (.int (-1 : Int32)), .val (.int (1 : Int32)), .val (.int (1 : Int32)), .val (.int (0 : Int32)), .unset, .unset, .unset] []
          refine w_aload ok at_185 rfl rfl ?_
          refine w_aload ok at_187 rfl rfl ?_
          refine w_callV ok (y := (⟨"com/example/hornconv/hornconv/FactTable", "add", "([I)I"⟩ : MethodName)) (a := b453) (argsL := [(.ref b449)]) (rest := []) at_189 (hw _ (List.mem_of_getElem? (i := 32) rfl)) (hw _ (List.mem_of_getElem? (i := 33) rfl)) (hw _ (List.mem_of_getElem? (i := 35) rfl)) (hw _ (List.mem_of_getElem? (i := 34) rfl)) (hw _ (List.mem_of_getElem? (i := 3) rfl)) (hw _ (List.mem_of_getElem? (i := 36) rfl)) (by decide) A_b453.1 pd_285bI29I rfl rfl (by decide) (Nat.le_of_ble_eq_true rfl) (by decide) (by decide) (fun z0 => rm_add1 l Z a0 hw [] n0 h477 z0 b453 b449 un me ag de sl po (((0 : Int32) + 1) - 1) u0 a b (0 : Int32) (0 : Int32) (0 : Int32) (0 : Int32) (0 : Int32) (0 : Int32) (1 : Int32) (0 : Int32) (0 : Int32) (0 : Int32) a b (upd (upd f00 r0 0) r0 (-2)) A_b453 A_ag A_de A_sl A_po A_b449 ge_b453 g1 g3 nn0 nn1 nn2 nn3 (Ne.symm ne_b449_b453) nn4 nn5 nn6 (Ne.symm ne_b449_ag) nn7 nn9 (Ne.symm ne_b449_sl) hRn478 hNn478 (by omega)) (fun v481 h482 qv481 => ?_)
          rcases qv481 with qv481 | qv481
          · obtain ⟨-, -, r, -, h1, -⟩ := qv481; exact (own_noneg (by simp only [upd, f00]; repeat' (first | decide | split)) h1).elim
          · skip
            obtain ⟨rfl, r2, u2, h8_r2, hF_r2, hu_r2, K1, A1, A2, A3⟩ := qv481
            replace A_b441 := A_b441.keep K1 (ninS ne_b441_b453 (ninS ne_b441_ag (ninS ne_b441_sl nin0)))
            replace A_b445 := A_b445.keep K1 (ninS ne_b445_b453 (ninS ne_b445_ag (ninS ne_b445_sl nin0)))
            replace A_b449 := A_b449.keep K1 (ninS ne_b449_b453 (ninS ne_b449_ag (ninS ne_b449_sl nin0)))
            replace A_de := A_de.keep K1 (ninS (Ne.symm nn1) (ninS (Ne.symm nn4) (ninS nn7 nin0)))
            replace A_po := A_po.keep K1 (ninS (Ne.symm nn3) (ninS (Ne.symm nn6) (ninS (Ne.symm nn9) nin0)))
            replace A_b453 := A1
            replace A_ag := A2
            replace A_sl := A3
            have hus_u2 : 0 ≤ u2.toInt ∧ u2.toInt ≤ 3 := by have q := hu_r2; have z : (0 : Int32).toInt = 0 := rfl; omega
            show W K l _ n0 _ h482 10 39 192 #[.val (.int a), .val (.int b), .val (.int c), .val (.int d), .val (.int fl), .val (.int (1 : Int32)), .val (.int (1 : Int32)), .val (.ref b441), .val (.ref b445), .val (.ref b449), .val (.ref b453), .val (.int (0 : Int32)), .val (.int (-1 : Int32)), .val (.int (1 : Int32)), .val (.int (1 : Int32)), .val (.int (0 : Int32)), .unset, .unset, .unset] [(.int (1 : Int32))]
            refine w_istore ok at_192 (L' := #[.val (.int a), .val (.int b), .val (.int c), .val (.int d), .val (.int fl), .val (.int (1 : Int32)), .val (.int (1 : Int32)), .val (.ref b441), .val (.ref b445), .val (.ref b449), .val (.ref b453), .val (.int (0 : Int32)), .val (.int (-1 : Int32)), .val (.int (1 : Int32)), .val (.int (1 : Int32)), .val (.int (0 : Int32)), .val (.int (1 : Int32)), .unset, .unset]) rfl ?_
            refine w_aload ok at_194 rfl rfl ?_
            refine w_iconst ok at_196 (v := (0 : Int32)) rfl ?_
            refine w_callV ok (y := (⟨"com/example/hornconv/hornconv/FactTable", "isLive", "(I)Z"⟩ : MethodName)) (a := b453) (argsL := [(.int (0 : Int32))]) (rest := []) at_197 (hw _ (List.mem_of_getElem? (i := 60) rfl)) (hw _ (List.mem_of_getElem? (i := 61) rfl)) (hw _ (List.mem_of_getElem? (i := 63) rfl)) (hw _ (List.mem_of_getElem? (i := 62) rfl)) (hw _ (List.mem_of_getElem? (i := 3) rfl)) (hw _ (List.mem_of_getElem? (i := 64) rfl)) (by decide) A_b453.1 pd_28I29Z rfl rfl (by decide) (Nat.le_of_ble_eq_true rfl) (by decide) (by decide) (fun z0 => rm_live0 l Z a0 hw [] n0 h482 z0 b453 un me ag de sl po (2 : Int32) ((((0 : Int32) + 1) - 1) + 1) u2 (1 : Int32) (0 : Int32) (0 : Int32) (0 : Int32) A_b453 A_de) (fun v483 h484 qv483 => ?_)
            obtain ⟨rfl, rfl⟩ := qv483
            rw [show own_live (1 : Int32) = 0 from rfl]
            show W K l _ n0 _ h482 10 39 200 #[.val (.int a), .val (.int b), .val (.int c), .val (.int d), .val (.int fl), .val (.int (1 : Int32)), .val (.int (1 : Int32)), .val (.ref b441), .val (.ref b445), .val (.ref b449), .val (.ref b453), .val (.int (0 : Int32)), .val (.int (-1 : Int32)), .val (.int (1 : Int32)), .val (.int (1 : Int32)), .val (.int (0 : Int32)), .val (.int (1 : Int32)), .unset, .unset] [(.int (0 : Int32))]
            refine w_iload ok at_200 rfl ?_
            refine w_if_ne ok at_202 (pc' := 209) (by decide) (fun hc486 => ?_) (fun hc486 => False.elim (by revert hc486; decide))
            show W K l _ n0 _ h482 10 39 209 #[.val (.int a), .val (.int b), .val (.int c), .val (.int d), .val (.int fl), .val (.int (1 : Int32)), .val (.int (1 : Int32)), .val (.ref b441), .val (.ref b445), .val (.ref b449), .val (.ref b453), .val (.int (0 : Int32)), .val (.int (-1 : Int32)), .val (.int (1 : Int32)), .val (.int (1 : Int32)), .val (.int (0 : Int32)), .val (.int (1 : Int32)), .unset, .unset] [(.int (0 : Int32))]
            refine w_iconst ok at_209 (v := (0 : Int32)) rfl ?_
            refine w_icmp_ne ok at_210 (pc' := 217) (by decide) (fun hc488 => False.elim (by revert hc488; decide)) (fun hc488 => ?_)
            show W K l _ n0 _ h482 10 39 213 #[.val (.int a), .val (.int b), .val (.int c), .val (.int d), .val (.int fl), .val (.int (1 : Int32)), .val (.int (1 : Int32)), .val (.ref b441), .val (.ref b445), .val (.ref b449), .val (.ref b453), .val (.int (0 : Int32)), .val (.int (-1 : Int32)), .val (.int (1 : Int32)), .val (.int (1 : Int32)), .val (.int (0 : Int32)), .val (.int (1 : Int32)), .unset, .unset] []
            refine w_iconst ok at_213 (v := (1 : Int32)) rfl ?_
            refine w_goto ok at_214 (pc' := 218) (by decide) ?_
            refine w_istore ok at_218 (L' := #[.val (.int a), .val (.int b), .val (.int c), .val (.int d), .val (.int fl), .val (.int (1 : Int32)), .val (.int (1 : Int32)), .val (.ref b441), .val (.ref b445), .val (.ref b449), .val (.ref b453), .val (.int (0 : Int32)), .val (.int (-1 : Int32)), .val (.int (1 : Int32)), .val (.int (1 : Int32)), .val (.int (0 : Int32)), .val (.int (1 : Int32)), .val (.int (1 : Int32)), .unset]) rfl ?_
            refine w_iload ok at_220 rfl ?_
            refine w_if_lt ok at_222 (pc' := 257) (by decide) (fun hc490 => ?_) (fun hc490 => False.elim (by revert hc490; decide))
            show W K l _ n0 _ h482 10 39 257 #[.val (.int a), .val (.int b), .val (.int c), .val (.int d), .val (.int fl), .val (.int (1 : Int32)), .val (.int (1 : Int32)), .val (.ref b441), .val (.ref b445), .val (.ref b449), .val (.ref b453), .val (.int (0 : Int32)), .val (.int (-1 : Int32)), .val (.int (1 : Int32)), .val (.int (1 : Int32)), .val (.int (0 : Int32)), .val (.int (1 : Int32)), .val (.int (1 : Int32)), .unset] []
            refine w_iload ok at_257 rfl ?_
            refine w_if_eq ok at_259 (pc' := 306) (by decide) (fun hc492 => False.elim (by revert hc492; decide)) (fun hc492 => ?_)
            show W K l _ n0 _ h482 10 39 262 #[.val (.int a), .val (.int b), .val (.int c), .val (.int d), .val (.int fl), .val (.int (1 : Int32)), .val (.int (1 : Int32)), .val (.ref b441), .val (.ref b445), .val (.ref b449), .val (.ref b453), .val (.int (0 : Int32)), .val (.int (-1 : Int32)), .val (.int (1 : Int32)), .val (.int (1 : Int32)), .val (.int (0 : Int32)), .val (.int (1 : Int32)), .val (.int (1 : Int32)), .unset] []
            refine w_iload ok at_262 rfl ?_
            refine w_if_lt ok at_264 (pc' := 271) (by decide) (fun hc494 => ?_) (fun hc494 => False.elim (by revert hc494; decide))
            show W K l _ n0 _ h482 10 39 271 #[.val (.int a), .val (.int b), .val (.int c), .val (.int d), .val (.int fl), .val (.int (1 : Int32)), .val (.int (1 : Int32)), .val (.ref b441), .val (.ref b445), .val (.ref b449), .val (.ref b453), .val (.int (0 : Int32)), .val (.int (-1 : Int32)), .val (.int (1 : Int32)), .val (.int (1 : Int32)), .val (.int (0 : Int32)), .val (.int (1 : Int32)), .val (.int (1 : Int32)), .unset] []
            refine w_iconst ok at_271 (v := (1 : Int32)) rfl ?_
            refine w_istore ok at_272 (L' := #[.val (.int a), .val (.int b), .val (.int c), .val (.int d), .val (.int fl), .val (.int (1 : Int32)), .val (.int (1 : Int32)), .val (.ref b441), .val (.ref b445), .val (.ref b449), .val (.ref b453), .val (.int (0 : Int32)), .val (.int (-1 : Int32)), .val (.int (1 : Int32)), .val (.int (1 : Int32)), .val (.int (0 : Int32)), .val (.int (1 : Int32)), .val (.int (1 : Int32)), .val (.int (1 : Int32))]) rfl ?_
            refine w_iload ok at_274 rfl ?_
            refine w_if_eq ok at_276 (pc' := 300) (by decide) (fun hc496 => False.elim (by revert hc496; decide)) (fun hc496 => ?_)
            show W K l _ n0 _ h482 10 39 279 #[.val (.int a), .val (.int b), .val (.int c), .val (.int d), .val (.int fl), .val (.int (1 : Int32)), .val (.int (1 : Int32)), .val (.ref b441), .val (.ref b445), .val (.ref b449), .val (.ref b453), .val (.int (0 : Int32)), .val (.int (-1 : Int32)), .val (.int (1 : Int32)), .val (.int (1 : Int32)), .val (.int (0 : Int32)), .val (.int (1 : Int32)), .val (.int (1 : Int32)), .val (.int (1 : Int32))] []
            refine w_iload ok at_279 rfl ?_
            refine w_iload ok at_281 rfl ?_
            refine w_icmp_ne ok at_283 (pc' := 300) (by decide) (fun hc498 => False.elim (by revert hc498; decide)) (fun hc498 => ?_)
            show W K l _ n0 _ h482 10 39 286 #[.val (.int a), .val (.int b), .val (.int c), .val (.int d), .val (.int fl), .val (.int (1 : Int32)), .val (.int (1 : Int32)), .val (.ref b441), .val (.ref b445), .val (.ref b449), .val (.ref b453), .val (.int (0 : Int32)), .val (.int (-1 : Int32)), .val (.int (1 : Int32)), .val (.int (1 : Int32)), .val (.int (0 : Int32)), .val (.int (1 : Int32)), .val (.int (1 : Int32)), .val (.int (1 : Int32))] []
            refine w_aload ok at_286 rfl rfl ?_
            refine w_iload ok at_288 rfl ?_
            refine w_callV ok (y := (⟨"com/example/hornconv/hornconv/FactTable", "isLive", "(I)Z"⟩ : MethodName)) (a := b453) (argsL := [(.int (1 : Int32))]) (rest := []) at_290 (hw _ (List.mem_of_getElem? (i := 60) rfl)) (hw _ (List.mem_of_getElem? (i := 61) rfl)) (hw _ (List.mem_of_getElem? (i := 63) rfl)) (hw _ (List.mem_of_getElem? (i := 62) rfl)) (hw _ (List.mem_of_getElem? (i := 3) rfl)) (hw _ (List.mem_of_getElem? (i := 64) rfl)) (by decide) A_b453.1 pd_28I29Z rfl rfl (by decide) (Nat.le_of_ble_eq_true rfl) (by decide) (by decide) (fun z0 => rm_live1 l Z a0 hw [] n0 h482 z0 b453 un me ag de sl po (2 : Int32) ((((0 : Int32) + 1) - 1) + 1) u2 (1 : Int32) (0 : Int32) (0 : Int32) (0 : Int32) A_b453 A_de) (fun v499 h500 qv499 => ?_)
            obtain ⟨rfl, rfl⟩ := qv499
            rw [show own_live (0 : Int32) = 1 from rfl]
            show W K l _ n0 _ h482 10 39 293 #[.val (.int a), .val (.int b), .val (.int c), .val (.int d), .val (.int fl), .val (.int (1 : Int32)), .val (.int (1 : Int32)), .val (.ref b441), .val (.ref b445), .val (.ref b449), .val (.ref b453), .val (.int (0 : Int32)), .val (.int (-1 : Int32)), .val (.int (1 : Int32)), .val (.int (1 : Int32)), .val (.int (0 : Int32)), .val (.int (1 : Int32)), .val (.int (1 : Int32)), .val (.int (1 : Int32))] [(.int (1 : Int32))]
            refine w_if_eq ok at_293 (pc' := 300) (by decide) (fun hc502 => False.elim (by revert hc502; decide)) (fun hc502 => ?_)
            show W K l _ n0 _ h482 10 39 296 #[.val (.int a), .val (.int b), .val (.int c), .val (.int d), .val (.int fl), .val (.int (1 : Int32)), .val (.int (1 : Int32)), .val (.ref b441), .val (.ref b445), .val (.ref b449), .val (.ref b453), .val (.int (0 : Int32)), .val (.int (-1 : Int32)), .val (.int (1 : Int32)), .val (.int (1 : Int32)), .val (.int (0 : Int32)), .val (.int (1 : Int32)), .val (.int (1 : Int32)), .val (.int (1 : Int32))] []
            refine w_iconst ok at_296 (v := (1 : Int32)) rfl ?_
            refine w_goto ok at_297 (pc' := 301) (by decide) ?_
            refine w_istore ok at_301 (L' := #[.val (.int a), .val (.int b), .val (.int c), .val (.int d), .val (.int fl), .val (.int (1 : Int32)), .val (.int (1 : Int32)), .val (.ref b441), .val (.ref b445), .val (.ref b449), .val (.ref b453), .val (.int (0 : Int32)), .val (.int (-1 : Int32)), .val (.int (1 : Int32)), .val (.int (1 : Int32)), .val (.int (0 : Int32)), .val (.int (1 : Int32)), .val (.int (1 : Int32)), .val (.int (1 : Int32))]) rfl ?_
            refine w_goto ok at_303 (pc' := 324) (by decide) ?_
            refine w_iload ok at_324 rfl ?_
            refine w_bret ok (by simp) at_326 (by decide) (by decide) ?_
            exact rfl
        · skip
          obtain ⟨rfl, r1, u1, h8_r1, hF_r1, hu_r1, K1, A1, A2, A3⟩ := qv460
          replace A_b441 := A_b441.keep K1 (ninS ne_b441_b453 (ninS ne_b441_ag (ninS ne_b441_sl nin0)))
          replace A_b445 := A_b445.keep K1 (ninS ne_b445_b453 (ninS ne_b445_ag (ninS ne_b445_sl nin0)))
          replace A_b449 := A_b449.keep K1 (ninS ne_b449_b453 (ninS ne_b449_ag (ninS ne_b449_sl nin0)))
          replace A_de := A_de.keep K1 (ninS (Ne.symm nn1) (ninS (Ne.symm nn4) (ninS nn7 nin0)))
          replace A_po := A_po.keep K1 (ninS (Ne.symm nn3) (ninS (Ne.symm nn6) (ninS (Ne.symm nn9) nin0)))
          replace A_b453 := A1
          replace A_ag := A2
          replace A_sl := A3
          have hus_u1 : 0 ≤ u1.toInt ∧ u1.toInt ≤ 2 := by have q := hu_r1; have z : (0 : Int32).toInt = 0 := rfl; omega
          have nsame : ¬ (a = c ∧ b = d) := fun q => own_hit (E := fun k => own_eqr 2 [a, b, 0, 0, 0, 0, 0, 0] [c, d] k = 1) hF_r1 (by rw [← q.1, ← q.2, ← hr0]; exact upd_same _ _ _) (own_eqk' (by rw [← q.1, ← q.2]; rfl))
          have ne10 : r1 ≠ r0 := fun q => by have h := hF_r1.1; rw [q, upd_same] at h; exact absurd h (by decide)
          obtain ⟨i1, hr1⟩ := own_at (E := fun k => own_eqr 2 [a, b, (0 : Int32), (0 : Int32), (0 : Int32), (0 : Int32), (0 : Int32), (0 : Int32)] [c, d] k = 1) hF_r1
          have hRn503 : Rw (upd (upd f00 r0 0) r1 1) := own_rwu hRn459 (by decide)
          have hNn503 := own_free (f := (upd (upd f00 r0 0) r1 1)) r0 r1 (fun j _ h0 h1 => by simp [upd, h0, h1])
          show W K l _ n0 _ h461 10 39 93 #[.val (.int a), .val (.int b), .val (.int c), .val (.int d), .val (.int fl), .val (.int (1 : Int32)), .val (.int (1 : Int32)), .val (.ref b441), .val (.ref b445), .val (.ref b449), .val (.ref b453), .val (.int (0 : Int32)), .unset, .unset, .unset, .unset, .unset, .unset, .unset] [(.int (1 : Int32))]
          refine w_istore ok at_93 (L' := #[.val (.int a), .val (.int b), .val (.int c), .val (.int d), .val (.int fl), .val (.int (1 : Int32)), .val (.int (1 : Int32)), .val (.ref b441), .val (.ref b445), .val (.ref b449), .val (.ref b453), .val (.int (0 : Int32)), .val (.int (1 : Int32)), .unset, .unset, .unset, .unset, .unset, .unset]) rfl ?_
          refine w_iloadN ok at_95 rfl ?_
          refine w_iloadN ok at_96 rfl ?_
          refine w_icmp_ne ok at_97 (pc' := 109) (by decide) (fun hc505 => ?_) (fun hc505 => ?_)
          · show W K l _ n0 _ h461 10 39 109 #[.val (.int a), .val (.int b), .val (.int c), .val (.int d), .val (.int fl), .val (.int (1 : Int32)), .val (.int (1 : Int32)), .val (.ref b441), .val (.ref b445), .val (.ref b449), .val (.ref b453), .val (.int (0 : Int32)), .val (.int (1 : Int32)), .unset, .unset, .unset, .unset, .unset, .unset] []
            refine w_iconst ok at_109 (v := (0 : Int32)) rfl ?_
            refine w_istore ok at_110 (L' := #[.val (.int a), .val (.int b), .val (.int c), .val (.int d), .val (.int fl), .val (.int (1 : Int32)), .val (.int (1 : Int32)), .val (.ref b441), .val (.ref b445), .val (.ref b449), .val (.ref b453), .val (.int (0 : Int32)), .val (.int (1 : Int32)), .val (.int (0 : Int32)), .unset, .unset, .unset, .unset, .unset]) rfl ?_
            refine w_iload ok at_112 rfl ?_
            refine w_if_eq ok at_114 (pc' := 119) (by decide) (fun hc507 => ?_) (fun hc507 => False.elim (by revert hc507; decide))
            show W K l _ n0 _ h461 10 39 119 #[.val (.int a), .val (.int b), .val (.int c), .val (.int d), .val (.int fl), .val (.int (1 : Int32)), .val (.int (1 : Int32)), .val (.ref b441), .val (.ref b445), .val (.ref b449), .val (.ref b453), .val (.int (0 : Int32)), .val (.int (1 : Int32)), .val (.int (0 : Int32)), .unset, .unset, .unset, .unset, .unset] []
            refine w_iload ok at_119 rfl ?_
            refine w_if_eq ok at_121 (pc' := 133) (by decide) (fun hc509 => ?_) (fun hc509 => False.elim (by revert hc509; decide))
            show W K l _ n0 _ h461 10 39 133 #[.val (.int a), .val (.int b), .val (.int c), .val (.int d), .val (.int fl), .val (.int (1 : Int32)), .val (.int (1 : Int32)), .val (.ref b441), .val (.ref b445), .val (.ref b449), .val (.ref b453), .val (.int (0 : Int32)), .val (.int (1 : Int32)), .val (.int (0 : Int32)), .unset, .unset, .unset, .unset, .unset] []
            refine w_iload ok at_133 rfl ?_
            refine w_iconst ok at_135 (v := (1 : Int32)) rfl ?_
            refine w_icmp_eq ok at_136 (pc' := 141) (by decide) (fun hc511 => ?_) (fun hc511 => False.elim (by revert hc511; decide))
            show W K l _ n0 _ h461 10 39 141 #[.val (.int a), .val (.int b), .val (.int c), .val (.int d), .val (.int fl), .val (.int (1 : Int32)), .val (.int (1 : Int32)), .val (.ref b441), .val (.ref b445), .val (.ref b449), .val (.ref b453), .val (.int (0 : Int32)), .val (.int (1 : Int32)), .val (.int (0 : Int32)), .unset, .unset, .unset, .unset, .unset] []
            refine w_iload ok at_141 rfl ?_
            refine w_istore ok at_143 (L' := #[.val (.int a), .val (.int b), .val (.int c), .val (.int d), .val (.int fl), .val (.int (1 : Int32)), .val (.int (1 : Int32)), .val (.ref b441), .val (.ref b445), .val (.ref b449), .val (.ref b453), .val (.int (0 : Int32)), .val (.int (1 : Int32)), .val (.int (0 : Int32)), .val (.int (1 : Int32)), .unset, .unset, .unset, .unset]) rfl ?_
            refine w_iload ok at_145 rfl ?_
            refine w_if_lt ok at_147 (pc' := 159) (by decide) (fun hc513 => False.elim (by revert hc513; decide)) (fun hc513 => ?_)
            show W K l _ n0 _ h461 10 39 150 #[.val (.int a), .val (.int b), .val (.int c), .val (.int d), .val (.int fl), .val (.int (1 : Int32)), .val (.int (1 : Int32)), .val (.ref b441), .val (.ref b445), .val (.ref b449), .val (.ref b453), .val (.int (0 : Int32)), .val (.int (1 : Int32)), .val (.int (0 : Int32)), .val (.int (1 : Int32)), .unset, .unset, .unset, .unset] []
            refine w_iload ok at_150 rfl ?_
            refine w_if_eq ok at_152 (pc' := 159) (by decide) (fun hc515 => False.elim (by revert hc515; decide)) (fun hc515 => ?_)
            show W K l _ n0 _ h461 10 39 155 #[.val (.int a), .val (.int b), .val (.int c), .val (.int d), .val (.int fl), .val (.int (1 : Int32)), .val (.int (1 : Int32)), .val (.ref b441), .val (.ref b445), .val (.ref b449), .val (.ref b453), .val (.int (0 : Int32)), .val (.int (1 : Int32)), .val (.int (0 : Int32)), .val (.int (1 : Int32)), .unset, .unset, .unset, .unset] []
            refine w_iconst ok at_155 (v := (1 : Int32)) rfl ?_
            refine w_goto ok at_156 (pc' := 160) (by decide) ?_
            refine w_istore ok at_160 (L' := #[.val (.int a), .val (.int b), .val (.int c), .val (.int d), .val (.int fl), .val (.int (1 : Int32)), .val (.int (1 : Int32)), .val (.ref b441), .val (.ref b445), .val (.ref b449), .val (.ref b453), .val (.int (0 : Int32)), .val (.int (1 : Int32)), .val (.int (0 : Int32)), .val (.int (1 : Int32)), .val (.int (1 : Int32)), .unset, .unset, .unset]) rfl ?_
            refine w_iload ok at_162 rfl ?_
            refine w_if_eq ok at_164 (pc' := 173) (by decide) (fun hc517 => False.elim (by revert hc517; decide)) (fun hc517 => ?_)
            show W K l _ n0 _ h461 10 39 167 #[.val (.int a), .val (.int b), .val (.int c), .val (.int d), .val (.int fl), .val (.int (1 : Int32)), .val (.int (1 : Int32)), .val (.ref b441), .val (.ref b445), .val (.ref b449), .val (.ref b453), .val (.int (0 : Int32)), .val (.int (1 : Int32)), .val (.int (0 : Int32)), .val (.int (1 : Int32)), .val (.int (1 : Int32)), .unset, .unset, .unset] []
            refine w_aload ok at_167 rfl rfl ?_
            refine w_iconst ok at_169 (v := (0 : Int32)) rfl ?_
            refine w_callV ok (y := (⟨"com/example/hornconv/hornconv/FactTable", "remove", "(I)V"⟩ : MethodName)) (a := b453) (argsL := [(.int (0 : Int32))]) (rest := []) at_170 (hw _ (List.mem_of_getElem? (i := 65) rfl)) (hw _ (List.mem_of_getElem? (i := 66) rfl)) (hw _ (List.mem_of_getElem? (i := 68) rfl)) (hw _ (List.mem_of_getElem? (i := 67) rfl)) (hw _ (List.mem_of_getElem? (i := 3) rfl)) (hw _ (List.mem_of_getElem? (i := 69) rfl)) (by decide) A_b453.1 pd_28I29V rfl rfl (by decide) (Nat.le_of_ble_eq_true rfl) (by decide) (by decide) (fun z0 => rm_rm0 l Z a0 hw [] n0 h461 z0 b453 un me ag de sl po (2 : Int32) (((0 : Int32) + 1) + 1) u1 a b c d (0 : Int32) (0 : Int32) (0 : Int32) (0 : Int32) (0 : Int32) (0 : Int32) (0 : Int32) (0 : Int32) (upd (upd f00 r0 0) r1 1) A_b453 A_ag A_de A_sl A_po ge_b453 g2 g3 nn0 nn1 nn2 nn3 nn4 nn5 nn6 nn7 nn9 nn8 ⟨0, by rw [← hr0]; simp [upd, Ne.symm ne10]⟩) (fun v518 h519 qv518 => ?_)
            obtain ⟨rfl, rr, h8_rr, hfr, K1, A1, A2, A3⟩ := qv518
            replace A_b441 := A_b441.keep K1 (ninS ne_b441_b453 (ninS ne_b441_de (ninS ne_b441_sl nin0)))
            replace A_b445 := A_b445.keep K1 (ninS ne_b445_b453 (ninS ne_b445_de (ninS ne_b445_sl nin0)))
            replace A_b449 := A_b449.keep K1 (ninS ne_b449_b453 (ninS ne_b449_de (ninS ne_b449_sl nin0)))
            replace A_ag := A_ag.keep K1 (ninS (Ne.symm nn0) (ninS nn4 (ninS nn5 nin0)))
            replace A_po := A_po.keep K1 (ninS (Ne.symm nn3) (ninS (Ne.symm nn8) (ninS (Ne.symm nn9) nin0)))
            replace A_b453 := A1
            replace A_de := A2
            replace A_sl := A3
            have e : rr = r0 := by
              simp only [upd, f00] at hfr; repeat' split at hfr
              all_goals first | assumption | exact absurd hfr (by decide)
            rw [e] at A_sl
            have hRn520 : Rw (upd (upd (upd f00 r0 0) r1 1) r0 (-2)) := own_rwu hRn503 (by decide)
            have hNn520 := own_free (f := (upd (upd (upd f00 r0 0) r1 1) r0 (-2))) r0 r1 (fun j _ h0 h1 => by simp [upd, h0, h1])
            show W K l _ n0 _ h519 10 39 173 #[.val (.int a), .val (.int b), .val (.int c), .val (.int d), .val (.int fl), .val (.int (1 : Int32)), .val (.int (1 : Int32)), .val (.ref b441), .val (.ref b445), .val (.ref b449), .val (.ref b453), .val (.int (0 : Int32)), .val (.int (1 : Int32)), .val (.int (0 : Int32)), .val (.int (1 : Int32)), .val (.int (1 : Int32)), .unset, .unset, .unset] []
            refine w_iload ok at_173 rfl ?_
            refine w_if_eq ok at_175 (pc' := 185) (by decide) (fun hc522 => False.elim (by revert hc522; decide)) (fun hc522 => ?_)
            show W K l _ n0 _ h519 10 39 178 #[.val (.int a), .val (.int b), .val (.int c), .val (.int d), .val (.int fl), .val (.int (1 : Int32)), .val (.int (1 : Int32)), .val (.ref b441), .val (.ref b445), .val (.ref b449), .val (.ref b453), .val (.int (0 : Int32)), .val (.int (1 : Int32)), .val (.int (0 : Int32)), .val (.int (1 : Int32)), .val (.int (1 : Int32)), .unset, .unset, .unset] []
            refine w_aload ok at_178 rfl rfl ?_
            refine w_iload ok at_180 rfl ?_
            refine w_callV ok (y := (⟨"com/example/hornconv/hornconv/FactTable", "remove", "(I)V"⟩ : MethodName)) (a := b453) (argsL := [(.int (1 : Int32))]) (rest := []) at_182 (hw _ (List.mem_of_getElem? (i := 65) rfl)) (hw _ (List.mem_of_getElem? (i := 66) rfl)) (hw _ (List.mem_of_getElem? (i := 68) rfl)) (hw _ (List.mem_of_getElem? (i := 67) rfl)) (hw _ (List.mem_of_getElem? (i := 3) rfl)) (hw _ (List.mem_of_getElem? (i := 69) rfl)) (by decide) A_b453.1 pd_28I29V rfl rfl (by decide) (Nat.le_of_ble_eq_true rfl) (by decide) (by decide) (fun z0 => rm_rm1 l Z a0 hw [] n0 h519 z0 b453 un me ag de sl po (2 : Int32) ((((0 : Int32) + 1) + 1) - 1) u1 a b c d (0 : Int32) (0 : Int32) (0 : Int32) (0 : Int32) (1 : Int32) (0 : Int32) (0 : Int32) (0 : Int32) (upd (upd (upd f00 r0 0) r1 1) r0 (-2)) A_b453 A_ag A_de A_sl A_po ge_b453 g2 g3 nn0 nn1 nn2 nn3 nn4 nn5 nn6 nn7 nn9 nn8 ⟨i1, by rw [← hr1]; simp [upd, ne10]⟩) (fun v523 h524 qv523 => ?_)
            obtain ⟨rfl, rr, h8_rr, hfr, K1, A1, A2, A3⟩ := qv523
            replace A_b441 := A_b441.keep K1 (ninS ne_b441_b453 (ninS ne_b441_de (ninS ne_b441_sl nin0)))
            replace A_b445 := A_b445.keep K1 (ninS ne_b445_b453 (ninS ne_b445_de (ninS ne_b445_sl nin0)))
            replace A_b449 := A_b449.keep K1 (ninS ne_b449_b453 (ninS ne_b449_de (ninS ne_b449_sl nin0)))
            replace A_ag := A_ag.keep K1 (ninS (Ne.symm nn0) (ninS nn4 (ninS nn5 nin0)))
            replace A_po := A_po.keep K1 (ninS (Ne.symm nn3) (ninS (Ne.symm nn8) (ninS (Ne.symm nn9) nin0)))
            replace A_b453 := A1
            replace A_de := A2
            replace A_sl := A3
            have e : rr = r1 := by
              simp only [upd, f00] at hfr; repeat' split at hfr
              all_goals first | assumption | exact absurd hfr (by decide)
            rw [e] at A_sl
            have hRn525 : Rw (upd (upd (upd (upd f00 r0 0) r1 1) r0 (-2)) r1 (-2)) := own_rwu hRn520 (by decide)
            have hNn525 := own_free (f := (upd (upd (upd (upd f00 r0 0) r1 1) r0 (-2)) r1 (-2))) r0 r1 (fun j _ h0 h1 => by simp [upd, h0, h1])
            show W K l _ n0 _ h524 10 39 185 #[.val (.int a), .val (.int b), .val (.int c), .val (.int d), .val (.int fl), .val (.int (1 : Int32)), .val (.int (1 : Int32)), .val (.ref b441), .val (.ref b445), .val (.ref b449), .val (.ref b453), .val (.int (0 : Int32)), .val (.int (1 : Int32)), .val (.int (0 : Int32)), .val (.int (1 : Int32)), .val (.int (1 : Int32)), .unset, .unset, .unset] []
            refine w_aload ok at_185 rfl rfl ?_
            refine w_aload ok at_187 rfl rfl ?_
            refine w_callV ok (y := (⟨"com/example/hornconv/hornconv/FactTable", "add", "([I)I"⟩ : MethodName)) (a := b453) (argsL := [(.ref b449)]) (rest := []) at_189 (hw _ (List.mem_of_getElem? (i := 32) rfl)) (hw _ (List.mem_of_getElem? (i := 33) rfl)) (hw _ (List.mem_of_getElem? (i := 35) rfl)) (hw _ (List.mem_of_getElem? (i := 34) rfl)) (hw _ (List.mem_of_getElem? (i := 3) rfl)) (hw _ (List.mem_of_getElem? (i := 36) rfl)) (by decide) A_b453.1 pd_285bI29I rfl rfl (by decide) (Nat.le_of_ble_eq_true rfl) (by decide) (by decide) (fun z0 => rm_add2 l Z a0 hw [] n0 h524 z0 b453 b449 un me ag de sl po (((((0 : Int32) + 1) + 1) - 1) - 1) u1 a b c d (0 : Int32) (0 : Int32) (0 : Int32) (0 : Int32) (1 : Int32) (1 : Int32) (0 : Int32) (0 : Int32) a b (upd (upd (upd (upd f00 r0 0) r1 1) r0 (-2)) r1 (-2)) A_b453 A_ag A_de A_sl A_po A_b449 ge_b453 g1 g3 nn0 nn1 nn2 nn3 (Ne.symm ne_b449_b453) nn4 nn5 nn6 (Ne.symm ne_b449_ag) nn7 nn9 (Ne.symm ne_b449_sl) hRn525 hNn525 (by omega)) (fun v526 h527 qv526 => ?_)
            rcases qv526 with qv526 | qv526
            · obtain ⟨-, -, r, -, h1, -⟩ := qv526; exact (own_noneg (by simp only [upd, f00]; repeat' (first | decide | split)) h1).elim
            · skip
              obtain ⟨rfl, r2, u2, h8_r2, hF_r2, hu_r2, K1, A1, A2, A3⟩ := qv526
              replace A_b441 := A_b441.keep K1 (ninS ne_b441_b453 (ninS ne_b441_ag (ninS ne_b441_sl nin0)))
              replace A_b445 := A_b445.keep K1 (ninS ne_b445_b453 (ninS ne_b445_ag (ninS ne_b445_sl nin0)))
              replace A_b449 := A_b449.keep K1 (ninS ne_b449_b453 (ninS ne_b449_ag (ninS ne_b449_sl nin0)))
              replace A_de := A_de.keep K1 (ninS (Ne.symm nn1) (ninS (Ne.symm nn4) (ninS nn7 nin0)))
              replace A_po := A_po.keep K1 (ninS (Ne.symm nn3) (ninS (Ne.symm nn6) (ninS (Ne.symm nn9) nin0)))
              replace A_b453 := A1
              replace A_ag := A2
              replace A_sl := A3
              have hus_u2 : 0 ≤ u2.toInt ∧ u2.toInt ≤ 3 := by have q := hu_r2; have z : (0 : Int32).toInt = 0 := rfl; omega
              show W K l _ n0 _ h527 10 39 192 #[.val (.int a), .val (.int b), .val (.int c), .val (.int d), .val (.int fl), .val (.int (1 : Int32)), .val (.int (1 : Int32)), .val (.ref b441), .val (.ref b445), .val (.ref b449), .val (.ref b453), .val (.int (0 : Int32)), .val (.int (1 : Int32)), .val (.int (0 : Int32)), .val (.int (1 : Int32)), .val (.int (1 : Int32)), .unset, .unset, .unset] [(.int (2 : Int32))]
              refine w_istore ok at_192 (L' := #[.val (.int a), .val (.int b), .val (.int c), .val (.int d), .val (.int fl), .val (.int (1 : Int32)), .val (.int (1 : Int32)), .val (.ref b441), .val (.ref b445), .val (.ref b449), .val (.ref b453), .val (.int (0 : Int32)), .val (.int (1 : Int32)), .val (.int (0 : Int32)), .val (.int (1 : Int32)), .val (.int (1 : Int32)), .val (.int (2 : Int32)), .unset, .unset]) rfl ?_
              refine w_aload ok at_194 rfl rfl ?_
              refine w_iconst ok at_196 (v := (0 : Int32)) rfl ?_
              refine w_callV ok (y := (⟨"com/example/hornconv/hornconv/FactTable", "isLive", "(I)Z"⟩ : MethodName)) (a := b453) (argsL := [(.int (0 : Int32))]) (rest := []) at_197 (hw _ (List.mem_of_getElem? (i := 60) rfl)) (hw _ (List.mem_of_getElem? (i := 61) rfl)) (hw _ (List.mem_of_getElem? (i := 63) rfl)) (hw _ (List.mem_of_getElem? (i := 62) rfl)) (hw _ (List.mem_of_getElem? (i := 3) rfl)) (hw _ (List.mem_of_getElem? (i := 64) rfl)) (by decide) A_b453.1 pd_28I29Z rfl rfl (by decide) (Nat.le_of_ble_eq_true rfl) (by decide) (by decide) (fun z0 => rm_live0 l Z a0 hw [] n0 h527 z0 b453 un me ag de sl po (3 : Int32) ((((((0 : Int32) + 1) + 1) - 1) - 1) + 1) u2 (1 : Int32) (1 : Int32) (0 : Int32) (0 : Int32) A_b453 A_de) (fun v528 h529 qv528 => ?_)
              obtain ⟨rfl, rfl⟩ := qv528
              rw [show own_live (1 : Int32) = 0 from rfl]
              show W K l _ n0 _ h527 10 39 200 #[.val (.int a), .val (.int b), .val (.int c), .val (.int d), .val (.int fl), .val (.int (1 : Int32)), .val (.int (1 : Int32)), .val (.ref b441), .val (.ref b445), .val (.ref b449), .val (.ref b453), .val (.int (0 : Int32)), .val (.int (1 : Int32)), .val (.int (0 : Int32)), .val (.int (1 : Int32)), .val (.int (1 : Int32)), .val (.int (2 : Int32)), .unset, .unset] [(.int (0 : Int32))]
              refine w_iload ok at_200 rfl ?_
              refine w_if_ne ok at_202 (pc' := 209) (by decide) (fun hc531 => ?_) (fun hc531 => False.elim (by revert hc531; decide))
              show W K l _ n0 _ h527 10 39 209 #[.val (.int a), .val (.int b), .val (.int c), .val (.int d), .val (.int fl), .val (.int (1 : Int32)), .val (.int (1 : Int32)), .val (.ref b441), .val (.ref b445), .val (.ref b449), .val (.ref b453), .val (.int (0 : Int32)), .val (.int (1 : Int32)), .val (.int (0 : Int32)), .val (.int (1 : Int32)), .val (.int (1 : Int32)), .val (.int (2 : Int32)), .unset, .unset] [(.int (0 : Int32))]
              refine w_iconst ok at_209 (v := (0 : Int32)) rfl ?_
              refine w_icmp_ne ok at_210 (pc' := 217) (by decide) (fun hc533 => False.elim (by revert hc533; decide)) (fun hc533 => ?_)
              show W K l _ n0 _ h527 10 39 213 #[.val (.int a), .val (.int b), .val (.int c), .val (.int d), .val (.int fl), .val (.int (1 : Int32)), .val (.int (1 : Int32)), .val (.ref b441), .val (.ref b445), .val (.ref b449), .val (.ref b453), .val (.int (0 : Int32)), .val (.int (1 : Int32)), .val (.int (0 : Int32)), .val (.int (1 : Int32)), .val (.int (1 : Int32)), .val (.int (2 : Int32)), .unset, .unset] []
              refine w_iconst ok at_213 (v := (1 : Int32)) rfl ?_
              refine w_goto ok at_214 (pc' := 218) (by decide) ?_
              refine w_istore ok at_218 (L' := #[.val (.int a), .val (.int b), .val (.int c), .val (.int d), .val (.int fl), .val (.int (1 : Int32)), .val (.int (1 : Int32)), .val (.ref b441), .val (.ref b445), .val (.ref b449), .val (.ref b453), .val (.int (0 : Int32)), .val (.int (1 : Int32)), .val (.int (0 : Int32)), .val (.int (1 : Int32)), .val (.int (1 : Int32)), .val (.int (2 : Int32)), .val (.int (1 : Int32)), .unset]) rfl ?_
              refine w_iload ok at_220 rfl ?_
              refine w_if_lt ok at_222 (pc' := 257) (by decide) (fun hc535 => False.elim (by revert hc535; decide)) (fun hc535 => ?_)
              show W K l _ n0 _ h527 10 39 225 #[.val (.int a), .val (.int b), .val (.int c), .val (.int d), .val (.int fl), .val (.int (1 : Int32)), .val (.int (1 : Int32)), .val (.ref b441), .val (.ref b445), .val (.ref b449), .val (.ref b453), .val (.int (0 : Int32)), .val (.int (1 : Int32)), .val (.int (0 : Int32)), .val (.int (1 : Int32)), .val (.int (1 : Int32)), .val (.int (2 : Int32)), .val (.int (1 : Int32)), .unset] []
              refine w_iload ok at_225 rfl ?_
              refine w_if_eq ok at_227 (pc' := 254) (by decide) (fun hc537 => False.elim (by revert hc537; decide)) (fun hc537 => ?_)
              show W K l _ n0 _ h527 10 39 230 #[.val (.int a), .val (.int b), .val (.int c), .val (.int d), .val (.int fl), .val (.int (1 : Int32)), .val (.int (1 : Int32)), .val (.ref b441), .val (.ref b445), .val (.ref b449), .val (.ref b453), .val (.int (0 : Int32)), .val (.int (1 : Int32)), .val (.int (0 : Int32)), .val (.int (1 : Int32)), .val (.int (1 : Int32)), .val (.int (2 : Int32)), .val (.int (1 : Int32)), .unset] []
              refine w_aload ok at_230 rfl rfl ?_
              refine w_iload ok at_232 rfl ?_
              refine w_callV ok (y := (⟨"com/example/hornconv/hornconv/FactTable", "isLive", "(I)Z"⟩ : MethodName)) (a := b453) (argsL := [(.int (1 : Int32))]) (rest := []) at_234 (hw _ (List.mem_of_getElem? (i := 60) rfl)) (hw _ (List.mem_of_getElem? (i := 61) rfl)) (hw _ (List.mem_of_getElem? (i := 63) rfl)) (hw _ (List.mem_of_getElem? (i := 62) rfl)) (hw _ (List.mem_of_getElem? (i := 3) rfl)) (hw _ (List.mem_of_getElem? (i := 64) rfl)) (by decide) A_b453.1 pd_28I29Z rfl rfl (by decide) (Nat.le_of_ble_eq_true rfl) (by decide) (by decide) (fun z0 => rm_live1 l Z a0 hw [] n0 h527 z0 b453 un me ag de sl po (3 : Int32) ((((((0 : Int32) + 1) + 1) - 1) - 1) + 1) u2 (1 : Int32) (1 : Int32) (0 : Int32) (0 : Int32) A_b453 A_de) (fun v538 h539 qv538 => ?_)
              obtain ⟨rfl, rfl⟩ := qv538
              rw [show own_live (1 : Int32) = 0 from rfl]
              show W K l _ n0 _ h527 10 39 237 #[.val (.int a), .val (.int b), .val (.int c), .val (.int d), .val (.int fl), .val (.int (1 : Int32)), .val (.int (1 : Int32)), .val (.ref b441), .val (.ref b445), .val (.ref b449), .val (.ref b453), .val (.int (0 : Int32)), .val (.int (1 : Int32)), .val (.int (0 : Int32)), .val (.int (1 : Int32)), .val (.int (1 : Int32)), .val (.int (2 : Int32)), .val (.int (1 : Int32)), .unset] [(.int (0 : Int32))]
              refine w_iload ok at_237 rfl ?_
              refine w_if_ne ok at_239 (pc' := 246) (by decide) (fun hc541 => ?_) (fun hc541 => False.elim (by revert hc541; decide))
              show W K l _ n0 _ h527 10 39 246 #[.val (.int a), .val (.int b), .val (.int c), .val (.int d), .val (.int fl), .val (.int (1 : Int32)), .val (.int (1 : Int32)), .val (.ref b441), .val (.ref b445), .val (.ref b449), .val (.ref b453), .val (.int (0 : Int32)), .val (.int (1 : Int32)), .val (.int (0 : Int32)), .val (.int (1 : Int32)), .val (.int (1 : Int32)), .val (.int (2 : Int32)), .val (.int (1 : Int32)), .unset] [(.int (0 : Int32))]
              refine w_iconst ok at_246 (v := (0 : Int32)) rfl ?_
              refine w_icmp_ne ok at_247 (pc' := 254) (by decide) (fun hc543 => False.elim (by revert hc543; decide)) (fun hc543 => ?_)
              show W K l _ n0 _ h527 10 39 250 #[.val (.int a), .val (.int b), .val (.int c), .val (.int d), .val (.int fl), .val (.int (1 : Int32)), .val (.int (1 : Int32)), .val (.ref b441), .val (.ref b445), .val (.ref b449), .val (.ref b453), .val (.int (0 : Int32)), .val (.int (1 : Int32)), .val (.int (0 : Int32)), .val (.int (1 : Int32)), .val (.int (1 : Int32)), .val (.int (2 : Int32)), .val (.int (1 : Int32)), .unset] []
              refine w_iconst ok at_250 (v := (1 : Int32)) rfl ?_
              refine w_goto ok at_251 (pc' := 255) (by decide) ?_
              refine w_istore ok at_255 (L' := #[.val (.int a), .val (.int b), .val (.int c), .val (.int d), .val (.int fl), .val (.int (1 : Int32)), .val (.int (1 : Int32)), .val (.ref b441), .val (.ref b445), .val (.ref b449), .val (.ref b453), .val (.int (0 : Int32)), .val (.int (1 : Int32)), .val (.int (0 : Int32)), .val (.int (1 : Int32)), .val (.int (1 : Int32)), .val (.int (2 : Int32)), .val (.int (1 : Int32)), .unset]) rfl ?_
              refine w_iload ok at_257 rfl ?_
              refine w_if_eq ok at_259 (pc' := 306) (by decide) (fun hc545 => False.elim (by revert hc545; decide)) (fun hc545 => ?_)
              show W K l _ n0 _ h527 10 39 262 #[.val (.int a), .val (.int b), .val (.int c), .val (.int d), .val (.int fl), .val (.int (1 : Int32)), .val (.int (1 : Int32)), .val (.ref b441), .val (.ref b445), .val (.ref b449), .val (.ref b453), .val (.int (0 : Int32)), .val (.int (1 : Int32)), .val (.int (0 : Int32)), .val (.int (1 : Int32)), .val (.int (1 : Int32)), .val (.int (2 : Int32)), .val (.int (1 : Int32)), .unset] []
              refine w_iload ok at_262 rfl ?_
              refine w_if_lt ok at_264 (pc' := 271) (by decide) (fun hc547 => False.elim (by revert hc547; decide)) (fun hc547 => ?_)
              show W K l _ n0 _ h527 10 39 267 #[.val (.int a), .val (.int b), .val (.int c), .val (.int d), .val (.int fl), .val (.int (1 : Int32)), .val (.int (1 : Int32)), .val (.ref b441), .val (.ref b445), .val (.ref b449), .val (.ref b453), .val (.int (0 : Int32)), .val (.int (1 : Int32)), .val (.int (0 : Int32)), .val (.int (1 : Int32)), .val (.int (1 : Int32)), .val (.int (2 : Int32)), .val (.int (1 : Int32)), .unset] []
              refine w_iconst ok at_267 (v := (2 : Int32)) rfl ?_
              refine w_goto ok at_268 (pc' := 272) (by decide) ?_
              refine w_istore ok at_272 (L' := #[.val (.int a), .val (.int b), .val (.int c), .val (.int d), .val (.int fl), .val (.int (1 : Int32)), .val (.int (1 : Int32)), .val (.ref b441), .val (.ref b445), .val (.ref b449), .val (.ref b453), .val (.int (0 : Int32)), .val (.int (1 : Int32)), .val (.int (0 : Int32)), .val (.int (1 : Int32)), .val (.int (1 : Int32)), .val (.int (2 : Int32)), .val (.int (1 : Int32)), .val (.int (2 : Int32))]) rfl ?_
              refine w_iload ok at_274 rfl ?_
              refine w_if_eq ok at_276 (pc' := 300) (by decide) (fun hc549 => False.elim (by revert hc549; decide)) (fun hc549 => ?_)
              show W K l _ n0 _ h527 10 39 279 #[.val (.int a), .val (.int b), .val (.int c), .val (.int d), .val (.int fl), .val (.int (1 : Int32)), .val (.int (1 : Int32)), .val (.ref b441), .val (.ref b445), .val (.ref b449), .val (.ref b453), .val (.int (0 : Int32)), .val (.int (1 : Int32)), .val (.int (0 : Int32)), .val (.int (1 : Int32)), .val (.int (1 : Int32)), .val (.int (2 : Int32)), .val (.int (1 : Int32)), .val (.int (2 : Int32))] []
              refine w_iload ok at_279 rfl ?_
              refine w_iload ok at_281 rfl ?_
              refine w_icmp_ne ok at_283 (pc' := 300) (by decide) (fun hc551 => False.elim (by revert hc551; decide)) (fun hc551 => ?_)
              show W K l _ n0 _ h527 10 39 286 #[.val (.int a), .val (.int b), .val (.int c), .val (.int d), .val (.int fl), .val (.int (1 : Int32)), .val (.int (1 : Int32)), .val (.ref b441), .val (.ref b445), .val (.ref b449), .val (.ref b453), .val (.int (0 : Int32)), .val (.int (1 : Int32)), .val (.int (0 : Int32)), .val (.int (1 : Int32)), .val (.int (1 : Int32)), .val (.int (2 : Int32)), .val (.int (1 : Int32)), .val (.int (2 : Int32))] []
              refine w_aload ok at_286 rfl rfl ?_
              refine w_iload ok at_288 rfl ?_
              refine w_callV ok (y := (⟨"com/example/hornconv/hornconv/FactTable", "isLive", "(I)Z"⟩ : MethodName)) (a := b453) (argsL := [(.int (2 : Int32))]) (rest := []) at_290 (hw _ (List.mem_of_getElem? (i := 60) rfl)) (hw _ (List.mem_of_getElem? (i := 61) rfl)) (hw _ (List.mem_of_getElem? (i := 63) rfl)) (hw _ (List.mem_of_getElem? (i := 62) rfl)) (hw _ (List.mem_of_getElem? (i := 3) rfl)) (hw _ (List.mem_of_getElem? (i := 64) rfl)) (by decide) A_b453.1 pd_28I29Z rfl rfl (by decide) (Nat.le_of_ble_eq_true rfl) (by decide) (by decide) (fun z0 => rm_live2 l Z a0 hw [] n0 h527 z0 b453 un me ag de sl po (3 : Int32) ((((((0 : Int32) + 1) + 1) - 1) - 1) + 1) u2 (1 : Int32) (1 : Int32) (0 : Int32) (0 : Int32) A_b453 A_de) (fun v552 h553 qv552 => ?_)
              obtain ⟨rfl, rfl⟩ := qv552
              rw [show own_live (0 : Int32) = 1 from rfl]
              show W K l _ n0 _ h527 10 39 293 #[.val (.int a), .val (.int b), .val (.int c), .val (.int d), .val (.int fl), .val (.int (1 : Int32)), .val (.int (1 : Int32)), .val (.ref b441), .val (.ref b445), .val (.ref b449), .val (.ref b453), .val (.int (0 : Int32)), .val (.int (1 : Int32)), .val (.int (0 : Int32)), .val (.int (1 : Int32)), .val (.int (1 : Int32)), .val (.int (2 : Int32)), .val (.int (1 : Int32)), .val (.int (2 : Int32))] [(.int (1 : Int32))]
              refine w_if_eq ok at_293 (pc' := 300) (by decide) (fun hc555 => False.elim (by revert hc555; decide)) (fun hc555 => ?_)
              show W K l _ n0 _ h527 10 39 296 #[.val (.int a), .val (.int b), .val (.int c), .val (.int d), .val (.int fl), .val (.int (1 : Int32)), .val (.int (1 : Int32)), .val (.ref b441), .val (.ref b445), .val (.ref b449), .val (.ref b453), .val (.int (0 : Int32)), .val (.int (1 : Int32)), .val (.int (0 : Int32)), .val (.int (1 : Int32)), .val (.int (1 : Int32)), .val (.int (2 : Int32)), .val (.int (1 : Int32)), .val (.int (2 : Int32))] []
              refine w_iconst ok at_296 (v := (1 : Int32)) rfl ?_
              refine w_goto ok at_297 (pc' := 301) (by decide) ?_
              refine w_istore ok at_301 (L' := #[.val (.int a), .val (.int b), .val (.int c), .val (.int d), .val (.int fl), .val (.int (1 : Int32)), .val (.int (1 : Int32)), .val (.ref b441), .val (.ref b445), .val (.ref b449), .val (.ref b453), .val (.int (0 : Int32)), .val (.int (1 : Int32)), .val (.int (0 : Int32)), .val (.int (1 : Int32)), .val (.int (1 : Int32)), .val (.int (2 : Int32)), .val (.int (1 : Int32)), .val (.int (2 : Int32))]) rfl ?_
              refine w_goto ok at_303 (pc' := 324) (by decide) ?_
              refine w_iload ok at_324 rfl ?_
              refine w_bret ok (by simp) at_326 (by decide) (by decide) ?_
              exact rfl
          · show W K l _ n0 _ h461 10 39 100 #[.val (.int a), .val (.int b), .val (.int c), .val (.int d), .val (.int fl), .val (.int (1 : Int32)), .val (.int (1 : Int32)), .val (.ref b441), .val (.ref b445), .val (.ref b449), .val (.ref b453), .val (.int (0 : Int32)), .val (.int (1 : Int32)), .unset, .unset, .unset, .unset, .unset, .unset] []
            refine w_iloadN ok at_100 rfl ?_
            refine w_iloadN ok at_101 rfl ?_
            refine w_icmp_ne ok at_102 (pc' := 109) (by decide) (fun hc557 => ?_) (fun hc557 => False.elim (by exact nsame ⟨hc505, hc557⟩))
            show W K l _ n0 _ h461 10 39 109 #[.val (.int a), .val (.int b), .val (.int c), .val (.int d), .val (.int fl), .val (.int (1 : Int32)), .val (.int (1 : Int32)), .val (.ref b441), .val (.ref b445), .val (.ref b449), .val (.ref b453), .val (.int (0 : Int32)), .val (.int (1 : Int32)), .unset, .unset, .unset, .unset, .unset, .unset] []
            refine w_iconst ok at_109 (v := (0 : Int32)) rfl ?_
            refine w_istore ok at_110 (L' := #[.val (.int a), .val (.int b), .val (.int c), .val (.int d), .val (.int fl), .val (.int (1 : Int32)), .val (.int (1 : Int32)), .val (.ref b441), .val (.ref b445), .val (.ref b449), .val (.ref b453), .val (.int (0 : Int32)), .val (.int (1 : Int32)), .val (.int (0 : Int32)), .unset, .unset, .unset, .unset, .unset]) rfl ?_
            refine w_iload ok at_112 rfl ?_
            refine w_if_eq ok at_114 (pc' := 119) (by decide) (fun hc559 => ?_) (fun hc559 => False.elim (by revert hc559; decide))
            show W K l _ n0 _ h461 10 39 119 #[.val (.int a), .val (.int b), .val (.int c), .val (.int d), .val (.int fl), .val (.int (1 : Int32)), .val (.int (1 : Int32)), .val (.ref b441), .val (.ref b445), .val (.ref b449), .val (.ref b453), .val (.int (0 : Int32)), .val (.int (1 : Int32)), .val (.int (0 : Int32)), .unset, .unset, .unset, .unset, .unset] []
            refine w_iload ok at_119 rfl ?_
            refine w_if_eq ok at_121 (pc' := 133) (by decide) (fun hc561 => ?_) (fun hc561 => False.elim (by revert hc561; decide))
            show W K l _ n0 _ h461 10 39 133 #[.val (.int a), .val (.int b), .val (.int c), .val (.int d), .val (.int fl), .val (.int (1 : Int32)), .val (.int (1 : Int32)), .val (.ref b441), .val (.ref b445), .val (.ref b449), .val (.ref b453), .val (.int (0 : Int32)), .val (.int (1 : Int32)), .val (.int (0 : Int32)), .unset, .unset, .unset, .unset, .unset] []
            refine w_iload ok at_133 rfl ?_
            refine w_iconst ok at_135 (v := (1 : Int32)) rfl ?_
            refine w_icmp_eq ok at_136 (pc' := 141) (by decide) (fun hc563 => ?_) (fun hc563 => False.elim (by revert hc563; decide))
            show W K l _ n0 _ h461 10 39 141 #[.val (.int a), .val (.int b), .val (.int c), .val (.int d), .val (.int fl), .val (.int (1 : Int32)), .val (.int (1 : Int32)), .val (.ref b441), .val (.ref b445), .val (.ref b449), .val (.ref b453), .val (.int (0 : Int32)), .val (.int (1 : Int32)), .val (.int (0 : Int32)), .unset, .unset, .unset, .unset, .unset] []
            refine w_iload ok at_141 rfl ?_
            refine w_istore ok at_143 (L' := #[.val (.int a), .val (.int b), .val (.int c), .val (.int d), .val (.int fl), .val (.int (1 : Int32)), .val (.int (1 : Int32)), .val (.ref b441), .val (.ref b445), .val (.ref b449), .val (.ref b453), .val (.int (0 : Int32)), .val (.int (1 : Int32)), .val (.int (0 : Int32)), .val (.int (1 : Int32)), .unset, .unset, .unset, .unset]) rfl ?_
            refine w_iload ok at_145 rfl ?_
            refine w_if_lt ok at_147 (pc' := 159) (by decide) (fun hc565 => False.elim (by revert hc565; decide)) (fun hc565 => ?_)
            show W K l _ n0 _ h461 10 39 150 #[.val (.int a), .val (.int b), .val (.int c), .val (.int d), .val (.int fl), .val (.int (1 : Int32)), .val (.int (1 : Int32)), .val (.ref b441), .val (.ref b445), .val (.ref b449), .val (.ref b453), .val (.int (0 : Int32)), .val (.int (1 : Int32)), .val (.int (0 : Int32)), .val (.int (1 : Int32)), .unset, .unset, .unset, .unset] []
            refine w_iload ok at_150 rfl ?_
            refine w_if_eq ok at_152 (pc' := 159) (by decide) (fun hc567 => False.elim (by revert hc567; decide)) (fun hc567 => ?_)
            show W K l _ n0 _ h461 10 39 155 #[.val (.int a), .val (.int b), .val (.int c), .val (.int d), .val (.int fl), .val (.int (1 : Int32)), .val (.int (1 : Int32)), .val (.ref b441), .val (.ref b445), .val (.ref b449), .val (.ref b453), .val (.int (0 : Int32)), .val (.int (1 : Int32)), .val (.int (0 : Int32)), .val (.int (1 : Int32)), .unset, .unset, .unset, .unset] []
            refine w_iconst ok at_155 (v := (1 : Int32)) rfl ?_
            refine w_goto ok at_156 (pc' := 160) (by decide) ?_
            refine w_istore ok at_160 (L' := #[.val (.int a), .val (.int b), .val (.int c), .val (.int d), .val (.int fl), .val (.int (1 : Int32)), .val (.int (1 : Int32)), .val (.ref b441), .val (.ref b445), .val (.ref b449), .val (.ref b453), .val (.int (0 : Int32)), .val (.int (1 : Int32)), .val (.int (0 : Int32)), .val (.int (1 : Int32)), .val (.int (1 : Int32)), .unset, .unset, .unset]) rfl ?_
            refine w_iload ok at_162 rfl ?_
            refine w_if_eq ok at_164 (pc' := 173) (by decide) (fun hc569 => False.elim (by revert hc569; decide)) (fun hc569 => ?_)
            show W K l _ n0 _ h461 10 39 167 #[.val (.int a), .val (.int b), .val (.int c), .val (.int d), .val (.int fl), .val (.int (1 : Int32)), .val (.int (1 : Int32)), .val (.ref b441), .val (.ref b445), .val (.ref b449), .val (.ref b453), .val (.int (0 : Int32)), .val (.int (1 : Int32)), .val (.int (0 : Int32)), .val (.int (1 : Int32)), .val (.int (1 : Int32)), .unset, .unset, .unset] []
            refine w_aload ok at_167 rfl rfl ?_
            refine w_iconst ok at_169 (v := (0 : Int32)) rfl ?_
            refine w_callV ok (y := (⟨"com/example/hornconv/hornconv/FactTable", "remove", "(I)V"⟩ : MethodName)) (a := b453) (argsL := [(.int (0 : Int32))]) (rest := []) at_170 (hw _ (List.mem_of_getElem? (i := 65) rfl)) (hw _ (List.mem_of_getElem? (i := 66) rfl)) (hw _ (List.mem_of_getElem? (i := 68) rfl)) (hw _ (List.mem_of_getElem? (i := 67) rfl)) (hw _ (List.mem_of_getElem? (i := 3) rfl)) (hw _ (List.mem_of_getElem? (i := 69) rfl)) (by decide) A_b453.1 pd_28I29V rfl rfl (by decide) (Nat.le_of_ble_eq_true rfl) (by decide) (by decide) (fun z0 => rm_rm0 l Z a0 hw [] n0 h461 z0 b453 un me ag de sl po (2 : Int32) (((0 : Int32) + 1) + 1) u1 a b c d (0 : Int32) (0 : Int32) (0 : Int32) (0 : Int32) (0 : Int32) (0 : Int32) (0 : Int32) (0 : Int32) (upd (upd f00 r0 0) r1 1) A_b453 A_ag A_de A_sl A_po ge_b453 g2 g3 nn0 nn1 nn2 nn3 nn4 nn5 nn6 nn7 nn9 nn8 ⟨0, by rw [← hr0]; simp [upd, Ne.symm ne10]⟩) (fun v570 h571 qv570 => ?_)
            obtain ⟨rfl, rr, h8_rr, hfr, K1, A1, A2, A3⟩ := qv570
            replace A_b441 := A_b441.keep K1 (ninS ne_b441_b453 (ninS ne_b441_de (ninS ne_b441_sl nin0)))
            replace A_b445 := A_b445.keep K1 (ninS ne_b445_b453 (ninS ne_b445_de (ninS ne_b445_sl nin0)))
            replace A_b449 := A_b449.keep K1 (ninS ne_b449_b453 (ninS ne_b449_de (ninS ne_b449_sl nin0)))
            replace A_ag := A_ag.keep K1 (ninS (Ne.symm nn0) (ninS nn4 (ninS nn5 nin0)))
            replace A_po := A_po.keep K1 (ninS (Ne.symm nn3) (ninS (Ne.symm nn8) (ninS (Ne.symm nn9) nin0)))
            replace A_b453 := A1
            replace A_de := A2
            replace A_sl := A3
            have e : rr = r0 := by
              simp only [upd, f00] at hfr; repeat' split at hfr
              all_goals first | assumption | exact absurd hfr (by decide)
            rw [e] at A_sl
            have hRn572 : Rw (upd (upd (upd f00 r0 0) r1 1) r0 (-2)) := own_rwu hRn503 (by decide)
            have hNn572 := own_free (f := (upd (upd (upd f00 r0 0) r1 1) r0 (-2))) r0 r1 (fun j _ h0 h1 => by simp [upd, h0, h1])
            show W K l _ n0 _ h571 10 39 173 #[.val (.int a), .val (.int b), .val (.int c), .val (.int d), .val (.int fl), .val (.int (1 : Int32)), .val (.int (1 : Int32)), .val (.ref b441), .val (.ref b445), .val (.ref b449), .val (.ref b453), .val (.int (0 : Int32)), .val (.int (1 : Int32)), .val (.int (0 : Int32)), .val (.int (1 : Int32)), .val (.int (1 : Int32)), .unset, .unset, .unset] []
            refine w_iload ok at_173 rfl ?_
            refine w_if_eq ok at_175 (pc' := 185) (by decide) (fun hc574 => False.elim (by revert hc574; decide)) (fun hc574 => ?_)
            show W K l _ n0 _ h571 10 39 178 #[.val (.int a), .val (.int b), .val (.int c), .val (.int d), .val (.int fl), .val (.int (1 : Int32)), .val (.int (1 : Int32)), .val (.ref b441), .val (.ref b445), .val (.ref b449), .val (.ref b453), .val (.int (0 : Int32)), .val (.int (1 : Int32)), .val (.int (0 : Int32)), .val (.int (1 : Int32)), .val (.int (1 : Int32)), .unset, .unset, .unset] []
            refine w_aload ok at_178 rfl rfl ?_
            refine w_iload ok at_180 rfl ?_
            refine w_callV ok (y := (⟨"com/example/hornconv/hornconv/FactTable", "remove", "(I)V"⟩ : MethodName)) (a := b453) (argsL := [(.int (1 : Int32))]) (rest := []) at_182 (hw _ (List.mem_of_getElem? (i := 65) rfl)) (hw _ (List.mem_of_getElem? (i := 66) rfl)) (hw _ (List.mem_of_getElem? (i := 68) rfl)) (hw _ (List.mem_of_getElem? (i := 67) rfl)) (hw _ (List.mem_of_getElem? (i := 3) rfl)) (hw _ (List.mem_of_getElem? (i := 69) rfl)) (by decide) A_b453.1 pd_28I29V rfl rfl (by decide) (Nat.le_of_ble_eq_true rfl) (by decide) (by decide) (fun z0 => rm_rm1 l Z a0 hw [] n0 h571 z0 b453 un me ag de sl po (2 : Int32) ((((0 : Int32) + 1) + 1) - 1) u1 a b c d (0 : Int32) (0 : Int32) (0 : Int32) (0 : Int32) (1 : Int32) (0 : Int32) (0 : Int32) (0 : Int32) (upd (upd (upd f00 r0 0) r1 1) r0 (-2)) A_b453 A_ag A_de A_sl A_po ge_b453 g2 g3 nn0 nn1 nn2 nn3 nn4 nn5 nn6 nn7 nn9 nn8 ⟨i1, by rw [← hr1]; simp [upd, ne10]⟩) (fun v575 h576 qv575 => ?_)
            obtain ⟨rfl, rr, h8_rr, hfr, K1, A1, A2, A3⟩ := qv575
            replace A_b441 := A_b441.keep K1 (ninS ne_b441_b453 (ninS ne_b441_de (ninS ne_b441_sl nin0)))
            replace A_b445 := A_b445.keep K1 (ninS ne_b445_b453 (ninS ne_b445_de (ninS ne_b445_sl nin0)))
            replace A_b449 := A_b449.keep K1 (ninS ne_b449_b453 (ninS ne_b449_de (ninS ne_b449_sl nin0)))
            replace A_ag := A_ag.keep K1 (ninS (Ne.symm nn0) (ninS nn4 (ninS nn5 nin0)))
            replace A_po := A_po.keep K1 (ninS (Ne.symm nn3) (ninS (Ne.symm nn8) (ninS (Ne.symm nn9) nin0)))
            replace A_b453 := A1
            replace A_de := A2
            replace A_sl := A3
            have e : rr = r1 := by
              simp only [upd, f00] at hfr; repeat' split at hfr
              all_goals first | assumption | exact absurd hfr (by decide)
            rw [e] at A_sl
            have hRn577 : Rw (upd (upd (upd (upd f00 r0 0) r1 1) r0 (-2)) r1 (-2)) := own_rwu hRn572 (by decide)
            have hNn577 := own_free (f := (upd (upd (upd (upd f00 r0 0) r1 1) r0 (-2)) r1 (-2))) r0 r1 (fun j _ h0 h1 => by simp [upd, h0, h1])
            show W K l _ n0 _ h576 10 39 185 #[.val (.int a), .val (.int b), .val (.int c), .val (.int d), .val (.int fl), .val (.int (1 : Int32)), .val (.int (1 : Int32)), .val (.ref b441), .val (.ref b445), .val (.ref b449), .val (.ref b453), .val (.int (0 : Int32)), .val (.int (1 : Int32)), .val (.int (0 : Int32)), .val (.int (1 : Int32)), .val (.int (1 : Int32)), .unset, .unset, .unset] []
            refine w_aload ok at_185 rfl rfl ?_
            refine w_aload ok at_187 rfl rfl ?_
            refine w_callV ok (y := (⟨"com/example/hornconv/hornconv/FactTable", "add", "([I)I"⟩ : MethodName)) (a := b453) (argsL := [(.ref b449)]) (rest := []) at_189 (hw _ (List.mem_of_getElem? (i := 32) rfl)) (hw _ (List.mem_of_getElem? (i := 33) rfl)) (hw _ (List.mem_of_getElem? (i := 35) rfl)) (hw _ (List.mem_of_getElem? (i := 34) rfl)) (hw _ (List.mem_of_getElem? (i := 3) rfl)) (hw _ (List.mem_of_getElem? (i := 36) rfl)) (by decide) A_b453.1 pd_285bI29I rfl rfl (by decide) (Nat.le_of_ble_eq_true rfl) (by decide) (by decide) (fun z0 => rm_add2 l Z a0 hw [] n0 h576 z0 b453 b449 un me ag de sl po (((((0 : Int32) + 1) + 1) - 1) - 1) u1 a b c d (0 : Int32) (0 : Int32) (0 : Int32) (0 : Int32) (1 : Int32) (1 : Int32) (0 : Int32) (0 : Int32) a b (upd (upd (upd (upd f00 r0 0) r1 1) r0 (-2)) r1 (-2)) A_b453 A_ag A_de A_sl A_po A_b449 ge_b453 g1 g3 nn0 nn1 nn2 nn3 (Ne.symm ne_b449_b453) nn4 nn5 nn6 (Ne.symm ne_b449_ag) nn7 nn9 (Ne.symm ne_b449_sl) hRn577 hNn577 (by omega)) (fun v578 h579 qv578 => ?_)
            rcases qv578 with qv578 | qv578
            · obtain ⟨-, -, r, -, h1, -⟩ := qv578; exact (own_noneg (by simp only [upd, f00]; repeat' (first | decide | split)) h1).elim
            · skip
              obtain ⟨rfl, r2, u2, h8_r2, hF_r2, hu_r2, K1, A1, A2, A3⟩ := qv578
              replace A_b441 := A_b441.keep K1 (ninS ne_b441_b453 (ninS ne_b441_ag (ninS ne_b441_sl nin0)))
              replace A_b445 := A_b445.keep K1 (ninS ne_b445_b453 (ninS ne_b445_ag (ninS ne_b445_sl nin0)))
              replace A_b449 := A_b449.keep K1 (ninS ne_b449_b453 (ninS ne_b449_ag (ninS ne_b449_sl nin0)))
              replace A_de := A_de.keep K1 (ninS (Ne.symm nn1) (ninS (Ne.symm nn4) (ninS nn7 nin0)))
              replace A_po := A_po.keep K1 (ninS (Ne.symm nn3) (ninS (Ne.symm nn6) (ninS (Ne.symm nn9) nin0)))
              replace A_b453 := A1
              replace A_ag := A2
              replace A_sl := A3
              have hus_u2 : 0 ≤ u2.toInt ∧ u2.toInt ≤ 3 := by have q := hu_r2; have z : (0 : Int32).toInt = 0 := rfl; omega
              show W K l _ n0 _ h579 10 39 192 #[.val (.int a), .val (.int b), .val (.int c), .val (.int d), .val (.int fl), .val (.int (1 : Int32)), .val (.int (1 : Int32)), .val (.ref b441), .val (.ref b445), .val (.ref b449), .val (.ref b453), .val (.int (0 : Int32)), .val (.int (1 : Int32)), .val (.int (0 : Int32)), .val (.int (1 : Int32)), .val (.int (1 : Int32)), .unset, .unset, .unset] [(.int (2 : Int32))]
              refine w_istore ok at_192 (L' := #[.val (.int a), .val (.int b), .val (.int c), .val (.int d), .val (.int fl), .val (.int (1 : Int32)), .val (.int (1 : Int32)), .val (.ref b441), .val (.ref b445), .val (.ref b449), .val (.ref b453), .val (.int (0 : Int32)), .val (.int (1 : Int32)), .val (.int (0 : Int32)), .val (.int (1 : Int32)), .val (.int (1 : Int32)), .val (.int (2 : Int32)), .unset, .unset]) rfl ?_
              refine w_aload ok at_194 rfl rfl ?_
              refine w_iconst ok at_196 (v := (0 : Int32)) rfl ?_
              refine w_callV ok (y := (⟨"com/example/hornconv/hornconv/FactTable", "isLive", "(I)Z"⟩ : MethodName)) (a := b453) (argsL := [(.int (0 : Int32))]) (rest := []) at_197 (hw _ (List.mem_of_getElem? (i := 60) rfl)) (hw _ (List.mem_of_getElem? (i := 61) rfl)) (hw _ (List.mem_of_getElem? (i := 63) rfl)) (hw _ (List.mem_of_getElem? (i := 62) rfl)) (hw _ (List.mem_of_getElem? (i := 3) rfl)) (hw _ (List.mem_of_getElem? (i := 64) rfl)) (by decide) A_b453.1 pd_28I29Z rfl rfl (by decide) (Nat.le_of_ble_eq_true rfl) (by decide) (by decide) (fun z0 => rm_live0 l Z a0 hw [] n0 h579 z0 b453 un me ag de sl po (3 : Int32) ((((((0 : Int32) + 1) + 1) - 1) - 1) + 1) u2 (1 : Int32) (1 : Int32) (0 : Int32) (0 : Int32) A_b453 A_de) (fun v580 h581 qv580 => ?_)
              obtain ⟨rfl, rfl⟩ := qv580
              rw [show own_live (1 : Int32) = 0 from rfl]
              show W K l _ n0 _ h579 10 39 200 #[.val (.int a), .val (.int b), .val (.int c), .val (.int d), .val (.int fl), .val (.int (1 : Int32)), .val (.int (1 : Int32)), .val (.ref b441), .val (.ref b445), .val (.ref b449), .val (.ref b453), .val (.int (0 : Int32)), .val (.int (1 : Int32)), .val (.int (0 : Int32)), .val (.int (1 : Int32)), .val (.int (1 : Int32)), .val (.int (2 : Int32)), .unset, .unset] [(.int (0 : Int32))]
              refine w_iload ok at_200 rfl ?_
              refine w_if_ne ok at_202 (pc' := 209) (by decide) (fun hc583 => ?_) (fun hc583 => False.elim (by revert hc583; decide))
              show W K l _ n0 _ h579 10 39 209 #[.val (.int a), .val (.int b), .val (.int c), .val (.int d), .val (.int fl), .val (.int (1 : Int32)), .val (.int (1 : Int32)), .val (.ref b441), .val (.ref b445), .val (.ref b449), .val (.ref b453), .val (.int (0 : Int32)), .val (.int (1 : Int32)), .val (.int (0 : Int32)), .val (.int (1 : Int32)), .val (.int (1 : Int32)), .val (.int (2 : Int32)), .unset, .unset] [(.int (0 : Int32))]
              refine w_iconst ok at_209 (v := (0 : Int32)) rfl ?_
              refine w_icmp_ne ok at_210 (pc' := 217) (by decide) (fun hc585 => False.elim (by revert hc585; decide)) (fun hc585 => ?_)
              show W K l _ n0 _ h579 10 39 213 #[.val (.int a), .val (.int b), .val (.int c), .val (.int d), .val (.int fl), .val (.int (1 : Int32)), .val (.int (1 : Int32)), .val (.ref b441), .val (.ref b445), .val (.ref b449), .val (.ref b453), .val (.int (0 : Int32)), .val (.int (1 : Int32)), .val (.int (0 : Int32)), .val (.int (1 : Int32)), .val (.int (1 : Int32)), .val (.int (2 : Int32)), .unset, .unset] []
              refine w_iconst ok at_213 (v := (1 : Int32)) rfl ?_
              refine w_goto ok at_214 (pc' := 218) (by decide) ?_
              refine w_istore ok at_218 (L' := #[.val (.int a), .val (.int b), .val (.int c), .val (.int d), .val (.int fl), .val (.int (1 : Int32)), .val (.int (1 : Int32)), .val (.ref b441), .val (.ref b445), .val (.ref b449), .val (.ref b453), .val (.int (0 : Int32)), .val (.int (1 : Int32)), .val (.int (0 : Int32)), .val (.int (1 : Int32)), .val (.int (1 : Int32)), .val (.int (2 : Int32)), .val (.int (1 : Int32)), .unset]) rfl ?_
              refine w_iload ok at_220 rfl ?_
              refine w_if_lt ok at_222 (pc' := 257) (by decide) (fun hc587 => False.elim (by revert hc587; decide)) (fun hc587 => ?_)
              show W K l _ n0 _ h579 10 39 225 #[.val (.int a), .val (.int b), .val (.int c), .val (.int d), .val (.int fl), .val (.int (1 : Int32)), .val (.int (1 : Int32)), .val (.ref b441), .val (.ref b445), .val (.ref b449), .val (.ref b453), .val (.int (0 : Int32)), .val (.int (1 : Int32)), .val (.int (0 : Int32)), .val (.int (1 : Int32)), .val (.int (1 : Int32)), .val (.int (2 : Int32)), .val (.int (1 : Int32)), .unset] []
              refine w_iload ok at_225 rfl ?_
              refine w_if_eq ok at_227 (pc' := 254) (by decide) (fun hc589 => False.elim (by revert hc589; decide)) (fun hc589 => ?_)
              show W K l _ n0 _ h579 10 39 230 #[.val (.int a), .val (.int b), .val (.int c), .val (.int d), .val (.int fl), .val (.int (1 : Int32)), .val (.int (1 : Int32)), .val (.ref b441), .val (.ref b445), .val (.ref b449), .val (.ref b453), .val (.int (0 : Int32)), .val (.int (1 : Int32)), .val (.int (0 : Int32)), .val (.int (1 : Int32)), .val (.int (1 : Int32)), .val (.int (2 : Int32)), .val (.int (1 : Int32)), .unset] []
              refine w_aload ok at_230 rfl rfl ?_
              refine w_iload ok at_232 rfl ?_
              refine w_callV ok (y := (⟨"com/example/hornconv/hornconv/FactTable", "isLive", "(I)Z"⟩ : MethodName)) (a := b453) (argsL := [(.int (1 : Int32))]) (rest := []) at_234 (hw _ (List.mem_of_getElem? (i := 60) rfl)) (hw _ (List.mem_of_getElem? (i := 61) rfl)) (hw _ (List.mem_of_getElem? (i := 63) rfl)) (hw _ (List.mem_of_getElem? (i := 62) rfl)) (hw _ (List.mem_of_getElem? (i := 3) rfl)) (hw _ (List.mem_of_getElem? (i := 64) rfl)) (by decide) A_b453.1 pd_28I29Z rfl rfl (by decide) (Nat.le_of_ble_eq_true rfl) (by decide) (by decide) (fun z0 => rm_live1 l Z a0 hw [] n0 h579 z0 b453 un me ag de sl po (3 : Int32) ((((((0 : Int32) + 1) + 1) - 1) - 1) + 1) u2 (1 : Int32) (1 : Int32) (0 : Int32) (0 : Int32) A_b453 A_de) (fun v590 h591 qv590 => ?_)
              obtain ⟨rfl, rfl⟩ := qv590
              rw [show own_live (1 : Int32) = 0 from rfl]
              show W K l _ n0 _ h579 10 39 237 #[.val (.int a), .val (.int b), .val (.int c), .val (.int d), .val (.int fl), .val (.int (1 : Int32)), .val (.int (1 : Int32)), .val (.ref b441), .val (.ref b445), .val (.ref b449), .val (.ref b453), .val (.int (0 : Int32)), .val (.int (1 : Int32)), .val (.int (0 : Int32)), .val (.int (1 : Int32)), .val (.int (1 : Int32)), .val (.int (2 : Int32)), .val (.int (1 : Int32)), .unset] [(.int (0 : Int32))]
              refine w_iload ok at_237 rfl ?_
              refine w_if_ne ok at_239 (pc' := 246) (by decide) (fun hc593 => ?_) (fun hc593 => False.elim (by revert hc593; decide))
              show W K l _ n0 _ h579 10 39 246 #[.val (.int a), .val (.int b), .val (.int c), .val (.int d), .val (.int fl), .val (.int (1 : Int32)), .val (.int (1 : Int32)), .val (.ref b441), .val (.ref b445), .val (.ref b449), .val (.ref b453), .val (.int (0 : Int32)), .val (.int (1 : Int32)), .val (.int (0 : Int32)), .val (.int (1 : Int32)), .val (.int (1 : Int32)), .val (.int (2 : Int32)), .val (.int (1 : Int32)), .unset] [(.int (0 : Int32))]
              refine w_iconst ok at_246 (v := (0 : Int32)) rfl ?_
              refine w_icmp_ne ok at_247 (pc' := 254) (by decide) (fun hc595 => False.elim (by revert hc595; decide)) (fun hc595 => ?_)
              show W K l _ n0 _ h579 10 39 250 #[.val (.int a), .val (.int b), .val (.int c), .val (.int d), .val (.int fl), .val (.int (1 : Int32)), .val (.int (1 : Int32)), .val (.ref b441), .val (.ref b445), .val (.ref b449), .val (.ref b453), .val (.int (0 : Int32)), .val (.int (1 : Int32)), .val (.int (0 : Int32)), .val (.int (1 : Int32)), .val (.int (1 : Int32)), .val (.int (2 : Int32)), .val (.int (1 : Int32)), .unset] []
              refine w_iconst ok at_250 (v := (1 : Int32)) rfl ?_
              refine w_goto ok at_251 (pc' := 255) (by decide) ?_
              refine w_istore ok at_255 (L' := #[.val (.int a), .val (.int b), .val (.int c), .val (.int d), .val (.int fl), .val (.int (1 : Int32)), .val (.int (1 : Int32)), .val (.ref b441), .val (.ref b445), .val (.ref b449), .val (.ref b453), .val (.int (0 : Int32)), .val (.int (1 : Int32)), .val (.int (0 : Int32)), .val (.int (1 : Int32)), .val (.int (1 : Int32)), .val (.int (2 : Int32)), .val (.int (1 : Int32)), .unset]) rfl ?_
              refine w_iload ok at_257 rfl ?_
              refine w_if_eq ok at_259 (pc' := 306) (by decide) (fun hc597 => False.elim (by revert hc597; decide)) (fun hc597 => ?_)
              show W K l _ n0 _ h579 10 39 262 #[.val (.int a), .val (.int b), .val (.int c), .val (.int d), .val (.int fl), .val (.int (1 : Int32)), .val (.int (1 : Int32)), .val (.ref b441), .val (.ref b445), .val (.ref b449), .val (.ref b453), .val (.int (0 : Int32)), .val (.int (1 : Int32)), .val (.int (0 : Int32)), .val (.int (1 : Int32)), .val (.int (1 : Int32)), .val (.int (2 : Int32)), .val (.int (1 : Int32)), .unset] []
              refine w_iload ok at_262 rfl ?_
              refine w_if_lt ok at_264 (pc' := 271) (by decide) (fun hc599 => False.elim (by revert hc599; decide)) (fun hc599 => ?_)
              show W K l _ n0 _ h579 10 39 267 #[.val (.int a), .val (.int b), .val (.int c), .val (.int d), .val (.int fl), .val (.int (1 : Int32)), .val (.int (1 : Int32)), .val (.ref b441), .val (.ref b445), .val (.ref b449), .val (.ref b453), .val (.int (0 : Int32)), .val (.int (1 : Int32)), .val (.int (0 : Int32)), .val (.int (1 : Int32)), .val (.int (1 : Int32)), .val (.int (2 : Int32)), .val (.int (1 : Int32)), .unset] []
              refine w_iconst ok at_267 (v := (2 : Int32)) rfl ?_
              refine w_goto ok at_268 (pc' := 272) (by decide) ?_
              refine w_istore ok at_272 (L' := #[.val (.int a), .val (.int b), .val (.int c), .val (.int d), .val (.int fl), .val (.int (1 : Int32)), .val (.int (1 : Int32)), .val (.ref b441), .val (.ref b445), .val (.ref b449), .val (.ref b453), .val (.int (0 : Int32)), .val (.int (1 : Int32)), .val (.int (0 : Int32)), .val (.int (1 : Int32)), .val (.int (1 : Int32)), .val (.int (2 : Int32)), .val (.int (1 : Int32)), .val (.int (2 : Int32))]) rfl ?_
              refine w_iload ok at_274 rfl ?_
              refine w_if_eq ok at_276 (pc' := 300) (by decide) (fun hc601 => False.elim (by revert hc601; decide)) (fun hc601 => ?_)
              show W K l _ n0 _ h579 10 39 279 #[.val (.int a), .val (.int b), .val (.int c), .val (.int d), .val (.int fl), .val (.int (1 : Int32)), .val (.int (1 : Int32)), .val (.ref b441), .val (.ref b445), .val (.ref b449), .val (.ref b453), .val (.int (0 : Int32)), .val (.int (1 : Int32)), .val (.int (0 : Int32)), .val (.int (1 : Int32)), .val (.int (1 : Int32)), .val (.int (2 : Int32)), .val (.int (1 : Int32)), .val (.int (2 : Int32))] []
              refine w_iload ok at_279 rfl ?_
              refine w_iload ok at_281 rfl ?_
              refine w_icmp_ne ok at_283 (pc' := 300) (by decide) (fun hc603 => False.elim (by revert hc603; decide)) (fun hc603 => ?_)
              show W K l _ n0 _ h579 10 39 286 #[.val (.int a), .val (.int b), .val (.int c), .val (.int d), .val (.int fl), .val (.int (1 : Int32)), .val (.int (1 : Int32)), .val (.ref b441), .val (.ref b445), .val (.ref b449), .val (.ref b453), .val (.int (0 : Int32)), .val (.int (1 : Int32)), .val (.int (0 : Int32)), .val (.int (1 : Int32)), .val (.int (1 : Int32)), .val (.int (2 : Int32)), .val (.int (1 : Int32)), .val (.int (2 : Int32))] []
              refine w_aload ok at_286 rfl rfl ?_
              refine w_iload ok at_288 rfl ?_
              refine w_callV ok (y := (⟨"com/example/hornconv/hornconv/FactTable", "isLive", "(I)Z"⟩ : MethodName)) (a := b453) (argsL := [(.int (2 : Int32))]) (rest := []) at_290 (hw _ (List.mem_of_getElem? (i := 60) rfl)) (hw _ (List.mem_of_getElem? (i := 61) rfl)) (hw _ (List.mem_of_getElem? (i := 63) rfl)) (hw _ (List.mem_of_getElem? (i := 62) rfl)) (hw _ (List.mem_of_getElem? (i := 3) rfl)) (hw _ (List.mem_of_getElem? (i := 64) rfl)) (by decide) A_b453.1 pd_28I29Z rfl rfl (by decide) (Nat.le_of_ble_eq_true rfl) (by decide) (by decide) (fun z0 => rm_live2 l Z a0 hw [] n0 h579 z0 b453 un me ag de sl po (3 : Int32) ((((((0 : Int32) + 1) + 1) - 1) - 1) + 1) u2 (1 : Int32) (1 : Int32) (0 : Int32) (0 : Int32) A_b453 A_de) (fun v604 h605 qv604 => ?_)
              obtain ⟨rfl, rfl⟩ := qv604
              rw [show own_live (0 : Int32) = 1 from rfl]
              show W K l _ n0 _ h579 10 39 293 #[.val (.int a), .val (.int b), .val (.int c), .val (.int d), .val (.int fl), .val (.int (1 : Int32)), .val (.int (1 : Int32)), .val (.ref b441), .val (.ref b445), .val (.ref b449), .val (.ref b453), .val (.int (0 : Int32)), .val (.int (1 : Int32)), .val (.int (0 : Int32)), .val (.int (1 : Int32)), .val (.int (1 : Int32)), .val (.int (2 : Int32)), .val (.int (1 : Int32)), .val (.int (2 : Int32))] [(.int (1 : Int32))]
              refine w_if_eq ok at_293 (pc' := 300) (by decide) (fun hc607 => False.elim (by revert hc607; decide)) (fun hc607 => ?_)
              show W K l _ n0 _ h579 10 39 296 #[.val (.int a), .val (.int b), .val (.int c), .val (.int d), .val (.int fl), .val (.int (1 : Int32)), .val (.int (1 : Int32)), .val (.ref b441), .val (.ref b445), .val (.ref b449), .val (.ref b453), .val (.int (0 : Int32)), .val (.int (1 : Int32)), .val (.int (0 : Int32)), .val (.int (1 : Int32)), .val (.int (1 : Int32)), .val (.int (2 : Int32)), .val (.int (1 : Int32)), .val (.int (2 : Int32))] []
              refine w_iconst ok at_296 (v := (1 : Int32)) rfl ?_
              refine w_goto ok at_297 (pc' := 301) (by decide) ?_
              refine w_istore ok at_301 (L' := #[.val (.int a), .val (.int b), .val (.int c), .val (.int d), .val (.int fl), .val (.int (1 : Int32)), .val (.int (1 : Int32)), .val (.ref b441), .val (.ref b445), .val (.ref b449), .val (.ref b453), .val (.int (0 : Int32)), .val (.int (1 : Int32)), .val (.int (0 : Int32)), .val (.int (1 : Int32)), .val (.int (1 : Int32)), .val (.int (2 : Int32)), .val (.int (1 : Int32)), .val (.int (2 : Int32))]) rfl ?_
              refine w_goto ok at_303 (pc' := 324) (by decide) ?_
              refine w_iload ok at_324 rfl ?_
              refine w_bret ok (by simp) at_326 (by decide) (by decide) ?_
              exact rfl
set_option maxRecDepth 65536 in
set_option maxHeartbeats 40000000 in
theorem comes_1 {Post : Tables → Env → Array Value → State → Outcome → State → Prop} (hpost : ∀ tb e args s v u, (limb_1_1.after args s (.returned v) u = true ∧ limb_1_2.after args s (.returned v) u = true) → FrameEnd s (.returned v) u (Jvm.fieldLocs frame_1_writes args s ++ Jvm.arrayLocs frame_1_arrays args s ++ Jvm.staticLocs frame_1_statics s) 32 192 → Post tb e args s (.returned v) u) :
    ArmFor flags0 classFile x code maxLocals ret World_1 tables_1 room_1 Calls_1 rest_1 Pre_1 Post := by
  intro l hfl _ _ p e ha hc hk s m args below hf hA hF happ hP
  obtain ⟨hcalls, hrest, hpre⟩ := hP
  obtain ⟨-, -, -, hnamed, -, -, -, hat⟩ := (Spec.applies_iff hf).mp happ
  obtain ⟨hg, hn⟩ := and_e (Cond.before_iff.mp (show (Jvm.Cond.and given_1 narrow_1).before args s = true from hpre))
  obtain ⟨g0, r0⟩ := and_e hg
  obtain ⟨g1, r1⟩ := and_e r0
  obtain ⟨g2, r2⟩ := and_e r1
  obtain ⟨g3, r3⟩ := and_e r2
  obtain ⟨g4, r4⟩ := and_e r3
  obtain ⟨w0, w1, w2, w3, w4, rfl⟩ : ∃ w0 w1 w2 w3 w4 : Value, args = #[w0, w1, w2, w3, w4] := by
    have hs : args.size = 5 := by simpa [Cond.value, given_1] using g0
    obtain ⟨L⟩ := args
    match L, hs with
    | [w0, w1, w2, w3, w4], _ => exact ⟨w0, w1, w2, w3, w4, rfl⟩
  have hw := fun d (hd : d ∈ tables_1) => atoms_spec (ws := Jvm.Cond.code x code maxLocals ret :: tables_1) hat d (List.mem_cons_of_mem _ hd)
  have hfit : Fit s := fun {y c} hc i hi => by
    obtain ⟨ha, rfl⟩ := Array.getElem?_eq_some_iff.mp hc
    have q := List.all_eq_true.mp ((Array.all_eq_true_iff_forall_mem.mp hF) _ (Array.getElem_mem ha)) i (List.mem_range.mpr hi)
    simpa [Array.getElem?_eq_getElem hi] using q
  obtain ⟨i0, ei0⟩ := is_v g1
  obtain rfl : w0 = (.int i0) := Option.some.inj ei0
  obtain ⟨i1, ei1⟩ := is_v g2
  obtain rfl : w1 = (.int i1) := Option.some.inj ei1
  obtain ⟨i2, ei2⟩ := is_v g3
  obtain rfl : w2 = (.int i2) := Option.some.inj ei2
  obtain ⟨i3, ei3⟩ := is_v g4
  obtain rfl : w3 = (.int i3) := Option.some.inj ei3
  obtain ⟨i4, ei4⟩ := is_v r4
  obtain rfl : w4 = (.int i4) := Option.some.inj ei4
  obtain ⟨n, o, h1, h2, h3, _, L, rfl, ⟨rfl, N⟩, hq⟩ := rm0 l s _ hw tables_1 s.heap.size s.heap (Old.start s) i0 i1 i2 i3 i4  p e ha hc hk s m _ below hf ((Spec.applies_iff_loose hf).mp happ).1 ⟨rfl, State.Warmed39.refl s, rfl⟩ trivial
  exact ⟨n, _, h1, h2, h3, hpost _ _ _ _ _ _ ⟨Cond.after_iff.mpr rfl, Cond.after_iff.mpr (eq_i res_at (Term.int_eval (1)) rfl)⟩ (frame_fin hq N (by decide) (by decide))⟩
theorem main_1_1 : Claimed_1_1 := comes_1 fun _ _ _ _ _ _ h hF => ⟨h.1, hF⟩
theorem main_1_2 : Claimed_1_2 := comes_1 fun _ _ _ _ _ _ h hF => ⟨h.2, hF⟩
end Jvm.Pilot.@@N@@
namespace Jvm.Pilot.@@N@@
open Jvm Jvm.ClassFile Sem Op Lib Jvm.Free Jvm.Stand Jvm.Pilot.@@N@@.Jvm.D
/-! MADE BY PROGRAM (witnessworld.py) out of the Statement's table words and the real class files: 17 classes; the members and pool entries that the words name. The judged class is class 1, her method 1. -/
namespace start1
open Jvm.ClassFile
def u (s : String) : CpInfo := .utf8 (stringToUtf16 s)
/-- a pool by its gaps: so many unusable entries, then the entry; so many at the end -/
def gap : Nat → List CpInfo → List CpInfo
  | 0, r => r
  | n + 1, r => .unusable :: gap n r
def poolList (es : List (Nat × CpInfo)) (last : Nat) : List CpInfo := es.foldr (fun e r => gap e.1 (e.2 :: r)) (gap last [])
def pool (es : List (Nat × CpInfo)) (last : Nat) : Array CpInfo := ⟨poolList es last⟩
def fileOf (pool : Array CpInfo) (this : Nat) (attrs : Array Attribute := #[]) (ms : Array MethodInfo := #[]) (fl : Nat := 33) (sup : Nat := 0) (ifs : Array Nat := #[]) (fds : Array FieldInfo := #[]) : ClassFile where
  minorVersion := 0
  majorVersion := 65
  constantPool := pool
  accessFlags := fl
  thisClass := this
  superClass := sup
  interfaces := ifs
  fields := fds
  methods := ms
  attributes := attrs
def plain (name : String) (sup : Option ClassId) : Class where
  name := name
  kind := .ordinary
  loader := none
  accessFlags := 33
  super := sup
  interfaces := #[]
  cf := none
  fields := #[]
  methods := #[]
  instanceTypes := #[]
  staticTypes := #[]
  resolved := #[]
  callSites := []
  init := .initialized
  statics := none
  mirror := none

def pool0 : Array CpInfo := pool [(5, u "<init>"), (0, u "()V"), (1, .class_ 10), (1, u "java/lang/Object")] 113

def k0c0 : Code := { maxStack := 0, maxLocals := 1, code := object_method_1_code, exceptionTable := #[], attributes := #[] }
def k0m0 : Method := { name := "<init>", desc := "()V", sig := { parameters := [], returnType := none }, accessFlags := 1, code := some k0c0 }
/-- java/lang/Object -/
def k0 : Class := { plain "java/lang/Object" none with
  accessFlags := 33
  interfaces := #[]
  cf := some (fileOf pool0 8 #[] #[{ accessFlags := 1, nameIndex := 5, descriptorIndex := 6, attributes := #[] }] 33 0 #[] #[])
  fields := #[]
  methods := #[k0m0]
  instanceTypes := #[]
  staticTypes := #[]
  resolved := Array.replicate 124 none
  statics := none }

def pool1 : Array CpInfo := pool [(2, .class_ 4), (1, u "java/lang/Object"), (0, u "<init>"), (0, u "()V"), (0, .class_ 8), (0, u "com/example/hornconv/hornconv/FactTable"), (0, .methodref 7 10), (0, .nameAndType 5 11), (0, u "(I)V"), (0, .methodref 7 13), (0, .nameAndType 14 15), (0, u "add"), (0, u "([I)I"), (0, .methodref 7 17), (0, .nameAndType 18 11), (0, u "remove"), (0, .methodref 7 20), (0, .nameAndType 21 22), (0, u "isLive"), (0, u "(I)Z"), (0, .class_ 24), (0, u "com/example/hornconv/hornconv/FactTableIsLivePinLaw"), (2, u "law"), (0, u "(IIIII)Z")] 5

def k1m0 : Method := { name := "<init>", desc := "()V", sig := { parameters := [], returnType := none }, accessFlags := 1, code := none }
def k1c1 : Code := { maxStack := 4, maxLocals := 19, code := code, exceptionTable := #[], attributes := #[] }
def k1m1 : Method := { name := "law", desc := "(IIIII)Z", sig := { parameters := [.int, .int, .int, .int, .int], returnType := some .boolean }, accessFlags := 9, code := some k1c1 }
/-- com/example/hornconv/hornconv/FactTableIsLivePinLaw -/
def k1 : Class := { plain "com/example/hornconv/hornconv/FactTableIsLivePinLaw" (some 0) with
  accessFlags := 49
  interfaces := #[]
  cf := some (fileOf pool1 23 #[] #[{ accessFlags := 1, nameIndex := 5, descriptorIndex := 6, attributes := #[] }, { accessFlags := 9, nameIndex := 27, descriptorIndex := 28, attributes := #[] }] 49 2 #[] #[])
  fields := #[]
  methods := #[k1m0, k1m1]
  instanceTypes := #[]
  staticTypes := #[]
  resolved := Array.replicate 34 none
  statics := none }

def pool2 : Array CpInfo := pool [(1, .methodref 2 3), (0, .class_ 4), (0, .nameAndType 5 6), (0, u "java/lang/Object"), (0, u "<init>"), (0, u "()V"), (0, .fieldref 8 9), (0, .class_ 10), (0, .nameAndType 11 12), (0, u "com/example/hornconv/hornconv/FactTable"), (0, u "unary"), (0, u "[I"), (0, .fieldref 8 14), (0, .nameAndType 15 16), (0, u "members"), (0, u "[J"), (0, .fieldref 8 18), (0, .nameAndType 19 20), (0, u "arity"), (0, u "I"), (0, .fieldref 8 22), (0, .nameAndType 23 12), (0, u "arguments"), (0, .fieldref 8 25), (0, .nameAndType 26 27), (0, u "dead"), (0, u "[Z"), (0, .fieldref 8 29), (0, .nameAndType 30 12), (0, u "slots"), (0, .methodref 32 33), (0, .class_ 34), (0, .nameAndType 35 36), (0, u "java/util/Arrays"), (0, u "fill"), (0, u "([II)V"), (0, .class_ 38), (0, u "com/example/hornconv/hornconv/FactTable$PositionIndex"), (0, .fieldref 8 40), (0, .nameAndType 41 42), (0, u "positions"), (0, u "[Lcom/example/hornconv/hornconv/FactTable$PositionIndex;"), (0, .fieldref 8 44), (0, .nameAndType 45 20), (0, u "rows"), (0, .fieldref 8 47), (0, .nameAndType 48 20), (0, u "live"), (3, u "(I)Z"), (0, .methodref 8 54), (0, .nameAndType 55 56), (0, u "hash"), (0, u "([II)I"), (0, .methodref 8 58), (0, .nameAndType 59 56), (0, u "find"), (7, .methodref 68 69), (0, .class_ 70), (0, .nameAndType 71 72), (0, u "java/lang/System"), (0, u "arraycopy"), (0, u "(Ljava/lang/Object;ILjava/lang/Object;II)V"), (6, u "add"), (1, .fieldref 8 82), (0, .nameAndType 83 20), (0, u "used"), (9, u "remove"), (0, u "(I)V"), (28, .methodref 8 124), (0, .nameAndType 125 126), (0, u "equalsRow"), (0, u "(I[I)Z"), (0, .integer 2654435769), (0, u "NONE"), (2, u "REMOVED"), (1, u "GOLDEN"), (5, u "isLive"), (0, u "([I)I")] 5

def k2c0 : Code := { maxStack := 3, maxLocals := 2, code := prog_3_method_1_code, exceptionTable := #[], attributes := #[] }
def k2m0 : Method := { name := "<init>", desc := "(I)V", sig := { parameters := [.int], returnType := none }, accessFlags := 0, code := some k2c0 }
def k2c1 : Code := { maxStack := 2, maxLocals := 2, code := prog_3_method_5_code, exceptionTable := #[], attributes := #[] }
def k2m1 : Method := { name := "isLive", desc := "(I)Z", sig := { parameters := [.int], returnType := some .boolean }, accessFlags := 0, code := some k2c1 }
def k2c2 : Code := { maxStack := 5, maxLocals := 6, code := prog_3_method_7_code, exceptionTable := #[], attributes := #[] }
def k2m2 : Method := { name := "add", desc := "([I)I", sig := { parameters := [(.array .int)], returnType := some .int }, accessFlags := 0, code := some k2c2 }
def k2c3 : Code := { maxStack := 4, maxLocals := 5, code := prog_3_method_8_code, exceptionTable := #[], attributes := #[] }
def k2m3 : Method := { name := "remove", desc := "(I)V", sig := { parameters := [.int], returnType := none }, accessFlags := 0, code := some k2c3 }
def k2c4 : Code := { maxStack := 3, maxLocals := 7, code := prog_3_method_16_code, exceptionTable := #[], attributes := #[] }
def k2m4 : Method := { name := "find", desc := "([II)I", sig := { parameters := [(.array .int), .int], returnType := some .int }, accessFlags := 2, code := some k2c4 }
def k2c5 : Code := { maxStack := 3, maxLocals := 5, code := prog_3_method_17_code, exceptionTable := #[], attributes := #[] }
def k2m5 : Method := { name := "equalsRow", desc := "(I[I)Z", sig := { parameters := [.int, (.array .int)], returnType := some .boolean }, accessFlags := 2, code := some k2c5 }
def k2c6 : Code := { maxStack := 4, maxLocals := 5, code := prog_3_method_18_code, exceptionTable := #[], attributes := #[] }
def k2m6 : Method := { name := "hash", desc := "([II)I", sig := { parameters := [(.array .int), .int], returnType := some .int }, accessFlags := 2, code := some k2c6 }
/-- com/example/hornconv/hornconv/FactTable -/
def k2 : Class := { plain "com/example/hornconv/hornconv/FactTable" (some 0) with
  accessFlags := 48
  interfaces := #[]
  cf := some (fileOf pool2 8 #[.nestMembers #[37]] #[{ accessFlags := 0, nameIndex := 5, descriptorIndex := 94, attributes := #[] }, { accessFlags := 0, nameIndex := 139, descriptorIndex := 52, attributes := #[] }, { accessFlags := 0, nameIndex := 79, descriptorIndex := 140, attributes := #[] }, { accessFlags := 0, nameIndex := 93, descriptorIndex := 94, attributes := #[] }, { accessFlags := 2, nameIndex := 59, descriptorIndex := 56, attributes := #[] }, { accessFlags := 2, nameIndex := 125, descriptorIndex := 126, attributes := #[] }, { accessFlags := 2, nameIndex := 55, descriptorIndex := 56, attributes := #[] }] 48 2 #[] #[{ accessFlags := 26, nameIndex := 128, descriptorIndex := 20, attributes := #[] }, { accessFlags := 26, nameIndex := 131, descriptorIndex := 20, attributes := #[] }, { accessFlags := 26, nameIndex := 133, descriptorIndex := 20, attributes := #[] }, { accessFlags := 18, nameIndex := 19, descriptorIndex := 20, attributes := #[] }, { accessFlags := 2, nameIndex := 23, descriptorIndex := 12, attributes := #[] }, { accessFlags := 2, nameIndex := 26, descriptorIndex := 27, attributes := #[] }, { accessFlags := 2, nameIndex := 45, descriptorIndex := 20, attributes := #[] }, { accessFlags := 2, nameIndex := 48, descriptorIndex := 20, attributes := #[] }, { accessFlags := 2, nameIndex := 30, descriptorIndex := 12, attributes := #[] }, { accessFlags := 2, nameIndex := 83, descriptorIndex := 20, attributes := #[] }, { accessFlags := 18, nameIndex := 41, descriptorIndex := 42, attributes := #[] }, { accessFlags := 18, nameIndex := 11, descriptorIndex := 12, attributes := #[] }, { accessFlags := 2, nameIndex := 15, descriptorIndex := 16, attributes := #[] }])
  fields := #[{ name := "NONE", type := .int, accessFlags := 26, slot := 0, constantValue := 0 }, { name := "REMOVED", type := .int, accessFlags := 26, slot := 1, constantValue := 0 }, { name := "GOLDEN", type := .int, accessFlags := 26, slot := 2, constantValue := 0 }, { name := "arity", type := .int, accessFlags := 18, slot := 0, constantValue := 0 }, { name := "arguments", type := (.array .int), accessFlags := 2, slot := 1, constantValue := 0 }, { name := "dead", type := (.array .boolean), accessFlags := 2, slot := 2, constantValue := 0 }, { name := "rows", type := .int, accessFlags := 2, slot := 3, constantValue := 0 }, { name := "live", type := .int, accessFlags := 2, slot := 4, constantValue := 0 }, { name := "slots", type := (.array .int), accessFlags := 2, slot := 5, constantValue := 0 }, { name := "used", type := .int, accessFlags := 2, slot := 6, constantValue := 0 }, { name := "positions", type := (.array (.object "com/example/hornconv/hornconv/FactTable$PositionIndex")), accessFlags := 18, slot := 7, constantValue := 0 }, { name := "unary", type := (.array .int), accessFlags := 18, slot := 8, constantValue := 0 }, { name := "members", type := (.array .long), accessFlags := 2, slot := 9, constantValue := 0 }]
  methods := #[k2m0, k2m1, k2m2, k2m3, k2m4, k2m5, k2m6]
  instanceTypes := #[.int, (.array .int), (.array .boolean), .int, .int, (.array .int), .int, (.array (.object "com/example/hornconv/hornconv/FactTable$PositionIndex")), (.array .int), (.array .long)]
  staticTypes := #[.int, .int, .int]
  resolved := Array.replicate 146 none
  statics := none }

def pool3 : Array CpInfo := pool [(2, .class_ 4), (1, u "java/lang/Object"), (0, u "<init>"), (0, u "()V"), (7, .class_ 16), (1, u "java/util/Arrays"), (57, .class_ 76), (1, u "java/util/Arrays$NaturalOrder"), (36, .class_ 115), (1, u "java/util/Arrays$LegacyMergeSort"), (1, u "Z"), (257, .class_ 376), (0, u "java/util/Arrays$ArrayList"), (68, u "$assertionsDisabled"), (269, u "MIN_ARRAY_SORT_GRAN"), (0, u "I"), (2, u "INSERTIONSORT_THRESHOLD"), (120, u "fill"), (4, u "([II)V"), (129, .class_ 976), (0, u "java/util/Arrays$ArrayItr")] 52

def k3m0 : Method := { name := "<init>", desc := "()V", sig := { parameters := [], returnType := none }, accessFlags := 2, code := none }
def k3c1 : Code := { maxStack := 3, maxLocals := 4, code := jdk_65_method_103_code, exceptionTable := #[], attributes := #[] }
def k3m1 : Method := { name := "fill", desc := "([II)V", sig := { parameters := [(.array .int), .int], returnType := none }, accessFlags := 9, code := some k3c1 }
/-- java/util/Arrays -/
def k3 : Class := { plain "java/util/Arrays" (some 0) with
  accessFlags := 49
  interfaces := #[]
  cf := some (fileOf pool3 14 #[.nestMembers #[975, 375, 113, 74]] #[{ accessFlags := 2, nameIndex := 5, descriptorIndex := 6, attributes := #[] }, { accessFlags := 9, nameIndex := 840, descriptorIndex := 845, attributes := #[] }] 49 2 #[] #[{ accessFlags := 26, nameIndex := 715, descriptorIndex := 716, attributes := #[] }, { accessFlags := 26, nameIndex := 719, descriptorIndex := 716, attributes := #[] }, { accessFlags := 4120, nameIndex := 445, descriptorIndex := 117, attributes := #[] }])
  fields := #[{ name := "MIN_ARRAY_SORT_GRAN", type := .int, accessFlags := 26, slot := 0, constantValue := 0 }, { name := "INSERTIONSORT_THRESHOLD", type := .int, accessFlags := 26, slot := 1, constantValue := 0 }, { name := "$assertionsDisabled", type := .boolean, accessFlags := 4120, slot := 2, constantValue := 0 }]
  methods := #[k3m0, k3m1]
  instanceTypes := #[]
  staticTypes := #[.int, .int, .boolean]
  resolved := Array.replicate 1029 none
  statics := none }

def pool4 : Array CpInfo := pool [(1, .class_ 2), (0, u "com/example/hornconv/hornconv/FactTable"), (1, .class_ 6), (1, u "java/lang/Object"), (0, u "<init>"), (0, u "()V"), (1, .class_ 12), (1, u "com/example/hornconv/hornconv/FactTable$PositionIndex"), (0, u "keys"), (0, u "[I"), (2, u "heads"), (2, u "counts"), (2, u "next"), (16, u "size"), (0, u "I")] 22

def k4m0 : Method := { name := "<init>", desc := "()V", sig := { parameters := [], returnType := none }, accessFlags := 0, code := none }
/-- com/example/hornconv/hornconv/FactTable$PositionIndex -/
def k4 : Class := { plain "com/example/hornconv/hornconv/FactTable$PositionIndex" (some 0) with
  accessFlags := 48
  interfaces := #[]
  cf := some (fileOf pool4 10 #[.nestHost 1] #[{ accessFlags := 0, nameIndex := 7, descriptorIndex := 8, attributes := #[] }] 48 4 #[] #[{ accessFlags := 2, nameIndex := 13, descriptorIndex := 14, attributes := #[] }, { accessFlags := 2, nameIndex := 17, descriptorIndex := 14, attributes := #[] }, { accessFlags := 2, nameIndex := 20, descriptorIndex := 14, attributes := #[] }, { accessFlags := 2, nameIndex := 40, descriptorIndex := 41, attributes := #[] }, { accessFlags := 2, nameIndex := 23, descriptorIndex := 14, attributes := #[] }])
  fields := #[{ name := "keys", type := (.array .int), accessFlags := 2, slot := 0, constantValue := 0 }, { name := "heads", type := (.array .int), accessFlags := 2, slot := 1, constantValue := 0 }, { name := "counts", type := (.array .int), accessFlags := 2, slot := 2, constantValue := 0 }, { name := "size", type := .int, accessFlags := 2, slot := 3, constantValue := 0 }, { name := "next", type := (.array .int), accessFlags := 2, slot := 4, constantValue := 0 }]
  methods := #[k4m0]
  instanceTypes := #[(.array .int), (.array .int), (.array .int), .int, (.array .int)]
  staticTypes := #[]
  resolved := Array.replicate 64 none
  statics := none }

def pool5 : Array CpInfo := pool [(2, .class_ 4), (1, u "java/lang/Object"), (0, u "<init>"), (0, u "()V"), (1, .class_ 10), (1, u "java/lang/System"), (0, u "allowSecurityManager"), (0, u "I"), (16, u "cons"), (0, u "Ljava/io/Console;"), (77, .class_ 110), (1, u "java/lang/System$CallersHolder"), (43, u "initialErrStream"), (0, u "Ljava/io/PrintStream;"), (19, u "security"), (0, u "Ljava/lang/SecurityManager;"), (31, .class_ 209), (0, u "java/lang/System$1"), (7, u "props"), (0, u "Ljava/util/Properties;"), (2, u "lineSeparator"), (0, u "Ljava/lang/String;"), (96, .class_ 321), (1, u "java/lang/System$LoggerFinder"), (5, .class_ 328), (0, u "java/lang/System$Logger"), (67, u "err"), (2, u "out"), (91, u "notSupportedJnuEncoding"), (15, u "in"), (17, u "initialIn"), (0, u "Ljava/io/InputStream;"), (35, u "bootLayer"), (0, u "Ljava/lang/ModuleLayer;"), (99, .class_ 664), (0, u "java/lang/System$2"), (9, u "NEVER"), (2, u "MAYBE"), (49, u "arraycopy"), (0, u "(Ljava/lang/Object;ILjava/lang/Object;II)V"), (72, .class_ 802), (0, u "java/lang/System$Logger$Level")] 31

def k5m0 : Method := { name := "<init>", desc := "()V", sig := { parameters := [], returnType := none }, accessFlags := 2, code := none }
def k5m1 : Method := { name := "arraycopy", desc := "(Ljava/lang/Object;ILjava/lang/Object;II)V", sig := { parameters := [(.object "java/lang/Object"), .int, (.object "java/lang/Object"), .int, .int], returnType := none }, accessFlags := 265, code := none }
/-- java/lang/System -/
def k5 : Class := { plain "java/lang/System" (some 0) with
  accessFlags := 49
  interfaces := #[]
  cf := some (fileOf pool5 8 #[.nestMembers #[319, 327, 801, 108, 663, 208]] #[{ accessFlags := 2, nameIndex := 5, descriptorIndex := 6, attributes := #[] }, { accessFlags := 265, nameIndex := 727, descriptorIndex := 728, attributes := #[] }] 49 2 #[] #[{ accessFlags := 25, nameIndex := 507, descriptorIndex := 526, attributes := #[] }, { accessFlags := 25, nameIndex := 399, descriptorIndex := 155, attributes := #[] }, { accessFlags := 25, nameIndex := 396, descriptorIndex := 155, attributes := #[] }, { accessFlags := 10, nameIndex := 525, descriptorIndex := 526, attributes := #[] }, { accessFlags := 26, nameIndex := 674, descriptorIndex := 12, attributes := #[] }, { accessFlags := 26, nameIndex := 677, descriptorIndex := 12, attributes := #[] }, { accessFlags := 10, nameIndex := 11, descriptorIndex := 12, attributes := #[] }, { accessFlags := 74, nameIndex := 175, descriptorIndex := 176, attributes := #[] }, { accessFlags := 10, nameIndex := 491, descriptorIndex := 222, attributes := #[] }, { accessFlags := 74, nameIndex := 29, descriptorIndex := 30, attributes := #[] }, { accessFlags := 74, nameIndex := 154, descriptorIndex := 155, attributes := #[] }, { accessFlags := 10, nameIndex := 217, descriptorIndex := 218, attributes := #[] }, { accessFlags := 10, nameIndex := 221, descriptorIndex := 222, attributes := #[] }, { accessFlags := 8, nameIndex := 562, descriptorIndex := 563, attributes := #[] }])
  fields := #[{ name := "in", type := (.object "java/io/InputStream"), accessFlags := 25, slot := 0, constantValue := 0 }, { name := "out", type := (.object "java/io/PrintStream"), accessFlags := 25, slot := 1, constantValue := 0 }, { name := "err", type := (.object "java/io/PrintStream"), accessFlags := 25, slot := 2, constantValue := 0 }, { name := "initialIn", type := (.object "java/io/InputStream"), accessFlags := 10, slot := 3, constantValue := 0 }, { name := "NEVER", type := .int, accessFlags := 26, slot := 4, constantValue := 0 }, { name := "MAYBE", type := .int, accessFlags := 26, slot := 5, constantValue := 0 }, { name := "allowSecurityManager", type := .int, accessFlags := 10, slot := 6, constantValue := 0 }, { name := "security", type := (.object "java/lang/SecurityManager"), accessFlags := 74, slot := 7, constantValue := 0 }, { name := "notSupportedJnuEncoding", type := (.object "java/lang/String"), accessFlags := 10, slot := 8, constantValue := 0 }, { name := "cons", type := (.object "java/io/Console"), accessFlags := 74, slot := 9, constantValue := 0 }, { name := "initialErrStream", type := (.object "java/io/PrintStream"), accessFlags := 74, slot := 10, constantValue := 0 }, { name := "props", type := (.object "java/util/Properties"), accessFlags := 10, slot := 11, constantValue := 0 }, { name := "lineSeparator", type := (.object "java/lang/String"), accessFlags := 10, slot := 12, constantValue := 0 }, { name := "bootLayer", type := (.object "java/lang/ModuleLayer"), accessFlags := 8, slot := 13, constantValue := 0 }]
  methods := #[k5m0, k5m1]
  instanceTypes := #[]
  staticTypes := #[(.object "java/io/InputStream"), (.object "java/io/PrintStream"), (.object "java/io/PrintStream"), (.object "java/io/InputStream"), .int, .int, .int, (.object "java/lang/SecurityManager"), (.object "java/lang/String"), (.object "java/io/Console"), (.object "java/io/PrintStream"), (.object "java/util/Properties"), (.object "java/lang/String"), (.object "java/lang/ModuleLayer")]
  resolved := Array.replicate 834 none
  statics := none }

def pool6 : Array CpInfo := pool [(1, u "java/lang/Cloneable"), (0, .class_ 1), (0, u "java/lang/Object"), (0, .class_ 3)] 3

/-- java/lang/Cloneable -/
def k6 : Class := { plain "java/lang/Cloneable" (some 0) with
  accessFlags := 1537
  interfaces := #[]
  cf := some (fileOf pool6 2 #[] #[] 1537 4 #[] #[])
  fields := #[]
  methods := #[]
  instanceTypes := #[]
  staticTypes := #[]
  resolved := Array.replicate 8 none
  statics := none }

def pool7 : Array CpInfo := pool [(1, u "java/io/Serializable"), (0, .class_ 1), (0, u "java/lang/Object"), (0, .class_ 3)] 3

/-- java/io/Serializable -/
def k7 : Class := { plain "java/io/Serializable" (some 0) with
  accessFlags := 1537
  interfaces := #[]
  cf := some (fileOf pool7 2 #[] #[] 1537 4 #[] #[])
  fields := #[]
  methods := #[]
  instanceTypes := #[]
  staticTypes := #[]
  resolved := Array.replicate 8 none
  statics := none }

/-- the primitive boolean -/
def k8 : Class := { plain "boolean" none with kind := .primitive 'Z', accessFlags := 0x411 }
/-- [Z -/
def k9 : Class := { plain "[Z" (some 0) with kind := .array 8 .boolean, interfaces := #[6, 7], accessFlags := 1041 }

/-- the primitive byte -/
def k10 : Class := { plain "byte" none with kind := .primitive 'B', accessFlags := 0x411 }
/-- [B -/
def k11 : Class := { plain "[B" (some 0) with kind := .array 10 .byte, interfaces := #[6, 7], accessFlags := 1041 }

/-- the primitive int -/
def k12 : Class := { plain "int" none with kind := .primitive 'I', accessFlags := 0x411 }
/-- [I -/
def k13 : Class := { plain "[I" (some 0) with kind := .array 12 .int, interfaces := #[6, 7], accessFlags := 1041 }

/-- the primitive long -/
def k14 : Class := { plain "long" none with kind := .primitive 'J', accessFlags := 0x411 }
/-- [J -/
def k15 : Class := { plain "[J" (some 0) with kind := .array 14 .long, interfaces := #[6, 7], accessFlags := 1041 }

/-- [Lcom/example/hornconv/hornconv/FactTable$PositionIndex; -/
def k16 : Class := { plain "[Lcom/example/hornconv/hornconv/FactTable$PositionIndex;" (some 0) with kind := .array 4 (.object "com/example/hornconv/hornconv/FactTable$PositionIndex"), interfaces := #[6, 7], accessFlags := 1041 }

def heap : Heap := #[]
def classes : Array Class := #[k0, k1, k2, k3, k4, k5, k6, k7, k8, k9, k10, k11, k12, k13, k14, k15, k16]
def interned : List (Array UInt16 × Addr) := []
def slotsUsed : Nat := 0
def theMethod : MethodId := ⟨1, 1⟩
def args0 : Array Value := #[.int 5, .int 7, .int 9, .int 3, .int 1]
def aboutOver (below : List Frame) : State where
  vm := { classes := classes, interned := interned.toArray }
  heap := heap
  slotsUsed := slotsUsed
  threads := #[{ frames := .invoking theMethod args0 :: below }]
def below0 : List Frame := [.native { method := ⟨0, 0⟩, args := #[] }]
def about1 : State := aboutOver below0
def p0 : Program := .bare "" "" ""
def e0 : Env := launch0.env 0 0 0
theorem w_frames : about1.frames = Frame.invoking theMethod args0 :: below0 := rfl
set_option maxRecDepth 65536 in
theorem w_args : argsFit about1.vm theMethod args0 = true := by decide +kernel
set_option maxRecDepth 65536 in
theorem w_heap : heapFits about1 = true := by decide +kernel
set_option maxRecDepth 65536 in
theorem w_runnable : about1.curStatus? = some .runnable := by decide +kernel
set_option maxRecDepth 65536 in
theorem w_alone : about1.alone = true := by decide +kernel
set_option maxRecDepth 65536 in
theorem w_named : about1.methodNamed? x = some theMethod := by decide +kernel
set_option maxRecDepth 65536 in
theorem w_hears : about1.hears theMethod below0 = true := by decide +kernel
set_option maxRecDepth 65536 in
theorem w_ripe : about1.ripe theMethod args0 below0 = true := by decide +kernel
theorem w_running : about1.status = .running := rfl
set_option maxRecDepth 65536 in
theorem w_room : about1.hasRoom e0.platform room_1 = true :=
  launch0.hasRoom_least _ room_1 (by decide +kernel) (by decide +kernel) (by decide +kernel) (by decide +kernel) (by decide +kernel) (by decide +kernel)
theorem allAtoms_all (ts : List Jvm.Cond) (a : Array Jvm.Value) (st : Jvm.State) : (allAtoms ts).before a st = ts.all (fun c => c.before a st) := by
  induction ts with
  | nil => rfl
  | cons c t ih =>
    show (Jvm.Cond.and c (allAtoms t)).before a st = _
    rw [Jvm.Cond.before_and, ih, List.all_cons]
def words1 : List Jvm.Cond := Jvm.Cond.code x code maxLocals ret :: tables_1
/-- a 'code' word, met by the world's own term for the bytes: nothing is compared byte by byte -/
theorem code_word {y : MethodName} {bytes : ByteArray} {mx : Nat} {rt : Option FieldType} {a : Array Value} {s : State} {m : MethodId} {meth : Method} {c : Code} (h1 : s.methodNamed? y = some m) (h2 : s.vm.method? m = some meth) (h3 : meth.code = some c) (h4 : c.code = bytes)
    (h5 : (c.maxLocals == mx && c.exceptionTable.isEmpty && decide (c.maxStack ≤ mostOperands) && decide (meth.sig.returnType = rt) && !meth.locks && decide (parseMethodDescriptor y.desc = some meth.sig)) = true) : (Jvm.Cond.code y bytes mx rt).before a s = true := by
  simp only [Bool.and_eq_true, beq_iff_eq, Bool.not_eq_true', decide_eq_true_eq] at h5
  obtain ⟨⟨⟨⟨⟨g1, g2⟩, g3⟩, g4⟩, g5⟩, g6⟩ := h5
  simp [Cond.before, Cond.holds, Cond.value, h1, h2, h3, h4, g1, g2, g3, g4, g5, g6]
def isCode : Jvm.Cond → Bool
  | .code _ _ _ _ => true
  | _ => false
theorem all_split {L : List Jvm.Cond} {P : Jvm.Cond → Bool} (h1 : L.all (fun c => isCode c || P c) = true) (h2 : ∀ c ∈ L.filter isCode, P c = true) : L.all P = true := by
  refine List.all_eq_true.mpr fun c hc => ?_
  have h := List.all_eq_true.mp h1 c hc
  rcases Bool.eq_false_or_eq_true (isCode c) with hi | hi
  · exact h2 c (List.mem_filter.mpr ⟨hc, hi⟩)
  · simpa [hi] using h
set_option maxRecDepth 65536 in
theorem w_c0 : (Jvm.Cond.code x code maxLocals ret).before args0 about1 = true := code_word (m := ⟨1, 1⟩) (meth := k1m1) (c := k1c1) (by decide +kernel) rfl rfl rfl (by decide +kernel)
set_option maxRecDepth 65536 in
theorem w_c1 : (Jvm.Cond.code ({ cls := "com/example/hornconv/hornconv/FactTable", name := "<init>", desc := "(I)V" } : Jvm.MethodName) prog_3_method_1_code (2 : Nat) (Option.none : Option Jvm.ClassFile.FieldType)).before args0 about1 = true := code_word (m := ⟨2, 0⟩) (meth := k2m0) (c := k2c0) (by decide +kernel) rfl rfl rfl (by decide +kernel)
set_option maxRecDepth 65536 in
theorem w_c2 : (Jvm.Cond.code ({ cls := "java/lang/Object", name := "<init>", desc := "()V" } : Jvm.MethodName) object_method_1_code (1 : Nat) (Option.none : Option Jvm.ClassFile.FieldType)).before args0 about1 = true := code_word (m := ⟨0, 0⟩) (meth := k0m0) (c := k0c0) (by decide +kernel) rfl rfl rfl (by decide +kernel)
set_option maxRecDepth 65536 in
theorem w_c3 : (Jvm.Cond.code ({ cls := "java/util/Arrays", name := "fill", desc := "([II)V" } : Jvm.MethodName) jdk_65_method_103_code (4 : Nat) (Option.none : Option Jvm.ClassFile.FieldType)).before args0 about1 = true := code_word (m := ⟨3, 1⟩) (meth := k3m1) (c := k3c1) (by decide +kernel) rfl rfl rfl (by decide +kernel)
set_option maxRecDepth 65536 in
theorem w_c4 : (Jvm.Cond.code ({ cls := "com/example/hornconv/hornconv/FactTable", name := "add", desc := "([I)I" } : Jvm.MethodName) prog_3_method_7_code (6 : Nat) (Option.some Jvm.ClassFile.FieldType.int)).before args0 about1 = true := code_word (m := ⟨2, 2⟩) (meth := k2m2) (c := k2c2) (by decide +kernel) rfl rfl rfl (by decide +kernel)
set_option maxRecDepth 65536 in
theorem w_c5 : (Jvm.Cond.code ({ cls := "com/example/hornconv/hornconv/FactTable", name := "hash", desc := "([II)I" } : Jvm.MethodName) prog_3_method_18_code (5 : Nat) (Option.some Jvm.ClassFile.FieldType.int)).before args0 about1 = true := code_word (m := ⟨2, 6⟩) (meth := k2m6) (c := k2c6) (by decide +kernel) rfl rfl rfl (by decide +kernel)
set_option maxRecDepth 65536 in
theorem w_c6 : (Jvm.Cond.code ({ cls := "com/example/hornconv/hornconv/FactTable", name := "find", desc := "([II)I" } : Jvm.MethodName) prog_3_method_16_code (7 : Nat) (Option.some Jvm.ClassFile.FieldType.int)).before args0 about1 = true := code_word (m := ⟨2, 4⟩) (meth := k2m4) (c := k2c4) (by decide +kernel) rfl rfl rfl (by decide +kernel)
set_option maxRecDepth 65536 in
theorem w_c7 : (Jvm.Cond.code ({ cls := "com/example/hornconv/hornconv/FactTable", name := "equalsRow", desc := "(I[I)Z" } : Jvm.MethodName) prog_3_method_17_code (5 : Nat) (Option.some Jvm.ClassFile.FieldType.boolean)).before args0 about1 = true := code_word (m := ⟨2, 5⟩) (meth := k2m5) (c := k2c5) (by decide +kernel) rfl rfl rfl (by decide +kernel)
set_option maxRecDepth 65536 in
theorem w_c8 : (Jvm.Cond.code ({ cls := "com/example/hornconv/hornconv/FactTable", name := "isLive", desc := "(I)Z" } : Jvm.MethodName) prog_3_method_5_code (2 : Nat) (Option.some Jvm.ClassFile.FieldType.boolean)).before args0 about1 = true := code_word (m := ⟨2, 1⟩) (meth := k2m1) (c := k2c1) (by decide +kernel) rfl rfl rfl (by decide +kernel)
set_option maxRecDepth 65536 in
theorem w_c9 : (Jvm.Cond.code ({ cls := "com/example/hornconv/hornconv/FactTable", name := "remove", desc := "(I)V" } : Jvm.MethodName) prog_3_method_8_code (5 : Nat) (Option.none : Option Jvm.ClassFile.FieldType)).before args0 about1 = true := code_word (m := ⟨2, 3⟩) (meth := k2m3) (c := k2c3) (by decide +kernel) rfl rfl rfl (by decide +kernel)
def codes1 : List Jvm.Cond := [Jvm.Cond.code x code maxLocals ret, Jvm.Cond.code ({ cls := "com/example/hornconv/hornconv/FactTable", name := "<init>", desc := "(I)V" } : Jvm.MethodName) prog_3_method_1_code (2 : Nat) (Option.none : Option Jvm.ClassFile.FieldType), Jvm.Cond.code ({ cls := "java/lang/Object", name := "<init>", desc := "()V" } : Jvm.MethodName) object_method_1_code (1 : Nat) (Option.none : Option Jvm.ClassFile.FieldType), Jvm.Cond.code ({ cls := "java/util/Arrays", name := "fill", desc := "([II)V" } : Jvm.MethodName) jdk_65_method_103_code (4 : Nat) (Option.none : Option Jvm.ClassFile.FieldType), Jvm.Cond.code ({ cls := "com/example/hornconv/hornconv/FactTable", name := "add", desc := "([I)I" } : Jvm.MethodName) prog_3_method_7_code (6 : Nat) (Option.some Jvm.ClassFile.FieldType.int), Jvm.Cond.code ({ cls := "com/example/hornconv/hornconv/FactTable", name := "hash", desc := "([II)I" } : Jvm.MethodName) prog_3_method_18_code (5 : Nat) (Option.some Jvm.ClassFile.FieldType.int), Jvm.Cond.code ({ cls := "com/example/hornconv/hornconv/FactTable", name := "find", desc := "([II)I" } : Jvm.MethodName) prog_3_method_16_code (7 : Nat) (Option.some Jvm.ClassFile.FieldType.int), Jvm.Cond.code ({ cls := "com/example/hornconv/hornconv/FactTable", name := "equalsRow", desc := "(I[I)Z" } : Jvm.MethodName) prog_3_method_17_code (5 : Nat) (Option.some Jvm.ClassFile.FieldType.boolean), Jvm.Cond.code ({ cls := "com/example/hornconv/hornconv/FactTable", name := "isLive", desc := "(I)Z" } : Jvm.MethodName) prog_3_method_5_code (2 : Nat) (Option.some Jvm.ClassFile.FieldType.boolean), Jvm.Cond.code ({ cls := "com/example/hornconv/hornconv/FactTable", name := "remove", desc := "(I)V" } : Jvm.MethodName) prog_3_method_8_code (5 : Nat) (Option.none : Option Jvm.ClassFile.FieldType)]
set_option maxRecDepth 65536 in
theorem codes_eq : words1.filter isCode = codes1 := rfl
theorem w_codes : ∀ c ∈ words1.filter isCode, c.before args0 about1 = true := by
  rw [codes_eq]
  intro c hc
  simp only [codes1, List.mem_cons, List.not_mem_nil, or_false] at hc
  rcases hc with rfl | rfl | rfl | rfl | rfl | rfl | rfl | rfl | rfl | rfl
  · exact w_c0
  · exact w_c1
  · exact w_c2
  · exact w_c3
  · exact w_c4
  · exact w_c5
  · exact w_c6
  · exact w_c7
  · exact w_c8
  · exact w_c9
set_option maxRecDepth 65536 in
theorem w_t1 : (words1.take 24).all (fun c => isCode c || c.before args0 about1) = true := by decide +kernel
set_option maxRecDepth 65536 in
theorem w_t2 : ((words1.drop 24).take 24).all (fun c => isCode c || c.before args0 about1) = true := by decide +kernel
set_option maxRecDepth 65536 in
theorem w_t3 : ((words1.drop 24).drop 24).all (fun c => isCode c || c.before args0 about1) = true := by decide +kernel
theorem w_tables : (allAtoms (Jvm.Cond.code x code maxLocals ret :: tables_1)).before args0 about1 = true := by
  rw [allAtoms_all]
  show words1.all (fun c => c.before args0 about1) = true
  refine all_split ?_ w_codes
  rw [← List.take_append_drop 24 words1, List.all_append, w_t1, ← List.take_append_drop 24 (words1.drop 24), List.all_append, w_t2, w_t3]
  rfl
set_option maxRecDepth 65536 in
theorem w_case : (Jvm.Cond.and given_1 narrow_1).before args0 about1 = true := by decide +kernel
theorem w_applies : (headSpec (Jvm.Cond.code x code maxLocals ret :: tables_1) room_1).applies x e0.platform about1 = true :=
  (Spec.applies_iff w_frames).mpr ⟨w_running, w_runnable, w_alone, w_named, w_hears, w_ripe, w_room, w_tables⟩
theorem atStart : AtStart classFile x code maxLocals ret World_1 tables_1 room_1 Calls_1 rest_1 Pre_1 launch0 p0 e0 about1 theMethod args0 below0 :=
  ⟨lists_1, trivial, launch0.admits_env _ _ _, launch0.least_env, fairChoices_fair.cas, fairChoices_fair.clock, w_frames, w_args, w_heap, w_applies, trivial, trivial, w_case⟩
end start1
theorem witness_1 : WitnessClaimed_1 := ⟨start1.p0, start1.e0, start1.about1, start1.theMethod, start1.args0, start1.below0, start1.atStart⟩
end Jvm.Pilot.@@N@@
