import JvmDerived
import JvmDerived.Pilot.@@N@@Statement
import JvmDerived.Pilot.@@N@@Code
set_option linter.unusedVariables false
set_option linter.unusedSimpArgs false
namespace Jvm.OwnKit
open Sem ClassFile Op Lib Jvm.Stand Jvm.Free Jvm.LawKit Jvm.RoadKit Bundle
/-- the run's own things: program, environment, start state, method, arguments, frames below, its record, its code -/
abbrev Cx := Program × Env × State × MethodId × Array Value × List Frame × Method × Code
def Ok (K : Cx) (Z : State) (n0 : Nat) (own : String) (code : ByteArray) (maxL : Nat) (ret : Option FieldType) (nm : String) : Prop :=
  match K with
  | (p, _, s, m, _, _, meth, c) => p.tables.exec = Jvm.exec ∧ Z.Warmed39 s.vm ∧ s.vm.findClass own = some m.cls ∧ c.code = code ∧ c.maxLocals = maxL ∧ meth.sig.returnType = ret ∧ meth.name = nm ∧ meth.locks = false ∧ Old Z n0 s.heap
/-- from heap h, with k cells and n slots made, at pc with locals L and stack S, the run comes to a return that P likes -/
def W (K : Cx) (l : Launch) (R : Room) (n0 : Nat) (P : Option Value → Heap → Prop) (h : Heap) (k n pc : Nat) (L : Array Slot) (S : List Value) : Prop :=
  match K with
  | (p, e, s, m, args, below, meth, c) => ∀ T locs, Stand p l e R s m args below meth c T locs k n → T.heap = h → Fr n0 locs →
    ∃ s₂ o, Steps p.tables e below (T.setTop (mkF m pc L S)) s₂ ∧ s₂.status = .running ∧ Ended s₂ below o ∧ ∃ v L', o = .returned v ∧ (P v s₂.heap ∧ Fr n0 L') ∧ FrameEnd s o s₂ L' R.cells R.slots
/-- a method's contract: called with as' at heap h it returns what Q likes -/
abbrev Met (l : Launch) (Z : State) (n0 : Nat) (y : MethodName) (bytes : ByteArray) (mL : Nat) (rt : Option FieldType) (ws : List Cond) (rm : Room) (as' : Array Value) (h : Heap) (Q : Option Value → Heap → Prop) : Prop :=
  MetFree l y (head1 (Cond.code y bytes mL rt :: ws) rm) (fun a U => a = as' ∧ Z.Warmed39 U.vm ∧ U.heap = h) (fun _ _ _ _ _ => True) (fun _ U o U' => ∃ v L, o = .returned v ∧ (Q v U'.heap ∧ Fr n0 L) ∧ FrameEnd U o U' L rm.cells rm.slots)
theorem old_now {p : Program} {l : Launch} {e : Env} {R : Room} {s : State} {m : MethodId} {args : Array Value} {below : List Frame} {meth : Method} {c : Code} {T : State} {locs : List Loc} {k n : Nat} {Z : State} {n0 : Nat} (O : Old Z n0 s.heap) (X : Stand p l e R s m args below meth c T locs k n) (N : Fr n0 locs) : Old Z n0 T.heap := by
  refine ⟨O.1, Nat.le_trans O.2.1 X.same.2.1, fun a c hc => ?_⟩
  have h1 := O.2.2 a c hc
  have ha : a < n0 := O.1 ▸ (Array.getElem?_eq_some_iff.mp hc).1
  obtain ⟨c', q1, q2, q3, q4⟩ := X.same.2.2.2.2.2 a c h1
  have q5 : c'.slots = c.slots := Array.ext_getElem? fun i => q4 i fun hm => Nat.lt_irrefl _ (Nat.lt_of_lt_of_le ha (N _ hm))
  rw [q5] at q2
  have q6 : T.heap[a]? = some c' := q1
  rw [q6, q2]
theorem old_ge {p : Program} {l : Launch} {e : Env} {R : Room} {s : State} {m : MethodId} {args : Array Value} {below : List Frame} {meth : Method} {c : Code} {T : State} {locs : List Loc} {k n : Nat} {Z : State} {n0 : Nat} (O : Old Z n0 s.heap) (X : Stand p l e R s m args below meth c T locs k n) (N : Fr n0 locs) : n0 ≤ T.heap.size := by
  have q := old_now O X N
  rw [← q.1]; exact q.2.1
theorem met_of {l : Launch} {Z : State} {n0 : Nat} {y : MethodName} {bytes : ByteArray} {mL : Nat} {rt : Option FieldType} {ws : List Cond} {rm : Room} {as' : Array Value} {h : Heap} {Q : Option Value → Heap → Prop} (Z0 : Old Z n0 h) (pn : plainFor y = true) {Ls : Array Slot} (ef : ∀ m, entryFrame m as' mL = mkF m 0 Ls [])
    (H : ∀ K, Ok K Z n0 y.cls bytes mL rt y.name → W K l rm n0 Q h 0 0 0 Ls []) : Met l Z n0 y bytes mL rt ws rm as' h Q := by
  refine MetFree.of_bodySF pn hisR ?_
  intro p e s m args below meth c s₁ Bd hml0 hP hK
  obtain ⟨rfl, hZ, hh⟩ := hP
  have hnm := (name_of_methodNamed Bd.named Bd.method).1
  have X0 : Stand p l e rm s m args below meth c s₁ [] 0 0 := Stand.of_body Bd
  have e0 : s₁.heap = h := by rw [← hh, Bd.state]; rfl
  obtain ⟨s₂, o, st, r⟩ := H (p, e, s, m, args, below, meth, c) ⟨Bd.exec, hZ, findClass_of_methodNamed Bd.named, Bd.bytes, hml0, Bd.returns, hnm, Bd.notSynchronized, by show Old Z n0 s.heap; rw [hh]; exact Z0⟩ s₁ [] X0 e0 (Fr.nil n0)
  exact ⟨s₂, o, castTop (ef m) st, r⟩
section S
variable {K : Cx} {l : Launch} {R : Room} {Z : State} {n0 : Nat} {P : Option Value → Heap → Prop} {h : Heap} {k n pc : Nat} {L : Array Slot} {S : List Value} {own : String} {code : ByteArray} {maxL : Nat} {ret : Option FieldType} {nm : String} {a0 : Array Value}
theorem W.mono {P' : Option Value → Heap → Prop} (q : ∀ v h, P v h → P' v h) (w : W K l R n0 P h k n pc L S) : W K l R n0 P' h k n pc L S := by
  obtain ⟨p, e, s, m, args, below, meth, c⟩ := K
  intro T locs X eT N
  obtain ⟨s₂, o, st, r1, r2, v, L', r3, ⟨r4, r5⟩, r6⟩ := w T locs X eT N
  exact ⟨s₂, o, st, r1, r2, v, L', r3, ⟨q _ _ r4, r5⟩, r6⟩
theorem W.more {k' n' : Nat} (w : W K l R n0 P h k' n' pc L S) (hk : k ≤ k') (hn : n ≤ n') : W K l R n0 P h k n pc L S := by
  obtain ⟨p, e, s, m, args, below, meth, c⟩ := K
  intro T locs X eT N
  exact w T locs (X.more hk hn) eT N
theorem w_iloadN (ok : Ok K Z n0 own code maxL ret nm) {i : Fin 4} {v : Int32} (hd : decode code pc = .ok (.iload_n i, 1)) (hl : L[i.val]? = some (.val (.int v))) (w : W K l R n0 P h k n (pc + 1) L (.int v :: S)) : W K l R n0 P h k n pc L (S) := by
  obtain ⟨p, e, s, m, args, below, meth, c⟩ := K
  obtain ⟨hx, hZ, hown, hby, -⟩ := ok
  intro T locs X eT N
  obtain ⟨s₂, o, st, r⟩ := w T locs X eT N
  exact ⟨s₂, o, XS.iloadN X.here hx rfl (hb hby hd) hl st, r⟩
theorem w_iload (ok : Ok K Z n0 own code maxL ret nm) {i : Nat} {v : Int32} (hd : decode code pc = .ok (.iload i, 2)) (hl : L[i]? = some (.val (.int v))) (w : W K l R n0 P h k n (pc + 2) L (.int v :: S)) : W K l R n0 P h k n pc L (S) := by
  obtain ⟨p, e, s, m, args, below, meth, c⟩ := K
  obtain ⟨hx, hZ, hown, hby, -⟩ := ok
  intro T locs X eT N
  obtain ⟨s₂, o, st, r⟩ := w T locs X eT N
  exact ⟨s₂, o, XS.iload X.here hx rfl (hb hby hd) hl st, r⟩
theorem w_istoreN (ok : Ok K Z n0 own code maxL ret nm) {i : Fin 4} {v : Int32} {L' : Array Slot} (hd : decode code pc = .ok (.istore_n i, 1)) (hl : storeLocals L i.val (.int v) = some L') (w : W K l R n0 P h k n (pc + 1) L' (S)) : W K l R n0 P h k n pc L (.int v :: S) := by
  obtain ⟨p, e, s, m, args, below, meth, c⟩ := K
  obtain ⟨hx, hZ, hown, hby, -⟩ := ok
  intro T locs X eT N
  obtain ⟨s₂, o, st, r⟩ := w T locs X eT N
  exact ⟨s₂, o, XS.istoreN X.here hx rfl (hb hby hd) rfl hl st, r⟩
theorem w_istore (ok : Ok K Z n0 own code maxL ret nm) {i : Nat} {v : Int32} {L' : Array Slot} (hd : decode code pc = .ok (.istore i, 2)) (hl : storeLocals L i (.int v) = some L') (w : W K l R n0 P h k n (pc + 2) L' (S)) : W K l R n0 P h k n pc L (.int v :: S) := by
  obtain ⟨p, e, s, m, args, below, meth, c⟩ := K
  obtain ⟨hx, hZ, hown, hby, -⟩ := ok
  intro T locs X eT N
  obtain ⟨s₂, o, st, r⟩ := w T locs X eT N
  exact ⟨s₂, o, XS.istore X.here hx rfl (hb hby hd) rfl hl st, r⟩
theorem w_lloadN (ok : Ok K Z n0 own code maxL ret nm) {i : Fin 4} {v : Int64} (hd : decode code pc = .ok (.lload_n i, 1)) (hl : L[i.val]? = some (.val (.long v))) (w : W K l R n0 P h k n (pc + 1) L (.long v :: S)) : W K l R n0 P h k n pc L (S) := by
  obtain ⟨p, e, s, m, args, below, meth, c⟩ := K
  obtain ⟨hx, hZ, hown, hby, -⟩ := ok
  intro T locs X eT N
  obtain ⟨s₂, o, st, r⟩ := w T locs X eT N
  exact ⟨s₂, o, XS.lloadN X.here hx rfl (hb hby hd) hl st, r⟩
theorem w_lload (ok : Ok K Z n0 own code maxL ret nm) {i : Nat} {v : Int64} (hd : decode code pc = .ok (.lload i, 2)) (hl : L[i]? = some (.val (.long v))) (w : W K l R n0 P h k n (pc + 2) L (.long v :: S)) : W K l R n0 P h k n pc L (S) := by
  obtain ⟨p, e, s, m, args, below, meth, c⟩ := K
  obtain ⟨hx, hZ, hown, hby, -⟩ := ok
  intro T locs X eT N
  obtain ⟨s₂, o, st, r⟩ := w T locs X eT N
  exact ⟨s₂, o, XS.lload X.here hx rfl (hb hby hd) hl st, r⟩
theorem w_lstoreN (ok : Ok K Z n0 own code maxL ret nm) {i : Fin 4} {v : Int64} {L' : Array Slot} (hd : decode code pc = .ok (.lstore_n i, 1)) (hl : storeLocals L i.val (.long v) = some L') (w : W K l R n0 P h k n (pc + 1) L' (S)) : W K l R n0 P h k n pc L (.long v :: S) := by
  obtain ⟨p, e, s, m, args, below, meth, c⟩ := K
  obtain ⟨hx, hZ, hown, hby, -⟩ := ok
  intro T locs X eT N
  obtain ⟨s₂, o, st, r⟩ := w T locs X eT N
  exact ⟨s₂, o, XS.lstoreN X.here hx rfl (hb hby hd) rfl hl st, r⟩
theorem w_lstore (ok : Ok K Z n0 own code maxL ret nm) {i : Nat} {v : Int64} {L' : Array Slot} (hd : decode code pc = .ok (.lstore i, 2)) (hl : storeLocals L i (.long v) = some L') (w : W K l R n0 P h k n (pc + 2) L' (S)) : W K l R n0 P h k n pc L (.long v :: S) := by
  obtain ⟨p, e, s, m, args, below, meth, c⟩ := K
  obtain ⟨hx, hZ, hown, hby, -⟩ := ok
  intro T locs X eT N
  obtain ⟨s₂, o, st, r⟩ := w T locs X eT N
  exact ⟨s₂, o, XS.lstore X.here hx rfl (hb hby hd) rfl hl st, r⟩
theorem w_aloadN (ok : Ok K Z n0 own code maxL ret nm) {i : Fin 4} {v : Value} (hd : decode code pc = .ok (.aload_n i, 1)) (hl : L[i.val]? = some (.val v)) (hv : v.isRef = true) (w : W K l R n0 P h k n (pc + 1) L (v :: S)) : W K l R n0 P h k n pc L (S) := by
  obtain ⟨p, e, s, m, args, below, meth, c⟩ := K
  obtain ⟨hx, hZ, hown, hby, -⟩ := ok
  intro T locs X eT N
  obtain ⟨s₂, o, st, r⟩ := w T locs X eT N
  exact ⟨s₂, o, XS.aloadN X.here hx rfl (hb hby hd) hl hv st, r⟩
theorem w_aload (ok : Ok K Z n0 own code maxL ret nm) {i : Nat} {v : Value} (hd : decode code pc = .ok (.aload i, 2)) (hl : L[i]? = some (.val v)) (hv : v.isRef = true) (w : W K l R n0 P h k n (pc + 2) L (v :: S)) : W K l R n0 P h k n pc L (S) := by
  obtain ⟨p, e, s, m, args, below, meth, c⟩ := K
  obtain ⟨hx, hZ, hown, hby, -⟩ := ok
  intro T locs X eT N
  obtain ⟨s₂, o, st, r⟩ := w T locs X eT N
  exact ⟨s₂, o, XS.aload X.here hx rfl (hb hby hd) hl hv st, r⟩
theorem w_astoreN (ok : Ok K Z n0 own code maxL ret nm) {i : Fin 4} {v : Value} {L' : Array Slot} (hd : decode code pc = .ok (.astore_n i, 1)) (hv : v.isRef = true) (hl : storeLocals L i.val v = some L') (w : W K l R n0 P h k n (pc + 1) L' (S)) : W K l R n0 P h k n pc L (v :: S) := by
  obtain ⟨p, e, s, m, args, below, meth, c⟩ := K
  obtain ⟨hx, hZ, hown, hby, -⟩ := ok
  intro T locs X eT N
  obtain ⟨s₂, o, st, r⟩ := w T locs X eT N
  exact ⟨s₂, o, XS.astoreN X.here hx rfl (hb hby hd) rfl hv hl st, r⟩
theorem w_astore (ok : Ok K Z n0 own code maxL ret nm) {i : Nat} {v : Value} {L' : Array Slot} (hd : decode code pc = .ok (.astore i, 2)) (hv : v.isRef = true) (hl : storeLocals L i v = some L') (w : W K l R n0 P h k n (pc + 2) L' (S)) : W K l R n0 P h k n pc L (v :: S) := by
  obtain ⟨p, e, s, m, args, below, meth, c⟩ := K
  obtain ⟨hx, hZ, hown, hby, -⟩ := ok
  intro T locs X eT N
  obtain ⟨s₂, o, st, r⟩ := w T locs X eT N
  exact ⟨s₂, o, XS.astore X.here hx rfl (hb hby hd) rfl hv hl st, r⟩
theorem w_iconst (ok : Ok K Z n0 own code maxL ret nm) {i : Int} {v : Int32} (hd : decode code pc = .ok (.iconst i, 1)) (hv : Int32.ofInt i = v) (w : W K l R n0 P h k n (pc + 1) L (.int v :: S)) : W K l R n0 P h k n pc L (S) := by
  obtain ⟨p, e, s, m, args, below, meth, c⟩ := K
  obtain ⟨hx, hZ, hown, hby, -⟩ := ok
  intro T locs X eT N
  obtain ⟨s₂, o, st, r⟩ := w T locs X eT N
  exact ⟨s₂, o, XS.iconst X.here hx rfl (hb hby hd) (hv ▸ st), r⟩
theorem w_bipush (ok : Ok K Z n0 own code maxL ret nm) {i : Int} {v : Int32} (hd : decode code pc = .ok (.bipush i, 2)) (hv : (Int8.ofInt i).toInt32 = v) (w : W K l R n0 P h k n (pc + 2) L (.int v :: S)) : W K l R n0 P h k n pc L (S) := by
  obtain ⟨p, e, s, m, args, below, meth, c⟩ := K
  obtain ⟨hx, hZ, hown, hby, -⟩ := ok
  intro T locs X eT N
  obtain ⟨s₂, o, st, r⟩ := w T locs X eT N
  exact ⟨s₂, o, XS.bipush X.here hx rfl (hb hby hd) (hv ▸ st), r⟩
theorem w_sipush (ok : Ok K Z n0 own code maxL ret nm) {i : Int} {v : Int32} (hd : decode code pc = .ok (.sipush i, 3)) (hv : (Int16.ofInt i).toInt32 = v) (w : W K l R n0 P h k n (pc + 3) L (.int v :: S)) : W K l R n0 P h k n pc L (S) := by
  obtain ⟨p, e, s, m, args, below, meth, c⟩ := K
  obtain ⟨hx, hZ, hown, hby, -⟩ := ok
  intro T locs X eT N
  obtain ⟨s₂, o, st, r⟩ := w T locs X eT N
  exact ⟨s₂, o, XS.sipush X.here hx rfl (hb hby hd) (hv ▸ st), r⟩
theorem w_lconst (ok : Ok K Z n0 own code maxL ret nm) {i : Fin 2} {v : Int64} (hd : decode code pc = .ok (.lconst i, 1)) (hv : Int64.ofNat i = v) (w : W K l R n0 P h k n (pc + 1) L (.long v :: S)) : W K l R n0 P h k n pc L (S) := by
  obtain ⟨p, e, s, m, args, below, meth, c⟩ := K
  obtain ⟨hx, hZ, hown, hby, -⟩ := ok
  intro T locs X eT N
  obtain ⟨s₂, o, st, r⟩ := w T locs X eT N
  exact ⟨s₂, o, XS.lconst X.here hx rfl (hb hby hd) (hv ▸ st), r⟩
theorem w_aconstNull (ok : Ok K Z n0 own code maxL ret nm)  (hd : decode code pc = .ok (.aconst_null, 1)) (w : W K l R n0 P h k n (pc + 1) L (.null :: S)) : W K l R n0 P h k n pc L (S) := by
  obtain ⟨p, e, s, m, args, below, meth, c⟩ := K
  obtain ⟨hx, hZ, hown, hby, -⟩ := ok
  intro T locs X eT N
  obtain ⟨s₂, o, st, r⟩ := w T locs X eT N
  exact ⟨s₂, o, XS.aconstNull X.here hx rfl (hb hby hd)  st, r⟩
theorem w_dup (ok : Ok K Z n0 own code maxL ret nm) {v : Value} (hd : decode code pc = .ok (.dup, 1)) (hv : v.category = 1) (w : W K l R n0 P h k n (pc + 1) L (v :: v :: S)) : W K l R n0 P h k n pc L (v :: S) := by
  obtain ⟨p, e, s, m, args, below, meth, c⟩ := K
  obtain ⟨hx, hZ, hown, hby, -⟩ := ok
  intro T locs X eT N
  obtain ⟨s₂, o, st, r⟩ := w T locs X eT N
  exact ⟨s₂, o, XS.dup X.here hx rfl (hb hby hd) rfl hv st, r⟩
theorem w_dupX1 (ok : Ok K Z n0 own code maxL ret nm) {v u : Value} (hd : decode code pc = .ok (.dup_x1, 1)) (hv : v.category = 1) (hu : u.category = 1) (w : W K l R n0 P h k n (pc + 1) L (v :: u :: v :: S)) : W K l R n0 P h k n pc L (v :: u :: S) := by
  obtain ⟨p, e, s, m, args, below, meth, c⟩ := K
  obtain ⟨hx, hZ, hown, hby, -⟩ := ok
  intro T locs X eT N
  obtain ⟨s₂, o, st, r⟩ := w T locs X eT N
  exact ⟨s₂, o, XS.dupX1 X.here hx rfl (hb hby hd) rfl hv hu st, r⟩
theorem w_pop (ok : Ok K Z n0 own code maxL ret nm) {v : Value} (hd : decode code pc = .ok (.pop, 1)) (hv : v.category = 1) (w : W K l R n0 P h k n (pc + 1) L (S)) : W K l R n0 P h k n pc L (v :: S) := by
  obtain ⟨p, e, s, m, args, below, meth, c⟩ := K
  obtain ⟨hx, hZ, hown, hby, -⟩ := ok
  intro T locs X eT N
  obtain ⟨s₂, o, st, r⟩ := w T locs X eT N
  exact ⟨s₂, o, XS.pop X.here hx rfl (hb hby hd) rfl hv st, r⟩
theorem w_dup2 (ok : Ok K Z n0 own code maxL ret nm) {v u : Value} (hd : decode code pc = .ok (.dup2, 1)) (hv : v.category = 1) (hu : u.category = 1) (w : W K l R n0 P h k n (pc + 1) L (v :: u :: v :: u :: S)) : W K l R n0 P h k n pc L (v :: u :: S) := by
  obtain ⟨p, e, s, m, args, below, meth, c⟩ := K
  obtain ⟨hx, hZ, hown, hby, -⟩ := ok
  intro T locs X eT N
  obtain ⟨s₂, o, st, r⟩ := w T locs X eT N
  exact ⟨s₂, o, XT.dup2 X.here hx rfl (hb hby hd) rfl hv hu st, r⟩
theorem w_iinc (ok : Ok K Z n0 own code maxL ret nm) {i : Nat} {c : Int} {v u : Int32} {L' : Array Slot} (hd : decode code pc = .ok (.iinc i c, 3)) (hu : Int32.ofInt c = u) (hl : L[i]? = some (.val (.int v))) (hl' : storeLocals L i (.int (v + u)) = some L') (w : W K l R n0 P h k n (pc + 3) L' (S)) : W K l R n0 P h k n pc L (S) := by
  obtain ⟨p, e, s, m, args, below, meth, c⟩ := K
  obtain ⟨hx, hZ, hown, hby, -⟩ := ok
  intro T locs X eT N
  obtain ⟨s₂, o, st, r⟩ := w T locs X eT N
  exact ⟨s₂, o, XS.iinc X.here hx rfl (hb hby hd) hl (by rw [hu]; exact hl') st, r⟩
theorem w_iadd (ok : Ok K Z n0 own code maxL ret nm) {x y : Int32} (hd : decode code pc = .ok (.iadd, 1)) (w : W K l R n0 P h k n (pc + 1) L (.int (x + y) :: S)) : W K l R n0 P h k n pc L (.int y :: .int x :: S) := by
  obtain ⟨p, e, s, m, args, below, meth, c⟩ := K
  obtain ⟨hx, hZ, hown, hby, -⟩ := ok
  intro T locs X eT N
  obtain ⟨s₂, o, st, r⟩ := w T locs X eT N
  exact ⟨s₂, o, XS.iadd X.here hx rfl (hb hby hd) rfl st, r⟩
theorem w_isub (ok : Ok K Z n0 own code maxL ret nm) {x y : Int32} (hd : decode code pc = .ok (.isub, 1)) (w : W K l R n0 P h k n (pc + 1) L (.int (x - y) :: S)) : W K l R n0 P h k n pc L (.int y :: .int x :: S) := by
  obtain ⟨p, e, s, m, args, below, meth, c⟩ := K
  obtain ⟨hx, hZ, hown, hby, -⟩ := ok
  intro T locs X eT N
  obtain ⟨s₂, o, st, r⟩ := w T locs X eT N
  exact ⟨s₂, o, XS.isub X.here hx rfl (hb hby hd) rfl st, r⟩
theorem w_imul (ok : Ok K Z n0 own code maxL ret nm) {x y : Int32} (hd : decode code pc = .ok (.imul, 1)) (w : W K l R n0 P h k n (pc + 1) L (.int (x * y) :: S)) : W K l R n0 P h k n pc L (.int y :: .int x :: S) := by
  obtain ⟨p, e, s, m, args, below, meth, c⟩ := K
  obtain ⟨hx, hZ, hown, hby, -⟩ := ok
  intro T locs X eT N
  obtain ⟨s₂, o, st, r⟩ := w T locs X eT N
  exact ⟨s₂, o, XS.imul X.here hx rfl (hb hby hd) rfl st, r⟩
theorem w_iand (ok : Ok K Z n0 own code maxL ret nm) {x y : Int32} (hd : decode code pc = .ok (.iand, 1)) (w : W K l R n0 P h k n (pc + 1) L (.int (x &&& y) :: S)) : W K l R n0 P h k n pc L (.int y :: .int x :: S) := by
  obtain ⟨p, e, s, m, args, below, meth, c⟩ := K
  obtain ⟨hx, hZ, hown, hby, -⟩ := ok
  intro T locs X eT N
  obtain ⟨s₂, o, st, r⟩ := w T locs X eT N
  exact ⟨s₂, o, XS.iand X.here hx rfl (hb hby hd) rfl st, r⟩
theorem w_ior (ok : Ok K Z n0 own code maxL ret nm) {x y : Int32} (hd : decode code pc = .ok (.ior, 1)) (w : W K l R n0 P h k n (pc + 1) L (.int (x ||| y) :: S)) : W K l R n0 P h k n pc L (.int y :: .int x :: S) := by
  obtain ⟨p, e, s, m, args, below, meth, c⟩ := K
  obtain ⟨hx, hZ, hown, hby, -⟩ := ok
  intro T locs X eT N
  obtain ⟨s₂, o, st, r⟩ := w T locs X eT N
  exact ⟨s₂, o, XS.ior X.here hx rfl (hb hby hd) rfl st, r⟩
theorem w_ixor (ok : Ok K Z n0 own code maxL ret nm) {x y : Int32} (hd : decode code pc = .ok (.ixor, 1)) (w : W K l R n0 P h k n (pc + 1) L (.int (x ^^^ y) :: S)) : W K l R n0 P h k n pc L (.int y :: .int x :: S) := by
  obtain ⟨p, e, s, m, args, below, meth, c⟩ := K
  obtain ⟨hx, hZ, hown, hby, -⟩ := ok
  intro T locs X eT N
  obtain ⟨s₂, o, st, r⟩ := w T locs X eT N
  exact ⟨s₂, o, XS.ixor X.here hx rfl (hb hby hd) rfl st, r⟩
theorem w_ishl (ok : Ok K Z n0 own code maxL ret nm) {x y : Int32} (hd : decode code pc = .ok (.ishl, 1)) (w : W K l R n0 P h k n (pc + 1) L (.int (x <<< (y &&& 31)) :: S)) : W K l R n0 P h k n pc L (.int y :: .int x :: S) := by
  obtain ⟨p, e, s, m, args, below, meth, c⟩ := K
  obtain ⟨hx, hZ, hown, hby, -⟩ := ok
  intro T locs X eT N
  obtain ⟨s₂, o, st, r⟩ := w T locs X eT N
  exact ⟨s₂, o, XS.ishl X.here hx rfl (hb hby hd) rfl st, r⟩
theorem w_ishr (ok : Ok K Z n0 own code maxL ret nm) {x y : Int32} (hd : decode code pc = .ok (.ishr, 1)) (w : W K l R n0 P h k n (pc + 1) L (.int (x >>> (y &&& 31)) :: S)) : W K l R n0 P h k n pc L (.int y :: .int x :: S) := by
  obtain ⟨p, e, s, m, args, below, meth, c⟩ := K
  obtain ⟨hx, hZ, hown, hby, -⟩ := ok
  intro T locs X eT N
  obtain ⟨s₂, o, st, r⟩ := w T locs X eT N
  exact ⟨s₂, o, XS.ishr X.here hx rfl (hb hby hd) rfl st, r⟩
theorem w_iushr (ok : Ok K Z n0 own code maxL ret nm) {x y : Int32} (hd : decode code pc = .ok (.iushr, 1)) (w : W K l R n0 P h k n (pc + 1) L (.int (XT.ushr x y) :: S)) : W K l R n0 P h k n pc L (.int y :: .int x :: S) := by
  obtain ⟨p, e, s, m, args, below, meth, c⟩ := K
  obtain ⟨hx, hZ, hown, hby, -⟩ := ok
  intro T locs X eT N
  obtain ⟨s₂, o, st, r⟩ := w T locs X eT N
  exact ⟨s₂, o, XS.iushr X.here hx rfl (hb hby hd) rfl st, r⟩
theorem w_ladd (ok : Ok K Z n0 own code maxL ret nm) {x y : Int64} (hd : decode code pc = .ok (.ladd, 1)) (w : W K l R n0 P h k n (pc + 1) L (.long (x + y) :: S)) : W K l R n0 P h k n pc L (.long y :: .long x :: S) := by
  obtain ⟨p, e, s, m, args, below, meth, c⟩ := K
  obtain ⟨hx, hZ, hown, hby, -⟩ := ok
  intro T locs X eT N
  obtain ⟨s₂, o, st, r⟩ := w T locs X eT N
  exact ⟨s₂, o, XS.ladd X.here hx rfl (hb hby hd) rfl st, r⟩
theorem w_lsub (ok : Ok K Z n0 own code maxL ret nm) {x y : Int64} (hd : decode code pc = .ok (.lsub, 1)) (w : W K l R n0 P h k n (pc + 1) L (.long (x - y) :: S)) : W K l R n0 P h k n pc L (.long y :: .long x :: S) := by
  obtain ⟨p, e, s, m, args, below, meth, c⟩ := K
  obtain ⟨hx, hZ, hown, hby, -⟩ := ok
  intro T locs X eT N
  obtain ⟨s₂, o, st, r⟩ := w T locs X eT N
  exact ⟨s₂, o, XS.lsub X.here hx rfl (hb hby hd) rfl st, r⟩
theorem w_lmul (ok : Ok K Z n0 own code maxL ret nm) {x y : Int64} (hd : decode code pc = .ok (.lmul, 1)) (w : W K l R n0 P h k n (pc + 1) L (.long (x * y) :: S)) : W K l R n0 P h k n pc L (.long y :: .long x :: S) := by
  obtain ⟨p, e, s, m, args, below, meth, c⟩ := K
  obtain ⟨hx, hZ, hown, hby, -⟩ := ok
  intro T locs X eT N
  obtain ⟨s₂, o, st, r⟩ := w T locs X eT N
  exact ⟨s₂, o, XS.lmul X.here hx rfl (hb hby hd) rfl st, r⟩
theorem w_land (ok : Ok K Z n0 own code maxL ret nm) {x y : Int64} (hd : decode code pc = .ok (.land, 1)) (w : W K l R n0 P h k n (pc + 1) L (.long (x &&& y) :: S)) : W K l R n0 P h k n pc L (.long y :: .long x :: S) := by
  obtain ⟨p, e, s, m, args, below, meth, c⟩ := K
  obtain ⟨hx, hZ, hown, hby, -⟩ := ok
  intro T locs X eT N
  obtain ⟨s₂, o, st, r⟩ := w T locs X eT N
  exact ⟨s₂, o, XS.land X.here hx rfl (hb hby hd) rfl st, r⟩
theorem w_lor (ok : Ok K Z n0 own code maxL ret nm) {x y : Int64} (hd : decode code pc = .ok (.lor, 1)) (w : W K l R n0 P h k n (pc + 1) L (.long (x ||| y) :: S)) : W K l R n0 P h k n pc L (.long y :: .long x :: S) := by
  obtain ⟨p, e, s, m, args, below, meth, c⟩ := K
  obtain ⟨hx, hZ, hown, hby, -⟩ := ok
  intro T locs X eT N
  obtain ⟨s₂, o, st, r⟩ := w T locs X eT N
  exact ⟨s₂, o, XS.lor X.here hx rfl (hb hby hd) rfl st, r⟩
theorem w_lxor (ok : Ok K Z n0 own code maxL ret nm) {x y : Int64} (hd : decode code pc = .ok (.lxor, 1)) (w : W K l R n0 P h k n (pc + 1) L (.long (x ^^^ y) :: S)) : W K l R n0 P h k n pc L (.long y :: .long x :: S) := by
  obtain ⟨p, e, s, m, args, below, meth, c⟩ := K
  obtain ⟨hx, hZ, hown, hby, -⟩ := ok
  intro T locs X eT N
  obtain ⟨s₂, o, st, r⟩ := w T locs X eT N
  exact ⟨s₂, o, XS.lxor X.here hx rfl (hb hby hd) rfl st, r⟩
theorem w_lshl (ok : Ok K Z n0 own code maxL ret nm) {x : Int64} {y : Int32} (hd : decode code pc = .ok (.lshl, 1)) (w : W K l R n0 P h k n (pc + 1) L (.long (x <<< (y &&& 0x3f).toInt64) :: S)) : W K l R n0 P h k n pc L (.int y :: .long x :: S) := by
  obtain ⟨p, e, s, m, args, below, meth, c⟩ := K
  obtain ⟨hx, hZ, hown, hby, -⟩ := ok
  intro T locs X eT N
  obtain ⟨s₂, o, st, r⟩ := w T locs X eT N
  exact ⟨s₂, o, XS.lshl X.here hx rfl (hb hby hd) rfl st, r⟩
theorem w_lshr (ok : Ok K Z n0 own code maxL ret nm) {x : Int64} {y : Int32} (hd : decode code pc = .ok (.lshr, 1)) (w : W K l R n0 P h k n (pc + 1) L (.long (x >>> (y &&& 0x3f).toInt64) :: S)) : W K l R n0 P h k n pc L (.int y :: .long x :: S) := by
  obtain ⟨p, e, s, m, args, below, meth, c⟩ := K
  obtain ⟨hx, hZ, hown, hby, -⟩ := ok
  intro T locs X eT N
  obtain ⟨s₂, o, st, r⟩ := w T locs X eT N
  exact ⟨s₂, o, XS.lshr X.here hx rfl (hb hby hd) rfl st, r⟩
theorem w_lushr (ok : Ok K Z n0 own code maxL ret nm) {x : Int64} {y : Int32} (hd : decode code pc = .ok (.lushr, 1)) (w : W K l R n0 P h k n (pc + 1) L (.long ((x.toUInt64 >>> (y &&& 0x3f).toInt64.toUInt64).toInt64) :: S)) : W K l R n0 P h k n pc L (.int y :: .long x :: S) := by
  obtain ⟨p, e, s, m, args, below, meth, c⟩ := K
  obtain ⟨hx, hZ, hown, hby, -⟩ := ok
  intro T locs X eT N
  obtain ⟨s₂, o, st, r⟩ := w T locs X eT N
  exact ⟨s₂, o, XS.lushr X.here hx rfl (hb hby hd) rfl st, r⟩
theorem w_i2l (ok : Ok K Z n0 own code maxL ret nm) {x : Int32} (hd : decode code pc = .ok (.i2l, 1)) (w : W K l R n0 P h k n (pc + 1) L (.long (x.toInt64) :: S)) : W K l R n0 P h k n pc L (.int x :: S) := by
  obtain ⟨p, e, s, m, args, below, meth, c⟩ := K
  obtain ⟨hx, hZ, hown, hby, -⟩ := ok
  intro T locs X eT N
  obtain ⟨s₂, o, st, r⟩ := w T locs X eT N
  exact ⟨s₂, o, XS.i2l X.here hx rfl (hb hby hd) rfl st, r⟩
theorem w_l2i (ok : Ok K Z n0 own code maxL ret nm) {x : Int64} (hd : decode code pc = .ok (.l2i, 1)) (w : W K l R n0 P h k n (pc + 1) L (.int (x.toInt32) :: S)) : W K l R n0 P h k n pc L (.long x :: S) := by
  obtain ⟨p, e, s, m, args, below, meth, c⟩ := K
  obtain ⟨hx, hZ, hown, hby, -⟩ := ok
  intro T locs X eT N
  obtain ⟨s₂, o, st, r⟩ := w T locs X eT N
  exact ⟨s₂, o, XS.l2i X.here hx rfl (hb hby hd) rfl st, r⟩
theorem w_i2b (ok : Ok K Z n0 own code maxL ret nm) {x : Int32} (hd : decode code pc = .ok (.i2b, 1)) (w : W K l R n0 P h k n (pc + 1) L (.int (x.toInt8.toInt32) :: S)) : W K l R n0 P h k n pc L (.int x :: S) := by
  obtain ⟨p, e, s, m, args, below, meth, c⟩ := K
  obtain ⟨hx, hZ, hown, hby, -⟩ := ok
  intro T locs X eT N
  obtain ⟨s₂, o, st, r⟩ := w T locs X eT N
  exact ⟨s₂, o, XS.i2b X.here hx rfl (hb hby hd) rfl st, r⟩
theorem w_i2c (ok : Ok K Z n0 own code maxL ret nm) {x : Int32} (hd : decode code pc = .ok (.i2c, 1)) (w : W K l R n0 P h k n (pc + 1) L (.int (x.toUInt32.toUInt16.toUInt32.toInt32) :: S)) : W K l R n0 P h k n pc L (.int x :: S) := by
  obtain ⟨p, e, s, m, args, below, meth, c⟩ := K
  obtain ⟨hx, hZ, hown, hby, -⟩ := ok
  intro T locs X eT N
  obtain ⟨s₂, o, st, r⟩ := w T locs X eT N
  exact ⟨s₂, o, XS.i2c X.here hx rfl (hb hby hd) rfl st, r⟩
theorem w_ineg (ok : Ok K Z n0 own code maxL ret nm) {x : Int32} (hd : decode code pc = .ok (.ineg, 1)) (w : W K l R n0 P h k n (pc + 1) L (.int (-x) :: S)) : W K l R n0 P h k n pc L (.int x :: S) := by
  obtain ⟨p, e, s, m, args, below, meth, c⟩ := K
  obtain ⟨hx, hZ, hown, hby, -⟩ := ok
  intro T locs X eT N
  obtain ⟨s₂, o, st, r⟩ := w T locs X eT N
  exact ⟨s₂, o, XS.ineg X.here hx rfl (hb hby hd) rfl st, r⟩
theorem w_idiv (ok : Ok K Z n0 own code maxL ret nm) {x y : Int32} (hd : decode code pc = .ok (.idiv, 1)) (hy : y ≠ 0) (w : W K l R n0 P h k n (pc + 1) L (.int (x / y) :: S)) : W K l R n0 P h k n pc L (.int y :: .int x :: S) := by
  obtain ⟨p, e, s, m, args, below, meth, c⟩ := K
  obtain ⟨hx, hZ, hown, hby, -⟩ := ok
  intro T locs X eT N
  obtain ⟨s₂, o, st, r⟩ := w T locs X eT N
  exact ⟨s₂, o, XS.idiv X.here hx rfl (hb hby hd) rfl hy st, r⟩
theorem w_irem (ok : Ok K Z n0 own code maxL ret nm) {x y : Int32} (hd : decode code pc = .ok (.irem, 1)) (hy : y ≠ 0) (w : W K l R n0 P h k n (pc + 1) L (.int (x % y) :: S)) : W K l R n0 P h k n pc L (.int y :: .int x :: S) := by
  obtain ⟨p, e, s, m, args, below, meth, c⟩ := K
  obtain ⟨hx, hZ, hown, hby, -⟩ := ok
  intro T locs X eT N
  obtain ⟨s₂, o, st, r⟩ := w T locs X eT N
  exact ⟨s₂, o, iremM X hx rfl (hb hby hd) rfl hy st, r⟩
theorem w_ldiv (ok : Ok K Z n0 own code maxL ret nm) {x y : Int64} (hd : decode code pc = .ok (.ldiv, 1)) (hy : y ≠ 0) (w : W K l R n0 P h k n (pc + 1) L (.long (x / y) :: S)) : W K l R n0 P h k n pc L (.long y :: .long x :: S) := by
  obtain ⟨p, e, s, m, args, below, meth, c⟩ := K
  obtain ⟨hx, hZ, hown, hby, -⟩ := ok
  intro T locs X eT N
  obtain ⟨s₂, o, st, r⟩ := w T locs X eT N
  exact ⟨s₂, o, XS.ldiv X.here hx rfl (hb hby hd) rfl hy st, r⟩
theorem w_lrem (ok : Ok K Z n0 own code maxL ret nm) {x y : Int64} (hd : decode code pc = .ok (.lrem, 1)) (hy : y ≠ 0) (w : W K l R n0 P h k n (pc + 1) L (.long (x % y) :: S)) : W K l R n0 P h k n pc L (.long y :: .long x :: S) := by
  obtain ⟨p, e, s, m, args, below, meth, c⟩ := K
  obtain ⟨hx, hZ, hown, hby, -⟩ := ok
  intro T locs X eT N
  obtain ⟨s₂, o, st, r⟩ := w T locs X eT N
  exact ⟨s₂, o, XS.lrem X.here hx rfl (hb hby hd) rfl hy (by rw [lrem_mod]; exact st), r⟩
theorem w_goto (ok : Ok K Z n0 own code maxL ret nm) {o : Int} {pc' : Nat} (hd : decode code pc = .ok (.goto o, 3)) (hp : (pc : Int) + o = (pc' : Int)) (w : W K l R n0 P h k n (pc') L (S)) : W K l R n0 P h k n pc L (S) := by
  obtain ⟨p, e, s, m, args, below, meth, c⟩ := K
  obtain ⟨hx, hZ, hown, hby, -⟩ := ok
  intro T locs X eT N
  obtain ⟨s₂, o, st, r⟩ := w T locs X eT N
  exact ⟨s₂, o, XS.goto X.here hx rfl (pc0 := pc) (pc' := pc') rfl (hb hby hd) (by rw [hp]; exact Int.natCast_nonneg _) (by rw [hp]; rfl) st, r⟩
theorem w_ldcI (ok : Ok K Z n0 own code maxL ret nm) {i : Nat} {v : Int32} (hd : decode code pc = .ok (.ldc i, 2)) (w1 : (Cond.constant own i v).before a0 Z = true) (w : W K l R n0 P h k n (pc + 2) L (.int v :: S)) : W K l R n0 P h k n pc L (S) := by
  obtain ⟨p, e, s, m, args, below, meth, c⟩ := K
  obtain ⟨hx, hZ, hown, hby, -⟩ := ok
  intro T locs X eT N
  obtain ⟨s₂, o, st, r⟩ := w T locs X eT N
  exact ⟨s₂, o, X.ldcInt hx hown (mvT hZ w1) (g := mkF m pc L S) rfl (hb hby hd) _ st, r⟩
theorem w_ldc2J (ok : Ok K Z n0 own code maxL ret nm) {i : Nat} {v : Int64} (hd : decode code pc = .ok (.ldc2_w i, 3)) (w1 : (Cond.constantLong own i v).before a0 Z = true) (w : W K l R n0 P h k n (pc + 3) L (.long v :: S)) : W K l R n0 P h k n pc L (S) := by
  obtain ⟨p, e, s, m, args, below, meth, c⟩ := K
  obtain ⟨hx, hZ, hown, hby, -⟩ := ok
  intro T locs X eT N
  obtain ⟨s₂, o, st, r⟩ := w T locs X eT N
  exact ⟨s₂, o, X.ldc2Long hx hown (mvT hZ w1) (g := mkF m pc L S) rfl (hb hby hd) _ st, r⟩
theorem w_icmp_eq (ok : Ok K Z n0 own code maxL ret nm) {x y : Int32} {o : Int} {pc' : Nat} (hd : decode code pc = .ok (.if_icmp .eq o, 3)) (hp : (pc : Int) + o = (pc' : Int)) (wy : x = y → W K l R n0 P h k n pc' L S) (wn : ¬ x = y → W K l R n0 P h k n (pc + 3) L S) : W K l R n0 P h k n pc L (.int y :: .int x :: S) := by
  obtain ⟨p, e, s, m, args, below, meth, c⟩ := K
  obtain ⟨hx, hZ, hown, hby, -⟩ := ok
  intro T locs X eT N
  by_cases hc : x = y
  · obtain ⟨s₂, o, st, r⟩ := wy hc T locs X eT N
    exact ⟨s₂, o, XS.icmpYes X.here hx rfl (pc0 := pc) (pc' := pc') rfl (hb hby hd) rfl (teq hc).1 (by rw [hp]; exact Int.natCast_nonneg _) (by rw [hp]; rfl) st, r⟩
  · obtain ⟨s₂, o, st, r⟩ := wn hc T locs X eT N
    exact ⟨s₂, o, XS.icmpNo X.here hx rfl (hb hby hd) rfl (feq hc).1 st, r⟩
theorem w_if_eq (ok : Ok K Z n0 own code maxL ret nm) {x : Int32} {o : Int} {pc' : Nat} (hd : decode code pc = .ok (.ifCond .eq o, 3)) (hp : (pc : Int) + o = (pc' : Int)) (wy : x = 0 → W K l R n0 P h k n pc' L S) (wn : ¬ x = 0 → W K l R n0 P h k n (pc + 3) L S) : W K l R n0 P h k n pc L (.int x :: S) := by
  obtain ⟨p, e, s, m, args, below, meth, c⟩ := K
  obtain ⟨hx, hZ, hown, hby, -⟩ := ok
  intro T locs X eT N
  by_cases hc : x = 0
  · obtain ⟨s₂, o, st, r⟩ := wy hc T locs X eT N
    exact ⟨s₂, o, XS.ifYes X.here hx rfl (pc0 := pc) (pc' := pc') rfl (hb hby hd) rfl ((if0 _ _).trans (teq hc).1) (by rw [hp]; exact Int.natCast_nonneg _) (by rw [hp]; rfl) st, r⟩
  · obtain ⟨s₂, o, st, r⟩ := wn hc T locs X eT N
    exact ⟨s₂, o, XS.ifNo X.here hx rfl (hb hby hd) rfl ((if0 _ _).trans (feq hc).1) st, r⟩
theorem w_icmp_ne (ok : Ok K Z n0 own code maxL ret nm) {x y : Int32} {o : Int} {pc' : Nat} (hd : decode code pc = .ok (.if_icmp .ne o, 3)) (hp : (pc : Int) + o = (pc' : Int)) (wy : ¬ x = y → W K l R n0 P h k n pc' L S) (wn : x = y → W K l R n0 P h k n (pc + 3) L S) : W K l R n0 P h k n pc L (.int y :: .int x :: S) := by
  obtain ⟨p, e, s, m, args, below, meth, c⟩ := K
  obtain ⟨hx, hZ, hown, hby, -⟩ := ok
  intro T locs X eT N
  by_cases hc : x = y
  · obtain ⟨s₂, o, st, r⟩ := wn hc T locs X eT N
    exact ⟨s₂, o, XS.icmpNo X.here hx rfl (hb hby hd) rfl (teq hc).2 st, r⟩
  · obtain ⟨s₂, o, st, r⟩ := wy hc T locs X eT N
    exact ⟨s₂, o, XS.icmpYes X.here hx rfl (pc0 := pc) (pc' := pc') rfl (hb hby hd) rfl (feq hc).2 (by rw [hp]; exact Int.natCast_nonneg _) (by rw [hp]; rfl) st, r⟩
theorem w_if_ne (ok : Ok K Z n0 own code maxL ret nm) {x : Int32} {o : Int} {pc' : Nat} (hd : decode code pc = .ok (.ifCond .ne o, 3)) (hp : (pc : Int) + o = (pc' : Int)) (wy : ¬ x = 0 → W K l R n0 P h k n pc' L S) (wn : x = 0 → W K l R n0 P h k n (pc + 3) L S) : W K l R n0 P h k n pc L (.int x :: S) := by
  obtain ⟨p, e, s, m, args, below, meth, c⟩ := K
  obtain ⟨hx, hZ, hown, hby, -⟩ := ok
  intro T locs X eT N
  by_cases hc : x = 0
  · obtain ⟨s₂, o, st, r⟩ := wn hc T locs X eT N
    exact ⟨s₂, o, XS.ifNo X.here hx rfl (hb hby hd) rfl ((if0 _ _).trans (teq hc).2) st, r⟩
  · obtain ⟨s₂, o, st, r⟩ := wy hc T locs X eT N
    exact ⟨s₂, o, XS.ifYes X.here hx rfl (pc0 := pc) (pc' := pc') rfl (hb hby hd) rfl ((if0 _ _).trans (feq hc).2) (by rw [hp]; exact Int.natCast_nonneg _) (by rw [hp]; rfl) st, r⟩
theorem w_icmp_lt (ok : Ok K Z n0 own code maxL ret nm) {x y : Int32} {o : Int} {pc' : Nat} (hd : decode code pc = .ok (.if_icmp .lt o, 3)) (hp : (pc : Int) + o = (pc' : Int)) (wy : x < y → W K l R n0 P h k n pc' L S) (wn : ¬ x < y → W K l R n0 P h k n (pc + 3) L S) : W K l R n0 P h k n pc L (.int y :: .int x :: S) := by
  obtain ⟨p, e, s, m, args, below, meth, c⟩ := K
  obtain ⟨hx, hZ, hown, hby, -⟩ := ok
  intro T locs X eT N
  by_cases hc : x < y
  · obtain ⟨s₂, o, st, r⟩ := wy hc T locs X eT N
    exact ⟨s₂, o, XS.icmpYes X.here hx rfl (pc0 := pc) (pc' := pc') rfl (hb hby hd) rfl (tlt hc).1 (by rw [hp]; exact Int.natCast_nonneg _) (by rw [hp]; rfl) st, r⟩
  · obtain ⟨s₂, o, st, r⟩ := wn hc T locs X eT N
    exact ⟨s₂, o, XS.icmpNo X.here hx rfl (hb hby hd) rfl (flt hc).1 st, r⟩
theorem w_if_lt (ok : Ok K Z n0 own code maxL ret nm) {x : Int32} {o : Int} {pc' : Nat} (hd : decode code pc = .ok (.ifCond .lt o, 3)) (hp : (pc : Int) + o = (pc' : Int)) (wy : x < 0 → W K l R n0 P h k n pc' L S) (wn : ¬ x < 0 → W K l R n0 P h k n (pc + 3) L S) : W K l R n0 P h k n pc L (.int x :: S) := by
  obtain ⟨p, e, s, m, args, below, meth, c⟩ := K
  obtain ⟨hx, hZ, hown, hby, -⟩ := ok
  intro T locs X eT N
  by_cases hc : x < 0
  · obtain ⟨s₂, o, st, r⟩ := wy hc T locs X eT N
    exact ⟨s₂, o, XS.ifYes X.here hx rfl (pc0 := pc) (pc' := pc') rfl (hb hby hd) rfl ((if0 _ _).trans (tlt hc).1) (by rw [hp]; exact Int.natCast_nonneg _) (by rw [hp]; rfl) st, r⟩
  · obtain ⟨s₂, o, st, r⟩ := wn hc T locs X eT N
    exact ⟨s₂, o, XS.ifNo X.here hx rfl (hb hby hd) rfl ((if0 _ _).trans (flt hc).1) st, r⟩
theorem w_icmp_ge (ok : Ok K Z n0 own code maxL ret nm) {x y : Int32} {o : Int} {pc' : Nat} (hd : decode code pc = .ok (.if_icmp .ge o, 3)) (hp : (pc : Int) + o = (pc' : Int)) (wy : ¬ x < y → W K l R n0 P h k n pc' L S) (wn : x < y → W K l R n0 P h k n (pc + 3) L S) : W K l R n0 P h k n pc L (.int y :: .int x :: S) := by
  obtain ⟨p, e, s, m, args, below, meth, c⟩ := K
  obtain ⟨hx, hZ, hown, hby, -⟩ := ok
  intro T locs X eT N
  by_cases hc : x < y
  · obtain ⟨s₂, o, st, r⟩ := wn hc T locs X eT N
    exact ⟨s₂, o, XS.icmpNo X.here hx rfl (hb hby hd) rfl (tlt hc).2.1 st, r⟩
  · obtain ⟨s₂, o, st, r⟩ := wy hc T locs X eT N
    exact ⟨s₂, o, XS.icmpYes X.here hx rfl (pc0 := pc) (pc' := pc') rfl (hb hby hd) rfl (flt hc).2.1 (by rw [hp]; exact Int.natCast_nonneg _) (by rw [hp]; rfl) st, r⟩
theorem w_if_ge (ok : Ok K Z n0 own code maxL ret nm) {x : Int32} {o : Int} {pc' : Nat} (hd : decode code pc = .ok (.ifCond .ge o, 3)) (hp : (pc : Int) + o = (pc' : Int)) (wy : ¬ x < 0 → W K l R n0 P h k n pc' L S) (wn : x < 0 → W K l R n0 P h k n (pc + 3) L S) : W K l R n0 P h k n pc L (.int x :: S) := by
  obtain ⟨p, e, s, m, args, below, meth, c⟩ := K
  obtain ⟨hx, hZ, hown, hby, -⟩ := ok
  intro T locs X eT N
  by_cases hc : x < 0
  · obtain ⟨s₂, o, st, r⟩ := wn hc T locs X eT N
    exact ⟨s₂, o, XS.ifNo X.here hx rfl (hb hby hd) rfl ((if0 _ _).trans (tlt hc).2.1) st, r⟩
  · obtain ⟨s₂, o, st, r⟩ := wy hc T locs X eT N
    exact ⟨s₂, o, XS.ifYes X.here hx rfl (pc0 := pc) (pc' := pc') rfl (hb hby hd) rfl ((if0 _ _).trans (flt hc).2.1) (by rw [hp]; exact Int.natCast_nonneg _) (by rw [hp]; rfl) st, r⟩
theorem w_icmp_gt (ok : Ok K Z n0 own code maxL ret nm) {x y : Int32} {o : Int} {pc' : Nat} (hd : decode code pc = .ok (.if_icmp .gt o, 3)) (hp : (pc : Int) + o = (pc' : Int)) (wy : y < x → W K l R n0 P h k n pc' L S) (wn : ¬ y < x → W K l R n0 P h k n (pc + 3) L S) : W K l R n0 P h k n pc L (.int y :: .int x :: S) := by
  obtain ⟨p, e, s, m, args, below, meth, c⟩ := K
  obtain ⟨hx, hZ, hown, hby, -⟩ := ok
  intro T locs X eT N
  by_cases hc : y < x
  · obtain ⟨s₂, o, st, r⟩ := wy hc T locs X eT N
    exact ⟨s₂, o, XS.icmpYes X.here hx rfl (pc0 := pc) (pc' := pc') rfl (hb hby hd) rfl (tlt hc).2.2.1 (by rw [hp]; exact Int.natCast_nonneg _) (by rw [hp]; rfl) st, r⟩
  · obtain ⟨s₂, o, st, r⟩ := wn hc T locs X eT N
    exact ⟨s₂, o, XS.icmpNo X.here hx rfl (hb hby hd) rfl (flt hc).2.2.1 st, r⟩
theorem w_if_gt (ok : Ok K Z n0 own code maxL ret nm) {x : Int32} {o : Int} {pc' : Nat} (hd : decode code pc = .ok (.ifCond .gt o, 3)) (hp : (pc : Int) + o = (pc' : Int)) (wy : 0 < x → W K l R n0 P h k n pc' L S) (wn : ¬ 0 < x → W K l R n0 P h k n (pc + 3) L S) : W K l R n0 P h k n pc L (.int x :: S) := by
  obtain ⟨p, e, s, m, args, below, meth, c⟩ := K
  obtain ⟨hx, hZ, hown, hby, -⟩ := ok
  intro T locs X eT N
  by_cases hc : 0 < x
  · obtain ⟨s₂, o, st, r⟩ := wy hc T locs X eT N
    exact ⟨s₂, o, XS.ifYes X.here hx rfl (pc0 := pc) (pc' := pc') rfl (hb hby hd) rfl ((if0 _ _).trans (tlt hc).2.2.1) (by rw [hp]; exact Int.natCast_nonneg _) (by rw [hp]; rfl) st, r⟩
  · obtain ⟨s₂, o, st, r⟩ := wn hc T locs X eT N
    exact ⟨s₂, o, XS.ifNo X.here hx rfl (hb hby hd) rfl ((if0 _ _).trans (flt hc).2.2.1) st, r⟩
theorem w_icmp_le (ok : Ok K Z n0 own code maxL ret nm) {x y : Int32} {o : Int} {pc' : Nat} (hd : decode code pc = .ok (.if_icmp .le o, 3)) (hp : (pc : Int) + o = (pc' : Int)) (wy : ¬ y < x → W K l R n0 P h k n pc' L S) (wn : y < x → W K l R n0 P h k n (pc + 3) L S) : W K l R n0 P h k n pc L (.int y :: .int x :: S) := by
  obtain ⟨p, e, s, m, args, below, meth, c⟩ := K
  obtain ⟨hx, hZ, hown, hby, -⟩ := ok
  intro T locs X eT N
  by_cases hc : y < x
  · obtain ⟨s₂, o, st, r⟩ := wn hc T locs X eT N
    exact ⟨s₂, o, XS.icmpNo X.here hx rfl (hb hby hd) rfl (tlt hc).2.2.2 st, r⟩
  · obtain ⟨s₂, o, st, r⟩ := wy hc T locs X eT N
    exact ⟨s₂, o, XS.icmpYes X.here hx rfl (pc0 := pc) (pc' := pc') rfl (hb hby hd) rfl (flt hc).2.2.2 (by rw [hp]; exact Int.natCast_nonneg _) (by rw [hp]; rfl) st, r⟩
theorem w_if_le (ok : Ok K Z n0 own code maxL ret nm) {x : Int32} {o : Int} {pc' : Nat} (hd : decode code pc = .ok (.ifCond .le o, 3)) (hp : (pc : Int) + o = (pc' : Int)) (wy : ¬ 0 < x → W K l R n0 P h k n pc' L S) (wn : 0 < x → W K l R n0 P h k n (pc + 3) L S) : W K l R n0 P h k n pc L (.int x :: S) := by
  obtain ⟨p, e, s, m, args, below, meth, c⟩ := K
  obtain ⟨hx, hZ, hown, hby, -⟩ := ok
  intro T locs X eT N
  by_cases hc : 0 < x
  · obtain ⟨s₂, o, st, r⟩ := wn hc T locs X eT N
    exact ⟨s₂, o, XS.ifNo X.here hx rfl (hb hby hd) rfl ((if0 _ _).trans (tlt hc).2.2.2) st, r⟩
  · obtain ⟨s₂, o, st, r⟩ := wy hc T locs X eT N
    exact ⟨s₂, o, XS.ifYes X.here hx rfl (pc0 := pc) (pc' := pc') rfl (hb hby hd) rfl ((if0 _ _).trans (flt hc).2.2.2) (by rw [hp]; exact Int.natCast_nonneg _) (by rw [hp]; rfl) st, r⟩
theorem w_lcmp (ok : Ok K Z n0 own code maxL ret nm) {x y : Int64} (hd : decode code pc = .ok (.lcmp, 1)) (w : W K l R n0 P h k n (pc + 1) L (.int (lcmpW x y) :: S)) : W K l R n0 P h k n pc L (.long y :: .long x :: S) := by
  obtain ⟨p, e, s, m, args, below, meth, c⟩ := K
  obtain ⟨hx, hZ, hown, hby, -⟩ := ok
  intro T locs X eT N
  obtain ⟨s₂, o, st, r⟩ := w T locs X eT N
  exact ⟨s₂, o, XS.lcmp X.here hx rfl (hb hby hd) rfl st, r⟩
theorem w_lcmp_eq (ok : Ok K Z n0 own code maxL ret nm) {x y : Int64} {o : Int} {pc' : Nat} (hd : decode code pc = .ok (.lcmp, 1)) (hd2 : decode code (pc + 1) = .ok (.ifCond .eq o, 3)) (hp : ((pc + 1 : Nat) : Int) + o = (pc' : Int)) (wy : x = y → W K l R n0 P h k n pc' L S) (wn : ¬ x = y → W K l R n0 P h k n (pc + 4) L S) : W K l R n0 P h k n pc L (.long y :: .long x :: S) :=
  w_lcmp ok hd (w_if_eq ok hd2 hp (fun hc => wy ((lw_eq x y).mp hc)) (fun hc => wn (fun q => hc ((lw_eq x y).mpr q))))
theorem w_lcmp_ne (ok : Ok K Z n0 own code maxL ret nm) {x y : Int64} {o : Int} {pc' : Nat} (hd : decode code pc = .ok (.lcmp, 1)) (hd2 : decode code (pc + 1) = .ok (.ifCond .ne o, 3)) (hp : ((pc + 1 : Nat) : Int) + o = (pc' : Int)) (wy : ¬ x = y → W K l R n0 P h k n pc' L S) (wn : x = y → W K l R n0 P h k n (pc + 4) L S) : W K l R n0 P h k n pc L (.long y :: .long x :: S) :=
  w_lcmp ok hd (w_if_ne ok hd2 hp (fun hc => wy (fun q => hc ((lw_eq x y).mpr q))) (fun hc => wn ((lw_eq x y).mp hc)))
theorem w_lcmp_lt (ok : Ok K Z n0 own code maxL ret nm) {x y : Int64} {o : Int} {pc' : Nat} (hd : decode code pc = .ok (.lcmp, 1)) (hd2 : decode code (pc + 1) = .ok (.ifCond .lt o, 3)) (hp : ((pc + 1 : Nat) : Int) + o = (pc' : Int)) (wy : x < y → W K l R n0 P h k n pc' L S) (wn : ¬ x < y → W K l R n0 P h k n (pc + 4) L S) : W K l R n0 P h k n pc L (.long y :: .long x :: S) :=
  w_lcmp ok hd (w_if_lt ok hd2 hp (fun hc => wy ((lw_lt x y).mp hc)) (fun hc => wn (fun q => hc ((lw_lt x y).mpr q))))
theorem w_lcmp_ge (ok : Ok K Z n0 own code maxL ret nm) {x y : Int64} {o : Int} {pc' : Nat} (hd : decode code pc = .ok (.lcmp, 1)) (hd2 : decode code (pc + 1) = .ok (.ifCond .ge o, 3)) (hp : ((pc + 1 : Nat) : Int) + o = (pc' : Int)) (wy : ¬ x < y → W K l R n0 P h k n pc' L S) (wn : x < y → W K l R n0 P h k n (pc + 4) L S) : W K l R n0 P h k n pc L (.long y :: .long x :: S) :=
  w_lcmp ok hd (w_if_ge ok hd2 hp (fun hc => wy (fun q => hc ((lw_lt x y).mpr q))) (fun hc => wn ((lw_lt x y).mp hc)))
theorem w_lcmp_gt (ok : Ok K Z n0 own code maxL ret nm) {x y : Int64} {o : Int} {pc' : Nat} (hd : decode code pc = .ok (.lcmp, 1)) (hd2 : decode code (pc + 1) = .ok (.ifCond .gt o, 3)) (hp : ((pc + 1 : Nat) : Int) + o = (pc' : Int)) (wy : y < x → W K l R n0 P h k n pc' L S) (wn : ¬ y < x → W K l R n0 P h k n (pc + 4) L S) : W K l R n0 P h k n pc L (.long y :: .long x :: S) :=
  w_lcmp ok hd (w_if_gt ok hd2 hp (fun hc => wy ((lw_gt x y).mp hc)) (fun hc => wn (fun q => hc ((lw_gt x y).mpr q))))
theorem w_lcmp_le (ok : Ok K Z n0 own code maxL ret nm) {x y : Int64} {o : Int} {pc' : Nat} (hd : decode code pc = .ok (.lcmp, 1)) (hd2 : decode code (pc + 1) = .ok (.ifCond .le o, 3)) (hp : ((pc + 1 : Nat) : Int) + o = (pc' : Int)) (wy : ¬ y < x → W K l R n0 P h k n pc' L S) (wn : y < x → W K l R n0 P h k n (pc + 4) L S) : W K l R n0 P h k n pc L (.long y :: .long x :: S) :=
  w_lcmp ok hd (w_if_le ok hd2 hp (fun hc => wy (fun q => hc ((lw_gt x y).mpr q))) (fun hc => wn ((lw_gt x y).mp hc)))
theorem w_out {t : FieldType} {i : Instr} {w : Value} (ok : Ok K Z n0 own code maxL (some t) nm) (hn : narrow t w = w) (hi : (i = .ireturn ∧ (t = .int ∨ t = .boolean ∨ t = .byte ∨ t = .char ∨ t = .short) ∧ ∃ z, w = .int z) ∨ (i = .lreturn ∧ t = .long ∧ ∃ z, w = .long z) ∨ (i = .dreturn ∧ t = .double ∧ ∃ z, w = .double z) ∨ (i = .freturn ∧ t = .float ∧ ∃ z, w = .float z) ∨ (i = .areturn ∧ t.isReference = true ∧ w.isRef = true))
    (hd : decode code pc = .ok (i, 1)) (hk : k ≤ R.cells) (hs : n ≤ R.slots) (hP : P (some w) h) : W K l R n0 P h k n pc L (w :: S) := by
  obtain ⟨p, e, s, m, args, below, meth, c⟩ := K
  obtain ⟨hx, hZ, hown, hby, hml, hret, hnm, hlk, hn0⟩ := ok
  intro T locs X eT N
  obtain ⟨fs, hr, hrun, hended, hW, hsame⟩ := X.leave (v := some w) (fun q => by rw [hret] at q; cases q)
  exact ⟨_, _, retOut X hx hret hn hi (hb hby hd) hr, hrun, hended, _, _, rfl, ⟨by show P (some w) T.heap; rw [eT]; exact hP, N⟩, ⟨_, rfl⟩, hW, hsame.mono hk hs⟩
theorem w_iret {z : Int32} (ok : Ok K Z n0 own code maxL (some .int) nm) (hd : decode code pc = .ok (.ireturn, 1)) (hk : k ≤ R.cells) (hs : n ≤ R.slots) (hP : P (some (.int z)) h) : W K l R n0 P h k n pc L (.int z :: S) :=
  w_out ok rfl (Or.inl ⟨rfl, by simp, z, rfl⟩) hd hk hs hP
theorem w_lret {z : Int64} (ok : Ok K Z n0 own code maxL (some .long) nm) (hd : decode code pc = .ok (.lreturn, 1)) (hk : k ≤ R.cells) (hs : n ≤ R.slots) (hP : P (some (.long z)) h) : W K l R n0 P h k n pc L (.long z :: S) :=
  w_out ok rfl (Or.inr (Or.inl ⟨rfl, rfl, z, rfl⟩)) hd hk hs hP
theorem w_aret {w : Value} {t : FieldType} (ok : Ok K Z n0 own code maxL (some t) nm) (ht : t.isReference = true) (hw : w.isRef = true) (hd : decode code pc = .ok (.areturn, 1)) (hk : k ≤ R.cells) (hs : n ≤ R.slots) (hP : P (some w) h) : W K l R n0 P h k n pc L (w :: S) :=
  w_out ok (by rcases ref_cases hw with rfl | ⟨_, rfl⟩ <;> cases t <;> first | rfl | cases ht) (Or.inr (Or.inr (Or.inr (Or.inr ⟨rfl, ht, hw⟩)))) hd hk hs hP
theorem w_bret {z : Int32} {t : FieldType} (ok : Ok K Z n0 own code maxL (some t) nm) (ht : t = .boolean ∨ t = .byte ∨ t = .char ∨ t = .short) (hd : decode code pc = .ok (.ireturn, 1)) (hk : k ≤ R.cells) (hs : n ≤ R.slots) (hP : P (some (.int (nar t z))) h) : W K l R n0 P h k n pc L (.int z :: S) := by
  obtain ⟨p, e, s, m, args, below, meth, c⟩ := K
  obtain ⟨hx, hZ, hown, hby, hml, hret, hnm, hlk, hn0⟩ := ok
  intro T locs X eT N
  obtain ⟨fs, hr, hrun, hended, hW, hsame⟩ := X.leave (v := some (.int (nar t z))) (fun q => by rw [hret] at q; cases q)
  exact ⟨_, _, retN X hx hret ht (hb hby hd) hr, hrun, hended, _, _, rfl, ⟨by show P (some (.int (nar t z))) T.heap; rw [eT]; exact hP, N⟩, ⟨_, rfl⟩, hW, hsame.mono hk hs⟩
theorem w_ret (ok : Ok K Z n0 own code maxL none nm) (hd : decode code pc = .ok (.return_, 1)) (hk : k ≤ R.cells) (hs : n ≤ R.slots) (hP : P none h) : W K l R n0 P h k n pc L [] := by
  obtain ⟨p, e, s, m, args, below, meth, c⟩ := K
  obtain ⟨hx, hZ, hown, hby, hml, hret, hnm, hlk, hn0⟩ := ok
  intro T locs X eT N
  obtain ⟨fs, hr, hrun, hended, hW, hsame⟩ := X.leave (v := none) (fun _ => rfl)
  exact ⟨_, _, X.returnOut hx hret (hb hby hd) hr, hrun, hended, _, _, rfl, ⟨by show P none T.heap; rw [eT]; exact hP, N⟩, ⟨_, rfl⟩, hW, hsame.mono hk hs⟩
abbrev notHandle (y : MethodName) : Prop := y.cls ≠ "java/lang/invoke/MethodHandle" ∧ y.cls ≠ "java/lang/invoke/VarHandle"
theorem w_callS (ok : Ok K Z n0 own code maxL ret nm) {index : Nat} {y : MethodName} {bytes : ByteArray} {mL : Nat} {rt : Option FieldType} {rm : Room} {argsL rest : List Value} {Q : Option Value → Heap → Prop} {ps : List FieldType} {r : Option FieldType}
    (hd : decode code pc = .ok (.invokestatic index, 3)) (w1 : (Cond.methodLink own index y).before a0 Z = true) (w2 : (Cond.static y).before a0 Z = true) (w3 : (Cond.initialized y.cls).before a0 Z = true) (w4 : (Cond.code y bytes mL rt).before a0 Z = true) (hy : notHandle y)
    (pd : parseMethodDescriptor y.desc = some ⟨ps, r⟩) (hlen : argsL.length = ps.length) (hL : L.size = maxL) (hf : rm.frames + 1 ≤ R.frames) (hl : (rest.map fun v => v.category).sum + (mL + 11) + rm.locals ≤ R.locals) (hc : k + rm.cells ≤ R.cells) (hs : n + rm.slots ≤ R.slots)
    (hM : Old Z n0 h → Met l Z n0 y bytes mL rt [] rm argsL.toArray h Q) (w : ∀ v h', Q v h' → W K l R n0 P h' (k + rm.cells) (n + rm.slots) (pc + 3) L (v.toList ++ rest)) : W K l R n0 P h k n pc L (argsL.reverse ++ rest) := by
  obtain ⟨p, e, s, m, args, below, meth, c⟩ := K
  obtain ⟨hx, hZ, hown, hby, hml, hret, hnm, hlk, hn0⟩ := ok
  intro T locs X eT N
  have hM := hM (by rw [← eT]; exact old_now hn0 X N)
  obtain ⟨v, _, ⟨T1, L1, k1, n1⟩, -, X1, ⟨Lc, ⟨hQ, N1⟩, l1, y1, z1⟩, st⟩ := Jvm.LawKit.callS X hx (y := y) hown (mvT hZ w1) (mvT hZ w2) (mvT hZ w3) (mvT hZ w4) hy (backOf (W := (rest.map fun v => v.category).sum) (Q := fun v h L => Q v h ∧ Fr n0 L) hM hZ w4 w3 hf hl) (g := mkF m pc L (argsL.reverse ++ rest)) rfl (hL.trans hml.symm) (argsL := argsL) (rest := rest) (lenOf pd hlen) rfl (by show 2 * 0 + _ ≤ _; omega) (hb hby hd) (fun _ _ => ⟨rfl, eT, hc, hs⟩)
  dsimp only [Pt.U, Pt.locs, Pt.cells, Pt.slots] at X1 l1 y1 z1 st hQ
  subst l1 y1 z1
  obtain ⟨s₂, o, st2, r2⟩ := w v _ hQ T1 _ X1 rfl (Fr.app N N1)
  exact ⟨s₂, o, st _ st2, r2⟩
theorem pa_z {N : Nat} (q : N < 2 ^ 31) : ∃ z : Int32, N = z.toNatClampNeg ∧ ¬ z < 0 := by
  have e : (Int32.ofNat N).toInt = N := Int32.toInt_ofNat_of_lt q
  refine ⟨Int32.ofNat N, ?_, ?_⟩
  · simp [Int32.toNatClampNeg, e]
  · rw [Int32.lt_iff_toInt_lt, e]; simp
def PA (ty : FieldType) (Z : State) (h : Heap) (a : Addr) (vs : List Value) : Prop := ∃ c : Cell, Arr Z h a c ty ∧ vs.length < 2 ^ 31 ∧ c.slots = vs.toArray ∧ ∀ v ∈ vs, fits ty v = true
theorem pa_in {c : Cell} {vs : List Value} {j : Int32} (q : c.slots = vs.toArray) (h0 : ¬ j < 0) (hj : j.toNatClampNeg < vs.length) : ¬ (j < 0 ∨ c.slots.size ≤ j.toNatClampNeg) := by
  rw [q]; rintro (y | y)
  · exact h0 y
  · simp at y; omega
section PAs
variable {ty : FieldType} {h' : Heap} {a b : Addr} {vs : List Value} {v : Value} {sl : Nat} {ws : List Addr}
theorem PA.lt (A : PA ty Z h a vs) : a < h.size := by obtain ⟨c, A, -⟩ := A; exact A.lt
theorem PA.len (A : PA ty Z h a vs) : vs.length < 2 ^ 31 := by obtain ⟨c, A, q, -⟩ := A; exact q
theorem PA.ext (A : PA ty Z h a vs) (E : Ext h h') : PA ty Z h' a vs := by obtain ⟨c, A, r⟩ := A; exact ⟨c, A.ext E, r⟩
theorem PA.other (A : PA ty Z h b vs) (W1 : Wr h h' a sl v) (ne : b ≠ a) : PA ty Z h' b vs := by obtain ⟨c, A, r⟩ := A; exact ⟨c, A.other W1 ne, r⟩
theorem PA.keep (A : PA ty Z h a vs) (K1 : Keep h h' ws) (q : a ∉ ws) : PA ty Z h' a vs := by obtain ⟨c, A, r⟩ := A; exact ⟨c, ⟨K1.2.1 a c A.1 q, A.2⟩, r⟩
theorem PA.set (A : PA ty Z h a vs) (W1 : Wr h h' a sl v) (hv : fits ty v = true) : PA ty Z h' a (vs.set sl v) := by
  obtain ⟨c, A, hl, hs, hf⟩ := A
  refine ⟨c.setSlot sl v, A.same W1, by rw [List.length_set]; exact hl, ?_, ?_⟩
  · show c.slots.setIfInBounds sl v = _
    rw [hs]; simp
  · intro u hu
    rcases List.mem_or_eq_of_mem_set hu with q | rfl
    · exact hf _ q
    · exact hv
theorem PA.arv (A : PA ty Z h a vs) {z : Int32} (hz : vs.length = z.toNatClampNeg) (hz0 : ¬ z < 0) (d : Value) : ∃ k, Arv Z h a k ty z vs d := by
  obtain ⟨c, A, hl, hs, hf⟩ := A
  refine ⟨c.cls, c, A, rfl, by rw [hs]; simpa using hz, hz0, fun i hi => ?_, fun i hi => ?_⟩
  · rw [hs] at hi ⊢
    simp at hi
    simp [List.getD_eq_getElem?_getD, List.getElem?_eq_getElem hi]
  · rw [hs] at hi
    simp at hi
    rw [List.getD_eq_getElem?_getD, List.getElem?_eq_getElem hi]
    exact hf _ (List.getElem_mem hi)
theorem PA.of_arv {k : ClassId} {z : Int32} {d : Value} (B : Arv Z h a k ty z vs d) (hl : vs.length = z.toNatClampNeg) : PA ty Z h a vs := by
  obtain ⟨c, A, -, S1, N1, H, G⟩ := B
  have e : c.slots = vs.toArray := by
    apply Array.ext_getElem?
    intro i
    by_cases q : i < c.slots.size
    · rw [H i q]
      have q2 : i < vs.length := by omega
      simp [List.getD_eq_getElem?_getD, List.getElem?_eq_getElem q2]
    · rw [Array.getElem?_eq_none (by omega)]
      simp; omega
  refine ⟨c, A, by have := (back32 N1).2; omega, e, fun v hv => ?_⟩
  obtain ⟨i, hi, rfl⟩ := List.getElem_of_mem hv
  have q := G i (by omega)
  rw [List.getD_eq_getElem?_getD, List.getElem?_eq_getElem hi] at q
  exact q
end PAs
theorem w_arraylength (ok : Ok K Z n0 own code maxL ret nm) {ty : FieldType} {a : Addr} {vs : List Value} {z : Int32} (hd : decode code pc = .ok (.arraylength, 1)) (A : PA ty Z h a vs) (hz : vs.length = z.toNatClampNeg) (hz0 : ¬ z < 0) (w : W K l R n0 P h k n (pc + 1) L (.int z :: S)) : W K l R n0 P h k n pc L (.ref a :: S) := by
  obtain ⟨p, e, s, m, args, below, meth, c⟩ := K
  obtain ⟨hx, hZ, hown, hby, -⟩ := ok
  intro T locs X eT N
  obtain ⟨s₂, o, st, r⟩ := w T locs X eT N
  obtain ⟨cl, A, q1, q2, q3⟩ := A
  have e1 : cl.slots.size.toInt32 = z := len_of (by rw [q2]; simpa using hz) hz0
  exact ⟨s₂, o, X.arraylength hx (by rw [eT]; exact A.1) (State.isArrayOf_alike hZ.alike A.2.1) (g := mkF m pc L (.ref a :: S)) rfl rfl (hb hby hd) _ (by rw [e1]; exact st), r⟩
theorem w_newarray (ok : Ok K Z n0 own code maxL ret nm) {aty : ArrayType} {z : Int32} (hd : decode code pc = .ok (.newarray aty, 2)) (w1 : (Cond.arrayClass (newarray.typeOf aty)).before a0 Z = true) (hz : ¬ z < 0) {cap : Nat} (hcap : z.toNatClampNeg ≤ cap) (hb1 : cap * 8 ≤ 536870912) (hc : k + 1 ≤ R.cells) (hl : n + cap ≤ R.slots)
    (w : ∀ h' a, a = h.size → n0 ≤ a → Ext h h' → PA (newarray.typeOf aty) Z h' a (List.replicate z.toNatClampNeg (defaultValue (newarray.typeOf aty))) → W K l R n0 P h' (k + 1) (n + cap) (pc + 2) L (.ref a :: S)) : W K l R n0 P h k n pc L (.int z :: S) := by
  obtain ⟨p, e, s, m, args, below, meth, c⟩ := K
  obtain ⟨hx, hZ, hown, hby, hml, hret, hnm, hlk, hn0⟩ := ok
  intro T locs X eT N
  obtain ⟨T1, h1, cA, X1, e1, E1, A1, st⟩ := newP X hx hZ w1 eT (g := mkF m pc L (.int z :: S)) rfl (hb hby hd) rfl hz hcap hb1 hc hl
  have A2 : PA (newarray.typeOf aty) Z h1 h.size (List.replicate z.toNatClampNeg (defaultValue (newarray.typeOf aty))) := by
    refine ⟨_, A1, by simpa using (back32 hz).2, by simp [newA], fun v hv => ?_⟩
    rw [List.eq_of_mem_replicate hv]
    cases aty <;> rfl
  obtain ⟨s₂, o, st2, r⟩ := w h1 h.size rfl (by rw [← eT]; exact old_ge hn0 X N) E1 A2 T1 _ X1 e1 N
  exact ⟨s₂, o, st _ st2, r⟩
theorem w_arraycopy (ok : Ok K Z n0 own code maxL ret nm) {index : Nat} {ty : FieldType} {a b : Addr} {vs vd : List Value} {sp dp nn : Int32} {sp' dp' nn' : Nat} (hd : decode code pc = .ok (.invokestatic index, 3)) (w1 : (Cond.methodLink own index Jvm.Stand.acN).before a0 Z = true) (w2 : (Cond.native Jvm.Stand.acN).before a0 Z = true) (w3 : (Cond.static Jvm.Stand.acN).before a0 Z = true) (w4 : (Cond.initialized "java/lang/System").before a0 Z = true)
    (A : PA ty Z h a vs) (B : PA ty Z h b vd) (hty : refKind ty = false) (ge : n0 ≤ b) (h1 : ¬ sp < 0) (h2 : ¬ dp < 0) (h3 : ¬ nn < 0) (es : sp.toNatClampNeg = sp') (ed : dp.toNatClampNeg = dp') (en : nn.toNatClampNeg = nn') (h4 : sp' + nn' ≤ vs.length) (h5 : dp' + nn' ≤ vd.length) (hL : L.size = maxL) (hf : 1 ≤ R.frames) (hlo : (S.map fun v => v.category).sum + (nativeFrameWords "java/lang/System" "arraycopy" 5 + 11) ≤ R.locals)
    (w : ∀ h', Keep h h' [b] → PA ty Z h' b (vd.take dp' ++ (vs.drop sp').take nn' ++ vd.drop (dp' + nn')) → W K l R n0 P h' k n (pc + 3) L S) : W K l R n0 P h k n pc L (.int nn :: .int dp :: .ref b :: .int sp :: .ref a :: S) := by
  obtain ⟨p, e, s, m, args, below, meth, c⟩ := K
  obtain ⟨hx, hZ, hown, hby, hml, hret, hnm, hlk, hn0⟩ := ok
  intro T locs X eT N
  subst es ed en
  obtain ⟨z1, hz1, hz2⟩ : ∃ z : Int32, vs.length = z.toNatClampNeg ∧ ¬ z < 0 := pa_z A.len
  obtain ⟨z3, hz3, hz4⟩ : ∃ z : Int32, vd.length = z.toNatClampNeg ∧ ¬ z < 0 := pa_z B.len
  obtain ⟨k1, A1⟩ := A.arv hz1 hz2 .null
  obtain ⟨k2, B1⟩ := B.arv hz3 hz4 .null
  obtain ⟨T1, h1', L1, X1, e1, N1, K1, B2, st⟩ := cpA X hx hZ hown w1 w2 w3 w4 eT A1 B1 (Or.inl ⟨rfl, hty⟩) h1 h2 h3 (by omega) (by omega) rfl h5 N ge (g := mkF m pc L (.int nn :: .int dp :: .ref b :: .int sp :: .ref a :: S)) rfl (hL.trans hml.symm) rfl (hb hby hd) hf (W := (S.map fun v => v.category).sum) (by show 2 * 0 + _ ≤ _; omega) hlo
  have e2 : ((List.range nn.toNatClampNeg).map fun i => vs.getD (sp.toNatClampNeg + i) Value.null) = (vs.drop sp.toNatClampNeg).take nn.toNatClampNeg := by
    apply List.ext_getElem
    · simp; omega
    · intro i q1 q2
      simp at q1
      simp [List.getD_eq_getElem?_getD, List.getElem?_eq_getElem (show sp.toNatClampNeg + i < vs.length by omega)]
  rw [e2] at B2
  obtain ⟨s₂, o, st2, r⟩ := w h1' K1 (PA.of_arv B2 (by simp; omega)) T1 _ X1 e1 N1
  exact ⟨s₂, o, st _ st2, r⟩
theorem w_iaload (ok : Ok K Z n0 own code maxL ret nm) {a : Addr} {vs : List Value} {j : Int32} {v : Value} (hd : decode code pc = .ok (.iaload, 1)) (A : PA .int Z h a vs) (h0 : ¬ j < 0) (hj : vs[j.toNatClampNeg]? = some v) (w : W K l R n0 P h k n (pc + 1) L (v :: S)) : W K l R n0 P h k n pc L (.int j :: .ref a :: S) := by
  obtain ⟨p, e, s, m, args, below, meth, c⟩ := K
  obtain ⟨hx, hZ, hown, hby, -⟩ := ok
  intro T locs X eT N
  obtain ⟨s₂, o, st, r⟩ := w T locs X eT N
  obtain ⟨cl, A, q1, q2, q3⟩ := A
  exact ⟨s₂, o, X.iaload hx (j := j) (v := v) (by rw [eT]; exact A.1) (State.isArrayOf_alike hZ.alike A.2.1) A.2.2 (pa_in q2 h0 (List.getElem?_eq_some_iff.mp hj).1) (by rw [q2]; simpa using hj) (g := mkF m pc L (.int j :: .ref a :: S)) rfl rfl (hb hby hd) _ st, r⟩
theorem w_laload (ok : Ok K Z n0 own code maxL ret nm) {a : Addr} {vs : List Value} {j : Int32} {v : Value} (hd : decode code pc = .ok (.laload, 1)) (A : PA .long Z h a vs) (h0 : ¬ j < 0) (hj : vs[j.toNatClampNeg]? = some v) (w : W K l R n0 P h k n (pc + 1) L (v :: S)) : W K l R n0 P h k n pc L (.int j :: .ref a :: S) := by
  obtain ⟨p, e, s, m, args, below, meth, c⟩ := K
  obtain ⟨hx, hZ, hown, hby, -⟩ := ok
  intro T locs X eT N
  obtain ⟨s₂, o, st, r⟩ := w T locs X eT N
  obtain ⟨cl, A, q1, q2, q3⟩ := A
  exact ⟨s₂, o, X.laload hx (j := j) (v := v) (by rw [eT]; exact A.1) (State.isArrayOf_alike hZ.alike A.2.1) A.2.2 (pa_in q2 h0 (List.getElem?_eq_some_iff.mp hj).1) (by rw [q2]; simpa using hj) (g := mkF m pc L (.int j :: .ref a :: S)) rfl rfl (hb hby hd) _ st, r⟩
theorem w_caload (ok : Ok K Z n0 own code maxL ret nm) {a : Addr} {vs : List Value} {j : Int32} {v : Value} (hd : decode code pc = .ok (.caload, 1)) (A : PA .char Z h a vs) (h0 : ¬ j < 0) (hj : vs[j.toNatClampNeg]? = some v) (w : W K l R n0 P h k n (pc + 1) L (v :: S)) : W K l R n0 P h k n pc L (.int j :: .ref a :: S) := by
  obtain ⟨p, e, s, m, args, below, meth, c⟩ := K
  obtain ⟨hx, hZ, hown, hby, -⟩ := ok
  intro T locs X eT N
  obtain ⟨s₂, o, st, r⟩ := w T locs X eT N
  obtain ⟨cl, A, q1, q2, q3⟩ := A
  exact ⟨s₂, o, X.caload hx (j := j) (v := v) (by rw [eT]; exact A.1) (State.isArrayOf_alike hZ.alike A.2.1) A.2.2 (pa_in q2 h0 (List.getElem?_eq_some_iff.mp hj).1) (by rw [q2]; simpa using hj) (g := mkF m pc L (.int j :: .ref a :: S)) rfl rfl (hb hby hd) _ st, r⟩
theorem w_baload (ok : Ok K Z n0 own code maxL ret nm) {a : Addr} {vs : List Value} {j : Int32} {v : Value} (hd : decode code pc = .ok (.baload, 1)) (A : PA .byte Z h a vs) (h0 : ¬ j < 0) (hj : vs[j.toNatClampNeg]? = some v) (w : W K l R n0 P h k n (pc + 1) L (v :: S)) : W K l R n0 P h k n pc L (.int j :: .ref a :: S) := by
  obtain ⟨p, e, s, m, args, below, meth, c⟩ := K
  obtain ⟨hx, hZ, hown, hby, -⟩ := ok
  intro T locs X eT N
  obtain ⟨s₂, o, st, r⟩ := w T locs X eT N
  obtain ⟨cl, A, q1, q2, q3⟩ := A
  exact ⟨s₂, o, X.baloadBytes hx (j := j) (v := v) (by rw [eT]; exact A.1) (State.isArrayOf_alike hZ.alike A.2.1) A.2.2 (pa_in q2 h0 (List.getElem?_eq_some_iff.mp hj).1) (by rw [q2]; simpa using hj) (g := mkF m pc L (.int j :: .ref a :: S)) rfl rfl (hb hby hd) _ st, r⟩
theorem w_zaload (ok : Ok K Z n0 own code maxL ret nm) {a : Addr} {vs : List Value} {j : Int32} {v : Value} (hd : decode code pc = .ok (.baload, 1)) (A : PA .boolean Z h a vs) (h0 : ¬ j < 0) (hj : vs[j.toNatClampNeg]? = some v) (w : W K l R n0 P h k n (pc + 1) L (v :: S)) : W K l R n0 P h k n pc L (.int j :: .ref a :: S) := by
  obtain ⟨p, e, s, m, args, below, meth, c⟩ := K
  obtain ⟨hx, hZ, hown, hby, -⟩ := ok
  intro T locs X eT N
  obtain ⟨s₂, o, st, r⟩ := w T locs X eT N
  obtain ⟨cl, A, q1, q2, q3⟩ := A
  exact ⟨s₂, o, X.baloadBooleans hx (j := j) (v := v) (by rw [eT]; exact A.1) (State.isArrayOf_alike hZ.alike A.2.1) A.2.2 (pa_in q2 h0 (List.getElem?_eq_some_iff.mp hj).1) (by rw [q2]; simpa using hj) (g := mkF m pc L (.int j :: .ref a :: S)) rfl rfl (hb hby hd) _ st, r⟩
theorem w_aaload (ok : Ok K Z n0 own code maxL ret nm) {ty : FieldType} {a : Addr} {vs : List Value} {j : Int32} {v : Value} (hd : decode code pc = .ok (.aaload, 1)) (A : PA ty Z h a vs) (ht : ty.isReference = true) (h0 : ¬ j < 0) (hj : vs[j.toNatClampNeg]? = some v) (w : W K l R n0 P h k n (pc + 1) L (v :: S)) : W K l R n0 P h k n pc L (.int j :: .ref a :: S) := by
  obtain ⟨p, e, s, m, args, below, meth, c⟩ := K
  obtain ⟨hx, hZ, hown, hby, -⟩ := ok
  intro T locs X eT N
  obtain ⟨s₂, o, st, r⟩ := w T locs X eT N
  obtain ⟨cl, A, q1, q2, q3⟩ := A
  exact ⟨s₂, o, X.aaload hx (j := j) (v := v) (by rw [eT]; exact A.1) (State.isArrayOf_alike hZ.alike A.2.1) ht A.2.2 (pa_in q2 h0 (List.getElem?_eq_some_iff.mp hj).1) (by rw [q2]; simpa using hj) (g := mkF m pc L (.int j :: .ref a :: S)) rfl rfl (hb hby hd) _ st, r⟩
theorem w_iastore (ok : Ok K Z n0 own code maxL ret nm) {a : Addr} {vs : List Value} {j : Int32} {x : Int32} (hd : decode code pc = .ok (.iastore, 1)) (A : PA .int Z h a vs) (ge : n0 ≤ a) (h0 : ¬ j < 0) (hj : j.toNatClampNeg < vs.length) (w : ∀ h', Wr h h' a j.toNatClampNeg (.int x) → PA .int Z h' a (vs.set j.toNatClampNeg (.int x)) → W K l R n0 P h' k n (pc + 1) L S) : W K l R n0 P h k n pc L (.int x :: .int j :: .ref a :: S) := by
  obtain ⟨p, e, s, m, args, below, meth, c⟩ := K
  obtain ⟨hx, hZ, hown, hby, -⟩ := ok
  intro T locs X eT N
  have A0 := A
  obtain ⟨cl, A, q1, q2, q3⟩ := A
  obtain ⟨T1, h1, X1, e1, W1, st⟩ := stI X hx hZ eT A (j := j) (pa_in q2 h0 hj) (g := mkF m pc L (.int x :: .int j :: .ref a :: S)) rfl rfl (hb hby hd)
  obtain ⟨s₂, o, st2, r⟩ := w h1 W1 (A0.set W1 rfl) T1 _ X1 e1 (Fr.snoc X1 N ge)
  exact ⟨s₂, o, st _ st2, r⟩
theorem w_lastore (ok : Ok K Z n0 own code maxL ret nm) {a : Addr} {vs : List Value} {j : Int32} {x : Int64} (hd : decode code pc = .ok (.lastore, 1)) (A : PA .long Z h a vs) (ge : n0 ≤ a) (h0 : ¬ j < 0) (hj : j.toNatClampNeg < vs.length) (w : ∀ h', Wr h h' a j.toNatClampNeg (.long x) → PA .long Z h' a (vs.set j.toNatClampNeg (.long x)) → W K l R n0 P h' k n (pc + 1) L S) : W K l R n0 P h k n pc L (.long x :: .int j :: .ref a :: S) := by
  obtain ⟨p, e, s, m, args, below, meth, c⟩ := K
  obtain ⟨hx, hZ, hown, hby, -⟩ := ok
  intro T locs X eT N
  have A0 := A
  obtain ⟨cl, A, q1, q2, q3⟩ := A
  obtain ⟨T1, h1, X1, e1, W1, st⟩ := stJ X hx hZ eT A (j := j) (pa_in q2 h0 hj) (g := mkF m pc L (.long x :: .int j :: .ref a :: S)) rfl rfl (hb hby hd)
  obtain ⟨s₂, o, st2, r⟩ := w h1 W1 (A0.set W1 rfl) T1 _ X1 e1 (Fr.snoc X1 N ge)
  exact ⟨s₂, o, st _ st2, r⟩
theorem w_castore (ok : Ok K Z n0 own code maxL ret nm) {a : Addr} {vs : List Value} {j : Int32} {x : Int32} (hd : decode code pc = .ok (.castore, 1)) (A : PA .char Z h a vs) (ge : n0 ≤ a) (h0 : ¬ j < 0) (hj : j.toNatClampNeg < vs.length) (w : ∀ h', Wr h h' a j.toNatClampNeg (.int (nar .char x)) → PA .char Z h' a (vs.set j.toNatClampNeg (.int (nar .char x))) → W K l R n0 P h' k n (pc + 1) L S) : W K l R n0 P h k n pc L (.int x :: .int j :: .ref a :: S) := by
  obtain ⟨p, e, s, m, args, below, meth, c⟩ := K
  obtain ⟨hx, hZ, hown, hby, -⟩ := ok
  intro T locs X eT N
  have A0 := A
  obtain ⟨cl, A, q1, q2, q3⟩ := A
  obtain ⟨T1, h1, X1, e1, W1, st⟩ := stC X hx hZ eT A (j := j) (pa_in q2 h0 hj) (g := mkF m pc L (.int x :: .int j :: .ref a :: S)) rfl rfl (hb hby hd)
  obtain ⟨s₂, o, st2, r⟩ := w h1 W1 (A0.set W1 (fits_nar_char x)) T1 _ X1 e1 (Fr.snoc X1 N ge)
  exact ⟨s₂, o, st _ st2, r⟩
theorem w_bastore (ok : Ok K Z n0 own code maxL ret nm) {a : Addr} {vs : List Value} {j : Int32} {x : Int32} (hd : decode code pc = .ok (.bastore, 1)) (A : PA .byte Z h a vs) (ge : n0 ≤ a) (h0 : ¬ j < 0) (hj : j.toNatClampNeg < vs.length) (w : ∀ h', Wr h h' a j.toNatClampNeg (.int (nar .byte x)) → PA .byte Z h' a (vs.set j.toNatClampNeg (.int (nar .byte x))) → W K l R n0 P h' k n (pc + 1) L S) : W K l R n0 P h k n pc L (.int x :: .int j :: .ref a :: S) := by
  obtain ⟨p, e, s, m, args, below, meth, c⟩ := K
  obtain ⟨hx, hZ, hown, hby, -⟩ := ok
  intro T locs X eT N
  have A0 := A
  obtain ⟨cl, A, q1, q2, q3⟩ := A
  obtain ⟨T1, h1, X1, e1, W1, st⟩ := stB X hx hZ eT A (j := j) (pa_in q2 h0 hj) (g := mkF m pc L (.int x :: .int j :: .ref a :: S)) rfl rfl (hb hby hd)
  obtain ⟨s₂, o, st2, r⟩ := w h1 W1 (A0.set W1 (fits_nar_byte x)) T1 _ X1 e1 (Fr.snoc X1 N ge)
  exact ⟨s₂, o, st _ st2, r⟩
theorem w_zastore (ok : Ok K Z n0 own code maxL ret nm) {a : Addr} {vs : List Value} {j : Int32} {x : Int32} (hd : decode code pc = .ok (.bastore, 1)) (A : PA .boolean Z h a vs) (ge : n0 ≤ a) (h0 : ¬ j < 0) (hj : j.toNatClampNeg < vs.length) (w : ∀ h', Wr h h' a j.toNatClampNeg (.int (nar .boolean x)) → PA .boolean Z h' a (vs.set j.toNatClampNeg (.int (nar .boolean x))) → W K l R n0 P h' k n (pc + 1) L S) : W K l R n0 P h k n pc L (.int x :: .int j :: .ref a :: S) := by
  obtain ⟨p, e, s, m, args, below, meth, c⟩ := K
  obtain ⟨hx, hZ, hown, hby, -⟩ := ok
  intro T locs X eT N
  have A0 := A
  obtain ⟨cl, A, q1, q2, q3⟩ := A
  obtain ⟨T1, h1, X1, e1, W1, st⟩ := stZ X hx hZ eT A (j := j) (pa_in q2 h0 hj) (g := mkF m pc L (.int x :: .int j :: .ref a :: S)) rfl rfl (hb hby hd)
  obtain ⟨s₂, o, st2, r⟩ := w h1 W1 (A0.set W1 (fits_nar_bool x)) T1 _ X1 e1 (Fr.snoc X1 N ge)
  exact ⟨s₂, o, st _ st2, r⟩
/-! objects -/
abbrev Fl := List (String × String × String × FieldType)
def Ob (Z : State) (h : Heap) (a : Addr) (C : String) (fl : Fl) (vals : List Value) : Prop := Exa Z h a C ∧ ∀ (i : Nat) f v, fl[i]? = some f → vals[i]? = some v → Fld Z h a f.1 f.2.1 f.2.2.1 v
def LA (Z : State) (a0 : Array Value) (C : String) (fl : Fl) : Prop := (∀ f ∈ fl, Laid Z a0 C f.1 f.2.1 f.2.2.1 ∧ parseFieldDescriptor f.2.2.1 = some f.2.2.2) ∧ (fl.map (·.2.1)).Nodup
section Obs
variable {h' : Heap} {a b : Addr} {C : String} {fl : Fl} {vals : List Value} {v : Value} {sl : Nat} {ws : List Addr}
theorem Ob.lt (O : Ob Z h a C fl vals) : a < h.size := O.1.lt
theorem Ob.ext (O : Ob Z h a C fl vals) (E : Ext h h') : Ob Z h' a C fl vals := ⟨O.1.ext E, fun i f v q r => (O.2 i f v q r).ext E⟩
theorem Ob.other (O : Ob Z h b C fl vals) (W1 : Wr h h' a sl v) (ne : b ≠ a) : Ob Z h' b C fl vals := ⟨O.1.wr W1, fun i f v q r => (O.2 i f v q r).other W1 (Or.inl ne)⟩
theorem Ob.keep (O : Ob Z h a C fl vals) (K1 : Keep h h' ws) (q : a ∉ ws) : Ob Z h' a C fl vals := ⟨O.1.keep K1, fun i f v r r' => (O.2 i f v r r').keep K1 q⟩
theorem Ob.put (O : Ob Z h a C fl vals) (LAs : LA Z a0 C fl) {i : Nat} {f : String × String × String × FieldType} {u : Value} (hf : fl[i]? = some f) (hv : vals[i]? = some u) (W1 : Wr h h' a (Jvm.RoadKit.slotOf Z f.1 f.2.1 f.2.2.1) v) : Ob Z h' a C fl (vals.set i v) := by
  refine ⟨O.1.wr W1, fun j g w hg hw => ?_⟩
  by_cases e : i = j
  · subst e
    cases hf.symm.trans hg
    rw [List.getElem?_set_self (List.getElem?_eq_some_iff.mp hv).1] at hw
    cases hw
    exact (O.2 i f u hf hv).same W1
  · rw [List.getElem?_set_ne e] at hw
    refine (O.2 j g w hg hw).other W1 (Or.inr ?_)
    have m1 := LAs.1 f (List.mem_of_getElem? hf)
    have m2 := LAs.1 g (List.mem_of_getElem? hg)
    refine slot_ne m2.1 m1.1 (fun q => e ?_) m2.2 m1.2
    have hi := (List.getElem?_eq_some_iff.mp hf)
    have hj := (List.getElem?_eq_some_iff.mp hg)
    have nd := LAs.2
    have q1 : (fl.map (·.2.1))[i]? = some f.2.1 := by simp [hf]
    have q2 : (fl.map (·.2.1))[j]? = some f.2.1 := by simp [hg, q]
    exact (List.getElem?_inj (by simpa using hi.1) nd).mp (q1.trans q2.symm)
end Obs
theorem w_getfield (ok : Ok K Z n0 own code maxL ret nm) {index : Nat} {a : Addr} {C R0 host : String} {fl : Fl} {vals : List Value} {v : Value} {f : String × String × String × FieldType} (i : Nat) (hd : decode code pc = .ok (.getfield index, 3)) (w1 : (Cond.fieldLink own index R0 f.2.1 f.2.2.1).before a0 Z = true ∨ (Cond.fieldLinkNest own index R0 f.2.1 f.2.2.1 host).before a0 Z = true) (via : Via Z R0 f.1 f.2.1 f.2.2.1) (O : Ob Z h a C fl vals) (hf : fl[i]? = some f) (hv : vals[i]? = some v)
    (w : W K l R n0 P h k n (pc + 3) L (v :: S)) : W K l R n0 P h k n pc L (.ref a :: S) := by
  obtain ⟨p, e, s, m, args, below, meth, c⟩ := K
  obtain ⟨hx, hZ, hown, hby, -⟩ := ok
  intro T locs X eT N
  obtain ⟨T1, X1, e1, st⟩ := getF X hx hZ hown w1 via eT (O.2 i f v hf hv) (g := mkF m pc L (.ref a :: S)) rfl rfl (hb hby hd)
  obtain ⟨s₂, o, st2, r⟩ := w T1 locs X1 e1 N
  exact ⟨s₂, o, st _ st2, r⟩
theorem w_putfield (ok : Ok K Z n0 own code maxL ret nm) {index kk : Nat} {a : Addr} {C R0 host : String} {fl : Fl} {vals : List Value} {v u : Value} {f : String × String × String × FieldType} (i : Nat) (hd : decode code pc = .ok (.putfield index, 3)) (w1 : (Cond.fieldLink own index R0 f.2.1 f.2.2.1).before a0 Z = true ∨ (Cond.fieldLinkNest own index R0 f.2.1 f.2.2.1 host).before a0 Z = true) (via : Via Z R0 f.1 f.2.1 f.2.2.1) (O : Ob Z h a C fl vals) (LAs : LA Z a0 C fl) (hf : fl[i]? = some f) (hv : vals[i]? = some u)
    (w2 : (Cond.lays C f.1 f.2.1 f.2.2.1).before a0 Z = true ∨ ((Cond.laysFinal C f.1 f.2.1 f.2.2.1).before a0 Z = true ∧ own = f.1 ∧ nm = "<init>")) (w3 : (Cond.instantiable C kk).before a0 Z = true) (hn : narrow f.2.2.2 v = v) (hfit : fits f.2.2.2 v = true) (ge : n0 ≤ a)
    (w : ∀ h', Wr h h' a (Jvm.RoadKit.slotOf Z f.1 f.2.1 f.2.2.1) v → Ob Z h' a C fl (vals.set i v) → W K l R n0 P h' k n (pc + 3) L S) : W K l R n0 P h k n pc L (v :: .ref a :: S) := by
  obtain ⟨p, e, s, m, args, below, meth, c⟩ := K
  obtain ⟨hx, hZ, hown, hby, hml, hret, hnm, hlk, hn0⟩ := ok
  intro T locs X eT N
  obtain ⟨T1, h1, X1, e1, W1, st⟩ := putF X hx hZ hown w1 via eT (O.2 i f u hf hv) O.1 (w2.imp id fun q => ⟨q.1, q.2.1, hnm.trans q.2.2⟩) w3 (LAs.1 f (List.mem_of_getElem? hf)).2 hn hfit (g := mkF m pc L (v :: .ref a :: S)) rfl rfl (hb hby hd)
  obtain ⟨s₂, o, st2, r⟩ := w h1 W1 (O.put LAs hf hv W1) T1 _ X1 e1 (Fr.snoc X1 N ge)
  exact ⟨s₂, o, st _ st2, r⟩
theorem w_new (ok : Ok K Z n0 own code maxL ret nm) {index kk : Nat} {C : String} {fl : Fl} (hd : decode code pc = .ok (.new index, 3)) (w1 : (Cond.classLink own index C).before a0 Z = true) (w2 : (Cond.instantiable C kk).before a0 Z = true) (w3 : (Cond.initialized C).before a0 Z = true) (LAs : LA Z a0 C fl) (hc : k + 1 ≤ R.cells) (hl : n + kk ≤ R.slots)
    (w : ∀ h' a, a = h.size → n0 ≤ a → Ext h h' → Ob Z h' a C fl (fl.map fun f => defaultValue f.2.2.2) → W K l R n0 P h' (k + 1) (n + kk) (pc + 3) L (.ref a :: S)) : W K l R n0 P h k n pc L S := by
  obtain ⟨p, e, s, m, args, below, meth, c⟩ := K
  obtain ⟨hx, hZ, hown, hby, hml, hret, hnm, hlk, hn0⟩ := ok
  intro T locs X eT N
  obtain ⟨T1, h1, X1, e1, E1, A1, D1, -, st⟩ := newO X hx hZ hown w1 w2 w3 eT (g := mkF m pc L S) rfl (hb hby hd) hc hl
  obtain ⟨s₂, o, st2, r⟩ := w h1 h.size rfl (by rw [← eT]; exact old_ge hn0 X N) E1 ⟨A1, fun i f v hf hv => by
    simp [hf] at hv; subst hv
    exact D1 (LAs.1 f (List.mem_of_getElem? hf)).1 (LAs.1 f (List.mem_of_getElem? hf)).2⟩ T1 _ X1 e1 N
  exact ⟨s₂, o, st _ st2, r⟩
theorem w_initO (ok : Ok K Z n0 own code maxL ret nm) {index : Nat} {a : Addr} (hd : decode code pc = .ok (.invokespecial index, 3)) (w1 : (Cond.methodLink own index Lib.objectInit).before a0 Z = true) (w2 : (Cond.instanceMethod Lib.objectInit).before a0 Z = true) (w3 : (Cond.code Lib.objectInit ⟨#[0xb1]⟩ 1 none).before a0 Z = true) (hL : L.size = maxL) (hf : 1 ≤ R.frames) (hl : (S.map fun v => v.category).sum + 12 ≤ R.locals)
    (w : W K l R n0 P h k n (pc + 3) L S) : W K l R n0 P h k n pc L (.ref a :: S) := by
  obtain ⟨p, e, s, m, args, below, meth, c⟩ := K
  obtain ⟨hx, hZ, hown, hby, hml, hret, hnm, hlk, hn0⟩ := ok
  intro T locs X eT N
  obtain ⟨T1, X1, e1, st⟩ := initO X hx hZ hown w1 w2 w3 eT (g := mkF m pc L (.ref a :: S)) rfl (hL.trans hml.symm) rfl (hb hby hd) hf (W := (S.map fun v => v.category).sum) (by show 2 * 0 + _ ≤ _; omega) hl
  obtain ⟨s₂, o, st2, r⟩ := w T1 locs X1 e1 N
  exact ⟨s₂, o, st _ st2, r⟩
theorem w_callI (ok : Ok K Z n0 own code maxL ret nm) {index : Nat} {y : MethodName} {bytes : ByteArray} {mL : Nat} {rm : Room} {a : Addr} {argsL rest : List Value} {Q : Option Value → Heap → Prop} {ps : List FieldType} {r : Option FieldType}
    (hd : decode code pc = .ok (.invokespecial index, 3)) (hy1 : y.name = "<init>") (w1 : (Cond.methodLink own index y).before a0 Z = true) (w2 : (Cond.instanceMethod y).before a0 Z = true) (w3 : (Cond.initialized y.cls).before a0 Z = true) (w4 : (Cond.code y bytes mL none).before a0 Z = true) (hy : notHandle y)
    (pd : parseMethodDescriptor y.desc = some ⟨ps, r⟩) (hlen : argsL.length = ps.length) (hL : L.size = maxL) (hf : rm.frames + 1 ≤ R.frames) (hl : (rest.map fun v => v.category).sum + (mL + 11) + rm.locals ≤ R.locals) (hc : k + rm.cells ≤ R.cells) (hs : n + rm.slots ≤ R.slots)
    (hM : Old Z n0 h → Met l Z n0 y bytes mL none [] rm (.ref a :: argsL).toArray h Q) (w : ∀ v h', Q v h' → W K l R n0 P h' (k + rm.cells) (n + rm.slots) (pc + 3) L (v.toList ++ rest)) : W K l R n0 P h k n pc L (argsL.reverse ++ .ref a :: rest) := by
  obtain ⟨p, e, s, m, args, below, meth, c⟩ := K
  obtain ⟨hx, hZ, hown, hby, hml, hret, hnm, hlk, hn0⟩ := ok
  intro T locs X eT N
  have hM := hM (by rw [← eT]; exact old_now hn0 X N)
  obtain ⟨v, _, ⟨T1, L1, k1, n1⟩, -, X1, ⟨Lc, ⟨hQ, N1⟩, l1, y1, z1⟩, st⟩ := X.specialBack hx (y := y) hy1 hown (mvT hZ w1) (mvT hZ w2) (mvT hZ w4) hy (backOf (W := (rest.map fun v => v.category).sum) (Q := fun v h L => Q v h ∧ Fr n0 L) hM hZ w4 w3 hf hl) (g := mkF m pc L (argsL.reverse ++ .ref a :: rest)) rfl (hL.trans hml.symm) (Steps.refl _) (a := a) (argsL := argsL) (rest := rest) (lenOf pd hlen) rfl (by show 2 * 0 + _ ≤ _; omega) (hb hby hd) (fun _ _ => ⟨rfl, eT, hc, hs⟩)
  dsimp only [Pt.U, Pt.locs, Pt.cells, Pt.slots] at X1 l1 y1 z1 st hQ
  subst l1 y1 z1
  obtain ⟨s₂, o, st2, r2⟩ := w v _ hQ T1 _ X1 rfl (Fr.app N N1)
  exact ⟨s₂, o, st.trans st2, r2⟩
theorem w_callV (ok : Ok K Z n0 own code maxL ret nm) {index : Nat} {C : String} {y : MethodName} {bytes : ByteArray} {mL : Nat} {rt : Option FieldType} {rm : Room} {a : Addr} {argsL rest : List Value} {Q : Option Value → Heap → Prop} {ps : List FieldType} {r : Option FieldType}
    (hd : decode code pc = .ok (.invokevirtual index, 3)) (w1 : (Cond.methodLink own index y).before a0 Z = true) (w2 : (Cond.declares y).before a0 Z = true) (w3 : (Cond.selects C y y).before a0 Z = true) (w4 : (Cond.instanceMethod y).before a0 Z = true) (w5 : (Cond.initialized y.cls).before a0 Z = true) (w6 : (Cond.code y bytes mL rt).before a0 Z = true) (hy : notHandle y)
    (E : Exa Z h a C) (pd : parseMethodDescriptor y.desc = some ⟨ps, r⟩) (hlen : argsL.length = ps.length) (hL : L.size = maxL) (hf : rm.frames + 1 ≤ R.frames) (hl : (rest.map fun v => v.category).sum + (mL + 11) + rm.locals ≤ R.locals) (hc : k + rm.cells ≤ R.cells) (hs : n + rm.slots ≤ R.slots)
    (hM : Old Z n0 h → Met l Z n0 y bytes mL rt [] rm (.ref a :: argsL).toArray h Q) (w : ∀ v h', Q v h' → W K l R n0 P h' (k + rm.cells) (n + rm.slots) (pc + 3) L (v.toList ++ rest)) : W K l R n0 P h k n pc L (argsL.reverse ++ .ref a :: rest) := by
  obtain ⟨p, e, s, m, args, below, meth, c⟩ := K
  obtain ⟨hx, hZ, hown, hby, hml, hret, hnm, hlk, hn0⟩ := ok
  intro T locs X eT N
  have hM := hM (by rw [← eT]; exact old_now hn0 X N)
  obtain ⟨cq, kq, qa, qb, qc⟩ := isOf hZ eT E
  obtain ⟨v, _, ⟨T1, L1, k1, n1⟩, -, X1, ⟨Lc, ⟨hQ, N1⟩, l1, y1, z1⟩, st⟩ := X.virtualBack hx (y := y) (z := y) hown (mvT hZ w1) (mvT hZ w2) (notFace_of_selects (args := #[]) (mvT hZ w3)) (mvT hZ w3) (mvT hZ w4) hy (backOf (W := (rest.map fun v => v.category).sum) (Q := fun v h L => Q v h ∧ Fr n0 L) hM hZ w6 w5 hf hl) qa qc (g := mkF m pc L (argsL.reverse ++ .ref a :: rest)) rfl (hL.trans hml.symm) (Steps.refl _) (argsL := argsL) (rest := rest) (lenOf pd hlen) rfl (by show 2 * 0 + _ ≤ _; omega) (hb hby hd) (fun _ _ => ⟨rfl, eT, hc, hs⟩)
  dsimp only [Pt.U, Pt.locs, Pt.cells, Pt.slots] at X1 l1 y1 z1 st hQ
  subst l1 y1 z1
  obtain ⟨s₂, o, st2, r2⟩ := w v _ hQ T1 _ X1 rfl (Fr.app N N1)
  exact ⟨s₂, o, st.trans st2, r2⟩
theorem w_callP (ok : Ok K Z n0 own code maxL ret nm) {index kk : Nat} {y : MethodName} {bytes : ByteArray} {mL : Nat} {rt : Option FieldType} {rm : Room} {a : Addr} {argsL rest : List Value} {Q : Option Value → Heap → Prop} {ps : List FieldType} {r : Option FieldType}
    (hd : decode code pc = .ok (.invokevirtual index, 3)) (w1 : (Cond.methodLink own index y).before a0 Z = true) (w2 : (Cond.instanceMethod y).before a0 Z = true) (w3 : (Cond.privateMethod y).before a0 Z = true) (w4 : (Cond.instantiable y.cls kk).before a0 Z = true) (w5 : (Cond.initialized y.cls).before a0 Z = true) (w6 : (Cond.code y bytes mL rt).before a0 Z = true) (hy : notHandle y)
    (E : Exa Z h a y.cls) (pd : parseMethodDescriptor y.desc = some ⟨ps, r⟩) (hlen : argsL.length = ps.length) (hL : L.size = maxL) (hf : rm.frames + 1 ≤ R.frames) (hl : (rest.map fun v => v.category).sum + (mL + 11) + rm.locals ≤ R.locals) (hc : k + rm.cells ≤ R.cells) (hs : n + rm.slots ≤ R.slots)
    (hM : Old Z n0 h → Met l Z n0 y bytes mL rt [] rm (.ref a :: argsL).toArray h Q) (w : ∀ v h', Q v h' → W K l R n0 P h' (k + rm.cells) (n + rm.slots) (pc + 3) L (v.toList ++ rest)) : W K l R n0 P h k n pc L (argsL.reverse ++ .ref a :: rest) := by
  obtain ⟨p, e, s, m, args, below, meth, c⟩ := K
  obtain ⟨hx, hZ, hown, hby, hml, hret, hnm, hlk, hn0⟩ := ok
  intro T locs X eT N
  have hM := hM (by rw [← eT]; exact old_now hn0 X N)
  have hP : s.PrivateAt y := Cond.privateMethod_at (mvP hZ w3 (args := #[]))
  obtain ⟨ci, ki, i1, i2, i3, i4, -⟩ := Cond.instantiable_spec (mvT (args := args) hZ w4)
  have hni : ki.isInterface = false := by
    cases q : ki.isInterface
    · rfl
    · rw [q] at i4; cases i4
  have hsel := selects_self_of_private (args := args) i1 i2 hni hP (mvT hZ w2) hy
  obtain ⟨cell, hcell, hobj⟩ := E.cell
  obtain ⟨v, _, ⟨T1, L1, k1, n1⟩, -, X1, ⟨Lc, ⟨hQ, N1⟩, l1, y1, z1⟩, st⟩ := X.privateBack hx (y := y) hown (mvT hZ w1) (mvT hZ w2) hsel hP (mvT hZ w6) hy (backOf (W := (rest.map fun v => v.category).sum) (Q := fun v h L => Q v h ∧ Fr n0 L) hM hZ w6 w5 hf hl) (g := mkF m pc L (argsL.reverse ++ .ref a :: rest)) rfl (hL.trans hml.symm) (Steps.refl _) (a := a) (by rw [eT]; exact hcell) hobj (argsL := argsL) (rest := rest) (lenOf pd hlen) rfl (by show 2 * 0 + _ ≤ _; omega) (hb hby hd) (fun _ _ => ⟨rfl, eT, hc, hs⟩)
  dsimp only [Pt.U, Pt.locs, Pt.cells, Pt.slots] at X1 l1 y1 z1 st hQ
  subst l1 y1 z1
  obtain ⟨s₂, o, st2, r2⟩ := w v _ hQ T1 _ X1 rfl (Fr.app N N1)
  exact ⟨s₂, o, st.trans st2, r2⟩
theorem w_getstatic (ok : Ok K Z n0 own code maxL ret nm) {index : Nat} {R0 O n' d : String} {v : Value} (hd : decode code pc = .ok (.getstatic index, 3)) (w1 : (Cond.fieldLink own index R0 n' d).before a0 Z = true) (via : Via Z R0 O n' d) (F : Sta Z Z.heap O n' d v) (w : W K l R n0 P h k n (pc + 3) L (v :: S)) : W K l R n0 P h k n pc L S := by
  obtain ⟨p, e, s, m, args, below, meth, c⟩ := K
  obtain ⟨hx, hZ, hown, hby, hml, hret, hnm, hlk, hn0⟩ := ok
  intro T locs X eT N
  have O := old_now hn0 X N
  obtain ⟨T1, X1, e1, st⟩ := getS (host := "") X hx hZ hown w1 via rfl (F.ext O.2) (g := mkF m pc L S) rfl (hb hby hd)
  obtain ⟨s₂, o, st2, r⟩ := w T1 locs X1 (e1.trans eT) N
  exact ⟨s₂, o, st _ st2, r⟩
theorem w_acmp (ok : Ok K Z n0 own code maxL ret nm) {cd : ACond} {x y : Value} {o : Int} {pc1 pc' : Nat} (hd : decode code pc = .ok (.if_acmp cd o, 3)) (hp : (pc : Int) + o = (pc1 : Int)) (h1 : x.isRef = true) (h2 : y.isRef = true) (same : Bool) (hq : decide (x = y) = same) (hpc : pc' = if acV cd same = true then pc1 else pc + 3) (w : W K l R n0 P h k n pc' L S) : W K l R n0 P h k n pc L (y :: x :: S) := by
  obtain ⟨p, e, s, m, args, below, meth, c⟩ := K
  obtain ⟨hx, hZ, hown, hby, -⟩ := ok
  intro T locs X eT N
  obtain ⟨s₂, o, st, r⟩ := w T locs X eT N
  exact ⟨s₂, o, acmp X hx rfl h1 h2 (pc0 := pc) (pc' := pc') (same := same) rfl (hb hby hd) rfl hq (by rw [hp]; exact Int.natCast_nonneg _) (by rw [hp]; exact hpc) st, r⟩
theorem w_ifnullY (ok : Ok K Z n0 own code maxL ret nm) {o : Int} {pc' : Nat} (hd : decode code pc = .ok (.ifnull o, 3)) (hp : (pc : Int) + o = (pc' : Int)) (w : W K l R n0 P h k n pc' L S) : W K l R n0 P h k n pc L (.null :: S) := by
  obtain ⟨p, e, s, m, args, below, meth, c⟩ := K
  obtain ⟨hx, hZ, hown, hby, -⟩ := ok
  intro T locs X eT N
  obtain ⟨s₂, o, st, r⟩ := w T locs X eT N
  exact ⟨s₂, o, XS.ifnullYes X.here hx rfl (pc0 := pc) (pc' := pc') rfl (hb hby hd) rfl (by rw [hp]; exact Int.natCast_nonneg _) (by rw [hp]; rfl) st, r⟩
theorem w_ifnullN (ok : Ok K Z n0 own code maxL ret nm) {o : Int} {a : Addr} (hd : decode code pc = .ok (.ifnull o, 3)) (w : W K l R n0 P h k n (pc + 3) L S) : W K l R n0 P h k n pc L (.ref a :: S) := by
  obtain ⟨p, e, s, m, args, below, meth, c⟩ := K
  obtain ⟨hx, hZ, hown, hby, -⟩ := ok
  intro T locs X eT N
  obtain ⟨s₂, o, st, r⟩ := w T locs X eT N
  exact ⟨s₂, o, XS.ifnullNo X.here hx rfl (hb hby hd) rfl st, r⟩
theorem w_ifnonnullY (ok : Ok K Z n0 own code maxL ret nm) {o : Int} {pc' : Nat} {a : Addr} (hd : decode code pc = .ok (.ifnonnull o, 3)) (hp : (pc : Int) + o = (pc' : Int)) (w : W K l R n0 P h k n pc' L S) : W K l R n0 P h k n pc L (.ref a :: S) := by
  obtain ⟨p, e, s, m, args, below, meth, c⟩ := K
  obtain ⟨hx, hZ, hown, hby, -⟩ := ok
  intro T locs X eT N
  obtain ⟨s₂, o, st, r⟩ := w T locs X eT N
  exact ⟨s₂, o, XS.ifnonnullYes X.here hx rfl (pc0 := pc) (pc' := pc') rfl (hb hby hd) rfl (by rw [hp]; exact Int.natCast_nonneg _) (by rw [hp]; rfl) st, r⟩
theorem w_ifnonnullN (ok : Ok K Z n0 own code maxL ret nm) {o : Int} (hd : decode code pc = .ok (.ifnonnull o, 3)) (w : W K l R n0 P h k n (pc + 3) L S) : W K l R n0 P h k n pc L (.null :: S) := by
  obtain ⟨p, e, s, m, args, below, meth, c⟩ := K
  obtain ⟨hx, hZ, hown, hby, -⟩ := ok
  intro T locs X eT N
  obtain ⟨s₂, o, st, r⟩ := w T locs X eT N
  exact ⟨s₂, o, XS.ifnonnullNo X.here hx rfl (hb hby hd) rfl st, r⟩
/-- what may lie in the array at a: objects of C -/
def OvA (Z : State) (h : Heap) (a : Addr) (C : String) : Prop := ∃ c : Cell, h[a]? = some c ∧ Ovr Z c.cls C
theorem OvA.ext {h' : Heap} {a : Addr} {C : String} (A : OvA Z h a C) (E : Ext h h') : OvA Z h' a C := by obtain ⟨c, q, r⟩ := A; exact ⟨c, E.2 _ _ q, r⟩
theorem OvA.keep {h' : Heap} {a : Addr} {C : String} {ws : List Addr} (A : OvA Z h a C) (K1 : Keep h h' ws) : OvA Z h' a C := by obtain ⟨c, q, r⟩ := A; obtain ⟨c', q', r1, r2⟩ := K1.2.2 a c q; exact ⟨c', q', by rw [r1]; exact r⟩
theorem w_anewarray (ok : Ok K Z n0 own code maxL ret nm) {index : Nat} {C : String} {z : Int32} (hd : decode code pc = .ok (.anewarray index, 3)) (w1 : (Cond.classLink own index C).before a0 Z = true) (w2 : (Cond.arrayOver (.object C)).before a0 Z = true) (hz : ¬ z < 0) {cap : Nat} (hcap : z.toNatClampNeg ≤ cap) (hb1 : cap * 8 ≤ 536870912) (hc : k + 1 ≤ R.cells) (hl : n + cap ≤ R.slots)
    (w : ∀ h' a, a = h.size → n0 ≤ a → Ext h h' → PA (.object C) Z h' a (List.replicate z.toNatClampNeg .null) → OvA Z h' a C → W K l R n0 P h' (k + 1) (n + cap) (pc + 3) L (.ref a :: S)) : W K l R n0 P h k n pc L (.int z :: S) := by
  obtain ⟨p, e, s, m, args, below, meth, c⟩ := K
  obtain ⟨hx, hZ, hown, hby, hml, hret, hnm, hlk, hn0⟩ := ok
  intro T locs X eT N
  obtain ⟨T1, h1, cA, X1, e1, E1, A1, O1, st⟩ := newR X hx hZ hown w1 w2 eT (g := mkF m pc L (.int z :: S)) rfl (hb hby hd) rfl hz hcap hb1 hc hl
  have A2 : PA (.object C) Z h1 h.size (List.replicate z.toNatClampNeg .null) := by
    refine ⟨_, A1, by simpa using (back32 hz).2, by simp [newA, defaultValue], fun v hv => ?_⟩
    rw [List.eq_of_mem_replicate hv]; rfl
  obtain ⟨s₂, o, st2, r⟩ := w h1 h.size rfl (by rw [← eT]; exact old_ge hn0 X N) E1 A2 ⟨_, A1.1, O1⟩ T1 _ X1 e1 N
  exact ⟨s₂, o, st _ st2, r⟩
theorem w_aastore (ok : Ok K Z n0 own code maxL ret nm) {ty : FieldType} {C : String} {a b : Addr} {vs : List Value} {j : Int32} (hd : decode code pc = .ok (.aastore, 1)) (A : PA ty Z h a vs) (OA : OvA Z h a C) (I1 : Ins Z h b C true) (hty : ty.isReference = true) (hfit : fits ty (.ref b) = true) (ge : n0 ≤ a) (h0 : ¬ j < 0) (hj : j.toNatClampNeg < vs.length)
    (w : ∀ h', Wr h h' a j.toNatClampNeg (.ref b) → PA ty Z h' a (vs.set j.toNatClampNeg (.ref b)) → W K l R n0 P h' k n (pc + 1) L S) : W K l R n0 P h k n pc L (.ref b :: .int j :: .ref a :: S) := by
  obtain ⟨p, e, s, m, args, below, meth, c⟩ := K
  obtain ⟨hx, hZ, hown, hby, -⟩ := ok
  intro T locs X eT N
  have A0 := A
  obtain ⟨cl, A, q1, q2, q3⟩ := A
  obtain ⟨c2, y1, y2⟩ := OA
  cases A.1.symm.trans y1
  obtain ⟨T1, h1, X1, e1, W1, st⟩ := stR X hx hZ eT A (j := j) (pa_in q2 h0 hj) hty (Sto.of A y2 I1) (g := mkF m pc L (.ref b :: .int j :: .ref a :: S)) rfl rfl (hb hby hd)
  obtain ⟨s₂, o, st2, r⟩ := w h1 W1 (A0.set W1 hfit) T1 _ X1 e1 (Fr.snoc X1 N ge)
  exact ⟨s₂, o, st _ st2, r⟩
theorem frame_fin {s u : State} {L L' : List Loc} {v : Option Value} {c c' n n' : Nat} (hq : FrameEnd s (.returned v) u L c n) (N : Fr s.heap.size L) (h1 : c ≤ c') (h2 : n ≤ n') : FrameEnd s (.returned v) u L' c' n' :=
  ⟨hq.1, hq.2.1, (hq.2.2.sift fun y hy => Or.inr (N y hy)).mono h1 h2⟩
end S
end Jvm.OwnKit
namespace Jvm.Pilot.@@N@@
open Jvm Jvm.ClassFile Sem Op Lib Jvm.Free Jvm.Stand Jvm.LawKit Jvm.RoadKit Bundle Jvm.OwnKit Jvm.Pilot.@@N@@.Jvm.D
abbrev fl_FactTable : Fl := [("com/example/hornconv/hornconv/FactTable", "unary", "[I", (.array .int)), ("com/example/hornconv/hornconv/FactTable", "members", "[J", (.array .long)), ("com/example/hornconv/hornconv/FactTable", "arity", "I", .int), ("com/example/hornconv/hornconv/FactTable", "arguments", "[I", (.array .int)), ("com/example/hornconv/hornconv/FactTable", "dead", "[Z", (.array .boolean)), ("com/example/hornconv/hornconv/FactTable", "slots", "[I", (.array .int)), ("com/example/hornconv/hornconv/FactTable", "positions", "[Lcom/example/hornconv/hornconv/FactTable$PositionIndex;", (.array (.object "com/example/hornconv/hornconv/FactTable$PositionIndex"))), ("com/example/hornconv/hornconv/FactTable", "rows", "I", .int), ("com/example/hornconv/hornconv/FactTable", "live", "I", .int), ("com/example/hornconv/hornconv/FactTable", "used", "I", .int)]
theorem la_FactTable {Z : State} {a0 : Array Value} (hw : ∀ d ∈ tables_1, d.before a0 Z = true) : LA Z a0 "com/example/hornconv/hornconv/FactTable" fl_FactTable := by
  refine ⟨fun f hf => ?_, by decide⟩
  simp only [fl_FactTable, List.mem_cons, List.not_mem_nil, or_false] at hf
  rcases hf with rfl | rfl | rfl | rfl | rfl | rfl | rfl | rfl | rfl | rfl
  · exact ⟨Or.inr (hw _ (List.mem_of_getElem? (i := 11) rfl)), by decide⟩
  · exact ⟨Or.inl (hw _ (List.mem_of_getElem? (i := 14) rfl)), by decide⟩
  · exact ⟨Or.inr (hw _ (List.mem_of_getElem? (i := 16) rfl)), by decide⟩
  · exact ⟨Or.inl (hw _ (List.mem_of_getElem? (i := 18) rfl)), by decide⟩
  · exact ⟨Or.inl (hw _ (List.mem_of_getElem? (i := 21) rfl)), by decide⟩
  · exact ⟨Or.inl (hw _ (List.mem_of_getElem? (i := 23) rfl)), by decide⟩
  · exact ⟨Or.inr (hw _ (List.mem_of_getElem? (i := 31) rfl)), by decide⟩
  · exact ⟨Or.inl (hw _ (List.mem_of_getElem? (i := 47) rfl)), by decide⟩
  · exact ⟨Or.inl (hw _ (List.mem_of_getElem? (i := 53) rfl)), by decide⟩
  · exact ⟨Or.inl (hw _ (List.mem_of_getElem? (i := 55) rfl)), by decide⟩
def sv (N : Nat) (f : Nat → Int32) : List Value := (List.range N).map fun j => Value.int (f j)
def upd (f : Nat → Int32) (r : Nat) (v : Int32) : Nat → Int32 := fun j => if j = r then v else f j
theorem upd_same (f : Nat → Int32) (r : Nat) (v : Int32) : upd f r v r = v := if_pos rfl
theorem upd_ne {f : Nat → Int32} {r j : Nat} {v : Int32} (h : j ≠ r) : upd f r v j = f j := if_neg h
theorem sv_len (N : Nat) (f : Nat → Int32) : (sv N f).length = N := by simp [sv]
theorem sv_get {N : Nat} {f : Nat → Int32} {j : Nat} (h : j < N) : (sv N f)[j]? = some (.int (f j)) := by simp [sv, h]
theorem sv_set (N : Nat) (f : Nat → Int32) (r : Nat) (v : Int32) : (sv N f).set r (.int v) = sv N (upd f r v) := by
  apply List.ext_getElem?
  intro i
  by_cases hi : i < N
  · rw [sv_get hi]
    by_cases e : r = i
    · subst e; rw [List.getElem?_set_self (by rw [sv_len]; exact hi), upd_same]
    · rw [List.getElem?_set_ne e, sv_get hi, upd_ne (Ne.symm e)]
  · rw [List.getElem?_eq_none (by rw [List.length_set, sv_len]; omega), List.getElem?_eq_none (by rw [sv_len]; omega)]
theorem own_ofNat {j : Nat} (h : j < 2147483648) : (Int32.ofNat j).toInt = j := Int32.toInt_ofNat_of_lt h
theorem own_clamp {z : Int32} {n : Nat} (h : z.toInt = n) : z.toNatClampNeg = n := by rw [Int32.toNatClampNeg, h]; rfl
theorem own_nn {z : Int32} {n : Nat} (h : z.toInt = n) : ¬ z < 0 := by rw [Int32.lt_iff_toInt_lt, h]; show ¬ (n : Int) < 0; omega
theorem own_o8 (n : Nat) : (Int32.ofNat (n % 8)).toInt = ((n % 8 : Nat) : Int) := own_ofNat (by omega)
theorem own_nx (n : Nat) : (Int32.ofNat (n % 8) + 1) &&& 7 = Int32.ofNat ((n + 1) % 8) := by
  apply Int32.toInt_inj.mp
  have e1 := own_o8 n; have e2 := own_o8 (n + 1)
  have e3 := c_iadd (Int32.ofNat (n % 8)) 1; have r3 := rng32 (Int32.ofNat (n % 8) + 1); have e4 : (1 : Int32).toInt = 1 := rfl
  have e5 := c_mask (Int32.ofNat (n % 8) + 1) 7 3 (by decide) (by decide)
  rw [e5, e2]; omega
theorem own_st (z : Int32) : z &&& 7 = Int32.ofNat (((z &&& 7).toNatClampNeg + 0) % 8) := by
  apply Int32.toInt_inj.mp
  have e5 := c_mask z 7 3 (by decide) (by decide)
  have e1 := own_o8 ((z &&& 7).toNatClampNeg + 0)
  rw [e1, Int32.toNatClampNeg]; omega
def own_hs (vs : List Int32) : Int32 := (vs.foldl (fun h v => (h + v) * (-1640531527)) 0) ^^^ Jvm.Free.XT.ushr (vs.foldl (fun h v => (h + v) * (-1640531527)) 0) 16
def own_eqr (n : Nat) (as vs : List Int32) (k : Nat) : Int32 := if (as.drop (k * n)).take n = vs then 1 else 0
abbrev Rw (f : Nat → Int32) : Prop := ∀ j, j < 8 → f j = -1 ∨ f j = -2 ∨ f j = 0 ∨ f j = 1 ∨ f j = 2
/-- what find's answer r says: E k: row k is the one looked for; s: the first slot -/
def Fnd (f : Nat → Int32) (E : Nat → Prop) (s r : Nat) : Prop :=
  (¬ f r < 0 ∧ E (f r).toNatClampNeg) ∨ (f r < 0 ∧ ∃ m i, f ((s + m) % 8) = -1 ∧ (∀ j, j < m → f ((s + j) % 8) ≠ -1 ∧ ¬ (¬ f ((s + j) % 8) < 0 ∧ E (f ((s + j) % 8)).toNatClampNeg)) ∧ i ≤ m ∧ r = (s + i) % 8)
theorem own_free {f : Nat → Int32} (r0 r1 : Nat) (h : ∀ j, j < 8 → j ≠ r0 → j ≠ r1 → f j = -1) (s : Nat) : ∃ m, f ((s + m) % 8) = -1 := by
  obtain ⟨j, hj, h0, h1⟩ : ∃ j, j < 8 ∧ j ≠ r0 ∧ j ≠ r1 := by
    by_cases a : (0 ≠ r0 ∧ 0 ≠ r1)
    · exact ⟨0, by omega, a.1, a.2⟩
    · by_cases b : (1 ≠ r0 ∧ 1 ≠ r1)
      · exact ⟨1, by omega, b.1, b.2⟩
      · exact ⟨2, by omega, by omega, by omega⟩
  refine ⟨j + 8 - s % 8, ?_⟩
  rw [show (s + (j + 8 - s % 8)) % 8 = j by omega]
  exact h j hj h0 h1
theorem own_us0 {us : Int32} (h : 0 ≤ us.toInt ∧ us.toInt ≤ 3) : 0 ≤ us.toInt ∧ us.toInt ≤ us.toInt + 1 := by omega
theorem own_us1 {us : Int32} (h : 0 ≤ us.toInt ∧ us.toInt ≤ 3) : 0 ≤ (us + 1).toInt ∧ (us + 1).toInt ≤ us.toInt + 1 := by
  have e := c_iadd us 1; have r := rng32 (us + 1); have e1 : (1 : Int32).toInt = 1 := rfl; omega
theorem own_2usA {us : Int32} (h : 0 ≤ us.toInt ∧ us.toInt ≤ 4) : ¬ 8 < 2 * us := by
  have e := c_imul 2 us; have r := rng32 (2 * us); have e1 : (2 : Int32).toInt = 2 := rfl; have e2 : (8 : Int32).toInt = 8 := rfl
  rw [e1] at e; rw [Int32.lt_iff_toInt_lt, e2]; omega
theorem own_2us {us : Int32} (h : 0 ≤ us.toInt ∧ us.toInt ≤ 3) : ¬ 8 < 2 * us := own_2usA (by omega)
theorem own_2us1 {us : Int32} (h : 0 ≤ us.toInt ∧ us.toInt ≤ 3) : ¬ 8 < 2 * (us + 1) := own_2usA (by have := own_us1 h; omega)
theorem d3_0 : decode jdk_65_method_103_code 0 = .ok (.iconst 0, 1) := by decide +kernel
theorem d3_1 : decode jdk_65_method_103_code 1 = .ok (.istore_n 2, 1) := by decide +kernel
theorem d3_2 : decode jdk_65_method_103_code 2 = .ok (.aload_n 0, 1) := by decide +kernel
theorem d3_3 : decode jdk_65_method_103_code 3 = .ok (.arraylength, 1) := by decide +kernel
theorem d3_4 : decode jdk_65_method_103_code 4 = .ok (.istore_n 3, 1) := by decide +kernel
theorem d3_5 : decode jdk_65_method_103_code 5 = .ok (.iload_n 2, 1) := by decide +kernel
theorem d3_6 : decode jdk_65_method_103_code 6 = .ok (.iload_n 3, 1) := by decide +kernel
theorem d3_7 : decode jdk_65_method_103_code 7 = .ok (.if_icmp .ge 13, 3) := by decide +kernel
theorem d3_10 : decode jdk_65_method_103_code 10 = .ok (.aload_n 0, 1) := by decide +kernel
theorem d3_11 : decode jdk_65_method_103_code 11 = .ok (.iload_n 2, 1) := by decide +kernel
theorem d3_12 : decode jdk_65_method_103_code 12 = .ok (.iload_n 1, 1) := by decide +kernel
theorem d3_13 : decode jdk_65_method_103_code 13 = .ok (.iastore, 1) := by decide +kernel
theorem d3_14 : decode jdk_65_method_103_code 14 = .ok (.iinc 2 1, 3) := by decide +kernel
theorem d3_17 : decode jdk_65_method_103_code 17 = .ok (.goto (-12), 3) := by decide +kernel
theorem d3_20 : decode jdk_65_method_103_code 20 = .ok (.return_, 1) := by decide +kernel
theorem pn_java_util_Arrays : plainName "java/util/Arrays" = true := by first | (simp [plainName, overriddenIn]; done) | decide +kernel
set_option maxRecDepth 65536 in
set_option maxHeartbeats 40000000 in
theorem rm_fill (l : Launch) (Z : State) (a0 : Array Value) (hw : ∀ d ∈ tables_1, d.before a0 Z = true) (ws : List Jvm.Cond) (n0 : Nat) (h0 : Heap) (Z0 : Old Z n0 h0) (a : Addr) (A_a : PA .int Z h0 a [(.int (0 : Int32)), (.int (0 : Int32)), (.int (0 : Int32)), (.int (0 : Int32)), (.int (0 : Int32)), (.int (0 : Int32)), (.int (0 : Int32)), (.int (0 : Int32))]) (ge_a : n0 ≤ a)  :
    Met l Z n0 (⟨"java/util/Arrays", "fill", "([II)V"⟩ : MethodName) jdk_65_method_103_code 4 none ws ({ frames := 0, cells := 0, slots := 0, locals := 0 } : Room) #[(.ref a), (.int (-1 : Int32))] h0 (fun u h => u = none ∧ Keep h0 h [a] ∧ PA .int Z h a [(.int (-1 : Int32)), (.int (-1 : Int32)), (.int (-1 : Int32)), (.int (-1 : Int32)), (.int (-1 : Int32)), (.int (-1 : Int32)), (.int (-1 : Int32)), (.int (-1 : Int32))]) := by
  refine met_of Z0 (plainFor_of_name pn_java_util_Arrays) (Ls := #[.val (.ref a), .val (.int (-1 : Int32)), .unset, .unset]) (fun m => by first | (simp [entryFrame, mkF, argsToLocals, Value.category]; done) | rfl) ?_
  intro K ok
  have Kp : Keep h0 h0 [a] := Keep.refl _ _
  show W K l _ n0 _ h0 0 0 0 #[.val (.ref a), .val (.int (-1 : Int32)), .unset, .unset] []
  refine w_iconst ok d3_0 (v := (0 : Int32)) rfl ?_
  refine w_istoreN ok d3_1 (L' := #[.val (.ref a), .val (.int (-1 : Int32)), .val (.int (0 : Int32)), .unset]) rfl ?_
  refine w_aloadN ok d3_2 rfl rfl ?_
  refine w_arraylength ok (z := (8 : Int32)) d3_3 A_a rfl (by decide) ?_
  show W K l _ n0 _ h0 0 0 4 #[.val (.ref a), .val (.int (-1 : Int32)), .val (.int (0 : Int32)), .unset] [(.int (8 : Int32))]
  refine w_istoreN ok d3_4 (L' := #[.val (.ref a), .val (.int (-1 : Int32)), .val (.int (0 : Int32)), .val (.int (8 : Int32))]) rfl ?_
  refine w_iloadN ok d3_5 rfl ?_
  refine w_iloadN ok d3_6 rfl ?_
  refine w_icmp_ge ok d3_7 (pc' := 20) (by decide) (fun hc1 => False.elim (by revert hc1; decide)) (fun hc1 => ?_)
  show W K l _ n0 _ h0 0 0 10 #[.val (.ref a), .val (.int (-1 : Int32)), .val (.int (0 : Int32)), .val (.int (8 : Int32))] []
  refine w_aloadN ok d3_10 rfl rfl ?_
  refine w_iloadN ok d3_11 rfl ?_
  refine w_iloadN ok d3_12 rfl ?_
  refine w_iastore ok d3_13 A_a ge_a (by decide) (Nat.le_of_ble_eq_true rfl) (fun h2 W_h2 A1_h2 => ?_)
  replace Kp := Kp.wr W_h2 (Or.inl (by simp))
  replace A_a : PA .int Z h2 a [(.int (-1 : Int32)), (.int (0 : Int32)), (.int (0 : Int32)), (.int (0 : Int32)), (.int (0 : Int32)), (.int (0 : Int32)), (.int (0 : Int32)), (.int (0 : Int32))] := A1_h2
  refine w_iinc ok d3_14 (u := (1 : Int32)) rfl rfl (L' := #[.val (.ref a), .val (.int (-1 : Int32)), .val (.int (1 : Int32)), .val (.int (8 : Int32))]) rfl ?_
  show W K l _ n0 _ h2 0 0 17 #[.val (.ref a), .val (.int (-1 : Int32)), .val (.int (1 : Int32)), .val (.int (8 : Int32))] []
  refine w_goto ok d3_17 (pc' := 5) (by decide) ?_
  refine w_iloadN ok d3_5 rfl ?_
  refine w_iloadN ok d3_6 rfl ?_
  refine w_icmp_ge ok d3_7 (pc' := 20) (by decide) (fun hc4 => False.elim (by revert hc4; decide)) (fun hc4 => ?_)
  show W K l _ n0 _ h2 0 0 10 #[.val (.ref a), .val (.int (-1 : Int32)), .val (.int (1 : Int32)), .val (.int (8 : Int32))] []
  refine w_aloadN ok d3_10 rfl rfl ?_
  refine w_iloadN ok d3_11 rfl ?_
  refine w_iloadN ok d3_12 rfl ?_
  refine w_iastore ok d3_13 A_a ge_a (by decide) (Nat.le_of_ble_eq_true rfl) (fun h5 W_h5 A1_h5 => ?_)
  replace Kp := Kp.wr W_h5 (Or.inl (by simp))
  replace A_a : PA .int Z h5 a [(.int (-1 : Int32)), (.int (-1 : Int32)), (.int (0 : Int32)), (.int (0 : Int32)), (.int (0 : Int32)), (.int (0 : Int32)), (.int (0 : Int32)), (.int (0 : Int32))] := A1_h5
  refine w_iinc ok d3_14 (u := (1 : Int32)) rfl rfl (L' := #[.val (.ref a), .val (.int (-1 : Int32)), .val (.int (2 : Int32)), .val (.int (8 : Int32))]) rfl ?_
  show W K l _ n0 _ h5 0 0 17 #[.val (.ref a), .val (.int (-1 : Int32)), .val (.int (2 : Int32)), .val (.int (8 : Int32))] []
  refine w_goto ok d3_17 (pc' := 5) (by decide) ?_
  refine w_iloadN ok d3_5 rfl ?_
  refine w_iloadN ok d3_6 rfl ?_
  refine w_icmp_ge ok d3_7 (pc' := 20) (by decide) (fun hc7 => False.elim (by revert hc7; decide)) (fun hc7 => ?_)
  show W K l _ n0 _ h5 0 0 10 #[.val (.ref a), .val (.int (-1 : Int32)), .val (.int (2 : Int32)), .val (.int (8 : Int32))] []
  refine w_aloadN ok d3_10 rfl rfl ?_
  refine w_iloadN ok d3_11 rfl ?_
  refine w_iloadN ok d3_12 rfl ?_
  refine w_iastore ok d3_13 A_a ge_a (by decide) (Nat.le_of_ble_eq_true rfl) (fun h8 W_h8 A1_h8 => ?_)
  replace Kp := Kp.wr W_h8 (Or.inl (by simp))
  replace A_a : PA .int Z h8 a [(.int (-1 : Int32)), (.int (-1 : Int32)), (.int (-1 : Int32)), (.int (0 : Int32)), (.int (0 : Int32)), (.int (0 : Int32)), (.int (0 : Int32)), (.int (0 : Int32))] := A1_h8
  refine w_iinc ok d3_14 (u := (1 : Int32)) rfl rfl (L' := #[.val (.ref a), .val (.int (-1 : Int32)), .val (.int (3 : Int32)), .val (.int (8 : Int32))]) rfl ?_
  show W K l _ n0 _ h8 0 0 17 #[.val (.ref a), .val (.int (-1 : Int32)), .val (.int (3 : Int32)), .val (.int (8 : Int32))] []
  refine w_goto ok d3_17 (pc' := 5) (by decide) ?_
  refine w_iloadN ok d3_5 rfl ?_
  refine w_iloadN ok d3_6 rfl ?_
  refine w_icmp_ge ok d3_7 (pc' := 20) (by decide) (fun hc10 => False.elim (by revert hc10; decide)) (fun hc10 => ?_)
  show W K l _ n0 _ h8 0 0 10 #[.val (.ref a), .val (.int (-1 : Int32)), .val (.int (3 : Int32)), .val (.int (8 : Int32))] []
  refine w_aloadN ok d3_10 rfl rfl ?_
  refine w_iloadN ok d3_11 rfl ?_
  refine w_iloadN ok d3_12 rfl ?_
  refine w_iastore ok d3_13 A_a ge_a (by decide) (Nat.le_of_ble_eq_true rfl) (fun h11 W_h11 A1_h11 => ?_)
  replace Kp := Kp.wr W_h11 (Or.inl (by simp))
  replace A_a : PA .int Z h11 a [(.int (-1 : Int32)), (.int (-1 : Int32)), (.int (-1 : Int32)), (.int (-1 : Int32)), (.int (0 : Int32)), (.int (0 : Int32)), (.int (0 : Int32)), (.int (0 : Int32))] := A1_h11
  refine w_iinc ok d3_14 (u := (1 : Int32)) rfl rfl (L' := #[.val (.ref a), .val (.int (-1 : Int32)), .val (.int (4 : Int32)), .val (.int (8 : Int32))]) rfl ?_
  show W K l _ n0 _ h11 0 0 17 #[.val (.ref a), .val (.int (-1 : Int32)), .val (.int (4 : Int32)), .val (.int (8 : Int32))] []
  refine w_goto ok d3_17 (pc' := 5) (by decide) ?_
  refine w_iloadN ok d3_5 rfl ?_
  refine w_iloadN ok d3_6 rfl ?_
  refine w_icmp_ge ok d3_7 (pc' := 20) (by decide) (fun hc13 => False.elim (by revert hc13; decide)) (fun hc13 => ?_)
  show W K l _ n0 _ h11 0 0 10 #[.val (.ref a), .val (.int (-1 : Int32)), .val (.int (4 : Int32)), .val (.int (8 : Int32))] []
  refine w_aloadN ok d3_10 rfl rfl ?_
  refine w_iloadN ok d3_11 rfl ?_
  refine w_iloadN ok d3_12 rfl ?_
  refine w_iastore ok d3_13 A_a ge_a (by decide) (Nat.le_of_ble_eq_true rfl) (fun h14 W_h14 A1_h14 => ?_)
  replace Kp := Kp.wr W_h14 (Or.inl (by simp))
  replace A_a : PA .int Z h14 a [(.int (-1 : Int32)), (.int (-1 : Int32)), (.int (-1 : Int32)), (.int (-1 : Int32)), (.int (-1 : Int32)), (.int (0 : Int32)), (.int (0 : Int32)), (.int (0 : Int32))] := A1_h14
  refine w_iinc ok d3_14 (u := (1 : Int32)) rfl rfl (L' := #[.val (.ref a), .val (.int (-1 : Int32)), .val (.int (5 : Int32)), .val (.int (8 : Int32))]) rfl ?_
  show W K l _ n0 _ h14 0 0 17 #[.val (.ref a), .val (.int (-1 : Int32)), .val (.int (5 : Int32)), .val (.int (8 : Int32))] []
  refine w_goto ok d3_17 (pc' := 5) (by decide) ?_
  refine w_iloadN ok d3_5 rfl ?_
  refine w_iloadN ok d3_6 rfl ?_
  refine w_icmp_ge ok d3_7 (pc' := 20) (by decide) (fun hc16 => False.elim (by revert hc16; decide)) (fun hc16 => ?_)
  show W K l _ n0 _ h14 0 0 10 #[.val (.ref a), .val (.int (-1 : Int32)), .val (.int (5 : Int32)), .val (.int (8 : Int32))] []
  refine w_aloadN ok d3_10 rfl rfl ?_
  refine w_iloadN ok d3_11 rfl ?_
  refine w_iloadN ok d3_12 rfl ?_
  refine w_iastore ok d3_13 A_a ge_a (by decide) (Nat.le_of_ble_eq_true rfl) (fun h17 W_h17 A1_h17 => ?_)
  replace Kp := Kp.wr W_h17 (Or.inl (by simp))
  replace A_a : PA .int Z h17 a [(.int (-1 : Int32)), (.int (-1 : Int32)), (.int (-1 : Int32)), (.int (-1 : Int32)), (.int (-1 : Int32)), (.int (-1 : Int32)), (.int (0 : Int32)), (.int (0 : Int32))] := A1_h17
  refine w_iinc ok d3_14 (u := (1 : Int32)) rfl rfl (L' := #[.val (.ref a), .val (.int (-1 : Int32)), .val (.int (6 : Int32)), .val (.int (8 : Int32))]) rfl ?_
  show W K l _ n0 _ h17 0 0 17 #[.val (.ref a), .val (.int (-1 : Int32)), .val (.int (6 : Int32)), .val (.int (8 : Int32))] []
  refine w_goto ok d3_17 (pc' := 5) (by decide) ?_
  refine w_iloadN ok d3_5 rfl ?_
  refine w_iloadN ok d3_6 rfl ?_
  refine w_icmp_ge ok d3_7 (pc' := 20) (by decide) (fun hc19 => False.elim (by revert hc19; decide)) (fun hc19 => ?_)
  show W K l _ n0 _ h17 0 0 10 #[.val (.ref a), .val (.int (-1 : Int32)), .val (.int (6 : Int32)), .val (.int (8 : Int32))] []
  refine w_aloadN ok d3_10 rfl rfl ?_
  refine w_iloadN ok d3_11 rfl ?_
  refine w_iloadN ok d3_12 rfl ?_
  refine w_iastore ok d3_13 A_a ge_a (by decide) (Nat.le_of_ble_eq_true rfl) (fun h20 W_h20 A1_h20 => ?_)
  replace Kp := Kp.wr W_h20 (Or.inl (by simp))
  replace A_a : PA .int Z h20 a [(.int (-1 : Int32)), (.int (-1 : Int32)), (.int (-1 : Int32)), (.int (-1 : Int32)), (.int (-1 : Int32)), (.int (-1 : Int32)), (.int (-1 : Int32)), (.int (0 : Int32))] := A1_h20
  refine w_iinc ok d3_14 (u := (1 : Int32)) rfl rfl (L' := #[.val (.ref a), .val (.int (-1 : Int32)), .val (.int (7 : Int32)), .val (.int (8 : Int32))]) rfl ?_
  show W K l _ n0 _ h20 0 0 17 #[.val (.ref a), .val (.int (-1 : Int32)), .val (.int (7 : Int32)), .val (.int (8 : Int32))] []
  refine w_goto ok d3_17 (pc' := 5) (by decide) ?_
  refine w_iloadN ok d3_5 rfl ?_
  refine w_iloadN ok d3_6 rfl ?_
  refine w_icmp_ge ok d3_7 (pc' := 20) (by decide) (fun hc22 => False.elim (by revert hc22; decide)) (fun hc22 => ?_)
  show W K l _ n0 _ h20 0 0 10 #[.val (.ref a), .val (.int (-1 : Int32)), .val (.int (7 : Int32)), .val (.int (8 : Int32))] []
  refine w_aloadN ok d3_10 rfl rfl ?_
  refine w_iloadN ok d3_11 rfl ?_
  refine w_iloadN ok d3_12 rfl ?_
  refine w_iastore ok d3_13 A_a ge_a (by decide) (Nat.le_of_ble_eq_true rfl) (fun h23 W_h23 A1_h23 => ?_)
  replace Kp := Kp.wr W_h23 (Or.inl (by simp))
  replace A_a : PA .int Z h23 a [(.int (-1 : Int32)), (.int (-1 : Int32)), (.int (-1 : Int32)), (.int (-1 : Int32)), (.int (-1 : Int32)), (.int (-1 : Int32)), (.int (-1 : Int32)), (.int (-1 : Int32))] := A1_h23
  refine w_iinc ok d3_14 (u := (1 : Int32)) rfl rfl (L' := #[.val (.ref a), .val (.int (-1 : Int32)), .val (.int (8 : Int32)), .val (.int (8 : Int32))]) rfl ?_
  show W K l _ n0 _ h23 0 0 17 #[.val (.ref a), .val (.int (-1 : Int32)), .val (.int (8 : Int32)), .val (.int (8 : Int32))] []
  refine w_goto ok d3_17 (pc' := 5) (by decide) ?_
  refine w_iloadN ok d3_5 rfl ?_
  refine w_iloadN ok d3_6 rfl ?_
  refine w_icmp_ge ok d3_7 (pc' := 20) (by decide) (fun hc25 => ?_) (fun hc25 => False.elim (by revert hc25; decide))
  show W K l _ n0 _ h23 0 0 20 #[.val (.ref a), .val (.int (-1 : Int32)), .val (.int (8 : Int32)), .val (.int (8 : Int32))] []
  refine w_ret ok d3_20 (by decide) (by decide) ?_
  exact ⟨rfl, Kp, A_a⟩
theorem d1_0 : decode prog_3_method_1_code 0 = .ok (.aload_n 0, 1) := by decide +kernel
theorem d1_1 : decode prog_3_method_1_code 1 = .ok (.invokespecial 1, 3) := by decide +kernel
theorem d1_4 : decode prog_3_method_1_code 4 = .ok (.aload_n 0, 1) := by decide +kernel
theorem d1_5 : decode prog_3_method_1_code 5 = .ok (.iconst 1, 1) := by decide +kernel
theorem d1_6 : decode prog_3_method_1_code 6 = .ok (.newarray .int, 2) := by decide +kernel
theorem d1_8 : decode prog_3_method_1_code 8 = .ok (.putfield 7, 3) := by decide +kernel
theorem d1_11 : decode prog_3_method_1_code 11 = .ok (.aload_n 0, 1) := by decide +kernel
theorem d1_12 : decode prog_3_method_1_code 12 = .ok (.iconst 0, 1) := by decide +kernel
theorem d1_13 : decode prog_3_method_1_code 13 = .ok (.newarray .long, 2) := by decide +kernel
theorem d1_15 : decode prog_3_method_1_code 15 = .ok (.putfield 13, 3) := by decide +kernel
theorem d1_18 : decode prog_3_method_1_code 18 = .ok (.aload_n 0, 1) := by decide +kernel
theorem d1_19 : decode prog_3_method_1_code 19 = .ok (.iload_n 1, 1) := by decide +kernel
theorem d1_20 : decode prog_3_method_1_code 20 = .ok (.putfield 17, 3) := by decide +kernel
theorem d1_23 : decode prog_3_method_1_code 23 = .ok (.aload_n 0, 1) := by decide +kernel
theorem d1_24 : decode prog_3_method_1_code 24 = .ok (.iconst 4, 1) := by decide +kernel
theorem d1_25 : decode prog_3_method_1_code 25 = .ok (.iload_n 1, 1) := by decide +kernel
theorem d1_26 : decode prog_3_method_1_code 26 = .ok (.imul, 1) := by decide +kernel
theorem d1_27 : decode prog_3_method_1_code 27 = .ok (.newarray .int, 2) := by decide +kernel
theorem d1_29 : decode prog_3_method_1_code 29 = .ok (.putfield 21, 3) := by decide +kernel
theorem d1_32 : decode prog_3_method_1_code 32 = .ok (.aload_n 0, 1) := by decide +kernel
theorem d1_33 : decode prog_3_method_1_code 33 = .ok (.iconst 4, 1) := by decide +kernel
theorem d1_34 : decode prog_3_method_1_code 34 = .ok (.newarray .boolean, 2) := by decide +kernel
theorem d1_36 : decode prog_3_method_1_code 36 = .ok (.putfield 24, 3) := by decide +kernel
theorem d1_39 : decode prog_3_method_1_code 39 = .ok (.aload_n 0, 1) := by decide +kernel
theorem d1_40 : decode prog_3_method_1_code 40 = .ok (.bipush 8, 2) := by decide +kernel
theorem d1_42 : decode prog_3_method_1_code 42 = .ok (.newarray .int, 2) := by decide +kernel
theorem d1_44 : decode prog_3_method_1_code 44 = .ok (.putfield 28, 3) := by decide +kernel
theorem d1_47 : decode prog_3_method_1_code 47 = .ok (.aload_n 0, 1) := by decide +kernel
theorem d1_48 : decode prog_3_method_1_code 48 = .ok (.getfield 28, 3) := by decide +kernel
theorem d1_51 : decode prog_3_method_1_code 51 = .ok (.iconst (-1), 1) := by decide +kernel
theorem d1_52 : decode prog_3_method_1_code 52 = .ok (.invokestatic 31, 3) := by decide +kernel
theorem d1_55 : decode prog_3_method_1_code 55 = .ok (.aload_n 0, 1) := by decide +kernel
theorem d1_56 : decode prog_3_method_1_code 56 = .ok (.iload_n 1, 1) := by decide +kernel
theorem d1_57 : decode prog_3_method_1_code 57 = .ok (.iconst 1, 1) := by decide +kernel
theorem d1_58 : decode prog_3_method_1_code 58 = .ok (.if_icmp .ne 7, 3) := by decide +kernel
theorem d1_61 : decode prog_3_method_1_code 61 = .ok (.iconst 0, 1) := by decide +kernel
theorem d1_62 : decode prog_3_method_1_code 62 = .ok (.goto 4, 3) := by decide +kernel
theorem d1_65 : decode prog_3_method_1_code 65 = .ok (.iload_n 1, 1) := by decide +kernel
theorem d1_66 : decode prog_3_method_1_code 66 = .ok (.anewarray 37, 3) := by decide +kernel
theorem d1_69 : decode prog_3_method_1_code 69 = .ok (.putfield 39, 3) := by decide +kernel
theorem d1_72 : decode prog_3_method_1_code 72 = .ok (.return_, 1) := by decide +kernel
theorem pn_com_example_hornconv_hornconv_FactTable : plainName "com/example/hornconv/hornconv/FactTable" = true := by first | (simp [plainName, overriddenIn]; done) | decide +kernel
theorem pd_285bII29V : parseMethodDescriptor "([II)V" = some ⟨[(.array .int), .int], none⟩ := by decide +kernel
set_option maxRecDepth 65536 in
set_option maxHeartbeats 40000000 in
theorem rm_ctor (l : Launch) (Z : State) (a0 : Array Value) (hw : ∀ d ∈ tables_1, d.before a0 Z = true) (ws : List Jvm.Cond) (n0 : Nat) (h0 : Heap) (Z0 : Old Z n0 h0) (t : Addr) (A_t : Ob Z h0 t "com/example/hornconv/hornconv/FactTable" fl_FactTable [.null, .null, (.int (0 : Int32)), .null, .null, .null, .null, (.int (0 : Int32)), (.int (0 : Int32)), (.int (0 : Int32))]) (ge_t : n0 ≤ t)  :
    Met l Z n0 (⟨"com/example/hornconv/hornconv/FactTable", "<init>", "(I)V"⟩ : MethodName) prog_3_method_1_code 2 none ws ({ frames := 1, cells := 6, slots := 28, locals := 15 } : Room) #[(.ref t), (.int (3 : Int32))] h0 (fun u h => u = none ∧ ∃ un me ag de sl po, (h0.size ≤ ag ∧ h0.size ≤ de ∧ h0.size ≤ sl ∧ h0.size ≤ po) ∧ (n0 ≤ ag ∧ n0 ≤ de ∧ n0 ≤ sl ∧ n0 ≤ po) ∧ (t ≠ ag ∧ t ≠ de ∧ t ≠ sl ∧ t ≠ po ∧ ag ≠ de ∧ ag ≠ sl ∧ ag ≠ po ∧ de ≠ sl ∧ de ≠ po ∧ sl ≠ po) ∧ Keep h0 h [t] ∧ Ob Z h t "com/example/hornconv/hornconv/FactTable" fl_FactTable [(.ref un), (.ref me), (.int (3 : Int32)), (.ref ag), (.ref de), (.ref sl), (.ref po), (.int (0 : Int32)), (.int (0 : Int32)), (.int (0 : Int32))] ∧ PA .int Z h ag [(.int (0 : Int32)), (.int (0 : Int32)), (.int (0 : Int32)), (.int (0 : Int32)), (.int (0 : Int32)), (.int (0 : Int32)), (.int (0 : Int32)), (.int (0 : Int32)), (.int (0 : Int32)), (.int (0 : Int32)), (.int (0 : Int32)), (.int (0 : Int32))] ∧ PA .boolean Z h de [(.int (0 : Int32)), (.int (0 : Int32)), (.int (0 : Int32)), (.int (0 : Int32))] ∧ PA .int Z h sl (sv 8 (fun _ => -1)) ∧ PA (.object "com/example/hornconv/hornconv/FactTable$PositionIndex") Z h po [.null, .null, .null]) := by
  refine met_of Z0 (plainFor_of_name pn_com_example_hornconv_hornconv_FactTable) (Ls := #[.val (.ref t), .val (.int (3 : Int32))]) (fun m => by first | (simp [entryFrame, mkF, argsToLocals, Value.category]; done) | rfl) ?_
  intro K ok
  have Kp : Keep h0 h0 [t] := Keep.refl _ _
  show W K l _ n0 _ h0 0 0 0 #[.val (.ref t), .val (.int (3 : Int32))] []
  refine w_aloadN ok d1_0 rfl rfl ?_
  refine w_initO ok d1_1 (hw _ (List.mem_of_getElem? (i := 7) rfl)) (hw _ (List.mem_of_getElem? (i := 8) rfl)) (hw _ (List.mem_of_getElem? (i := 9) rfl)) rfl (by decide) (Nat.le_of_ble_eq_true rfl) ?_
  show W K l _ n0 _ h0 0 0 4 #[.val (.ref t), .val (.int (3 : Int32))] []
  refine w_aloadN ok d1_4 rfl rfl ?_
  refine w_iconst ok d1_5 (v := (1 : Int32)) rfl ?_
  refine w_newarray ok d1_6 (hw _ (List.mem_of_getElem? (i := 0) rfl)) (by decide) (cap := 1) (by decide) (by decide) (by decide) (by decide) (fun h2 b1 ea_b1 ge_b1 E_b1 A_b1 => ?_)
  have sz_b1 : h0.size ≤ b1 := Nat.le_trans Kp.1 (Nat.le_of_eq ea_b1.symm)
  have ne_t_b1 : t ≠ b1 := fun q => Nat.lt_irrefl _ (Nat.lt_of_lt_of_eq A_t.lt (ea_b1.symm.trans q.symm))
  replace Kp := Kp.ext E_b1
  replace A_t := A_t.ext E_b1
  replace A_b1 : PA .int Z h2 b1 [(.int (0 : Int32))] := A_b1
  refine w_putfield ok (host := "") (f := ("com/example/hornconv/hornconv/FactTable", "unary", "[I", (.array .int))) 0 d1_8 (Or.inl (hw _ (List.mem_of_getElem? (i := 10) rfl))) Via.refl A_t (la_FactTable hw) rfl rfl (Or.inr ⟨(hw _ (List.mem_of_getElem? (i := 11) rfl)), rfl, rfl⟩) (hw _ (List.mem_of_getElem? (i := 2) rfl)) rfl rfl ge_t (fun h3 W_h3 A1_h3 => ?_)
  replace Kp := Kp.wr W_h3 (Or.inl (by simp))
  replace A_b1 := A_b1.other W_h3 (Ne.symm ne_t_b1)
  replace A_t : Ob Z h3 t "com/example/hornconv/hornconv/FactTable" fl_FactTable [(.ref b1), .null, (.int (0 : Int32)), .null, .null, .null, .null, (.int (0 : Int32)), (.int (0 : Int32)), (.int (0 : Int32))] := A1_h3
  refine w_aloadN ok d1_11 rfl rfl ?_
  refine w_iconst ok d1_12 (v := (0 : Int32)) rfl ?_
  refine w_newarray ok d1_13 (hw _ (List.mem_of_getElem? (i := 12) rfl)) (by decide) (cap := 0) (by decide) (by decide) (by decide) (by decide) (fun h5 b4 ea_b4 ge_b4 E_b4 A_b4 => ?_)
  have sz_b4 : h0.size ≤ b4 := Nat.le_trans Kp.1 (Nat.le_of_eq ea_b4.symm)
  have ne_t_b4 : t ≠ b4 := fun q => Nat.lt_irrefl _ (Nat.lt_of_lt_of_eq A_t.lt (ea_b4.symm.trans q.symm))
  have ne_b1_b4 : b1 ≠ b4 := fun q => Nat.lt_irrefl _ (Nat.lt_of_lt_of_eq A_b1.lt (ea_b4.symm.trans q.symm))
  replace Kp := Kp.ext E_b4
  replace A_t := A_t.ext E_b4
  replace A_b1 := A_b1.ext E_b4
  replace A_b4 : PA .long Z h5 b4 [] := A_b4
  refine w_putfield ok (host := "") (f := ("com/example/hornconv/hornconv/FactTable", "members", "[J", (.array .long))) 1 d1_15 (Or.inl (hw _ (List.mem_of_getElem? (i := 13) rfl))) Via.refl A_t (la_FactTable hw) rfl rfl (Or.inl (hw _ (List.mem_of_getElem? (i := 14) rfl))) (hw _ (List.mem_of_getElem? (i := 2) rfl)) rfl rfl ge_t (fun h6 W_h6 A1_h6 => ?_)
  replace Kp := Kp.wr W_h6 (Or.inl (by simp))
  replace A_b1 := A_b1.other W_h6 (Ne.symm ne_t_b1)
  replace A_b4 := A_b4.other W_h6 (Ne.symm ne_t_b4)
  replace A_t : Ob Z h6 t "com/example/hornconv/hornconv/FactTable" fl_FactTable [(.ref b1), (.ref b4), (.int (0 : Int32)), .null, .null, .null, .null, (.int (0 : Int32)), (.int (0 : Int32)), (.int (0 : Int32))] := A1_h6
  refine w_aloadN ok d1_18 rfl rfl ?_
  refine w_iloadN ok d1_19 rfl ?_
  refine w_putfield ok (host := "") (f := ("com/example/hornconv/hornconv/FactTable", "arity", "I", .int)) 2 d1_20 (Or.inl (hw _ (List.mem_of_getElem? (i := 15) rfl))) Via.refl A_t (la_FactTable hw) rfl rfl (Or.inr ⟨(hw _ (List.mem_of_getElem? (i := 16) rfl)), rfl, rfl⟩) (hw _ (List.mem_of_getElem? (i := 2) rfl)) rfl rfl ge_t (fun h7 W_h7 A1_h7 => ?_)
  replace Kp := Kp.wr W_h7 (Or.inl (by simp))
  replace A_b1 := A_b1.other W_h7 (Ne.symm ne_t_b1)
  replace A_b4 := A_b4.other W_h7 (Ne.symm ne_t_b4)
  replace A_t : Ob Z h7 t "com/example/hornconv/hornconv/FactTable" fl_FactTable [(.ref b1), (.ref b4), (.int (3 : Int32)), .null, .null, .null, .null, (.int (0 : Int32)), (.int (0 : Int32)), (.int (0 : Int32))] := A1_h7
  refine w_aloadN ok d1_23 rfl rfl ?_
  refine w_iconst ok d1_24 (v := (4 : Int32)) rfl ?_
  refine w_iloadN ok d1_25 rfl ?_
  refine w_imul ok d1_26 ?_
  show W K l _ n0 _ h7 2 1 27 #[.val (.ref t), .val (.int (3 : Int32))] [(.int (12 : Int32)), (.ref t)]
  refine w_newarray ok d1_27 (hw _ (List.mem_of_getElem? (i := 0) rfl)) (by decide) (cap := 12) (by decide) (by decide) (by decide) (by decide) (fun h9 b8 ea_b8 ge_b8 E_b8 A_b8 => ?_)
  have sz_b8 : h0.size ≤ b8 := Nat.le_trans Kp.1 (Nat.le_of_eq ea_b8.symm)
  have ne_t_b8 : t ≠ b8 := fun q => Nat.lt_irrefl _ (Nat.lt_of_lt_of_eq A_t.lt (ea_b8.symm.trans q.symm))
  have ne_b1_b8 : b1 ≠ b8 := fun q => Nat.lt_irrefl _ (Nat.lt_of_lt_of_eq A_b1.lt (ea_b8.symm.trans q.symm))
  have ne_b4_b8 : b4 ≠ b8 := fun q => Nat.lt_irrefl _ (Nat.lt_of_lt_of_eq A_b4.lt (ea_b8.symm.trans q.symm))
  replace Kp := Kp.ext E_b8
  replace A_t := A_t.ext E_b8
  replace A_b1 := A_b1.ext E_b8
  replace A_b4 := A_b4.ext E_b8
  replace A_b8 : PA .int Z h9 b8 [(.int (0 : Int32)), (.int (0 : Int32)), (.int (0 : Int32)), (.int (0 : Int32)), (.int (0 : Int32)), (.int (0 : Int32)), (.int (0 : Int32)), (.int (0 : Int32)), (.int (0 : Int32)), (.int (0 : Int32)), (.int (0 : Int32)), (.int (0 : Int32))] := A_b8
  refine w_putfield ok (host := "") (f := ("com/example/hornconv/hornconv/FactTable", "arguments", "[I", (.array .int))) 3 d1_29 (Or.inl (hw _ (List.mem_of_getElem? (i := 17) rfl))) Via.refl A_t (la_FactTable hw) rfl rfl (Or.inl (hw _ (List.mem_of_getElem? (i := 18) rfl))) (hw _ (List.mem_of_getElem? (i := 2) rfl)) rfl rfl ge_t (fun h10 W_h10 A1_h10 => ?_)
  replace Kp := Kp.wr W_h10 (Or.inl (by simp))
  replace A_b1 := A_b1.other W_h10 (Ne.symm ne_t_b1)
  replace A_b4 := A_b4.other W_h10 (Ne.symm ne_t_b4)
  replace A_b8 := A_b8.other W_h10 (Ne.symm ne_t_b8)
  replace A_t : Ob Z h10 t "com/example/hornconv/hornconv/FactTable" fl_FactTable [(.ref b1), (.ref b4), (.int (3 : Int32)), (.ref b8), .null, .null, .null, (.int (0 : Int32)), (.int (0 : Int32)), (.int (0 : Int32))] := A1_h10
  refine w_aloadN ok d1_32 rfl rfl ?_
  refine w_iconst ok d1_33 (v := (4 : Int32)) rfl ?_
  refine w_newarray ok d1_34 (hw _ (List.mem_of_getElem? (i := 19) rfl)) (by decide) (cap := 4) (by decide) (by decide) (by decide) (by decide) (fun h12 b11 ea_b11 ge_b11 E_b11 A_b11 => ?_)
  have sz_b11 : h0.size ≤ b11 := Nat.le_trans Kp.1 (Nat.le_of_eq ea_b11.symm)
  have ne_t_b11 : t ≠ b11 := fun q => Nat.lt_irrefl _ (Nat.lt_of_lt_of_eq A_t.lt (ea_b11.symm.trans q.symm))
  have ne_b1_b11 : b1 ≠ b11 := fun q => Nat.lt_irrefl _ (Nat.lt_of_lt_of_eq A_b1.lt (ea_b11.symm.trans q.symm))
  have ne_b4_b11 : b4 ≠ b11 := fun q => Nat.lt_irrefl _ (Nat.lt_of_lt_of_eq A_b4.lt (ea_b11.symm.trans q.symm))
  have ne_b8_b11 : b8 ≠ b11 := fun q => Nat.lt_irrefl _ (Nat.lt_of_lt_of_eq A_b8.lt (ea_b11.symm.trans q.symm))
  replace Kp := Kp.ext E_b11
  replace A_t := A_t.ext E_b11
  replace A_b1 := A_b1.ext E_b11
  replace A_b4 := A_b4.ext E_b11
  replace A_b8 := A_b8.ext E_b11
  replace A_b11 : PA .boolean Z h12 b11 [(.int (0 : Int32)), (.int (0 : Int32)), (.int (0 : Int32)), (.int (0 : Int32))] := A_b11
  refine w_putfield ok (host := "") (f := ("com/example/hornconv/hornconv/FactTable", "dead", "[Z", (.array .boolean))) 4 d1_36 (Or.inl (hw _ (List.mem_of_getElem? (i := 20) rfl))) Via.refl A_t (la_FactTable hw) rfl rfl (Or.inl (hw _ (List.mem_of_getElem? (i := 21) rfl))) (hw _ (List.mem_of_getElem? (i := 2) rfl)) rfl rfl ge_t (fun h13 W_h13 A1_h13 => ?_)
  replace Kp := Kp.wr W_h13 (Or.inl (by simp))
  replace A_b1 := A_b1.other W_h13 (Ne.symm ne_t_b1)
  replace A_b4 := A_b4.other W_h13 (Ne.symm ne_t_b4)
  replace A_b8 := A_b8.other W_h13 (Ne.symm ne_t_b8)
  replace A_b11 := A_b11.other W_h13 (Ne.symm ne_t_b11)
  replace A_t : Ob Z h13 t "com/example/hornconv/hornconv/FactTable" fl_FactTable [(.ref b1), (.ref b4), (.int (3 : Int32)), (.ref b8), (.ref b11), .null, .null, (.int (0 : Int32)), (.int (0 : Int32)), (.int (0 : Int32))] := A1_h13
  refine w_aloadN ok d1_39 rfl rfl ?_
  refine w_bipush ok d1_40 (v := (8 : Int32)) rfl ?_
  refine w_newarray ok d1_42 (hw _ (List.mem_of_getElem? (i := 0) rfl)) (by decide) (cap := 8) (by decide) (by decide) (by decide) (by decide) (fun h15 b14 ea_b14 ge_b14 E_b14 A_b14 => ?_)
  have sz_b14 : h0.size ≤ b14 := Nat.le_trans Kp.1 (Nat.le_of_eq ea_b14.symm)
  have ne_t_b14 : t ≠ b14 := fun q => Nat.lt_irrefl _ (Nat.lt_of_lt_of_eq A_t.lt (ea_b14.symm.trans q.symm))
  have ne_b1_b14 : b1 ≠ b14 := fun q => Nat.lt_irrefl _ (Nat.lt_of_lt_of_eq A_b1.lt (ea_b14.symm.trans q.symm))
  have ne_b4_b14 : b4 ≠ b14 := fun q => Nat.lt_irrefl _ (Nat.lt_of_lt_of_eq A_b4.lt (ea_b14.symm.trans q.symm))
  have ne_b8_b14 : b8 ≠ b14 := fun q => Nat.lt_irrefl _ (Nat.lt_of_lt_of_eq A_b8.lt (ea_b14.symm.trans q.symm))
  have ne_b11_b14 : b11 ≠ b14 := fun q => Nat.lt_irrefl _ (Nat.lt_of_lt_of_eq A_b11.lt (ea_b14.symm.trans q.symm))
  replace Kp := Kp.ext E_b14
  replace A_t := A_t.ext E_b14
  replace A_b1 := A_b1.ext E_b14
  replace A_b4 := A_b4.ext E_b14
  replace A_b8 := A_b8.ext E_b14
  replace A_b11 := A_b11.ext E_b14
  replace A_b14 : PA .int Z h15 b14 [(.int (0 : Int32)), (.int (0 : Int32)), (.int (0 : Int32)), (.int (0 : Int32)), (.int (0 : Int32)), (.int (0 : Int32)), (.int (0 : Int32)), (.int (0 : Int32))] := A_b14
  refine w_putfield ok (host := "") (f := ("com/example/hornconv/hornconv/FactTable", "slots", "[I", (.array .int))) 5 d1_44 (Or.inl (hw _ (List.mem_of_getElem? (i := 22) rfl))) Via.refl A_t (la_FactTable hw) rfl rfl (Or.inl (hw _ (List.mem_of_getElem? (i := 23) rfl))) (hw _ (List.mem_of_getElem? (i := 2) rfl)) rfl rfl ge_t (fun h16 W_h16 A1_h16 => ?_)
  replace Kp := Kp.wr W_h16 (Or.inl (by simp))
  replace A_b1 := A_b1.other W_h16 (Ne.symm ne_t_b1)
  replace A_b4 := A_b4.other W_h16 (Ne.symm ne_t_b4)
  replace A_b8 := A_b8.other W_h16 (Ne.symm ne_t_b8)
  replace A_b11 := A_b11.other W_h16 (Ne.symm ne_t_b11)
  replace A_b14 := A_b14.other W_h16 (Ne.symm ne_t_b14)
  replace A_t : Ob Z h16 t "com/example/hornconv/hornconv/FactTable" fl_FactTable [(.ref b1), (.ref b4), (.int (3 : Int32)), (.ref b8), (.ref b11), (.ref b14), .null, (.int (0 : Int32)), (.int (0 : Int32)), (.int (0 : Int32))] := A1_h16
  refine w_aloadN ok d1_47 rfl rfl ?_
  refine w_getfield ok (v := (.ref b14)) (host := "") (f := ("com/example/hornconv/hornconv/FactTable", "slots", "[I", (.array .int))) 5 d1_48 (Or.inl (hw _ (List.mem_of_getElem? (i := 22) rfl))) Via.refl A_t rfl rfl ?_
  refine w_iconst ok d1_51 (v := (-1 : Int32)) rfl ?_
  refine w_callS ok (y := (⟨"java/util/Arrays", "fill", "([II)V"⟩ : MethodName)) (argsL := [(.ref b14), (.int (-1 : Int32))]) (rest := []) d1_52 (hw _ (List.mem_of_getElem? (i := 24) rfl)) (hw _ (List.mem_of_getElem? (i := 25) rfl)) (hw _ (List.mem_of_getElem? (i := 26) rfl)) (hw _ (List.mem_of_getElem? (i := 27) rfl)) (by decide) pd_285bII29V rfl rfl (by decide) (Nat.le_of_ble_eq_true rfl) (by decide) (by decide) (fun z0 => rm_fill l Z a0 hw [] n0 h16 z0 b14 A_b14 ge_b14) (fun v17 h18 qv17 => ?_)
  obtain ⟨rfl, K1, A1⟩ := qv17
  replace Kp := Kp.trans K1 (allS (Or.inr sz_b14) all0)
  replace A_t := A_t.keep K1 (ninS ne_t_b14 nin0)
  replace A_b1 := A_b1.keep K1 (ninS ne_b1_b14 nin0)
  replace A_b4 := A_b4.keep K1 (ninS ne_b4_b14 nin0)
  replace A_b8 := A_b8.keep K1 (ninS ne_b8_b14 nin0)
  replace A_b11 := A_b11.keep K1 (ninS ne_b11_b14 nin0)
  replace A_b14 := A1
  show W K l _ n0 _ h18 5 25 55 #[.val (.ref t), .val (.int (3 : Int32))] []
  refine w_aloadN ok d1_55 rfl rfl ?_
  refine w_iloadN ok d1_56 rfl ?_
  refine w_iconst ok d1_57 (v := (1 : Int32)) rfl ?_
  refine w_icmp_ne ok d1_58 (pc' := 65) (by decide) (fun hc20 => ?_) (fun hc20 => False.elim (by revert hc20; decide))
  show W K l _ n0 _ h18 5 25 65 #[.val (.ref t), .val (.int (3 : Int32))] [(.ref t)]
  refine w_iloadN ok d1_65 rfl ?_
  refine w_anewarray ok d1_66 (hw _ (List.mem_of_getElem? (i := 28) rfl)) (hw _ (List.mem_of_getElem? (i := 29) rfl)) (by decide) (cap := 3) (by decide) (by decide) (by decide) (by decide) (fun h22 b21 ea_b21 ge_b21 E_b21 A_b21 O_b21 => ?_)
  have sz_b21 : h0.size ≤ b21 := Nat.le_trans Kp.1 (Nat.le_of_eq ea_b21.symm)
  have ne_t_b21 : t ≠ b21 := fun q => Nat.lt_irrefl _ (Nat.lt_of_lt_of_eq A_t.lt (ea_b21.symm.trans q.symm))
  have ne_b1_b21 : b1 ≠ b21 := fun q => Nat.lt_irrefl _ (Nat.lt_of_lt_of_eq A_b1.lt (ea_b21.symm.trans q.symm))
  have ne_b4_b21 : b4 ≠ b21 := fun q => Nat.lt_irrefl _ (Nat.lt_of_lt_of_eq A_b4.lt (ea_b21.symm.trans q.symm))
  have ne_b8_b21 : b8 ≠ b21 := fun q => Nat.lt_irrefl _ (Nat.lt_of_lt_of_eq A_b8.lt (ea_b21.symm.trans q.symm))
  have ne_b11_b21 : b11 ≠ b21 := fun q => Nat.lt_irrefl _ (Nat.lt_of_lt_of_eq A_b11.lt (ea_b21.symm.trans q.symm))
  have ne_b14_b21 : b14 ≠ b21 := fun q => Nat.lt_irrefl _ (Nat.lt_of_lt_of_eq A_b14.lt (ea_b21.symm.trans q.symm))
  replace Kp := Kp.ext E_b21
  replace A_t := A_t.ext E_b21
  replace A_b1 := A_b1.ext E_b21
  replace A_b4 := A_b4.ext E_b21
  replace A_b8 := A_b8.ext E_b21
  replace A_b11 := A_b11.ext E_b21
  replace A_b14 := A_b14.ext E_b21
  replace A_b21 : PA (.object "com/example/hornconv/hornconv/FactTable$PositionIndex") Z h22 b21 [.null, .null, .null] := A_b21
  refine w_putfield ok (host := "") (f := ("com/example/hornconv/hornconv/FactTable", "positions", "[Lcom/example/hornconv/hornconv/FactTable$PositionIndex;", (.array (.object "com/example/hornconv/hornconv/FactTable$PositionIndex")))) 6 d1_69 (Or.inl (hw _ (List.mem_of_getElem? (i := 30) rfl))) Via.refl A_t (la_FactTable hw) rfl rfl (Or.inr ⟨(hw _ (List.mem_of_getElem? (i := 31) rfl)), rfl, rfl⟩) (hw _ (List.mem_of_getElem? (i := 2) rfl)) rfl rfl ge_t (fun h23 W_h23 A1_h23 => ?_)
  replace Kp := Kp.wr W_h23 (Or.inl (by simp))
  replace A_b1 := A_b1.other W_h23 (Ne.symm ne_t_b1)
  replace A_b4 := A_b4.other W_h23 (Ne.symm ne_t_b4)
  replace A_b8 := A_b8.other W_h23 (Ne.symm ne_t_b8)
  replace A_b11 := A_b11.other W_h23 (Ne.symm ne_t_b11)
  replace A_b14 := A_b14.other W_h23 (Ne.symm ne_t_b14)
  replace A_b21 := A_b21.other W_h23 (Ne.symm ne_t_b21)
  replace A_t : Ob Z h23 t "com/example/hornconv/hornconv/FactTable" fl_FactTable [(.ref b1), (.ref b4), (.int (3 : Int32)), (.ref b8), (.ref b11), (.ref b14), (.ref b21), (.int (0 : Int32)), (.int (0 : Int32)), (.int (0 : Int32))] := A1_h23
  refine w_ret ok d1_72 (by decide) (by decide) ?_
  refine ⟨rfl, b1, b4, b8, b11, b14, b21, ⟨sz_b8, sz_b11, sz_b14, sz_b21⟩, ⟨ge_b8, ge_b11, ge_b14, ge_b21⟩, ⟨ne_t_b8, ne_t_b11, ne_t_b14, ne_t_b21, ne_b8_b11, ne_b8_b14, ne_b8_b21, ne_b11_b14, ne_b11_b21, ne_b14_b21⟩, Kp, A_t, A_b8, A_b11, A_b14, A_b21⟩
theorem d5_0 : decode prog_3_method_18_code 0 = .ok (.iconst 0, 1) := by decide +kernel
theorem d5_1 : decode prog_3_method_18_code 1 = .ok (.istore_n 3, 1) := by decide +kernel
theorem d5_2 : decode prog_3_method_18_code 2 = .ok (.iconst 0, 1) := by decide +kernel
theorem d5_3 : decode prog_3_method_18_code 3 = .ok (.istore 4, 2) := by decide +kernel
theorem d5_5 : decode prog_3_method_18_code 5 = .ok (.iload 4, 2) := by decide +kernel
theorem d5_7 : decode prog_3_method_18_code 7 = .ok (.aload_n 0, 1) := by decide +kernel
theorem d5_8 : decode prog_3_method_18_code 8 = .ok (.getfield 17, 3) := by decide +kernel
theorem d5_11 : decode prog_3_method_18_code 11 = .ok (.if_icmp .ge 21, 3) := by decide +kernel
theorem d5_14 : decode prog_3_method_18_code 14 = .ok (.iload_n 3, 1) := by decide +kernel
theorem d5_15 : decode prog_3_method_18_code 15 = .ok (.aload_n 1, 1) := by decide +kernel
theorem d5_16 : decode prog_3_method_18_code 16 = .ok (.iload_n 2, 1) := by decide +kernel
theorem d5_17 : decode prog_3_method_18_code 17 = .ok (.iload 4, 2) := by decide +kernel
theorem d5_19 : decode prog_3_method_18_code 19 = .ok (.iadd, 1) := by decide +kernel
theorem d5_20 : decode prog_3_method_18_code 20 = .ok (.iaload, 1) := by decide +kernel
theorem d5_21 : decode prog_3_method_18_code 21 = .ok (.iadd, 1) := by decide +kernel
theorem d5_22 : decode prog_3_method_18_code 22 = .ok (.ldc 127, 2) := by decide +kernel
theorem d5_24 : decode prog_3_method_18_code 24 = .ok (.imul, 1) := by decide +kernel
theorem d5_25 : decode prog_3_method_18_code 25 = .ok (.istore_n 3, 1) := by decide +kernel
theorem d5_26 : decode prog_3_method_18_code 26 = .ok (.iinc 4 1, 3) := by decide +kernel
theorem d5_29 : decode prog_3_method_18_code 29 = .ok (.goto (-24), 3) := by decide +kernel
theorem d5_32 : decode prog_3_method_18_code 32 = .ok (.iload_n 3, 1) := by decide +kernel
theorem d5_33 : decode prog_3_method_18_code 33 = .ok (.iload_n 3, 1) := by decide +kernel
theorem d5_34 : decode prog_3_method_18_code 34 = .ok (.bipush 16, 2) := by decide +kernel
theorem d5_36 : decode prog_3_method_18_code 36 = .ok (.iushr, 1) := by decide +kernel
theorem d5_37 : decode prog_3_method_18_code 37 = .ok (.ixor, 1) := by decide +kernel
theorem d5_38 : decode prog_3_method_18_code 38 = .ok (.ireturn, 1) := by decide +kernel
set_option maxRecDepth 65536 in
set_option maxHeartbeats 40000000 in
theorem rm_h_3_0 (l : Launch) (Z : State) (a0 : Array Value) (hw : ∀ d ∈ tables_1, d.before a0 Z = true) (ws : List Jvm.Cond) (n0 : Nat) (h0 : Heap) (Z0 : Old Z n0 h0) (t vv un me ag de sl po : Addr) (rw lv us : Int32) (e0 e1 e2 : Int32) (A_t : Ob Z h0 t "com/example/hornconv/hornconv/FactTable" fl_FactTable [(.ref un), (.ref me), (.int (3 : Int32)), (.ref ag), (.ref de), (.ref sl), (.ref po), (.int rw), (.int lv), (.int us)]) (A_v : PA .int Z h0 vv [(.int e0), (.int e1), (.int e2)])  :
    Met l Z n0 (⟨"com/example/hornconv/hornconv/FactTable", "hash", "([II)I"⟩ : MethodName) prog_3_method_18_code 5 (some .int) ws ({ frames := 0, cells := 0, slots := 0, locals := 0 } : Room) #[(.ref t), (.ref vv), (.int (0 : Int32))] h0 (fun u h => u = some (.int (own_hs [e0, e1, e2])) ∧ h0 = h) := by
  refine met_of Z0 (plainFor_of_name pn_com_example_hornconv_hornconv_FactTable) (Ls := #[.val (.ref t), .val (.ref vv), .val (.int (0 : Int32)), .unset, .unset]) (fun m => by first | (simp [entryFrame, mkF, argsToLocals, Value.category]; done) | rfl) ?_
  intro K ok
  show W K l _ n0 _ h0 0 0 0 #[.val (.ref t), .val (.ref vv), .val (.int (0 : Int32)), .unset, .unset] []
  refine w_iconst ok d5_0 (v := (0 : Int32)) rfl ?_
  refine w_istoreN ok d5_1 (L' := #[.val (.ref t), .val (.ref vv), .val (.int (0 : Int32)), .val (.int (0 : Int32)), .unset]) rfl ?_
  refine w_iconst ok d5_2 (v := (0 : Int32)) rfl ?_
  refine w_istore ok d5_3 (L' := #[.val (.ref t), .val (.ref vv), .val (.int (0 : Int32)), .val (.int (0 : Int32)), .val (.int (0 : Int32))]) rfl ?_
  refine w_iload ok d5_5 rfl ?_
  refine w_aloadN ok d5_7 rfl rfl ?_
  refine w_getfield ok (v := (.int (3 : Int32))) (host := "") (f := ("com/example/hornconv/hornconv/FactTable", "arity", "I", .int)) 2 d5_8 (Or.inl (hw _ (List.mem_of_getElem? (i := 15) rfl))) Via.refl A_t rfl rfl ?_
  refine w_icmp_ge ok d5_11 (pc' := 32) (by decide) (fun hc1 => False.elim (by revert hc1; decide)) (fun hc1 => ?_)
  show W K l _ n0 _ h0 0 0 14 #[.val (.ref t), .val (.ref vv), .val (.int (0 : Int32)), .val (.int (0 : Int32)), .val (.int (0 : Int32))] []
  refine w_iloadN ok d5_14 rfl ?_
  refine w_aloadN ok d5_15 rfl rfl ?_
  refine w_iloadN ok d5_16 rfl ?_
  refine w_iload ok d5_17 rfl ?_
  refine w_iadd ok d5_19 ?_
  show W K l _ n0 _ h0 0 0 20 #[.val (.ref t), .val (.ref vv), .val (.int (0 : Int32)), .val (.int (0 : Int32)), .val (.int (0 : Int32))] [(.int (0 : Int32)), (.ref vv), (.int (0 : Int32))]
  refine w_iaload ok (v := (.int e0)) d5_20 A_v (by decide) rfl ?_
  refine w_iadd ok d5_21 ?_
  refine w_ldcI (v := (-1640531527 : Int32)) ok d5_22 (hw _ (List.mem_of_getElem? (i := 41) rfl)) ?_
  refine w_imul ok d5_24 ?_
  refine w_istoreN ok d5_25 (L' := #[.val (.ref t), .val (.ref vv), .val (.int (0 : Int32)), .val (.int (((0 : Int32) + e0) * (-1640531527 : Int32))), .val (.int (0 : Int32))]) rfl ?_
  refine w_iinc ok d5_26 (u := (1 : Int32)) rfl rfl (L' := #[.val (.ref t), .val (.ref vv), .val (.int (0 : Int32)), .val (.int (((0 : Int32) + e0) * (-1640531527 : Int32))), .val (.int (1 : Int32))]) rfl ?_
  show W K l _ n0 _ h0 0 0 29 #[.val (.ref t), .val (.ref vv), .val (.int (0 : Int32)), .val (.int (((0 : Int32) + e0) * (-1640531527 : Int32))), .val (.int (1 : Int32))] []
  refine w_goto ok d5_29 (pc' := 5) (by decide) ?_
  refine w_iload ok d5_5 rfl ?_
  refine w_aloadN ok d5_7 rfl rfl ?_
  refine w_getfield ok (v := (.int (3 : Int32))) (host := "") (f := ("com/example/hornconv/hornconv/FactTable", "arity", "I", .int)) 2 d5_8 (Or.inl (hw _ (List.mem_of_getElem? (i := 15) rfl))) Via.refl A_t rfl rfl ?_
  refine w_icmp_ge ok d5_11 (pc' := 32) (by decide) (fun hc3 => False.elim (by revert hc3; decide)) (fun hc3 => ?_)
  show W K l _ n0 _ h0 0 0 14 #[.val (.ref t), .val (.ref vv), .val (.int (0 : Int32)), .val (.int (((0 : Int32) + e0) * (-1640531527 : Int32))), .val (.int (1 : Int32))] []
  refine w_iloadN ok d5_14 rfl ?_
  refine w_aloadN ok d5_15 rfl rfl ?_
  refine w_iloadN ok d5_16 rfl ?_
  refine w_iload ok d5_17 rfl ?_
  refine w_iadd ok d5_19 ?_
  show W K l _ n0 _ h0 0 0 20 #[.val (.ref t), .val (.ref vv), .val (.int (0 : Int32)), .val (.int (((0 : Int32) + e0) * (-1640531527 : Int32))), .val (.int (1 : Int32))] [(.int (1 : Int32)), (.ref vv), (.int (((0 : Int32) + e0) * (-1640531527 : Int32)))]
  refine w_iaload ok (v := (.int e1)) d5_20 A_v (by decide) rfl ?_
  refine w_iadd ok d5_21 ?_
  refine w_ldcI (v := (-1640531527 : Int32)) ok d5_22 (hw _ (List.mem_of_getElem? (i := 41) rfl)) ?_
  refine w_imul ok d5_24 ?_
  refine w_istoreN ok d5_25 (L' := #[.val (.ref t), .val (.ref vv), .val (.int (0 : Int32)), .val (.int (((((0 : Int32) + e0) * (-1640531527 : Int32)) + e1) * (-1640531527 : Int32))), .val (.int (1 : Int32))]) rfl ?_
  refine w_iinc ok d5_26 (u := (1 : Int32)) rfl rfl (L' := #[.val (.ref t), .val (.ref vv), .val (.int (0 : Int32)), .val (.int (((((0 : Int32) + e0) * (-1640531527 : Int32)) + e1) * (-1640531527 : Int32))), .val (.int (2 : Int32))]) rfl ?_
  show W K l _ n0 _ h0 0 0 29 #[.val (.ref t), .val (.ref vv), .val (.int (0 : Int32)), .val (.int (((((0 : Int32) + e0) * (-1640531527 : Int32)) + e1) * (-1640531527 : Int32))), .val (.int (2 : Int32))] []
  refine w_goto ok d5_29 (pc' := 5) (by decide) ?_
  refine w_iload ok d5_5 rfl ?_
  refine w_aloadN ok d5_7 rfl rfl ?_
  refine w_getfield ok (v := (.int (3 : Int32))) (host := "") (f := ("com/example/hornconv/hornconv/FactTable", "arity", "I", .int)) 2 d5_8 (Or.inl (hw _ (List.mem_of_getElem? (i := 15) rfl))) Via.refl A_t rfl rfl ?_
  refine w_icmp_ge ok d5_11 (pc' := 32) (by decide) (fun hc5 => False.elim (by revert hc5; decide)) (fun hc5 => ?_)
  show W K l _ n0 _ h0 0 0 14 #[.val (.ref t), .val (.ref vv), .val (.int (0 : Int32)), .val (.int (((((0 : Int32) + e0) * (-1640531527 : Int32)) + e1) * (-1640531527 : Int32))), .val (.int (2 : Int32))] []
  refine w_iloadN ok d5_14 rfl ?_
  refine w_aloadN ok d5_15 rfl rfl ?_
  refine w_iloadN ok d5_16 rfl ?_
  refine w_iload ok d5_17 rfl ?_
  refine w_iadd ok d5_19 ?_
  show W K l _ n0 _ h0 0 0 20 #[.val (.ref t), .val (.ref vv), .val (.int (0 : Int32)), .val (.int (((((0 : Int32) + e0) * (-1640531527 : Int32)) + e1) * (-1640531527 : Int32))), .val (.int (2 : Int32))] [(.int (2 : Int32)), (.ref vv), (.int (((((0 : Int32) + e0) * (-1640531527 : Int32)) + e1) * (-1640531527 : Int32)))]
  refine w_iaload ok (v := (.int e2)) d5_20 A_v (by decide) rfl ?_
  refine w_iadd ok d5_21 ?_
  refine w_ldcI (v := (-1640531527 : Int32)) ok d5_22 (hw _ (List.mem_of_getElem? (i := 41) rfl)) ?_
  refine w_imul ok d5_24 ?_
  refine w_istoreN ok d5_25 (L' := #[.val (.ref t), .val (.ref vv), .val (.int (0 : Int32)), .val (.int (((((((0 : Int32) + e0) * (-1640531527 : Int32)) + e1) * (-1640531527 : Int32)) + e2) * (-1640531527 : Int32))), .val (.int (2 : Int32))]) rfl ?_
  refine w_iinc ok d5_26 (u := (1 : Int32)) rfl rfl (L' := #[.val (.ref t), .val (.ref vv), .val (.int (0 : Int32)), .val (.int (((((((0 : Int32) + e0) * (-1640531527 : Int32)) + e1) * (-1640531527 : Int32)) + e2) * (-1640531527 : Int32))), .val (.int (3 : Int32))]) rfl ?_
  show W K l _ n0 _ h0 0 0 29 #[.val (.ref t), .val (.ref vv), .val (.int (0 : Int32)), .val (.int (((((((0 : Int32) + e0) * (-1640531527 : Int32)) + e1) * (-1640531527 : Int32)) + e2) * (-1640531527 : Int32))), .val (.int (3 : Int32))] []
  refine w_goto ok d5_29 (pc' := 5) (by decide) ?_
  refine w_iload ok d5_5 rfl ?_
  refine w_aloadN ok d5_7 rfl rfl ?_
  refine w_getfield ok (v := (.int (3 : Int32))) (host := "") (f := ("com/example/hornconv/hornconv/FactTable", "arity", "I", .int)) 2 d5_8 (Or.inl (hw _ (List.mem_of_getElem? (i := 15) rfl))) Via.refl A_t rfl rfl ?_
  refine w_icmp_ge ok d5_11 (pc' := 32) (by decide) (fun hc7 => ?_) (fun hc7 => False.elim (by revert hc7; decide))
  show W K l _ n0 _ h0 0 0 32 #[.val (.ref t), .val (.ref vv), .val (.int (0 : Int32)), .val (.int (((((((0 : Int32) + e0) * (-1640531527 : Int32)) + e1) * (-1640531527 : Int32)) + e2) * (-1640531527 : Int32))), .val (.int (3 : Int32))] []
  refine w_iloadN ok d5_32 rfl ?_
  refine w_iloadN ok d5_33 rfl ?_
  refine w_bipush ok d5_34 (v := (16 : Int32)) rfl ?_
  refine w_iushr ok d5_36 ?_
  refine w_ixor ok d5_37 ?_
  refine w_iret ok d5_38 (by decide) (by decide) ?_
  exact ⟨rfl, rfl⟩
set_option maxRecDepth 65536 in
set_option maxHeartbeats 40000000 in
theorem rm_h_12_0 (l : Launch) (Z : State) (a0 : Array Value) (hw : ∀ d ∈ tables_1, d.before a0 Z = true) (ws : List Jvm.Cond) (n0 : Nat) (h0 : Heap) (Z0 : Old Z n0 h0) (t vv un me ag de sl po : Addr) (rw lv us : Int32) (e0 e1 e2 e3 e4 e5 e6 e7 e8 e9 e10 e11 : Int32) (A_t : Ob Z h0 t "com/example/hornconv/hornconv/FactTable" fl_FactTable [(.ref un), (.ref me), (.int (3 : Int32)), (.ref ag), (.ref de), (.ref sl), (.ref po), (.int rw), (.int lv), (.int us)]) (A_v : PA .int Z h0 vv [(.int e0), (.int e1), (.int e2), (.int e3), (.int e4), (.int e5), (.int e6), (.int e7), (.int e8), (.int e9), (.int e10), (.int e11)])  :
    Met l Z n0 (⟨"com/example/hornconv/hornconv/FactTable", "hash", "([II)I"⟩ : MethodName) prog_3_method_18_code 5 (some .int) ws ({ frames := 0, cells := 0, slots := 0, locals := 0 } : Room) #[(.ref t), (.ref vv), (.int (0 : Int32))] h0 (fun u h => u = some (.int (own_hs [e0, e1, e2])) ∧ h0 = h) := by
  refine met_of Z0 (plainFor_of_name pn_com_example_hornconv_hornconv_FactTable) (Ls := #[.val (.ref t), .val (.ref vv), .val (.int (0 : Int32)), .unset, .unset]) (fun m => by first | (simp [entryFrame, mkF, argsToLocals, Value.category]; done) | rfl) ?_
  intro K ok
  show W K l _ n0 _ h0 0 0 0 #[.val (.ref t), .val (.ref vv), .val (.int (0 : Int32)), .unset, .unset] []
  refine w_iconst ok d5_0 (v := (0 : Int32)) rfl ?_
  refine w_istoreN ok d5_1 (L' := #[.val (.ref t), .val (.ref vv), .val (.int (0 : Int32)), .val (.int (0 : Int32)), .unset]) rfl ?_
  refine w_iconst ok d5_2 (v := (0 : Int32)) rfl ?_
  refine w_istore ok d5_3 (L' := #[.val (.ref t), .val (.ref vv), .val (.int (0 : Int32)), .val (.int (0 : Int32)), .val (.int (0 : Int32))]) rfl ?_
  refine w_iload ok d5_5 rfl ?_
  refine w_aloadN ok d5_7 rfl rfl ?_
  refine w_getfield ok (v := (.int (3 : Int32))) (host := "") (f := ("com/example/hornconv/hornconv/FactTable", "arity", "I", .int)) 2 d5_8 (Or.inl (hw _ (List.mem_of_getElem? (i := 15) rfl))) Via.refl A_t rfl rfl ?_
  refine w_icmp_ge ok d5_11 (pc' := 32) (by decide) (fun hc1 => False.elim (by revert hc1; decide)) (fun hc1 => ?_)
  show W K l _ n0 _ h0 0 0 14 #[.val (.ref t), .val (.ref vv), .val (.int (0 : Int32)), .val (.int (0 : Int32)), .val (.int (0 : Int32))] []
  refine w_iloadN ok d5_14 rfl ?_
  refine w_aloadN ok d5_15 rfl rfl ?_
  refine w_iloadN ok d5_16 rfl ?_
  refine w_iload ok d5_17 rfl ?_
  refine w_iadd ok d5_19 ?_
  show W K l _ n0 _ h0 0 0 20 #[.val (.ref t), .val (.ref vv), .val (.int (0 : Int32)), .val (.int (0 : Int32)), .val (.int (0 : Int32))] [(.int (0 : Int32)), (.ref vv), (.int (0 : Int32))]
  refine w_iaload ok (v := (.int e0)) d5_20 A_v (by decide) rfl ?_
  refine w_iadd ok d5_21 ?_
  refine w_ldcI (v := (-1640531527 : Int32)) ok d5_22 (hw _ (List.mem_of_getElem? (i := 41) rfl)) ?_
  refine w_imul ok d5_24 ?_
  refine w_istoreN ok d5_25 (L' := #[.val (.ref t), .val (.ref vv), .val (.int (0 : Int32)), .val (.int (((0 : Int32) + e0) * (-1640531527 : Int32))), .val (.int (0 : Int32))]) rfl ?_
  refine w_iinc ok d5_26 (u := (1 : Int32)) rfl rfl (L' := #[.val (.ref t), .val (.ref vv), .val (.int (0 : Int32)), .val (.int (((0 : Int32) + e0) * (-1640531527 : Int32))), .val (.int (1 : Int32))]) rfl ?_
  show W K l _ n0 _ h0 0 0 29 #[.val (.ref t), .val (.ref vv), .val (.int (0 : Int32)), .val (.int (((0 : Int32) + e0) * (-1640531527 : Int32))), .val (.int (1 : Int32))] []
  refine w_goto ok d5_29 (pc' := 5) (by decide) ?_
  refine w_iload ok d5_5 rfl ?_
  refine w_aloadN ok d5_7 rfl rfl ?_
  refine w_getfield ok (v := (.int (3 : Int32))) (host := "") (f := ("com/example/hornconv/hornconv/FactTable", "arity", "I", .int)) 2 d5_8 (Or.inl (hw _ (List.mem_of_getElem? (i := 15) rfl))) Via.refl A_t rfl rfl ?_
  refine w_icmp_ge ok d5_11 (pc' := 32) (by decide) (fun hc3 => False.elim (by revert hc3; decide)) (fun hc3 => ?_)
  show W K l _ n0 _ h0 0 0 14 #[.val (.ref t), .val (.ref vv), .val (.int (0 : Int32)), .val (.int (((0 : Int32) + e0) * (-1640531527 : Int32))), .val (.int (1 : Int32))] []
  refine w_iloadN ok d5_14 rfl ?_
  refine w_aloadN ok d5_15 rfl rfl ?_
  refine w_iloadN ok d5_16 rfl ?_
  refine w_iload ok d5_17 rfl ?_
  refine w_iadd ok d5_19 ?_
  show W K l _ n0 _ h0 0 0 20 #[.val (.ref t), .val (.ref vv), .val (.int (0 : Int32)), .val (.int (((0 : Int32) + e0) * (-1640531527 : Int32))), .val (.int (1 : Int32))] [(.int (1 : Int32)), (.ref vv), (.int (((0 : Int32) + e0) * (-1640531527 : Int32)))]
  refine w_iaload ok (v := (.int e1)) d5_20 A_v (by decide) rfl ?_
  refine w_iadd ok d5_21 ?_
  refine w_ldcI (v := (-1640531527 : Int32)) ok d5_22 (hw _ (List.mem_of_getElem? (i := 41) rfl)) ?_
  refine w_imul ok d5_24 ?_
  refine w_istoreN ok d5_25 (L' := #[.val (.ref t), .val (.ref vv), .val (.int (0 : Int32)), .val (.int (((((0 : Int32) + e0) * (-1640531527 : Int32)) + e1) * (-1640531527 : Int32))), .val (.int (1 : Int32))]) rfl ?_
  refine w_iinc ok d5_26 (u := (1 : Int32)) rfl rfl (L' := #[.val (.ref t), .val (.ref vv), .val (.int (0 : Int32)), .val (.int (((((0 : Int32) + e0) * (-1640531527 : Int32)) + e1) * (-1640531527 : Int32))), .val (.int (2 : Int32))]) rfl ?_
  show W K l _ n0 _ h0 0 0 29 #[.val (.ref t), .val (.ref vv), .val (.int (0 : Int32)), .val (.int (((((0 : Int32) + e0) * (-1640531527 : Int32)) + e1) * (-1640531527 : Int32))), .val (.int (2 : Int32))] []
  refine w_goto ok d5_29 (pc' := 5) (by decide) ?_
  refine w_iload ok d5_5 rfl ?_
  refine w_aloadN ok d5_7 rfl rfl ?_
  refine w_getfield ok (v := (.int (3 : Int32))) (host := "") (f := ("com/example/hornconv/hornconv/FactTable", "arity", "I", .int)) 2 d5_8 (Or.inl (hw _ (List.mem_of_getElem? (i := 15) rfl))) Via.refl A_t rfl rfl ?_
  refine w_icmp_ge ok d5_11 (pc' := 32) (by decide) (fun hc5 => False.elim (by revert hc5; decide)) (fun hc5 => ?_)
  show W K l _ n0 _ h0 0 0 14 #[.val (.ref t), .val (.ref vv), .val (.int (0 : Int32)), .val (.int (((((0 : Int32) + e0) * (-1640531527 : Int32)) + e1) * (-1640531527 : Int32))), .val (.int (2 : Int32))] []
  refine w_iloadN ok d5_14 rfl ?_
  refine w_aloadN ok d5_15 rfl rfl ?_
  refine w_iloadN ok d5_16 rfl ?_
  refine w_iload ok d5_17 rfl ?_
  refine w_iadd ok d5_19 ?_
  show W K l _ n0 _ h0 0 0 20 #[.val (.ref t), .val (.ref vv), .val (.int (0 : Int32)), .val (.int (((((0 : Int32) + e0) * (-1640531527 : Int32)) + e1) * (-1640531527 : Int32))), .val (.int (2 : Int32))] [(.int (2 : Int32)), (.ref vv), (.int (((((0 : Int32) + e0) * (-1640531527 : Int32)) + e1) * (-1640531527 : Int32)))]
  refine w_iaload ok (v := (.int e2)) d5_20 A_v (by decide) rfl ?_
  refine w_iadd ok d5_21 ?_
  refine w_ldcI (v := (-1640531527 : Int32)) ok d5_22 (hw _ (List.mem_of_getElem? (i := 41) rfl)) ?_
  refine w_imul ok d5_24 ?_
  refine w_istoreN ok d5_25 (L' := #[.val (.ref t), .val (.ref vv), .val (.int (0 : Int32)), .val (.int (((((((0 : Int32) + e0) * (-1640531527 : Int32)) + e1) * (-1640531527 : Int32)) + e2) * (-1640531527 : Int32))), .val (.int (2 : Int32))]) rfl ?_
  refine w_iinc ok d5_26 (u := (1 : Int32)) rfl rfl (L' := #[.val (.ref t), .val (.ref vv), .val (.int (0 : Int32)), .val (.int (((((((0 : Int32) + e0) * (-1640531527 : Int32)) + e1) * (-1640531527 : Int32)) + e2) * (-1640531527 : Int32))), .val (.int (3 : Int32))]) rfl ?_
  show W K l _ n0 _ h0 0 0 29 #[.val (.ref t), .val (.ref vv), .val (.int (0 : Int32)), .val (.int (((((((0 : Int32) + e0) * (-1640531527 : Int32)) + e1) * (-1640531527 : Int32)) + e2) * (-1640531527 : Int32))), .val (.int (3 : Int32))] []
  refine w_goto ok d5_29 (pc' := 5) (by decide) ?_
  refine w_iload ok d5_5 rfl ?_
  refine w_aloadN ok d5_7 rfl rfl ?_
  refine w_getfield ok (v := (.int (3 : Int32))) (host := "") (f := ("com/example/hornconv/hornconv/FactTable", "arity", "I", .int)) 2 d5_8 (Or.inl (hw _ (List.mem_of_getElem? (i := 15) rfl))) Via.refl A_t rfl rfl ?_
  refine w_icmp_ge ok d5_11 (pc' := 32) (by decide) (fun hc7 => ?_) (fun hc7 => False.elim (by revert hc7; decide))
  show W K l _ n0 _ h0 0 0 32 #[.val (.ref t), .val (.ref vv), .val (.int (0 : Int32)), .val (.int (((((((0 : Int32) + e0) * (-1640531527 : Int32)) + e1) * (-1640531527 : Int32)) + e2) * (-1640531527 : Int32))), .val (.int (3 : Int32))] []
  refine w_iloadN ok d5_32 rfl ?_
  refine w_iloadN ok d5_33 rfl ?_
  refine w_bipush ok d5_34 (v := (16 : Int32)) rfl ?_
  refine w_iushr ok d5_36 ?_
  refine w_ixor ok d5_37 ?_
  refine w_iret ok d5_38 (by decide) (by decide) ?_
  exact ⟨rfl, rfl⟩
set_option maxRecDepth 65536 in
set_option maxHeartbeats 40000000 in
theorem rm_h_12_3 (l : Launch) (Z : State) (a0 : Array Value) (hw : ∀ d ∈ tables_1, d.before a0 Z = true) (ws : List Jvm.Cond) (n0 : Nat) (h0 : Heap) (Z0 : Old Z n0 h0) (t vv un me ag de sl po : Addr) (rw lv us : Int32) (e0 e1 e2 e3 e4 e5 e6 e7 e8 e9 e10 e11 : Int32) (A_t : Ob Z h0 t "com/example/hornconv/hornconv/FactTable" fl_FactTable [(.ref un), (.ref me), (.int (3 : Int32)), (.ref ag), (.ref de), (.ref sl), (.ref po), (.int rw), (.int lv), (.int us)]) (A_v : PA .int Z h0 vv [(.int e0), (.int e1), (.int e2), (.int e3), (.int e4), (.int e5), (.int e6), (.int e7), (.int e8), (.int e9), (.int e10), (.int e11)])  :
    Met l Z n0 (⟨"com/example/hornconv/hornconv/FactTable", "hash", "([II)I"⟩ : MethodName) prog_3_method_18_code 5 (some .int) ws ({ frames := 0, cells := 0, slots := 0, locals := 0 } : Room) #[(.ref t), (.ref vv), (.int (3 : Int32))] h0 (fun u h => u = some (.int (own_hs [e3, e4, e5])) ∧ h0 = h) := by
  refine met_of Z0 (plainFor_of_name pn_com_example_hornconv_hornconv_FactTable) (Ls := #[.val (.ref t), .val (.ref vv), .val (.int (3 : Int32)), .unset, .unset]) (fun m => by first | (simp [entryFrame, mkF, argsToLocals, Value.category]; done) | rfl) ?_
  intro K ok
  show W K l _ n0 _ h0 0 0 0 #[.val (.ref t), .val (.ref vv), .val (.int (3 : Int32)), .unset, .unset] []
  refine w_iconst ok d5_0 (v := (0 : Int32)) rfl ?_
  refine w_istoreN ok d5_1 (L' := #[.val (.ref t), .val (.ref vv), .val (.int (3 : Int32)), .val (.int (0 : Int32)), .unset]) rfl ?_
  refine w_iconst ok d5_2 (v := (0 : Int32)) rfl ?_
  refine w_istore ok d5_3 (L' := #[.val (.ref t), .val (.ref vv), .val (.int (3 : Int32)), .val (.int (0 : Int32)), .val (.int (0 : Int32))]) rfl ?_
  refine w_iload ok d5_5 rfl ?_
  refine w_aloadN ok d5_7 rfl rfl ?_
  refine w_getfield ok (v := (.int (3 : Int32))) (host := "") (f := ("com/example/hornconv/hornconv/FactTable", "arity", "I", .int)) 2 d5_8 (Or.inl (hw _ (List.mem_of_getElem? (i := 15) rfl))) Via.refl A_t rfl rfl ?_
  refine w_icmp_ge ok d5_11 (pc' := 32) (by decide) (fun hc1 => False.elim (by revert hc1; decide)) (fun hc1 => ?_)
  show W K l _ n0 _ h0 0 0 14 #[.val (.ref t), .val (.ref vv), .val (.int (3 : Int32)), .val (.int (0 : Int32)), .val (.int (0 : Int32))] []
  refine w_iloadN ok d5_14 rfl ?_
  refine w_aloadN ok d5_15 rfl rfl ?_
  refine w_iloadN ok d5_16 rfl ?_
  refine w_iload ok d5_17 rfl ?_
  refine w_iadd ok d5_19 ?_
  show W K l _ n0 _ h0 0 0 20 #[.val (.ref t), .val (.ref vv), .val (.int (3 : Int32)), .val (.int (0 : Int32)), .val (.int (0 : Int32))] [(.int (3 : Int32)), (.ref vv), (.int (0 : Int32))]
  refine w_iaload ok (v := (.int e3)) d5_20 A_v (by decide) rfl ?_
  refine w_iadd ok d5_21 ?_
  refine w_ldcI (v := (-1640531527 : Int32)) ok d5_22 (hw _ (List.mem_of_getElem? (i := 41) rfl)) ?_
  refine w_imul ok d5_24 ?_
  refine w_istoreN ok d5_25 (L' := #[.val (.ref t), .val (.ref vv), .val (.int (3 : Int32)), .val (.int (((0 : Int32) + e3) * (-1640531527 : Int32))), .val (.int (0 : Int32))]) rfl ?_
  refine w_iinc ok d5_26 (u := (1 : Int32)) rfl rfl (L' := #[.val (.ref t), .val (.ref vv), .val (.int (3 : Int32)), .val (.int (((0 : Int32) + e3) * (-1640531527 : Int32))), .val (.int (1 : Int32))]) rfl ?_
  show W K l _ n0 _ h0 0 0 29 #[.val (.ref t), .val (.ref vv), .val (.int (3 : Int32)), .val (.int (((0 : Int32) + e3) * (-1640531527 : Int32))), .val (.int (1 : Int32))] []
  refine w_goto ok d5_29 (pc' := 5) (by decide) ?_
  refine w_iload ok d5_5 rfl ?_
  refine w_aloadN ok d5_7 rfl rfl ?_
  refine w_getfield ok (v := (.int (3 : Int32))) (host := "") (f := ("com/example/hornconv/hornconv/FactTable", "arity", "I", .int)) 2 d5_8 (Or.inl (hw _ (List.mem_of_getElem? (i := 15) rfl))) Via.refl A_t rfl rfl ?_
  refine w_icmp_ge ok d5_11 (pc' := 32) (by decide) (fun hc3 => False.elim (by revert hc3; decide)) (fun hc3 => ?_)
  show W K l _ n0 _ h0 0 0 14 #[.val (.ref t), .val (.ref vv), .val (.int (3 : Int32)), .val (.int (((0 : Int32) + e3) * (-1640531527 : Int32))), .val (.int (1 : Int32))] []
  refine w_iloadN ok d5_14 rfl ?_
  refine w_aloadN ok d5_15 rfl rfl ?_
  refine w_iloadN ok d5_16 rfl ?_
  refine w_iload ok d5_17 rfl ?_
  refine w_iadd ok d5_19 ?_
  show W K l _ n0 _ h0 0 0 20 #[.val (.ref t), .val (.ref vv), .val (.int (3 : Int32)), .val (.int (((0 : Int32) + e3) * (-1640531527 : Int32))), .val (.int (1 : Int32))] [(.int (4 : Int32)), (.ref vv), (.int (((0 : Int32) + e3) * (-1640531527 : Int32)))]
  refine w_iaload ok (v := (.int e4)) d5_20 A_v (by decide) rfl ?_
  refine w_iadd ok d5_21 ?_
  refine w_ldcI (v := (-1640531527 : Int32)) ok d5_22 (hw _ (List.mem_of_getElem? (i := 41) rfl)) ?_
  refine w_imul ok d5_24 ?_
  refine w_istoreN ok d5_25 (L' := #[.val (.ref t), .val (.ref vv), .val (.int (3 : Int32)), .val (.int (((((0 : Int32) + e3) * (-1640531527 : Int32)) + e4) * (-1640531527 : Int32))), .val (.int (1 : Int32))]) rfl ?_
  refine w_iinc ok d5_26 (u := (1 : Int32)) rfl rfl (L' := #[.val (.ref t), .val (.ref vv), .val (.int (3 : Int32)), .val (.int (((((0 : Int32) + e3) * (-1640531527 : Int32)) + e4) * (-1640531527 : Int32))), .val (.int (2 : Int32))]) rfl ?_
  show W K l _ n0 _ h0 0 0 29 #[.val (.ref t), .val (.ref vv), .val (.int (3 : Int32)), .val (.int (((((0 : Int32) + e3) * (-1640531527 : Int32)) + e4) * (-1640531527 : Int32))), .val (.int (2 : Int32))] []
  refine w_goto ok d5_29 (pc' := 5) (by decide) ?_
  refine w_iload ok d5_5 rfl ?_
  refine w_aloadN ok d5_7 rfl rfl ?_
  refine w_getfield ok (v := (.int (3 : Int32))) (host := "") (f := ("com/example/hornconv/hornconv/FactTable", "arity", "I", .int)) 2 d5_8 (Or.inl (hw _ (List.mem_of_getElem? (i := 15) rfl))) Via.refl A_t rfl rfl ?_
  refine w_icmp_ge ok d5_11 (pc' := 32) (by decide) (fun hc5 => False.elim (by revert hc5; decide)) (fun hc5 => ?_)
  show W K l _ n0 _ h0 0 0 14 #[.val (.ref t), .val (.ref vv), .val (.int (3 : Int32)), .val (.int (((((0 : Int32) + e3) * (-1640531527 : Int32)) + e4) * (-1640531527 : Int32))), .val (.int (2 : Int32))] []
  refine w_iloadN ok d5_14 rfl ?_
  refine w_aloadN ok d5_15 rfl rfl ?_
  refine w_iloadN ok d5_16 rfl ?_
  refine w_iload ok d5_17 rfl ?_
  refine w_iadd ok d5_19 ?_
  show W K l _ n0 _ h0 0 0 20 #[.val (.ref t), .val (.ref vv), .val (.int (3 : Int32)), .val (.int (((((0 : Int32) + e3) * (-1640531527 : Int32)) + e4) * (-1640531527 : Int32))), .val (.int (2 : Int32))] [(.int (5 : Int32)), (.ref vv), (.int (((((0 : Int32) + e3) * (-1640531527 : Int32)) + e4) * (-1640531527 : Int32)))]
  refine w_iaload ok (v := (.int e5)) d5_20 A_v (by decide) rfl ?_
  refine w_iadd ok d5_21 ?_
  refine w_ldcI (v := (-1640531527 : Int32)) ok d5_22 (hw _ (List.mem_of_getElem? (i := 41) rfl)) ?_
  refine w_imul ok d5_24 ?_
  refine w_istoreN ok d5_25 (L' := #[.val (.ref t), .val (.ref vv), .val (.int (3 : Int32)), .val (.int (((((((0 : Int32) + e3) * (-1640531527 : Int32)) + e4) * (-1640531527 : Int32)) + e5) * (-1640531527 : Int32))), .val (.int (2 : Int32))]) rfl ?_
  refine w_iinc ok d5_26 (u := (1 : Int32)) rfl rfl (L' := #[.val (.ref t), .val (.ref vv), .val (.int (3 : Int32)), .val (.int (((((((0 : Int32) + e3) * (-1640531527 : Int32)) + e4) * (-1640531527 : Int32)) + e5) * (-1640531527 : Int32))), .val (.int (3 : Int32))]) rfl ?_
  show W K l _ n0 _ h0 0 0 29 #[.val (.ref t), .val (.ref vv), .val (.int (3 : Int32)), .val (.int (((((((0 : Int32) + e3) * (-1640531527 : Int32)) + e4) * (-1640531527 : Int32)) + e5) * (-1640531527 : Int32))), .val (.int (3 : Int32))] []
  refine w_goto ok d5_29 (pc' := 5) (by decide) ?_
  refine w_iload ok d5_5 rfl ?_
  refine w_aloadN ok d5_7 rfl rfl ?_
  refine w_getfield ok (v := (.int (3 : Int32))) (host := "") (f := ("com/example/hornconv/hornconv/FactTable", "arity", "I", .int)) 2 d5_8 (Or.inl (hw _ (List.mem_of_getElem? (i := 15) rfl))) Via.refl A_t rfl rfl ?_
  refine w_icmp_ge ok d5_11 (pc' := 32) (by decide) (fun hc7 => ?_) (fun hc7 => False.elim (by revert hc7; decide))
  show W K l _ n0 _ h0 0 0 32 #[.val (.ref t), .val (.ref vv), .val (.int (3 : Int32)), .val (.int (((((((0 : Int32) + e3) * (-1640531527 : Int32)) + e4) * (-1640531527 : Int32)) + e5) * (-1640531527 : Int32))), .val (.int (3 : Int32))] []
  refine w_iloadN ok d5_32 rfl ?_
  refine w_iloadN ok d5_33 rfl ?_
  refine w_bipush ok d5_34 (v := (16 : Int32)) rfl ?_
  refine w_iushr ok d5_36 ?_
  refine w_ixor ok d5_37 ?_
  refine w_iret ok d5_38 (by decide) (by decide) ?_
  exact ⟨rfl, rfl⟩
theorem d9_0 : decode prog_3_method_17_code 0 = .ok (.iload_n 1, 1) := by decide +kernel
theorem d9_1 : decode prog_3_method_17_code 1 = .ok (.aload_n 0, 1) := by decide +kernel
theorem d9_2 : decode prog_3_method_17_code 2 = .ok (.getfield 17, 3) := by decide +kernel
theorem d9_5 : decode prog_3_method_17_code 5 = .ok (.imul, 1) := by decide +kernel
theorem d9_6 : decode prog_3_method_17_code 6 = .ok (.istore_n 3, 1) := by decide +kernel
theorem d9_7 : decode prog_3_method_17_code 7 = .ok (.iconst 0, 1) := by decide +kernel
theorem d9_8 : decode prog_3_method_17_code 8 = .ok (.istore 4, 2) := by decide +kernel
theorem d9_10 : decode prog_3_method_17_code 10 = .ok (.iload 4, 2) := by decide +kernel
theorem d9_12 : decode prog_3_method_17_code 12 = .ok (.aload_n 0, 1) := by decide +kernel
theorem d9_13 : decode prog_3_method_17_code 13 = .ok (.getfield 17, 3) := by decide +kernel
theorem d9_16 : decode prog_3_method_17_code 16 = .ok (.if_icmp .ge 27, 3) := by decide +kernel
theorem d9_19 : decode prog_3_method_17_code 19 = .ok (.aload_n 0, 1) := by decide +kernel
theorem d9_20 : decode prog_3_method_17_code 20 = .ok (.getfield 21, 3) := by decide +kernel
theorem d9_23 : decode prog_3_method_17_code 23 = .ok (.iload_n 3, 1) := by decide +kernel
theorem d9_24 : decode prog_3_method_17_code 24 = .ok (.iload 4, 2) := by decide +kernel
theorem d9_26 : decode prog_3_method_17_code 26 = .ok (.iadd, 1) := by decide +kernel
theorem d9_27 : decode prog_3_method_17_code 27 = .ok (.iaload, 1) := by decide +kernel
theorem d9_28 : decode prog_3_method_17_code 28 = .ok (.aload_n 2, 1) := by decide +kernel
theorem d9_29 : decode prog_3_method_17_code 29 = .ok (.iload 4, 2) := by decide +kernel
theorem d9_31 : decode prog_3_method_17_code 31 = .ok (.iaload, 1) := by decide +kernel
theorem d9_32 : decode prog_3_method_17_code 32 = .ok (.if_icmp .eq 5, 3) := by decide +kernel
theorem d9_35 : decode prog_3_method_17_code 35 = .ok (.iconst 0, 1) := by decide +kernel
theorem d9_36 : decode prog_3_method_17_code 36 = .ok (.ireturn, 1) := by decide +kernel
theorem d9_37 : decode prog_3_method_17_code 37 = .ok (.iinc 4 1, 3) := by decide +kernel
theorem d9_40 : decode prog_3_method_17_code 40 = .ok (.goto (-30), 3) := by decide +kernel
theorem d9_43 : decode prog_3_method_17_code 43 = .ok (.iconst 1, 1) := by decide +kernel
theorem d9_44 : decode prog_3_method_17_code 44 = .ok (.ireturn, 1) := by decide +kernel
set_option maxRecDepth 65536 in
set_option maxHeartbeats 40000000 in
theorem rm_eq (l : Launch) (Z : State) (a0 : Array Value) (hw : ∀ d ∈ tables_1, d.before a0 Z = true) (ws : List Jvm.Cond) (n0 : Nat) (h0 : Heap) (Z0 : Old Z n0 h0) (t vv un me ag de sl po : Addr) (rw lv us : Int32) (x0 x1 x2 x3 x4 x5 x6 x7 x8 x9 x10 x11 y0 y1 y2 : Int32) (A_t : Ob Z h0 t "com/example/hornconv/hornconv/FactTable" fl_FactTable [(.ref un), (.ref me), (.int (3 : Int32)), (.ref ag), (.ref de), (.ref sl), (.ref po), (.int rw), (.int lv), (.int us)]) (A_ag : PA .int Z h0 ag [(.int x0), (.int x1), (.int x2), (.int x3), (.int x4), (.int x5), (.int x6), (.int x7), (.int x8), (.int x9), (.int x10), (.int x11)]) (A_v : PA .int Z h0 vv [(.int y0), (.int y1), (.int y2)]) (row : Int32) (hrow : row = 0 ∨ row = 1 ∨ row = 2) :
    Met l Z n0 (⟨"com/example/hornconv/hornconv/FactTable", "equalsRow", "(I[I)Z"⟩ : MethodName) prog_3_method_17_code 5 (some .boolean) ws ({ frames := 0, cells := 0, slots := 0, locals := 0 } : Room) #[.ref t, .int row, .ref vv] h0 (fun u h => u = some (.int (own_eqr 3 [x0, x1, x2, x3, x4, x5, x6, x7, x8, x9, x10, x11] [y0, y1, y2] row.toNatClampNeg)) ∧ h0 = h) := by
  refine met_of Z0 (plainFor_of_name pn_com_example_hornconv_hornconv_FactTable) (Ls := #[.val (.ref t), .val (.int row), .val (.ref vv), .unset, .unset]) (fun m => by first | (simp [entryFrame, mkF, argsToLocals, Value.category]; done) | rfl) ?_
  intro K ok
  rcases hrow with rfl | rfl | rfl
  · skip
    show W K l _ n0 _ h0 0 0 0 #[.val (.ref t), .val (.int (0 : Int32)), .val (.ref vv), .unset, .unset] []
    refine w_iloadN ok d9_0 rfl ?_
    refine w_aloadN ok d9_1 rfl rfl ?_
    refine w_getfield ok (v := (.int (3 : Int32))) (host := "") (f := ("com/example/hornconv/hornconv/FactTable", "arity", "I", .int)) 2 d9_2 (Or.inl (hw _ (List.mem_of_getElem? (i := 15) rfl))) Via.refl A_t rfl rfl ?_
    refine w_imul ok d9_5 ?_
    show W K l _ n0 _ h0 0 0 6 #[.val (.ref t), .val (.int (0 : Int32)), .val (.ref vv), .unset, .unset] [(.int (0 : Int32))]
    refine w_istoreN ok d9_6 (L' := #[.val (.ref t), .val (.int (0 : Int32)), .val (.ref vv), .val (.int (0 : Int32)), .unset]) rfl ?_
    refine w_iconst ok d9_7 (v := (0 : Int32)) rfl ?_
    refine w_istore ok d9_8 (L' := #[.val (.ref t), .val (.int (0 : Int32)), .val (.ref vv), .val (.int (0 : Int32)), .val (.int (0 : Int32))]) rfl ?_
    refine w_iload ok d9_10 rfl ?_
    refine w_aloadN ok d9_12 rfl rfl ?_
    refine w_getfield ok (v := (.int (3 : Int32))) (host := "") (f := ("com/example/hornconv/hornconv/FactTable", "arity", "I", .int)) 2 d9_13 (Or.inl (hw _ (List.mem_of_getElem? (i := 15) rfl))) Via.refl A_t rfl rfl ?_
    refine w_icmp_ge ok d9_16 (pc' := 43) (by decide) (fun hc1 => False.elim (by revert hc1; decide)) (fun hc1 => ?_)
    show W K l _ n0 _ h0 0 0 19 #[.val (.ref t), .val (.int (0 : Int32)), .val (.ref vv), .val (.int (0 : Int32)), .val (.int (0 : Int32))] []
    refine w_aloadN ok d9_19 rfl rfl ?_
    refine w_getfield ok (v := (.ref ag)) (host := "") (f := ("com/example/hornconv/hornconv/FactTable", "arguments", "[I", (.array .int))) 3 d9_20 (Or.inl (hw _ (List.mem_of_getElem? (i := 17) rfl))) Via.refl A_t rfl rfl ?_
    refine w_iloadN ok d9_23 rfl ?_
    refine w_iload ok d9_24 rfl ?_
    refine w_iadd ok d9_26 ?_
    show W K l _ n0 _ h0 0 0 27 #[.val (.ref t), .val (.int (0 : Int32)), .val (.ref vv), .val (.int (0 : Int32)), .val (.int (0 : Int32))] [(.int (0 : Int32)), (.ref ag)]
    refine w_iaload ok (v := (.int x0)) d9_27 A_ag (by decide) rfl ?_
    refine w_aloadN ok d9_28 rfl rfl ?_
    refine w_iload ok d9_29 rfl ?_
    refine w_iaload ok (v := (.int y0)) d9_31 A_v (by decide) rfl ?_
    refine w_icmp_eq ok d9_32 (pc' := 37) (by decide) (fun hc3 => ?_) (fun hc3 => ?_)
    · show W K l _ n0 _ h0 0 0 37 #[.val (.ref t), .val (.int (0 : Int32)), .val (.ref vv), .val (.int (0 : Int32)), .val (.int (0 : Int32))] []
      refine w_iinc ok d9_37 (u := (1 : Int32)) rfl rfl (L' := #[.val (.ref t), .val (.int (0 : Int32)), .val (.ref vv), .val (.int (0 : Int32)), .val (.int (1 : Int32))]) rfl ?_
      show W K l _ n0 _ h0 0 0 40 #[.val (.ref t), .val (.int (0 : Int32)), .val (.ref vv), .val (.int (0 : Int32)), .val (.int (1 : Int32))] []
      refine w_goto ok d9_40 (pc' := 10) (by decide) ?_
      refine w_iload ok d9_10 rfl ?_
      refine w_aloadN ok d9_12 rfl rfl ?_
      refine w_getfield ok (v := (.int (3 : Int32))) (host := "") (f := ("com/example/hornconv/hornconv/FactTable", "arity", "I", .int)) 2 d9_13 (Or.inl (hw _ (List.mem_of_getElem? (i := 15) rfl))) Via.refl A_t rfl rfl ?_
      refine w_icmp_ge ok d9_16 (pc' := 43) (by decide) (fun hc5 => False.elim (by revert hc5; decide)) (fun hc5 => ?_)
      show W K l _ n0 _ h0 0 0 19 #[.val (.ref t), .val (.int (0 : Int32)), .val (.ref vv), .val (.int (0 : Int32)), .val (.int (1 : Int32))] []
      refine w_aloadN ok d9_19 rfl rfl ?_
      refine w_getfield ok (v := (.ref ag)) (host := "") (f := ("com/example/hornconv/hornconv/FactTable", "arguments", "[I", (.array .int))) 3 d9_20 (Or.inl (hw _ (List.mem_of_getElem? (i := 17) rfl))) Via.refl A_t rfl rfl ?_
      refine w_iloadN ok d9_23 rfl ?_
      refine w_iload ok d9_24 rfl ?_
      refine w_iadd ok d9_26 ?_
      show W K l _ n0 _ h0 0 0 27 #[.val (.ref t), .val (.int (0 : Int32)), .val (.ref vv), .val (.int (0 : Int32)), .val (.int (1 : Int32))] [(.int (1 : Int32)), (.ref ag)]
      refine w_iaload ok (v := (.int x1)) d9_27 A_ag (by decide) rfl ?_
      refine w_aloadN ok d9_28 rfl rfl ?_
      refine w_iload ok d9_29 rfl ?_
      refine w_iaload ok (v := (.int y1)) d9_31 A_v (by decide) rfl ?_
      refine w_icmp_eq ok d9_32 (pc' := 37) (by decide) (fun hc7 => ?_) (fun hc7 => ?_)
      · show W K l _ n0 _ h0 0 0 37 #[.val (.ref t), .val (.int (0 : Int32)), .val (.ref vv), .val (.int (0 : Int32)), .val (.int (1 : Int32))] []
        refine w_iinc ok d9_37 (u := (1 : Int32)) rfl rfl (L' := #[.val (.ref t), .val (.int (0 : Int32)), .val (.ref vv), .val (.int (0 : Int32)), .val (.int (2 : Int32))]) rfl ?_
        show W K l _ n0 _ h0 0 0 40 #[.val (.ref t), .val (.int (0 : Int32)), .val (.ref vv), .val (.int (0 : Int32)), .val (.int (2 : Int32))] []
        refine w_goto ok d9_40 (pc' := 10) (by decide) ?_
        refine w_iload ok d9_10 rfl ?_
        refine w_aloadN ok d9_12 rfl rfl ?_
        refine w_getfield ok (v := (.int (3 : Int32))) (host := "") (f := ("com/example/hornconv/hornconv/FactTable", "arity", "I", .int)) 2 d9_13 (Or.inl (hw _ (List.mem_of_getElem? (i := 15) rfl))) Via.refl A_t rfl rfl ?_
        refine w_icmp_ge ok d9_16 (pc' := 43) (by decide) (fun hc9 => False.elim (by revert hc9; decide)) (fun hc9 => ?_)
        show W K l _ n0 _ h0 0 0 19 #[.val (.ref t), .val (.int (0 : Int32)), .val (.ref vv), .val (.int (0 : Int32)), .val (.int (2 : Int32))] []
        refine w_aloadN ok d9_19 rfl rfl ?_
        refine w_getfield ok (v := (.ref ag)) (host := "") (f := ("com/example/hornconv/hornconv/FactTable", "arguments", "[I", (.array .int))) 3 d9_20 (Or.inl (hw _ (List.mem_of_getElem? (i := 17) rfl))) Via.refl A_t rfl rfl ?_
        refine w_iloadN ok d9_23 rfl ?_
        refine w_iload ok d9_24 rfl ?_
        refine w_iadd ok d9_26 ?_
        show W K l _ n0 _ h0 0 0 27 #[.val (.ref t), .val (.int (0 : Int32)), .val (.ref vv), .val (.int (0 : Int32)), .val (.int (2 : Int32))] [(.int (2 : Int32)), (.ref ag)]
        refine w_iaload ok (v := (.int x2)) d9_27 A_ag (by decide) rfl ?_
        refine w_aloadN ok d9_28 rfl rfl ?_
        refine w_iload ok d9_29 rfl ?_
        refine w_iaload ok (v := (.int y2)) d9_31 A_v (by decide) rfl ?_
        refine w_icmp_eq ok d9_32 (pc' := 37) (by decide) (fun hc11 => ?_) (fun hc11 => ?_)
        · show W K l _ n0 _ h0 0 0 37 #[.val (.ref t), .val (.int (0 : Int32)), .val (.ref vv), .val (.int (0 : Int32)), .val (.int (2 : Int32))] []
          refine w_iinc ok d9_37 (u := (1 : Int32)) rfl rfl (L' := #[.val (.ref t), .val (.int (0 : Int32)), .val (.ref vv), .val (.int (0 : Int32)), .val (.int (3 : Int32))]) rfl ?_
          show W K l _ n0 _ h0 0 0 40 #[.val (.ref t), .val (.int (0 : Int32)), .val (.ref vv), .val (.int (0 : Int32)), .val (.int (3 : Int32))] []
          refine w_goto ok d9_40 (pc' := 10) (by decide) ?_
          refine w_iload ok d9_10 rfl ?_
          refine w_aloadN ok d9_12 rfl rfl ?_
          refine w_getfield ok (v := (.int (3 : Int32))) (host := "") (f := ("com/example/hornconv/hornconv/FactTable", "arity", "I", .int)) 2 d9_13 (Or.inl (hw _ (List.mem_of_getElem? (i := 15) rfl))) Via.refl A_t rfl rfl ?_
          refine w_icmp_ge ok d9_16 (pc' := 43) (by decide) (fun hc13 => ?_) (fun hc13 => False.elim (by revert hc13; decide))
          show W K l _ n0 _ h0 0 0 43 #[.val (.ref t), .val (.int (0 : Int32)), .val (.ref vv), .val (.int (0 : Int32)), .val (.int (3 : Int32))] []
          refine w_iconst ok d9_43 (v := (1 : Int32)) rfl ?_
          refine w_bret ok (by simp) d9_44 (by decide) (by decide) ?_
          refine ⟨?_, rfl⟩
          have e : (([x0, x1, x2, x3, x4, x5, x6, x7, x8, x9, x10, x11] : List Int32).drop (0 * 3)).take 3 = [x0, x1, x2] := rfl
          show _ = some (Value.int (own_eqr 3 [x0, x1, x2, x3, x4, x5, x6, x7, x8, x9, x10, x11] [y0, y1, y2] 0))
          rw [own_eqr, e]
          simp only [List.cons.injEq, and_true, hc3, hc7, hc11]
          try rfl
          try (simp; rfl)
        · show W K l _ n0 _ h0 0 0 35 #[.val (.ref t), .val (.int (0 : Int32)), .val (.ref vv), .val (.int (0 : Int32)), .val (.int (2 : Int32))] []
          refine w_iconst ok d9_35 (v := (0 : Int32)) rfl ?_
          refine w_bret ok (by simp) d9_36 (by decide) (by decide) ?_
          refine ⟨?_, rfl⟩
          have e : (([x0, x1, x2, x3, x4, x5, x6, x7, x8, x9, x10, x11] : List Int32).drop (0 * 3)).take 3 = [x0, x1, x2] := rfl
          show _ = some (Value.int (own_eqr 3 [x0, x1, x2, x3, x4, x5, x6, x7, x8, x9, x10, x11] [y0, y1, y2] 0))
          rw [own_eqr, e]
          simp only [List.cons.injEq, and_true, hc3, hc7, hc11]
          try rfl
          try (simp; rfl)
      · show W K l _ n0 _ h0 0 0 35 #[.val (.ref t), .val (.int (0 : Int32)), .val (.ref vv), .val (.int (0 : Int32)), .val (.int (1 : Int32))] []
        refine w_iconst ok d9_35 (v := (0 : Int32)) rfl ?_
        refine w_bret ok (by simp) d9_36 (by decide) (by decide) ?_
        refine ⟨?_, rfl⟩
        have e : (([x0, x1, x2, x3, x4, x5, x6, x7, x8, x9, x10, x11] : List Int32).drop (0 * 3)).take 3 = [x0, x1, x2] := rfl
        show _ = some (Value.int (own_eqr 3 [x0, x1, x2, x3, x4, x5, x6, x7, x8, x9, x10, x11] [y0, y1, y2] 0))
        rw [own_eqr, e]
        simp only [List.cons.injEq, and_true, hc3, hc7]
        try rfl
        try (simp; rfl)
    · show W K l _ n0 _ h0 0 0 35 #[.val (.ref t), .val (.int (0 : Int32)), .val (.ref vv), .val (.int (0 : Int32)), .val (.int (0 : Int32))] []
      refine w_iconst ok d9_35 (v := (0 : Int32)) rfl ?_
      refine w_bret ok (by simp) d9_36 (by decide) (by decide) ?_
      refine ⟨?_, rfl⟩
      have e : (([x0, x1, x2, x3, x4, x5, x6, x7, x8, x9, x10, x11] : List Int32).drop (0 * 3)).take 3 = [x0, x1, x2] := rfl
      show _ = some (Value.int (own_eqr 3 [x0, x1, x2, x3, x4, x5, x6, x7, x8, x9, x10, x11] [y0, y1, y2] 0))
      rw [own_eqr, e]
      simp only [List.cons.injEq, and_true, hc3]
      try rfl
      try (simp; rfl)
  · skip
    show W K l _ n0 _ h0 0 0 0 #[.val (.ref t), .val (.int (1 : Int32)), .val (.ref vv), .unset, .unset] []
    refine w_iloadN ok d9_0 rfl ?_
    refine w_aloadN ok d9_1 rfl rfl ?_
    refine w_getfield ok (v := (.int (3 : Int32))) (host := "") (f := ("com/example/hornconv/hornconv/FactTable", "arity", "I", .int)) 2 d9_2 (Or.inl (hw _ (List.mem_of_getElem? (i := 15) rfl))) Via.refl A_t rfl rfl ?_
    refine w_imul ok d9_5 ?_
    show W K l _ n0 _ h0 0 0 6 #[.val (.ref t), .val (.int (1 : Int32)), .val (.ref vv), .unset, .unset] [(.int (3 : Int32))]
    refine w_istoreN ok d9_6 (L' := #[.val (.ref t), .val (.int (1 : Int32)), .val (.ref vv), .val (.int (3 : Int32)), .unset]) rfl ?_
    refine w_iconst ok d9_7 (v := (0 : Int32)) rfl ?_
    refine w_istore ok d9_8 (L' := #[.val (.ref t), .val (.int (1 : Int32)), .val (.ref vv), .val (.int (3 : Int32)), .val (.int (0 : Int32))]) rfl ?_
    refine w_iload ok d9_10 rfl ?_
    refine w_aloadN ok d9_12 rfl rfl ?_
    refine w_getfield ok (v := (.int (3 : Int32))) (host := "") (f := ("com/example/hornconv/hornconv/FactTable", "arity", "I", .int)) 2 d9_13 (Or.inl (hw _ (List.mem_of_getElem? (i := 15) rfl))) Via.refl A_t rfl rfl ?_
    refine w_icmp_ge ok d9_16 (pc' := 43) (by decide) (fun hc1 => False.elim (by revert hc1; decide)) (fun hc1 => ?_)
    show W K l _ n0 _ h0 0 0 19 #[.val (.ref t), .val (.int (1 : Int32)), .val (.ref vv), .val (.int (3 : Int32)), .val (.int (0 : Int32))] []
    refine w_aloadN ok d9_19 rfl rfl ?_
    refine w_getfield ok (v := (.ref ag)) (host := "") (f := ("com/example/hornconv/hornconv/FactTable", "arguments", "[I", (.array .int))) 3 d9_20 (Or.inl (hw _ (List.mem_of_getElem? (i := 17) rfl))) Via.refl A_t rfl rfl ?_
    refine w_iloadN ok d9_23 rfl ?_
    refine w_iload ok d9_24 rfl ?_
    refine w_iadd ok d9_26 ?_
    show W K l _ n0 _ h0 0 0 27 #[.val (.ref t), .val (.int (1 : Int32)), .val (.ref vv), .val (.int (3 : Int32)), .val (.int (0 : Int32))] [(.int (3 : Int32)), (.ref ag)]
    refine w_iaload ok (v := (.int x3)) d9_27 A_ag (by decide) rfl ?_
    refine w_aloadN ok d9_28 rfl rfl ?_
    refine w_iload ok d9_29 rfl ?_
    refine w_iaload ok (v := (.int y0)) d9_31 A_v (by decide) rfl ?_
    refine w_icmp_eq ok d9_32 (pc' := 37) (by decide) (fun hc3 => ?_) (fun hc3 => ?_)
    · show W K l _ n0 _ h0 0 0 37 #[.val (.ref t), .val (.int (1 : Int32)), .val (.ref vv), .val (.int (3 : Int32)), .val (.int (0 : Int32))] []
      refine w_iinc ok d9_37 (u := (1 : Int32)) rfl rfl (L' := #[.val (.ref t), .val (.int (1 : Int32)), .val (.ref vv), .val (.int (3 : Int32)), .val (.int (1 : Int32))]) rfl ?_
      show W K l _ n0 _ h0 0 0 40 #[.val (.ref t), .val (.int (1 : Int32)), .val (.ref vv), .val (.int (3 : Int32)), .val (.int (1 : Int32))] []
      refine w_goto ok d9_40 (pc' := 10) (by decide) ?_
      refine w_iload ok d9_10 rfl ?_
      refine w_aloadN ok d9_12 rfl rfl ?_
      refine w_getfield ok (v := (.int (3 : Int32))) (host := "") (f := ("com/example/hornconv/hornconv/FactTable", "arity", "I", .int)) 2 d9_13 (Or.inl (hw _ (List.mem_of_getElem? (i := 15) rfl))) Via.refl A_t rfl rfl ?_
      refine w_icmp_ge ok d9_16 (pc' := 43) (by decide) (fun hc5 => False.elim (by revert hc5; decide)) (fun hc5 => ?_)
      show W K l _ n0 _ h0 0 0 19 #[.val (.ref t), .val (.int (1 : Int32)), .val (.ref vv), .val (.int (3 : Int32)), .val (.int (1 : Int32))] []
      refine w_aloadN ok d9_19 rfl rfl ?_
      refine w_getfield ok (v := (.ref ag)) (host := "") (f := ("com/example/hornconv/hornconv/FactTable", "arguments", "[I", (.array .int))) 3 d9_20 (Or.inl (hw _ (List.mem_of_getElem? (i := 17) rfl))) Via.refl A_t rfl rfl ?_
      refine w_iloadN ok d9_23 rfl ?_
      refine w_iload ok d9_24 rfl ?_
      refine w_iadd ok d9_26 ?_
      show W K l _ n0 _ h0 0 0 27 #[.val (.ref t), .val (.int (1 : Int32)), .val (.ref vv), .val (.int (3 : Int32)), .val (.int (1 : Int32))] [(.int (4 : Int32)), (.ref ag)]
      refine w_iaload ok (v := (.int x4)) d9_27 A_ag (by decide) rfl ?_
      refine w_aloadN ok d9_28 rfl rfl ?_
      refine w_iload ok d9_29 rfl ?_
      refine w_iaload ok (v := (.int y1)) d9_31 A_v (by decide) rfl ?_
      refine w_icmp_eq ok d9_32 (pc' := 37) (by decide) (fun hc7 => ?_) (fun hc7 => ?_)
      · show W K l _ n0 _ h0 0 0 37 #[.val (.ref t), .val (.int (1 : Int32)), .val (.ref vv), .val (.int (3 : Int32)), .val (.int (1 : Int32))] []
        refine w_iinc ok d9_37 (u := (1 : Int32)) rfl rfl (L' := #[.val (.ref t), .val (.int (1 : Int32)), .val (.ref vv), .val (.int (3 : Int32)), .val (.int (2 : Int32))]) rfl ?_
        show W K l _ n0 _ h0 0 0 40 #[.val (.ref t), .val (.int (1 : Int32)), .val (.ref vv), .val (.int (3 : Int32)), .val (.int (2 : Int32))] []
        refine w_goto ok d9_40 (pc' := 10) (by decide) ?_
        refine w_iload ok d9_10 rfl ?_
        refine w_aloadN ok d9_12 rfl rfl ?_
        refine w_getfield ok (v := (.int (3 : Int32))) (host := "") (f := ("com/example/hornconv/hornconv/FactTable", "arity", "I", .int)) 2 d9_13 (Or.inl (hw _ (List.mem_of_getElem? (i := 15) rfl))) Via.refl A_t rfl rfl ?_
        refine w_icmp_ge ok d9_16 (pc' := 43) (by decide) (fun hc9 => False.elim (by revert hc9; decide)) (fun hc9 => ?_)
        show W K l _ n0 _ h0 0 0 19 #[.val (.ref t), .val (.int (1 : Int32)), .val (.ref vv), .val (.int (3 : Int32)), .val (.int (2 : Int32))] []
        refine w_aloadN ok d9_19 rfl rfl ?_
        refine w_getfield ok (v := (.ref ag)) (host := "") (f := ("com/example/hornconv/hornconv/FactTable", "arguments", "[I", (.array .int))) 3 d9_20 (Or.inl (hw _ (List.mem_of_getElem? (i := 17) rfl))) Via.refl A_t rfl rfl ?_
        refine w_iloadN ok d9_23 rfl ?_
        refine w_iload ok d9_24 rfl ?_
        refine w_iadd ok d9_26 ?_
        show W K l _ n0 _ h0 0 0 27 #[.val (.ref t), .val (.int (1 : Int32)), .val (.ref vv), .val (.int (3 : Int32)), .val (.int (2 : Int32))] [(.int (5 : Int32)), (.ref ag)]
        refine w_iaload ok (v := (.int x5)) d9_27 A_ag (by decide) rfl ?_
        refine w_aloadN ok d9_28 rfl rfl ?_
        refine w_iload ok d9_29 rfl ?_
        refine w_iaload ok (v := (.int y2)) d9_31 A_v (by decide) rfl ?_
        refine w_icmp_eq ok d9_32 (pc' := 37) (by decide) (fun hc11 => ?_) (fun hc11 => ?_)
        · show W K l _ n0 _ h0 0 0 37 #[.val (.ref t), .val (.int (1 : Int32)), .val (.ref vv), .val (.int (3 : Int32)), .val (.int (2 : Int32))] []
          refine w_iinc ok d9_37 (u := (1 : Int32)) rfl rfl (L' := #[.val (.ref t), .val (.int (1 : Int32)), .val (.ref vv), .val (.int (3 : Int32)), .val (.int (3 : Int32))]) rfl ?_
          show W K l _ n0 _ h0 0 0 40 #[.val (.ref t), .val (.int (1 : Int32)), .val (.ref vv), .val (.int (3 : Int32)), .val (.int (3 : Int32))] []
          refine w_goto ok d9_40 (pc' := 10) (by decide) ?_
          refine w_iload ok d9_10 rfl ?_
          refine w_aloadN ok d9_12 rfl rfl ?_
          refine w_getfield ok (v := (.int (3 : Int32))) (host := "") (f := ("com/example/hornconv/hornconv/FactTable", "arity", "I", .int)) 2 d9_13 (Or.inl (hw _ (List.mem_of_getElem? (i := 15) rfl))) Via.refl A_t rfl rfl ?_
          refine w_icmp_ge ok d9_16 (pc' := 43) (by decide) (fun hc13 => ?_) (fun hc13 => False.elim (by revert hc13; decide))
          show W K l _ n0 _ h0 0 0 43 #[.val (.ref t), .val (.int (1 : Int32)), .val (.ref vv), .val (.int (3 : Int32)), .val (.int (3 : Int32))] []
          refine w_iconst ok d9_43 (v := (1 : Int32)) rfl ?_
          refine w_bret ok (by simp) d9_44 (by decide) (by decide) ?_
          refine ⟨?_, rfl⟩
          have e : (([x0, x1, x2, x3, x4, x5, x6, x7, x8, x9, x10, x11] : List Int32).drop (1 * 3)).take 3 = [x3, x4, x5] := rfl
          show _ = some (Value.int (own_eqr 3 [x0, x1, x2, x3, x4, x5, x6, x7, x8, x9, x10, x11] [y0, y1, y2] 1))
          rw [own_eqr, e]
          simp only [List.cons.injEq, and_true, hc3, hc7, hc11]
          try rfl
          try (simp; rfl)
        · show W K l _ n0 _ h0 0 0 35 #[.val (.ref t), .val (.int (1 : Int32)), .val (.ref vv), .val (.int (3 : Int32)), .val (.int (2 : Int32))] []
          refine w_iconst ok d9_35 (v := (0 : Int32)) rfl ?_
          refine w_bret ok (by simp) d9_36 (by decide) (by decide) ?_
          refine ⟨?_, rfl⟩
          have e : (([x0, x1, x2, x3, x4, x5, x6, x7, x8, x9, x10, x11] : List Int32).drop (1 * 3)).take 3 = [x3, x4, x5] := rfl
          show _ = some (Value.int (own_eqr 3 [x0, x1, x2, x3, x4, x5, x6, x7, x8, x9, x10, x11] [y0, y1, y2] 1))
          rw [own_eqr, e]
          simp only [List.cons.injEq, and_true, hc3, hc7, hc11]
          try rfl
          try (simp; rfl)
      · show W K l _ n0 _ h0 0 0 35 #[.val (.ref t), .val (.int (1 : Int32)), .val (.ref vv), .val (.int (3 : Int32)), .val (.int (1 : Int32))] []
        refine w_iconst ok d9_35 (v := (0 : Int32)) rfl ?_
        refine w_bret ok (by simp) d9_36 (by decide) (by decide) ?_
        refine ⟨?_, rfl⟩
        have e : (([x0, x1, x2, x3, x4, x5, x6, x7, x8, x9, x10, x11] : List Int32).drop (1 * 3)).take 3 = [x3, x4, x5] := rfl
        show _ = some (Value.int (own_eqr 3 [x0, x1, x2, x3, x4, x5, x6, x7, x8, x9, x10, x11] [y0, y1, y2] 1))
        rw [own_eqr, e]
        simp only [List.cons.injEq, and_true, hc3, hc7]
        try rfl
        try (simp; rfl)
    · show W K l _ n0 _ h0 0 0 35 #[.val (.ref t), .val (.int (1 : Int32)), .val (.ref vv), .val (.int (3 : Int32)), .val (.int (0 : Int32))] []
      refine w_iconst ok d9_35 (v := (0 : Int32)) rfl ?_
      refine w_bret ok (by simp) d9_36 (by decide) (by decide) ?_
      refine ⟨?_, rfl⟩
      have e : (([x0, x1, x2, x3, x4, x5, x6, x7, x8, x9, x10, x11] : List Int32).drop (1 * 3)).take 3 = [x3, x4, x5] := rfl
      show _ = some (Value.int (own_eqr 3 [x0, x1, x2, x3, x4, x5, x6, x7, x8, x9, x10, x11] [y0, y1, y2] 1))
      rw [own_eqr, e]
      simp only [List.cons.injEq, and_true, hc3]
      try rfl
      try (simp; rfl)
  · skip
    show W K l _ n0 _ h0 0 0 0 #[.val (.ref t), .val (.int (2 : Int32)), .val (.ref vv), .unset, .unset] []
    refine w_iloadN ok d9_0 rfl ?_
    refine w_aloadN ok d9_1 rfl rfl ?_
    refine w_getfield ok (v := (.int (3 : Int32))) (host := "") (f := ("com/example/hornconv/hornconv/FactTable", "arity", "I", .int)) 2 d9_2 (Or.inl (hw _ (List.mem_of_getElem? (i := 15) rfl))) Via.refl A_t rfl rfl ?_
    refine w_imul ok d9_5 ?_
    show W K l _ n0 _ h0 0 0 6 #[.val (.ref t), .val (.int (2 : Int32)), .val (.ref vv), .unset, .unset] [(.int (6 : Int32))]
    refine w_istoreN ok d9_6 (L' := #[.val (.ref t), .val (.int (2 : Int32)), .val (.ref vv), .val (.int (6 : Int32)), .unset]) rfl ?_
    refine w_iconst ok d9_7 (v := (0 : Int32)) rfl ?_
    refine w_istore ok d9_8 (L' := #[.val (.ref t), .val (.int (2 : Int32)), .val (.ref vv), .val (.int (6 : Int32)), .val (.int (0 : Int32))]) rfl ?_
    refine w_iload ok d9_10 rfl ?_
    refine w_aloadN ok d9_12 rfl rfl ?_
    refine w_getfield ok (v := (.int (3 : Int32))) (host := "") (f := ("com/example/hornconv/hornconv/FactTable", "arity", "I", .int)) 2 d9_13 (Or.inl (hw _ (List.mem_of_getElem? (i := 15) rfl))) Via.refl A_t rfl rfl ?_
    refine w_icmp_ge ok d9_16 (pc' := 43) (by decide) (fun hc1 => False.elim (by revert hc1; decide)) (fun hc1 => ?_)
    show W K l _ n0 _ h0 0 0 19 #[.val (.ref t), .val (.int (2 : Int32)), .val (.ref vv), .val (.int (6 : Int32)), .val (.int (0 : Int32))] []
    refine w_aloadN ok d9_19 rfl rfl ?_
    refine w_getfield ok (v := (.ref ag)) (host := "") (f := ("com/example/hornconv/hornconv/FactTable", "arguments", "[I", (.array .int))) 3 d9_20 (Or.inl (hw _ (List.mem_of_getElem? (i := 17) rfl))) Via.refl A_t rfl rfl ?_
    refine w_iloadN ok d9_23 rfl ?_
    refine w_iload ok d9_24 rfl ?_
    refine w_iadd ok d9_26 ?_
    show W K l _ n0 _ h0 0 0 27 #[.val (.ref t), .val (.int (2 : Int32)), .val (.ref vv), .val (.int (6 : Int32)), .val (.int (0 : Int32))] [(.int (6 : Int32)), (.ref ag)]
    refine w_iaload ok (v := (.int x6)) d9_27 A_ag (by decide) rfl ?_
    refine w_aloadN ok d9_28 rfl rfl ?_
    refine w_iload ok d9_29 rfl ?_
    refine w_iaload ok (v := (.int y0)) d9_31 A_v (by decide) rfl ?_
    refine w_icmp_eq ok d9_32 (pc' := 37) (by decide) (fun hc3 => ?_) (fun hc3 => ?_)
    · show W K l _ n0 _ h0 0 0 37 #[.val (.ref t), .val (.int (2 : Int32)), .val (.ref vv), .val (.int (6 : Int32)), .val (.int (0 : Int32))] []
      refine w_iinc ok d9_37 (u := (1 : Int32)) rfl rfl (L' := #[.val (.ref t), .val (.int (2 : Int32)), .val (.ref vv), .val (.int (6 : Int32)), .val (.int (1 : Int32))]) rfl ?_
      show W K l _ n0 _ h0 0 0 40 #[.val (.ref t), .val (.int (2 : Int32)), .val (.ref vv), .val (.int (6 : Int32)), .val (.int (1 : Int32))] []
      refine w_goto ok d9_40 (pc' := 10) (by decide) ?_
      refine w_iload ok d9_10 rfl ?_
      refine w_aloadN ok d9_12 rfl rfl ?_
      refine w_getfield ok (v := (.int (3 : Int32))) (host := "") (f := ("com/example/hornconv/hornconv/FactTable", "arity", "I", .int)) 2 d9_13 (Or.inl (hw _ (List.mem_of_getElem? (i := 15) rfl))) Via.refl A_t rfl rfl ?_
      refine w_icmp_ge ok d9_16 (pc' := 43) (by decide) (fun hc5 => False.elim (by revert hc5; decide)) (fun hc5 => ?_)
      show W K l _ n0 _ h0 0 0 19 #[.val (.ref t), .val (.int (2 : Int32)), .val (.ref vv), .val (.int (6 : Int32)), .val (.int (1 : Int32))] []
      refine w_aloadN ok d9_19 rfl rfl ?_
      refine w_getfield ok (v := (.ref ag)) (host := "") (f := ("com/example/hornconv/hornconv/FactTable", "arguments", "[I", (.array .int))) 3 d9_20 (Or.inl (hw _ (List.mem_of_getElem? (i := 17) rfl))) Via.refl A_t rfl rfl ?_
      refine w_iloadN ok d9_23 rfl ?_
      refine w_iload ok d9_24 rfl ?_
      refine w_iadd ok d9_26 ?_
      show W K l _ n0 _ h0 0 0 27 #[.val (.ref t), .val (.int (2 : Int32)), .val (.ref vv), .val (.int (6 : Int32)), .val (.int (1 : Int32))] [(.int (7 : Int32)), (.ref ag)]
      refine w_iaload ok (v := (.int x7)) d9_27 A_ag (by decide) rfl ?_
      refine w_aloadN ok d9_28 rfl rfl ?_
      refine w_iload ok d9_29 rfl ?_
      refine w_iaload ok (v := (.int y1)) d9_31 A_v (by decide) rfl ?_
      refine w_icmp_eq ok d9_32 (pc' := 37) (by decide) (fun hc7 => ?_) (fun hc7 => ?_)
      · show W K l _ n0 _ h0 0 0 37 #[.val (.ref t), .val (.int (2 : Int32)), .val (.ref vv), .val (.int (6 : Int32)), .val (.int (1 : Int32))] []
        refine w_iinc ok d9_37 (u := (1 : Int32)) rfl rfl (L' := #[.val (.ref t), .val (.int (2 : Int32)), .val (.ref vv), .val (.int (6 : Int32)), .val (.int (2 : Int32))]) rfl ?_
        show W K l _ n0 _ h0 0 0 40 #[.val (.ref t), .val (.int (2 : Int32)), .val (.ref vv), .val (.int (6 : Int32)), .val (.int (2 : Int32))] []
        refine w_goto ok d9_40 (pc' := 10) (by decide) ?_
        refine w_iload ok d9_10 rfl ?_
        refine w_aloadN ok d9_12 rfl rfl ?_
        refine w_getfield ok (v := (.int (3 : Int32))) (host := "") (f := ("com/example/hornconv/hornconv/FactTable", "arity", "I", .int)) 2 d9_13 (Or.inl (hw _ (List.mem_of_getElem? (i := 15) rfl))) Via.refl A_t rfl rfl ?_
        refine w_icmp_ge ok d9_16 (pc' := 43) (by decide) (fun hc9 => False.elim (by revert hc9; decide)) (fun hc9 => ?_)
        show W K l _ n0 _ h0 0 0 19 #[.val (.ref t), .val (.int (2 : Int32)), .val (.ref vv), .val (.int (6 : Int32)), .val (.int (2 : Int32))] []
        refine w_aloadN ok d9_19 rfl rfl ?_
        refine w_getfield ok (v := (.ref ag)) (host := "") (f := ("com/example/hornconv/hornconv/FactTable", "arguments", "[I", (.array .int))) 3 d9_20 (Or.inl (hw _ (List.mem_of_getElem? (i := 17) rfl))) Via.refl A_t rfl rfl ?_
        refine w_iloadN ok d9_23 rfl ?_
        refine w_iload ok d9_24 rfl ?_
        refine w_iadd ok d9_26 ?_
        show W K l _ n0 _ h0 0 0 27 #[.val (.ref t), .val (.int (2 : Int32)), .val (.ref vv), .val (.int (6 : Int32)), .val (.int (2 : Int32))] [(.int (8 : Int32)), (.ref ag)]
        refine w_iaload ok (v := (.int x8)) d9_27 A_ag (by decide) rfl ?_
        refine w_aloadN ok d9_28 rfl rfl ?_
        refine w_iload ok d9_29 rfl ?_
        refine w_iaload ok (v := (.int y2)) d9_31 A_v (by decide) rfl ?_
        refine w_icmp_eq ok d9_32 (pc' := 37) (by decide) (fun hc11 => ?_) (fun hc11 => ?_)
        · show W K l _ n0 _ h0 0 0 37 #[.val (.ref t), .val (.int (2 : Int32)), .val (.ref vv), .val (.int (6 : Int32)), .val (.int (2 : Int32))] []
          refine w_iinc ok d9_37 (u := (1 : Int32)) rfl rfl (L' := #[.val (.ref t), .val (.int (2 : Int32)), .val (.ref vv), .val (.int (6 : Int32)), .val (.int (3 : Int32))]) rfl ?_
          show W K l _ n0 _ h0 0 0 40 #[.val (.ref t), .val (.int (2 : Int32)), .val (.ref vv), .val (.int (6 : Int32)), .val (.int (3 : Int32))] []
          refine w_goto ok d9_40 (pc' := 10) (by decide) ?_
          refine w_iload ok d9_10 rfl ?_
          refine w_aloadN ok d9_12 rfl rfl ?_
          refine w_getfield ok (v := (.int (3 : Int32))) (host := "") (f := ("com/example/hornconv/hornconv/FactTable", "arity", "I", .int)) 2 d9_13 (Or.inl (hw _ (List.mem_of_getElem? (i := 15) rfl))) Via.refl A_t rfl rfl ?_
          refine w_icmp_ge ok d9_16 (pc' := 43) (by decide) (fun hc13 => ?_) (fun hc13 => False.elim (by revert hc13; decide))
          show W K l _ n0 _ h0 0 0 43 #[.val (.ref t), .val (.int (2 : Int32)), .val (.ref vv), .val (.int (6 : Int32)), .val (.int (3 : Int32))] []
          refine w_iconst ok d9_43 (v := (1 : Int32)) rfl ?_
          refine w_bret ok (by simp) d9_44 (by decide) (by decide) ?_
          refine ⟨?_, rfl⟩
          have e : (([x0, x1, x2, x3, x4, x5, x6, x7, x8, x9, x10, x11] : List Int32).drop (2 * 3)).take 3 = [x6, x7, x8] := rfl
          show _ = some (Value.int (own_eqr 3 [x0, x1, x2, x3, x4, x5, x6, x7, x8, x9, x10, x11] [y0, y1, y2] 2))
          rw [own_eqr, e]
          simp only [List.cons.injEq, and_true, hc3, hc7, hc11]
          try rfl
          try (simp; rfl)
        · show W K l _ n0 _ h0 0 0 35 #[.val (.ref t), .val (.int (2 : Int32)), .val (.ref vv), .val (.int (6 : Int32)), .val (.int (2 : Int32))] []
          refine w_iconst ok d9_35 (v := (0 : Int32)) rfl ?_
          refine w_bret ok (by simp) d9_36 (by decide) (by decide) ?_
          refine ⟨?_, rfl⟩
          have e : (([x0, x1, x2, x3, x4, x5, x6, x7, x8, x9, x10, x11] : List Int32).drop (2 * 3)).take 3 = [x6, x7, x8] := rfl
          show _ = some (Value.int (own_eqr 3 [x0, x1, x2, x3, x4, x5, x6, x7, x8, x9, x10, x11] [y0, y1, y2] 2))
          rw [own_eqr, e]
          simp only [List.cons.injEq, and_true, hc3, hc7, hc11]
          try rfl
          try (simp; rfl)
      · show W K l _ n0 _ h0 0 0 35 #[.val (.ref t), .val (.int (2 : Int32)), .val (.ref vv), .val (.int (6 : Int32)), .val (.int (1 : Int32))] []
        refine w_iconst ok d9_35 (v := (0 : Int32)) rfl ?_
        refine w_bret ok (by simp) d9_36 (by decide) (by decide) ?_
        refine ⟨?_, rfl⟩
        have e : (([x0, x1, x2, x3, x4, x5, x6, x7, x8, x9, x10, x11] : List Int32).drop (2 * 3)).take 3 = [x6, x7, x8] := rfl
        show _ = some (Value.int (own_eqr 3 [x0, x1, x2, x3, x4, x5, x6, x7, x8, x9, x10, x11] [y0, y1, y2] 2))
        rw [own_eqr, e]
        simp only [List.cons.injEq, and_true, hc3, hc7]
        try rfl
        try (simp; rfl)
    · show W K l _ n0 _ h0 0 0 35 #[.val (.ref t), .val (.int (2 : Int32)), .val (.ref vv), .val (.int (6 : Int32)), .val (.int (0 : Int32))] []
      refine w_iconst ok d9_35 (v := (0 : Int32)) rfl ?_
      refine w_bret ok (by simp) d9_36 (by decide) (by decide) ?_
      refine ⟨?_, rfl⟩
      have e : (([x0, x1, x2, x3, x4, x5, x6, x7, x8, x9, x10, x11] : List Int32).drop (2 * 3)).take 3 = [x6, x7, x8] := rfl
      show _ = some (Value.int (own_eqr 3 [x0, x1, x2, x3, x4, x5, x6, x7, x8, x9, x10, x11] [y0, y1, y2] 2))
      rw [own_eqr, e]
      simp only [List.cons.injEq, and_true, hc3]
      try rfl
      try (simp; rfl)
theorem d6_0 : decode prog_3_method_16_code 0 = .ok (.aload_n 0, 1) := by decide +kernel
theorem d6_1 : decode prog_3_method_16_code 1 = .ok (.getfield 28, 3) := by decide +kernel
theorem d6_4 : decode prog_3_method_16_code 4 = .ok (.arraylength, 1) := by decide +kernel
theorem d6_5 : decode prog_3_method_16_code 5 = .ok (.iconst 1, 1) := by decide +kernel
theorem d6_6 : decode prog_3_method_16_code 6 = .ok (.isub, 1) := by decide +kernel
theorem d6_7 : decode prog_3_method_16_code 7 = .ok (.istore_n 3, 1) := by decide +kernel
theorem d6_8 : decode prog_3_method_16_code 8 = .ok (.iload_n 2, 1) := by decide +kernel
theorem d6_9 : decode prog_3_method_16_code 9 = .ok (.iload_n 3, 1) := by decide +kernel
theorem d6_10 : decode prog_3_method_16_code 10 = .ok (.iand, 1) := by decide +kernel
theorem d6_11 : decode prog_3_method_16_code 11 = .ok (.istore 4, 2) := by decide +kernel
theorem d6_13 : decode prog_3_method_16_code 13 = .ok (.iconst (-1), 1) := by decide +kernel
theorem d6_14 : decode prog_3_method_16_code 14 = .ok (.istore 5, 2) := by decide +kernel
theorem d6_16 : decode prog_3_method_16_code 16 = .ok (.aload_n 0, 1) := by decide +kernel
theorem d6_17 : decode prog_3_method_16_code 17 = .ok (.getfield 28, 3) := by decide +kernel
theorem d6_20 : decode prog_3_method_16_code 20 = .ok (.iload 4, 2) := by decide +kernel
theorem d6_22 : decode prog_3_method_16_code 22 = .ok (.iaload, 1) := by decide +kernel
theorem d6_23 : decode prog_3_method_16_code 23 = .ok (.iconst (-1), 1) := by decide +kernel
theorem d6_24 : decode prog_3_method_16_code 24 = .ok (.if_icmp .eq 56, 3) := by decide +kernel
theorem d6_27 : decode prog_3_method_16_code 27 = .ok (.aload_n 0, 1) := by decide +kernel
theorem d6_28 : decode prog_3_method_16_code 28 = .ok (.getfield 28, 3) := by decide +kernel
theorem d6_31 : decode prog_3_method_16_code 31 = .ok (.iload 4, 2) := by decide +kernel
theorem d6_33 : decode prog_3_method_16_code 33 = .ok (.iaload, 1) := by decide +kernel
theorem d6_34 : decode prog_3_method_16_code 34 = .ok (.istore 6, 2) := by decide +kernel
theorem d6_36 : decode prog_3_method_16_code 36 = .ok (.iload 6, 2) := by decide +kernel
theorem d6_38 : decode prog_3_method_16_code 38 = .ok (.bipush (-2), 2) := by decide +kernel
theorem d6_40 : decode prog_3_method_16_code 40 = .ok (.if_icmp .ne 16, 3) := by decide +kernel
theorem d6_43 : decode prog_3_method_16_code 43 = .ok (.iload 5, 2) := by decide +kernel
theorem d6_45 : decode prog_3_method_16_code 45 = .ok (.iconst (-1), 1) := by decide +kernel
theorem d6_46 : decode prog_3_method_16_code 46 = .ok (.if_icmp .ne 23, 3) := by decide +kernel
theorem d6_49 : decode prog_3_method_16_code 49 = .ok (.iload 4, 2) := by decide +kernel
theorem d6_51 : decode prog_3_method_16_code 51 = .ok (.istore 5, 2) := by decide +kernel
theorem d6_53 : decode prog_3_method_16_code 53 = .ok (.goto 16, 3) := by decide +kernel
theorem d6_56 : decode prog_3_method_16_code 56 = .ok (.aload_n 0, 1) := by decide +kernel
theorem d6_57 : decode prog_3_method_16_code 57 = .ok (.iload 6, 2) := by decide +kernel
theorem d6_59 : decode prog_3_method_16_code 59 = .ok (.aload_n 1, 1) := by decide +kernel
theorem d6_60 : decode prog_3_method_16_code 60 = .ok (.invokevirtual 123, 3) := by decide +kernel
theorem d6_63 : decode prog_3_method_16_code 63 = .ok (.ifCond .eq 6, 3) := by decide +kernel
theorem d6_66 : decode prog_3_method_16_code 66 = .ok (.iload 4, 2) := by decide +kernel
theorem d6_68 : decode prog_3_method_16_code 68 = .ok (.ireturn, 1) := by decide +kernel
theorem d6_69 : decode prog_3_method_16_code 69 = .ok (.iload 4, 2) := by decide +kernel
theorem d6_71 : decode prog_3_method_16_code 71 = .ok (.iconst 1, 1) := by decide +kernel
theorem d6_72 : decode prog_3_method_16_code 72 = .ok (.iadd, 1) := by decide +kernel
theorem d6_73 : decode prog_3_method_16_code 73 = .ok (.iload_n 3, 1) := by decide +kernel
theorem d6_74 : decode prog_3_method_16_code 74 = .ok (.iand, 1) := by decide +kernel
theorem d6_75 : decode prog_3_method_16_code 75 = .ok (.istore 4, 2) := by decide +kernel
theorem d6_77 : decode prog_3_method_16_code 77 = .ok (.goto (-61), 3) := by decide +kernel
theorem d6_80 : decode prog_3_method_16_code 80 = .ok (.iload 5, 2) := by decide +kernel
theorem d6_82 : decode prog_3_method_16_code 82 = .ok (.iconst (-1), 1) := by decide +kernel
theorem d6_83 : decode prog_3_method_16_code 83 = .ok (.if_icmp .ne 8, 3) := by decide +kernel
theorem d6_86 : decode prog_3_method_16_code 86 = .ok (.iload 4, 2) := by decide +kernel
theorem d6_88 : decode prog_3_method_16_code 88 = .ok (.goto 5, 3) := by decide +kernel
theorem d6_91 : decode prog_3_method_16_code 91 = .ok (.iload 5, 2) := by decide +kernel
theorem d6_93 : decode prog_3_method_16_code 93 = .ok (.ireturn, 1) := by decide +kernel
theorem own_row {x : Int32} (h : x = -1 ∨ x = -2 ∨ x = 0 ∨ x = 1 ∨ x = 2) (h1 : ¬ x = -1) (h2 : ¬ x = -2) : x = 0 ∨ x = 1 ∨ x = 2 := by
  rcases h with h | h | h
  · exact absurd h h1
  · exact absurd h h2
  · exact h
theorem own_row0 {x : Int32} (h : x = 0 ∨ x = 1 ∨ x = 2) : ¬ x < 0 := by rcases h with rfl | rfl | rfl <;> decide
theorem own_e1 {n : Nat} {as vs : List Int32} {k : Nat} (h : ¬ own_eqr n as vs k = 0) : own_eqr n as vs k = 1 := by
  unfold own_eqr at h ⊢; split
  · rfl
  · rename_i c; rw [if_neg c] at h; exact absurd rfl h
theorem own_e0 {n : Nat} {as vs : List Int32} {k : Nat} (h : own_eqr n as vs k = 0) : ¬ own_eqr n as vs k = 1 := by rw [h]; decide
theorem own_ext {f : Nat → Int32} {E : Nat → Prop} {s i : Nat} (hb : ∀ j, j < i → f ((s + j) % 8) ≠ -1 ∧ ¬ (¬ f ((s + j) % 8) < 0 ∧ E (f ((s + j) % 8)).toNatClampNeg)) (h1 : ¬ f ((s + i) % 8) = -1) (h2 : ¬ (¬ f ((s + i) % 8) < 0 ∧ E (f ((s + i) % 8)).toNatClampNeg)) : ∀ j, j < i + 1 → f ((s + j) % 8) ≠ -1 ∧ ¬ (¬ f ((s + j) % 8) < 0 ∧ E (f ((s + j) % 8)).toNatClampNeg) := by
  intro j hj
  by_cases e : j = i
  · subst e; exact ⟨h1, h2⟩
  · exact hb j (by omega)
theorem pd_28I5bI29Z : parseMethodDescriptor "(I[I)Z" = some ⟨[.int, (.array .int)], some .boolean⟩ := by decide +kernel
set_option maxRecDepth 65536 in
set_option maxHeartbeats 40000000 in
theorem lp_find (l : Launch) (Z : State) (a0 : Array Value) (hw : ∀ d ∈ tables_1, d.before a0 Z = true) (n0 : Nat) (h0 : Heap) (K : Cx) (ok : Ok K Z n0 "com/example/hornconv/hornconv/FactTable" prog_3_method_16_code 7 (some .int) "find") (t vv un me ag de sl po : Addr) (rw lv us : Int32) (x0 x1 x2 x3 x4 x5 x6 x7 x8 x9 x10 x11 y0 y1 y2 : Int32) (f : Nat → Int32) (hs : Int32) (A_t : Ob Z h0 t "com/example/hornconv/hornconv/FactTable" fl_FactTable [(.ref un), (.ref me), (.int (3 : Int32)), (.ref ag), (.ref de), (.ref sl), (.ref po), (.int rw), (.int lv), (.int us)]) (A_ag : PA .int Z h0 ag [(.int x0), (.int x1), (.int x2), (.int x3), (.int x4), (.int x5), (.int x6), (.int x7), (.int x8), (.int x9), (.int x10), (.int x11)]) (A_v : PA .int Z h0 vv [(.int y0), (.int y1), (.int y2)]) (A_sl : PA .int Z h0 sl (sv 8 f)) (hR : Rw f) (s : Nat) :
    ∀ (c i : Nat) (fr : Int32) (s6 : Slot), One s6 → f ((s + (i + c)) % 8) = -1 → (∀ j, j < i → f ((s + j) % 8) ≠ -1 ∧ ¬ (¬ f ((s + j) % 8) < 0 ∧ (fun k => own_eqr 3 [x0, x1, x2, x3, x4, x5, x6, x7, x8, x9, x10, x11] [y0, y1, y2] k = 1) (f ((s + j) % 8)).toNatClampNeg)) → (fr = -1 ∨ ∃ k, k < i ∧ fr = Int32.ofNat ((s + k) % 8) ∧ f ((s + k) % 8) = -2) → W K l ({ frames := 1, cells := 0, slots := 0, locals := 17 } : Room) n0 (fun u h => ∃ r, r < 8 ∧ u = some (.int (Int32.ofNat r)) ∧ Fnd f (fun k => own_eqr 3 [x0, x1, x2, x3, x4, x5, x6, x7, x8, x9, x10, x11] [y0, y1, y2] k = 1) s r ∧ h0 = h) h0 0 0 16 #[.val (.ref t), .val (.ref vv), .val (.int hs), .val (.int (7 : Int32)), .val (.int (Int32.ofNat ((s + i) % 8))), .val (.int fr), s6] [] := by
  intro c
  induction c with
  | zero =>
    intro i fr s6 o6 hc hb hf
    have hc : f ((s + i) % 8) = -1 := hc
    show W K l _ n0 _ h0 0 0 16 #[.val (.ref t), .val (.ref vv), .val (.int hs), .val (.int (7 : Int32)), .val (.int (Int32.ofNat ((s + i) % 8))), .val (.int fr), s6] []
    refine w_aloadN ok d6_16 rfl rfl ?_
    refine w_getfield ok (v := (.ref sl)) (host := "") (f := ("com/example/hornconv/hornconv/FactTable", "slots", "[I", (.array .int))) 5 d6_17 (Or.inl (hw _ (List.mem_of_getElem? (i := 22) rfl))) Via.refl A_t rfl rfl ?_
    refine w_iload ok d6_20 rfl ?_
    refine w_iaload ok (v := (.int (f ((s + i) % 8)))) d6_22 A_sl (own_nn (own_o8 _)) (by rw [own_clamp (own_o8 _)]; exact sv_get (by omega)) ?_
    refine w_iconst ok d6_23 (v := (-1 : Int32)) rfl ?_
    refine w_icmp_eq ok d6_24 (pc' := 80) (by decide) (fun hc1 => ?_) (fun hc1 => False.elim (by exact hc1 hc))
    show W K l _ n0 _ h0 0 0 80 #[.val (.ref t), .val (.ref vv), .val (.int hs), .val (.int (7 : Int32)), .val (.int (Int32.ofNat ((s + i) % 8))), .val (.int fr), s6] []
    refine w_iload ok d6_80 rfl ?_
    refine w_iconst ok d6_82 (v := (-1 : Int32)) rfl ?_
    refine w_icmp_ne ok d6_83 (pc' := 91) (by decide) (fun hc3 => ?_) (fun hc3 => ?_)
    · show W K l _ n0 _ h0 0 0 91 #[.val (.ref t), .val (.ref vv), .val (.int hs), .val (.int (7 : Int32)), .val (.int (Int32.ofNat ((s + i) % 8))), .val (.int fr), s6] []
      refine w_iload ok d6_91 rfl ?_
      refine w_iret ok d6_93 (by decide) (by decide) ?_
      rcases hf with hf | ⟨k, hk, rfl, hk2⟩
      · exact absurd hf hc3
      · exact ⟨(s + k) % 8, by omega, rfl, Or.inr ⟨by rw [hk2]; decide, i, k, hc, hb, Nat.le_of_lt hk, rfl⟩, rfl⟩
    · show W K l _ n0 _ h0 0 0 86 #[.val (.ref t), .val (.ref vv), .val (.int hs), .val (.int (7 : Int32)), .val (.int (Int32.ofNat ((s + i) % 8))), .val (.int fr), s6] []
      refine w_iload ok d6_86 rfl ?_
      refine w_goto ok d6_88 (pc' := 93) (by decide) ?_
      refine w_iret ok d6_93 (by decide) (by decide) ?_
      refine ⟨(s + i) % 8, by omega, rfl, Or.inr ⟨by rw [hc]; decide, i, i, hc, hb, Nat.le_refl _, rfl⟩, rfl⟩
  | succ c ih =>
    intro i fr s6 o6 hc hb hf
    show W K l _ n0 _ h0 0 0 16 #[.val (.ref t), .val (.ref vv), .val (.int hs), .val (.int (7 : Int32)), .val (.int (Int32.ofNat ((s + i) % 8))), .val (.int fr), s6] []
    refine w_aloadN ok d6_16 rfl rfl ?_
    refine w_getfield ok (v := (.ref sl)) (host := "") (f := ("com/example/hornconv/hornconv/FactTable", "slots", "[I", (.array .int))) 5 d6_17 (Or.inl (hw _ (List.mem_of_getElem? (i := 22) rfl))) Via.refl A_t rfl rfl ?_
    refine w_iload ok d6_20 rfl ?_
    refine w_iaload ok (v := (.int (f ((s + i) % 8)))) d6_22 A_sl (own_nn (own_o8 _)) (by rw [own_clamp (own_o8 _)]; exact sv_get (by omega)) ?_
    refine w_iconst ok d6_23 (v := (-1 : Int32)) rfl ?_
    refine w_icmp_eq ok d6_24 (pc' := 80) (by decide) (fun hc5 => ?_) (fun hc5 => ?_)
    · show W K l _ n0 _ h0 0 0 80 #[.val (.ref t), .val (.ref vv), .val (.int hs), .val (.int (7 : Int32)), .val (.int (Int32.ofNat ((s + i) % 8))), .val (.int fr), s6] []
      refine w_iload ok d6_80 rfl ?_
      refine w_iconst ok d6_82 (v := (-1 : Int32)) rfl ?_
      refine w_icmp_ne ok d6_83 (pc' := 91) (by decide) (fun hc7 => ?_) (fun hc7 => ?_)
      · show W K l _ n0 _ h0 0 0 91 #[.val (.ref t), .val (.ref vv), .val (.int hs), .val (.int (7 : Int32)), .val (.int (Int32.ofNat ((s + i) % 8))), .val (.int fr), s6] []
        refine w_iload ok d6_91 rfl ?_
        refine w_iret ok d6_93 (by decide) (by decide) ?_
        rcases hf with hf | ⟨k, hk, rfl, hk2⟩
        · exact absurd hf hc7
        · exact ⟨(s + k) % 8, by omega, rfl, Or.inr ⟨by rw [hk2]; decide, i, k, hc5, hb, Nat.le_of_lt hk, rfl⟩, rfl⟩
      · show W K l _ n0 _ h0 0 0 86 #[.val (.ref t), .val (.ref vv), .val (.int hs), .val (.int (7 : Int32)), .val (.int (Int32.ofNat ((s + i) % 8))), .val (.int fr), s6] []
        refine w_iload ok d6_86 rfl ?_
        refine w_goto ok d6_88 (pc' := 93) (by decide) ?_
        refine w_iret ok d6_93 (by decide) (by decide) ?_
        refine ⟨(s + i) % 8, by omega, rfl, Or.inr ⟨by rw [hc5]; decide, i, i, hc5, hb, Nat.le_refl _, rfl⟩, rfl⟩
    · show W K l _ n0 _ h0 0 0 27 #[.val (.ref t), .val (.ref vv), .val (.int hs), .val (.int (7 : Int32)), .val (.int (Int32.ofNat ((s + i) % 8))), .val (.int fr), s6] []
      refine w_aloadN ok d6_27 rfl rfl ?_
      refine w_getfield ok (v := (.ref sl)) (host := "") (f := ("com/example/hornconv/hornconv/FactTable", "slots", "[I", (.array .int))) 5 d6_28 (Or.inl (hw _ (List.mem_of_getElem? (i := 22) rfl))) Via.refl A_t rfl rfl ?_
      refine w_iload ok d6_31 rfl ?_
      refine w_iaload ok (v := (.int (f ((s + i) % 8)))) d6_33 A_sl (own_nn (own_o8 _)) (by rw [own_clamp (own_o8 _)]; exact sv_get (by omega)) ?_
      refine w_istore ok d6_34 (L' := #[.val (.ref t), .val (.ref vv), .val (.int hs), .val (.int (7 : Int32)), .val (.int (Int32.ofNat ((s + i) % 8))), .val (.int fr), .val (.int (f ((s + i) % 8)))]) (by exact XS.store1 (o := s6) rfl o6 rfl) ?_
      refine w_iload ok d6_36 rfl ?_
      refine w_bipush ok d6_38 (v := (-2 : Int32)) rfl ?_
      refine w_icmp_ne ok d6_40 (pc' := 56) (by decide) (fun hc9 => ?_) (fun hc9 => ?_)
      · show W K l _ n0 _ h0 0 0 56 #[.val (.ref t), .val (.ref vv), .val (.int hs), .val (.int (7 : Int32)), .val (.int (Int32.ofNat ((s + i) % 8))), .val (.int fr), .val (.int (f ((s + i) % 8)))] []
        refine w_aloadN ok d6_56 rfl rfl ?_
        refine w_iload ok d6_57 rfl ?_
        refine w_aloadN ok d6_59 rfl rfl ?_
        refine w_callP ok (y := (⟨"com/example/hornconv/hornconv/FactTable", "equalsRow", "(I[I)Z"⟩ : MethodName)) (a := t) (argsL := [(.int (f ((s + i) % 8))), (.ref vv)]) (rest := []) d6_60 (hw _ (List.mem_of_getElem? (i := 66) rfl)) (hw _ (List.mem_of_getElem? (i := 67) rfl)) (hw _ (List.mem_of_getElem? (i := 68) rfl)) (hw _ (List.mem_of_getElem? (i := 2) rfl)) (hw _ (List.mem_of_getElem? (i := 3) rfl)) (hw _ (List.mem_of_getElem? (i := 69) rfl)) (by decide) A_t.1 pd_28I5bI29Z rfl rfl (by decide) (Nat.le_of_ble_eq_true rfl) (by decide) (by decide) (fun z0 => rm_eq l Z a0 hw [] n0 h0 z0 t vv un me ag de sl po rw lv us x0 x1 x2 x3 x4 x5 x6 x7 x8 x9 x10 x11 y0 y1 y2 A_t A_ag A_v (f ((s + i) % 8)) (own_row (hR _ (by omega)) hc5 hc9)) (fun v10 h11 qv10 => ?_)
        obtain ⟨rfl, rfl⟩ := qv10
        show W K l _ n0 _ h0 0 0 63 #[.val (.ref t), .val (.ref vv), .val (.int hs), .val (.int (7 : Int32)), .val (.int (Int32.ofNat ((s + i) % 8))), .val (.int fr), .val (.int (f ((s + i) % 8)))] [(.int (own_eqr 3 [x0, x1, x2, x3, x4, x5, x6, x7, x8, x9, x10, x11] [y0, y1, y2] (f ((s + i) % 8)).toNatClampNeg))]
        refine w_if_eq ok d6_63 (pc' := 69) (by decide) (fun hc13 => ?_) (fun hc13 => ?_)
        · show W K l _ n0 _ h0 0 0 69 #[.val (.ref t), .val (.ref vv), .val (.int hs), .val (.int (7 : Int32)), .val (.int (Int32.ofNat ((s + i) % 8))), .val (.int fr), .val (.int (f ((s + i) % 8)))] []
          refine w_iload ok d6_69 rfl ?_
          refine w_iconst ok d6_71 (v := (1 : Int32)) rfl ?_
          refine w_iadd ok d6_72 ?_
          refine w_iloadN ok d6_73 rfl ?_
          refine w_iand ok d6_74 ?_
          refine w_istore ok d6_75 (L' := #[.val (.ref t), .val (.ref vv), .val (.int hs), .val (.int (7 : Int32)), .val (.int (((Int32.ofNat ((s + i) % 8)) + (1 : Int32)) &&& (7 : Int32))), .val (.int fr), .val (.int (f ((s + i) % 8)))]) rfl ?_
          refine w_goto ok d6_77 (pc' := 16) (by decide) ?_
          show W K l _ n0 _ h0 0 0 16 #[.val (.ref t), .val (.ref vv), .val (.int hs), .val (.int (7 : Int32)), .val (.int (((Int32.ofNat ((s + i) % 8)) + (1 : Int32)) &&& (7 : Int32))), .val (.int fr), .val (.int (f ((s + i) % 8)))] []
          rw [show (Int32.ofNat ((s + i) % 8) + 1) &&& 7 = Int32.ofNat ((s + (i + 1)) % 8) from own_nx (s + i)]
          exact ih (i + 1) _ _ (One.val rfl) (by rw [show s + (i + 1 + c) = s + (i + (c + 1)) by omega]; exact hc) (own_ext (E := (fun k => own_eqr 3 [x0, x1, x2, x3, x4, x5, x6, x7, x8, x9, x10, x11] [y0, y1, y2] k = 1)) hb hc5 (fun q => own_e0 hc13 q.2)) (hf.imp id fun ⟨k, a, b, c⟩ => ⟨k, Nat.lt_succ_of_lt a, b, c⟩)
        · show W K l _ n0 _ h0 0 0 66 #[.val (.ref t), .val (.ref vv), .val (.int hs), .val (.int (7 : Int32)), .val (.int (Int32.ofNat ((s + i) % 8))), .val (.int fr), .val (.int (f ((s + i) % 8)))] []
          refine w_iload ok d6_66 rfl ?_
          refine w_iret ok d6_68 (by decide) (by decide) ?_
          refine ⟨(s + i) % 8, by omega, rfl, Or.inl ⟨own_row0 (own_row (hR _ (by omega)) hc5 hc9), own_e1 hc13⟩, rfl⟩
      · show W K l _ n0 _ h0 0 0 43 #[.val (.ref t), .val (.ref vv), .val (.int hs), .val (.int (7 : Int32)), .val (.int (Int32.ofNat ((s + i) % 8))), .val (.int fr), .val (.int (f ((s + i) % 8)))] []
        refine w_iload ok d6_43 rfl ?_
        refine w_iconst ok d6_45 (v := (-1 : Int32)) rfl ?_
        refine w_icmp_ne ok d6_46 (pc' := 69) (by decide) (fun hc15 => ?_) (fun hc15 => ?_)
        · show W K l _ n0 _ h0 0 0 69 #[.val (.ref t), .val (.ref vv), .val (.int hs), .val (.int (7 : Int32)), .val (.int (Int32.ofNat ((s + i) % 8))), .val (.int fr), .val (.int (f ((s + i) % 8)))] []
          refine w_iload ok d6_69 rfl ?_
          refine w_iconst ok d6_71 (v := (1 : Int32)) rfl ?_
          refine w_iadd ok d6_72 ?_
          refine w_iloadN ok d6_73 rfl ?_
          refine w_iand ok d6_74 ?_
          refine w_istore ok d6_75 (L' := #[.val (.ref t), .val (.ref vv), .val (.int hs), .val (.int (7 : Int32)), .val (.int (((Int32.ofNat ((s + i) % 8)) + (1 : Int32)) &&& (7 : Int32))), .val (.int fr), .val (.int (f ((s + i) % 8)))]) rfl ?_
          refine w_goto ok d6_77 (pc' := 16) (by decide) ?_
          show W K l _ n0 _ h0 0 0 16 #[.val (.ref t), .val (.ref vv), .val (.int hs), .val (.int (7 : Int32)), .val (.int (((Int32.ofNat ((s + i) % 8)) + (1 : Int32)) &&& (7 : Int32))), .val (.int fr), .val (.int (f ((s + i) % 8)))] []
          rw [show (Int32.ofNat ((s + i) % 8) + 1) &&& 7 = Int32.ofNat ((s + (i + 1)) % 8) from own_nx (s + i)]
          exact ih (i + 1) _ _ (One.val rfl) (by rw [show s + (i + 1 + c) = s + (i + (c + 1)) by omega]; exact hc) (own_ext (E := (fun k => own_eqr 3 [x0, x1, x2, x3, x4, x5, x6, x7, x8, x9, x10, x11] [y0, y1, y2] k = 1)) hb hc5 (fun q => q.1 (by rw [hc9]; decide))) (hf.imp id fun ⟨k, a, b, c⟩ => ⟨k, Nat.lt_succ_of_lt a, b, c⟩)
        · show W K l _ n0 _ h0 0 0 49 #[.val (.ref t), .val (.ref vv), .val (.int hs), .val (.int (7 : Int32)), .val (.int (Int32.ofNat ((s + i) % 8))), .val (.int fr), .val (.int (f ((s + i) % 8)))] []
          refine w_iload ok d6_49 rfl ?_
          refine w_istore ok d6_51 (L' := #[.val (.ref t), .val (.ref vv), .val (.int hs), .val (.int (7 : Int32)), .val (.int (Int32.ofNat ((s + i) % 8))), .val (.int (Int32.ofNat ((s + i) % 8))), .val (.int (f ((s + i) % 8)))]) rfl ?_
          refine w_goto ok d6_53 (pc' := 69) (by decide) ?_
          refine w_iload ok d6_69 rfl ?_
          refine w_iconst ok d6_71 (v := (1 : Int32)) rfl ?_
          refine w_iadd ok d6_72 ?_
          refine w_iloadN ok d6_73 rfl ?_
          refine w_iand ok d6_74 ?_
          refine w_istore ok d6_75 (L' := #[.val (.ref t), .val (.ref vv), .val (.int hs), .val (.int (7 : Int32)), .val (.int (((Int32.ofNat ((s + i) % 8)) + (1 : Int32)) &&& (7 : Int32))), .val (.int (Int32.ofNat ((s + i) % 8))), .val (.int (f ((s + i) % 8)))]) rfl ?_
          refine w_goto ok d6_77 (pc' := 16) (by decide) ?_
          show W K l _ n0 _ h0 0 0 16 #[.val (.ref t), .val (.ref vv), .val (.int hs), .val (.int (7 : Int32)), .val (.int (((Int32.ofNat ((s + i) % 8)) + (1 : Int32)) &&& (7 : Int32))), .val (.int (Int32.ofNat ((s + i) % 8))), .val (.int (f ((s + i) % 8)))] []
          rw [show (Int32.ofNat ((s + i) % 8) + 1) &&& 7 = Int32.ofNat ((s + (i + 1)) % 8) from own_nx (s + i)]
          exact ih (i + 1) _ _ (One.val rfl) (by rw [show s + (i + 1 + c) = s + (i + (c + 1)) by omega]; exact hc) (own_ext (E := (fun k => own_eqr 3 [x0, x1, x2, x3, x4, x5, x6, x7, x8, x9, x10, x11] [y0, y1, y2] k = 1)) hb hc5 (fun q => q.1 (by rw [hc9]; decide))) (Or.inr ⟨i, Nat.lt_succ_self _, rfl, hc9⟩)
set_option maxRecDepth 65536 in
set_option maxHeartbeats 40000000 in
theorem rm_find (l : Launch) (Z : State) (a0 : Array Value) (hw : ∀ d ∈ tables_1, d.before a0 Z = true) (ws : List Jvm.Cond) (n0 : Nat) (h0 : Heap) (Z0 : Old Z n0 h0) (t vv un me ag de sl po : Addr) (rw lv us : Int32) (x0 x1 x2 x3 x4 x5 x6 x7 x8 x9 x10 x11 y0 y1 y2 : Int32) (f : Nat → Int32) (hs : Int32) (A_t : Ob Z h0 t "com/example/hornconv/hornconv/FactTable" fl_FactTable [(.ref un), (.ref me), (.int (3 : Int32)), (.ref ag), (.ref de), (.ref sl), (.ref po), (.int rw), (.int lv), (.int us)]) (A_ag : PA .int Z h0 ag [(.int x0), (.int x1), (.int x2), (.int x3), (.int x4), (.int x5), (.int x6), (.int x7), (.int x8), (.int x9), (.int x10), (.int x11)]) (A_v : PA .int Z h0 vv [(.int y0), (.int y1), (.int y2)]) (A_sl : PA .int Z h0 sl (sv 8 f)) (hR : Rw f) (hN : ∀ s, ∃ m, f ((s + m) % 8) = -1)  :
    Met l Z n0 (⟨"com/example/hornconv/hornconv/FactTable", "find", "([II)I"⟩ : MethodName) prog_3_method_16_code 7 (some .int) ws ({ frames := 1, cells := 0, slots := 0, locals := 17 } : Room) #[(.ref t), (.ref vv), (.int hs)] h0 (fun u h => ∃ r, r < 8 ∧ u = some (.int (Int32.ofNat r)) ∧ Fnd f (fun k => own_eqr 3 [x0, x1, x2, x3, x4, x5, x6, x7, x8, x9, x10, x11] [y0, y1, y2] k = 1) (hs &&& 7).toNatClampNeg r ∧ h0 = h) := by
  refine met_of Z0 (plainFor_of_name pn_com_example_hornconv_hornconv_FactTable) (Ls := #[.val (.ref t), .val (.ref vv), .val (.int hs), .unset, .unset, .unset, .unset]) (fun m => by first | (simp [entryFrame, mkF, argsToLocals, Value.category]; done) | rfl) ?_
  intro K ok
  show W K l _ n0 _ h0 0 0 0 #[.val (.ref t), .val (.ref vv), .val (.int hs), .unset, .unset, .unset, .unset] []
  refine w_aloadN ok d6_0 rfl rfl ?_
  refine w_getfield ok (v := (.ref sl)) (host := "") (f := ("com/example/hornconv/hornconv/FactTable", "slots", "[I", (.array .int))) 5 d6_1 (Or.inl (hw _ (List.mem_of_getElem? (i := 22) rfl))) Via.refl A_t rfl rfl ?_
  refine w_arraylength ok (z := (8 : Int32)) d6_4 A_sl (sv_len 8 f) (by decide) ?_
  show W K l _ n0 _ h0 0 0 5 #[.val (.ref t), .val (.ref vv), .val (.int hs), .unset, .unset, .unset, .unset] [(.int (8 : Int32))]
  refine w_iconst ok d6_5 (v := (1 : Int32)) rfl ?_
  refine w_isub ok d6_6 ?_
  show W K l _ n0 _ h0 0 0 7 #[.val (.ref t), .val (.ref vv), .val (.int hs), .unset, .unset, .unset, .unset] [(.int (7 : Int32))]
  refine w_istoreN ok d6_7 (L' := #[.val (.ref t), .val (.ref vv), .val (.int hs), .val (.int (7 : Int32)), .unset, .unset, .unset]) rfl ?_
  refine w_iloadN ok d6_8 rfl ?_
  refine w_iloadN ok d6_9 rfl ?_
  refine w_iand ok d6_10 ?_
  refine w_istore ok d6_11 (L' := #[.val (.ref t), .val (.ref vv), .val (.int hs), .val (.int (7 : Int32)), .val (.int (hs &&& (7 : Int32))), .unset, .unset]) rfl ?_
  refine w_iconst ok d6_13 (v := (-1 : Int32)) rfl ?_
  refine w_istore ok d6_14 (L' := #[.val (.ref t), .val (.ref vv), .val (.int hs), .val (.int (7 : Int32)), .val (.int (hs &&& (7 : Int32))), .val (.int (-1 : Int32)), .unset]) rfl ?_
  show W K l _ n0 _ h0 0 0 16 #[.val (.ref t), .val (.ref vv), .val (.int hs), .val (.int (7 : Int32)), .val (.int (hs &&& (7 : Int32))), .val (.int (-1 : Int32)), .unset] []
  obtain ⟨c, hc⟩ := hN (hs &&& 7).toNatClampNeg
  have e := own_st hs
  generalize hn : (hs &&& 7).toNatClampNeg = n at hc e ⊢
  rw [e]
  exact lp_find l Z a0 hw n0 h0 K ok t vv un me ag de sl po rw lv us x0 x1 x2 x3 x4 x5 x6 x7 x8 x9 x10 x11 y0 y1 y2 f hs A_t A_ag A_v A_sl hR _ c 0 _ _ One.u (by rw [Nat.zero_add]; exact hc) (fun j hj => absurd hj (Nat.not_lt_zero _)) (Or.inl rfl)
theorem d4_0 : decode prog_3_method_7_code 0 = .ok (.aload_n 0, 1) := by decide +kernel
theorem d4_1 : decode prog_3_method_7_code 1 = .ok (.getfield 17, 3) := by decide +kernel
theorem d4_4 : decode prog_3_method_7_code 4 = .ok (.iconst 1, 1) := by decide +kernel
theorem d4_5 : decode prog_3_method_7_code 5 = .ok (.if_icmp .ne 15, 3) := by decide +kernel
theorem d4_8 : decode prog_3_method_7_code 8 = .ok (.aload_n 0, 1) := by decide +kernel
theorem d4_9 : decode prog_3_method_7_code 9 = .ok (.aload_n 1, 1) := by decide +kernel
theorem d4_10 : decode prog_3_method_7_code 10 = .ok (.iconst 0, 1) := by decide +kernel
theorem d4_11 : decode prog_3_method_7_code 11 = .ok (.iaload, 1) := by decide +kernel
theorem d4_12 : decode prog_3_method_7_code 12 = .ok (.invokevirtual 49, 3) := by decide +kernel
theorem d4_15 : decode prog_3_method_7_code 15 = .ok (.ifCond .eq 5, 3) := by decide +kernel
theorem d4_18 : decode prog_3_method_7_code 18 = .ok (.iconst (-1), 1) := by decide +kernel
theorem d4_19 : decode prog_3_method_7_code 19 = .ok (.ireturn, 1) := by decide +kernel
theorem d4_20 : decode prog_3_method_7_code 20 = .ok (.aload_n 0, 1) := by decide +kernel
theorem d4_21 : decode prog_3_method_7_code 21 = .ok (.aload_n 1, 1) := by decide +kernel
theorem d4_22 : decode prog_3_method_7_code 22 = .ok (.iconst 0, 1) := by decide +kernel
theorem d4_23 : decode prog_3_method_7_code 23 = .ok (.invokevirtual 53, 3) := by decide +kernel
theorem d4_26 : decode prog_3_method_7_code 26 = .ok (.istore_n 2, 1) := by decide +kernel
theorem d4_27 : decode prog_3_method_7_code 27 = .ok (.aload_n 0, 1) := by decide +kernel
theorem d4_28 : decode prog_3_method_7_code 28 = .ok (.aload_n 1, 1) := by decide +kernel
theorem d4_29 : decode prog_3_method_7_code 29 = .ok (.iload_n 2, 1) := by decide +kernel
theorem d4_30 : decode prog_3_method_7_code 30 = .ok (.invokevirtual 57, 3) := by decide +kernel
theorem d4_33 : decode prog_3_method_7_code 33 = .ok (.istore_n 3, 1) := by decide +kernel
theorem d4_34 : decode prog_3_method_7_code 34 = .ok (.aload_n 0, 1) := by decide +kernel
theorem d4_35 : decode prog_3_method_7_code 35 = .ok (.getfield 28, 3) := by decide +kernel
theorem d4_38 : decode prog_3_method_7_code 38 = .ok (.iload_n 3, 1) := by decide +kernel
theorem d4_39 : decode prog_3_method_7_code 39 = .ok (.iaload, 1) := by decide +kernel
theorem d4_40 : decode prog_3_method_7_code 40 = .ok (.ifCond .lt 5, 3) := by decide +kernel
theorem d4_43 : decode prog_3_method_7_code 43 = .ok (.iconst (-1), 1) := by decide +kernel
theorem d4_44 : decode prog_3_method_7_code 44 = .ok (.ireturn, 1) := by decide +kernel
theorem d4_45 : decode prog_3_method_7_code 45 = .ok (.aload_n 0, 1) := by decide +kernel
theorem d4_46 : decode prog_3_method_7_code 46 = .ok (.getfield 43, 3) := by decide +kernel
theorem d4_49 : decode prog_3_method_7_code 49 = .ok (.istore 4, 2) := by decide +kernel
theorem d4_51 : decode prog_3_method_7_code 51 = .ok (.iload 4, 2) := by decide +kernel
theorem d4_53 : decode prog_3_method_7_code 53 = .ok (.aload_n 0, 1) := by decide +kernel
theorem d4_54 : decode prog_3_method_7_code 54 = .ok (.getfield 24, 3) := by decide +kernel
theorem d4_57 : decode prog_3_method_7_code 57 = .ok (.arraylength, 1) := by decide +kernel
theorem d4_58 : decode prog_3_method_7_code 58 = .ok (.if_icmp .ne 38, 3) := by decide +kernel
theorem d4_61 : decode prog_3_method_7_code 61 = .ok (.aload_n 0, 1) := by decide +kernel
theorem d4_62 : decode prog_3_method_7_code 62 = .ok (.aload_n 0, 1) := by decide +kernel
theorem d4_63 : decode prog_3_method_7_code 63 = .ok (.getfield 24, 3) := by decide +kernel
theorem d4_66 : decode prog_3_method_7_code 66 = .ok (.iconst 2, 1) := by decide +kernel
theorem d4_67 : decode prog_3_method_7_code 67 = .ok (.iload 4, 2) := by decide +kernel
theorem d4_69 : decode prog_3_method_7_code 69 = .ok (.imul, 1) := by decide +kernel
theorem d4_70 : decode prog_3_method_7_code 70 = .ok (.invokestatic 60, 3) := by decide +kernel
theorem d4_73 : decode prog_3_method_7_code 73 = .ok (.putfield 24, 3) := by decide +kernel
theorem d4_76 : decode prog_3_method_7_code 76 = .ok (.aload_n 0, 1) := by decide +kernel
theorem d4_77 : decode prog_3_method_7_code 77 = .ok (.aload_n 0, 1) := by decide +kernel
theorem d4_78 : decode prog_3_method_7_code 78 = .ok (.getfield 21, 3) := by decide +kernel
theorem d4_81 : decode prog_3_method_7_code 81 = .ok (.iconst 2, 1) := by decide +kernel
theorem d4_82 : decode prog_3_method_7_code 82 = .ok (.iload 4, 2) := by decide +kernel
theorem d4_84 : decode prog_3_method_7_code 84 = .ok (.imul, 1) := by decide +kernel
theorem d4_85 : decode prog_3_method_7_code 85 = .ok (.aload_n 0, 1) := by decide +kernel
theorem d4_86 : decode prog_3_method_7_code 86 = .ok (.getfield 17, 3) := by decide +kernel
theorem d4_89 : decode prog_3_method_7_code 89 = .ok (.imul, 1) := by decide +kernel
theorem d4_90 : decode prog_3_method_7_code 90 = .ok (.invokestatic 64, 3) := by decide +kernel
theorem d4_93 : decode prog_3_method_7_code 93 = .ok (.putfield 21, 3) := by decide +kernel
theorem d4_96 : decode prog_3_method_7_code 96 = .ok (.aload_n 1, 1) := by decide +kernel
theorem d4_97 : decode prog_3_method_7_code 97 = .ok (.iconst 0, 1) := by decide +kernel
theorem d4_98 : decode prog_3_method_7_code 98 = .ok (.aload_n 0, 1) := by decide +kernel
theorem d4_99 : decode prog_3_method_7_code 99 = .ok (.getfield 21, 3) := by decide +kernel
theorem d4_102 : decode prog_3_method_7_code 102 = .ok (.iload 4, 2) := by decide +kernel
theorem d4_104 : decode prog_3_method_7_code 104 = .ok (.aload_n 0, 1) := by decide +kernel
theorem d4_105 : decode prog_3_method_7_code 105 = .ok (.getfield 17, 3) := by decide +kernel
theorem d4_108 : decode prog_3_method_7_code 108 = .ok (.imul, 1) := by decide +kernel
theorem d4_109 : decode prog_3_method_7_code 109 = .ok (.aload_n 0, 1) := by decide +kernel
theorem d4_110 : decode prog_3_method_7_code 110 = .ok (.getfield 17, 3) := by decide +kernel
theorem d4_113 : decode prog_3_method_7_code 113 = .ok (.invokestatic 67, 3) := by decide +kernel
theorem d4_116 : decode prog_3_method_7_code 116 = .ok (.aload_n 0, 1) := by decide +kernel
theorem d4_117 : decode prog_3_method_7_code 117 = .ok (.dup, 1) := by decide +kernel
theorem d4_118 : decode prog_3_method_7_code 118 = .ok (.getfield 43, 3) := by decide +kernel
theorem d4_121 : decode prog_3_method_7_code 121 = .ok (.iconst 1, 1) := by decide +kernel
theorem d4_122 : decode prog_3_method_7_code 122 = .ok (.iadd, 1) := by decide +kernel
theorem d4_123 : decode prog_3_method_7_code 123 = .ok (.putfield 43, 3) := by decide +kernel
theorem d4_126 : decode prog_3_method_7_code 126 = .ok (.aload_n 0, 1) := by decide +kernel
theorem d4_127 : decode prog_3_method_7_code 127 = .ok (.dup, 1) := by decide +kernel
theorem d4_128 : decode prog_3_method_7_code 128 = .ok (.getfield 46, 3) := by decide +kernel
theorem d4_131 : decode prog_3_method_7_code 131 = .ok (.iconst 1, 1) := by decide +kernel
theorem d4_132 : decode prog_3_method_7_code 132 = .ok (.iadd, 1) := by decide +kernel
theorem d4_133 : decode prog_3_method_7_code 133 = .ok (.putfield 46, 3) := by decide +kernel
theorem d4_136 : decode prog_3_method_7_code 136 = .ok (.aload_n 0, 1) := by decide +kernel
theorem d4_137 : decode prog_3_method_7_code 137 = .ok (.getfield 17, 3) := by decide +kernel
theorem d4_140 : decode prog_3_method_7_code 140 = .ok (.iconst 1, 1) := by decide +kernel
theorem d4_141 : decode prog_3_method_7_code 141 = .ok (.if_icmp .ne 11, 3) := by decide +kernel
theorem d4_144 : decode prog_3_method_7_code 144 = .ok (.aload_n 0, 1) := by decide +kernel
theorem d4_145 : decode prog_3_method_7_code 145 = .ok (.aload_n 1, 1) := by decide +kernel
theorem d4_146 : decode prog_3_method_7_code 146 = .ok (.iconst 0, 1) := by decide +kernel
theorem d4_147 : decode prog_3_method_7_code 147 = .ok (.iaload, 1) := by decide +kernel
theorem d4_148 : decode prog_3_method_7_code 148 = .ok (.iconst 1, 1) := by decide +kernel
theorem d4_149 : decode prog_3_method_7_code 149 = .ok (.invokevirtual 73, 3) := by decide +kernel
theorem d4_152 : decode prog_3_method_7_code 152 = .ok (.iconst 0, 1) := by decide +kernel
theorem d4_153 : decode prog_3_method_7_code 153 = .ok (.istore 5, 2) := by decide +kernel
theorem d4_155 : decode prog_3_method_7_code 155 = .ok (.iload 5, 2) := by decide +kernel
theorem d4_157 : decode prog_3_method_7_code 157 = .ok (.aload_n 0, 1) := by decide +kernel
theorem d4_158 : decode prog_3_method_7_code 158 = .ok (.getfield 39, 3) := by decide +kernel
theorem d4_161 : decode prog_3_method_7_code 161 = .ok (.arraylength, 1) := by decide +kernel
theorem d4_162 : decode prog_3_method_7_code 162 = .ok (.if_icmp .ge 35, 3) := by decide +kernel
theorem d4_165 : decode prog_3_method_7_code 165 = .ok (.aload_n 0, 1) := by decide +kernel
theorem d4_166 : decode prog_3_method_7_code 166 = .ok (.getfield 39, 3) := by decide +kernel
theorem d4_169 : decode prog_3_method_7_code 169 = .ok (.iload 5, 2) := by decide +kernel
theorem d4_171 : decode prog_3_method_7_code 171 = .ok (.aaload, 1) := by decide +kernel
theorem d4_172 : decode prog_3_method_7_code 172 = .ok (.ifnull 19, 3) := by decide +kernel
theorem d4_175 : decode prog_3_method_7_code 175 = .ok (.aload_n 0, 1) := by decide +kernel
theorem d4_176 : decode prog_3_method_7_code 176 = .ok (.getfield 39, 3) := by decide +kernel
theorem d4_179 : decode prog_3_method_7_code 179 = .ok (.iload 5, 2) := by decide +kernel
theorem d4_181 : decode prog_3_method_7_code 181 = .ok (.aaload, 1) := by decide +kernel
theorem d4_182 : decode prog_3_method_7_code 182 = .ok (.aload_n 1, 1) := by decide +kernel
theorem d4_183 : decode prog_3_method_7_code 183 = .ok (.iload 5, 2) := by decide +kernel
theorem d4_185 : decode prog_3_method_7_code 185 = .ok (.iaload, 1) := by decide +kernel
theorem d4_186 : decode prog_3_method_7_code 186 = .ok (.iload 4, 2) := by decide +kernel
theorem d4_188 : decode prog_3_method_7_code 188 = .ok (.invokevirtual 77, 3) := by decide +kernel
theorem d4_191 : decode prog_3_method_7_code 191 = .ok (.iinc 5 1, 3) := by decide +kernel
theorem d4_194 : decode prog_3_method_7_code 194 = .ok (.goto (-39), 3) := by decide +kernel
theorem d4_197 : decode prog_3_method_7_code 197 = .ok (.aload_n 0, 1) := by decide +kernel
theorem d4_198 : decode prog_3_method_7_code 198 = .ok (.getfield 28, 3) := by decide +kernel
theorem d4_201 : decode prog_3_method_7_code 201 = .ok (.iload_n 3, 1) := by decide +kernel
theorem d4_202 : decode prog_3_method_7_code 202 = .ok (.iaload, 1) := by decide +kernel
theorem d4_203 : decode prog_3_method_7_code 203 = .ok (.iconst (-1), 1) := by decide +kernel
theorem d4_204 : decode prog_3_method_7_code 204 = .ok (.if_icmp .ne 13, 3) := by decide +kernel
theorem d4_207 : decode prog_3_method_7_code 207 = .ok (.aload_n 0, 1) := by decide +kernel
theorem d4_208 : decode prog_3_method_7_code 208 = .ok (.dup, 1) := by decide +kernel
theorem d4_209 : decode prog_3_method_7_code 209 = .ok (.getfield 81, 3) := by decide +kernel
theorem d4_212 : decode prog_3_method_7_code 212 = .ok (.iconst 1, 1) := by decide +kernel
theorem d4_213 : decode prog_3_method_7_code 213 = .ok (.iadd, 1) := by decide +kernel
theorem d4_214 : decode prog_3_method_7_code 214 = .ok (.putfield 81, 3) := by decide +kernel
theorem d4_217 : decode prog_3_method_7_code 217 = .ok (.aload_n 0, 1) := by decide +kernel
theorem d4_218 : decode prog_3_method_7_code 218 = .ok (.getfield 28, 3) := by decide +kernel
theorem d4_221 : decode prog_3_method_7_code 221 = .ok (.iload_n 3, 1) := by decide +kernel
theorem d4_222 : decode prog_3_method_7_code 222 = .ok (.iload 4, 2) := by decide +kernel
theorem d4_224 : decode prog_3_method_7_code 224 = .ok (.iastore, 1) := by decide +kernel
theorem d4_225 : decode prog_3_method_7_code 225 = .ok (.iconst 2, 1) := by decide +kernel
theorem d4_226 : decode prog_3_method_7_code 226 = .ok (.aload_n 0, 1) := by decide +kernel
theorem d4_227 : decode prog_3_method_7_code 227 = .ok (.getfield 81, 3) := by decide +kernel
theorem d4_230 : decode prog_3_method_7_code 230 = .ok (.imul, 1) := by decide +kernel
theorem d4_231 : decode prog_3_method_7_code 231 = .ok (.aload_n 0, 1) := by decide +kernel
theorem d4_232 : decode prog_3_method_7_code 232 = .ok (.getfield 28, 3) := by decide +kernel
theorem d4_235 : decode prog_3_method_7_code 235 = .ok (.arraylength, 1) := by decide +kernel
theorem d4_236 : decode prog_3_method_7_code 236 = .ok (.if_icmp .le 7, 3) := by decide +kernel
theorem d4_239 : decode prog_3_method_7_code 239 = .ok (.aload_n 0, 1) := by decide +kernel
theorem d4_240 : decode prog_3_method_7_code 240 = .ok (.invokevirtual 84, 3) := by decide +kernel
theorem d4_243 : decode prog_3_method_7_code 243 = .ok (.iload 4, 2) := by decide +kernel
theorem d4_245 : decode prog_3_method_7_code 245 = .ok (.ireturn, 1) := by decide +kernel
theorem pd_285bII29I : parseMethodDescriptor "([II)I" = some ⟨[(.array .int), .int], some .int⟩ := by decide +kernel
set_option maxRecDepth 65536 in
set_option maxHeartbeats 40000000 in
theorem rm_add0 (l : Launch) (Z : State) (a0 : Array Value) (hw : ∀ d ∈ tables_1, d.before a0 Z = true) (ws : List Jvm.Cond) (n0 : Nat) (h0 : Heap) (Z0 : Old Z n0 h0) (t vv un me ag de sl po : Addr) (lv us : Int32) (x0 x1 x2 x3 x4 x5 x6 x7 x8 x9 x10 x11 d0 d1 d2 d3 y0 y1 y2 : Int32) (f : Nat → Int32) (A_t : Ob Z h0 t "com/example/hornconv/hornconv/FactTable" fl_FactTable [(.ref un), (.ref me), (.int (3 : Int32)), (.ref ag), (.ref de), (.ref sl), (.ref po), (.int (0 : Int32)), (.int lv), (.int us)]) (A_ag : PA .int Z h0 ag [(.int x0), (.int x1), (.int x2), (.int x3), (.int x4), (.int x5), (.int x6), (.int x7), (.int x8), (.int x9), (.int x10), (.int x11)]) (A_de : PA .boolean Z h0 de [(.int d0), (.int d1), (.int d2), (.int d3)]) (A_sl : PA .int Z h0 sl (sv 8 f)) (A_po : PA (.object "com/example/hornconv/hornconv/FactTable$PositionIndex") Z h0 po [.null, .null, .null]) (A_v : PA .int Z h0 vv [(.int y0), (.int y1), (.int y2)]) (ge_t : n0 ≤ t) (ge_ag : n0 ≤ ag) (ge_sl : n0 ≤ sl) (ne_t_ag : t ≠ ag) (ne_t_de : t ≠ de) (ne_t_sl : t ≠ sl) (ne_t_po : t ≠ po) (ne_t_vv : t ≠ vv) (ne_ag_de : ag ≠ de) (ne_ag_sl : ag ≠ sl) (ne_ag_po : ag ≠ po) (ne_ag_vv : ag ≠ vv) (ne_de_sl : de ≠ sl) (ne_sl_po : sl ≠ po) (ne_sl_vv : sl ≠ vv) (hR : Rw f) (hN : ∀ s, ∃ m, f ((s + m) % 8) = -1) (hus : 0 ≤ us.toInt ∧ us.toInt ≤ 3)  :
    Met l Z n0 (⟨"com/example/hornconv/hornconv/FactTable", "add", "([I)I"⟩ : MethodName) prog_3_method_7_code 6 (some .int) ws ({ frames := 2, cells := 0, slots := 0, locals := 35 } : Room) #[(.ref t), (.ref vv)] h0 (fun u h => (u = some (.int (-1)) ∧ h0 = h ∧ ∃ r, r < 8 ∧ ¬ f r < 0 ∧ (fun k => own_eqr 3 [x0, x1, x2, x3, x4, x5, x6, x7, x8, x9, x10, x11] [y0, y1, y2] k = 1) (f r).toNatClampNeg) ∨ (u = some (.int 0) ∧ ∃ r us', r < 8 ∧ (f r < 0 ∧ ∃ m i, f (((own_hs [y0, y1, y2] &&& 7).toNatClampNeg + m) % 8) = -1 ∧ (∀ j, j < m → f (((own_hs [y0, y1, y2] &&& 7).toNatClampNeg + j) % 8) ≠ -1 ∧ ¬ (¬ f (((own_hs [y0, y1, y2] &&& 7).toNatClampNeg + j) % 8) < 0 ∧ (fun k => own_eqr 3 [x0, x1, x2, x3, x4, x5, x6, x7, x8, x9, x10, x11] [y0, y1, y2] k = 1) (f (((own_hs [y0, y1, y2] &&& 7).toNatClampNeg + j) % 8)).toNatClampNeg)) ∧ i ≤ m ∧ r = ((own_hs [y0, y1, y2] &&& 7).toNatClampNeg + i) % 8) ∧ (0 ≤ us'.toInt ∧ us'.toInt ≤ us.toInt + 1) ∧ Keep h0 h [t, ag, sl] ∧ Ob Z h t "com/example/hornconv/hornconv/FactTable" fl_FactTable [(.ref un), (.ref me), (.int (3 : Int32)), (.ref ag), (.ref de), (.ref sl), (.ref po), (.int (1 : Int32)), (.int (lv + 1)), (.int us')] ∧ PA .int Z h ag [(.int y0), (.int y1), (.int y2), (.int x3), (.int x4), (.int x5), (.int x6), (.int x7), (.int x8), (.int x9), (.int x10), (.int x11)] ∧ PA .int Z h sl (sv 8 (upd f r 0)))) := by
  refine met_of Z0 (plainFor_of_name pn_com_example_hornconv_hornconv_FactTable) (Ls := #[.val (.ref t), .val (.ref vv), .unset, .unset, .unset, .unset]) (fun m => by first | (simp [entryFrame, mkF, argsToLocals, Value.category]; done) | rfl) ?_
  intro K ok
  have Kp : Keep h0 h0 [t, ag, sl] := Keep.refl _ _
  show W K l _ n0 _ h0 0 0 0 #[.val (.ref t), .val (.ref vv), .unset, .unset, .unset, .unset] []
  refine w_aloadN ok d4_0 rfl rfl ?_
  refine w_getfield ok (v := (.int (3 : Int32))) (host := "") (f := ("com/example/hornconv/hornconv/FactTable", "arity", "I", .int)) 2 d4_1 (Or.inl (hw _ (List.mem_of_getElem? (i := 15) rfl))) Via.refl A_t rfl rfl ?_
  refine w_iconst ok d4_4 (v := (1 : Int32)) rfl ?_
  refine w_icmp_ne ok d4_5 (pc' := 20) (by decide) (fun hc1 => ?_) (fun hc1 => False.elim (by revert hc1; decide))
  show W K l _ n0 _ h0 0 0 20 #[.val (.ref t), .val (.ref vv), .unset, .unset, .unset, .unset] []
  refine w_aloadN ok d4_20 rfl rfl ?_
  refine w_aloadN ok d4_21 rfl rfl ?_
  refine w_iconst ok d4_22 (v := (0 : Int32)) rfl ?_
  refine w_callP ok (y := (⟨"com/example/hornconv/hornconv/FactTable", "hash", "([II)I"⟩ : MethodName)) (a := t) (argsL := [(.ref vv), (.int (0 : Int32))]) (rest := []) d4_23 (hw _ (List.mem_of_getElem? (i := 37) rfl)) (hw _ (List.mem_of_getElem? (i := 38) rfl)) (hw _ (List.mem_of_getElem? (i := 39) rfl)) (hw _ (List.mem_of_getElem? (i := 2) rfl)) (hw _ (List.mem_of_getElem? (i := 3) rfl)) (hw _ (List.mem_of_getElem? (i := 40) rfl)) (by decide) A_t.1 pd_285bII29I rfl rfl (by decide) (Nat.le_of_ble_eq_true rfl) (by decide) (by decide) (fun z0 => rm_h_3_0 l Z a0 hw [] n0 h0 z0 t vv un me ag de sl po (0 : Int32) lv us y0 y1 y2 A_t A_v) (fun v2 h3 qv2 => ?_)
  obtain ⟨rfl, rfl⟩ := qv2
  show W K l _ n0 _ h0 0 0 26 #[.val (.ref t), .val (.ref vv), .unset, .unset, .unset, .unset] [(.int (own_hs [y0, y1, y2]))]
  refine w_istoreN ok d4_26 (L' := #[.val (.ref t), .val (.ref vv), .val (.int (own_hs [y0, y1, y2])), .unset, .unset, .unset]) rfl ?_
  refine w_aloadN ok d4_27 rfl rfl ?_
  refine w_aloadN ok d4_28 rfl rfl ?_
  refine w_iloadN ok d4_29 rfl ?_
  refine w_callP ok (y := (⟨"com/example/hornconv/hornconv/FactTable", "find", "([II)I"⟩ : MethodName)) (a := t) (argsL := [(.ref vv), (.int (own_hs [y0, y1, y2]))]) (rest := []) d4_30 (hw _ (List.mem_of_getElem? (i := 42) rfl)) (hw _ (List.mem_of_getElem? (i := 43) rfl)) (hw _ (List.mem_of_getElem? (i := 44) rfl)) (hw _ (List.mem_of_getElem? (i := 2) rfl)) (hw _ (List.mem_of_getElem? (i := 3) rfl)) (hw _ (List.mem_of_getElem? (i := 45) rfl)) (by decide) A_t.1 pd_285bII29I rfl rfl (by decide) (Nat.le_of_ble_eq_true rfl) (by decide) (by decide) (fun z0 => rm_find l Z a0 hw [] n0 h0 z0 t vv un me ag de sl po (0 : Int32) lv us x0 x1 x2 x3 x4 x5 x6 x7 x8 x9 x10 x11 y0 y1 y2 f (own_hs [y0, y1, y2]) A_t A_ag A_v A_sl hR hN) (fun v4 h5 qv4 => ?_)
  obtain ⟨r, hr8, rfl, hF, rfl⟩ := qv4
  show W K l _ n0 _ h0 0 0 33 #[.val (.ref t), .val (.ref vv), .val (.int (own_hs [y0, y1, y2])), .unset, .unset, .unset] [(.int (Int32.ofNat r))]
  refine w_istoreN ok d4_33 (L' := #[.val (.ref t), .val (.ref vv), .val (.int (own_hs [y0, y1, y2])), .val (.int (Int32.ofNat r)), .unset, .unset]) rfl ?_
  refine w_aloadN ok d4_34 rfl rfl ?_
  refine w_getfield ok (v := (.ref sl)) (host := "") (f := ("com/example/hornconv/hornconv/FactTable", "slots", "[I", (.array .int))) 5 d4_35 (Or.inl (hw _ (List.mem_of_getElem? (i := 22) rfl))) Via.refl A_t rfl rfl ?_
  refine w_iloadN ok d4_38 rfl ?_
  refine w_iaload ok (v := (.int (f r))) d4_39 A_sl (own_nn (own_ofNat (by omega))) (by rw [own_clamp (own_ofNat (j := r) (by omega))]; exact sv_get hr8) ?_
  refine w_if_lt ok d4_40 (pc' := 45) (by decide) (fun hc7 => ?_) (fun hc7 => ?_)
  · show W K l _ n0 _ h0 0 0 45 #[.val (.ref t), .val (.ref vv), .val (.int (own_hs [y0, y1, y2])), .val (.int (Int32.ofNat r)), .unset, .unset] []
    refine w_aloadN ok d4_45 rfl rfl ?_
    refine w_getfield ok (v := (.int (0 : Int32))) (host := "") (f := ("com/example/hornconv/hornconv/FactTable", "rows", "I", .int)) 7 d4_46 (Or.inl (hw _ (List.mem_of_getElem? (i := 46) rfl))) Via.refl A_t rfl rfl ?_
    refine w_istore ok d4_49 (L' := #[.val (.ref t), .val (.ref vv), .val (.int (own_hs [y0, y1, y2])), .val (.int (Int32.ofNat r)), .val (.int (0 : Int32)), .unset]) rfl ?_
    refine w_iload ok d4_51 rfl ?_
    refine w_aloadN ok d4_53 rfl rfl ?_
    refine w_getfield ok (v := (.ref de)) (host := "") (f := ("com/example/hornconv/hornconv/FactTable", "dead", "[Z", (.array .boolean))) 4 d4_54 (Or.inl (hw _ (List.mem_of_getElem? (i := 20) rfl))) Via.refl A_t rfl rfl ?_
    refine w_arraylength ok (z := (4 : Int32)) d4_57 A_de rfl (by decide) ?_
    show W K l _ n0 _ h0 0 0 58 #[.val (.ref t), .val (.ref vv), .val (.int (own_hs [y0, y1, y2])), .val (.int (Int32.ofNat r)), .val (.int (0 : Int32)), .unset] [(.int (4 : Int32)), (.int (0 : Int32))]
    refine w_icmp_ne ok d4_58 (pc' := 96) (by decide) (fun hc9 => ?_) (fun hc9 => False.elim (by revert hc9; decide))
    show W K l _ n0 _ h0 0 0 96 #[.val (.ref t), .val (.ref vv), .val (.int (own_hs [y0, y1, y2])), .val (.int (Int32.ofNat r)), .val (.int (0 : Int32)), .unset] []
    refine w_aloadN ok d4_96 rfl rfl ?_
    refine w_iconst ok d4_97 (v := (0 : Int32)) rfl ?_
    refine w_aloadN ok d4_98 rfl rfl ?_
    refine w_getfield ok (v := (.ref ag)) (host := "") (f := ("com/example/hornconv/hornconv/FactTable", "arguments", "[I", (.array .int))) 3 d4_99 (Or.inl (hw _ (List.mem_of_getElem? (i := 17) rfl))) Via.refl A_t rfl rfl ?_
    refine w_iload ok d4_102 rfl ?_
    refine w_aloadN ok d4_104 rfl rfl ?_
    refine w_getfield ok (v := (.int (3 : Int32))) (host := "") (f := ("com/example/hornconv/hornconv/FactTable", "arity", "I", .int)) 2 d4_105 (Or.inl (hw _ (List.mem_of_getElem? (i := 15) rfl))) Via.refl A_t rfl rfl ?_
    refine w_imul ok d4_108 ?_
    show W K l _ n0 _ h0 0 0 109 #[.val (.ref t), .val (.ref vv), .val (.int (own_hs [y0, y1, y2])), .val (.int (Int32.ofNat r)), .val (.int (0 : Int32)), .unset] [(.int (0 : Int32)), (.ref ag), (.int (0 : Int32)), (.ref vv)]
    refine w_aloadN ok d4_109 rfl rfl ?_
    refine w_getfield ok (v := (.int (3 : Int32))) (host := "") (f := ("com/example/hornconv/hornconv/FactTable", "arity", "I", .int)) 2 d4_110 (Or.inl (hw _ (List.mem_of_getElem? (i := 15) rfl))) Via.refl A_t rfl rfl ?_
    refine w_arraycopy ok (sp' := 0) (dp' := 0) (nn' := 3) d4_113 (hw _ (List.mem_of_getElem? (i := 48) rfl)) (hw _ (List.mem_of_getElem? (i := 51) rfl)) (hw _ (List.mem_of_getElem? (i := 49) rfl)) (hw _ (List.mem_of_getElem? (i := 50) rfl)) A_v A_ag rfl ge_ag (by decide) (by decide) (by decide) rfl rfl rfl (Nat.le_of_ble_eq_true rfl) (Nat.le_of_ble_eq_true rfl) rfl (by decide) (Nat.le_of_ble_eq_true rfl) (fun h10 K_h10 A1_h10 => ?_)
    replace Kp := Kp.trans K_h10 (allS (Or.inl (by simp)) all0)
    replace A_t := A_t.keep K_h10 (ninS ne_t_ag nin0)
    replace A_de := A_de.keep K_h10 (ninS (Ne.symm ne_ag_de) nin0)
    replace A_sl := A_sl.keep K_h10 (ninS (Ne.symm ne_ag_sl) nin0)
    replace A_po := A_po.keep K_h10 (ninS (Ne.symm ne_ag_po) nin0)
    replace A_v := A_v.keep K_h10 (ninS (Ne.symm ne_ag_vv) nin0)
    replace A_ag : PA .int Z h10 ag [(.int y0), (.int y1), (.int y2), (.int x3), (.int x4), (.int x5), (.int x6), (.int x7), (.int x8), (.int x9), (.int x10), (.int x11)] := A1_h10
    show W K l _ n0 _ h10 0 0 116 #[.val (.ref t), .val (.ref vv), .val (.int (own_hs [y0, y1, y2])), .val (.int (Int32.ofNat r)), .val (.int (0 : Int32)), .unset] []
    refine w_aloadN ok d4_116 rfl rfl ?_
    refine w_dup ok d4_117 rfl ?_
    refine w_getfield ok (v := (.int (0 : Int32))) (host := "") (f := ("com/example/hornconv/hornconv/FactTable", "rows", "I", .int)) 7 d4_118 (Or.inl (hw _ (List.mem_of_getElem? (i := 46) rfl))) Via.refl A_t rfl rfl ?_
    refine w_iconst ok d4_121 (v := (1 : Int32)) rfl ?_
    refine w_iadd ok d4_122 ?_
    show W K l _ n0 _ h10 0 0 123 #[.val (.ref t), .val (.ref vv), .val (.int (own_hs [y0, y1, y2])), .val (.int (Int32.ofNat r)), .val (.int (0 : Int32)), .unset] [(.int (1 : Int32)), (.ref t)]
    refine w_putfield ok (host := "") (f := ("com/example/hornconv/hornconv/FactTable", "rows", "I", .int)) 7 d4_123 (Or.inl (hw _ (List.mem_of_getElem? (i := 46) rfl))) Via.refl A_t (la_FactTable hw) rfl rfl (Or.inl (hw _ (List.mem_of_getElem? (i := 47) rfl))) (hw _ (List.mem_of_getElem? (i := 2) rfl)) rfl rfl ge_t (fun h11 W_h11 A1_h11 => ?_)
    replace Kp := Kp.wr W_h11 (Or.inl (by simp))
    replace A_ag := A_ag.other W_h11 (Ne.symm ne_t_ag)
    replace A_de := A_de.other W_h11 (Ne.symm ne_t_de)
    replace A_sl := A_sl.other W_h11 (Ne.symm ne_t_sl)
    replace A_po := A_po.other W_h11 (Ne.symm ne_t_po)
    replace A_v := A_v.other W_h11 (Ne.symm ne_t_vv)
    replace A_t : Ob Z h11 t "com/example/hornconv/hornconv/FactTable" fl_FactTable [(.ref un), (.ref me), (.int (3 : Int32)), (.ref ag), (.ref de), (.ref sl), (.ref po), (.int (1 : Int32)), (.int lv), (.int us)] := A1_h11
    refine w_aloadN ok d4_126 rfl rfl ?_
    refine w_dup ok d4_127 rfl ?_
    refine w_getfield ok (v := (.int lv)) (host := "") (f := ("com/example/hornconv/hornconv/FactTable", "live", "I", .int)) 8 d4_128 (Or.inl (hw _ (List.mem_of_getElem? (i := 52) rfl))) Via.refl A_t rfl rfl ?_
    refine w_iconst ok d4_131 (v := (1 : Int32)) rfl ?_
    refine w_iadd ok d4_132 ?_
    refine w_putfield ok (host := "") (f := ("com/example/hornconv/hornconv/FactTable", "live", "I", .int)) 8 d4_133 (Or.inl (hw _ (List.mem_of_getElem? (i := 52) rfl))) Via.refl A_t (la_FactTable hw) rfl rfl (Or.inl (hw _ (List.mem_of_getElem? (i := 53) rfl))) (hw _ (List.mem_of_getElem? (i := 2) rfl)) rfl rfl ge_t (fun h12 W_h12 A1_h12 => ?_)
    replace Kp := Kp.wr W_h12 (Or.inl (by simp))
    replace A_ag := A_ag.other W_h12 (Ne.symm ne_t_ag)
    replace A_de := A_de.other W_h12 (Ne.symm ne_t_de)
    replace A_sl := A_sl.other W_h12 (Ne.symm ne_t_sl)
    replace A_po := A_po.other W_h12 (Ne.symm ne_t_po)
    replace A_v := A_v.other W_h12 (Ne.symm ne_t_vv)
    replace A_t : Ob Z h12 t "com/example/hornconv/hornconv/FactTable" fl_FactTable [(.ref un), (.ref me), (.int (3 : Int32)), (.ref ag), (.ref de), (.ref sl), (.ref po), (.int (1 : Int32)), (.int (lv + (1 : Int32))), (.int us)] := A1_h12
    refine w_aloadN ok d4_136 rfl rfl ?_
    refine w_getfield ok (v := (.int (3 : Int32))) (host := "") (f := ("com/example/hornconv/hornconv/FactTable", "arity", "I", .int)) 2 d4_137 (Or.inl (hw _ (List.mem_of_getElem? (i := 15) rfl))) Via.refl A_t rfl rfl ?_
    refine w_iconst ok d4_140 (v := (1 : Int32)) rfl ?_
    refine w_icmp_ne ok d4_141 (pc' := 152) (by decide) (fun hc14 => ?_) (fun hc14 => False.elim (by revert hc14; decide))
    show W K l _ n0 _ h12 0 0 152 #[.val (.ref t), .val (.ref vv), .val (.int (own_hs [y0, y1, y2])), .val (.int (Int32.ofNat r)), .val (.int (0 : Int32)), .unset] []
    refine w_iconst ok d4_152 (v := (0 : Int32)) rfl ?_
    refine w_istore ok d4_153 (L' := #[.val (.ref t), .val (.ref vv), .val (.int (own_hs [y0, y1, y2])), .val (.int (Int32.ofNat r)), .val (.int (0 : Int32)), .val (.int (0 : Int32))]) rfl ?_
    refine w_iload ok d4_155 rfl ?_
    refine w_aloadN ok d4_157 rfl rfl ?_
    refine w_getfield ok (v := (.ref po)) (host := "") (f := ("com/example/hornconv/hornconv/FactTable", "positions", "[Lcom/example/hornconv/hornconv/FactTable$PositionIndex;", (.array (.object "com/example/hornconv/hornconv/FactTable$PositionIndex")))) 6 d4_158 (Or.inl (hw _ (List.mem_of_getElem? (i := 30) rfl))) Via.refl A_t rfl rfl ?_
    refine w_arraylength ok (z := (3 : Int32)) d4_161 A_po rfl (by decide) ?_
    show W K l _ n0 _ h12 0 0 162 #[.val (.ref t), .val (.ref vv), .val (.int (own_hs [y0, y1, y2])), .val (.int (Int32.ofNat r)), .val (.int (0 : Int32)), .val (.int (0 : Int32))] [(.int (3 : Int32)), (.int (0 : Int32))]
    refine w_icmp_ge ok d4_162 (pc' := 197) (by decide) (fun hc16 => False.elim (by revert hc16; decide)) (fun hc16 => ?_)
    show W K l _ n0 _ h12 0 0 165 #[.val (.ref t), .val (.ref vv), .val (.int (own_hs [y0, y1, y2])), .val (.int (Int32.ofNat r)), .val (.int (0 : Int32)), .val (.int (0 : Int32))] []
    refine w_aloadN ok d4_165 rfl rfl ?_
    refine w_getfield ok (v := (.ref po)) (host := "") (f := ("com/example/hornconv/hornconv/FactTable", "positions", "[Lcom/example/hornconv/hornconv/FactTable$PositionIndex;", (.array (.object "com/example/hornconv/hornconv/FactTable$PositionIndex")))) 6 d4_166 (Or.inl (hw _ (List.mem_of_getElem? (i := 30) rfl))) Via.refl A_t rfl rfl ?_
    refine w_iload ok d4_169 rfl ?_
    refine w_aaload ok (v := .null) d4_171 A_po rfl (by decide) rfl ?_
    refine w_ifnullY ok d4_172 (pc' := 191) (by decide) ?_
    show W K l _ n0 _ h12 0 0 191 #[.val (.ref t), .val (.ref vv), .val (.int (own_hs [y0, y1, y2])), .val (.int (Int32.ofNat r)), .val (.int (0 : Int32)), .val (.int (0 : Int32))] []
    refine w_iinc ok d4_191 (u := (1 : Int32)) rfl rfl (L' := #[.val (.ref t), .val (.ref vv), .val (.int (own_hs [y0, y1, y2])), .val (.int (Int32.ofNat r)), .val (.int (0 : Int32)), .val (.int (1 : Int32))]) rfl ?_
    show W K l _ n0 _ h12 0 0 194 #[.val (.ref t), .val (.ref vv), .val (.int (own_hs [y0, y1, y2])), .val (.int (Int32.ofNat r)), .val (.int (0 : Int32)), .val (.int (1 : Int32))] []
    refine w_goto ok d4_194 (pc' := 155) (by decide) ?_
    refine w_iload ok d4_155 rfl ?_
    refine w_aloadN ok d4_157 rfl rfl ?_
    refine w_getfield ok (v := (.ref po)) (host := "") (f := ("com/example/hornconv/hornconv/FactTable", "positions", "[Lcom/example/hornconv/hornconv/FactTable$PositionIndex;", (.array (.object "com/example/hornconv/hornconv/FactTable$PositionIndex")))) 6 d4_158 (Or.inl (hw _ (List.mem_of_getElem? (i := 30) rfl))) Via.refl A_t rfl rfl ?_
    refine w_arraylength ok (z := (3 : Int32)) d4_161 A_po rfl (by decide) ?_
    show W K l _ n0 _ h12 0 0 162 #[.val (.ref t), .val (.ref vv), .val (.int (own_hs [y0, y1, y2])), .val (.int (Int32.ofNat r)), .val (.int (0 : Int32)), .val (.int (1 : Int32))] [(.int (3 : Int32)), (.int (1 : Int32))]
    refine w_icmp_ge ok d4_162 (pc' := 197) (by decide) (fun hc18 => False.elim (by revert hc18; decide)) (fun hc18 => ?_)
    show W K l _ n0 _ h12 0 0 165 #[.val (.ref t), .val (.ref vv), .val (.int (own_hs [y0, y1, y2])), .val (.int (Int32.ofNat r)), .val (.int (0 : Int32)), .val (.int (1 : Int32))] []
    refine w_aloadN ok d4_165 rfl rfl ?_
    refine w_getfield ok (v := (.ref po)) (host := "") (f := ("com/example/hornconv/hornconv/FactTable", "positions", "[Lcom/example/hornconv/hornconv/FactTable$PositionIndex;", (.array (.object "com/example/hornconv/hornconv/FactTable$PositionIndex")))) 6 d4_166 (Or.inl (hw _ (List.mem_of_getElem? (i := 30) rfl))) Via.refl A_t rfl rfl ?_
    refine w_iload ok d4_169 rfl ?_
    refine w_aaload ok (v := .null) d4_171 A_po rfl (by decide) rfl ?_
    refine w_ifnullY ok d4_172 (pc' := 191) (by decide) ?_
    show W K l _ n0 _ h12 0 0 191 #[.val (.ref t), .val (.ref vv), .val (.int (own_hs [y0, y1, y2])), .val (.int (Int32.ofNat r)), .val (.int (0 : Int32)), .val (.int (1 : Int32))] []
    refine w_iinc ok d4_191 (u := (1 : Int32)) rfl rfl (L' := #[.val (.ref t), .val (.ref vv), .val (.int (own_hs [y0, y1, y2])), .val (.int (Int32.ofNat r)), .val (.int (0 : Int32)), .val (.int (2 : Int32))]) rfl ?_
    show W K l _ n0 _ h12 0 0 194 #[.val (.ref t), .val (.ref vv), .val (.int (own_hs [y0, y1, y2])), .val (.int (Int32.ofNat r)), .val (.int (0 : Int32)), .val (.int (2 : Int32))] []
    refine w_goto ok d4_194 (pc' := 155) (by decide) ?_
    refine w_iload ok d4_155 rfl ?_
    refine w_aloadN ok d4_157 rfl rfl ?_
    refine w_getfield ok (v := (.ref po)) (host := "") (f := ("com/example/hornconv/hornconv/FactTable", "positions", "[Lcom/example/hornconv/hornconv/FactTable$PositionIndex;", (.array (.object "com/example/hornconv/hornconv/FactTable$PositionIndex")))) 6 d4_158 (Or.inl (hw _ (List.mem_of_getElem? (i := 30) rfl))) Via.refl A_t rfl rfl ?_
    refine w_arraylength ok (z := (3 : Int32)) d4_161 A_po rfl (by decide) ?_
    show W K l _ n0 _ h12 0 0 162 #[.val (.ref t), .val (.ref vv), .val (.int (own_hs [y0, y1, y2])), .val (.int (Int32.ofNat r)), .val (.int (0 : Int32)), .val (.int (2 : Int32))] [(.int (3 : Int32)), (.int (2 : Int32))]
    refine w_icmp_ge ok d4_162 (pc' := 197) (by decide) (fun hc20 => False.elim (by revert hc20; decide)) (fun hc20 => ?_)
    show W K l _ n0 _ h12 0 0 165 #[.val (.ref t), .val (.ref vv), .val (.int (own_hs [y0, y1, y2])), .val (.int (Int32.ofNat r)), .val (.int (0 : Int32)), .val (.int (2 : Int32))] []
    refine w_aloadN ok d4_165 rfl rfl ?_
    refine w_getfield ok (v := (.ref po)) (host := "") (f := ("com/example/hornconv/hornconv/FactTable", "positions", "[Lcom/example/hornconv/hornconv/FactTable$PositionIndex;", (.array (.object "com/example/hornconv/hornconv/FactTable$PositionIndex")))) 6 d4_166 (Or.inl (hw _ (List.mem_of_getElem? (i := 30) rfl))) Via.refl A_t rfl rfl ?_
    refine w_iload ok d4_169 rfl ?_
    refine w_aaload ok (v := .null) d4_171 A_po rfl (by decide) rfl ?_
    refine w_ifnullY ok d4_172 (pc' := 191) (by decide) ?_
    show W K l _ n0 _ h12 0 0 191 #[.val (.ref t), .val (.ref vv), .val (.int (own_hs [y0, y1, y2])), .val (.int (Int32.ofNat r)), .val (.int (0 : Int32)), .val (.int (2 : Int32))] []
    refine w_iinc ok d4_191 (u := (1 : Int32)) rfl rfl (L' := #[.val (.ref t), .val (.ref vv), .val (.int (own_hs [y0, y1, y2])), .val (.int (Int32.ofNat r)), .val (.int (0 : Int32)), .val (.int (3 : Int32))]) rfl ?_
    show W K l _ n0 _ h12 0 0 194 #[.val (.ref t), .val (.ref vv), .val (.int (own_hs [y0, y1, y2])), .val (.int (Int32.ofNat r)), .val (.int (0 : Int32)), .val (.int (3 : Int32))] []
    refine w_goto ok d4_194 (pc' := 155) (by decide) ?_
    refine w_iload ok d4_155 rfl ?_
    refine w_aloadN ok d4_157 rfl rfl ?_
    refine w_getfield ok (v := (.ref po)) (host := "") (f := ("com/example/hornconv/hornconv/FactTable", "positions", "[Lcom/example/hornconv/hornconv/FactTable$PositionIndex;", (.array (.object "com/example/hornconv/hornconv/FactTable$PositionIndex")))) 6 d4_158 (Or.inl (hw _ (List.mem_of_getElem? (i := 30) rfl))) Via.refl A_t rfl rfl ?_
    refine w_arraylength ok (z := (3 : Int32)) d4_161 A_po rfl (by decide) ?_
    show W K l _ n0 _ h12 0 0 162 #[.val (.ref t), .val (.ref vv), .val (.int (own_hs [y0, y1, y2])), .val (.int (Int32.ofNat r)), .val (.int (0 : Int32)), .val (.int (3 : Int32))] [(.int (3 : Int32)), (.int (3 : Int32))]
    refine w_icmp_ge ok d4_162 (pc' := 197) (by decide) (fun hc22 => ?_) (fun hc22 => False.elim (by revert hc22; decide))
    show W K l _ n0 _ h12 0 0 197 #[.val (.ref t), .val (.ref vv), .val (.int (own_hs [y0, y1, y2])), .val (.int (Int32.ofNat r)), .val (.int (0 : Int32)), .val (.int (3 : Int32))] []
    refine w_aloadN ok d4_197 rfl rfl ?_
    refine w_getfield ok (v := (.ref sl)) (host := "") (f := ("com/example/hornconv/hornconv/FactTable", "slots", "[I", (.array .int))) 5 d4_198 (Or.inl (hw _ (List.mem_of_getElem? (i := 22) rfl))) Via.refl A_t rfl rfl ?_
    refine w_iloadN ok d4_201 rfl ?_
    refine w_iaload ok (v := (.int (f r))) d4_202 A_sl (own_nn (own_ofNat (by omega))) (by rw [own_clamp (own_ofNat (j := r) (by omega))]; exact sv_get hr8) ?_
    refine w_iconst ok d4_203 (v := (-1 : Int32)) rfl ?_
    refine w_icmp_ne ok d4_204 (pc' := 217) (by decide) (fun hc24 => ?_) (fun hc24 => ?_)
    · show W K l _ n0 _ h12 0 0 217 #[.val (.ref t), .val (.ref vv), .val (.int (own_hs [y0, y1, y2])), .val (.int (Int32.ofNat r)), .val (.int (0 : Int32)), .val (.int (3 : Int32))] []
      refine w_aloadN ok d4_217 rfl rfl ?_
      refine w_getfield ok (v := (.ref sl)) (host := "") (f := ("com/example/hornconv/hornconv/FactTable", "slots", "[I", (.array .int))) 5 d4_218 (Or.inl (hw _ (List.mem_of_getElem? (i := 22) rfl))) Via.refl A_t rfl rfl ?_
      refine w_iloadN ok d4_221 rfl ?_
      refine w_iload ok d4_222 rfl ?_
      refine w_iastore ok d4_224 A_sl ge_sl (own_nn (own_ofNat (by omega))) (by rw [own_clamp (own_ofNat (j := r) (by omega)), sv_len]; exact hr8) (fun h25 W_h25 A1_h25 => ?_)
      replace Kp := Kp.wr W_h25 (Or.inl (by simp))
      replace A_t := A_t.other W_h25 ne_t_sl
      replace A_ag := A_ag.other W_h25 ne_ag_sl
      replace A_de := A_de.other W_h25 ne_de_sl
      replace A_po := A_po.other W_h25 (Ne.symm ne_sl_po)
      replace A_v := A_v.other W_h25 (Ne.symm ne_sl_vv)
      replace A_sl : PA .int Z h25 sl ((sv 8 f).set (Int32.ofNat r).toNatClampNeg (.int (0 : Int32))) := A1_h25
      rw [own_clamp (own_ofNat (j := r) (by omega)), sv_set] at A_sl
      refine w_iconst ok d4_225 (v := (2 : Int32)) rfl ?_
      refine w_aloadN ok d4_226 rfl rfl ?_
      refine w_getfield ok (v := (.int us)) (host := "") (f := ("com/example/hornconv/hornconv/FactTable", "used", "I", .int)) 9 d4_227 (Or.inl (hw _ (List.mem_of_getElem? (i := 54) rfl))) Via.refl A_t rfl rfl ?_
      refine w_imul ok d4_230 ?_
      refine w_aloadN ok d4_231 rfl rfl ?_
      refine w_getfield ok (v := (.ref sl)) (host := "") (f := ("com/example/hornconv/hornconv/FactTable", "slots", "[I", (.array .int))) 5 d4_232 (Or.inl (hw _ (List.mem_of_getElem? (i := 22) rfl))) Via.refl A_t rfl rfl ?_
      refine w_arraylength ok (z := (8 : Int32)) d4_235 A_sl (sv_len 8 _) (by decide) ?_
      show W K l _ n0 _ h25 0 0 236 #[.val (.ref t), .val (.ref vv), .val (.int (own_hs [y0, y1, y2])), .val (.int (Int32.ofNat r)), .val (.int (0 : Int32)), .val (.int (3 : Int32))] [(.int (8 : Int32)), (.int ((2 : Int32) * us))]
      refine w_icmp_le ok d4_236 (pc' := 243) (by decide) (fun hc27 => ?_) (fun hc27 => False.elim (by exact own_2us hus hc27))
      show W K l _ n0 _ h25 0 0 243 #[.val (.ref t), .val (.ref vv), .val (.int (own_hs [y0, y1, y2])), .val (.int (Int32.ofNat r)), .val (.int (0 : Int32)), .val (.int (3 : Int32))] []
      refine w_iload ok d4_243 rfl ?_
      refine w_iret ok d4_245 (by decide) (by decide) ?_
      rcases hF with hF | hF
      · exact absurd hc7 hF.1
      · exact Or.inr ⟨rfl, r, us, hr8, hF, own_us0 hus, Kp, A_t, A_ag, A_sl⟩
    · show W K l _ n0 _ h12 0 0 207 #[.val (.ref t), .val (.ref vv), .val (.int (own_hs [y0, y1, y2])), .val (.int (Int32.ofNat r)), .val (.int (0 : Int32)), .val (.int (3 : Int32))] []
      refine w_aloadN ok d4_207 rfl rfl ?_
      refine w_dup ok d4_208 rfl ?_
      refine w_getfield ok (v := (.int us)) (host := "") (f := ("com/example/hornconv/hornconv/FactTable", "used", "I", .int)) 9 d4_209 (Or.inl (hw _ (List.mem_of_getElem? (i := 54) rfl))) Via.refl A_t rfl rfl ?_
      refine w_iconst ok d4_212 (v := (1 : Int32)) rfl ?_
      refine w_iadd ok d4_213 ?_
      refine w_putfield ok (host := "") (f := ("com/example/hornconv/hornconv/FactTable", "used", "I", .int)) 9 d4_214 (Or.inl (hw _ (List.mem_of_getElem? (i := 54) rfl))) Via.refl A_t (la_FactTable hw) rfl rfl (Or.inl (hw _ (List.mem_of_getElem? (i := 55) rfl))) (hw _ (List.mem_of_getElem? (i := 2) rfl)) rfl rfl ge_t (fun h28 W_h28 A1_h28 => ?_)
      replace Kp := Kp.wr W_h28 (Or.inl (by simp))
      replace A_ag := A_ag.other W_h28 (Ne.symm ne_t_ag)
      replace A_de := A_de.other W_h28 (Ne.symm ne_t_de)
      replace A_sl := A_sl.other W_h28 (Ne.symm ne_t_sl)
      replace A_po := A_po.other W_h28 (Ne.symm ne_t_po)
      replace A_v := A_v.other W_h28 (Ne.symm ne_t_vv)
      replace A_t : Ob Z h28 t "com/example/hornconv/hornconv/FactTable" fl_FactTable [(.ref un), (.ref me), (.int (3 : Int32)), (.ref ag), (.ref de), (.ref sl), (.ref po), (.int (1 : Int32)), (.int (lv + (1 : Int32))), (.int (us + (1 : Int32)))] := A1_h28
      refine w_aloadN ok d4_217 rfl rfl ?_
      refine w_getfield ok (v := (.ref sl)) (host := "") (f := ("com/example/hornconv/hornconv/FactTable", "slots", "[I", (.array .int))) 5 d4_218 (Or.inl (hw _ (List.mem_of_getElem? (i := 22) rfl))) Via.refl A_t rfl rfl ?_
      refine w_iloadN ok d4_221 rfl ?_
      refine w_iload ok d4_222 rfl ?_
      refine w_iastore ok d4_224 A_sl ge_sl (own_nn (own_ofNat (by omega))) (by rw [own_clamp (own_ofNat (j := r) (by omega)), sv_len]; exact hr8) (fun h29 W_h29 A1_h29 => ?_)
      replace Kp := Kp.wr W_h29 (Or.inl (by simp))
      replace A_t := A_t.other W_h29 ne_t_sl
      replace A_ag := A_ag.other W_h29 ne_ag_sl
      replace A_de := A_de.other W_h29 ne_de_sl
      replace A_po := A_po.other W_h29 (Ne.symm ne_sl_po)
      replace A_v := A_v.other W_h29 (Ne.symm ne_sl_vv)
      replace A_sl : PA .int Z h29 sl ((sv 8 f).set (Int32.ofNat r).toNatClampNeg (.int (0 : Int32))) := A1_h29
      rw [own_clamp (own_ofNat (j := r) (by omega)), sv_set] at A_sl
      refine w_iconst ok d4_225 (v := (2 : Int32)) rfl ?_
      refine w_aloadN ok d4_226 rfl rfl ?_
      refine w_getfield ok (v := (.int (us + (1 : Int32)))) (host := "") (f := ("com/example/hornconv/hornconv/FactTable", "used", "I", .int)) 9 d4_227 (Or.inl (hw _ (List.mem_of_getElem? (i := 54) rfl))) Via.refl A_t rfl rfl ?_
      refine w_imul ok d4_230 ?_
      refine w_aloadN ok d4_231 rfl rfl ?_
      refine w_getfield ok (v := (.ref sl)) (host := "") (f := ("com/example/hornconv/hornconv/FactTable", "slots", "[I", (.array .int))) 5 d4_232 (Or.inl (hw _ (List.mem_of_getElem? (i := 22) rfl))) Via.refl A_t rfl rfl ?_
      refine w_arraylength ok (z := (8 : Int32)) d4_235 A_sl (sv_len 8 _) (by decide) ?_
      show W K l _ n0 _ h29 0 0 236 #[.val (.ref t), .val (.ref vv), .val (.int (own_hs [y0, y1, y2])), .val (.int (Int32.ofNat r)), .val (.int (0 : Int32)), .val (.int (3 : Int32))] [(.int (8 : Int32)), (.int ((2 : Int32) * (us + (1 : Int32))))]
      refine w_icmp_le ok d4_236 (pc' := 243) (by decide) (fun hc31 => ?_) (fun hc31 => False.elim (by exact own_2us1 hus hc31))
      show W K l _ n0 _ h29 0 0 243 #[.val (.ref t), .val (.ref vv), .val (.int (own_hs [y0, y1, y2])), .val (.int (Int32.ofNat r)), .val (.int (0 : Int32)), .val (.int (3 : Int32))] []
      refine w_iload ok d4_243 rfl ?_
      refine w_iret ok d4_245 (by decide) (by decide) ?_
      rcases hF with hF | hF
      · exact absurd hc7 hF.1
      · exact Or.inr ⟨rfl, r, (us + (1 : Int32)), hr8, hF, own_us1 hus, Kp, A_t, A_ag, A_sl⟩
  · show W K l _ n0 _ h0 0 0 43 #[.val (.ref t), .val (.ref vv), .val (.int (own_hs [y0, y1, y2])), .val (.int (Int32.ofNat r)), .unset, .unset] []
    refine w_iconst ok d4_43 (v := (-1 : Int32)) rfl ?_
    refine w_iret ok d4_44 (by decide) (by decide) ?_
    rcases hF with hF | hF
    · exact Or.inl ⟨rfl, rfl, r, hr8, hF.1, hF.2⟩
    · exact absurd hF.1 hc7
set_option maxRecDepth 65536 in
set_option maxHeartbeats 40000000 in
theorem rm_add1 (l : Launch) (Z : State) (a0 : Array Value) (hw : ∀ d ∈ tables_1, d.before a0 Z = true) (ws : List Jvm.Cond) (n0 : Nat) (h0 : Heap) (Z0 : Old Z n0 h0) (t vv un me ag de sl po : Addr) (lv us : Int32) (x0 x1 x2 x3 x4 x5 x6 x7 x8 x9 x10 x11 d0 d1 d2 d3 y0 y1 y2 : Int32) (f : Nat → Int32) (A_t : Ob Z h0 t "com/example/hornconv/hornconv/FactTable" fl_FactTable [(.ref un), (.ref me), (.int (3 : Int32)), (.ref ag), (.ref de), (.ref sl), (.ref po), (.int (1 : Int32)), (.int lv), (.int us)]) (A_ag : PA .int Z h0 ag [(.int x0), (.int x1), (.int x2), (.int x3), (.int x4), (.int x5), (.int x6), (.int x7), (.int x8), (.int x9), (.int x10), (.int x11)]) (A_de : PA .boolean Z h0 de [(.int d0), (.int d1), (.int d2), (.int d3)]) (A_sl : PA .int Z h0 sl (sv 8 f)) (A_po : PA (.object "com/example/hornconv/hornconv/FactTable$PositionIndex") Z h0 po [.null, .null, .null]) (A_v : PA .int Z h0 vv [(.int y0), (.int y1), (.int y2)]) (ge_t : n0 ≤ t) (ge_ag : n0 ≤ ag) (ge_sl : n0 ≤ sl) (ne_t_ag : t ≠ ag) (ne_t_de : t ≠ de) (ne_t_sl : t ≠ sl) (ne_t_po : t ≠ po) (ne_t_vv : t ≠ vv) (ne_ag_de : ag ≠ de) (ne_ag_sl : ag ≠ sl) (ne_ag_po : ag ≠ po) (ne_ag_vv : ag ≠ vv) (ne_de_sl : de ≠ sl) (ne_sl_po : sl ≠ po) (ne_sl_vv : sl ≠ vv) (hR : Rw f) (hN : ∀ s, ∃ m, f ((s + m) % 8) = -1) (hus : 0 ≤ us.toInt ∧ us.toInt ≤ 3)  :
    Met l Z n0 (⟨"com/example/hornconv/hornconv/FactTable", "add", "([I)I"⟩ : MethodName) prog_3_method_7_code 6 (some .int) ws ({ frames := 2, cells := 0, slots := 0, locals := 35 } : Room) #[(.ref t), (.ref vv)] h0 (fun u h => (u = some (.int (-1)) ∧ h0 = h ∧ ∃ r, r < 8 ∧ ¬ f r < 0 ∧ (fun k => own_eqr 3 [x0, x1, x2, x3, x4, x5, x6, x7, x8, x9, x10, x11] [y0, y1, y2] k = 1) (f r).toNatClampNeg) ∨ (u = some (.int 1) ∧ ∃ r us', r < 8 ∧ (f r < 0 ∧ ∃ m i, f (((own_hs [y0, y1, y2] &&& 7).toNatClampNeg + m) % 8) = -1 ∧ (∀ j, j < m → f (((own_hs [y0, y1, y2] &&& 7).toNatClampNeg + j) % 8) ≠ -1 ∧ ¬ (¬ f (((own_hs [y0, y1, y2] &&& 7).toNatClampNeg + j) % 8) < 0 ∧ (fun k => own_eqr 3 [x0, x1, x2, x3, x4, x5, x6, x7, x8, x9, x10, x11] [y0, y1, y2] k = 1) (f (((own_hs [y0, y1, y2] &&& 7).toNatClampNeg + j) % 8)).toNatClampNeg)) ∧ i ≤ m ∧ r = ((own_hs [y0, y1, y2] &&& 7).toNatClampNeg + i) % 8) ∧ (0 ≤ us'.toInt ∧ us'.toInt ≤ us.toInt + 1) ∧ Keep h0 h [t, ag, sl] ∧ Ob Z h t "com/example/hornconv/hornconv/FactTable" fl_FactTable [(.ref un), (.ref me), (.int (3 : Int32)), (.ref ag), (.ref de), (.ref sl), (.ref po), (.int (2 : Int32)), (.int (lv + 1)), (.int us')] ∧ PA .int Z h ag [(.int x0), (.int x1), (.int x2), (.int y0), (.int y1), (.int y2), (.int x6), (.int x7), (.int x8), (.int x9), (.int x10), (.int x11)] ∧ PA .int Z h sl (sv 8 (upd f r 1)))) := by
  refine met_of Z0 (plainFor_of_name pn_com_example_hornconv_hornconv_FactTable) (Ls := #[.val (.ref t), .val (.ref vv), .unset, .unset, .unset, .unset]) (fun m => by first | (simp [entryFrame, mkF, argsToLocals, Value.category]; done) | rfl) ?_
  intro K ok
  have Kp : Keep h0 h0 [t, ag, sl] := Keep.refl _ _
  show W K l _ n0 _ h0 0 0 0 #[.val (.ref t), .val (.ref vv), .unset, .unset, .unset, .unset] []
  refine w_aloadN ok d4_0 rfl rfl ?_
  refine w_getfield ok (v := (.int (3 : Int32))) (host := "") (f := ("com/example/hornconv/hornconv/FactTable", "arity", "I", .int)) 2 d4_1 (Or.inl (hw _ (List.mem_of_getElem? (i := 15) rfl))) Via.refl A_t rfl rfl ?_
  refine w_iconst ok d4_4 (v := (1 : Int32)) rfl ?_
  refine w_icmp_ne ok d4_5 (pc' := 20) (by decide) (fun hc1 => ?_) (fun hc1 => False.elim (by revert hc1; decide))
  show W K l _ n0 _ h0 0 0 20 #[.val (.ref t), .val (.ref vv), .unset, .unset, .unset, .unset] []
  refine w_aloadN ok d4_20 rfl rfl ?_
  refine w_aloadN ok d4_21 rfl rfl ?_
  refine w_iconst ok d4_22 (v := (0 : Int32)) rfl ?_
  refine w_callP ok (y := (⟨"com/example/hornconv/hornconv/FactTable", "hash", "([II)I"⟩ : MethodName)) (a := t) (argsL := [(.ref vv), (.int (0 : Int32))]) (rest := []) d4_23 (hw _ (List.mem_of_getElem? (i := 37) rfl)) (hw _ (List.mem_of_getElem? (i := 38) rfl)) (hw _ (List.mem_of_getElem? (i := 39) rfl)) (hw _ (List.mem_of_getElem? (i := 2) rfl)) (hw _ (List.mem_of_getElem? (i := 3) rfl)) (hw _ (List.mem_of_getElem? (i := 40) rfl)) (by decide) A_t.1 pd_285bII29I rfl rfl (by decide) (Nat.le_of_ble_eq_true rfl) (by decide) (by decide) (fun z0 => rm_h_3_0 l Z a0 hw [] n0 h0 z0 t vv un me ag de sl po (1 : Int32) lv us y0 y1 y2 A_t A_v) (fun v2 h3 qv2 => ?_)
  obtain ⟨rfl, rfl⟩ := qv2
  show W K l _ n0 _ h0 0 0 26 #[.val (.ref t), .val (.ref vv), .unset, .unset, .unset, .unset] [(.int (own_hs [y0, y1, y2]))]
  refine w_istoreN ok d4_26 (L' := #[.val (.ref t), .val (.ref vv), .val (.int (own_hs [y0, y1, y2])), .unset, .unset, .unset]) rfl ?_
  refine w_aloadN ok d4_27 rfl rfl ?_
  refine w_aloadN ok d4_28 rfl rfl ?_
  refine w_iloadN ok d4_29 rfl ?_
  refine w_callP ok (y := (⟨"com/example/hornconv/hornconv/FactTable", "find", "([II)I"⟩ : MethodName)) (a := t) (argsL := [(.ref vv), (.int (own_hs [y0, y1, y2]))]) (rest := []) d4_30 (hw _ (List.mem_of_getElem? (i := 42) rfl)) (hw _ (List.mem_of_getElem? (i := 43) rfl)) (hw _ (List.mem_of_getElem? (i := 44) rfl)) (hw _ (List.mem_of_getElem? (i := 2) rfl)) (hw _ (List.mem_of_getElem? (i := 3) rfl)) (hw _ (List.mem_of_getElem? (i := 45) rfl)) (by decide) A_t.1 pd_285bII29I rfl rfl (by decide) (Nat.le_of_ble_eq_true rfl) (by decide) (by decide) (fun z0 => rm_find l Z a0 hw [] n0 h0 z0 t vv un me ag de sl po (1 : Int32) lv us x0 x1 x2 x3 x4 x5 x6 x7 x8 x9 x10 x11 y0 y1 y2 f (own_hs [y0, y1, y2]) A_t A_ag A_v A_sl hR hN) (fun v4 h5 qv4 => ?_)
  obtain ⟨r, hr8, rfl, hF, rfl⟩ := qv4
  show W K l _ n0 _ h0 0 0 33 #[.val (.ref t), .val (.ref vv), .val (.int (own_hs [y0, y1, y2])), .unset, .unset, .unset] [(.int (Int32.ofNat r))]
  refine w_istoreN ok d4_33 (L' := #[.val (.ref t), .val (.ref vv), .val (.int (own_hs [y0, y1, y2])), .val (.int (Int32.ofNat r)), .unset, .unset]) rfl ?_
  refine w_aloadN ok d4_34 rfl rfl ?_
  refine w_getfield ok (v := (.ref sl)) (host := "") (f := ("com/example/hornconv/hornconv/FactTable", "slots", "[I", (.array .int))) 5 d4_35 (Or.inl (hw _ (List.mem_of_getElem? (i := 22) rfl))) Via.refl A_t rfl rfl ?_
  refine w_iloadN ok d4_38 rfl ?_
  refine w_iaload ok (v := (.int (f r))) d4_39 A_sl (own_nn (own_ofNat (by omega))) (by rw [own_clamp (own_ofNat (j := r) (by omega))]; exact sv_get hr8) ?_
  refine w_if_lt ok d4_40 (pc' := 45) (by decide) (fun hc7 => ?_) (fun hc7 => ?_)
  · show W K l _ n0 _ h0 0 0 45 #[.val (.ref t), .val (.ref vv), .val (.int (own_hs [y0, y1, y2])), .val (.int (Int32.ofNat r)), .unset, .unset] []
    refine w_aloadN ok d4_45 rfl rfl ?_
    refine w_getfield ok (v := (.int (1 : Int32))) (host := "") (f := ("com/example/hornconv/hornconv/FactTable", "rows", "I", .int)) 7 d4_46 (Or.inl (hw _ (List.mem_of_getElem? (i := 46) rfl))) Via.refl A_t rfl rfl ?_
    refine w_istore ok d4_49 (L' := #[.val (.ref t), .val (.ref vv), .val (.int (own_hs [y0, y1, y2])), .val (.int (Int32.ofNat r)), .val (.int (1 : Int32)), .unset]) rfl ?_
    refine w_iload ok d4_51 rfl ?_
    refine w_aloadN ok d4_53 rfl rfl ?_
    refine w_getfield ok (v := (.ref de)) (host := "") (f := ("com/example/hornconv/hornconv/FactTable", "dead", "[Z", (.array .boolean))) 4 d4_54 (Or.inl (hw _ (List.mem_of_getElem? (i := 20) rfl))) Via.refl A_t rfl rfl ?_
    refine w_arraylength ok (z := (4 : Int32)) d4_57 A_de rfl (by decide) ?_
    show W K l _ n0 _ h0 0 0 58 #[.val (.ref t), .val (.ref vv), .val (.int (own_hs [y0, y1, y2])), .val (.int (Int32.ofNat r)), .val (.int (1 : Int32)), .unset] [(.int (4 : Int32)), (.int (1 : Int32))]
    refine w_icmp_ne ok d4_58 (pc' := 96) (by decide) (fun hc9 => ?_) (fun hc9 => False.elim (by revert hc9; decide))
    show W K l _ n0 _ h0 0 0 96 #[.val (.ref t), .val (.ref vv), .val (.int (own_hs [y0, y1, y2])), .val (.int (Int32.ofNat r)), .val (.int (1 : Int32)), .unset] []
    refine w_aloadN ok d4_96 rfl rfl ?_
    refine w_iconst ok d4_97 (v := (0 : Int32)) rfl ?_
    refine w_aloadN ok d4_98 rfl rfl ?_
    refine w_getfield ok (v := (.ref ag)) (host := "") (f := ("com/example/hornconv/hornconv/FactTable", "arguments", "[I", (.array .int))) 3 d4_99 (Or.inl (hw _ (List.mem_of_getElem? (i := 17) rfl))) Via.refl A_t rfl rfl ?_
    refine w_iload ok d4_102 rfl ?_
    refine w_aloadN ok d4_104 rfl rfl ?_
    refine w_getfield ok (v := (.int (3 : Int32))) (host := "") (f := ("com/example/hornconv/hornconv/FactTable", "arity", "I", .int)) 2 d4_105 (Or.inl (hw _ (List.mem_of_getElem? (i := 15) rfl))) Via.refl A_t rfl rfl ?_
    refine w_imul ok d4_108 ?_
    show W K l _ n0 _ h0 0 0 109 #[.val (.ref t), .val (.ref vv), .val (.int (own_hs [y0, y1, y2])), .val (.int (Int32.ofNat r)), .val (.int (1 : Int32)), .unset] [(.int (3 : Int32)), (.ref ag), (.int (0 : Int32)), (.ref vv)]
    refine w_aloadN ok d4_109 rfl rfl ?_
    refine w_getfield ok (v := (.int (3 : Int32))) (host := "") (f := ("com/example/hornconv/hornconv/FactTable", "arity", "I", .int)) 2 d4_110 (Or.inl (hw _ (List.mem_of_getElem? (i := 15) rfl))) Via.refl A_t rfl rfl ?_
    refine w_arraycopy ok (sp' := 0) (dp' := 3) (nn' := 3) d4_113 (hw _ (List.mem_of_getElem? (i := 48) rfl)) (hw _ (List.mem_of_getElem? (i := 51) rfl)) (hw _ (List.mem_of_getElem? (i := 49) rfl)) (hw _ (List.mem_of_getElem? (i := 50) rfl)) A_v A_ag rfl ge_ag (by decide) (by decide) (by decide) rfl rfl rfl (Nat.le_of_ble_eq_true rfl) (Nat.le_of_ble_eq_true rfl) rfl (by decide) (Nat.le_of_ble_eq_true rfl) (fun h10 K_h10 A1_h10 => ?_)
    replace Kp := Kp.trans K_h10 (allS (Or.inl (by simp)) all0)
    replace A_t := A_t.keep K_h10 (ninS ne_t_ag nin0)
    replace A_de := A_de.keep K_h10 (ninS (Ne.symm ne_ag_de) nin0)
    replace A_sl := A_sl.keep K_h10 (ninS (Ne.symm ne_ag_sl) nin0)
    replace A_po := A_po.keep K_h10 (ninS (Ne.symm ne_ag_po) nin0)
    replace A_v := A_v.keep K_h10 (ninS (Ne.symm ne_ag_vv) nin0)
    replace A_ag : PA .int Z h10 ag [(.int x0), (.int x1), (.int x2), (.int y0), (.int y1), (.int y2), (.int x6), (.int x7), (.int x8), (.int x9), (.int x10), (.int x11)] := A1_h10
    show W K l _ n0 _ h10 0 0 116 #[.val (.ref t), .val (.ref vv), .val (.int (own_hs [y0, y1, y2])), .val (.int (Int32.ofNat r)), .val (.int (1 : Int32)), .unset] []
    refine w_aloadN ok d4_116 rfl rfl ?_
    refine w_dup ok d4_117 rfl ?_
    refine w_getfield ok (v := (.int (1 : Int32))) (host := "") (f := ("com/example/hornconv/hornconv/FactTable", "rows", "I", .int)) 7 d4_118 (Or.inl (hw _ (List.mem_of_getElem? (i := 46) rfl))) Via.refl A_t rfl rfl ?_
    refine w_iconst ok d4_121 (v := (1 : Int32)) rfl ?_
    refine w_iadd ok d4_122 ?_
    show W K l _ n0 _ h10 0 0 123 #[.val (.ref t), .val (.ref vv), .val (.int (own_hs [y0, y1, y2])), .val (.int (Int32.ofNat r)), .val (.int (1 : Int32)), .unset] [(.int (2 : Int32)), (.ref t)]
    refine w_putfield ok (host := "") (f := ("com/example/hornconv/hornconv/FactTable", "rows", "I", .int)) 7 d4_123 (Or.inl (hw _ (List.mem_of_getElem? (i := 46) rfl))) Via.refl A_t (la_FactTable hw) rfl rfl (Or.inl (hw _ (List.mem_of_getElem? (i := 47) rfl))) (hw _ (List.mem_of_getElem? (i := 2) rfl)) rfl rfl ge_t (fun h11 W_h11 A1_h11 => ?_)
    replace Kp := Kp.wr W_h11 (Or.inl (by simp))
    replace A_ag := A_ag.other W_h11 (Ne.symm ne_t_ag)
    replace A_de := A_de.other W_h11 (Ne.symm ne_t_de)
    replace A_sl := A_sl.other W_h11 (Ne.symm ne_t_sl)
    replace A_po := A_po.other W_h11 (Ne.symm ne_t_po)
    replace A_v := A_v.other W_h11 (Ne.symm ne_t_vv)
    replace A_t : Ob Z h11 t "com/example/hornconv/hornconv/FactTable" fl_FactTable [(.ref un), (.ref me), (.int (3 : Int32)), (.ref ag), (.ref de), (.ref sl), (.ref po), (.int (2 : Int32)), (.int lv), (.int us)] := A1_h11
    refine w_aloadN ok d4_126 rfl rfl ?_
    refine w_dup ok d4_127 rfl ?_
    refine w_getfield ok (v := (.int lv)) (host := "") (f := ("com/example/hornconv/hornconv/FactTable", "live", "I", .int)) 8 d4_128 (Or.inl (hw _ (List.mem_of_getElem? (i := 52) rfl))) Via.refl A_t rfl rfl ?_
    refine w_iconst ok d4_131 (v := (1 : Int32)) rfl ?_
    refine w_iadd ok d4_132 ?_
    refine w_putfield ok (host := "") (f := ("com/example/hornconv/hornconv/FactTable", "live", "I", .int)) 8 d4_133 (Or.inl (hw _ (List.mem_of_getElem? (i := 52) rfl))) Via.refl A_t (la_FactTable hw) rfl rfl (Or.inl (hw _ (List.mem_of_getElem? (i := 53) rfl))) (hw _ (List.mem_of_getElem? (i := 2) rfl)) rfl rfl ge_t (fun h12 W_h12 A1_h12 => ?_)
    replace Kp := Kp.wr W_h12 (Or.inl (by simp))
    replace A_ag := A_ag.other W_h12 (Ne.symm ne_t_ag)
    replace A_de := A_de.other W_h12 (Ne.symm ne_t_de)
    replace A_sl := A_sl.other W_h12 (Ne.symm ne_t_sl)
    replace A_po := A_po.other W_h12 (Ne.symm ne_t_po)
    replace A_v := A_v.other W_h12 (Ne.symm ne_t_vv)
    replace A_t : Ob Z h12 t "com/example/hornconv/hornconv/FactTable" fl_FactTable [(.ref un), (.ref me), (.int (3 : Int32)), (.ref ag), (.ref de), (.ref sl), (.ref po), (.int (2 : Int32)), (.int (lv + (1 : Int32))), (.int us)] := A1_h12
    refine w_aloadN ok d4_136 rfl rfl ?_
    refine w_getfield ok (v := (.int (3 : Int32))) (host := "") (f := ("com/example/hornconv/hornconv/FactTable", "arity", "I", .int)) 2 d4_137 (Or.inl (hw _ (List.mem_of_getElem? (i := 15) rfl))) Via.refl A_t rfl rfl ?_
    refine w_iconst ok d4_140 (v := (1 : Int32)) rfl ?_
    refine w_icmp_ne ok d4_141 (pc' := 152) (by decide) (fun hc14 => ?_) (fun hc14 => False.elim (by revert hc14; decide))
    show W K l _ n0 _ h12 0 0 152 #[.val (.ref t), .val (.ref vv), .val (.int (own_hs [y0, y1, y2])), .val (.int (Int32.ofNat r)), .val (.int (1 : Int32)), .unset] []
    refine w_iconst ok d4_152 (v := (0 : Int32)) rfl ?_
    refine w_istore ok d4_153 (L' := #[.val (.ref t), .val (.ref vv), .val (.int (own_hs [y0, y1, y2])), .val (.int (Int32.ofNat r)), .val (.int (1 : Int32)), .val (.int (0 : Int32))]) rfl ?_
    refine w_iload ok d4_155 rfl ?_
    refine w_aloadN ok d4_157 rfl rfl ?_
    refine w_getfield ok (v := (.ref po)) (host := "") (f := ("com/example/hornconv/hornconv/FactTable", "positions", "[Lcom/example/hornconv/hornconv/FactTable$PositionIndex;", (.array (.object "com/example/hornconv/hornconv/FactTable$PositionIndex")))) 6 d4_158 (Or.inl (hw _ (List.mem_of_getElem? (i := 30) rfl))) Via.refl A_t rfl rfl ?_
    refine w_arraylength ok (z := (3 : Int32)) d4_161 A_po rfl (by decide) ?_
    show W K l _ n0 _ h12 0 0 162 #[.val (.ref t), .val (.ref vv), .val (.int (own_hs [y0, y1, y2])), .val (.int (Int32.ofNat r)), .val (.int (1 : Int32)), .val (.int (0 : Int32))] [(.int (3 : Int32)), (.int (0 : Int32))]
    refine w_icmp_ge ok d4_162 (pc' := 197) (by decide) (fun hc16 => False.elim (by revert hc16; decide)) (fun hc16 => ?_)
    show W K l _ n0 _ h12 0 0 165 #[.val (.ref t), .val (.ref vv), .val (.int (own_hs [y0, y1, y2])), .val (.int (Int32.ofNat r)), .val (.int (1 : Int32)), .val (.int (0 : Int32))] []
    refine w_aloadN ok d4_165 rfl rfl ?_
    refine w_getfield ok (v := (.ref po)) (host := "") (f := ("com/example/hornconv/hornconv/FactTable", "positions", "[Lcom/example/hornconv/hornconv/FactTable$PositionIndex;", (.array (.object "com/example/hornconv/hornconv/FactTable$PositionIndex")))) 6 d4_166 (Or.inl (hw _ (List.mem_of_getElem? (i := 30) rfl))) Via.refl A_t rfl rfl ?_
    refine w_iload ok d4_169 rfl ?_
    refine w_aaload ok (v := .null) d4_171 A_po rfl (by decide) rfl ?_
    refine w_ifnullY ok d4_172 (pc' := 191) (by decide) ?_
    show W K l _ n0 _ h12 0 0 191 #[.val (.ref t), .val (.ref vv), .val (.int (own_hs [y0, y1, y2])), .val (.int (Int32.ofNat r)), .val (.int (1 : Int32)), .val (.int (0 : Int32))] []
    refine w_iinc ok d4_191 (u := (1 : Int32)) rfl rfl (L' := #[.val (.ref t), .val (.ref vv), .val (.int (own_hs [y0, y1, y2])), .val (.int (Int32.ofNat r)), .val (.int (1 : Int32)), .val (.int (1 : Int32))]) rfl ?_
    show W K l _ n0 _ h12 0 0 194 #[.val (.ref t), .val (.ref vv), .val (.int (own_hs [y0, y1, y2])), .val (.int (Int32.ofNat r)), .val (.int (1 : Int32)), .val (.int (1 : Int32))] []
    refine w_goto ok d4_194 (pc' := 155) (by decide) ?_
    refine w_iload ok d4_155 rfl ?_
    refine w_aloadN ok d4_157 rfl rfl ?_
    refine w_getfield ok (v := (.ref po)) (host := "") (f := ("com/example/hornconv/hornconv/FactTable", "positions", "[Lcom/example/hornconv/hornconv/FactTable$PositionIndex;", (.array (.object "com/example/hornconv/hornconv/FactTable$PositionIndex")))) 6 d4_158 (Or.inl (hw _ (List.mem_of_getElem? (i := 30) rfl))) Via.refl A_t rfl rfl ?_
    refine w_arraylength ok (z := (3 : Int32)) d4_161 A_po rfl (by decide) ?_
    show W K l _ n0 _ h12 0 0 162 #[.val (.ref t), .val (.ref vv), .val (.int (own_hs [y0, y1, y2])), .val (.int (Int32.ofNat r)), .val (.int (1 : Int32)), .val (.int (1 : Int32))] [(.int (3 : Int32)), (.int (1 : Int32))]
    refine w_icmp_ge ok d4_162 (pc' := 197) (by decide) (fun hc18 => False.elim (by revert hc18; decide)) (fun hc18 => ?_)
    show W K l _ n0 _ h12 0 0 165 #[.val (.ref t), .val (.ref vv), .val (.int (own_hs [y0, y1, y2])), .val (.int (Int32.ofNat r)), .val (.int (1 : Int32)), .val (.int (1 : Int32))] []
    refine w_aloadN ok d4_165 rfl rfl ?_
    refine w_getfield ok (v := (.ref po)) (host := "") (f := ("com/example/hornconv/hornconv/FactTable", "positions", "[Lcom/example/hornconv/hornconv/FactTable$PositionIndex;", (.array (.object "com/example/hornconv/hornconv/FactTable$PositionIndex")))) 6 d4_166 (Or.inl (hw _ (List.mem_of_getElem? (i := 30) rfl))) Via.refl A_t rfl rfl ?_
    refine w_iload ok d4_169 rfl ?_
    refine w_aaload ok (v := .null) d4_171 A_po rfl (by decide) rfl ?_
    refine w_ifnullY ok d4_172 (pc' := 191) (by decide) ?_
    show W K l _ n0 _ h12 0 0 191 #[.val (.ref t), .val (.ref vv), .val (.int (own_hs [y0, y1, y2])), .val (.int (Int32.ofNat r)), .val (.int (1 : Int32)), .val (.int (1 : Int32))] []
    refine w_iinc ok d4_191 (u := (1 : Int32)) rfl rfl (L' := #[.val (.ref t), .val (.ref vv), .val (.int (own_hs [y0, y1, y2])), .val (.int (Int32.ofNat r)), .val (.int (1 : Int32)), .val (.int (2 : Int32))]) rfl ?_
    show W K l _ n0 _ h12 0 0 194 #[.val (.ref t), .val (.ref vv), .val (.int (own_hs [y0, y1, y2])), .val (.int (Int32.ofNat r)), .val (.int (1 : Int32)), .val (.int (2 : Int32))] []
    refine w_goto ok d4_194 (pc' := 155) (by decide) ?_
    refine w_iload ok d4_155 rfl ?_
    refine w_aloadN ok d4_157 rfl rfl ?_
    refine w_getfield ok (v := (.ref po)) (host := "") (f := ("com/example/hornconv/hornconv/FactTable", "positions", "[Lcom/example/hornconv/hornconv/FactTable$PositionIndex;", (.array (.object "com/example/hornconv/hornconv/FactTable$PositionIndex")))) 6 d4_158 (Or.inl (hw _ (List.mem_of_getElem? (i := 30) rfl))) Via.refl A_t rfl rfl ?_
    refine w_arraylength ok (z := (3 : Int32)) d4_161 A_po rfl (by decide) ?_
    show W K l _ n0 _ h12 0 0 162 #[.val (.ref t), .val (.ref vv), .val (.int (own_hs [y0, y1, y2])), .val (.int (Int32.ofNat r)), .val (.int (1 : Int32)), .val (.int (2 : Int32))] [(.int (3 : Int32)), (.int (2 : Int32))]
    refine w_icmp_ge ok d4_162 (pc' := 197) (by decide) (fun hc20 => False.elim (by revert hc20; decide)) (fun hc20 => ?_)
    show W K l _ n0 _ h12 0 0 165 #[.val (.ref t), .val (.ref vv), .val (.int (own_hs [y0, y1, y2])), .val (.int (Int32.ofNat r)), .val (.int (1 : Int32)), .val (.int (2 : Int32))] []
    refine w_aloadN ok d4_165 rfl rfl ?_
    refine w_getfield ok (v := (.ref po)) (host := "") (f := ("com/example/hornconv/hornconv/FactTable", "positions", "[Lcom/example/hornconv/hornconv/FactTable$PositionIndex;", (.array (.object "com/example/hornconv/hornconv/FactTable$PositionIndex")))) 6 d4_166 (Or.inl (hw _ (List.mem_of_getElem? (i := 30) rfl))) Via.refl A_t rfl rfl ?_
    refine w_iload ok d4_169 rfl ?_
    refine w_aaload ok (v := .null) d4_171 A_po rfl (by decide) rfl ?_
    refine w_ifnullY ok d4_172 (pc' := 191) (by decide) ?_
    show W K l _ n0 _ h12 0 0 191 #[.val (.ref t), .val (.ref vv), .val (.int (own_hs [y0, y1, y2])), .val (.int (Int32.ofNat r)), .val (.int (1 : Int32)), .val (.int (2 : Int32))] []
    refine w_iinc ok d4_191 (u := (1 : Int32)) rfl rfl (L' := #[.val (.ref t), .val (.ref vv), .val (.int (own_hs [y0, y1, y2])), .val (.int (Int32.ofNat r)), .val (.int (1 : Int32)), .val (.int (3 : Int32))]) rfl ?_
    show W K l _ n0 _ h12 0 0 194 #[.val (.ref t), .val (.ref vv), .val (.int (own_hs [y0, y1, y2])), .val (.int (Int32.ofNat r)), .val (.int (1 : Int32)), .val (.int (3 : Int32))] []
    refine w_goto ok d4_194 (pc' := 155) (by decide) ?_
    refine w_iload ok d4_155 rfl ?_
    refine w_aloadN ok d4_157 rfl rfl ?_
    refine w_getfield ok (v := (.ref po)) (host := "") (f := ("com/example/hornconv/hornconv/FactTable", "positions", "[Lcom/example/hornconv/hornconv/FactTable$PositionIndex;", (.array (.object "com/example/hornconv/hornconv/FactTable$PositionIndex")))) 6 d4_158 (Or.inl (hw _ (List.mem_of_getElem? (i := 30) rfl))) Via.refl A_t rfl rfl ?_
    refine w_arraylength ok (z := (3 : Int32)) d4_161 A_po rfl (by decide) ?_
    show W K l _ n0 _ h12 0 0 162 #[.val (.ref t), .val (.ref vv), .val (.int (own_hs [y0, y1, y2])), .val (.int (Int32.ofNat r)), .val (.int (1 : Int32)), .val (.int (3 : Int32))] [(.int (3 : Int32)), (.int (3 : Int32))]
    refine w_icmp_ge ok d4_162 (pc' := 197) (by decide) (fun hc22 => ?_) (fun hc22 => False.elim (by revert hc22; decide))
    show W K l _ n0 _ h12 0 0 197 #[.val (.ref t), .val (.ref vv), .val (.int (own_hs [y0, y1, y2])), .val (.int (Int32.ofNat r)), .val (.int (1 : Int32)), .val (.int (3 : Int32))] []
    refine w_aloadN ok d4_197 rfl rfl ?_
    refine w_getfield ok (v := (.ref sl)) (host := "") (f := ("com/example/hornconv/hornconv/FactTable", "slots", "[I", (.array .int))) 5 d4_198 (Or.inl (hw _ (List.mem_of_getElem? (i := 22) rfl))) Via.refl A_t rfl rfl ?_
    refine w_iloadN ok d4_201 rfl ?_
    refine w_iaload ok (v := (.int (f r))) d4_202 A_sl (own_nn (own_ofNat (by omega))) (by rw [own_clamp (own_ofNat (j := r) (by omega))]; exact sv_get hr8) ?_
    refine w_iconst ok d4_203 (v := (-1 : Int32)) rfl ?_
    refine w_icmp_ne ok d4_204 (pc' := 217) (by decide) (fun hc24 => ?_) (fun hc24 => ?_)
    · show W K l _ n0 _ h12 0 0 217 #[.val (.ref t), .val (.ref vv), .val (.int (own_hs [y0, y1, y2])), .val (.int (Int32.ofNat r)), .val (.int (1 : Int32)), .val (.int (3 : Int32))] []
      refine w_aloadN ok d4_217 rfl rfl ?_
      refine w_getfield ok (v := (.ref sl)) (host := "") (f := ("com/example/hornconv/hornconv/FactTable", "slots", "[I", (.array .int))) 5 d4_218 (Or.inl (hw _ (List.mem_of_getElem? (i := 22) rfl))) Via.refl A_t rfl rfl ?_
      refine w_iloadN ok d4_221 rfl ?_
      refine w_iload ok d4_222 rfl ?_
      refine w_iastore ok d4_224 A_sl ge_sl (own_nn (own_ofNat (by omega))) (by rw [own_clamp (own_ofNat (j := r) (by omega)), sv_len]; exact hr8) (fun h25 W_h25 A1_h25 => ?_)
      replace Kp := Kp.wr W_h25 (Or.inl (by simp))
      replace A_t := A_t.other W_h25 ne_t_sl
      replace A_ag := A_ag.other W_h25 ne_ag_sl
      replace A_de := A_de.other W_h25 ne_de_sl
      replace A_po := A_po.other W_h25 (Ne.symm ne_sl_po)
      replace A_v := A_v.other W_h25 (Ne.symm ne_sl_vv)
      replace A_sl : PA .int Z h25 sl ((sv 8 f).set (Int32.ofNat r).toNatClampNeg (.int (1 : Int32))) := A1_h25
      rw [own_clamp (own_ofNat (j := r) (by omega)), sv_set] at A_sl
      refine w_iconst ok d4_225 (v := (2 : Int32)) rfl ?_
      refine w_aloadN ok d4_226 rfl rfl ?_
      refine w_getfield ok (v := (.int us)) (host := "") (f := ("com/example/hornconv/hornconv/FactTable", "used", "I", .int)) 9 d4_227 (Or.inl (hw _ (List.mem_of_getElem? (i := 54) rfl))) Via.refl A_t rfl rfl ?_
      refine w_imul ok d4_230 ?_
      refine w_aloadN ok d4_231 rfl rfl ?_
      refine w_getfield ok (v := (.ref sl)) (host := "") (f := ("com/example/hornconv/hornconv/FactTable", "slots", "[I", (.array .int))) 5 d4_232 (Or.inl (hw _ (List.mem_of_getElem? (i := 22) rfl))) Via.refl A_t rfl rfl ?_
      refine w_arraylength ok (z := (8 : Int32)) d4_235 A_sl (sv_len 8 _) (by decide) ?_
      show W K l _ n0 _ h25 0 0 236 #[.val (.ref t), .val (.ref vv), .val (.int (own_hs [y0, y1, y2])), .val (.int (Int32.ofNat r)), .val (.int (1 : Int32)), .val (.int (3 : Int32))] [(.int (8 : Int32)), (.int ((2 : Int32) * us))]
      refine w_icmp_le ok d4_236 (pc' := 243) (by decide) (fun hc27 => ?_) (fun hc27 => False.elim (by exact own_2us hus hc27))
      show W K l _ n0 _ h25 0 0 243 #[.val (.ref t), .val (.ref vv), .val (.int (own_hs [y0, y1, y2])), .val (.int (Int32.ofNat r)), .val (.int (1 : Int32)), .val (.int (3 : Int32))] []
      refine w_iload ok d4_243 rfl ?_
      refine w_iret ok d4_245 (by decide) (by decide) ?_
      rcases hF with hF | hF
      · exact absurd hc7 hF.1
      · exact Or.inr ⟨rfl, r, us, hr8, hF, own_us0 hus, Kp, A_t, A_ag, A_sl⟩
    · show W K l _ n0 _ h12 0 0 207 #[.val (.ref t), .val (.ref vv), .val (.int (own_hs [y0, y1, y2])), .val (.int (Int32.ofNat r)), .val (.int (1 : Int32)), .val (.int (3 : Int32))] []
      refine w_aloadN ok d4_207 rfl rfl ?_
      refine w_dup ok d4_208 rfl ?_
      refine w_getfield ok (v := (.int us)) (host := "") (f := ("com/example/hornconv/hornconv/FactTable", "used", "I", .int)) 9 d4_209 (Or.inl (hw _ (List.mem_of_getElem? (i := 54) rfl))) Via.refl A_t rfl rfl ?_
      refine w_iconst ok d4_212 (v := (1 : Int32)) rfl ?_
      refine w_iadd ok d4_213 ?_
      refine w_putfield ok (host := "") (f := ("com/example/hornconv/hornconv/FactTable", "used", "I", .int)) 9 d4_214 (Or.inl (hw _ (List.mem_of_getElem? (i := 54) rfl))) Via.refl A_t (la_FactTable hw) rfl rfl (Or.inl (hw _ (List.mem_of_getElem? (i := 55) rfl))) (hw _ (List.mem_of_getElem? (i := 2) rfl)) rfl rfl ge_t (fun h28 W_h28 A1_h28 => ?_)
      replace Kp := Kp.wr W_h28 (Or.inl (by simp))
      replace A_ag := A_ag.other W_h28 (Ne.symm ne_t_ag)
      replace A_de := A_de.other W_h28 (Ne.symm ne_t_de)
      replace A_sl := A_sl.other W_h28 (Ne.symm ne_t_sl)
      replace A_po := A_po.other W_h28 (Ne.symm ne_t_po)
      replace A_v := A_v.other W_h28 (Ne.symm ne_t_vv)
      replace A_t : Ob Z h28 t "com/example/hornconv/hornconv/FactTable" fl_FactTable [(.ref un), (.ref me), (.int (3 : Int32)), (.ref ag), (.ref de), (.ref sl), (.ref po), (.int (2 : Int32)), (.int (lv + (1 : Int32))), (.int (us + (1 : Int32)))] := A1_h28
      refine w_aloadN ok d4_217 rfl rfl ?_
      refine w_getfield ok (v := (.ref sl)) (host := "") (f := ("com/example/hornconv/hornconv/FactTable", "slots", "[I", (.array .int))) 5 d4_218 (Or.inl (hw _ (List.mem_of_getElem? (i := 22) rfl))) Via.refl A_t rfl rfl ?_
      refine w_iloadN ok d4_221 rfl ?_
      refine w_iload ok d4_222 rfl ?_
      refine w_iastore ok d4_224 A_sl ge_sl (own_nn (own_ofNat (by omega))) (by rw [own_clamp (own_ofNat (j := r) (by omega)), sv_len]; exact hr8) (fun h29 W_h29 A1_h29 => ?_)
      replace Kp := Kp.wr W_h29 (Or.inl (by simp))
      replace A_t := A_t.other W_h29 ne_t_sl
      replace A_ag := A_ag.other W_h29 ne_ag_sl
      replace A_de := A_de.other W_h29 ne_de_sl
      replace A_po := A_po.other W_h29 (Ne.symm ne_sl_po)
      replace A_v := A_v.other W_h29 (Ne.symm ne_sl_vv)
      replace A_sl : PA .int Z h29 sl ((sv 8 f).set (Int32.ofNat r).toNatClampNeg (.int (1 : Int32))) := A1_h29
      rw [own_clamp (own_ofNat (j := r) (by omega)), sv_set] at A_sl
      refine w_iconst ok d4_225 (v := (2 : Int32)) rfl ?_
      refine w_aloadN ok d4_226 rfl rfl ?_
      refine w_getfield ok (v := (.int (us + (1 : Int32)))) (host := "") (f := ("com/example/hornconv/hornconv/FactTable", "used", "I", .int)) 9 d4_227 (Or.inl (hw _ (List.mem_of_getElem? (i := 54) rfl))) Via.refl A_t rfl rfl ?_
      refine w_imul ok d4_230 ?_
      refine w_aloadN ok d4_231 rfl rfl ?_
      refine w_getfield ok (v := (.ref sl)) (host := "") (f := ("com/example/hornconv/hornconv/FactTable", "slots", "[I", (.array .int))) 5 d4_232 (Or.inl (hw _ (List.mem_of_getElem? (i := 22) rfl))) Via.refl A_t rfl rfl ?_
      refine w_arraylength ok (z := (8 : Int32)) d4_235 A_sl (sv_len 8 _) (by decide) ?_
      show W K l _ n0 _ h29 0 0 236 #[.val (.ref t), .val (.ref vv), .val (.int (own_hs [y0, y1, y2])), .val (.int (Int32.ofNat r)), .val (.int (1 : Int32)), .val (.int (3 : Int32))] [(.int (8 : Int32)), (.int ((2 : Int32) * (us + (1 : Int32))))]
      refine w_icmp_le ok d4_236 (pc' := 243) (by decide) (fun hc31 => ?_) (fun hc31 => False.elim (by exact own_2us1 hus hc31))
      show W K l _ n0 _ h29 0 0 243 #[.val (.ref t), .val (.ref vv), .val (.int (own_hs [y0, y1, y2])), .val (.int (Int32.ofNat r)), .val (.int (1 : Int32)), .val (.int (3 : Int32))] []
      refine w_iload ok d4_243 rfl ?_
      refine w_iret ok d4_245 (by decide) (by decide) ?_
      rcases hF with hF | hF
      · exact absurd hc7 hF.1
      · exact Or.inr ⟨rfl, r, (us + (1 : Int32)), hr8, hF, own_us1 hus, Kp, A_t, A_ag, A_sl⟩
  · show W K l _ n0 _ h0 0 0 43 #[.val (.ref t), .val (.ref vv), .val (.int (own_hs [y0, y1, y2])), .val (.int (Int32.ofNat r)), .unset, .unset] []
    refine w_iconst ok d4_43 (v := (-1 : Int32)) rfl ?_
    refine w_iret ok d4_44 (by decide) (by decide) ?_
    rcases hF with hF | hF
    · exact Or.inl ⟨rfl, rfl, r, hr8, hF.1, hF.2⟩
    · exact absurd hF.1 hc7
theorem d7_0 : decode prog_3_method_8_code 0 = .ok (.aload_n 0, 1) := by decide +kernel
theorem d7_1 : decode prog_3_method_8_code 1 = .ok (.getfield 28, 3) := by decide +kernel
theorem d7_4 : decode prog_3_method_8_code 4 = .ok (.arraylength, 1) := by decide +kernel
theorem d7_5 : decode prog_3_method_8_code 5 = .ok (.iconst 1, 1) := by decide +kernel
theorem d7_6 : decode prog_3_method_8_code 6 = .ok (.isub, 1) := by decide +kernel
theorem d7_7 : decode prog_3_method_8_code 7 = .ok (.istore_n 2, 1) := by decide +kernel
theorem d7_8 : decode prog_3_method_8_code 8 = .ok (.aload_n 0, 1) := by decide +kernel
theorem d7_9 : decode prog_3_method_8_code 9 = .ok (.aload_n 0, 1) := by decide +kernel
theorem d7_10 : decode prog_3_method_8_code 10 = .ok (.getfield 21, 3) := by decide +kernel
theorem d7_13 : decode prog_3_method_8_code 13 = .ok (.iload_n 1, 1) := by decide +kernel
theorem d7_14 : decode prog_3_method_8_code 14 = .ok (.aload_n 0, 1) := by decide +kernel
theorem d7_15 : decode prog_3_method_8_code 15 = .ok (.getfield 17, 3) := by decide +kernel
theorem d7_18 : decode prog_3_method_8_code 18 = .ok (.imul, 1) := by decide +kernel
theorem d7_19 : decode prog_3_method_8_code 19 = .ok (.invokevirtual 53, 3) := by decide +kernel
theorem d7_22 : decode prog_3_method_8_code 22 = .ok (.iload_n 2, 1) := by decide +kernel
theorem d7_23 : decode prog_3_method_8_code 23 = .ok (.iand, 1) := by decide +kernel
theorem d7_24 : decode prog_3_method_8_code 24 = .ok (.istore_n 3, 1) := by decide +kernel
theorem d7_25 : decode prog_3_method_8_code 25 = .ok (.aload_n 0, 1) := by decide +kernel
theorem d7_26 : decode prog_3_method_8_code 26 = .ok (.getfield 28, 3) := by decide +kernel
theorem d7_29 : decode prog_3_method_8_code 29 = .ok (.iload_n 3, 1) := by decide +kernel
theorem d7_30 : decode prog_3_method_8_code 30 = .ok (.iaload, 1) := by decide +kernel
theorem d7_31 : decode prog_3_method_8_code 31 = .ok (.iload_n 1, 1) := by decide +kernel
theorem d7_32 : decode prog_3_method_8_code 32 = .ok (.if_icmp .eq 12, 3) := by decide +kernel
theorem d7_35 : decode prog_3_method_8_code 35 = .ok (.iload_n 3, 1) := by decide +kernel
theorem d7_36 : decode prog_3_method_8_code 36 = .ok (.iconst 1, 1) := by decide +kernel
theorem d7_37 : decode prog_3_method_8_code 37 = .ok (.iadd, 1) := by decide +kernel
theorem d7_38 : decode prog_3_method_8_code 38 = .ok (.iload_n 2, 1) := by decide +kernel
theorem d7_39 : decode prog_3_method_8_code 39 = .ok (.iand, 1) := by decide +kernel
theorem d7_40 : decode prog_3_method_8_code 40 = .ok (.istore_n 3, 1) := by decide +kernel
theorem d7_41 : decode prog_3_method_8_code 41 = .ok (.goto (-16), 3) := by decide +kernel
theorem d7_44 : decode prog_3_method_8_code 44 = .ok (.aload_n 0, 1) := by decide +kernel
theorem d7_45 : decode prog_3_method_8_code 45 = .ok (.getfield 28, 3) := by decide +kernel
theorem d7_48 : decode prog_3_method_8_code 48 = .ok (.iload_n 3, 1) := by decide +kernel
theorem d7_49 : decode prog_3_method_8_code 49 = .ok (.bipush (-2), 2) := by decide +kernel
theorem d7_51 : decode prog_3_method_8_code 51 = .ok (.iastore, 1) := by decide +kernel
theorem d7_52 : decode prog_3_method_8_code 52 = .ok (.aload_n 0, 1) := by decide +kernel
theorem d7_53 : decode prog_3_method_8_code 53 = .ok (.getfield 24, 3) := by decide +kernel
theorem d7_56 : decode prog_3_method_8_code 56 = .ok (.iload_n 1, 1) := by decide +kernel
theorem d7_57 : decode prog_3_method_8_code 57 = .ok (.iconst 1, 1) := by decide +kernel
theorem d7_58 : decode prog_3_method_8_code 58 = .ok (.bastore, 1) := by decide +kernel
theorem d7_59 : decode prog_3_method_8_code 59 = .ok (.aload_n 0, 1) := by decide +kernel
theorem d7_60 : decode prog_3_method_8_code 60 = .ok (.dup, 1) := by decide +kernel
theorem d7_61 : decode prog_3_method_8_code 61 = .ok (.getfield 46, 3) := by decide +kernel
theorem d7_64 : decode prog_3_method_8_code 64 = .ok (.iconst 1, 1) := by decide +kernel
theorem d7_65 : decode prog_3_method_8_code 65 = .ok (.isub, 1) := by decide +kernel
theorem d7_66 : decode prog_3_method_8_code 66 = .ok (.putfield 46, 3) := by decide +kernel
theorem d7_69 : decode prog_3_method_8_code 69 = .ok (.aload_n 0, 1) := by decide +kernel
theorem d7_70 : decode prog_3_method_8_code 70 = .ok (.getfield 17, 3) := by decide +kernel
theorem d7_73 : decode prog_3_method_8_code 73 = .ok (.iconst 1, 1) := by decide +kernel
theorem d7_74 : decode prog_3_method_8_code 74 = .ok (.if_icmp .ne 14, 3) := by decide +kernel
theorem d7_77 : decode prog_3_method_8_code 77 = .ok (.aload_n 0, 1) := by decide +kernel
theorem d7_78 : decode prog_3_method_8_code 78 = .ok (.aload_n 0, 1) := by decide +kernel
theorem d7_79 : decode prog_3_method_8_code 79 = .ok (.iload_n 1, 1) := by decide +kernel
theorem d7_80 : decode prog_3_method_8_code 80 = .ok (.iconst 0, 1) := by decide +kernel
theorem d7_81 : decode prog_3_method_8_code 81 = .ok (.invokevirtual 87, 3) := by decide +kernel
theorem d7_84 : decode prog_3_method_8_code 84 = .ok (.iconst 0, 1) := by decide +kernel
theorem d7_85 : decode prog_3_method_8_code 85 = .ok (.invokevirtual 73, 3) := by decide +kernel
theorem d7_88 : decode prog_3_method_8_code 88 = .ok (.iconst 0, 1) := by decide +kernel
theorem d7_89 : decode prog_3_method_8_code 89 = .ok (.istore 4, 2) := by decide +kernel
theorem d7_91 : decode prog_3_method_8_code 91 = .ok (.iload 4, 2) := by decide +kernel
theorem d7_93 : decode prog_3_method_8_code 93 = .ok (.aload_n 0, 1) := by decide +kernel
theorem d7_94 : decode prog_3_method_8_code 94 = .ok (.getfield 39, 3) := by decide +kernel
theorem d7_97 : decode prog_3_method_8_code 97 = .ok (.arraylength, 1) := by decide +kernel
theorem d7_98 : decode prog_3_method_8_code 98 = .ok (.if_icmp .ge 36, 3) := by decide +kernel
theorem d7_101 : decode prog_3_method_8_code 101 = .ok (.aload_n 0, 1) := by decide +kernel
theorem d7_102 : decode prog_3_method_8_code 102 = .ok (.getfield 39, 3) := by decide +kernel
theorem d7_105 : decode prog_3_method_8_code 105 = .ok (.iload 4, 2) := by decide +kernel
theorem d7_107 : decode prog_3_method_8_code 107 = .ok (.aaload, 1) := by decide +kernel
theorem d7_108 : decode prog_3_method_8_code 108 = .ok (.ifnull 20, 3) := by decide +kernel
theorem d7_111 : decode prog_3_method_8_code 111 = .ok (.aload_n 0, 1) := by decide +kernel
theorem d7_112 : decode prog_3_method_8_code 112 = .ok (.getfield 39, 3) := by decide +kernel
theorem d7_115 : decode prog_3_method_8_code 115 = .ok (.iload 4, 2) := by decide +kernel
theorem d7_117 : decode prog_3_method_8_code 117 = .ok (.aaload, 1) := by decide +kernel
theorem d7_118 : decode prog_3_method_8_code 118 = .ok (.aload_n 0, 1) := by decide +kernel
theorem d7_119 : decode prog_3_method_8_code 119 = .ok (.iload_n 1, 1) := by decide +kernel
theorem d7_120 : decode prog_3_method_8_code 120 = .ok (.iload 4, 2) := by decide +kernel
theorem d7_122 : decode prog_3_method_8_code 122 = .ok (.invokevirtual 87, 3) := by decide +kernel
theorem d7_125 : decode prog_3_method_8_code 125 = .ok (.invokevirtual 91, 3) := by decide +kernel
theorem d7_128 : decode prog_3_method_8_code 128 = .ok (.iinc 4 1, 3) := by decide +kernel
theorem d7_131 : decode prog_3_method_8_code 131 = .ok (.goto (-40), 3) := by decide +kernel
theorem d7_134 : decode prog_3_method_8_code 134 = .ok (.return_, 1) := by decide +kernel
set_option maxRecDepth 65536 in
set_option maxHeartbeats 40000000 in
theorem c44_0 (l : Launch) (Z : State) (a0 : Array Value) (hw : ∀ d ∈ tables_1, d.before a0 Z = true) (n0 : Nat) (h0 : Heap) (K : Cx) (ok : Ok K Z n0 "com/example/hornconv/hornconv/FactTable" prog_3_method_8_code 5 none "remove") (t un me ag de sl po : Addr) (rw lv us : Int32) (x0 x1 x2 x3 x4 x5 x6 x7 x8 x9 x10 x11 d0 d1 d2 d3 : Int32) (f : Nat → Int32) (A_t : Ob Z h0 t "com/example/hornconv/hornconv/FactTable" fl_FactTable [(.ref un), (.ref me), (.int (3 : Int32)), (.ref ag), (.ref de), (.ref sl), (.ref po), (.int rw), (.int lv), (.int us)]) (A_ag : PA .int Z h0 ag [(.int x0), (.int x1), (.int x2), (.int x3), (.int x4), (.int x5), (.int x6), (.int x7), (.int x8), (.int x9), (.int x10), (.int x11)]) (A_de : PA .boolean Z h0 de [(.int d0), (.int d1), (.int d2), (.int d3)]) (A_sl : PA .int Z h0 sl (sv 8 f)) (A_po : PA (.object "com/example/hornconv/hornconv/FactTable$PositionIndex") Z h0 po [.null, .null, .null]) (ge_t : n0 ≤ t) (ge_de : n0 ≤ de) (ge_sl : n0 ≤ sl) (ne_t_ag : t ≠ ag) (ne_t_de : t ≠ de) (ne_t_sl : t ≠ sl) (ne_t_po : t ≠ po) (ne_ag_de : ag ≠ de) (ne_ag_sl : ag ≠ sl) (ne_ag_po : ag ≠ po) (ne_de_sl : de ≠ sl) (ne_sl_po : sl ≠ po) (ne_de_po : de ≠ po) (r : Nat) (hr8 : r < 8) (hfr : f r = 0) (s4 : Slot) (o4 : One s4) :
    W K l ({ frames := 1, cells := 0, slots := 0, locals := 16 } : Room) n0 (fun u h => u = none ∧ ∃ r, r < 8 ∧ f r = 0 ∧ Keep h0 h [t, de, sl] ∧ Ob Z h t "com/example/hornconv/hornconv/FactTable" fl_FactTable [(.ref un), (.ref me), (.int (3 : Int32)), (.ref ag), (.ref de), (.ref sl), (.ref po), (.int rw), (.int (lv - 1)), (.int us)] ∧ PA .boolean Z h de [(.int (1 : Int32)), (.int d1), (.int d2), (.int d3)] ∧ PA .int Z h sl (sv 8 (upd f r (-2)))) h0 0 0 44 #[.val (.ref t), .val (.int (0 : Int32)), .val (.int (7 : Int32)), .val (.int (Int32.ofNat r)), s4] [] := by
  have Kp : Keep h0 h0 [t, de, sl] := Keep.refl _ _
  show W K l _ n0 _ h0 0 0 44 #[.val (.ref t), .val (.int (0 : Int32)), .val (.int (7 : Int32)), .val (.int (Int32.ofNat r)), s4] []
  refine w_aloadN ok d7_44 rfl rfl ?_
  refine w_getfield ok (v := (.ref sl)) (host := "") (f := ("com/example/hornconv/hornconv/FactTable", "slots", "[I", (.array .int))) 5 d7_45 (Or.inl (hw _ (List.mem_of_getElem? (i := 22) rfl))) Via.refl A_t rfl rfl ?_
  refine w_iloadN ok d7_48 rfl ?_
  refine w_bipush ok d7_49 (v := (-2 : Int32)) rfl ?_
  refine w_iastore ok d7_51 A_sl ge_sl (own_nn (own_ofNat (by omega))) (by rw [own_clamp (own_ofNat (j := r) (by omega)), sv_len]; exact hr8) (fun h1 W_h1 A1_h1 => ?_)
  replace Kp := Kp.wr W_h1 (Or.inl (by simp))
  replace A_t := A_t.other W_h1 ne_t_sl
  replace A_ag := A_ag.other W_h1 ne_ag_sl
  replace A_de := A_de.other W_h1 ne_de_sl
  replace A_po := A_po.other W_h1 (Ne.symm ne_sl_po)
  replace A_sl : PA .int Z h1 sl ((sv 8 f).set (Int32.ofNat r).toNatClampNeg (.int (-2 : Int32))) := A1_h1
  rw [own_clamp (own_ofNat (j := r) (by omega)), sv_set] at A_sl
  refine w_aloadN ok d7_52 rfl rfl ?_
  refine w_getfield ok (v := (.ref de)) (host := "") (f := ("com/example/hornconv/hornconv/FactTable", "dead", "[Z", (.array .boolean))) 4 d7_53 (Or.inl (hw _ (List.mem_of_getElem? (i := 20) rfl))) Via.refl A_t rfl rfl ?_
  refine w_iloadN ok d7_56 rfl ?_
  refine w_iconst ok d7_57 (v := (1 : Int32)) rfl ?_
  refine w_zastore ok d7_58 A_de ge_de (by decide) (Nat.le_of_ble_eq_true rfl) (fun h2 W_h2 A1_h2 => ?_)
  replace Kp := Kp.wr W_h2 (Or.inl (by simp))
  replace A_t := A_t.other W_h2 ne_t_de
  replace A_ag := A_ag.other W_h2 ne_ag_de
  replace A_sl := A_sl.other W_h2 (Ne.symm ne_de_sl)
  replace A_po := A_po.other W_h2 (Ne.symm ne_de_po)
  replace A_de : PA .boolean Z h2 de [(.int (1 : Int32)), (.int d1), (.int d2), (.int d3)] := A1_h2
  refine w_aloadN ok d7_59 rfl rfl ?_
  refine w_dup ok d7_60 rfl ?_
  refine w_getfield ok (v := (.int lv)) (host := "") (f := ("com/example/hornconv/hornconv/FactTable", "live", "I", .int)) 8 d7_61 (Or.inl (hw _ (List.mem_of_getElem? (i := 52) rfl))) Via.refl A_t rfl rfl ?_
  refine w_iconst ok d7_64 (v := (1 : Int32)) rfl ?_
  refine w_isub ok d7_65 ?_
  refine w_putfield ok (host := "") (f := ("com/example/hornconv/hornconv/FactTable", "live", "I", .int)) 8 d7_66 (Or.inl (hw _ (List.mem_of_getElem? (i := 52) rfl))) Via.refl A_t (la_FactTable hw) rfl rfl (Or.inl (hw _ (List.mem_of_getElem? (i := 53) rfl))) (hw _ (List.mem_of_getElem? (i := 2) rfl)) rfl rfl ge_t (fun h3 W_h3 A1_h3 => ?_)
  replace Kp := Kp.wr W_h3 (Or.inl (by simp))
  replace A_ag := A_ag.other W_h3 (Ne.symm ne_t_ag)
  replace A_de := A_de.other W_h3 (Ne.symm ne_t_de)
  replace A_sl := A_sl.other W_h3 (Ne.symm ne_t_sl)
  replace A_po := A_po.other W_h3 (Ne.symm ne_t_po)
  replace A_t : Ob Z h3 t "com/example/hornconv/hornconv/FactTable" fl_FactTable [(.ref un), (.ref me), (.int (3 : Int32)), (.ref ag), (.ref de), (.ref sl), (.ref po), (.int rw), (.int (lv - (1 : Int32))), (.int us)] := A1_h3
  refine w_aloadN ok d7_69 rfl rfl ?_
  refine w_getfield ok (v := (.int (3 : Int32))) (host := "") (f := ("com/example/hornconv/hornconv/FactTable", "arity", "I", .int)) 2 d7_70 (Or.inl (hw _ (List.mem_of_getElem? (i := 15) rfl))) Via.refl A_t rfl rfl ?_
  refine w_iconst ok d7_73 (v := (1 : Int32)) rfl ?_
  refine w_icmp_ne ok d7_74 (pc' := 88) (by decide) (fun hc5 => ?_) (fun hc5 => False.elim (by revert hc5; decide))
  show W K l _ n0 _ h3 0 0 88 #[.val (.ref t), .val (.int (0 : Int32)), .val (.int (7 : Int32)), .val (.int (Int32.ofNat r)), s4] []
  refine w_iconst ok d7_88 (v := (0 : Int32)) rfl ?_
  refine w_istore ok d7_89 (L' := #[.val (.ref t), .val (.int (0 : Int32)), .val (.int (7 : Int32)), .val (.int (Int32.ofNat r)), .val (.int (0 : Int32))]) (by exact XS.store1 (o := s4) rfl o4 rfl) ?_
  refine w_iload ok d7_91 rfl ?_
  refine w_aloadN ok d7_93 rfl rfl ?_
  refine w_getfield ok (v := (.ref po)) (host := "") (f := ("com/example/hornconv/hornconv/FactTable", "positions", "[Lcom/example/hornconv/hornconv/FactTable$PositionIndex;", (.array (.object "com/example/hornconv/hornconv/FactTable$PositionIndex")))) 6 d7_94 (Or.inl (hw _ (List.mem_of_getElem? (i := 30) rfl))) Via.refl A_t rfl rfl ?_
  refine w_arraylength ok (z := (3 : Int32)) d7_97 A_po rfl (by decide) ?_
  show W K l _ n0 _ h3 0 0 98 #[.val (.ref t), .val (.int (0 : Int32)), .val (.int (7 : Int32)), .val (.int (Int32.ofNat r)), .val (.int (0 : Int32))] [(.int (3 : Int32)), (.int (0 : Int32))]
  refine w_icmp_ge ok d7_98 (pc' := 134) (by decide) (fun hc7 => False.elim (by revert hc7; decide)) (fun hc7 => ?_)
  show W K l _ n0 _ h3 0 0 101 #[.val (.ref t), .val (.int (0 : Int32)), .val (.int (7 : Int32)), .val (.int (Int32.ofNat r)), .val (.int (0 : Int32))] []
  refine w_aloadN ok d7_101 rfl rfl ?_
  refine w_getfield ok (v := (.ref po)) (host := "") (f := ("com/example/hornconv/hornconv/FactTable", "positions", "[Lcom/example/hornconv/hornconv/FactTable$PositionIndex;", (.array (.object "com/example/hornconv/hornconv/FactTable$PositionIndex")))) 6 d7_102 (Or.inl (hw _ (List.mem_of_getElem? (i := 30) rfl))) Via.refl A_t rfl rfl ?_
  refine w_iload ok d7_105 rfl ?_
  refine w_aaload ok (v := .null) d7_107 A_po rfl (by decide) rfl ?_
  refine w_ifnullY ok d7_108 (pc' := 128) (by decide) ?_
  show W K l _ n0 _ h3 0 0 128 #[.val (.ref t), .val (.int (0 : Int32)), .val (.int (7 : Int32)), .val (.int (Int32.ofNat r)), .val (.int (0 : Int32))] []
  refine w_iinc ok d7_128 (u := (1 : Int32)) rfl rfl (L' := #[.val (.ref t), .val (.int (0 : Int32)), .val (.int (7 : Int32)), .val (.int (Int32.ofNat r)), .val (.int (1 : Int32))]) rfl ?_
  show W K l _ n0 _ h3 0 0 131 #[.val (.ref t), .val (.int (0 : Int32)), .val (.int (7 : Int32)), .val (.int (Int32.ofNat r)), .val (.int (1 : Int32))] []
  refine w_goto ok d7_131 (pc' := 91) (by decide) ?_
  refine w_iload ok d7_91 rfl ?_
  refine w_aloadN ok d7_93 rfl rfl ?_
  refine w_getfield ok (v := (.ref po)) (host := "") (f := ("com/example/hornconv/hornconv/FactTable", "positions", "[Lcom/example/hornconv/hornconv/FactTable$PositionIndex;", (.array (.object "com/example/hornconv/hornconv/FactTable$PositionIndex")))) 6 d7_94 (Or.inl (hw _ (List.mem_of_getElem? (i := 30) rfl))) Via.refl A_t rfl rfl ?_
  refine w_arraylength ok (z := (3 : Int32)) d7_97 A_po rfl (by decide) ?_
  show W K l _ n0 _ h3 0 0 98 #[.val (.ref t), .val (.int (0 : Int32)), .val (.int (7 : Int32)), .val (.int (Int32.ofNat r)), .val (.int (1 : Int32))] [(.int (3 : Int32)), (.int (1 : Int32))]
  refine w_icmp_ge ok d7_98 (pc' := 134) (by decide) (fun hc9 => False.elim (by revert hc9; decide)) (fun hc9 => ?_)
  show W K l _ n0 _ h3 0 0 101 #[.val (.ref t), .val (.int (0 : Int32)), .val (.int (7 : Int32)), .val (.int (Int32.ofNat r)), .val (.int (1 : Int32))] []
  refine w_aloadN ok d7_101 rfl rfl ?_
  refine w_getfield ok (v := (.ref po)) (host := "") (f := ("com/example/hornconv/hornconv/FactTable", "positions", "[Lcom/example/hornconv/hornconv/FactTable$PositionIndex;", (.array (.object "com/example/hornconv/hornconv/FactTable$PositionIndex")))) 6 d7_102 (Or.inl (hw _ (List.mem_of_getElem? (i := 30) rfl))) Via.refl A_t rfl rfl ?_
  refine w_iload ok d7_105 rfl ?_
  refine w_aaload ok (v := .null) d7_107 A_po rfl (by decide) rfl ?_
  refine w_ifnullY ok d7_108 (pc' := 128) (by decide) ?_
  show W K l _ n0 _ h3 0 0 128 #[.val (.ref t), .val (.int (0 : Int32)), .val (.int (7 : Int32)), .val (.int (Int32.ofNat r)), .val (.int (1 : Int32))] []
  refine w_iinc ok d7_128 (u := (1 : Int32)) rfl rfl (L' := #[.val (.ref t), .val (.int (0 : Int32)), .val (.int (7 : Int32)), .val (.int (Int32.ofNat r)), .val (.int (2 : Int32))]) rfl ?_
  show W K l _ n0 _ h3 0 0 131 #[.val (.ref t), .val (.int (0 : Int32)), .val (.int (7 : Int32)), .val (.int (Int32.ofNat r)), .val (.int (2 : Int32))] []
  refine w_goto ok d7_131 (pc' := 91) (by decide) ?_
  refine w_iload ok d7_91 rfl ?_
  refine w_aloadN ok d7_93 rfl rfl ?_
  refine w_getfield ok (v := (.ref po)) (host := "") (f := ("com/example/hornconv/hornconv/FactTable", "positions", "[Lcom/example/hornconv/hornconv/FactTable$PositionIndex;", (.array (.object "com/example/hornconv/hornconv/FactTable$PositionIndex")))) 6 d7_94 (Or.inl (hw _ (List.mem_of_getElem? (i := 30) rfl))) Via.refl A_t rfl rfl ?_
  refine w_arraylength ok (z := (3 : Int32)) d7_97 A_po rfl (by decide) ?_
  show W K l _ n0 _ h3 0 0 98 #[.val (.ref t), .val (.int (0 : Int32)), .val (.int (7 : Int32)), .val (.int (Int32.ofNat r)), .val (.int (2 : Int32))] [(.int (3 : Int32)), (.int (2 : Int32))]
  refine w_icmp_ge ok d7_98 (pc' := 134) (by decide) (fun hc11 => False.elim (by revert hc11; decide)) (fun hc11 => ?_)
  show W K l _ n0 _ h3 0 0 101 #[.val (.ref t), .val (.int (0 : Int32)), .val (.int (7 : Int32)), .val (.int (Int32.ofNat r)), .val (.int (2 : Int32))] []
  refine w_aloadN ok d7_101 rfl rfl ?_
  refine w_getfield ok (v := (.ref po)) (host := "") (f := ("com/example/hornconv/hornconv/FactTable", "positions", "[Lcom/example/hornconv/hornconv/FactTable$PositionIndex;", (.array (.object "com/example/hornconv/hornconv/FactTable$PositionIndex")))) 6 d7_102 (Or.inl (hw _ (List.mem_of_getElem? (i := 30) rfl))) Via.refl A_t rfl rfl ?_
  refine w_iload ok d7_105 rfl ?_
  refine w_aaload ok (v := .null) d7_107 A_po rfl (by decide) rfl ?_
  refine w_ifnullY ok d7_108 (pc' := 128) (by decide) ?_
  show W K l _ n0 _ h3 0 0 128 #[.val (.ref t), .val (.int (0 : Int32)), .val (.int (7 : Int32)), .val (.int (Int32.ofNat r)), .val (.int (2 : Int32))] []
  refine w_iinc ok d7_128 (u := (1 : Int32)) rfl rfl (L' := #[.val (.ref t), .val (.int (0 : Int32)), .val (.int (7 : Int32)), .val (.int (Int32.ofNat r)), .val (.int (3 : Int32))]) rfl ?_
  show W K l _ n0 _ h3 0 0 131 #[.val (.ref t), .val (.int (0 : Int32)), .val (.int (7 : Int32)), .val (.int (Int32.ofNat r)), .val (.int (3 : Int32))] []
  refine w_goto ok d7_131 (pc' := 91) (by decide) ?_
  refine w_iload ok d7_91 rfl ?_
  refine w_aloadN ok d7_93 rfl rfl ?_
  refine w_getfield ok (v := (.ref po)) (host := "") (f := ("com/example/hornconv/hornconv/FactTable", "positions", "[Lcom/example/hornconv/hornconv/FactTable$PositionIndex;", (.array (.object "com/example/hornconv/hornconv/FactTable$PositionIndex")))) 6 d7_94 (Or.inl (hw _ (List.mem_of_getElem? (i := 30) rfl))) Via.refl A_t rfl rfl ?_
  refine w_arraylength ok (z := (3 : Int32)) d7_97 A_po rfl (by decide) ?_
  show W K l _ n0 _ h3 0 0 98 #[.val (.ref t), .val (.int (0 : Int32)), .val (.int (7 : Int32)), .val (.int (Int32.ofNat r)), .val (.int (3 : Int32))] [(.int (3 : Int32)), (.int (3 : Int32))]
  refine w_icmp_ge ok d7_98 (pc' := 134) (by decide) (fun hc13 => ?_) (fun hc13 => False.elim (by revert hc13; decide))
  show W K l _ n0 _ h3 0 0 134 #[.val (.ref t), .val (.int (0 : Int32)), .val (.int (7 : Int32)), .val (.int (Int32.ofNat r)), .val (.int (3 : Int32))] []
  refine w_ret ok d7_134 (by decide) (by decide) ?_
  exact ⟨rfl, r, hr8, hfr, Kp, A_t, A_de, A_sl⟩
set_option maxRecDepth 65536 in
set_option maxHeartbeats 40000000 in
theorem lp_rm0 (l : Launch) (Z : State) (a0 : Array Value) (hw : ∀ d ∈ tables_1, d.before a0 Z = true) (n0 : Nat) (h0 : Heap) (K : Cx) (ok : Ok K Z n0 "com/example/hornconv/hornconv/FactTable" prog_3_method_8_code 5 none "remove") (t un me ag de sl po : Addr) (rw lv us : Int32) (x0 x1 x2 x3 x4 x5 x6 x7 x8 x9 x10 x11 d0 d1 d2 d3 : Int32) (f : Nat → Int32) (A_t : Ob Z h0 t "com/example/hornconv/hornconv/FactTable" fl_FactTable [(.ref un), (.ref me), (.int (3 : Int32)), (.ref ag), (.ref de), (.ref sl), (.ref po), (.int rw), (.int lv), (.int us)]) (A_ag : PA .int Z h0 ag [(.int x0), (.int x1), (.int x2), (.int x3), (.int x4), (.int x5), (.int x6), (.int x7), (.int x8), (.int x9), (.int x10), (.int x11)]) (A_de : PA .boolean Z h0 de [(.int d0), (.int d1), (.int d2), (.int d3)]) (A_sl : PA .int Z h0 sl (sv 8 f)) (A_po : PA (.object "com/example/hornconv/hornconv/FactTable$PositionIndex") Z h0 po [.null, .null, .null]) (ge_t : n0 ≤ t) (ge_de : n0 ≤ de) (ge_sl : n0 ≤ sl) (ne_t_ag : t ≠ ag) (ne_t_de : t ≠ de) (ne_t_sl : t ≠ sl) (ne_t_po : t ≠ po) (ne_ag_de : ag ≠ de) (ne_ag_sl : ag ≠ sl) (ne_ag_po : ag ≠ po) (ne_de_sl : de ≠ sl) (ne_sl_po : sl ≠ po) (ne_de_po : de ≠ po) (s : Nat) (s4 : Slot) (o4 : One s4) :
    ∀ (c i : Nat), f ((s + (i + c)) % 8) = 0 → W K l ({ frames := 1, cells := 0, slots := 0, locals := 16 } : Room) n0 (fun u h => u = none ∧ ∃ r, r < 8 ∧ f r = 0 ∧ Keep h0 h [t, de, sl] ∧ Ob Z h t "com/example/hornconv/hornconv/FactTable" fl_FactTable [(.ref un), (.ref me), (.int (3 : Int32)), (.ref ag), (.ref de), (.ref sl), (.ref po), (.int rw), (.int (lv - 1)), (.int us)] ∧ PA .boolean Z h de [(.int (1 : Int32)), (.int d1), (.int d2), (.int d3)] ∧ PA .int Z h sl (sv 8 (upd f r (-2)))) h0 0 0 25 #[.val (.ref t), .val (.int (0 : Int32)), .val (.int (7 : Int32)), .val (.int (Int32.ofNat ((s + i) % 8))), s4] [] := by
  intro c
  induction c with
  | zero =>
    intro i hc
    have hc : f ((s + i) % 8) = 0 := hc
    show W K l _ n0 _ h0 0 0 25 #[.val (.ref t), .val (.int (0 : Int32)), .val (.int (7 : Int32)), .val (.int (Int32.ofNat ((s + i) % 8))), s4] []
    refine w_aloadN ok d7_25 rfl rfl ?_
    refine w_getfield ok (v := (.ref sl)) (host := "") (f := ("com/example/hornconv/hornconv/FactTable", "slots", "[I", (.array .int))) 5 d7_26 (Or.inl (hw _ (List.mem_of_getElem? (i := 22) rfl))) Via.refl A_t rfl rfl ?_
    refine w_iloadN ok d7_29 rfl ?_
    refine w_iaload ok (v := (.int (f ((s + i) % 8)))) d7_30 A_sl (own_nn (own_o8 _)) (by rw [own_clamp (own_o8 _)]; exact sv_get (by omega)) ?_
    refine w_iloadN ok d7_31 rfl ?_
    refine w_icmp_eq ok d7_32 (pc' := 44) (by decide) (fun hc1 => ?_) (fun hc1 => False.elim (by exact hc1 hc))
    show W K l _ n0 _ h0 0 0 44 #[.val (.ref t), .val (.int (0 : Int32)), .val (.int (7 : Int32)), .val (.int (Int32.ofNat ((s + i) % 8))), s4] []
    exact c44_0 l Z a0 hw n0 h0 K ok t un me ag de sl po rw lv us x0 x1 x2 x3 x4 x5 x6 x7 x8 x9 x10 x11 d0 d1 d2 d3 f A_t A_ag A_de A_sl A_po ge_t ge_de ge_sl ne_t_ag ne_t_de ne_t_sl ne_t_po ne_ag_de ne_ag_sl ne_ag_po ne_de_sl ne_sl_po ne_de_po ((s + i) % 8) (by omega) hc s4 o4
  | succ c ih =>
    intro i hc
    show W K l _ n0 _ h0 0 0 25 #[.val (.ref t), .val (.int (0 : Int32)), .val (.int (7 : Int32)), .val (.int (Int32.ofNat ((s + i) % 8))), s4] []
    refine w_aloadN ok d7_25 rfl rfl ?_
    refine w_getfield ok (v := (.ref sl)) (host := "") (f := ("com/example/hornconv/hornconv/FactTable", "slots", "[I", (.array .int))) 5 d7_26 (Or.inl (hw _ (List.mem_of_getElem? (i := 22) rfl))) Via.refl A_t rfl rfl ?_
    refine w_iloadN ok d7_29 rfl ?_
    refine w_iaload ok (v := (.int (f ((s + i) % 8)))) d7_30 A_sl (own_nn (own_o8 _)) (by rw [own_clamp (own_o8 _)]; exact sv_get (by omega)) ?_
    refine w_iloadN ok d7_31 rfl ?_
    refine w_icmp_eq ok d7_32 (pc' := 44) (by decide) (fun hc3 => ?_) (fun hc3 => ?_)
    · show W K l _ n0 _ h0 0 0 44 #[.val (.ref t), .val (.int (0 : Int32)), .val (.int (7 : Int32)), .val (.int (Int32.ofNat ((s + i) % 8))), s4] []
      exact c44_0 l Z a0 hw n0 h0 K ok t un me ag de sl po rw lv us x0 x1 x2 x3 x4 x5 x6 x7 x8 x9 x10 x11 d0 d1 d2 d3 f A_t A_ag A_de A_sl A_po ge_t ge_de ge_sl ne_t_ag ne_t_de ne_t_sl ne_t_po ne_ag_de ne_ag_sl ne_ag_po ne_de_sl ne_sl_po ne_de_po ((s + i) % 8) (by omega) hc3 s4 o4
    · show W K l _ n0 _ h0 0 0 35 #[.val (.ref t), .val (.int (0 : Int32)), .val (.int (7 : Int32)), .val (.int (Int32.ofNat ((s + i) % 8))), s4] []
      refine w_iloadN ok d7_35 rfl ?_
      refine w_iconst ok d7_36 (v := (1 : Int32)) rfl ?_
      refine w_iadd ok d7_37 ?_
      refine w_iloadN ok d7_38 rfl ?_
      refine w_iand ok d7_39 ?_
      refine w_istoreN ok d7_40 (L' := #[.val (.ref t), .val (.int (0 : Int32)), .val (.int (7 : Int32)), .val (.int (((Int32.ofNat ((s + i) % 8)) + (1 : Int32)) &&& (7 : Int32))), s4]) rfl ?_
      refine w_goto ok d7_41 (pc' := 25) (by decide) ?_
      show W K l _ n0 _ h0 0 0 25 #[.val (.ref t), .val (.int (0 : Int32)), .val (.int (7 : Int32)), .val (.int (((Int32.ofNat ((s + i) % 8)) + (1 : Int32)) &&& (7 : Int32))), s4] []
      rw [show (Int32.ofNat ((s + i) % 8) + 1) &&& 7 = Int32.ofNat ((s + (i + 1)) % 8) from own_nx (s + i)]
      exact ih (i + 1) (by rw [show s + (i + 1 + c) = s + (i + (c + 1)) by omega]; exact hc)
set_option maxRecDepth 65536 in
set_option maxHeartbeats 40000000 in
theorem rm_rm0 (l : Launch) (Z : State) (a0 : Array Value) (hw : ∀ d ∈ tables_1, d.before a0 Z = true) (ws : List Jvm.Cond) (n0 : Nat) (h0 : Heap) (Z0 : Old Z n0 h0) (t un me ag de sl po : Addr) (rw lv us : Int32) (x0 x1 x2 x3 x4 x5 x6 x7 x8 x9 x10 x11 d0 d1 d2 d3 : Int32) (f : Nat → Int32) (A_t : Ob Z h0 t "com/example/hornconv/hornconv/FactTable" fl_FactTable [(.ref un), (.ref me), (.int (3 : Int32)), (.ref ag), (.ref de), (.ref sl), (.ref po), (.int rw), (.int lv), (.int us)]) (A_ag : PA .int Z h0 ag [(.int x0), (.int x1), (.int x2), (.int x3), (.int x4), (.int x5), (.int x6), (.int x7), (.int x8), (.int x9), (.int x10), (.int x11)]) (A_de : PA .boolean Z h0 de [(.int d0), (.int d1), (.int d2), (.int d3)]) (A_sl : PA .int Z h0 sl (sv 8 f)) (A_po : PA (.object "com/example/hornconv/hornconv/FactTable$PositionIndex") Z h0 po [.null, .null, .null]) (ge_t : n0 ≤ t) (ge_de : n0 ≤ de) (ge_sl : n0 ≤ sl) (ne_t_ag : t ≠ ag) (ne_t_de : t ≠ de) (ne_t_sl : t ≠ sl) (ne_t_po : t ≠ po) (ne_ag_de : ag ≠ de) (ne_ag_sl : ag ≠ sl) (ne_ag_po : ag ≠ po) (ne_de_sl : de ≠ sl) (ne_sl_po : sl ≠ po) (ne_de_po : de ≠ po) (hE : ∃ m, f (((own_hs [x0, x1, x2] &&& 7).toNatClampNeg + m) % 8) = 0)  :
    Met l Z n0 (⟨"com/example/hornconv/hornconv/FactTable", "remove", "(I)V"⟩ : MethodName) prog_3_method_8_code 5 none ws ({ frames := 1, cells := 0, slots := 0, locals := 16 } : Room) #[(.ref t), (.int (0 : Int32))] h0 (fun u h => u = none ∧ ∃ r, r < 8 ∧ f r = 0 ∧ Keep h0 h [t, de, sl] ∧ Ob Z h t "com/example/hornconv/hornconv/FactTable" fl_FactTable [(.ref un), (.ref me), (.int (3 : Int32)), (.ref ag), (.ref de), (.ref sl), (.ref po), (.int rw), (.int (lv - 1)), (.int us)] ∧ PA .boolean Z h de [(.int (1 : Int32)), (.int d1), (.int d2), (.int d3)] ∧ PA .int Z h sl (sv 8 (upd f r (-2)))) := by
  refine met_of Z0 (plainFor_of_name pn_com_example_hornconv_hornconv_FactTable) (Ls := #[.val (.ref t), .val (.int (0 : Int32)), .unset, .unset, .unset]) (fun m => by first | (simp [entryFrame, mkF, argsToLocals, Value.category]; done) | rfl) ?_
  intro K ok
  show W K l _ n0 _ h0 0 0 0 #[.val (.ref t), .val (.int (0 : Int32)), .unset, .unset, .unset] []
  refine w_aloadN ok d7_0 rfl rfl ?_
  refine w_getfield ok (v := (.ref sl)) (host := "") (f := ("com/example/hornconv/hornconv/FactTable", "slots", "[I", (.array .int))) 5 d7_1 (Or.inl (hw _ (List.mem_of_getElem? (i := 22) rfl))) Via.refl A_t rfl rfl ?_
  refine w_arraylength ok (z := (8 : Int32)) d7_4 A_sl (sv_len 8 _) (by decide) ?_
  show W K l _ n0 _ h0 0 0 5 #[.val (.ref t), .val (.int (0 : Int32)), .unset, .unset, .unset] [(.int (8 : Int32))]
  refine w_iconst ok d7_5 (v := (1 : Int32)) rfl ?_
  refine w_isub ok d7_6 ?_
  show W K l _ n0 _ h0 0 0 7 #[.val (.ref t), .val (.int (0 : Int32)), .unset, .unset, .unset] [(.int (7 : Int32))]
  refine w_istoreN ok d7_7 (L' := #[.val (.ref t), .val (.int (0 : Int32)), .val (.int (7 : Int32)), .unset, .unset]) rfl ?_
  refine w_aloadN ok d7_8 rfl rfl ?_
  refine w_aloadN ok d7_9 rfl rfl ?_
  refine w_getfield ok (v := (.ref ag)) (host := "") (f := ("com/example/hornconv/hornconv/FactTable", "arguments", "[I", (.array .int))) 3 d7_10 (Or.inl (hw _ (List.mem_of_getElem? (i := 17) rfl))) Via.refl A_t rfl rfl ?_
  refine w_iloadN ok d7_13 rfl ?_
  refine w_aloadN ok d7_14 rfl rfl ?_
  refine w_getfield ok (v := (.int (3 : Int32))) (host := "") (f := ("com/example/hornconv/hornconv/FactTable", "arity", "I", .int)) 2 d7_15 (Or.inl (hw _ (List.mem_of_getElem? (i := 15) rfl))) Via.refl A_t rfl rfl ?_
  refine w_imul ok d7_18 ?_
  show W K l _ n0 _ h0 0 0 19 #[.val (.ref t), .val (.int (0 : Int32)), .val (.int (7 : Int32)), .unset, .unset] [(.int (0 : Int32)), (.ref ag), (.ref t)]
  refine w_callP ok (y := (⟨"com/example/hornconv/hornconv/FactTable", "hash", "([II)I"⟩ : MethodName)) (a := t) (argsL := [(.ref ag), (.int (0 : Int32))]) (rest := []) d7_19 (hw _ (List.mem_of_getElem? (i := 37) rfl)) (hw _ (List.mem_of_getElem? (i := 38) rfl)) (hw _ (List.mem_of_getElem? (i := 39) rfl)) (hw _ (List.mem_of_getElem? (i := 2) rfl)) (hw _ (List.mem_of_getElem? (i := 3) rfl)) (hw _ (List.mem_of_getElem? (i := 40) rfl)) (by decide) A_t.1 pd_285bII29I rfl rfl (by decide) (Nat.le_of_ble_eq_true rfl) (by decide) (by decide) (fun z0 => rm_h_12_0 l Z a0 hw [] n0 h0 z0 t ag un me ag de sl po rw lv us x0 x1 x2 x3 x4 x5 x6 x7 x8 x9 x10 x11 A_t A_ag) (fun v1 h2 qv1 => ?_)
  obtain ⟨rfl, rfl⟩ := qv1
  show W K l _ n0 _ h0 0 0 22 #[.val (.ref t), .val (.int (0 : Int32)), .val (.int (7 : Int32)), .unset, .unset] [(.int (own_hs [x0, x1, x2]))]
  refine w_iloadN ok d7_22 rfl ?_
  refine w_iand ok d7_23 ?_
  refine w_istoreN ok d7_24 (L' := #[.val (.ref t), .val (.int (0 : Int32)), .val (.int (7 : Int32)), .val (.int ((own_hs [x0, x1, x2]) &&& (7 : Int32))), .unset]) rfl ?_
  show W K l _ n0 _ h0 0 0 25 #[.val (.ref t), .val (.int (0 : Int32)), .val (.int (7 : Int32)), .val (.int ((own_hs [x0, x1, x2]) &&& (7 : Int32))), .unset] []
  obtain ⟨c, hc⟩ := hE
  have e := own_st (own_hs [x0, x1, x2])
  generalize hn : (own_hs [x0, x1, x2] &&& 7).toNatClampNeg = n at hc e ⊢
  rw [e]
  exact lp_rm0 l Z a0 hw n0 h0 K ok t un me ag de sl po rw lv us x0 x1 x2 x3 x4 x5 x6 x7 x8 x9 x10 x11 d0 d1 d2 d3 f A_t A_ag A_de A_sl A_po ge_t ge_de ge_sl ne_t_ag ne_t_de ne_t_sl ne_t_po ne_ag_de ne_ag_sl ne_ag_po ne_de_sl ne_sl_po ne_de_po n _ One.u c 0 (by rw [Nat.zero_add]; exact hc)
set_option maxRecDepth 65536 in
set_option maxHeartbeats 40000000 in
theorem c44_1 (l : Launch) (Z : State) (a0 : Array Value) (hw : ∀ d ∈ tables_1, d.before a0 Z = true) (n0 : Nat) (h0 : Heap) (K : Cx) (ok : Ok K Z n0 "com/example/hornconv/hornconv/FactTable" prog_3_method_8_code 5 none "remove") (t un me ag de sl po : Addr) (rw lv us : Int32) (x0 x1 x2 x3 x4 x5 x6 x7 x8 x9 x10 x11 d0 d1 d2 d3 : Int32) (f : Nat → Int32) (A_t : Ob Z h0 t "com/example/hornconv/hornconv/FactTable" fl_FactTable [(.ref un), (.ref me), (.int (3 : Int32)), (.ref ag), (.ref de), (.ref sl), (.ref po), (.int rw), (.int lv), (.int us)]) (A_ag : PA .int Z h0 ag [(.int x0), (.int x1), (.int x2), (.int x3), (.int x4), (.int x5), (.int x6), (.int x7), (.int x8), (.int x9), (.int x10), (.int x11)]) (A_de : PA .boolean Z h0 de [(.int d0), (.int d1), (.int d2), (.int d3)]) (A_sl : PA .int Z h0 sl (sv 8 f)) (A_po : PA (.object "com/example/hornconv/hornconv/FactTable$PositionIndex") Z h0 po [.null, .null, .null]) (ge_t : n0 ≤ t) (ge_de : n0 ≤ de) (ge_sl : n0 ≤ sl) (ne_t_ag : t ≠ ag) (ne_t_de : t ≠ de) (ne_t_sl : t ≠ sl) (ne_t_po : t ≠ po) (ne_ag_de : ag ≠ de) (ne_ag_sl : ag ≠ sl) (ne_ag_po : ag ≠ po) (ne_de_sl : de ≠ sl) (ne_sl_po : sl ≠ po) (ne_de_po : de ≠ po) (r : Nat) (hr8 : r < 8) (hfr : f r = 1) (s4 : Slot) (o4 : One s4) :
    W K l ({ frames := 1, cells := 0, slots := 0, locals := 16 } : Room) n0 (fun u h => u = none ∧ ∃ r, r < 8 ∧ f r = 1 ∧ Keep h0 h [t, de, sl] ∧ Ob Z h t "com/example/hornconv/hornconv/FactTable" fl_FactTable [(.ref un), (.ref me), (.int (3 : Int32)), (.ref ag), (.ref de), (.ref sl), (.ref po), (.int rw), (.int (lv - 1)), (.int us)] ∧ PA .boolean Z h de [(.int d0), (.int (1 : Int32)), (.int d2), (.int d3)] ∧ PA .int Z h sl (sv 8 (upd f r (-2)))) h0 0 0 44 #[.val (.ref t), .val (.int (1 : Int32)), .val (.int (7 : Int32)), .val (.int (Int32.ofNat r)), s4] [] := by
  have Kp : Keep h0 h0 [t, de, sl] := Keep.refl _ _
  show W K l _ n0 _ h0 0 0 44 #[.val (.ref t), .val (.int (1 : Int32)), .val (.int (7 : Int32)), .val (.int (Int32.ofNat r)), s4] []
  refine w_aloadN ok d7_44 rfl rfl ?_
  refine w_getfield ok (v := (.ref sl)) (host := "") (f := ("com/example/hornconv/hornconv/FactTable", "slots", "[I", (.array .int))) 5 d7_45 (Or.inl (hw _ (List.mem_of_getElem? (i := 22) rfl))) Via.refl A_t rfl rfl ?_
  refine w_iloadN ok d7_48 rfl ?_
  refine w_bipush ok d7_49 (v := (-2 : Int32)) rfl ?_
  refine w_iastore ok d7_51 A_sl ge_sl (own_nn (own_ofNat (by omega))) (by rw [own_clamp (own_ofNat (j := r) (by omega)), sv_len]; exact hr8) (fun h1 W_h1 A1_h1 => ?_)
  replace Kp := Kp.wr W_h1 (Or.inl (by simp))
  replace A_t := A_t.other W_h1 ne_t_sl
  replace A_ag := A_ag.other W_h1 ne_ag_sl
  replace A_de := A_de.other W_h1 ne_de_sl
  replace A_po := A_po.other W_h1 (Ne.symm ne_sl_po)
  replace A_sl : PA .int Z h1 sl ((sv 8 f).set (Int32.ofNat r).toNatClampNeg (.int (-2 : Int32))) := A1_h1
  rw [own_clamp (own_ofNat (j := r) (by omega)), sv_set] at A_sl
  refine w_aloadN ok d7_52 rfl rfl ?_
  refine w_getfield ok (v := (.ref de)) (host := "") (f := ("com/example/hornconv/hornconv/FactTable", "dead", "[Z", (.array .boolean))) 4 d7_53 (Or.inl (hw _ (List.mem_of_getElem? (i := 20) rfl))) Via.refl A_t rfl rfl ?_
  refine w_iloadN ok d7_56 rfl ?_
  refine w_iconst ok d7_57 (v := (1 : Int32)) rfl ?_
  refine w_zastore ok d7_58 A_de ge_de (by decide) (Nat.le_of_ble_eq_true rfl) (fun h2 W_h2 A1_h2 => ?_)
  replace Kp := Kp.wr W_h2 (Or.inl (by simp))
  replace A_t := A_t.other W_h2 ne_t_de
  replace A_ag := A_ag.other W_h2 ne_ag_de
  replace A_sl := A_sl.other W_h2 (Ne.symm ne_de_sl)
  replace A_po := A_po.other W_h2 (Ne.symm ne_de_po)
  replace A_de : PA .boolean Z h2 de [(.int d0), (.int (1 : Int32)), (.int d2), (.int d3)] := A1_h2
  refine w_aloadN ok d7_59 rfl rfl ?_
  refine w_dup ok d7_60 rfl ?_
  refine w_getfield ok (v := (.int lv)) (host := "") (f := ("com/example/hornconv/hornconv/FactTable", "live", "I", .int)) 8 d7_61 (Or.inl (hw _ (List.mem_of_getElem? (i := 52) rfl))) Via.refl A_t rfl rfl ?_
  refine w_iconst ok d7_64 (v := (1 : Int32)) rfl ?_
  refine w_isub ok d7_65 ?_
  refine w_putfield ok (host := "") (f := ("com/example/hornconv/hornconv/FactTable", "live", "I", .int)) 8 d7_66 (Or.inl (hw _ (List.mem_of_getElem? (i := 52) rfl))) Via.refl A_t (la_FactTable hw) rfl rfl (Or.inl (hw _ (List.mem_of_getElem? (i := 53) rfl))) (hw _ (List.mem_of_getElem? (i := 2) rfl)) rfl rfl ge_t (fun h3 W_h3 A1_h3 => ?_)
  replace Kp := Kp.wr W_h3 (Or.inl (by simp))
  replace A_ag := A_ag.other W_h3 (Ne.symm ne_t_ag)
  replace A_de := A_de.other W_h3 (Ne.symm ne_t_de)
  replace A_sl := A_sl.other W_h3 (Ne.symm ne_t_sl)
  replace A_po := A_po.other W_h3 (Ne.symm ne_t_po)
  replace A_t : Ob Z h3 t "com/example/hornconv/hornconv/FactTable" fl_FactTable [(.ref un), (.ref me), (.int (3 : Int32)), (.ref ag), (.ref de), (.ref sl), (.ref po), (.int rw), (.int (lv - (1 : Int32))), (.int us)] := A1_h3
  refine w_aloadN ok d7_69 rfl rfl ?_
  refine w_getfield ok (v := (.int (3 : Int32))) (host := "") (f := ("com/example/hornconv/hornconv/FactTable", "arity", "I", .int)) 2 d7_70 (Or.inl (hw _ (List.mem_of_getElem? (i := 15) rfl))) Via.refl A_t rfl rfl ?_
  refine w_iconst ok d7_73 (v := (1 : Int32)) rfl ?_
  refine w_icmp_ne ok d7_74 (pc' := 88) (by decide) (fun hc5 => ?_) (fun hc5 => False.elim (by revert hc5; decide))
  show W K l _ n0 _ h3 0 0 88 #[.val (.ref t), .val (.int (1 : Int32)), .val (.int (7 : Int32)), .val (.int (Int32.ofNat r)), s4] []
  refine w_iconst ok d7_88 (v := (0 : Int32)) rfl ?_
  refine w_istore ok d7_89 (L' := #[.val (.ref t), .val (.int (1 : Int32)), .val (.int (7 : Int32)), .val (.int (Int32.ofNat r)), .val (.int (0 : Int32))]) (by exact XS.store1 (o := s4) rfl o4 rfl) ?_
  refine w_iload ok d7_91 rfl ?_
  refine w_aloadN ok d7_93 rfl rfl ?_
  refine w_getfield ok (v := (.ref po)) (host := "") (f := ("com/example/hornconv/hornconv/FactTable", "positions", "[Lcom/example/hornconv/hornconv/FactTable$PositionIndex;", (.array (.object "com/example/hornconv/hornconv/FactTable$PositionIndex")))) 6 d7_94 (Or.inl (hw _ (List.mem_of_getElem? (i := 30) rfl))) Via.refl A_t rfl rfl ?_
  refine w_arraylength ok (z := (3 : Int32)) d7_97 A_po rfl (by decide) ?_
  show W K l _ n0 _ h3 0 0 98 #[.val (.ref t), .val (.int (1 : Int32)), .val (.int (7 : Int32)), .val (.int (Int32.ofNat r)), .val (.int (0 : Int32))] [(.int (3 : Int32)), (.int (0 : Int32))]
  refine w_icmp_ge ok d7_98 (pc' := 134) (by decide) (fun hc7 => False.elim (by revert hc7; decide)) (fun hc7 => ?_)
  show W K l _ n0 _ h3 0 0 101 #[.val (.ref t), .val (.int (1 : Int32)), .val (.int (7 : Int32)), .val (.int (Int32.ofNat r)), .val (.int (0 : Int32))] []
  refine w_aloadN ok d7_101 rfl rfl ?_
  refine w_getfield ok (v := (.ref po)) (host := "") (f := ("com/example/hornconv/hornconv/FactTable", "positions", "[Lcom/example/hornconv/hornconv/FactTable$PositionIndex;", (.array (.object "com/example/hornconv/hornconv/FactTable$PositionIndex")))) 6 d7_102 (Or.inl (hw _ (List.mem_of_getElem? (i := 30) rfl))) Via.refl A_t rfl rfl ?_
  refine w_iload ok d7_105 rfl ?_
  refine w_aaload ok (v := .null) d7_107 A_po rfl (by decide) rfl ?_
  refine w_ifnullY ok d7_108 (pc' := 128) (by decide) ?_
  show W K l _ n0 _ h3 0 0 128 #[.val (.ref t), .val (.int (1 : Int32)), .val (.int (7 : Int32)), .val (.int (Int32.ofNat r)), .val (.int (0 : Int32))] []
  refine w_iinc ok d7_128 (u := (1 : Int32)) rfl rfl (L' := #[.val (.ref t), .val (.int (1 : Int32)), .val (.int (7 : Int32)), .val (.int (Int32.ofNat r)), .val (.int (1 : Int32))]) rfl ?_
  show W K l _ n0 _ h3 0 0 131 #[.val (.ref t), .val (.int (1 : Int32)), .val (.int (7 : Int32)), .val (.int (Int32.ofNat r)), .val (.int (1 : Int32))] []
  refine w_goto ok d7_131 (pc' := 91) (by decide) ?_
  refine w_iload ok d7_91 rfl ?_
  refine w_aloadN ok d7_93 rfl rfl ?_
  refine w_getfield ok (v := (.ref po)) (host := "") (f := ("com/example/hornconv/hornconv/FactTable", "positions", "[Lcom/example/hornconv/hornconv/FactTable$PositionIndex;", (.array (.object "com/example/hornconv/hornconv/FactTable$PositionIndex")))) 6 d7_94 (Or.inl (hw _ (List.mem_of_getElem? (i := 30) rfl))) Via.refl A_t rfl rfl ?_
  refine w_arraylength ok (z := (3 : Int32)) d7_97 A_po rfl (by decide) ?_
  show W K l _ n0 _ h3 0 0 98 #[.val (.ref t), .val (.int (1 : Int32)), .val (.int (7 : Int32)), .val (.int (Int32.ofNat r)), .val (.int (1 : Int32))] [(.int (3 : Int32)), (.int (1 : Int32))]
  refine w_icmp_ge ok d7_98 (pc' := 134) (by decide) (fun hc9 => False.elim (by revert hc9; decide)) (fun hc9 => ?_)
  show W K l _ n0 _ h3 0 0 101 #[.val (.ref t), .val (.int (1 : Int32)), .val (.int (7 : Int32)), .val (.int (Int32.ofNat r)), .val (.int (1 : Int32))] []
  refine w_aloadN ok d7_101 rfl rfl ?_
  refine w_getfield ok (v := (.ref po)) (host := "") (f := ("com/example/hornconv/hornconv/FactTable", "positions", "[Lcom/example/hornconv/hornconv/FactTable$PositionIndex;", (.array (.object "com/example/hornconv/hornconv/FactTable$PositionIndex")))) 6 d7_102 (Or.inl (hw _ (List.mem_of_getElem? (i := 30) rfl))) Via.refl A_t rfl rfl ?_
  refine w_iload ok d7_105 rfl ?_
  refine w_aaload ok (v := .null) d7_107 A_po rfl (by decide) rfl ?_
  refine w_ifnullY ok d7_108 (pc' := 128) (by decide) ?_
  show W K l _ n0 _ h3 0 0 128 #[.val (.ref t), .val (.int (1 : Int32)), .val (.int (7 : Int32)), .val (.int (Int32.ofNat r)), .val (.int (1 : Int32))] []
  refine w_iinc ok d7_128 (u := (1 : Int32)) rfl rfl (L' := #[.val (.ref t), .val (.int (1 : Int32)), .val (.int (7 : Int32)), .val (.int (Int32.ofNat r)), .val (.int (2 : Int32))]) rfl ?_
  show W K l _ n0 _ h3 0 0 131 #[.val (.ref t), .val (.int (1 : Int32)), .val (.int (7 : Int32)), .val (.int (Int32.ofNat r)), .val (.int (2 : Int32))] []
  refine w_goto ok d7_131 (pc' := 91) (by decide) ?_
  refine w_iload ok d7_91 rfl ?_
  refine w_aloadN ok d7_93 rfl rfl ?_
  refine w_getfield ok (v := (.ref po)) (host := "") (f := ("com/example/hornconv/hornconv/FactTable", "positions", "[Lcom/example/hornconv/hornconv/FactTable$PositionIndex;", (.array (.object "com/example/hornconv/hornconv/FactTable$PositionIndex")))) 6 d7_94 (Or.inl (hw _ (List.mem_of_getElem? (i := 30) rfl))) Via.refl A_t rfl rfl ?_
  refine w_arraylength ok (z := (3 : Int32)) d7_97 A_po rfl (by decide) ?_
  show W K l _ n0 _ h3 0 0 98 #[.val (.ref t), .val (.int (1 : Int32)), .val (.int (7 : Int32)), .val (.int (Int32.ofNat r)), .val (.int (2 : Int32))] [(.int (3 : Int32)), (.int (2 : Int32))]
  refine w_icmp_ge ok d7_98 (pc' := 134) (by decide) (fun hc11 => False.elim (by revert hc11; decide)) (fun hc11 => ?_)
  show W K l _ n0 _ h3 0 0 101 #[.val (.ref t), .val (.int (1 : Int32)), .val (.int (7 : Int32)), .val (.int (Int32.ofNat r)), .val (.int (2 : Int32))] []
  refine w_aloadN ok d7_101 rfl rfl ?_
  refine w_getfield ok (v := (.ref po)) (host := "") (f := ("com/example/hornconv/hornconv/FactTable", "positions", "[Lcom/example/hornconv/hornconv/FactTable$PositionIndex;", (.array (.object "com/example/hornconv/hornconv/FactTable$PositionIndex")))) 6 d7_102 (Or.inl (hw _ (List.mem_of_getElem? (i := 30) rfl))) Via.refl A_t rfl rfl ?_
  refine w_iload ok d7_105 rfl ?_
  refine w_aaload ok (v := .null) d7_107 A_po rfl (by decide) rfl ?_
  refine w_ifnullY ok d7_108 (pc' := 128) (by decide) ?_
  show W K l _ n0 _ h3 0 0 128 #[.val (.ref t), .val (.int (1 : Int32)), .val (.int (7 : Int32)), .val (.int (Int32.ofNat r)), .val (.int (2 : Int32))] []
  refine w_iinc ok d7_128 (u := (1 : Int32)) rfl rfl (L' := #[.val (.ref t), .val (.int (1 : Int32)), .val (.int (7 : Int32)), .val (.int (Int32.ofNat r)), .val (.int (3 : Int32))]) rfl ?_
  show W K l _ n0 _ h3 0 0 131 #[.val (.ref t), .val (.int (1 : Int32)), .val (.int (7 : Int32)), .val (.int (Int32.ofNat r)), .val (.int (3 : Int32))] []
  refine w_goto ok d7_131 (pc' := 91) (by decide) ?_
  refine w_iload ok d7_91 rfl ?_
  refine w_aloadN ok d7_93 rfl rfl ?_
  refine w_getfield ok (v := (.ref po)) (host := "") (f := ("com/example/hornconv/hornconv/FactTable", "positions", "[Lcom/example/hornconv/hornconv/FactTable$PositionIndex;", (.array (.object "com/example/hornconv/hornconv/FactTable$PositionIndex")))) 6 d7_94 (Or.inl (hw _ (List.mem_of_getElem? (i := 30) rfl))) Via.refl A_t rfl rfl ?_
  refine w_arraylength ok (z := (3 : Int32)) d7_97 A_po rfl (by decide) ?_
  show W K l _ n0 _ h3 0 0 98 #[.val (.ref t), .val (.int (1 : Int32)), .val (.int (7 : Int32)), .val (.int (Int32.ofNat r)), .val (.int (3 : Int32))] [(.int (3 : Int32)), (.int (3 : Int32))]
  refine w_icmp_ge ok d7_98 (pc' := 134) (by decide) (fun hc13 => ?_) (fun hc13 => False.elim (by revert hc13; decide))
  show W K l _ n0 _ h3 0 0 134 #[.val (.ref t), .val (.int (1 : Int32)), .val (.int (7 : Int32)), .val (.int (Int32.ofNat r)), .val (.int (3 : Int32))] []
  refine w_ret ok d7_134 (by decide) (by decide) ?_
  exact ⟨rfl, r, hr8, hfr, Kp, A_t, A_de, A_sl⟩
set_option maxRecDepth 65536 in
set_option maxHeartbeats 40000000 in
theorem lp_rm1 (l : Launch) (Z : State) (a0 : Array Value) (hw : ∀ d ∈ tables_1, d.before a0 Z = true) (n0 : Nat) (h0 : Heap) (K : Cx) (ok : Ok K Z n0 "com/example/hornconv/hornconv/FactTable" prog_3_method_8_code 5 none "remove") (t un me ag de sl po : Addr) (rw lv us : Int32) (x0 x1 x2 x3 x4 x5 x6 x7 x8 x9 x10 x11 d0 d1 d2 d3 : Int32) (f : Nat → Int32) (A_t : Ob Z h0 t "com/example/hornconv/hornconv/FactTable" fl_FactTable [(.ref un), (.ref me), (.int (3 : Int32)), (.ref ag), (.ref de), (.ref sl), (.ref po), (.int rw), (.int lv), (.int us)]) (A_ag : PA .int Z h0 ag [(.int x0), (.int x1), (.int x2), (.int x3), (.int x4), (.int x5), (.int x6), (.int x7), (.int x8), (.int x9), (.int x10), (.int x11)]) (A_de : PA .boolean Z h0 de [(.int d0), (.int d1), (.int d2), (.int d3)]) (A_sl : PA .int Z h0 sl (sv 8 f)) (A_po : PA (.object "com/example/hornconv/hornconv/FactTable$PositionIndex") Z h0 po [.null, .null, .null]) (ge_t : n0 ≤ t) (ge_de : n0 ≤ de) (ge_sl : n0 ≤ sl) (ne_t_ag : t ≠ ag) (ne_t_de : t ≠ de) (ne_t_sl : t ≠ sl) (ne_t_po : t ≠ po) (ne_ag_de : ag ≠ de) (ne_ag_sl : ag ≠ sl) (ne_ag_po : ag ≠ po) (ne_de_sl : de ≠ sl) (ne_sl_po : sl ≠ po) (ne_de_po : de ≠ po) (s : Nat) (s4 : Slot) (o4 : One s4) :
    ∀ (c i : Nat), f ((s + (i + c)) % 8) = 1 → W K l ({ frames := 1, cells := 0, slots := 0, locals := 16 } : Room) n0 (fun u h => u = none ∧ ∃ r, r < 8 ∧ f r = 1 ∧ Keep h0 h [t, de, sl] ∧ Ob Z h t "com/example/hornconv/hornconv/FactTable" fl_FactTable [(.ref un), (.ref me), (.int (3 : Int32)), (.ref ag), (.ref de), (.ref sl), (.ref po), (.int rw), (.int (lv - 1)), (.int us)] ∧ PA .boolean Z h de [(.int d0), (.int (1 : Int32)), (.int d2), (.int d3)] ∧ PA .int Z h sl (sv 8 (upd f r (-2)))) h0 0 0 25 #[.val (.ref t), .val (.int (1 : Int32)), .val (.int (7 : Int32)), .val (.int (Int32.ofNat ((s + i) % 8))), s4] [] := by
  intro c
  induction c with
  | zero =>
    intro i hc
    have hc : f ((s + i) % 8) = 1 := hc
    show W K l _ n0 _ h0 0 0 25 #[.val (.ref t), .val (.int (1 : Int32)), .val (.int (7 : Int32)), .val (.int (Int32.ofNat ((s + i) % 8))), s4] []
    refine w_aloadN ok d7_25 rfl rfl ?_
    refine w_getfield ok (v := (.ref sl)) (host := "") (f := ("com/example/hornconv/hornconv/FactTable", "slots", "[I", (.array .int))) 5 d7_26 (Or.inl (hw _ (List.mem_of_getElem? (i := 22) rfl))) Via.refl A_t rfl rfl ?_
    refine w_iloadN ok d7_29 rfl ?_
    refine w_iaload ok (v := (.int (f ((s + i) % 8)))) d7_30 A_sl (own_nn (own_o8 _)) (by rw [own_clamp (own_o8 _)]; exact sv_get (by omega)) ?_
    refine w_iloadN ok d7_31 rfl ?_
    refine w_icmp_eq ok d7_32 (pc' := 44) (by decide) (fun hc1 => ?_) (fun hc1 => False.elim (by exact hc1 hc))
    show W K l _ n0 _ h0 0 0 44 #[.val (.ref t), .val (.int (1 : Int32)), .val (.int (7 : Int32)), .val (.int (Int32.ofNat ((s + i) % 8))), s4] []
    exact c44_1 l Z a0 hw n0 h0 K ok t un me ag de sl po rw lv us x0 x1 x2 x3 x4 x5 x6 x7 x8 x9 x10 x11 d0 d1 d2 d3 f A_t A_ag A_de A_sl A_po ge_t ge_de ge_sl ne_t_ag ne_t_de ne_t_sl ne_t_po ne_ag_de ne_ag_sl ne_ag_po ne_de_sl ne_sl_po ne_de_po ((s + i) % 8) (by omega) hc s4 o4
  | succ c ih =>
    intro i hc
    show W K l _ n0 _ h0 0 0 25 #[.val (.ref t), .val (.int (1 : Int32)), .val (.int (7 : Int32)), .val (.int (Int32.ofNat ((s + i) % 8))), s4] []
    refine w_aloadN ok d7_25 rfl rfl ?_
    refine w_getfield ok (v := (.ref sl)) (host := "") (f := ("com/example/hornconv/hornconv/FactTable", "slots", "[I", (.array .int))) 5 d7_26 (Or.inl (hw _ (List.mem_of_getElem? (i := 22) rfl))) Via.refl A_t rfl rfl ?_
    refine w_iloadN ok d7_29 rfl ?_
    refine w_iaload ok (v := (.int (f ((s + i) % 8)))) d7_30 A_sl (own_nn (own_o8 _)) (by rw [own_clamp (own_o8 _)]; exact sv_get (by omega)) ?_
    refine w_iloadN ok d7_31 rfl ?_
    refine w_icmp_eq ok d7_32 (pc' := 44) (by decide) (fun hc3 => ?_) (fun hc3 => ?_)
    · show W K l _ n0 _ h0 0 0 44 #[.val (.ref t), .val (.int (1 : Int32)), .val (.int (7 : Int32)), .val (.int (Int32.ofNat ((s + i) % 8))), s4] []
      exact c44_1 l Z a0 hw n0 h0 K ok t un me ag de sl po rw lv us x0 x1 x2 x3 x4 x5 x6 x7 x8 x9 x10 x11 d0 d1 d2 d3 f A_t A_ag A_de A_sl A_po ge_t ge_de ge_sl ne_t_ag ne_t_de ne_t_sl ne_t_po ne_ag_de ne_ag_sl ne_ag_po ne_de_sl ne_sl_po ne_de_po ((s + i) % 8) (by omega) hc3 s4 o4
    · show W K l _ n0 _ h0 0 0 35 #[.val (.ref t), .val (.int (1 : Int32)), .val (.int (7 : Int32)), .val (.int (Int32.ofNat ((s + i) % 8))), s4] []
      refine w_iloadN ok d7_35 rfl ?_
      refine w_iconst ok d7_36 (v := (1 : Int32)) rfl ?_
      refine w_iadd ok d7_37 ?_
      refine w_iloadN ok d7_38 rfl ?_
      refine w_iand ok d7_39 ?_
      refine w_istoreN ok d7_40 (L' := #[.val (.ref t), .val (.int (1 : Int32)), .val (.int (7 : Int32)), .val (.int (((Int32.ofNat ((s + i) % 8)) + (1 : Int32)) &&& (7 : Int32))), s4]) rfl ?_
      refine w_goto ok d7_41 (pc' := 25) (by decide) ?_
      show W K l _ n0 _ h0 0 0 25 #[.val (.ref t), .val (.int (1 : Int32)), .val (.int (7 : Int32)), .val (.int (((Int32.ofNat ((s + i) % 8)) + (1 : Int32)) &&& (7 : Int32))), s4] []
      rw [show (Int32.ofNat ((s + i) % 8) + 1) &&& 7 = Int32.ofNat ((s + (i + 1)) % 8) from own_nx (s + i)]
      exact ih (i + 1) (by rw [show s + (i + 1 + c) = s + (i + (c + 1)) by omega]; exact hc)
set_option maxRecDepth 65536 in
set_option maxHeartbeats 40000000 in
theorem rm_rm1 (l : Launch) (Z : State) (a0 : Array Value) (hw : ∀ d ∈ tables_1, d.before a0 Z = true) (ws : List Jvm.Cond) (n0 : Nat) (h0 : Heap) (Z0 : Old Z n0 h0) (t un me ag de sl po : Addr) (rw lv us : Int32) (x0 x1 x2 x3 x4 x5 x6 x7 x8 x9 x10 x11 d0 d1 d2 d3 : Int32) (f : Nat → Int32) (A_t : Ob Z h0 t "com/example/hornconv/hornconv/FactTable" fl_FactTable [(.ref un), (.ref me), (.int (3 : Int32)), (.ref ag), (.ref de), (.ref sl), (.ref po), (.int rw), (.int lv), (.int us)]) (A_ag : PA .int Z h0 ag [(.int x0), (.int x1), (.int x2), (.int x3), (.int x4), (.int x5), (.int x6), (.int x7), (.int x8), (.int x9), (.int x10), (.int x11)]) (A_de : PA .boolean Z h0 de [(.int d0), (.int d1), (.int d2), (.int d3)]) (A_sl : PA .int Z h0 sl (sv 8 f)) (A_po : PA (.object "com/example/hornconv/hornconv/FactTable$PositionIndex") Z h0 po [.null, .null, .null]) (ge_t : n0 ≤ t) (ge_de : n0 ≤ de) (ge_sl : n0 ≤ sl) (ne_t_ag : t ≠ ag) (ne_t_de : t ≠ de) (ne_t_sl : t ≠ sl) (ne_t_po : t ≠ po) (ne_ag_de : ag ≠ de) (ne_ag_sl : ag ≠ sl) (ne_ag_po : ag ≠ po) (ne_de_sl : de ≠ sl) (ne_sl_po : sl ≠ po) (ne_de_po : de ≠ po) (hE : ∃ m, f (((own_hs [x3, x4, x5] &&& 7).toNatClampNeg + m) % 8) = 1)  :
    Met l Z n0 (⟨"com/example/hornconv/hornconv/FactTable", "remove", "(I)V"⟩ : MethodName) prog_3_method_8_code 5 none ws ({ frames := 1, cells := 0, slots := 0, locals := 16 } : Room) #[(.ref t), (.int (1 : Int32))] h0 (fun u h => u = none ∧ ∃ r, r < 8 ∧ f r = 1 ∧ Keep h0 h [t, de, sl] ∧ Ob Z h t "com/example/hornconv/hornconv/FactTable" fl_FactTable [(.ref un), (.ref me), (.int (3 : Int32)), (.ref ag), (.ref de), (.ref sl), (.ref po), (.int rw), (.int (lv - 1)), (.int us)] ∧ PA .boolean Z h de [(.int d0), (.int (1 : Int32)), (.int d2), (.int d3)] ∧ PA .int Z h sl (sv 8 (upd f r (-2)))) := by
  refine met_of Z0 (plainFor_of_name pn_com_example_hornconv_hornconv_FactTable) (Ls := #[.val (.ref t), .val (.int (1 : Int32)), .unset, .unset, .unset]) (fun m => by first | (simp [entryFrame, mkF, argsToLocals, Value.category]; done) | rfl) ?_
  intro K ok
  show W K l _ n0 _ h0 0 0 0 #[.val (.ref t), .val (.int (1 : Int32)), .unset, .unset, .unset] []
  refine w_aloadN ok d7_0 rfl rfl ?_
  refine w_getfield ok (v := (.ref sl)) (host := "") (f := ("com/example/hornconv/hornconv/FactTable", "slots", "[I", (.array .int))) 5 d7_1 (Or.inl (hw _ (List.mem_of_getElem? (i := 22) rfl))) Via.refl A_t rfl rfl ?_
  refine w_arraylength ok (z := (8 : Int32)) d7_4 A_sl (sv_len 8 _) (by decide) ?_
  show W K l _ n0 _ h0 0 0 5 #[.val (.ref t), .val (.int (1 : Int32)), .unset, .unset, .unset] [(.int (8 : Int32))]
  refine w_iconst ok d7_5 (v := (1 : Int32)) rfl ?_
  refine w_isub ok d7_6 ?_
  show W K l _ n0 _ h0 0 0 7 #[.val (.ref t), .val (.int (1 : Int32)), .unset, .unset, .unset] [(.int (7 : Int32))]
  refine w_istoreN ok d7_7 (L' := #[.val (.ref t), .val (.int (1 : Int32)), .val (.int (7 : Int32)), .unset, .unset]) rfl ?_
  refine w_aloadN ok d7_8 rfl rfl ?_
  refine w_aloadN ok d7_9 rfl rfl ?_
  refine w_getfield ok (v := (.ref ag)) (host := "") (f := ("com/example/hornconv/hornconv/FactTable", "arguments", "[I", (.array .int))) 3 d7_10 (Or.inl (hw _ (List.mem_of_getElem? (i := 17) rfl))) Via.refl A_t rfl rfl ?_
  refine w_iloadN ok d7_13 rfl ?_
  refine w_aloadN ok d7_14 rfl rfl ?_
  refine w_getfield ok (v := (.int (3 : Int32))) (host := "") (f := ("com/example/hornconv/hornconv/FactTable", "arity", "I", .int)) 2 d7_15 (Or.inl (hw _ (List.mem_of_getElem? (i := 15) rfl))) Via.refl A_t rfl rfl ?_
  refine w_imul ok d7_18 ?_
  show W K l _ n0 _ h0 0 0 19 #[.val (.ref t), .val (.int (1 : Int32)), .val (.int (7 : Int32)), .unset, .unset] [(.int (3 : Int32)), (.ref ag), (.ref t)]
  refine w_callP ok (y := (⟨"com/example/hornconv/hornconv/FactTable", "hash", "([II)I"⟩ : MethodName)) (a := t) (argsL := [(.ref ag), (.int (3 : Int32))]) (rest := []) d7_19 (hw _ (List.mem_of_getElem? (i := 37) rfl)) (hw _ (List.mem_of_getElem? (i := 38) rfl)) (hw _ (List.mem_of_getElem? (i := 39) rfl)) (hw _ (List.mem_of_getElem? (i := 2) rfl)) (hw _ (List.mem_of_getElem? (i := 3) rfl)) (hw _ (List.mem_of_getElem? (i := 40) rfl)) (by decide) A_t.1 pd_285bII29I rfl rfl (by decide) (Nat.le_of_ble_eq_true rfl) (by decide) (by decide) (fun z0 => rm_h_12_3 l Z a0 hw [] n0 h0 z0 t ag un me ag de sl po rw lv us x0 x1 x2 x3 x4 x5 x6 x7 x8 x9 x10 x11 A_t A_ag) (fun v1 h2 qv1 => ?_)
  obtain ⟨rfl, rfl⟩ := qv1
  show W K l _ n0 _ h0 0 0 22 #[.val (.ref t), .val (.int (1 : Int32)), .val (.int (7 : Int32)), .unset, .unset] [(.int (own_hs [x3, x4, x5]))]
  refine w_iloadN ok d7_22 rfl ?_
  refine w_iand ok d7_23 ?_
  refine w_istoreN ok d7_24 (L' := #[.val (.ref t), .val (.int (1 : Int32)), .val (.int (7 : Int32)), .val (.int ((own_hs [x3, x4, x5]) &&& (7 : Int32))), .unset]) rfl ?_
  show W K l _ n0 _ h0 0 0 25 #[.val (.ref t), .val (.int (1 : Int32)), .val (.int (7 : Int32)), .val (.int ((own_hs [x3, x4, x5]) &&& (7 : Int32))), .unset] []
  obtain ⟨c, hc⟩ := hE
  have e := own_st (own_hs [x3, x4, x5])
  generalize hn : (own_hs [x3, x4, x5] &&& 7).toNatClampNeg = n at hc e ⊢
  rw [e]
  exact lp_rm1 l Z a0 hw n0 h0 K ok t un me ag de sl po rw lv us x0 x1 x2 x3 x4 x5 x6 x7 x8 x9 x10 x11 d0 d1 d2 d3 f A_t A_ag A_de A_sl A_po ge_t ge_de ge_sl ne_t_ag ne_t_de ne_t_sl ne_t_po ne_ag_de ne_ag_sl ne_ag_po ne_de_sl ne_sl_po ne_de_po n _ One.u c 0 (by rw [Nat.zero_add]; exact hc)
theorem d8_0 : decode prog_3_method_6_code 0 = .ok (.aload_n 0, 1) := by decide +kernel
theorem d8_1 : decode prog_3_method_6_code 1 = .ok (.getfield 21, 3) := by decide +kernel
theorem d8_4 : decode prog_3_method_6_code 4 = .ok (.iload_n 1, 1) := by decide +kernel
theorem d8_5 : decode prog_3_method_6_code 5 = .ok (.aload_n 0, 1) := by decide +kernel
theorem d8_6 : decode prog_3_method_6_code 6 = .ok (.getfield 17, 3) := by decide +kernel
theorem d8_9 : decode prog_3_method_6_code 9 = .ok (.imul, 1) := by decide +kernel
theorem d8_10 : decode prog_3_method_6_code 10 = .ok (.iload_n 2, 1) := by decide +kernel
theorem d8_11 : decode prog_3_method_6_code 11 = .ok (.iadd, 1) := by decide +kernel
theorem d8_12 : decode prog_3_method_6_code 12 = .ok (.iaload, 1) := by decide +kernel
theorem d8_13 : decode prog_3_method_6_code 13 = .ok (.ireturn, 1) := by decide +kernel
set_option maxRecDepth 65536 in
set_option maxHeartbeats 40000000 in
theorem rm_arg00 (l : Launch) (Z : State) (a0 : Array Value) (hw : ∀ d ∈ tables_1, d.before a0 Z = true) (ws : List Jvm.Cond) (n0 : Nat) (h0 : Heap) (Z0 : Old Z n0 h0) (t un me ag de sl po : Addr) (rw lv us : Int32) (x0 x1 x2 x3 x4 x5 x6 x7 x8 x9 x10 x11 : Int32) (A_t : Ob Z h0 t "com/example/hornconv/hornconv/FactTable" fl_FactTable [(.ref un), (.ref me), (.int (3 : Int32)), (.ref ag), (.ref de), (.ref sl), (.ref po), (.int rw), (.int lv), (.int us)]) (A_ag : PA .int Z h0 ag [(.int x0), (.int x1), (.int x2), (.int x3), (.int x4), (.int x5), (.int x6), (.int x7), (.int x8), (.int x9), (.int x10), (.int x11)])  :
    Met l Z n0 (⟨"com/example/hornconv/hornconv/FactTable", "argument", "(II)I"⟩ : MethodName) prog_3_method_6_code 3 (some .int) ws ({ frames := 0, cells := 0, slots := 0, locals := 0 } : Room) #[(.ref t), (.int (0 : Int32)), (.int (0 : Int32))] h0 (fun u h => u = some (.int x0) ∧ h0 = h) := by
  refine met_of Z0 (plainFor_of_name pn_com_example_hornconv_hornconv_FactTable) (Ls := #[.val (.ref t), .val (.int (0 : Int32)), .val (.int (0 : Int32))]) (fun m => by first | (simp [entryFrame, mkF, argsToLocals, Value.category]; done) | rfl) ?_
  intro K ok
  show W K l _ n0 _ h0 0 0 0 #[.val (.ref t), .val (.int (0 : Int32)), .val (.int (0 : Int32))] []
  refine w_aloadN ok d8_0 rfl rfl ?_
  refine w_getfield ok (v := (.ref ag)) (host := "") (f := ("com/example/hornconv/hornconv/FactTable", "arguments", "[I", (.array .int))) 3 d8_1 (Or.inl (hw _ (List.mem_of_getElem? (i := 17) rfl))) Via.refl A_t rfl rfl ?_
  refine w_iloadN ok d8_4 rfl ?_
  refine w_aloadN ok d8_5 rfl rfl ?_
  refine w_getfield ok (v := (.int (3 : Int32))) (host := "") (f := ("com/example/hornconv/hornconv/FactTable", "arity", "I", .int)) 2 d8_6 (Or.inl (hw _ (List.mem_of_getElem? (i := 15) rfl))) Via.refl A_t rfl rfl ?_
  refine w_imul ok d8_9 ?_
  show W K l _ n0 _ h0 0 0 10 #[.val (.ref t), .val (.int (0 : Int32)), .val (.int (0 : Int32))] [(.int (0 : Int32)), (.ref ag)]
  refine w_iloadN ok d8_10 rfl ?_
  refine w_iadd ok d8_11 ?_
  show W K l _ n0 _ h0 0 0 12 #[.val (.ref t), .val (.int (0 : Int32)), .val (.int (0 : Int32))] [(.int (0 : Int32)), (.ref ag)]
  refine w_iaload ok (v := (.int x0)) d8_12 A_ag (by decide) rfl ?_
  refine w_iret ok d8_13 (by decide) (by decide) ?_
  exact ⟨rfl, rfl⟩
set_option maxRecDepth 65536 in
set_option maxHeartbeats 40000000 in
theorem rm_arg01 (l : Launch) (Z : State) (a0 : Array Value) (hw : ∀ d ∈ tables_1, d.before a0 Z = true) (ws : List Jvm.Cond) (n0 : Nat) (h0 : Heap) (Z0 : Old Z n0 h0) (t un me ag de sl po : Addr) (rw lv us : Int32) (x0 x1 x2 x3 x4 x5 x6 x7 x8 x9 x10 x11 : Int32) (A_t : Ob Z h0 t "com/example/hornconv/hornconv/FactTable" fl_FactTable [(.ref un), (.ref me), (.int (3 : Int32)), (.ref ag), (.ref de), (.ref sl), (.ref po), (.int rw), (.int lv), (.int us)]) (A_ag : PA .int Z h0 ag [(.int x0), (.int x1), (.int x2), (.int x3), (.int x4), (.int x5), (.int x6), (.int x7), (.int x8), (.int x9), (.int x10), (.int x11)])  :
    Met l Z n0 (⟨"com/example/hornconv/hornconv/FactTable", "argument", "(II)I"⟩ : MethodName) prog_3_method_6_code 3 (some .int) ws ({ frames := 0, cells := 0, slots := 0, locals := 0 } : Room) #[(.ref t), (.int (0 : Int32)), (.int (1 : Int32))] h0 (fun u h => u = some (.int x1) ∧ h0 = h) := by
  refine met_of Z0 (plainFor_of_name pn_com_example_hornconv_hornconv_FactTable) (Ls := #[.val (.ref t), .val (.int (0 : Int32)), .val (.int (1 : Int32))]) (fun m => by first | (simp [entryFrame, mkF, argsToLocals, Value.category]; done) | rfl) ?_
  intro K ok
  show W K l _ n0 _ h0 0 0 0 #[.val (.ref t), .val (.int (0 : Int32)), .val (.int (1 : Int32))] []
  refine w_aloadN ok d8_0 rfl rfl ?_
  refine w_getfield ok (v := (.ref ag)) (host := "") (f := ("com/example/hornconv/hornconv/FactTable", "arguments", "[I", (.array .int))) 3 d8_1 (Or.inl (hw _ (List.mem_of_getElem? (i := 17) rfl))) Via.refl A_t rfl rfl ?_
  refine w_iloadN ok d8_4 rfl ?_
  refine w_aloadN ok d8_5 rfl rfl ?_
  refine w_getfield ok (v := (.int (3 : Int32))) (host := "") (f := ("com/example/hornconv/hornconv/FactTable", "arity", "I", .int)) 2 d8_6 (Or.inl (hw _ (List.mem_of_getElem? (i := 15) rfl))) Via.refl A_t rfl rfl ?_
  refine w_imul ok d8_9 ?_
  show W K l _ n0 _ h0 0 0 10 #[.val (.ref t), .val (.int (0 : Int32)), .val (.int (1 : Int32))] [(.int (0 : Int32)), (.ref ag)]
  refine w_iloadN ok d8_10 rfl ?_
  refine w_iadd ok d8_11 ?_
  show W K l _ n0 _ h0 0 0 12 #[.val (.ref t), .val (.int (0 : Int32)), .val (.int (1 : Int32))] [(.int (1 : Int32)), (.ref ag)]
  refine w_iaload ok (v := (.int x1)) d8_12 A_ag (by decide) rfl ?_
  refine w_iret ok d8_13 (by decide) (by decide) ?_
  exact ⟨rfl, rfl⟩
set_option maxRecDepth 65536 in
set_option maxHeartbeats 40000000 in
theorem rm_arg02 (l : Launch) (Z : State) (a0 : Array Value) (hw : ∀ d ∈ tables_1, d.before a0 Z = true) (ws : List Jvm.Cond) (n0 : Nat) (h0 : Heap) (Z0 : Old Z n0 h0) (t un me ag de sl po : Addr) (rw lv us : Int32) (x0 x1 x2 x3 x4 x5 x6 x7 x8 x9 x10 x11 : Int32) (A_t : Ob Z h0 t "com/example/hornconv/hornconv/FactTable" fl_FactTable [(.ref un), (.ref me), (.int (3 : Int32)), (.ref ag), (.ref de), (.ref sl), (.ref po), (.int rw), (.int lv), (.int us)]) (A_ag : PA .int Z h0 ag [(.int x0), (.int x1), (.int x2), (.int x3), (.int x4), (.int x5), (.int x6), (.int x7), (.int x8), (.int x9), (.int x10), (.int x11)])  :
    Met l Z n0 (⟨"com/example/hornconv/hornconv/FactTable", "argument", "(II)I"⟩ : MethodName) prog_3_method_6_code 3 (some .int) ws ({ frames := 0, cells := 0, slots := 0, locals := 0 } : Room) #[(.ref t), (.int (0 : Int32)), (.int (2 : Int32))] h0 (fun u h => u = some (.int x2) ∧ h0 = h) := by
  refine met_of Z0 (plainFor_of_name pn_com_example_hornconv_hornconv_FactTable) (Ls := #[.val (.ref t), .val (.int (0 : Int32)), .val (.int (2 : Int32))]) (fun m => by first | (simp [entryFrame, mkF, argsToLocals, Value.category]; done) | rfl) ?_
  intro K ok
  show W K l _ n0 _ h0 0 0 0 #[.val (.ref t), .val (.int (0 : Int32)), .val (.int (2 : Int32))] []
  refine w_aloadN ok d8_0 rfl rfl ?_
  refine w_getfield ok (v := (.ref ag)) (host := "") (f := ("com/example/hornconv/hornconv/FactTable", "arguments", "[I", (.array .int))) 3 d8_1 (Or.inl (hw _ (List.mem_of_getElem? (i := 17) rfl))) Via.refl A_t rfl rfl ?_
  refine w_iloadN ok d8_4 rfl ?_
  refine w_aloadN ok d8_5 rfl rfl ?_
  refine w_getfield ok (v := (.int (3 : Int32))) (host := "") (f := ("com/example/hornconv/hornconv/FactTable", "arity", "I", .int)) 2 d8_6 (Or.inl (hw _ (List.mem_of_getElem? (i := 15) rfl))) Via.refl A_t rfl rfl ?_
  refine w_imul ok d8_9 ?_
  show W K l _ n0 _ h0 0 0 10 #[.val (.ref t), .val (.int (0 : Int32)), .val (.int (2 : Int32))] [(.int (0 : Int32)), (.ref ag)]
  refine w_iloadN ok d8_10 rfl ?_
  refine w_iadd ok d8_11 ?_
  show W K l _ n0 _ h0 0 0 12 #[.val (.ref t), .val (.int (0 : Int32)), .val (.int (2 : Int32))] [(.int (2 : Int32)), (.ref ag)]
  refine w_iaload ok (v := (.int x2)) d8_12 A_ag (by decide) rfl ?_
  refine w_iret ok d8_13 (by decide) (by decide) ?_
  exact ⟨rfl, rfl⟩
set_option maxRecDepth 65536 in
set_option maxHeartbeats 40000000 in
theorem rm_arg10 (l : Launch) (Z : State) (a0 : Array Value) (hw : ∀ d ∈ tables_1, d.before a0 Z = true) (ws : List Jvm.Cond) (n0 : Nat) (h0 : Heap) (Z0 : Old Z n0 h0) (t un me ag de sl po : Addr) (rw lv us : Int32) (x0 x1 x2 x3 x4 x5 x6 x7 x8 x9 x10 x11 : Int32) (A_t : Ob Z h0 t "com/example/hornconv/hornconv/FactTable" fl_FactTable [(.ref un), (.ref me), (.int (3 : Int32)), (.ref ag), (.ref de), (.ref sl), (.ref po), (.int rw), (.int lv), (.int us)]) (A_ag : PA .int Z h0 ag [(.int x0), (.int x1), (.int x2), (.int x3), (.int x4), (.int x5), (.int x6), (.int x7), (.int x8), (.int x9), (.int x10), (.int x11)])  :
    Met l Z n0 (⟨"com/example/hornconv/hornconv/FactTable", "argument", "(II)I"⟩ : MethodName) prog_3_method_6_code 3 (some .int) ws ({ frames := 0, cells := 0, slots := 0, locals := 0 } : Room) #[(.ref t), (.int (1 : Int32)), (.int (0 : Int32))] h0 (fun u h => u = some (.int x3) ∧ h0 = h) := by
  refine met_of Z0 (plainFor_of_name pn_com_example_hornconv_hornconv_FactTable) (Ls := #[.val (.ref t), .val (.int (1 : Int32)), .val (.int (0 : Int32))]) (fun m => by first | (simp [entryFrame, mkF, argsToLocals, Value.category]; done) | rfl) ?_
  intro K ok
  show W K l _ n0 _ h0 0 0 0 #[.val (.ref t), .val (.int (1 : Int32)), .val (.int (0 : Int32))] []
  refine w_aloadN ok d8_0 rfl rfl ?_
  refine w_getfield ok (v := (.ref ag)) (host := "") (f := ("com/example/hornconv/hornconv/FactTable", "arguments", "[I", (.array .int))) 3 d8_1 (Or.inl (hw _ (List.mem_of_getElem? (i := 17) rfl))) Via.refl A_t rfl rfl ?_
  refine w_iloadN ok d8_4 rfl ?_
  refine w_aloadN ok d8_5 rfl rfl ?_
  refine w_getfield ok (v := (.int (3 : Int32))) (host := "") (f := ("com/example/hornconv/hornconv/FactTable", "arity", "I", .int)) 2 d8_6 (Or.inl (hw _ (List.mem_of_getElem? (i := 15) rfl))) Via.refl A_t rfl rfl ?_
  refine w_imul ok d8_9 ?_
  show W K l _ n0 _ h0 0 0 10 #[.val (.ref t), .val (.int (1 : Int32)), .val (.int (0 : Int32))] [(.int (3 : Int32)), (.ref ag)]
  refine w_iloadN ok d8_10 rfl ?_
  refine w_iadd ok d8_11 ?_
  show W K l _ n0 _ h0 0 0 12 #[.val (.ref t), .val (.int (1 : Int32)), .val (.int (0 : Int32))] [(.int (3 : Int32)), (.ref ag)]
  refine w_iaload ok (v := (.int x3)) d8_12 A_ag (by decide) rfl ?_
  refine w_iret ok d8_13 (by decide) (by decide) ?_
  exact ⟨rfl, rfl⟩
set_option maxRecDepth 65536 in
set_option maxHeartbeats 40000000 in
theorem rm_arg11 (l : Launch) (Z : State) (a0 : Array Value) (hw : ∀ d ∈ tables_1, d.before a0 Z = true) (ws : List Jvm.Cond) (n0 : Nat) (h0 : Heap) (Z0 : Old Z n0 h0) (t un me ag de sl po : Addr) (rw lv us : Int32) (x0 x1 x2 x3 x4 x5 x6 x7 x8 x9 x10 x11 : Int32) (A_t : Ob Z h0 t "com/example/hornconv/hornconv/FactTable" fl_FactTable [(.ref un), (.ref me), (.int (3 : Int32)), (.ref ag), (.ref de), (.ref sl), (.ref po), (.int rw), (.int lv), (.int us)]) (A_ag : PA .int Z h0 ag [(.int x0), (.int x1), (.int x2), (.int x3), (.int x4), (.int x5), (.int x6), (.int x7), (.int x8), (.int x9), (.int x10), (.int x11)])  :
    Met l Z n0 (⟨"com/example/hornconv/hornconv/FactTable", "argument", "(II)I"⟩ : MethodName) prog_3_method_6_code 3 (some .int) ws ({ frames := 0, cells := 0, slots := 0, locals := 0 } : Room) #[(.ref t), (.int (1 : Int32)), (.int (1 : Int32))] h0 (fun u h => u = some (.int x4) ∧ h0 = h) := by
  refine met_of Z0 (plainFor_of_name pn_com_example_hornconv_hornconv_FactTable) (Ls := #[.val (.ref t), .val (.int (1 : Int32)), .val (.int (1 : Int32))]) (fun m => by first | (simp [entryFrame, mkF, argsToLocals, Value.category]; done) | rfl) ?_
  intro K ok
  show W K l _ n0 _ h0 0 0 0 #[.val (.ref t), .val (.int (1 : Int32)), .val (.int (1 : Int32))] []
  refine w_aloadN ok d8_0 rfl rfl ?_
  refine w_getfield ok (v := (.ref ag)) (host := "") (f := ("com/example/hornconv/hornconv/FactTable", "arguments", "[I", (.array .int))) 3 d8_1 (Or.inl (hw _ (List.mem_of_getElem? (i := 17) rfl))) Via.refl A_t rfl rfl ?_
  refine w_iloadN ok d8_4 rfl ?_
  refine w_aloadN ok d8_5 rfl rfl ?_
  refine w_getfield ok (v := (.int (3 : Int32))) (host := "") (f := ("com/example/hornconv/hornconv/FactTable", "arity", "I", .int)) 2 d8_6 (Or.inl (hw _ (List.mem_of_getElem? (i := 15) rfl))) Via.refl A_t rfl rfl ?_
  refine w_imul ok d8_9 ?_
  show W K l _ n0 _ h0 0 0 10 #[.val (.ref t), .val (.int (1 : Int32)), .val (.int (1 : Int32))] [(.int (3 : Int32)), (.ref ag)]
  refine w_iloadN ok d8_10 rfl ?_
  refine w_iadd ok d8_11 ?_
  show W K l _ n0 _ h0 0 0 12 #[.val (.ref t), .val (.int (1 : Int32)), .val (.int (1 : Int32))] [(.int (4 : Int32)), (.ref ag)]
  refine w_iaload ok (v := (.int x4)) d8_12 A_ag (by decide) rfl ?_
  refine w_iret ok d8_13 (by decide) (by decide) ?_
  exact ⟨rfl, rfl⟩
set_option maxRecDepth 65536 in
set_option maxHeartbeats 40000000 in
theorem rm_arg12 (l : Launch) (Z : State) (a0 : Array Value) (hw : ∀ d ∈ tables_1, d.before a0 Z = true) (ws : List Jvm.Cond) (n0 : Nat) (h0 : Heap) (Z0 : Old Z n0 h0) (t un me ag de sl po : Addr) (rw lv us : Int32) (x0 x1 x2 x3 x4 x5 x6 x7 x8 x9 x10 x11 : Int32) (A_t : Ob Z h0 t "com/example/hornconv/hornconv/FactTable" fl_FactTable [(.ref un), (.ref me), (.int (3 : Int32)), (.ref ag), (.ref de), (.ref sl), (.ref po), (.int rw), (.int lv), (.int us)]) (A_ag : PA .int Z h0 ag [(.int x0), (.int x1), (.int x2), (.int x3), (.int x4), (.int x5), (.int x6), (.int x7), (.int x8), (.int x9), (.int x10), (.int x11)])  :
    Met l Z n0 (⟨"com/example/hornconv/hornconv/FactTable", "argument", "(II)I"⟩ : MethodName) prog_3_method_6_code 3 (some .int) ws ({ frames := 0, cells := 0, slots := 0, locals := 0 } : Room) #[(.ref t), (.int (1 : Int32)), (.int (2 : Int32))] h0 (fun u h => u = some (.int x5) ∧ h0 = h) := by
  refine met_of Z0 (plainFor_of_name pn_com_example_hornconv_hornconv_FactTable) (Ls := #[.val (.ref t), .val (.int (1 : Int32)), .val (.int (2 : Int32))]) (fun m => by first | (simp [entryFrame, mkF, argsToLocals, Value.category]; done) | rfl) ?_
  intro K ok
  show W K l _ n0 _ h0 0 0 0 #[.val (.ref t), .val (.int (1 : Int32)), .val (.int (2 : Int32))] []
  refine w_aloadN ok d8_0 rfl rfl ?_
  refine w_getfield ok (v := (.ref ag)) (host := "") (f := ("com/example/hornconv/hornconv/FactTable", "arguments", "[I", (.array .int))) 3 d8_1 (Or.inl (hw _ (List.mem_of_getElem? (i := 17) rfl))) Via.refl A_t rfl rfl ?_
  refine w_iloadN ok d8_4 rfl ?_
  refine w_aloadN ok d8_5 rfl rfl ?_
  refine w_getfield ok (v := (.int (3 : Int32))) (host := "") (f := ("com/example/hornconv/hornconv/FactTable", "arity", "I", .int)) 2 d8_6 (Or.inl (hw _ (List.mem_of_getElem? (i := 15) rfl))) Via.refl A_t rfl rfl ?_
  refine w_imul ok d8_9 ?_
  show W K l _ n0 _ h0 0 0 10 #[.val (.ref t), .val (.int (1 : Int32)), .val (.int (2 : Int32))] [(.int (3 : Int32)), (.ref ag)]
  refine w_iloadN ok d8_10 rfl ?_
  refine w_iadd ok d8_11 ?_
  show W K l _ n0 _ h0 0 0 12 #[.val (.ref t), .val (.int (1 : Int32)), .val (.int (2 : Int32))] [(.int (5 : Int32)), (.ref ag)]
  refine w_iaload ok (v := (.int x5)) d8_12 A_ag (by decide) rfl ?_
  refine w_iret ok d8_13 (by decide) (by decide) ?_
  exact ⟨rfl, rfl⟩
abbrev f00 : Nat → Int32 := fun _ => (-1 : Int32)
theorem own_rw0 : Rw f00 := fun _ _ => Or.inl rfl
theorem own_rwu {f : Nat → Int32} {r : Nat} {v : Int32} (h : Rw f) (hv : v = -1 ∨ v = -2 ∨ v = 0 ∨ v = 1 ∨ v = 2) : Rw (upd f r v) := fun j hj => by
  by_cases e : j = r
  · rw [e, upd_same]; exact hv
  · rw [upd_ne e]; exact h j hj
theorem own_first {E : Nat → Prop} {s r : Nat} (hF : f00 r < 0 ∧ ∃ m i, f00 ((s + m) % 8) = -1 ∧ (∀ j, j < m → f00 ((s + j) % 8) ≠ -1 ∧ ¬ (¬ f00 ((s + j) % 8) < 0 ∧ E (f00 ((s + j) % 8)).toNatClampNeg)) ∧ i ≤ m ∧ r = (s + i) % 8) : r = (s + 0) % 8 := by
  obtain ⟨-, m, i, -, hb, hi, hr⟩ := hF
  have hm : m = 0 := by
    rcases Nat.eq_zero_or_pos m with h | h
    · exact h
    · exact absurd rfl (hb 0 h).1
  have : i = 0 := by omega
  rw [hr, this]
theorem own_at {f : Nat → Int32} {E : Nat → Prop} {s r : Nat} (hF : f r < 0 ∧ ∃ m i, f ((s + m) % 8) = -1 ∧ (∀ j, j < m → f ((s + j) % 8) ≠ -1 ∧ ¬ (¬ f ((s + j) % 8) < 0 ∧ E (f ((s + j) % 8)).toNatClampNeg)) ∧ i ≤ m ∧ r = (s + i) % 8) : ∃ i, r = (s + i) % 8 := by
  obtain ⟨-, m, i, -, -, -, hr⟩ := hF
  exact ⟨i, hr⟩
theorem own_hit {f : Nat → Int32} {E : Nat → Prop} {s r : Nat} (hF : f r < 0 ∧ ∃ m i, f ((s + m) % 8) = -1 ∧ (∀ j, j < m → f ((s + j) % 8) ≠ -1 ∧ ¬ (¬ f ((s + j) % 8) < 0 ∧ E (f ((s + j) % 8)).toNatClampNeg)) ∧ i ≤ m ∧ r = (s + i) % 8) (h : f ((s + 0) % 8) = 0) (e : E 0) : False := by
  obtain ⟨-, m, i, hm, hb, -, -⟩ := hF
  rcases Nat.eq_zero_or_pos m with q | q
  · rw [q, h] at hm; exact absurd hm (by decide)
  · refine (hb 0 q).2 ⟨by rw [h]; decide, ?_⟩
    rw [h]; exact e
theorem own_eqk {n : Nat} {as vs : List Int32} {k : Nat} (h : own_eqr n as vs k = 1) : (as.drop (k * n)).take n = vs := by
  unfold own_eqr at h; split at h
  · assumption
  · exact absurd h (by decide)
theorem own_eqk' {n : Nat} {as vs : List Int32} {k : Nat} (h : (as.drop (k * n)).take n = vs) : own_eqr n as vs k = 1 := if_pos h
theorem own_sA {r0 ra : Nat} {a b c d e g : Int32} (h1 : ¬ upd f00 r0 0 ra < 0) (h2 : own_eqr 3 [a, b, c, 0, 0, 0, 0, 0, 0, 0, 0, 0] [d, e, g] (upd f00 r0 0 ra).toNatClampNeg = 1) : a = d ∧ b = e ∧ c = g := by
  by_cases q : ra = r0
  · rw [q, upd_same] at h2
    have := own_eqk h2
    have e2 : [a, b, c] = [d, e, g] := this
    simpa using e2
  · rw [upd_ne q] at h1; exact absurd (show (-1 : Int32) < 0 by decide) h1
theorem pn_com_example_hornconv_hornconv_FactTableArgumentPinLaw : plainName "com/example/hornconv/hornconv/FactTableArgumentPinLaw" = true := by first | (simp [plainName, overriddenIn]; done) | decide +kernel
theorem pd_28I29V : parseMethodDescriptor "(I)V" = some ⟨[.int], none⟩ := by decide +kernel
theorem pd_285bI29I : parseMethodDescriptor "([I)I" = some ⟨[(.array .int)], some .int⟩ := by decide +kernel
theorem pd_28II29I : parseMethodDescriptor "(II)I" = some ⟨[.int, .int], some .int⟩ := by decide +kernel
set_option maxRecDepth 65536 in
set_option maxHeartbeats 40000000 in
theorem rm0 (l : Launch) (Z : State) (a0 : Array Value) (hw : ∀ d ∈ tables_1, d.before a0 Z = true) (ws : List Jvm.Cond) (n0 : Nat) (h0 : Heap) (Z0 : Old Z n0 h0) (xl yl zl : Int64) (fl : Int32)  :
    Met l Z n0 x code maxLocals ret ws room_1 #[(.long xl), (.long yl), (.long zl), (.int fl)] h0 (fun u h => u = some (.int 1)) := by
  refine met_of Z0 (plainFor_of_name pn_com_example_hornconv_hornconv_FactTableArgumentPinLaw) (Ls := #[.val (.long xl), .second, .val (.long yl), .second, .val (.long zl), .second, .val (.int fl), .unset, .unset, .unset, .unset, .unset, .unset, .unset, .unset, .unset, .unset, .unset, .unset, .unset, .unset]) (fun m => by first | (simp [entryFrame, mkF, argsToLocals, Value.category, maxLocals]; done) | rfl) ?_
  intro K ok
  show W K l _ n0 _ h0 0 0 0 #[.val (.long xl), .second, .val (.long yl), .second, .val (.long zl), .second, .val (.int fl), .unset, .unset, .unset, .unset, .unset, .unset, .unset, .unset, .unset, .unset, .unset, .unset, .unset, .unset] []
  refine w_lloadN ok at_0 rfl ?_
  refine w_l2i ok at_1 ?_
  refine w_istore ok at_2 (L' := #[.val (.long xl), .second, .val (.long yl), .second, .val (.long zl), .second, .val (.int fl), .val (.int xl.toInt32), .unset, .unset, .unset, .unset, .unset, .unset, .unset, .unset, .unset, .unset, .unset, .unset, .unset]) rfl ?_
  refine w_lloadN ok at_4 rfl ?_
  refine w_bipush ok at_5 (v := (32 : Int32)) rfl ?_
  refine w_lushr ok at_7 ?_
  refine w_l2i ok at_8 ?_
  refine w_istore ok at_9 (L' := #[.val (.long xl), .second, .val (.long yl), .second, .val (.long zl), .second, .val (.int fl), .val (.int xl.toInt32), .val (.int (((xl.toUInt64 >>> ((32 : Int32) &&& 0x3f).toInt64.toUInt64).toInt64).toInt32)), .unset, .unset, .unset, .unset, .unset, .unset, .unset, .unset, .unset, .unset, .unset, .unset]) rfl ?_
  refine w_lloadN ok at_11 rfl ?_
  refine w_l2i ok at_12 ?_
  refine w_istore ok at_13 (L' := #[.val (.long xl), .second, .val (.long yl), .second, .val (.long zl), .second, .val (.int fl), .val (.int xl.toInt32), .val (.int (((xl.toUInt64 >>> ((32 : Int32) &&& 0x3f).toInt64.toUInt64).toInt64).toInt32)), .val (.int yl.toInt32), .unset, .unset, .unset, .unset, .unset, .unset, .unset, .unset, .unset, .unset, .unset]) rfl ?_
  refine w_lloadN ok at_15 rfl ?_
  refine w_bipush ok at_16 (v := (32 : Int32)) rfl ?_
  refine w_lushr ok at_18 ?_
  refine w_l2i ok at_19 ?_
  refine w_istore ok at_20 (L' := #[.val (.long xl), .second, .val (.long yl), .second, .val (.long zl), .second, .val (.int fl), .val (.int xl.toInt32), .val (.int (((xl.toUInt64 >>> ((32 : Int32) &&& 0x3f).toInt64.toUInt64).toInt64).toInt32)), .val (.int yl.toInt32), .val (.int (((yl.toUInt64 >>> ((32 : Int32) &&& 0x3f).toInt64.toUInt64).toInt64).toInt32)), .unset, .unset, .unset, .unset, .unset, .unset, .unset, .unset, .unset, .unset]) rfl ?_
  refine w_lload ok at_22 rfl ?_
  refine w_l2i ok at_24 ?_
  refine w_istore ok at_25 (L' := #[.val (.long xl), .second, .val (.long yl), .second, .val (.long zl), .second, .val (.int fl), .val (.int xl.toInt32), .val (.int (((xl.toUInt64 >>> ((32 : Int32) &&& 0x3f).toInt64.toUInt64).toInt64).toInt32)), .val (.int yl.toInt32), .val (.int (((yl.toUInt64 >>> ((32 : Int32) &&& 0x3f).toInt64.toUInt64).toInt64).toInt32)), .val (.int zl.toInt32), .unset, .unset, .unset, .unset, .unset, .unset, .unset, .unset, .unset]) rfl ?_
  refine w_lload ok at_27 rfl ?_
  refine w_bipush ok at_29 (v := (32 : Int32)) rfl ?_
  refine w_lushr ok at_31 ?_
  refine w_l2i ok at_32 ?_
  refine w_istore ok at_33 (L' := #[.val (.long xl), .second, .val (.long yl), .second, .val (.long zl), .second, .val (.int fl), .val (.int xl.toInt32), .val (.int (((xl.toUInt64 >>> ((32 : Int32) &&& 0x3f).toInt64.toUInt64).toInt64).toInt32)), .val (.int yl.toInt32), .val (.int (((yl.toUInt64 >>> ((32 : Int32) &&& 0x3f).toInt64.toUInt64).toInt64).toInt32)), .val (.int zl.toInt32), .val (.int (((zl.toUInt64 >>> ((32 : Int32) &&& 0x3f).toInt64.toUInt64).toInt64).toInt32)), .unset, .unset, .unset, .unset, .unset, .unset, .unset, .unset]) rfl ?_
  show W K l _ n0 _ h0 0 0 35 #[.val (.long xl), .second, .val (.long yl), .second, .val (.long zl), .second, .val (.int fl), .val (.int xl.toInt32), .val (.int (((xl.toUInt64 >>> ((32 : Int32) &&& 0x3f).toInt64.toUInt64).toInt64).toInt32)), .val (.int yl.toInt32), .val (.int (((yl.toUInt64 >>> ((32 : Int32) &&& 0x3f).toInt64.toUInt64).toInt64).toInt32)), .val (.int zl.toInt32), .val (.int (((zl.toUInt64 >>> ((32 : Int32) &&& 0x3f).toInt64.toUInt64).toInt64).toInt32)), .unset, .unset, .unset, .unset, .unset, .unset, .unset, .unset] []
  generalize xl.toInt32 = a
  generalize ((xl.toUInt64 >>> ((32 : Int32) &&& 0x3f).toInt64.toUInt64).toInt64).toInt32 = b
  generalize yl.toInt32 = c
  generalize ((yl.toUInt64 >>> ((32 : Int32) &&& 0x3f).toInt64.toUInt64).toInt64).toInt32 = d
  generalize zl.toInt32 = e
  generalize ((zl.toUInt64 >>> ((32 : Int32) &&& 0x3f).toInt64.toUInt64).toInt64).toInt32 = g
  show W K l _ n0 _ h0 0 0 35 #[.val (.long xl), .second, .val (.long yl), .second, .val (.long zl), .second, .val (.int fl), .val (.int a), .val (.int b), .val (.int c), .val (.int d), .val (.int e), .val (.int g), .unset, .unset, .unset, .unset, .unset, .unset, .unset, .unset] []
  refine w_iconst ok at_35 (v := (3 : Int32)) rfl ?_
  refine w_newarray ok at_36 (hw _ (List.mem_of_getElem? (i := 0) rfl)) (by decide) (cap := 3) (by decide) (by decide) (by decide) (by decide) (fun h2 b1 ea_b1 ge_b1 E_b1 A_b1 => ?_)
  replace A_b1 : PA .int Z h2 b1 [(.int (0 : Int32)), (.int (0 : Int32)), (.int (0 : Int32))] := A_b1
  refine w_astore ok at_38 rfl (L' := #[.val (.long xl), .second, .val (.long yl), .second, .val (.long zl), .second, .val (.int fl), .val (.int a), .val (.int b), .val (.int c), .val (.int d), .val (.int e), .val (.int g), .val (.ref b1), .unset, .unset, .unset, .unset, .unset, .unset, .unset]) rfl ?_
  refine w_aload ok at_40 rfl rfl ?_
  refine w_iconst ok at_42 (v := (0 : Int32)) rfl ?_
  refine w_iload ok at_43 rfl ?_
  refine w_iastore ok at_45 A_b1 ge_b1 (by decide) (Nat.le_of_ble_eq_true rfl) (fun h3 W_h3 A1_h3 => ?_)
  replace A_b1 : PA .int Z h3 b1 [(.int a), (.int (0 : Int32)), (.int (0 : Int32))] := A1_h3
  refine w_aload ok at_46 rfl rfl ?_
  refine w_iconst ok at_48 (v := (1 : Int32)) rfl ?_
  refine w_iload ok at_49 rfl ?_
  refine w_iastore ok at_51 A_b1 ge_b1 (by decide) (Nat.le_of_ble_eq_true rfl) (fun h4 W_h4 A1_h4 => ?_)
  replace A_b1 : PA .int Z h4 b1 [(.int a), (.int b), (.int (0 : Int32))] := A1_h4
  refine w_aload ok at_52 rfl rfl ?_
  refine w_iconst ok at_54 (v := (2 : Int32)) rfl ?_
  refine w_iload ok at_55 rfl ?_
  refine w_iastore ok at_57 A_b1 ge_b1 (by decide) (Nat.le_of_ble_eq_true rfl) (fun h5 W_h5 A1_h5 => ?_)
  replace A_b1 : PA .int Z h5 b1 [(.int a), (.int b), (.int c)] := A1_h5
  refine w_iconst ok at_58 (v := (3 : Int32)) rfl ?_
  refine w_newarray ok at_59 (hw _ (List.mem_of_getElem? (i := 0) rfl)) (by decide) (cap := 3) (by decide) (by decide) (by decide) (by decide) (fun h7 b6 ea_b6 ge_b6 E_b6 A_b6 => ?_)
  have ne_b1_b6 : b1 ≠ b6 := fun q => Nat.lt_irrefl _ (Nat.lt_of_lt_of_eq A_b1.lt (ea_b6.symm.trans q.symm))
  replace A_b1 := A_b1.ext E_b6
  replace A_b6 : PA .int Z h7 b6 [(.int (0 : Int32)), (.int (0 : Int32)), (.int (0 : Int32))] := A_b6
  refine w_astore ok at_61 rfl (L' := #[.val (.long xl), .second, .val (.long yl), .second, .val (.long zl), .second, .val (.int fl), .val (.int a), .val (.int b), .val (.int c), .val (.int d), .val (.int e), .val (.int g), .val (.ref b1), .val (.ref b6), .unset, .unset, .unset, .unset, .unset, .unset]) rfl ?_
  refine w_aload ok at_63 rfl rfl ?_
  refine w_iconst ok at_65 (v := (0 : Int32)) rfl ?_
  refine w_iload ok at_66 rfl ?_
  refine w_iastore ok at_68 A_b6 ge_b6 (by decide) (Nat.le_of_ble_eq_true rfl) (fun h8 W_h8 A1_h8 => ?_)
  replace A_b1 := A_b1.other W_h8 ne_b1_b6
  replace A_b6 : PA .int Z h8 b6 [(.int d), (.int (0 : Int32)), (.int (0 : Int32))] := A1_h8
  refine w_aload ok at_69 rfl rfl ?_
  refine w_iconst ok at_71 (v := (1 : Int32)) rfl ?_
  refine w_iload ok at_72 rfl ?_
  refine w_iastore ok at_74 A_b6 ge_b6 (by decide) (Nat.le_of_ble_eq_true rfl) (fun h9 W_h9 A1_h9 => ?_)
  replace A_b1 := A_b1.other W_h9 ne_b1_b6
  replace A_b6 : PA .int Z h9 b6 [(.int d), (.int e), (.int (0 : Int32))] := A1_h9
  refine w_aload ok at_75 rfl rfl ?_
  refine w_iconst ok at_77 (v := (2 : Int32)) rfl ?_
  refine w_iload ok at_78 rfl ?_
  refine w_iastore ok at_80 A_b6 ge_b6 (by decide) (Nat.le_of_ble_eq_true rfl) (fun h10 W_h10 A1_h10 => ?_)
  replace A_b1 := A_b1.other W_h10 ne_b1_b6
  replace A_b6 : PA .int Z h10 b6 [(.int d), (.int e), (.int g)] := A1_h10
  refine w_new ok at_81 (hw _ (List.mem_of_getElem? (i := 1) rfl)) (hw _ (List.mem_of_getElem? (i := 2) rfl)) (hw _ (List.mem_of_getElem? (i := 3) rfl)) (la_FactTable hw) (by decide) (by decide) (fun h12 b11 ea_b11 ge_b11 E_b11 A_b11 => ?_)
  have ne_b1_b11 : b1 ≠ b11 := fun q => Nat.lt_irrefl _ (Nat.lt_of_lt_of_eq A_b1.lt (ea_b11.symm.trans q.symm))
  have ne_b6_b11 : b6 ≠ b11 := fun q => Nat.lt_irrefl _ (Nat.lt_of_lt_of_eq A_b6.lt (ea_b11.symm.trans q.symm))
  replace A_b1 := A_b1.ext E_b11
  replace A_b6 := A_b6.ext E_b11
  replace A_b11 : Ob Z h12 b11 "com/example/hornconv/hornconv/FactTable" fl_FactTable [.null, .null, (.int (0 : Int32)), .null, .null, .null, .null, (.int (0 : Int32)), (.int (0 : Int32)), (.int (0 : Int32))] := A_b11
  refine w_dup ok at_84 rfl ?_
  refine w_iconst ok at_85 (v := (3 : Int32)) rfl ?_
  refine w_callI ok (y := (⟨"com/example/hornconv/hornconv/FactTable", "<init>", "(I)V"⟩ : MethodName)) (a := b11) (argsL := [(.int (3 : Int32))]) (rest := [(.ref b11)]) at_86 rfl (hw _ (List.mem_of_getElem? (i := 4) rfl)) (hw _ (List.mem_of_getElem? (i := 5) rfl)) (hw _ (List.mem_of_getElem? (i := 3) rfl)) (hw _ (List.mem_of_getElem? (i := 6) rfl)) (by decide) pd_28I29V rfl rfl (by decide) (Nat.le_of_ble_eq_true rfl) (by decide) (by decide) (fun z0 => rm_ctor l Z a0 hw [] n0 h12 z0 b11 A_b11 ge_b11) (fun v13 h14 qv13 => ?_)
  obtain ⟨rfl, un, me, ag, de, sl, po, ⟨z1, z2, z3, z4⟩, ⟨g1, g2, g3, g4⟩, ⟨nn0, nn1, nn2, nn3, nn4, nn5, nn6, nn7, nn8, nn9⟩, K1, A1, A_ag, A_de, A_sl, A_po⟩ := qv13
  have ne_b1_ag : b1 ≠ ag := Nat.ne_of_lt (Nat.lt_of_lt_of_le A_b1.lt z1)
  have ne_b6_ag : b6 ≠ ag := Nat.ne_of_lt (Nat.lt_of_lt_of_le A_b6.lt z1)
  have ne_b11_ag : b11 ≠ ag := Nat.ne_of_lt (Nat.lt_of_lt_of_le A_b11.lt z1)
  have ne_b1_de : b1 ≠ de := Nat.ne_of_lt (Nat.lt_of_lt_of_le A_b1.lt z2)
  have ne_b6_de : b6 ≠ de := Nat.ne_of_lt (Nat.lt_of_lt_of_le A_b6.lt z2)
  have ne_b11_de : b11 ≠ de := Nat.ne_of_lt (Nat.lt_of_lt_of_le A_b11.lt z2)
  have ne_b1_sl : b1 ≠ sl := Nat.ne_of_lt (Nat.lt_of_lt_of_le A_b1.lt z3)
  have ne_b6_sl : b6 ≠ sl := Nat.ne_of_lt (Nat.lt_of_lt_of_le A_b6.lt z3)
  have ne_b11_sl : b11 ≠ sl := Nat.ne_of_lt (Nat.lt_of_lt_of_le A_b11.lt z3)
  have ne_b1_po : b1 ≠ po := Nat.ne_of_lt (Nat.lt_of_lt_of_le A_b1.lt z4)
  have ne_b6_po : b6 ≠ po := Nat.ne_of_lt (Nat.lt_of_lt_of_le A_b6.lt z4)
  have ne_b11_po : b11 ≠ po := Nat.ne_of_lt (Nat.lt_of_lt_of_le A_b11.lt z4)
  replace A_b1 := A_b1.keep K1 (ninS ne_b1_b11 nin0)
  replace A_b6 := A_b6.keep K1 (ninS ne_b6_b11 nin0)
  replace A_b11 := A1
  show W K l _ n0 _ h14 9 44 89 #[.val (.long xl), .second, .val (.long yl), .second, .val (.long zl), .second, .val (.int fl), .val (.int a), .val (.int b), .val (.int c), .val (.int d), .val (.int e), .val (.int g), .val (.ref b1), .val (.ref b6), .unset, .unset, .unset, .unset, .unset, .unset] [(.ref b11)]
  refine w_astore ok at_89 rfl (L' := #[.val (.long xl), .second, .val (.long yl), .second, .val (.long zl), .second, .val (.int fl), .val (.int a), .val (.int b), .val (.int c), .val (.int d), .val (.int e), .val (.int g), .val (.ref b1), .val (.ref b6), .val (.ref b11), .unset, .unset, .unset, .unset, .unset]) rfl ?_
  refine w_aload ok at_91 rfl rfl ?_
  refine w_aload ok at_93 rfl rfl ?_
  refine w_callV ok (y := (⟨"com/example/hornconv/hornconv/FactTable", "add", "([I)I"⟩ : MethodName)) (a := b11) (argsL := [(.ref b1)]) (rest := []) at_95 (hw _ (List.mem_of_getElem? (i := 32) rfl)) (hw _ (List.mem_of_getElem? (i := 33) rfl)) (hw _ (List.mem_of_getElem? (i := 35) rfl)) (hw _ (List.mem_of_getElem? (i := 34) rfl)) (hw _ (List.mem_of_getElem? (i := 3) rfl)) (hw _ (List.mem_of_getElem? (i := 36) rfl)) (by decide) A_b11.1 pd_285bI29I rfl rfl (by decide) (Nat.le_of_ble_eq_true rfl) (by decide) (by decide) (fun z0 => rm_add0 l Z a0 hw [] n0 h14 z0 b11 b1 un me ag de sl po (0 : Int32) (0 : Int32) (0 : Int32) (0 : Int32) (0 : Int32) (0 : Int32) (0 : Int32) (0 : Int32) (0 : Int32) (0 : Int32) (0 : Int32) (0 : Int32) (0 : Int32) (0 : Int32) (0 : Int32) (0 : Int32) (0 : Int32) (0 : Int32) a b c f00 A_b11 A_ag A_de A_sl A_po A_b1 ge_b11 g1 g3 nn0 nn1 nn2 nn3 (Ne.symm ne_b1_b11) nn4 nn5 nn6 (Ne.symm ne_b1_ag) nn7 nn9 (Ne.symm ne_b1_sl) own_rw0 (own_free 8 8 (fun _ _ _ _ => rfl)) (by decide)) (fun v15 h16 qv15 => ?_)
  rcases qv15 with qv15 | qv15
  · obtain ⟨-, -, r, -, h1, -⟩ := qv15; exact absurd (show (-1 : Int32) < 0 by decide) h1
  · skip
    obtain ⟨rfl, r0, u0, h8_r0, hF_r0, hu_r0, K1, A1, A2, A3⟩ := qv15
    replace A_b1 := A_b1.keep K1 (ninS ne_b1_b11 (ninS ne_b1_ag (ninS ne_b1_sl nin0)))
    replace A_b6 := A_b6.keep K1 (ninS ne_b6_b11 (ninS ne_b6_ag (ninS ne_b6_sl nin0)))
    replace A_de := A_de.keep K1 (ninS (Ne.symm nn1) (ninS (Ne.symm nn4) (ninS nn7 nin0)))
    replace A_po := A_po.keep K1 (ninS (Ne.symm nn3) (ninS (Ne.symm nn6) (ninS (Ne.symm nn9) nin0)))
    replace A_b11 := A1
    replace A_ag := A2
    replace A_sl := A3
    have hus_u0 : 0 ≤ u0.toInt ∧ u0.toInt ≤ 1 := by have q := hu_r0; have z : (0 : Int32).toInt = 0 := rfl; omega
    have hr0 := own_first (E := fun k => own_eqr 3 [(0 : Int32), (0 : Int32), (0 : Int32), (0 : Int32), (0 : Int32), (0 : Int32), (0 : Int32), (0 : Int32), (0 : Int32), (0 : Int32), (0 : Int32), (0 : Int32)] [a, b, c] k = 1) hF_r0
    have hRn17 : Rw (upd f00 r0 0) := own_rwu own_rw0 (by decide)
    have hNn17 := own_free (f := (upd f00 r0 0)) r0 r0 (fun j _ h0 h1 => by simp [upd, h0, h1])
    show W K l _ n0 _ h16 9 44 98 #[.val (.long xl), .second, .val (.long yl), .second, .val (.long zl), .second, .val (.int fl), .val (.int a), .val (.int b), .val (.int c), .val (.int d), .val (.int e), .val (.int g), .val (.ref b1), .val (.ref b6), .val (.ref b11), .unset, .unset, .unset, .unset, .unset] [(.int (0 : Int32))]
    refine w_istore ok at_98 (L' := #[.val (.long xl), .second, .val (.long yl), .second, .val (.long zl), .second, .val (.int fl), .val (.int a), .val (.int b), .val (.int c), .val (.int d), .val (.int e), .val (.int g), .val (.ref b1), .val (.ref b6), .val (.ref b11), .val (.int (0 : Int32)), .unset, .unset, .unset, .unset]) rfl ?_
    refine w_aload ok at_100 rfl rfl ?_
    refine w_aload ok at_102 rfl rfl ?_
    refine w_callV ok (y := (⟨"com/example/hornconv/hornconv/FactTable", "add", "([I)I"⟩ : MethodName)) (a := b11) (argsL := [(.ref b6)]) (rest := []) at_104 (hw _ (List.mem_of_getElem? (i := 32) rfl)) (hw _ (List.mem_of_getElem? (i := 33) rfl)) (hw _ (List.mem_of_getElem? (i := 35) rfl)) (hw _ (List.mem_of_getElem? (i := 34) rfl)) (hw _ (List.mem_of_getElem? (i := 3) rfl)) (hw _ (List.mem_of_getElem? (i := 36) rfl)) (by decide) A_b11.1 pd_285bI29I rfl rfl (by decide) (Nat.le_of_ble_eq_true rfl) (by decide) (by decide) (fun z0 => rm_add1 l Z a0 hw [] n0 h16 z0 b11 b6 un me ag de sl po ((0 : Int32) + 1) u0 a b c (0 : Int32) (0 : Int32) (0 : Int32) (0 : Int32) (0 : Int32) (0 : Int32) (0 : Int32) (0 : Int32) (0 : Int32) (0 : Int32) (0 : Int32) (0 : Int32) (0 : Int32) d e g (upd f00 r0 0) A_b11 A_ag A_de A_sl A_po A_b6 ge_b11 g1 g3 nn0 nn1 nn2 nn3 (Ne.symm ne_b6_b11) nn4 nn5 nn6 (Ne.symm ne_b6_ag) nn7 nn9 (Ne.symm ne_b6_sl) hRn17 hNn17 (by omega)) (fun v18 h19 qv18 => ?_)
    rcases qv18 with qv18 | qv18
    · skip
      obtain ⟨rfl, rfl, ra1, hA8_1, hA1_1, hA2_1⟩ := qv18
      obtain ⟨s1, s2, s3⟩ := own_sA hA1_1 hA2_1
      show W K l _ n0 _ h16 9 44 107 #[.val (.long xl), .second, .val (.long yl), .second, .val (.long zl), .second, .val (.int fl), .val (.int a), .val (.int b), .val (.int c), .val (.int d), .val (.int e), .val (.int g), .val (.ref b1), .val (.ref b6), .val (.ref b11), .val (.int (0 : Int32)), .unset, .unset, .unset, .unset] [(.int (-1 : Int32))]
      refine w_istore ok at_107 (L' := #[.val (.long xl), .second, .val (.long yl), .second, .val (.long zl), .second, .val (.int fl), .val (.int a), .val (.int b), .val (.int c), .val (.int d), .val (.int e), .val (.int g), .val (.ref b1), .val (.ref b6), .val (.ref b11), .val (.int (0 : Int32)), .val (.int (-1 : Int32)), .unset, .unset, .unset]) rfl ?_
      refine w_iload ok at_109 rfl ?_
      refine w_if_eq ok at_111 (pc' := 116) (by decide) (fun hc21 => ?_) (fun hc21 => False.elim (by revert hc21; decide))
      show W K l _ n0 _ h16 9 44 116 #[.val (.long xl), .second, .val (.long yl), .second, .val (.long zl), .second, .val (.int fl), .val (.int a), .val (.int b), .val (.int c), .val (.int d), .val (.int e), .val (.int g), .val (.ref b1), .val (.ref b6), .val (.ref b11), .val (.int (0 : Int32)), .val (.int (-1 : Int32)), .unset, .unset, .unset] []
      refine w_iload ok at_116 rfl ?_
      refine w_iload ok at_118 rfl ?_
      refine w_icmp_ne ok at_120 (pc' := 141) (by decide) (fun hc23 => False.elim (by exact hc23 s1)) (fun hc23 => ?_)
      show W K l _ n0 _ h16 9 44 123 #[.val (.long xl), .second, .val (.long yl), .second, .val (.long zl), .second, .val (.int fl), .val (.int a), .val (.int b), .val (.int c), .val (.int d), .val (.int e), .val (.int g), .val (.ref b1), .val (.ref b6), .val (.ref b11), .val (.int (0 : Int32)), .val (.int (-1 : Int32)), .unset, .unset, .unset] []
      refine w_iload ok at_123 rfl ?_
      refine w_iload ok at_125 rfl ?_
      refine w_icmp_ne ok at_127 (pc' := 141) (by decide) (fun hc25 => False.elim (by exact hc25 s2)) (fun hc25 => ?_)
      show W K l _ n0 _ h16 9 44 130 #[.val (.long xl), .second, .val (.long yl), .second, .val (.long zl), .second, .val (.int fl), .val (.int a), .val (.int b), .val (.int c), .val (.int d), .val (.int e), .val (.int g), .val (.ref b1), .val (.ref b6), .val (.ref b11), .val (.int (0 : Int32)), .val (.int (-1 : Int32)), .unset, .unset, .unset] []
      refine w_iload ok at_130 rfl ?_
      refine w_iload ok at_132 rfl ?_
      refine w_icmp_ne ok at_134 (pc' := 141) (by decide) (fun hc27 => False.elim (by exact hc27 s3)) (fun hc27 => ?_)
      show W K l _ n0 _ h16 9 44 137 #[.val (.long xl), .second, .val (.long yl), .second, .val (.long zl), .second, .val (.int fl), .val (.int a), .val (.int b), .val (.int c), .val (.int d), .val (.int e), .val (.int g), .val (.ref b1), .val (.ref b6), .val (.ref b11), .val (.int (0 : Int32)), .val (.int (-1 : Int32)), .unset, .unset, .unset] []
      refine w_iconst ok at_137 (v := (1 : Int32)) rfl ?_
      refine w_goto ok at_138 (pc' := 142) (by decide) ?_
      refine w_istore ok at_142 (L' := #[.val (.long xl), .second, .val (.long yl), .second, .val (.long zl), .second, .val (.int fl), .val (.int a), .val (.int b), .val (.int c), .val (.int d), .val (.int e), .val (.int g), .val (.ref b1), .val (.ref b6), .val (.ref b11), .val (.int (0 : Int32)), .val (.int (-1 : Int32)), .val (.int (1 : Int32)), .unset, .unset]) rfl ?_
      refine w_iload ok at_144 rfl ?_
      refine w_if_eq ok at_146 (pc' := 157) (by decide) (fun hc29 => False.elim (by revert hc29; decide)) (fun hc29 => ?_)
      show W K l _ n0 _ h16 9 44 149 #[.val (.long xl), .second, .val (.long yl), .second, .val (.long zl), .second, .val (.int fl), .val (.int a), .val (.int b), .val (.int c), .val (.int d), .val (.int e), .val (.int g), .val (.ref b1), .val (.ref b6), .val (.ref b11), .val (.int (0 : Int32)), .val (.int (-1 : Int32)), .val (.int (1 : Int32)), .unset, .unset] []
      refine w_iload ok at_149 rfl ?_
      refine w_iconst ok at_151 (v := (-1 : Int32)) rfl ?_
      refine w_icmp_eq ok at_152 (pc' := 165) (by decide) (fun hc31 => ?_) (fun hc31 => False.elim (by revert hc31; decide))
      show W K l _ n0 _ h16 9 44 165 #[.val (.long xl), .second, .val (.long yl), .second, .val (.long zl), .second, .val (.int fl), .val (.int a), .val (.int b), .val (.int c), .val (.int d), .val (.int e), .val (.int g), .val (.ref b1), .val (.ref b6), .val (.ref b11), .val (.int (0 : Int32)), .val (.int (-1 : Int32)), .val (.int (1 : Int32)), .unset, .unset] []
      refine w_iload ok at_165 rfl ?_
      refine w_iconst ok at_167 (v := (3 : Int32)) rfl ?_
      refine w_iand ok at_168 ?_
      refine w_istore ok at_169 (L' := #[.val (.long xl), .second, .val (.long yl), .second, .val (.long zl), .second, .val (.int fl), .val (.int a), .val (.int b), .val (.int c), .val (.int d), .val (.int e), .val (.int g), .val (.ref b1), .val (.ref b6), .val (.ref b11), .val (.int (0 : Int32)), .val (.int (-1 : Int32)), .val (.int (1 : Int32)), .val (.int (fl &&& (3 : Int32))), .unset]) rfl ?_
      refine w_iload ok at_171 rfl ?_
      refine w_iconst ok at_173 (v := (1 : Int32)) rfl ?_
      refine w_icmp_ne ok at_174 (pc' := 186) (by decide) (fun hc33 => ?_) (fun hc33 => ?_)
      · show W K l _ n0 _ h16 9 44 186 #[.val (.long xl), .second, .val (.long yl), .second, .val (.long zl), .second, .val (.int fl), .val (.int a), .val (.int b), .val (.int c), .val (.int d), .val (.int e), .val (.int g), .val (.ref b1), .val (.ref b6), .val (.ref b11), .val (.int (0 : Int32)), .val (.int (-1 : Int32)), .val (.int (1 : Int32)), .val (.int (fl &&& (3 : Int32))), .unset] []
        refine w_iload ok at_186 rfl ?_
        refine w_iconst ok at_188 (v := (2 : Int32)) rfl ?_
        refine w_icmp_ne ok at_189 (pc' := 204) (by decide) (fun hc35 => ?_) (fun hc35 => ?_)
        · show W K l _ n0 _ h16 9 44 204 #[.val (.long xl), .second, .val (.long yl), .second, .val (.long zl), .second, .val (.int fl), .val (.int a), .val (.int b), .val (.int c), .val (.int d), .val (.int e), .val (.int g), .val (.ref b1), .val (.ref b6), .val (.ref b11), .val (.int (0 : Int32)), .val (.int (-1 : Int32)), .val (.int (1 : Int32)), .val (.int (fl &&& (3 : Int32))), .unset] []
          refine w_aload ok at_204 rfl rfl ?_
          refine w_iconst ok at_206 (v := (0 : Int32)) rfl ?_
          refine w_iconst ok at_207 (v := (0 : Int32)) rfl ?_
          refine w_callV ok (y := (⟨"com/example/hornconv/hornconv/FactTable", "argument", "(II)I"⟩ : MethodName)) (a := b11) (argsL := [(.int (0 : Int32)), (.int (0 : Int32))]) (rest := []) at_208 (hw _ (List.mem_of_getElem? (i := 61) rfl)) (hw _ (List.mem_of_getElem? (i := 62) rfl)) (hw _ (List.mem_of_getElem? (i := 64) rfl)) (hw _ (List.mem_of_getElem? (i := 63) rfl)) (hw _ (List.mem_of_getElem? (i := 3) rfl)) (hw _ (List.mem_of_getElem? (i := 65) rfl)) (by decide) A_b11.1 pd_28II29I rfl rfl (by decide) (Nat.le_of_ble_eq_true rfl) (by decide) (by decide) (fun z0 => rm_arg00 l Z a0 hw [] n0 h16 z0 b11 un me ag de sl po (1 : Int32) ((0 : Int32) + 1) u0 a b c (0 : Int32) (0 : Int32) (0 : Int32) (0 : Int32) (0 : Int32) (0 : Int32) (0 : Int32) (0 : Int32) (0 : Int32) A_b11 A_ag) (fun v36 h37 qv36 => ?_)
          obtain ⟨rfl, rfl⟩ := qv36
          show W K l _ n0 _ h16 9 44 211 #[.val (.long xl), .second, .val (.long yl), .second, .val (.long zl), .second, .val (.int fl), .val (.int a), .val (.int b), .val (.int c), .val (.int d), .val (.int e), .val (.int g), .val (.ref b1), .val (.ref b6), .val (.ref b11), .val (.int (0 : Int32)), .val (.int (-1 : Int32)), .val (.int (1 : Int32)), .val (.int (fl &&& (3 : Int32))), .unset] [(.int a)]
          refine w_iload ok at_211 rfl ?_
          refine w_icmp_ne ok at_213 (pc' := 244) (by decide) (fun hc39 => False.elim (by exact hc39 rfl)) (fun hc39 => ?_)
          show W K l _ n0 _ h16 9 44 216 #[.val (.long xl), .second, .val (.long yl), .second, .val (.long zl), .second, .val (.int fl), .val (.int a), .val (.int b), .val (.int c), .val (.int d), .val (.int e), .val (.int g), .val (.ref b1), .val (.ref b6), .val (.ref b11), .val (.int (0 : Int32)), .val (.int (-1 : Int32)), .val (.int (1 : Int32)), .val (.int (fl &&& (3 : Int32))), .unset] []
          refine w_aload ok at_216 rfl rfl ?_
          refine w_iconst ok at_218 (v := (0 : Int32)) rfl ?_
          refine w_iconst ok at_219 (v := (1 : Int32)) rfl ?_
          refine w_callV ok (y := (⟨"com/example/hornconv/hornconv/FactTable", "argument", "(II)I"⟩ : MethodName)) (a := b11) (argsL := [(.int (0 : Int32)), (.int (1 : Int32))]) (rest := []) at_220 (hw _ (List.mem_of_getElem? (i := 61) rfl)) (hw _ (List.mem_of_getElem? (i := 62) rfl)) (hw _ (List.mem_of_getElem? (i := 64) rfl)) (hw _ (List.mem_of_getElem? (i := 63) rfl)) (hw _ (List.mem_of_getElem? (i := 3) rfl)) (hw _ (List.mem_of_getElem? (i := 65) rfl)) (by decide) A_b11.1 pd_28II29I rfl rfl (by decide) (Nat.le_of_ble_eq_true rfl) (by decide) (by decide) (fun z0 => rm_arg01 l Z a0 hw [] n0 h16 z0 b11 un me ag de sl po (1 : Int32) ((0 : Int32) + 1) u0 a b c (0 : Int32) (0 : Int32) (0 : Int32) (0 : Int32) (0 : Int32) (0 : Int32) (0 : Int32) (0 : Int32) (0 : Int32) A_b11 A_ag) (fun v40 h41 qv40 => ?_)
          obtain ⟨rfl, rfl⟩ := qv40
          show W K l _ n0 _ h16 9 44 223 #[.val (.long xl), .second, .val (.long yl), .second, .val (.long zl), .second, .val (.int fl), .val (.int a), .val (.int b), .val (.int c), .val (.int d), .val (.int e), .val (.int g), .val (.ref b1), .val (.ref b6), .val (.ref b11), .val (.int (0 : Int32)), .val (.int (-1 : Int32)), .val (.int (1 : Int32)), .val (.int (fl &&& (3 : Int32))), .unset] [(.int b)]
          refine w_iload ok at_223 rfl ?_
          refine w_icmp_ne ok at_225 (pc' := 244) (by decide) (fun hc43 => False.elim (by exact hc43 rfl)) (fun hc43 => ?_)
          show W K l _ n0 _ h16 9 44 228 #[.val (.long xl), .second, .val (.long yl), .second, .val (.long zl), .second, .val (.int fl), .val (.int a), .val (.int b), .val (.int c), .val (.int d), .val (.int e), .val (.int g), .val (.ref b1), .val (.ref b6), .val (.ref b11), .val (.int (0 : Int32)), .val (.int (-1 : Int32)), .val (.int (1 : Int32)), .val (.int (fl &&& (3 : Int32))), .unset] []
          refine w_aload ok at_228 rfl rfl ?_
          refine w_iconst ok at_230 (v := (0 : Int32)) rfl ?_
          refine w_iconst ok at_231 (v := (2 : Int32)) rfl ?_
          refine w_callV ok (y := (⟨"com/example/hornconv/hornconv/FactTable", "argument", "(II)I"⟩ : MethodName)) (a := b11) (argsL := [(.int (0 : Int32)), (.int (2 : Int32))]) (rest := []) at_232 (hw _ (List.mem_of_getElem? (i := 61) rfl)) (hw _ (List.mem_of_getElem? (i := 62) rfl)) (hw _ (List.mem_of_getElem? (i := 64) rfl)) (hw _ (List.mem_of_getElem? (i := 63) rfl)) (hw _ (List.mem_of_getElem? (i := 3) rfl)) (hw _ (List.mem_of_getElem? (i := 65) rfl)) (by decide) A_b11.1 pd_28II29I rfl rfl (by decide) (Nat.le_of_ble_eq_true rfl) (by decide) (by decide) (fun z0 => rm_arg02 l Z a0 hw [] n0 h16 z0 b11 un me ag de sl po (1 : Int32) ((0 : Int32) + 1) u0 a b c (0 : Int32) (0 : Int32) (0 : Int32) (0 : Int32) (0 : Int32) (0 : Int32) (0 : Int32) (0 : Int32) (0 : Int32) A_b11 A_ag) (fun v44 h45 qv44 => ?_)
          obtain ⟨rfl, rfl⟩ := qv44
          show W K l _ n0 _ h16 9 44 235 #[.val (.long xl), .second, .val (.long yl), .second, .val (.long zl), .second, .val (.int fl), .val (.int a), .val (.int b), .val (.int c), .val (.int d), .val (.int e), .val (.int g), .val (.ref b1), .val (.ref b6), .val (.ref b11), .val (.int (0 : Int32)), .val (.int (-1 : Int32)), .val (.int (1 : Int32)), .val (.int (fl &&& (3 : Int32))), .unset] [(.int c)]
          refine w_iload ok at_235 rfl ?_
          refine w_icmp_ne ok at_237 (pc' := 244) (by decide) (fun hc47 => False.elim (by exact hc47 rfl)) (fun hc47 => ?_)
          show W K l _ n0 _ h16 9 44 240 #[.val (.long xl), .second, .val (.long yl), .second, .val (.long zl), .second, .val (.int fl), .val (.int a), .val (.int b), .val (.int c), .val (.int d), .val (.int e), .val (.int g), .val (.ref b1), .val (.ref b6), .val (.ref b11), .val (.int (0 : Int32)), .val (.int (-1 : Int32)), .val (.int (1 : Int32)), .val (.int (fl &&& (3 : Int32))), .unset] []
          refine w_iconst ok at_240 (v := (1 : Int32)) rfl ?_
          refine w_goto ok at_241 (pc' := 245) (by decide) ?_
          refine w_istore ok at_245 (L' := #[.val (.long xl), .second, .val (.long yl), .second, .val (.long zl), .second, .val (.int fl), .val (.int a), .val (.int b), .val (.int c), .val (.int d), .val (.int e), .val (.int g), .val (.ref b1), .val (.ref b6), .val (.ref b11), .val (.int (0 : Int32)), .val (.int (-1 : Int32)), .val (.int (1 : Int32)), .val (.int (fl &&& (3 : Int32))), .val (.int (1 : Int32))]) rfl ?_
          refine w_iload ok at_247 rfl ?_
          refine w_iconst ok at_249 (v := (1 : Int32)) rfl ?_
          refine w_icmp_ne ok at_250 (pc' := 301) (by decide) (fun hc49 => ?_) (fun hc49 => False.elim (by revert hc49; decide))
          show W K l _ n0 _ h16 9 44 301 #[.val (.long xl), .second, .val (.long yl), .second, .val (.long zl), .second, .val (.int fl), .val (.int a), .val (.int b), .val (.int c), .val (.int d), .val (.int e), .val (.int g), .val (.ref b1), .val (.ref b6), .val (.ref b11), .val (.int (0 : Int32)), .val (.int (-1 : Int32)), .val (.int (1 : Int32)), .val (.int (fl &&& (3 : Int32))), .val (.int (1 : Int32))] []
          refine w_iload ok at_301 rfl ?_
          refine w_bret ok (by simp) at_303 (by decide) (by decide) ?_
          exact rfl
        · show W K l _ n0 _ h16 9 44 192 #[.val (.long xl), .second, .val (.long yl), .second, .val (.long zl), .second, .val (.int fl), .val (.int a), .val (.int b), .val (.int c), .val (.int d), .val (.int e), .val (.int g), .val (.ref b1), .val (.ref b6), .val (.ref b11), .val (.int (0 : Int32)), .val (.int (-1 : Int32)), .val (.int (1 : Int32)), .val (.int (fl &&& (3 : Int32))), .unset] []
          refine w_iload ok at_192 rfl ?_
          refine w_iconst ok at_194 (v := (1 : Int32)) rfl ?_
          refine w_icmp_ne ok at_195 (pc' := 204) (by decide) (fun hc51 => ?_) (fun hc51 => False.elim (by revert hc51; decide))
          show W K l _ n0 _ h16 9 44 204 #[.val (.long xl), .second, .val (.long yl), .second, .val (.long zl), .second, .val (.int fl), .val (.int a), .val (.int b), .val (.int c), .val (.int d), .val (.int e), .val (.int g), .val (.ref b1), .val (.ref b6), .val (.ref b11), .val (.int (0 : Int32)), .val (.int (-1 : Int32)), .val (.int (1 : Int32)), .val (.int (fl &&& (3 : Int32))), .unset] []
          refine w_aload ok at_204 rfl rfl ?_
          refine w_iconst ok at_206 (v := (0 : Int32)) rfl ?_
          refine w_iconst ok at_207 (v := (0 : Int32)) rfl ?_
          refine w_callV ok (y := (⟨"com/example/hornconv/hornconv/FactTable", "argument", "(II)I"⟩ : MethodName)) (a := b11) (argsL := [(.int (0 : Int32)), (.int (0 : Int32))]) (rest := []) at_208 (hw _ (List.mem_of_getElem? (i := 61) rfl)) (hw _ (List.mem_of_getElem? (i := 62) rfl)) (hw _ (List.mem_of_getElem? (i := 64) rfl)) (hw _ (List.mem_of_getElem? (i := 63) rfl)) (hw _ (List.mem_of_getElem? (i := 3) rfl)) (hw _ (List.mem_of_getElem? (i := 65) rfl)) (by decide) A_b11.1 pd_28II29I rfl rfl (by decide) (Nat.le_of_ble_eq_true rfl) (by decide) (by decide) (fun z0 => rm_arg00 l Z a0 hw [] n0 h16 z0 b11 un me ag de sl po (1 : Int32) ((0 : Int32) + 1) u0 a b c (0 : Int32) (0 : Int32) (0 : Int32) (0 : Int32) (0 : Int32) (0 : Int32) (0 : Int32) (0 : Int32) (0 : Int32) A_b11 A_ag) (fun v52 h53 qv52 => ?_)
          obtain ⟨rfl, rfl⟩ := qv52
          show W K l _ n0 _ h16 9 44 211 #[.val (.long xl), .second, .val (.long yl), .second, .val (.long zl), .second, .val (.int fl), .val (.int a), .val (.int b), .val (.int c), .val (.int d), .val (.int e), .val (.int g), .val (.ref b1), .val (.ref b6), .val (.ref b11), .val (.int (0 : Int32)), .val (.int (-1 : Int32)), .val (.int (1 : Int32)), .val (.int (fl &&& (3 : Int32))), .unset] [(.int a)]
          refine w_iload ok at_211 rfl ?_
          refine w_icmp_ne ok at_213 (pc' := 244) (by decide) (fun hc55 => False.elim (by exact hc55 rfl)) (fun hc55 => ?_)
          show W K l _ n0 _ h16 9 44 216 #[.val (.long xl), .second, .val (.long yl), .second, .val (.long zl), .second, .val (.int fl), .val (.int a), .val (.int b), .val (.int c), .val (.int d), .val (.int e), .val (.int g), .val (.ref b1), .val (.ref b6), .val (.ref b11), .val (.int (0 : Int32)), .val (.int (-1 : Int32)), .val (.int (1 : Int32)), .val (.int (fl &&& (3 : Int32))), .unset] []
          refine w_aload ok at_216 rfl rfl ?_
          refine w_iconst ok at_218 (v := (0 : Int32)) rfl ?_
          refine w_iconst ok at_219 (v := (1 : Int32)) rfl ?_
          refine w_callV ok (y := (⟨"com/example/hornconv/hornconv/FactTable", "argument", "(II)I"⟩ : MethodName)) (a := b11) (argsL := [(.int (0 : Int32)), (.int (1 : Int32))]) (rest := []) at_220 (hw _ (List.mem_of_getElem? (i := 61) rfl)) (hw _ (List.mem_of_getElem? (i := 62) rfl)) (hw _ (List.mem_of_getElem? (i := 64) rfl)) (hw _ (List.mem_of_getElem? (i := 63) rfl)) (hw _ (List.mem_of_getElem? (i := 3) rfl)) (hw _ (List.mem_of_getElem? (i := 65) rfl)) (by decide) A_b11.1 pd_28II29I rfl rfl (by decide) (Nat.le_of_ble_eq_true rfl) (by decide) (by decide) (fun z0 => rm_arg01 l Z a0 hw [] n0 h16 z0 b11 un me ag de sl po (1 : Int32) ((0 : Int32) + 1) u0 a b c (0 : Int32) (0 : Int32) (0 : Int32) (0 : Int32) (0 : Int32) (0 : Int32) (0 : Int32) (0 : Int32) (0 : Int32) A_b11 A_ag) (fun v56 h57 qv56 => ?_)
          obtain ⟨rfl, rfl⟩ := qv56
          show W K l _ n0 _ h16 9 44 223 #[.val (.long xl), .second, .val (.long yl), .second, .val (.long zl), .second, .val (.int fl), .val (.int a), .val (.int b), .val (.int c), .val (.int d), .val (.int e), .val (.int g), .val (.ref b1), .val (.ref b6), .val (.ref b11), .val (.int (0 : Int32)), .val (.int (-1 : Int32)), .val (.int (1 : Int32)), .val (.int (fl &&& (3 : Int32))), .unset] [(.int b)]
          refine w_iload ok at_223 rfl ?_
          refine w_icmp_ne ok at_225 (pc' := 244) (by decide) (fun hc59 => False.elim (by exact hc59 rfl)) (fun hc59 => ?_)
          show W K l _ n0 _ h16 9 44 228 #[.val (.long xl), .second, .val (.long yl), .second, .val (.long zl), .second, .val (.int fl), .val (.int a), .val (.int b), .val (.int c), .val (.int d), .val (.int e), .val (.int g), .val (.ref b1), .val (.ref b6), .val (.ref b11), .val (.int (0 : Int32)), .val (.int (-1 : Int32)), .val (.int (1 : Int32)), .val (.int (fl &&& (3 : Int32))), .unset] []
          refine w_aload ok at_228 rfl rfl ?_
          refine w_iconst ok at_230 (v := (0 : Int32)) rfl ?_
          refine w_iconst ok at_231 (v := (2 : Int32)) rfl ?_
          refine w_callV ok (y := (⟨"com/example/hornconv/hornconv/FactTable", "argument", "(II)I"⟩ : MethodName)) (a := b11) (argsL := [(.int (0 : Int32)), (.int (2 : Int32))]) (rest := []) at_232 (hw _ (List.mem_of_getElem? (i := 61) rfl)) (hw _ (List.mem_of_getElem? (i := 62) rfl)) (hw _ (List.mem_of_getElem? (i := 64) rfl)) (hw _ (List.mem_of_getElem? (i := 63) rfl)) (hw _ (List.mem_of_getElem? (i := 3) rfl)) (hw _ (List.mem_of_getElem? (i := 65) rfl)) (by decide) A_b11.1 pd_28II29I rfl rfl (by decide) (Nat.le_of_ble_eq_true rfl) (by decide) (by decide) (fun z0 => rm_arg02 l Z a0 hw [] n0 h16 z0 b11 un me ag de sl po (1 : Int32) ((0 : Int32) + 1) u0 a b c (0 : Int32) (0 : Int32) (0 : Int32) (0 : Int32) (0 : Int32) (0 : Int32) (0 : Int32) (0 : Int32) (0 : Int32) A_b11 A_ag) (fun v60 h61 qv60 => ?_)
          obtain ⟨rfl, rfl⟩ := qv60
          show W K l _ n0 _ h16 9 44 235 #[.val (.long xl), .second, .val (.long yl), .second, .val (.long zl), .second, .val (.int fl), .val (.int a), .val (.int b), .val (.int c), .val (.int d), .val (.int e), .val (.int g), .val (.ref b1), .val (.ref b6), .val (.ref b11), .val (.int (0 : Int32)), .val (.int (-1 : Int32)), .val (.int (1 : Int32)), .val (.int (fl &&& (3 : Int32))), .unset] [(.int c)]
          refine w_iload ok at_235 rfl ?_
          refine w_icmp_ne ok at_237 (pc' := 244) (by decide) (fun hc63 => False.elim (by exact hc63 rfl)) (fun hc63 => ?_)
          show W K l _ n0 _ h16 9 44 240 #[.val (.long xl), .second, .val (.long yl), .second, .val (.long zl), .second, .val (.int fl), .val (.int a), .val (.int b), .val (.int c), .val (.int d), .val (.int e), .val (.int g), .val (.ref b1), .val (.ref b6), .val (.ref b11), .val (.int (0 : Int32)), .val (.int (-1 : Int32)), .val (.int (1 : Int32)), .val (.int (fl &&& (3 : Int32))), .unset] []
          refine w_iconst ok at_240 (v := (1 : Int32)) rfl ?_
          refine w_goto ok at_241 (pc' := 245) (by decide) ?_
          refine w_istore ok at_245 (L' := #[.val (.long xl), .second, .val (.long yl), .second, .val (.long zl), .second, .val (.int fl), .val (.int a), .val (.int b), .val (.int c), .val (.int d), .val (.int e), .val (.int g), .val (.ref b1), .val (.ref b6), .val (.ref b11), .val (.int (0 : Int32)), .val (.int (-1 : Int32)), .val (.int (1 : Int32)), .val (.int (fl &&& (3 : Int32))), .val (.int (1 : Int32))]) rfl ?_
          refine w_iload ok at_247 rfl ?_
          refine w_iconst ok at_249 (v := (1 : Int32)) rfl ?_
          refine w_icmp_ne ok at_250 (pc' := 301) (by decide) (fun hc65 => ?_) (fun hc65 => False.elim (by revert hc65; decide))
          show W K l _ n0 _ h16 9 44 301 #[.val (.long xl), .second, .val (.long yl), .second, .val (.long zl), .second, .val (.int fl), .val (.int a), .val (.int b), .val (.int c), .val (.int d), .val (.int e), .val (.int g), .val (.ref b1), .val (.ref b6), .val (.ref b11), .val (.int (0 : Int32)), .val (.int (-1 : Int32)), .val (.int (1 : Int32)), .val (.int (fl &&& (3 : Int32))), .val (.int (1 : Int32))] []
          refine w_iload ok at_301 rfl ?_
          refine w_bret ok (by simp) at_303 (by decide) (by decide) ?_
          exact rfl
      · show W K l _ n0 _ h16 9 44 177 #[.val (.long xl), .second, .val (.long yl), .second, .val (.long zl), .second, .val (.int fl), .val (.int a), .val (.int b), .val (.int c), .val (.int d), .val (.int e), .val (.int g), .val (.ref b1), .val (.ref b6), .val (.ref b11), .val (.int (0 : Int32)), .val (.int (-1 : Int32)), .val (.int (1 : Int32)), .val (.int (fl &&& (3 : Int32))), .unset] []
        refine w_aload ok at_177 rfl rfl ?_
        refine w_iconst ok at_179 (v := (0 : Int32)) rfl ?_
        refine w_callV ok (y := (⟨"com/example/hornconv/hornconv/FactTable", "remove", "(I)V"⟩ : MethodName)) (a := b11) (argsL := [(.int (0 : Int32))]) (rest := []) at_180 (hw _ (List.mem_of_getElem? (i := 56) rfl)) (hw _ (List.mem_of_getElem? (i := 57) rfl)) (hw _ (List.mem_of_getElem? (i := 59) rfl)) (hw _ (List.mem_of_getElem? (i := 58) rfl)) (hw _ (List.mem_of_getElem? (i := 3) rfl)) (hw _ (List.mem_of_getElem? (i := 60) rfl)) (by decide) A_b11.1 pd_28I29V rfl rfl (by decide) (Nat.le_of_ble_eq_true rfl) (by decide) (by decide) (fun z0 => rm_rm0 l Z a0 hw [] n0 h16 z0 b11 un me ag de sl po (1 : Int32) ((0 : Int32) + 1) u0 a b c (0 : Int32) (0 : Int32) (0 : Int32) (0 : Int32) (0 : Int32) (0 : Int32) (0 : Int32) (0 : Int32) (0 : Int32) (0 : Int32) (0 : Int32) (0 : Int32) (0 : Int32) (upd f00 r0 0) A_b11 A_ag A_de A_sl A_po ge_b11 g2 g3 nn0 nn1 nn2 nn3 nn4 nn5 nn6 nn7 nn9 nn8 ⟨0, by rw [← hr0]; simp [upd]⟩) (fun v66 h67 qv66 => ?_)
        obtain ⟨rfl, rr, h8_rr, hfr, K1, A1, A2, A3⟩ := qv66
        replace A_b1 := A_b1.keep K1 (ninS ne_b1_b11 (ninS ne_b1_de (ninS ne_b1_sl nin0)))
        replace A_b6 := A_b6.keep K1 (ninS ne_b6_b11 (ninS ne_b6_de (ninS ne_b6_sl nin0)))
        replace A_ag := A_ag.keep K1 (ninS (Ne.symm nn0) (ninS nn4 (ninS nn5 nin0)))
        replace A_po := A_po.keep K1 (ninS (Ne.symm nn3) (ninS (Ne.symm nn8) (ninS (Ne.symm nn9) nin0)))
        replace A_b11 := A1
        replace A_de := A2
        replace A_sl := A3
        have err : rr = r0 := by
          simp only [upd, f00] at hfr; repeat' split at hfr
          all_goals first | assumption | exact absurd hfr (by decide)
        rw [err] at A_sl
        have hRn68 : Rw (upd (upd f00 r0 0) r0 (-2)) := own_rwu hRn17 (by decide)
        have hNn68 := own_free (f := (upd (upd f00 r0 0) r0 (-2))) r0 r0 (fun j _ h0 h1 => by simp [upd, h0, h1])
        show W K l _ n0 _ h67 9 44 183 #[.val (.long xl), .second, .val (.long yl), .second, .val (.long zl), .second, .val (.int fl), .val (.int a), .val (.int b), .val (.int c), .val (.int d), .val (.int e), .val (.int g), .val (.ref b1), .val (.ref b6), .val (.ref b11), .val (.int (0 : Int32)), .val (.int (-1 : Int32)), .val (.int (1 : Int32)), .val (.int (fl &&& (3 : Int32))), .unset] []
        refine w_goto ok at_183 (pc' := 204) (by decide) ?_
        refine w_aload ok at_204 rfl rfl ?_
        refine w_iconst ok at_206 (v := (0 : Int32)) rfl ?_
        refine w_iconst ok at_207 (v := (0 : Int32)) rfl ?_
        refine w_callV ok (y := (⟨"com/example/hornconv/hornconv/FactTable", "argument", "(II)I"⟩ : MethodName)) (a := b11) (argsL := [(.int (0 : Int32)), (.int (0 : Int32))]) (rest := []) at_208 (hw _ (List.mem_of_getElem? (i := 61) rfl)) (hw _ (List.mem_of_getElem? (i := 62) rfl)) (hw _ (List.mem_of_getElem? (i := 64) rfl)) (hw _ (List.mem_of_getElem? (i := 63) rfl)) (hw _ (List.mem_of_getElem? (i := 3) rfl)) (hw _ (List.mem_of_getElem? (i := 65) rfl)) (by decide) A_b11.1 pd_28II29I rfl rfl (by decide) (Nat.le_of_ble_eq_true rfl) (by decide) (by decide) (fun z0 => rm_arg00 l Z a0 hw [] n0 h67 z0 b11 un me ag de sl po (1 : Int32) (((0 : Int32) + 1) - 1) u0 a b c (0 : Int32) (0 : Int32) (0 : Int32) (0 : Int32) (0 : Int32) (0 : Int32) (0 : Int32) (0 : Int32) (0 : Int32) A_b11 A_ag) (fun v69 h70 qv69 => ?_)
        obtain ⟨rfl, rfl⟩ := qv69
        show W K l _ n0 _ h67 9 44 211 #[.val (.long xl), .second, .val (.long yl), .second, .val (.long zl), .second, .val (.int fl), .val (.int a), .val (.int b), .val (.int c), .val (.int d), .val (.int e), .val (.int g), .val (.ref b1), .val (.ref b6), .val (.ref b11), .val (.int (0 : Int32)), .val (.int (-1 : Int32)), .val (.int (1 : Int32)), .val (.int (fl &&& (3 : Int32))), .unset] [(.int a)]
        refine w_iload ok at_211 rfl ?_
        refine w_icmp_ne ok at_213 (pc' := 244) (by decide) (fun hc72 => False.elim (by exact hc72 rfl)) (fun hc72 => ?_)
        show W K l _ n0 _ h67 9 44 216 #[.val (.long xl), .second, .val (.long yl), .second, .val (.long zl), .second, .val (.int fl), .val (.int a), .val (.int b), .val (.int c), .val (.int d), .val (.int e), .val (.int g), .val (.ref b1), .val (.ref b6), .val (.ref b11), .val (.int (0 : Int32)), .val (.int (-1 : Int32)), .val (.int (1 : Int32)), .val (.int (fl &&& (3 : Int32))), .unset] []
        refine w_aload ok at_216 rfl rfl ?_
        refine w_iconst ok at_218 (v := (0 : Int32)) rfl ?_
        refine w_iconst ok at_219 (v := (1 : Int32)) rfl ?_
        refine w_callV ok (y := (⟨"com/example/hornconv/hornconv/FactTable", "argument", "(II)I"⟩ : MethodName)) (a := b11) (argsL := [(.int (0 : Int32)), (.int (1 : Int32))]) (rest := []) at_220 (hw _ (List.mem_of_getElem? (i := 61) rfl)) (hw _ (List.mem_of_getElem? (i := 62) rfl)) (hw _ (List.mem_of_getElem? (i := 64) rfl)) (hw _ (List.mem_of_getElem? (i := 63) rfl)) (hw _ (List.mem_of_getElem? (i := 3) rfl)) (hw _ (List.mem_of_getElem? (i := 65) rfl)) (by decide) A_b11.1 pd_28II29I rfl rfl (by decide) (Nat.le_of_ble_eq_true rfl) (by decide) (by decide) (fun z0 => rm_arg01 l Z a0 hw [] n0 h67 z0 b11 un me ag de sl po (1 : Int32) (((0 : Int32) + 1) - 1) u0 a b c (0 : Int32) (0 : Int32) (0 : Int32) (0 : Int32) (0 : Int32) (0 : Int32) (0 : Int32) (0 : Int32) (0 : Int32) A_b11 A_ag) (fun v73 h74 qv73 => ?_)
        obtain ⟨rfl, rfl⟩ := qv73
        show W K l _ n0 _ h67 9 44 223 #[.val (.long xl), .second, .val (.long yl), .second, .val (.long zl), .second, .val (.int fl), .val (.int a), .val (.int b), .val (.int c), .val (.int d), .val (.int e), .val (.int g), .val (.ref b1), .val (.ref b6), .val (.ref b11), .val (.int (0 : Int32)), .val (.int (-1 : Int32)), .val (.int (1 : Int32)), .val (.int (fl &&& (3 : Int32))), .unset] [(.int b)]
        refine w_iload ok at_223 rfl ?_
        refine w_icmp_ne ok at_225 (pc' := 244) (by decide) (fun hc76 => False.elim (by exact hc76 rfl)) (fun hc76 => ?_)
        show W K l _ n0 _ h67 9 44 228 #[.val (.long xl), .second, .val (.long yl), .second, .val (.long zl), .second, .val (.int fl), .val (.int a), .val (.int b), .val (.int c), .val (.int d), .val (.int e), .val (.int g), .val (.ref b1), .val (.ref b6), .val (.ref b11), .val (.int (0 : Int32)), .val (.int (-1 : Int32)), .val (.int (1 : Int32)), .val (.int (fl &&& (3 : Int32))), .unset] []
        refine w_aload ok at_228 rfl rfl ?_
        refine w_iconst ok at_230 (v := (0 : Int32)) rfl ?_
        refine w_iconst ok at_231 (v := (2 : Int32)) rfl ?_
        refine w_callV ok (y := (⟨"com/example/hornconv/hornconv/FactTable", "argument", "(II)I"⟩ : MethodName)) (a := b11) (argsL := [(.int (0 : Int32)), (.int (2 : Int32))]) (rest := []) at_232 (hw _ (List.mem_of_getElem? (i := 61) rfl)) (hw _ (List.mem_of_getElem? (i := 62) rfl)) (hw _ (List.mem_of_getElem? (i := 64) rfl)) (hw _ (List.mem_of_getElem? (i := 63) rfl)) (hw _ (List.mem_of_getElem? (i := 3) rfl)) (hw _ (List.mem_of_getElem? (i := 65) rfl)) (by decide) A_b11.1 pd_28II29I rfl rfl (by decide) (Nat.le_of_ble_eq_true rfl) (by decide) (by decide) (fun z0 => rm_arg02 l Z a0 hw [] n0 h67 z0 b11 un me ag de sl po (1 : Int32) (((0 : Int32) + 1) - 1) u0 a b c (0 : Int32) (0 : Int32) (0 : Int32) (0 : Int32) (0 : Int32) (0 : Int32) (0 : Int32) (0 : Int32) (0 : Int32) A_b11 A_ag) (fun v77 h78 qv77 => ?_)
        obtain ⟨rfl, rfl⟩ := qv77
        show W K l _ n0 _ h67 9 44 235 #[.val (.long xl), .second, .val (.long yl), .second, .val (.long zl), .second, .val (.int fl), .val (.int a), .val (.int b), .val (.int c), .val (.int d), .val (.int e), .val (.int g), .val (.ref b1), .val (.ref b6), .val (.ref b11), .val (.int (0 : Int32)), .val (.int (-1 : Int32)), .val (.int (1 : Int32)), .val (.int (fl &&& (3 : Int32))), .unset] [(.int c)]
        refine w_iload ok at_235 rfl ?_
        refine w_icmp_ne ok at_237 (pc' := 244) (by decide) (fun hc80 => False.elim (by exact hc80 rfl)) (fun hc80 => ?_)
        show W K l _ n0 _ h67 9 44 240 #[.val (.long xl), .second, .val (.long yl), .second, .val (.long zl), .second, .val (.int fl), .val (.int a), .val (.int b), .val (.int c), .val (.int d), .val (.int e), .val (.int g), .val (.ref b1), .val (.ref b6), .val (.ref b11), .val (.int (0 : Int32)), .val (.int (-1 : Int32)), .val (.int (1 : Int32)), .val (.int (fl &&& (3 : Int32))), .unset] []
        refine w_iconst ok at_240 (v := (1 : Int32)) rfl ?_
        refine w_goto ok at_241 (pc' := 245) (by decide) ?_
        refine w_istore ok at_245 (L' := #[.val (.long xl), .second, .val (.long yl), .second, .val (.long zl), .second, .val (.int fl), .val (.int a), .val (.int b), .val (.int c), .val (.int d), .val (.int e), .val (.int g), .val (.ref b1), .val (.ref b6), .val (.ref b11), .val (.int (0 : Int32)), .val (.int (-1 : Int32)), .val (.int (1 : Int32)), .val (.int (fl &&& (3 : Int32))), .val (.int (1 : Int32))]) rfl ?_
        refine w_iload ok at_247 rfl ?_
        refine w_iconst ok at_249 (v := (1 : Int32)) rfl ?_
        refine w_icmp_ne ok at_250 (pc' := 301) (by decide) (fun hc82 => ?_) (fun hc82 => False.elim (by revert hc82; decide))
        show W K l _ n0 _ h67 9 44 301 #[.val (.long xl), .second, .val (.long yl), .second, .val (.long zl), .second, .val (.int fl), .val (.int a), .val (.int b), .val (.int c), .val (.int d), .val (.int e), .val (.int g), .val (.ref b1), .val (.ref b6), .val (.ref b11), .val (.int (0 : Int32)), .val (.int (-1 : Int32)), .val (.int (1 : Int32)), .val (.int (fl &&& (3 : Int32))), .val (.int (1 : Int32))] []
        refine w_iload ok at_301 rfl ?_
        refine w_bret ok (by simp) at_303 (by decide) (by decide) ?_
        exact rfl
    · skip
      obtain ⟨rfl, r1, u1, h8_r1, hF_r1, hu_r1, K1, A1, A2, A3⟩ := qv18
      replace A_b1 := A_b1.keep K1 (ninS ne_b1_b11 (ninS ne_b1_ag (ninS ne_b1_sl nin0)))
      replace A_b6 := A_b6.keep K1 (ninS ne_b6_b11 (ninS ne_b6_ag (ninS ne_b6_sl nin0)))
      replace A_de := A_de.keep K1 (ninS (Ne.symm nn1) (ninS (Ne.symm nn4) (ninS nn7 nin0)))
      replace A_po := A_po.keep K1 (ninS (Ne.symm nn3) (ninS (Ne.symm nn6) (ninS (Ne.symm nn9) nin0)))
      replace A_b11 := A1
      replace A_ag := A2
      replace A_sl := A3
      have hus_u1 : 0 ≤ u1.toInt ∧ u1.toInt ≤ 2 := by have q := hu_r1; have z : (0 : Int32).toInt = 0 := rfl; omega
      have nsame : ¬ (a = d ∧ b = e ∧ c = g) := fun q => own_hit (E := fun k => own_eqr 3 [a, b, c, 0, 0, 0, 0, 0, 0, 0, 0, 0] [d, e, g] k = 1) hF_r1 (by rw [← q.1, ← q.2.1, ← q.2.2, ← hr0]; exact upd_same _ _ _) (own_eqk' (by rw [← q.1, ← q.2.1, ← q.2.2]; rfl))
      have ne10 : r1 ≠ r0 := fun q => by have h := hF_r1.1; rw [q, upd_same] at h; exact absurd h (by decide)
      obtain ⟨i1, hr1⟩ := own_at (E := fun k => own_eqr 3 [a, b, c, (0 : Int32), (0 : Int32), (0 : Int32), (0 : Int32), (0 : Int32), (0 : Int32), (0 : Int32), (0 : Int32), (0 : Int32)] [d, e, g] k = 1) hF_r1
      have hRn83 : Rw (upd (upd f00 r0 0) r1 1) := own_rwu hRn17 (by decide)
      have hNn83 := own_free (f := (upd (upd f00 r0 0) r1 1)) r0 r1 (fun j _ h0 h1 => by simp [upd, h0, h1])
      show W K l _ n0 _ h19 9 44 107 #[.val (.long xl), .second, .val (.long yl), .second, .val (.long zl), .second, .val (.int fl), .val (.int a), .val (.int b), .val (.int c), .val (.int d), .val (.int e), .val (.int g), .val (.ref b1), .val (.ref b6), .val (.ref b11), .val (.int (0 : Int32)), .unset, .unset, .unset, .unset] [(.int (1 : Int32))]
      refine w_istore ok at_107 (L' := #[.val (.long xl), .second, .val (.long yl), .second, .val (.long zl), .second, .val (.int fl), .val (.int a), .val (.int b), .val (.int c), .val (.int d), .val (.int e), .val (.int g), .val (.ref b1), .val (.ref b6), .val (.ref b11), .val (.int (0 : Int32)), .val (.int (1 : Int32)), .unset, .unset, .unset]) rfl ?_
      refine w_iload ok at_109 rfl ?_
      refine w_if_eq ok at_111 (pc' := 116) (by decide) (fun hc85 => ?_) (fun hc85 => False.elim (by revert hc85; decide))
      show W K l _ n0 _ h19 9 44 116 #[.val (.long xl), .second, .val (.long yl), .second, .val (.long zl), .second, .val (.int fl), .val (.int a), .val (.int b), .val (.int c), .val (.int d), .val (.int e), .val (.int g), .val (.ref b1), .val (.ref b6), .val (.ref b11), .val (.int (0 : Int32)), .val (.int (1 : Int32)), .unset, .unset, .unset] []
      refine w_iload ok at_116 rfl ?_
      refine w_iload ok at_118 rfl ?_
      refine w_icmp_ne ok at_120 (pc' := 141) (by decide) (fun hc87 => ?_) (fun hc87 => ?_)
      · show W K l _ n0 _ h19 9 44 141 #[.val (.long xl), .second, .val (.long yl), .second, .val (.long zl), .second, .val (.int fl), .val (.int a), .val (.int b), .val (.int c), .val (.int d), .val (.int e), .val (.int g), .val (.ref b1), .val (.ref b6), .val (.ref b11), .val (.int (0 : Int32)), .val (.int (1 : Int32)), .unset, .unset, .unset] []
        refine w_iconst ok at_141 (v := (0 : Int32)) rfl ?_
        refine w_istore ok at_142 (L' := #[.val (.long xl), .second, .val (.long yl), .second, .val (.long zl), .second, .val (.int fl), .val (.int a), .val (.int b), .val (.int c), .val (.int d), .val (.int e), .val (.int g), .val (.ref b1), .val (.ref b6), .val (.ref b11), .val (.int (0 : Int32)), .val (.int (1 : Int32)), .val (.int (0 : Int32)), .unset, .unset]) rfl ?_
        refine w_iload ok at_144 rfl ?_
        refine w_if_eq ok at_146 (pc' := 157) (by decide) (fun hc89 => ?_) (fun hc89 => False.elim (by revert hc89; decide))
        show W K l _ n0 _ h19 9 44 157 #[.val (.long xl), .second, .val (.long yl), .second, .val (.long zl), .second, .val (.int fl), .val (.int a), .val (.int b), .val (.int c), .val (.int d), .val (.int e), .val (.int g), .val (.ref b1), .val (.ref b6), .val (.ref b11), .val (.int (0 : Int32)), .val (.int (1 : Int32)), .val (.int (0 : Int32)), .unset, .unset] []
        refine w_iload ok at_157 rfl ?_
        refine w_iconst ok at_159 (v := (1 : Int32)) rfl ?_
        refine w_icmp_eq ok at_160 (pc' := 165) (by decide) (fun hc91 => ?_) (fun hc91 => False.elim (by revert hc91; decide))
        show W K l _ n0 _ h19 9 44 165 #[.val (.long xl), .second, .val (.long yl), .second, .val (.long zl), .second, .val (.int fl), .val (.int a), .val (.int b), .val (.int c), .val (.int d), .val (.int e), .val (.int g), .val (.ref b1), .val (.ref b6), .val (.ref b11), .val (.int (0 : Int32)), .val (.int (1 : Int32)), .val (.int (0 : Int32)), .unset, .unset] []
        refine w_iload ok at_165 rfl ?_
        refine w_iconst ok at_167 (v := (3 : Int32)) rfl ?_
        refine w_iand ok at_168 ?_
        refine w_istore ok at_169 (L' := #[.val (.long xl), .second, .val (.long yl), .second, .val (.long zl), .second, .val (.int fl), .val (.int a), .val (.int b), .val (.int c), .val (.int d), .val (.int e), .val (.int g), .val (.ref b1), .val (.ref b6), .val (.ref b11), .val (.int (0 : Int32)), .val (.int (1 : Int32)), .val (.int (0 : Int32)), .val (.int (fl &&& (3 : Int32))), .unset]) rfl ?_
        refine w_iload ok at_171 rfl ?_
        refine w_iconst ok at_173 (v := (1 : Int32)) rfl ?_
        refine w_icmp_ne ok at_174 (pc' := 186) (by decide) (fun hc93 => ?_) (fun hc93 => ?_)
        · show W K l _ n0 _ h19 9 44 186 #[.val (.long xl), .second, .val (.long yl), .second, .val (.long zl), .second, .val (.int fl), .val (.int a), .val (.int b), .val (.int c), .val (.int d), .val (.int e), .val (.int g), .val (.ref b1), .val (.ref b6), .val (.ref b11), .val (.int (0 : Int32)), .val (.int (1 : Int32)), .val (.int (0 : Int32)), .val (.int (fl &&& (3 : Int32))), .unset] []
          refine w_iload ok at_186 rfl ?_
          refine w_iconst ok at_188 (v := (2 : Int32)) rfl ?_
          refine w_icmp_ne ok at_189 (pc' := 204) (by decide) (fun hc95 => ?_) (fun hc95 => ?_)
          · show W K l _ n0 _ h19 9 44 204 #[.val (.long xl), .second, .val (.long yl), .second, .val (.long zl), .second, .val (.int fl), .val (.int a), .val (.int b), .val (.int c), .val (.int d), .val (.int e), .val (.int g), .val (.ref b1), .val (.ref b6), .val (.ref b11), .val (.int (0 : Int32)), .val (.int (1 : Int32)), .val (.int (0 : Int32)), .val (.int (fl &&& (3 : Int32))), .unset] []
            refine w_aload ok at_204 rfl rfl ?_
            refine w_iconst ok at_206 (v := (0 : Int32)) rfl ?_
            refine w_iconst ok at_207 (v := (0 : Int32)) rfl ?_
            refine w_callV ok (y := (⟨"com/example/hornconv/hornconv/FactTable", "argument", "(II)I"⟩ : MethodName)) (a := b11) (argsL := [(.int (0 : Int32)), (.int (0 : Int32))]) (rest := []) at_208 (hw _ (List.mem_of_getElem? (i := 61) rfl)) (hw _ (List.mem_of_getElem? (i := 62) rfl)) (hw _ (List.mem_of_getElem? (i := 64) rfl)) (hw _ (List.mem_of_getElem? (i := 63) rfl)) (hw _ (List.mem_of_getElem? (i := 3) rfl)) (hw _ (List.mem_of_getElem? (i := 65) rfl)) (by decide) A_b11.1 pd_28II29I rfl rfl (by decide) (Nat.le_of_ble_eq_true rfl) (by decide) (by decide) (fun z0 => rm_arg00 l Z a0 hw [] n0 h19 z0 b11 un me ag de sl po (2 : Int32) (((0 : Int32) + 1) + 1) u1 a b c d e g (0 : Int32) (0 : Int32) (0 : Int32) (0 : Int32) (0 : Int32) (0 : Int32) A_b11 A_ag) (fun v96 h97 qv96 => ?_)
            obtain ⟨rfl, rfl⟩ := qv96
            show W K l _ n0 _ h19 9 44 211 #[.val (.long xl), .second, .val (.long yl), .second, .val (.long zl), .second, .val (.int fl), .val (.int a), .val (.int b), .val (.int c), .val (.int d), .val (.int e), .val (.int g), .val (.ref b1), .val (.ref b6), .val (.ref b11), .val (.int (0 : Int32)), .val (.int (1 : Int32)), .val (.int (0 : Int32)), .val (.int (fl &&& (3 : Int32))), .unset] [(.int a)]
            refine w_iload ok at_211 rfl ?_
            refine w_icmp_ne ok at_213 (pc' := 244) (by decide) (fun hc99 => False.elim (by exact hc99 rfl)) (fun hc99 => ?_)
            show W K l _ n0 _ h19 9 44 216 #[.val (.long xl), .second, .val (.long yl), .second, .val (.long zl), .second, .val (.int fl), .val (.int a), .val (.int b), .val (.int c), .val (.int d), .val (.int e), .val (.int g), .val (.ref b1), .val (.ref b6), .val (.ref b11), .val (.int (0 : Int32)), .val (.int (1 : Int32)), .val (.int (0 : Int32)), .val (.int (fl &&& (3 : Int32))), .unset] []
            refine w_aload ok at_216 rfl rfl ?_
            refine w_iconst ok at_218 (v := (0 : Int32)) rfl ?_
            refine w_iconst ok at_219 (v := (1 : Int32)) rfl ?_
            refine w_callV ok (y := (⟨"com/example/hornconv/hornconv/FactTable", "argument", "(II)I"⟩ : MethodName)) (a := b11) (argsL := [(.int (0 : Int32)), (.int (1 : Int32))]) (rest := []) at_220 (hw _ (List.mem_of_getElem? (i := 61) rfl)) (hw _ (List.mem_of_getElem? (i := 62) rfl)) (hw _ (List.mem_of_getElem? (i := 64) rfl)) (hw _ (List.mem_of_getElem? (i := 63) rfl)) (hw _ (List.mem_of_getElem? (i := 3) rfl)) (hw _ (List.mem_of_getElem? (i := 65) rfl)) (by decide) A_b11.1 pd_28II29I rfl rfl (by decide) (Nat.le_of_ble_eq_true rfl) (by decide) (by decide) (fun z0 => rm_arg01 l Z a0 hw [] n0 h19 z0 b11 un me ag de sl po (2 : Int32) (((0 : Int32) + 1) + 1) u1 a b c d e g (0 : Int32) (0 : Int32) (0 : Int32) (0 : Int32) (0 : Int32) (0 : Int32) A_b11 A_ag) (fun v100 h101 qv100 => ?_)
            obtain ⟨rfl, rfl⟩ := qv100
            show W K l _ n0 _ h19 9 44 223 #[.val (.long xl), .second, .val (.long yl), .second, .val (.long zl), .second, .val (.int fl), .val (.int a), .val (.int b), .val (.int c), .val (.int d), .val (.int e), .val (.int g), .val (.ref b1), .val (.ref b6), .val (.ref b11), .val (.int (0 : Int32)), .val (.int (1 : Int32)), .val (.int (0 : Int32)), .val (.int (fl &&& (3 : Int32))), .unset] [(.int b)]
            refine w_iload ok at_223 rfl ?_
            refine w_icmp_ne ok at_225 (pc' := 244) (by decide) (fun hc103 => False.elim (by exact hc103 rfl)) (fun hc103 => ?_)
            show W K l _ n0 _ h19 9 44 228 #[.val (.long xl), .second, .val (.long yl), .second, .val (.long zl), .second, .val (.int fl), .val (.int a), .val (.int b), .val (.int c), .val (.int d), .val (.int e), .val (.int g), .val (.ref b1), .val (.ref b6), .val (.ref b11), .val (.int (0 : Int32)), .val (.int (1 : Int32)), .val (.int (0 : Int32)), .val (.int (fl &&& (3 : Int32))), .unset] []
            refine w_aload ok at_228 rfl rfl ?_
            refine w_iconst ok at_230 (v := (0 : Int32)) rfl ?_
            refine w_iconst ok at_231 (v := (2 : Int32)) rfl ?_
            refine w_callV ok (y := (⟨"com/example/hornconv/hornconv/FactTable", "argument", "(II)I"⟩ : MethodName)) (a := b11) (argsL := [(.int (0 : Int32)), (.int (2 : Int32))]) (rest := []) at_232 (hw _ (List.mem_of_getElem? (i := 61) rfl)) (hw _ (List.mem_of_getElem? (i := 62) rfl)) (hw _ (List.mem_of_getElem? (i := 64) rfl)) (hw _ (List.mem_of_getElem? (i := 63) rfl)) (hw _ (List.mem_of_getElem? (i := 3) rfl)) (hw _ (List.mem_of_getElem? (i := 65) rfl)) (by decide) A_b11.1 pd_28II29I rfl rfl (by decide) (Nat.le_of_ble_eq_true rfl) (by decide) (by decide) (fun z0 => rm_arg02 l Z a0 hw [] n0 h19 z0 b11 un me ag de sl po (2 : Int32) (((0 : Int32) + 1) + 1) u1 a b c d e g (0 : Int32) (0 : Int32) (0 : Int32) (0 : Int32) (0 : Int32) (0 : Int32) A_b11 A_ag) (fun v104 h105 qv104 => ?_)
            obtain ⟨rfl, rfl⟩ := qv104
            show W K l _ n0 _ h19 9 44 235 #[.val (.long xl), .second, .val (.long yl), .second, .val (.long zl), .second, .val (.int fl), .val (.int a), .val (.int b), .val (.int c), .val (.int d), .val (.int e), .val (.int g), .val (.ref b1), .val (.ref b6), .val (.ref b11), .val (.int (0 : Int32)), .val (.int (1 : Int32)), .val (.int (0 : Int32)), .val (.int (fl &&& (3 : Int32))), .unset] [(.int c)]
            refine w_iload ok at_235 rfl ?_
            refine w_icmp_ne ok at_237 (pc' := 244) (by decide) (fun hc107 => False.elim (by exact hc107 rfl)) (fun hc107 => ?_)
            show W K l _ n0 _ h19 9 44 240 #[.val (.long xl), .second, .val (.long yl), .second, .val (.long zl), .second, .val (.int fl), .val (.int a), .val (.int b), .val (.int c), .val (.int d), .val (.int e), .val (.int g), .val (.ref b1), .val (.ref b6), .val (.ref b11), .val (.int (0 : Int32)), .val (.int (1 : Int32)), .val (.int (0 : Int32)), .val (.int (fl &&& (3 : Int32))), .unset] []
            refine w_iconst ok at_240 (v := (1 : Int32)) rfl ?_
            refine w_goto ok at_241 (pc' := 245) (by decide) ?_
            refine w_istore ok at_245 (L' := #[.val (.long xl), .second, .val (.long yl), .second, .val (.long zl), .second, .val (.int fl), .val (.int a), .val (.int b), .val (.int c), .val (.int d), .val (.int e), .val (.int g), .val (.ref b1), .val (.ref b6), .val (.ref b11), .val (.int (0 : Int32)), .val (.int (1 : Int32)), .val (.int (0 : Int32)), .val (.int (fl &&& (3 : Int32))), .val (.int (1 : Int32))]) rfl ?_
            refine w_iload ok at_247 rfl ?_
            refine w_iconst ok at_249 (v := (1 : Int32)) rfl ?_
            refine w_icmp_ne ok at_250 (pc' := 301) (by decide) (fun hc109 => False.elim (by revert hc109; decide)) (fun hc109 => ?_)
            show W K l _ n0 _ h19 9 44 253 #[.val (.long xl), .second, .val (.long yl), .second, .val (.long zl), .second, .val (.int fl), .val (.int a), .val (.int b), .val (.int c), .val (.int d), .val (.int e), .val (.int g), .val (.ref b1), .val (.ref b6), .val (.ref b11), .val (.int (0 : Int32)), .val (.int (1 : Int32)), .val (.int (0 : Int32)), .val (.int (fl &&& (3 : Int32))), .val (.int (1 : Int32))] []
            refine w_iload ok at_253 rfl ?_
            refine w_if_eq ok at_255 (pc' := 298) (by decide) (fun hc111 => False.elim (by revert hc111; decide)) (fun hc111 => ?_)
            show W K l _ n0 _ h19 9 44 258 #[.val (.long xl), .second, .val (.long yl), .second, .val (.long zl), .second, .val (.int fl), .val (.int a), .val (.int b), .val (.int c), .val (.int d), .val (.int e), .val (.int g), .val (.ref b1), .val (.ref b6), .val (.ref b11), .val (.int (0 : Int32)), .val (.int (1 : Int32)), .val (.int (0 : Int32)), .val (.int (fl &&& (3 : Int32))), .val (.int (1 : Int32))] []
            refine w_aload ok at_258 rfl rfl ?_
            refine w_iconst ok at_260 (v := (1 : Int32)) rfl ?_
            refine w_iconst ok at_261 (v := (0 : Int32)) rfl ?_
            refine w_callV ok (y := (⟨"com/example/hornconv/hornconv/FactTable", "argument", "(II)I"⟩ : MethodName)) (a := b11) (argsL := [(.int (1 : Int32)), (.int (0 : Int32))]) (rest := []) at_262 (hw _ (List.mem_of_getElem? (i := 61) rfl)) (hw _ (List.mem_of_getElem? (i := 62) rfl)) (hw _ (List.mem_of_getElem? (i := 64) rfl)) (hw _ (List.mem_of_getElem? (i := 63) rfl)) (hw _ (List.mem_of_getElem? (i := 3) rfl)) (hw _ (List.mem_of_getElem? (i := 65) rfl)) (by decide) A_b11.1 pd_28II29I rfl rfl (by decide) (Nat.le_of_ble_eq_true rfl) (by decide) (by decide) (fun z0 => rm_arg10 l Z a0 hw [] n0 h19 z0 b11 un me ag de sl po (2 : Int32) (((0 : Int32) + 1) + 1) u1 a b c d e g (0 : Int32) (0 : Int32) (0 : Int32) (0 : Int32) (0 : Int32) (0 : Int32) A_b11 A_ag) (fun v112 h113 qv112 => ?_)
            obtain ⟨rfl, rfl⟩ := qv112
            show W K l _ n0 _ h19 9 44 265 #[.val (.long xl), .second, .val (.long yl), .second, .val (.long zl), .second, .val (.int fl), .val (.int a), .val (.int b), .val (.int c), .val (.int d), .val (.int e), .val (.int g), .val (.ref b1), .val (.ref b6), .val (.ref b11), .val (.int (0 : Int32)), .val (.int (1 : Int32)), .val (.int (0 : Int32)), .val (.int (fl &&& (3 : Int32))), .val (.int (1 : Int32))] [(.int d)]
            refine w_iload ok at_265 rfl ?_
            refine w_icmp_ne ok at_267 (pc' := 298) (by decide) (fun hc115 => False.elim (by exact hc115 rfl)) (fun hc115 => ?_)
            show W K l _ n0 _ h19 9 44 270 #[.val (.long xl), .second, .val (.long yl), .second, .val (.long zl), .second, .val (.int fl), .val (.int a), .val (.int b), .val (.int c), .val (.int d), .val (.int e), .val (.int g), .val (.ref b1), .val (.ref b6), .val (.ref b11), .val (.int (0 : Int32)), .val (.int (1 : Int32)), .val (.int (0 : Int32)), .val (.int (fl &&& (3 : Int32))), .val (.int (1 : Int32))] []
            refine w_aload ok at_270 rfl rfl ?_
            refine w_iconst ok at_272 (v := (1 : Int32)) rfl ?_
            refine w_iconst ok at_273 (v := (1 : Int32)) rfl ?_
            refine w_callV ok (y := (⟨"com/example/hornconv/hornconv/FactTable", "argument", "(II)I"⟩ : MethodName)) (a := b11) (argsL := [(.int (1 : Int32)), (.int (1 : Int32))]) (rest := []) at_274 (hw _ (List.mem_of_getElem? (i := 61) rfl)) (hw _ (List.mem_of_getElem? (i := 62) rfl)) (hw _ (List.mem_of_getElem? (i := 64) rfl)) (hw _ (List.mem_of_getElem? (i := 63) rfl)) (hw _ (List.mem_of_getElem? (i := 3) rfl)) (hw _ (List.mem_of_getElem? (i := 65) rfl)) (by decide) A_b11.1 pd_28II29I rfl rfl (by decide) (Nat.le_of_ble_eq_true rfl) (by decide) (by decide) (fun z0 => rm_arg11 l Z a0 hw [] n0 h19 z0 b11 un me ag de sl po (2 : Int32) (((0 : Int32) + 1) + 1) u1 a b c d e g (0 : Int32) (0 : Int32) (0 : Int32) (0 : Int32) (0 : Int32) (0 : Int32) A_b11 A_ag) (fun v116 h117 qv116 => ?_)
            obtain ⟨rfl, rfl⟩ := qv116
            show W K l _ n0 _ h19 9 44 277 #[.val (.long xl), .second, .val (.long yl), .second, .val (.long zl), .second, .val (.int fl), .val (.int a), .val (.int b), .val (.int c), .val (.int d), .val (.int e), .val (.int g), .val (.ref b1), .val (.ref b6), .val (.ref b11), .val (.int (0 : Int32)), .val (.int (1 : Int32)), .val (.int (0 : Int32)), .val (.int (fl &&& (3 : Int32))), .val (.int (1 : Int32))] [(.int e)]
            refine w_iload ok at_277 rfl ?_
            refine w_icmp_ne ok at_279 (pc' := 298) (by decide) (fun hc119 => False.elim (by exact hc119 rfl)) (fun hc119 => ?_)
            show W K l _ n0 _ h19 9 44 282 #[.val (.long xl), .second, .val (.long yl), .second, .val (.long zl), .second, .val (.int fl), .val (.int a), .val (.int b), .val (.int c), .val (.int d), .val (.int e), .val (.int g), .val (.ref b1), .val (.ref b6), .val (.ref b11), .val (.int (0 : Int32)), .val (.int (1 : Int32)), .val (.int (0 : Int32)), .val (.int (fl &&& (3 : Int32))), .val (.int (1 : Int32))] []
            refine w_aload ok at_282 rfl rfl ?_
            refine w_iconst ok at_284 (v := (1 : Int32)) rfl ?_
            refine w_iconst ok at_285 (v := (2 : Int32)) rfl ?_
            refine w_callV ok (y := (⟨"com/example/hornconv/hornconv/FactTable", "argument", "(II)I"⟩ : MethodName)) (a := b11) (argsL := [(.int (1 : Int32)), (.int (2 : Int32))]) (rest := []) at_286 (hw _ (List.mem_of_getElem? (i := 61) rfl)) (hw _ (List.mem_of_getElem? (i := 62) rfl)) (hw _ (List.mem_of_getElem? (i := 64) rfl)) (hw _ (List.mem_of_getElem? (i := 63) rfl)) (hw _ (List.mem_of_getElem? (i := 3) rfl)) (hw _ (List.mem_of_getElem? (i := 65) rfl)) (by decide) A_b11.1 pd_28II29I rfl rfl (by decide) (Nat.le_of_ble_eq_true rfl) (by decide) (by decide) (fun z0 => rm_arg12 l Z a0 hw [] n0 h19 z0 b11 un me ag de sl po (2 : Int32) (((0 : Int32) + 1) + 1) u1 a b c d e g (0 : Int32) (0 : Int32) (0 : Int32) (0 : Int32) (0 : Int32) (0 : Int32) A_b11 A_ag) (fun v120 h121 qv120 => ?_)
            obtain ⟨rfl, rfl⟩ := qv120
            show W K l _ n0 _ h19 9 44 289 #[.val (.long xl), .second, .val (.long yl), .second, .val (.long zl), .second, .val (.int fl), .val (.int a), .val (.int b), .val (.int c), .val (.int d), .val (.int e), .val (.int g), .val (.ref b1), .val (.ref b6), .val (.ref b11), .val (.int (0 : Int32)), .val (.int (1 : Int32)), .val (.int (0 : Int32)), .val (.int (fl &&& (3 : Int32))), .val (.int (1 : Int32))] [(.int g)]
            refine w_iload ok at_289 rfl ?_
            refine w_icmp_ne ok at_291 (pc' := 298) (by decide) (fun hc123 => False.elim (by exact hc123 rfl)) (fun hc123 => ?_)
            show W K l _ n0 _ h19 9 44 294 #[.val (.long xl), .second, .val (.long yl), .second, .val (.long zl), .second, .val (.int fl), .val (.int a), .val (.int b), .val (.int c), .val (.int d), .val (.int e), .val (.int g), .val (.ref b1), .val (.ref b6), .val (.ref b11), .val (.int (0 : Int32)), .val (.int (1 : Int32)), .val (.int (0 : Int32)), .val (.int (fl &&& (3 : Int32))), .val (.int (1 : Int32))] []
            refine w_iconst ok at_294 (v := (1 : Int32)) rfl ?_
            refine w_goto ok at_295 (pc' := 299) (by decide) ?_
            refine w_istore ok at_299 (L' := #[.val (.long xl), .second, .val (.long yl), .second, .val (.long zl), .second, .val (.int fl), .val (.int a), .val (.int b), .val (.int c), .val (.int d), .val (.int e), .val (.int g), .val (.ref b1), .val (.ref b6), .val (.ref b11), .val (.int (0 : Int32)), .val (.int (1 : Int32)), .val (.int (0 : Int32)), .val (.int (fl &&& (3 : Int32))), .val (.int (1 : Int32))]) rfl ?_
            refine w_iload ok at_301 rfl ?_
            refine w_bret ok (by simp) at_303 (by decide) (by decide) ?_
            exact rfl
          · show W K l _ n0 _ h19 9 44 192 #[.val (.long xl), .second, .val (.long yl), .second, .val (.long zl), .second, .val (.int fl), .val (.int a), .val (.int b), .val (.int c), .val (.int d), .val (.int e), .val (.int g), .val (.ref b1), .val (.ref b6), .val (.ref b11), .val (.int (0 : Int32)), .val (.int (1 : Int32)), .val (.int (0 : Int32)), .val (.int (fl &&& (3 : Int32))), .unset] []
            refine w_iload ok at_192 rfl ?_
            refine w_iconst ok at_194 (v := (1 : Int32)) rfl ?_
            refine w_icmp_ne ok at_195 (pc' := 204) (by decide) (fun hc125 => False.elim (by revert hc125; decide)) (fun hc125 => ?_)
            show W K l _ n0 _ h19 9 44 198 #[.val (.long xl), .second, .val (.long yl), .second, .val (.long zl), .second, .val (.int fl), .val (.int a), .val (.int b), .val (.int c), .val (.int d), .val (.int e), .val (.int g), .val (.ref b1), .val (.ref b6), .val (.ref b11), .val (.int (0 : Int32)), .val (.int (1 : Int32)), .val (.int (0 : Int32)), .val (.int (fl &&& (3 : Int32))), .unset] []
            refine w_aload ok at_198 rfl rfl ?_
            refine w_iconst ok at_200 (v := (1 : Int32)) rfl ?_
            refine w_callV ok (y := (⟨"com/example/hornconv/hornconv/FactTable", "remove", "(I)V"⟩ : MethodName)) (a := b11) (argsL := [(.int (1 : Int32))]) (rest := []) at_201 (hw _ (List.mem_of_getElem? (i := 56) rfl)) (hw _ (List.mem_of_getElem? (i := 57) rfl)) (hw _ (List.mem_of_getElem? (i := 59) rfl)) (hw _ (List.mem_of_getElem? (i := 58) rfl)) (hw _ (List.mem_of_getElem? (i := 3) rfl)) (hw _ (List.mem_of_getElem? (i := 60) rfl)) (by decide) A_b11.1 pd_28I29V rfl rfl (by decide) (Nat.le_of_ble_eq_true rfl) (by decide) (by decide) (fun z0 => rm_rm1 l Z a0 hw [] n0 h19 z0 b11 un me ag de sl po (2 : Int32) (((0 : Int32) + 1) + 1) u1 a b c d e g (0 : Int32) (0 : Int32) (0 : Int32) (0 : Int32) (0 : Int32) (0 : Int32) (0 : Int32) (0 : Int32) (0 : Int32) (0 : Int32) (upd (upd f00 r0 0) r1 1) A_b11 A_ag A_de A_sl A_po ge_b11 g2 g3 nn0 nn1 nn2 nn3 nn4 nn5 nn6 nn7 nn9 nn8 ⟨i1, by rw [← hr1]; simp [upd, ne10]⟩) (fun v126 h127 qv126 => ?_)
            obtain ⟨rfl, rr, h8_rr, hfr, K1, A1, A2, A3⟩ := qv126
            replace A_b1 := A_b1.keep K1 (ninS ne_b1_b11 (ninS ne_b1_de (ninS ne_b1_sl nin0)))
            replace A_b6 := A_b6.keep K1 (ninS ne_b6_b11 (ninS ne_b6_de (ninS ne_b6_sl nin0)))
            replace A_ag := A_ag.keep K1 (ninS (Ne.symm nn0) (ninS nn4 (ninS nn5 nin0)))
            replace A_po := A_po.keep K1 (ninS (Ne.symm nn3) (ninS (Ne.symm nn8) (ninS (Ne.symm nn9) nin0)))
            replace A_b11 := A1
            replace A_de := A2
            replace A_sl := A3
            have err : rr = r1 := by
              simp only [upd, f00] at hfr; repeat' split at hfr
              all_goals first | assumption | exact absurd hfr (by decide)
            rw [err] at A_sl
            have hRn128 : Rw (upd (upd (upd f00 r0 0) r1 1) r1 (-2)) := own_rwu hRn83 (by decide)
            have hNn128 := own_free (f := (upd (upd (upd f00 r0 0) r1 1) r1 (-2))) r0 r1 (fun j _ h0 h1 => by simp [upd, h0, h1])
            show W K l _ n0 _ h127 9 44 204 #[.val (.long xl), .second, .val (.long yl), .second, .val (.long zl), .second, .val (.int fl), .val (.int a), .val (.int b), .val (.int c), .val (.int d), .val (.int e), .val (.int g), .val (.ref b1), .val (.ref b6), .val (.ref b11), .val (.int (0 : Int32)), .val (.int (1 : Int32)), .val (.int (0 : Int32)), .val (.int (fl &&& (3 : Int32))), .unset] []
            refine w_aload ok at_204 rfl rfl ?_
            refine w_iconst ok at_206 (v := (0 : Int32)) rfl ?_
            refine w_iconst ok at_207 (v := (0 : Int32)) rfl ?_
            refine w_callV ok (y := (⟨"com/example/hornconv/hornconv/FactTable", "argument", "(II)I"⟩ : MethodName)) (a := b11) (argsL := [(.int (0 : Int32)), (.int (0 : Int32))]) (rest := []) at_208 (hw _ (List.mem_of_getElem? (i := 61) rfl)) (hw _ (List.mem_of_getElem? (i := 62) rfl)) (hw _ (List.mem_of_getElem? (i := 64) rfl)) (hw _ (List.mem_of_getElem? (i := 63) rfl)) (hw _ (List.mem_of_getElem? (i := 3) rfl)) (hw _ (List.mem_of_getElem? (i := 65) rfl)) (by decide) A_b11.1 pd_28II29I rfl rfl (by decide) (Nat.le_of_ble_eq_true rfl) (by decide) (by decide) (fun z0 => rm_arg00 l Z a0 hw [] n0 h127 z0 b11 un me ag de sl po (2 : Int32) ((((0 : Int32) + 1) + 1) - 1) u1 a b c d e g (0 : Int32) (0 : Int32) (0 : Int32) (0 : Int32) (0 : Int32) (0 : Int32) A_b11 A_ag) (fun v129 h130 qv129 => ?_)
            obtain ⟨rfl, rfl⟩ := qv129
            show W K l _ n0 _ h127 9 44 211 #[.val (.long xl), .second, .val (.long yl), .second, .val (.long zl), .second, .val (.int fl), .val (.int a), .val (.int b), .val (.int c), .val (.int d), .val (.int e), .val (.int g), .val (.ref b1), .val (.ref b6), .val (.ref b11), .val (.int (0 : Int32)), .val (.int (1 : Int32)), .val (.int (0 : Int32)), .val (.int (fl &&& (3 : Int32))), .unset] [(.int a)]
            refine w_iload ok at_211 rfl ?_
            refine w_icmp_ne ok at_213 (pc' := 244) (by decide) (fun hc132 => False.elim (by exact hc132 rfl)) (fun hc132 => ?_)
            show W K l _ n0 _ h127 9 44 216 #[.val (.long xl), .second, .val (.long yl), .second, .val (.long zl), .second, .val (.int fl), .val (.int a), .val (.int b), .val (.int c), .val (.int d), .val (.int e), .val (.int g), .val (.ref b1), .val (.ref b6), .val (.ref b11), .val (.int (0 : Int32)), .val (.int (1 : Int32)), .val (.int (0 : Int32)), .val (.int (fl &&& (3 : Int32))), .unset] []
            refine w_aload ok at_216 rfl rfl ?_
            refine w_iconst ok at_218 (v := (0 : Int32)) rfl ?_
            refine w_iconst ok at_219 (v := (1 : Int32)) rfl ?_
            refine w_callV ok (y := (⟨"com/example/hornconv/hornconv/FactTable", "argument", "(II)I"⟩ : MethodName)) (a := b11) (argsL := [(.int (0 : Int32)), (.int (1 : Int32))]) (rest := []) at_220 (hw _ (List.mem_of_getElem? (i := 61) rfl)) (hw _ (List.mem_of_getElem? (i := 62) rfl)) (hw _ (List.mem_of_getElem? (i := 64) rfl)) (hw _ (List.mem_of_getElem? (i := 63) rfl)) (hw _ (List.mem_of_getElem? (i := 3) rfl)) (hw _ (List.mem_of_getElem? (i := 65) rfl)) (by decide) A_b11.1 pd_28II29I rfl rfl (by decide) (Nat.le_of_ble_eq_true rfl) (by decide) (by decide) (fun z0 => rm_arg01 l Z a0 hw [] n0 h127 z0 b11 un me ag de sl po (2 : Int32) ((((0 : Int32) + 1) + 1) - 1) u1 a b c d e g (0 : Int32) (0 : Int32) (0 : Int32) (0 : Int32) (0 : Int32) (0 : Int32) A_b11 A_ag) (fun v133 h134 qv133 => ?_)
            obtain ⟨rfl, rfl⟩ := qv133
            show W K l _ n0 _ h127 9 44 223 #[.val (.long xl), .second, .val (.long yl), .second, .val (.long zl), .second, .val (.int fl), .val (.int a), .val (.int b), .val (.int c), .val (.int d), .val (.int e), .val (.int g), .val (.ref b1), .val (.ref b6), .val (.ref b11), .val (.int (0 : Int32)), .val (.int (1 : Int32)), .val (.int (0 : Int32)), .val (.int (fl &&& (3 : Int32))), .unset] [(.int b)]
            refine w_iload ok at_223 rfl ?_
            refine w_icmp_ne ok at_225 (pc' := 244) (by decide) (fun hc136 => False.elim (by exact hc136 rfl)) (fun hc136 => ?_)
            show W K l _ n0 _ h127 9 44 228 #[.val (.long xl), .second, .val (.long yl), .second, .val (.long zl), .second, .val (.int fl), .val (.int a), .val (.int b), .val (.int c), .val (.int d), .val (.int e), .val (.int g), .val (.ref b1), .val (.ref b6), .val (.ref b11), .val (.int (0 : Int32)), .val (.int (1 : Int32)), .val (.int (0 : Int32)), .val (.int (fl &&& (3 : Int32))), .unset] []
            refine w_aload ok at_228 rfl rfl ?_
            refine w_iconst ok at_230 (v := (0 : Int32)) rfl ?_
            refine w_iconst ok at_231 (v := (2 : Int32)) rfl ?_
            refine w_callV ok (y := (⟨"com/example/hornconv/hornconv/FactTable", "argument", "(II)I"⟩ : MethodName)) (a := b11) (argsL := [(.int (0 : Int32)), (.int (2 : Int32))]) (rest := []) at_232 (hw _ (List.mem_of_getElem? (i := 61) rfl)) (hw _ (List.mem_of_getElem? (i := 62) rfl)) (hw _ (List.mem_of_getElem? (i := 64) rfl)) (hw _ (List.mem_of_getElem? (i := 63) rfl)) (hw _ (List.mem_of_getElem? (i := 3) rfl)) (hw _ (List.mem_of_getElem? (i := 65) rfl)) (by decide) A_b11.1 pd_28II29I rfl rfl (by decide) (Nat.le_of_ble_eq_true rfl) (by decide) (by decide) (fun z0 => rm_arg02 l Z a0 hw [] n0 h127 z0 b11 un me ag de sl po (2 : Int32) ((((0 : Int32) + 1) + 1) - 1) u1 a b c d e g (0 : Int32) (0 : Int32) (0 : Int32) (0 : Int32) (0 : Int32) (0 : Int32) A_b11 A_ag) (fun v137 h138 qv137 => ?_)
            obtain ⟨rfl, rfl⟩ := qv137
            show W K l _ n0 _ h127 9 44 235 #[.val (.long xl), .second, .val (.long yl), .second, .val (.long zl), .second, .val (.int fl), .val (.int a), .val (.int b), .val (.int c), .val (.int d), .val (.int e), .val (.int g), .val (.ref b1), .val (.ref b6), .val (.ref b11), .val (.int (0 : Int32)), .val (.int (1 : Int32)), .val (.int (0 : Int32)), .val (.int (fl &&& (3 : Int32))), .unset] [(.int c)]
            refine w_iload ok at_235 rfl ?_
            refine w_icmp_ne ok at_237 (pc' := 244) (by decide) (fun hc140 => False.elim (by exact hc140 rfl)) (fun hc140 => ?_)
            show W K l _ n0 _ h127 9 44 240 #[.val (.long xl), .second, .val (.long yl), .second, .val (.long zl), .second, .val (.int fl), .val (.int a), .val (.int b), .val (.int c), .val (.int d), .val (.int e), .val (.int g), .val (.ref b1), .val (.ref b6), .val (.ref b11), .val (.int (0 : Int32)), .val (.int (1 : Int32)), .val (.int (0 : Int32)), .val (.int (fl &&& (3 : Int32))), .unset] []
            refine w_iconst ok at_240 (v := (1 : Int32)) rfl ?_
            refine w_goto ok at_241 (pc' := 245) (by decide) ?_
            refine w_istore ok at_245 (L' := #[.val (.long xl), .second, .val (.long yl), .second, .val (.long zl), .second, .val (.int fl), .val (.int a), .val (.int b), .val (.int c), .val (.int d), .val (.int e), .val (.int g), .val (.ref b1), .val (.ref b6), .val (.ref b11), .val (.int (0 : Int32)), .val (.int (1 : Int32)), .val (.int (0 : Int32)), .val (.int (fl &&& (3 : Int32))), .val (.int (1 : Int32))]) rfl ?_
            refine w_iload ok at_247 rfl ?_
            refine w_iconst ok at_249 (v := (1 : Int32)) rfl ?_
            refine w_icmp_ne ok at_250 (pc' := 301) (by decide) (fun hc142 => False.elim (by revert hc142; decide)) (fun hc142 => ?_)
            show W K l _ n0 _ h127 9 44 253 #[.val (.long xl), .second, .val (.long yl), .second, .val (.long zl), .second, .val (.int fl), .val (.int a), .val (.int b), .val (.int c), .val (.int d), .val (.int e), .val (.int g), .val (.ref b1), .val (.ref b6), .val (.ref b11), .val (.int (0 : Int32)), .val (.int (1 : Int32)), .val (.int (0 : Int32)), .val (.int (fl &&& (3 : Int32))), .val (.int (1 : Int32))] []
            refine w_iload ok at_253 rfl ?_
            refine w_if_eq ok at_255 (pc' := 298) (by decide) (fun hc144 => False.elim (by revert hc144; decide)) (fun hc144 => ?_)
            show W K l _ n0 _ h127 9 44 258 #[.val (.long xl), .second, .val (.long yl), .second, .val (.long zl), .second, .val (.int fl), .val (.int a), .val (.int b), .val (.int c), .val (.int d), .val (.int e), .val (.int g), .val (.ref b1), .val (.ref b6), .val (.ref b11), .val (.int (0 : Int32)), .val (.int (1 : Int32)), .val (.int (0 : Int32)), .val (.int (fl &&& (3 : Int32))), .val (.int (1 : Int32))] []
            refine w_aload ok at_258 rfl rfl ?_
            refine w_iconst ok at_260 (v := (1 : Int32)) rfl ?_
            refine w_iconst ok at_261 (v := (0 : Int32)) rfl ?_
            refine w_callV ok (y := (⟨"com/example/hornconv/hornconv/FactTable", "argument", "(II)I"⟩ : MethodName)) (a := b11) (argsL := [(.int (1 : Int32)), (.int (0 : Int32))]) (rest := []) at_262 (hw _ (List.mem_of_getElem? (i := 61) rfl)) (hw _ (List.mem_of_getElem? (i := 62) rfl)) (hw _ (List.mem_of_getElem? (i := 64) rfl)) (hw _ (List.mem_of_getElem? (i := 63) rfl)) (hw _ (List.mem_of_getElem? (i := 3) rfl)) (hw _ (List.mem_of_getElem? (i := 65) rfl)) (by decide) A_b11.1 pd_28II29I rfl rfl (by decide) (Nat.le_of_ble_eq_true rfl) (by decide) (by decide) (fun z0 => rm_arg10 l Z a0 hw [] n0 h127 z0 b11 un me ag de sl po (2 : Int32) ((((0 : Int32) + 1) + 1) - 1) u1 a b c d e g (0 : Int32) (0 : Int32) (0 : Int32) (0 : Int32) (0 : Int32) (0 : Int32) A_b11 A_ag) (fun v145 h146 qv145 => ?_)
            obtain ⟨rfl, rfl⟩ := qv145
            show W K l _ n0 _ h127 9 44 265 #[.val (.long xl), .second, .val (.long yl), .second, .val (.long zl), .second, .val (.int fl), .val (.int a), .val (.int b), .val (.int c), .val (.int d), .val (.int e), .val (.int g), .val (.ref b1), .val (.ref b6), .val (.ref b11), .val (.int (0 : Int32)), .val (.int (1 : Int32)), .val (.int (0 : Int32)), .val (.int (fl &&& (3 : Int32))), .val (.int (1 : Int32))] [(.int d)]
            refine w_iload ok at_265 rfl ?_
            refine w_icmp_ne ok at_267 (pc' := 298) (by decide) (fun hc148 => False.elim (by exact hc148 rfl)) (fun hc148 => ?_)
            show W K l _ n0 _ h127 9 44 270 #[.val (.long xl), .second, .val (.long yl), .second, .val (.long zl), .second, .val (.int fl), .val (.int a), .val (.int b), .val (.int c), .val (.int d), .val (.int e), .val (.int g), .val (.ref b1), .val (.ref b6), .val (.ref b11), .val (.int (0 : Int32)), .val (.int (1 : Int32)), .val (.int (0 : Int32)), .val (.int (fl &&& (3 : Int32))), .val (.int (1 : Int32))] []
            refine w_aload ok at_270 rfl rfl ?_
            refine w_iconst ok at_272 (v := (1 : Int32)) rfl ?_
            refine w_iconst ok at_273 (v := (1 : Int32)) rfl ?_
            refine w_callV ok (y := (⟨"com/example/hornconv/hornconv/FactTable", "argument", "(II)I"⟩ : MethodName)) (a := b11) (argsL := [(.int (1 : Int32)), (.int (1 : Int32))]) (rest := []) at_274 (hw _ (List.mem_of_getElem? (i := 61) rfl)) (hw _ (List.mem_of_getElem? (i := 62) rfl)) (hw _ (List.mem_of_getElem? (i := 64) rfl)) (hw _ (List.mem_of_getElem? (i := 63) rfl)) (hw _ (List.mem_of_getElem? (i := 3) rfl)) (hw _ (List.mem_of_getElem? (i := 65) rfl)) (by decide) A_b11.1 pd_28II29I rfl rfl (by decide) (Nat.le_of_ble_eq_true rfl) (by decide) (by decide) (fun z0 => rm_arg11 l Z a0 hw [] n0 h127 z0 b11 un me ag de sl po (2 : Int32) ((((0 : Int32) + 1) + 1) - 1) u1 a b c d e g (0 : Int32) (0 : Int32) (0 : Int32) (0 : Int32) (0 : Int32) (0 : Int32) A_b11 A_ag) (fun v149 h150 qv149 => ?_)
            obtain ⟨rfl, rfl⟩ := qv149
            show W K l _ n0 _ h127 9 44 277 #[.val (.long xl), .second, .val (.long yl), .second, .val (.long zl), .second, .val (.int fl), .val (.int a), .val (.int b), .val (.int c), .val (.int d), .val (.int e), .val (.int g), .val (.ref b1), .val (.ref b6), .val (.ref b11), .val (.int (0 : Int32)), .val (.int (1 : Int32)), .val (.int (0 : Int32)), .val (.int (fl &&& (3 : Int32))), .val (.int (1 : Int32))] [(.int e)]
            refine w_iload ok at_277 rfl ?_
            refine w_icmp_ne ok at_279 (pc' := 298) (by decide) (fun hc152 => False.elim (by exact hc152 rfl)) (fun hc152 => ?_)
            show W K l _ n0 _ h127 9 44 282 #[.val (.long xl), .second, .val (.long yl), .second, .val (.long zl), .second, .val (.int fl), .val (.int a), .val (.int b), .val (.int c), .val (.int d), .val (.int e), .val (.int g), .val (.ref b1), .val (.ref b6), .val (.ref b11), .val (.int (0 : Int32)), .val (.int (1 : Int32)), .val (.int (0 : Int32)), .val (.int (fl &&& (3 : Int32))), .val (.int (1 : Int32))] []
            refine w_aload ok at_282 rfl rfl ?_
            refine w_iconst ok at_284 (v := (1 : Int32)) rfl ?_
            refine w_iconst ok at_285 (v := (2 : Int32)) rfl ?_
            refine w_callV ok (y := (⟨"com/example/hornconv/hornconv/FactTable", "argument", "(II)I"⟩ : MethodName)) (a := b11) (argsL := [(.int (1 : Int32)), (.int (2 : Int32))]) (rest := []) at_286 (hw _ (List.mem_of_getElem? (i := 61) rfl)) (hw _ (List.mem_of_getElem? (i := 62) rfl)) (hw _ (List.mem_of_getElem? (i := 64) rfl)) (hw _ (List.mem_of_getElem? (i := 63) rfl)) (hw _ (List.mem_of_getElem? (i := 3) rfl)) (hw _ (List.mem_of_getElem? (i := 65) rfl)) (by decide) A_b11.1 pd_28II29I rfl rfl (by decide) (Nat.le_of_ble_eq_true rfl) (by decide) (by decide) (fun z0 => rm_arg12 l Z a0 hw [] n0 h127 z0 b11 un me ag de sl po (2 : Int32) ((((0 : Int32) + 1) + 1) - 1) u1 a b c d e g (0 : Int32) (0 : Int32) (0 : Int32) (0 : Int32) (0 : Int32) (0 : Int32) A_b11 A_ag) (fun v153 h154 qv153 => ?_)
            obtain ⟨rfl, rfl⟩ := qv153
            show W K l _ n0 _ h127 9 44 289 #[.val (.long xl), .second, .val (.long yl), .second, .val (.long zl), .second, .val (.int fl), .val (.int a), .val (.int b), .val (.int c), .val (.int d), .val (.int e), .val (.int g), .val (.ref b1), .val (.ref b6), .val (.ref b11), .val (.int (0 : Int32)), .val (.int (1 : Int32)), .val (.int (0 : Int32)), .val (.int (fl &&& (3 : Int32))), .val (.int (1 : Int32))] [(.int g)]
            refine w_iload ok at_289 rfl ?_
            refine w_icmp_ne ok at_291 (pc' := 298) (by decide) (fun hc156 => False.elim (by exact hc156 rfl)) (fun hc156 => ?_)
            show W K l _ n0 _ h127 9 44 294 #[.val (.long xl), .second, .val (.long yl), .second, .val (.long zl), .second, .val (.int fl), .val (.int a), .val (.int b), .val (.int c), .val (.int d), .val (.int e), .val (.int g), .val (.ref b1), .val (.ref b6), .val (.ref b11), .val (.int (0 : Int32)), .val (.int (1 : Int32)), .val (.int (0 : Int32)), .val (.int (fl &&& (3 : Int32))), .val (.int (1 : Int32))] []
            refine w_iconst ok at_294 (v := (1 : Int32)) rfl ?_
            refine w_goto ok at_295 (pc' := 299) (by decide) ?_
            refine w_istore ok at_299 (L' := #[.val (.long xl), .second, .val (.long yl), .second, .val (.long zl), .second, .val (.int fl), .val (.int a), .val (.int b), .val (.int c), .val (.int d), .val (.int e), .val (.int g), .val (.ref b1), .val (.ref b6), .val (.ref b11), .val (.int (0 : Int32)), .val (.int (1 : Int32)), .val (.int (0 : Int32)), .val (.int (fl &&& (3 : Int32))), .val (.int (1 : Int32))]) rfl ?_
            refine w_iload ok at_301 rfl ?_
            refine w_bret ok (by simp) at_303 (by decide) (by decide) ?_
            exact rfl
        · show W K l _ n0 _ h19 9 44 177 #[.val (.long xl), .second, .val (.long yl), .second, .val (.long zl), .second, .val (.int fl), .val (.int a), .val (.int b), .val (.int c), .val (.int d), .val (.int e), .val (.int g), .val (.ref b1), .val (.ref b6), .val (.ref b11), .val (.int (0 : Int32)), .val (.int (1 : Int32)), .val (.int (0 : Int32)), .val (.int (fl &&& (3 : Int32))), .unset] []
          refine w_aload ok at_177 rfl rfl ?_
          refine w_iconst ok at_179 (v := (0 : Int32)) rfl ?_
          refine w_callV ok (y := (⟨"com/example/hornconv/hornconv/FactTable", "remove", "(I)V"⟩ : MethodName)) (a := b11) (argsL := [(.int (0 : Int32))]) (rest := []) at_180 (hw _ (List.mem_of_getElem? (i := 56) rfl)) (hw _ (List.mem_of_getElem? (i := 57) rfl)) (hw _ (List.mem_of_getElem? (i := 59) rfl)) (hw _ (List.mem_of_getElem? (i := 58) rfl)) (hw _ (List.mem_of_getElem? (i := 3) rfl)) (hw _ (List.mem_of_getElem? (i := 60) rfl)) (by decide) A_b11.1 pd_28I29V rfl rfl (by decide) (Nat.le_of_ble_eq_true rfl) (by decide) (by decide) (fun z0 => rm_rm0 l Z a0 hw [] n0 h19 z0 b11 un me ag de sl po (2 : Int32) (((0 : Int32) + 1) + 1) u1 a b c d e g (0 : Int32) (0 : Int32) (0 : Int32) (0 : Int32) (0 : Int32) (0 : Int32) (0 : Int32) (0 : Int32) (0 : Int32) (0 : Int32) (upd (upd f00 r0 0) r1 1) A_b11 A_ag A_de A_sl A_po ge_b11 g2 g3 nn0 nn1 nn2 nn3 nn4 nn5 nn6 nn7 nn9 nn8 ⟨0, by rw [← hr0]; simp [upd, Ne.symm ne10]⟩) (fun v157 h158 qv157 => ?_)
          obtain ⟨rfl, rr, h8_rr, hfr, K1, A1, A2, A3⟩ := qv157
          replace A_b1 := A_b1.keep K1 (ninS ne_b1_b11 (ninS ne_b1_de (ninS ne_b1_sl nin0)))
          replace A_b6 := A_b6.keep K1 (ninS ne_b6_b11 (ninS ne_b6_de (ninS ne_b6_sl nin0)))
          replace A_ag := A_ag.keep K1 (ninS (Ne.symm nn0) (ninS nn4 (ninS nn5 nin0)))
          replace A_po := A_po.keep K1 (ninS (Ne.symm nn3) (ninS (Ne.symm nn8) (ninS (Ne.symm nn9) nin0)))
          replace A_b11 := A1
          replace A_de := A2
          replace A_sl := A3
          have err : rr = r0 := by
            simp only [upd, f00] at hfr; repeat' split at hfr
            all_goals first | assumption | exact absurd hfr (by decide)
          rw [err] at A_sl
          have hRn159 : Rw (upd (upd (upd f00 r0 0) r1 1) r0 (-2)) := own_rwu hRn83 (by decide)
          have hNn159 := own_free (f := (upd (upd (upd f00 r0 0) r1 1) r0 (-2))) r0 r1 (fun j _ h0 h1 => by simp [upd, h0, h1])
          show W K l _ n0 _ h158 9 44 183 #[.val (.long xl), .second, .val (.long yl), .second, .val (.long zl), .second, .val (.int fl), .val (.int a), .val (.int b), .val (.int c), .val (.int d), .val (.int e), .val (.int g), .val (.ref b1), .val (.ref b6), .val (.ref b11), .val (.int (0 : Int32)), .val (.int (1 : Int32)), .val (.int (0 : Int32)), .val (.int (fl &&& (3 : Int32))), .unset] []
          refine w_goto ok at_183 (pc' := 204) (by decide) ?_
          refine w_aload ok at_204 rfl rfl ?_
          refine w_iconst ok at_206 (v := (0 : Int32)) rfl ?_
          refine w_iconst ok at_207 (v := (0 : Int32)) rfl ?_
          refine w_callV ok (y := (⟨"com/example/hornconv/hornconv/FactTable", "argument", "(II)I"⟩ : MethodName)) (a := b11) (argsL := [(.int (0 : Int32)), (.int (0 : Int32))]) (rest := []) at_208 (hw _ (List.mem_of_getElem? (i := 61) rfl)) (hw _ (List.mem_of_getElem? (i := 62) rfl)) (hw _ (List.mem_of_getElem? (i := 64) rfl)) (hw _ (List.mem_of_getElem? (i := 63) rfl)) (hw _ (List.mem_of_getElem? (i := 3) rfl)) (hw _ (List.mem_of_getElem? (i := 65) rfl)) (by decide) A_b11.1 pd_28II29I rfl rfl (by decide) (Nat.le_of_ble_eq_true rfl) (by decide) (by decide) (fun z0 => rm_arg00 l Z a0 hw [] n0 h158 z0 b11 un me ag de sl po (2 : Int32) ((((0 : Int32) + 1) + 1) - 1) u1 a b c d e g (0 : Int32) (0 : Int32) (0 : Int32) (0 : Int32) (0 : Int32) (0 : Int32) A_b11 A_ag) (fun v160 h161 qv160 => ?_)
          obtain ⟨rfl, rfl⟩ := qv160
          show W K l _ n0 _ h158 9 44 211 #[.val (.long xl), .second, .val (.long yl), .second, .val (.long zl), .second, .val (.int fl), .val (.int a), .val (.int b), .val (.int c), .val (.int d), .val (.int e), .val (.int g), .val (.ref b1), .val (.ref b6), .val (.ref b11), .val (.int (0 : Int32)), .val (.int (1 : Int32)), .val (.int (0 : Int32)), .val (.int (fl &&& (3 : Int32))), .unset] [(.int a)]
          refine w_iload ok at_211 rfl ?_
          refine w_icmp_ne ok at_213 (pc' := 244) (by decide) (fun hc163 => False.elim (by exact hc163 rfl)) (fun hc163 => ?_)
          show W K l _ n0 _ h158 9 44 216 #[.val (.long xl), .second, .val (.long yl), .second, .val (.long zl), .second, .val (.int fl), .val (.int a), .val (.int b), .val (.int c), .val (.int d), .val (.int e), .val (.int g), .val (.ref b1), .val (.ref b6), .val (.ref b11), .val (.int (0 : Int32)), .val (.int (1 : Int32)), .val (.int (0 : Int32)), .val (.int (fl &&& (3 : Int32))), .unset] []
          refine w_aload ok at_216 rfl rfl ?_
          refine w_iconst ok at_218 (v := (0 : Int32)) rfl ?_
          refine w_iconst ok at_219 (v := (1 : Int32)) rfl ?_
          refine w_callV ok (y := (⟨"com/example/hornconv/hornconv/FactTable", "argument", "(II)I"⟩ : MethodName)) (a := b11) (argsL := [(.int (0 : Int32)), (.int (1 : Int32))]) (rest := []) at_220 (hw _ (List.mem_of_getElem? (i := 61) rfl)) (hw _ (List.mem_of_getElem? (i := 62) rfl)) (hw _ (List.mem_of_getElem? (i := 64) rfl)) (hw _ (List.mem_of_getElem? (i := 63) rfl)) (hw _ (List.mem_of_getElem? (i := 3) rfl)) (hw _ (List.mem_of_getElem? (i := 65) rfl)) (by decide) A_b11.1 pd_28II29I rfl rfl (by decide) (Nat.le_of_ble_eq_true rfl) (by decide) (by decide) (fun z0 => rm_arg01 l Z a0 hw [] n0 h158 z0 b11 un me ag de sl po (2 : Int32) ((((0 : Int32) + 1) + 1) - 1) u1 a b c d e g (0 : Int32) (0 : Int32) (0 : Int32) (0 : Int32) (0 : Int32) (0 : Int32) A_b11 A_ag) (fun v164 h165 qv164 => ?_)
          obtain ⟨rfl, rfl⟩ := qv164
          show W K l _ n0 _ h158 9 44 223 #[.val (.long xl), .second, .val (.long yl), .second, .val (.long zl), .second, .val (.int fl), .val (.int a), .val (.int b), .val (.int c), .val (.int d), .val (.int e), .val (.int g), .val (.ref b1), .val (.ref b6), .val (.ref b11), .val (.int (0 : Int32)), .val (.int (1 : Int32)), .val (.int (0 : Int32)), .val (.int (fl &&& (3 : Int32))), .unset] [(.int b)]
          refine w_iload ok at_223 rfl ?_
          refine w_icmp_ne ok at_225 (pc' := 244) (by decide) (fun hc167 => False.elim (by exact hc167 rfl)) (fun hc167 => ?_)
          show W K l _ n0 _ h158 9 44 228 #[.val (.long xl), .second, .val (.long yl), .second, .val (.long zl), .second, .val (.int fl), .val (.int a), .val (.int b), .val (.int c), .val (.int d), .val (.int e), .val (.int g), .val (.ref b1), .val (.ref b6), .val (.ref b11), .val (.int (0 : Int32)), .val (.int (1 : Int32)), .val (.int (0 : Int32)), .val (.int (fl &&& (3 : Int32))), .unset] []
          refine w_aload ok at_228 rfl rfl ?_
          refine w_iconst ok at_230 (v := (0 : Int32)) rfl ?_
          refine w_iconst ok at_231 (v := (2 : Int32)) rfl ?_
          refine w_callV ok (y := (⟨"com/example/hornconv/hornconv/FactTable", "argument", "(II)I"⟩ : MethodName)) (a := b11) (argsL := [(.int (0 : Int32)), (.int (2 : Int32))]) (rest := []) at_232 (hw _ (List.mem_of_getElem? (i := 61) rfl)) (hw _ (List.mem_of_getElem? (i := 62) rfl)) (hw _ (List.mem_of_getElem? (i := 64) rfl)) (hw _ (List.mem_of_getElem? (i := 63) rfl)) (hw _ (List.mem_of_getElem? (i := 3) rfl)) (hw _ (List.mem_of_getElem? (i := 65) rfl)) (by decide) A_b11.1 pd_28II29I rfl rfl (by decide) (Nat.le_of_ble_eq_true rfl) (by decide) (by decide) (fun z0 => rm_arg02 l Z a0 hw [] n0 h158 z0 b11 un me ag de sl po (2 : Int32) ((((0 : Int32) + 1) + 1) - 1) u1 a b c d e g (0 : Int32) (0 : Int32) (0 : Int32) (0 : Int32) (0 : Int32) (0 : Int32) A_b11 A_ag) (fun v168 h169 qv168 => ?_)
          obtain ⟨rfl, rfl⟩ := qv168
          show W K l _ n0 _ h158 9 44 235 #[.val (.long xl), .second, .val (.long yl), .second, .val (.long zl), .second, .val (.int fl), .val (.int a), .val (.int b), .val (.int c), .val (.int d), .val (.int e), .val (.int g), .val (.ref b1), .val (.ref b6), .val (.ref b11), .val (.int (0 : Int32)), .val (.int (1 : Int32)), .val (.int (0 : Int32)), .val (.int (fl &&& (3 : Int32))), .unset] [(.int c)]
          refine w_iload ok at_235 rfl ?_
          refine w_icmp_ne ok at_237 (pc' := 244) (by decide) (fun hc171 => False.elim (by exact hc171 rfl)) (fun hc171 => ?_)
          show W K l _ n0 _ h158 9 44 240 #[.val (.long xl), .second, .val (.long yl), .second, .val (.long zl), .second, .val (.int fl), .val (.int a), .val (.int b), .val (.int c), .val (.int d), .val (.int e), .val (.int g), .val (.ref b1), .val (.ref b6), .val (.ref b11), .val (.int (0 : Int32)), .val (.int (1 : Int32)), .val (.int (0 : Int32)), .val (.int (fl &&& (3 : Int32))), .unset] []
          refine w_iconst ok at_240 (v := (1 : Int32)) rfl ?_
          refine w_goto ok at_241 (pc' := 245) (by decide) ?_
          refine w_istore ok at_245 (L' := #[.val (.long xl), .second, .val (.long yl), .second, .val (.long zl), .second, .val (.int fl), .val (.int a), .val (.int b), .val (.int c), .val (.int d), .val (.int e), .val (.int g), .val (.ref b1), .val (.ref b6), .val (.ref b11), .val (.int (0 : Int32)), .val (.int (1 : Int32)), .val (.int (0 : Int32)), .val (.int (fl &&& (3 : Int32))), .val (.int (1 : Int32))]) rfl ?_
          refine w_iload ok at_247 rfl ?_
          refine w_iconst ok at_249 (v := (1 : Int32)) rfl ?_
          refine w_icmp_ne ok at_250 (pc' := 301) (by decide) (fun hc173 => False.elim (by revert hc173; decide)) (fun hc173 => ?_)
          show W K l _ n0 _ h158 9 44 253 #[.val (.long xl), .second, .val (.long yl), .second, .val (.long zl), .second, .val (.int fl), .val (.int a), .val (.int b), .val (.int c), .val (.int d), .val (.int e), .val (.int g), .val (.ref b1), .val (.ref b6), .val (.ref b11), .val (.int (0 : Int32)), .val (.int (1 : Int32)), .val (.int (0 : Int32)), .val (.int (fl &&& (3 : Int32))), .val (.int (1 : Int32))] []
          refine w_iload ok at_253 rfl ?_
          refine w_if_eq ok at_255 (pc' := 298) (by decide) (fun hc175 => False.elim (by revert hc175; decide)) (fun hc175 => ?_)
          show W K l _ n0 _ h158 9 44 258 #[.val (.long xl), .second, .val (.long yl), .second, .val (.long zl), .second, .val (.int fl), .val (.int a), .val (.int b), .val (.int c), .val (.int d), .val (.int e), .val (.int g), .val (.ref b1), .val (.ref b6), .val (.ref b11), .val (.int (0 : Int32)), .val (.int (1 : Int32)), .val (.int (0 : Int32)), .val (.int (fl &&& (3 : Int32))), .val (.int (1 : Int32))] []
          refine w_aload ok at_258 rfl rfl ?_
          refine w_iconst ok at_260 (v := (1 : Int32)) rfl ?_
          refine w_iconst ok at_261 (v := (0 : Int32)) rfl ?_
          refine w_callV ok (y := (⟨"com/example/hornconv/hornconv/FactTable", "argument", "(II)I"⟩ : MethodName)) (a := b11) (argsL := [(.int (1 : Int32)), (.int (0 : Int32))]) (rest := []) at_262 (hw _ (List.mem_of_getElem? (i := 61) rfl)) (hw _ (List.mem_of_getElem? (i := 62) rfl)) (hw _ (List.mem_of_getElem? (i := 64) rfl)) (hw _ (List.mem_of_getElem? (i := 63) rfl)) (hw _ (List.mem_of_getElem? (i := 3) rfl)) (hw _ (List.mem_of_getElem? (i := 65) rfl)) (by decide) A_b11.1 pd_28II29I rfl rfl (by decide) (Nat.le_of_ble_eq_true rfl) (by decide) (by decide) (fun z0 => rm_arg10 l Z a0 hw [] n0 h158 z0 b11 un me ag de sl po (2 : Int32) ((((0 : Int32) + 1) + 1) - 1) u1 a b c d e g (0 : Int32) (0 : Int32) (0 : Int32) (0 : Int32) (0 : Int32) (0 : Int32) A_b11 A_ag) (fun v176 h177 qv176 => ?_)
          obtain ⟨rfl, rfl⟩ := qv176
          show W K l _ n0 _ h158 9 44 265 #[.val (.long xl), .second, .val (.long yl), .second, .val (.long zl), .second, .val (.int fl), .val (.int a), .val (.int b), .val (.int c), .val (.int d), .val (.int e), .val (.int g), .val (.ref b1), .val (.ref b6), .val (.ref b11), .val (.int (0 : Int32)), .val (.int (1 : Int32)), .val (.int (0 : Int32)), .val (.int (fl &&& (3 : Int32))), .val (.int (1 : Int32))] [(.int d)]
          refine w_iload ok at_265 rfl ?_
          refine w_icmp_ne ok at_267 (pc' := 298) (by decide) (fun hc179 => False.elim (by exact hc179 rfl)) (fun hc179 => ?_)
          show W K l _ n0 _ h158 9 44 270 #[.val (.long xl), .second, .val (.long yl), .second, .val (.long zl), .second, .val (.int fl), .val (.int a), .val (.int b), .val (.int c), .val (.int d), .val (.int e), .val (.int g), .val (.ref b1), .val (.ref b6), .val (.ref b11), .val (.int (0 : Int32)), .val (.int (1 : Int32)), .val (.int (0 : Int32)), .val (.int (fl &&& (3 : Int32))), .val (.int (1 : Int32))] []
          refine w_aload ok at_270 rfl rfl ?_
          refine w_iconst ok at_272 (v := (1 : Int32)) rfl ?_
          refine w_iconst ok at_273 (v := (1 : Int32)) rfl ?_
          refine w_callV ok (y := (⟨"com/example/hornconv/hornconv/FactTable", "argument", "(II)I"⟩ : MethodName)) (a := b11) (argsL := [(.int (1 : Int32)), (.int (1 : Int32))]) (rest := []) at_274 (hw _ (List.mem_of_getElem? (i := 61) rfl)) (hw _ (List.mem_of_getElem? (i := 62) rfl)) (hw _ (List.mem_of_getElem? (i := 64) rfl)) (hw _ (List.mem_of_getElem? (i := 63) rfl)) (hw _ (List.mem_of_getElem? (i := 3) rfl)) (hw _ (List.mem_of_getElem? (i := 65) rfl)) (by decide) A_b11.1 pd_28II29I rfl rfl (by decide) (Nat.le_of_ble_eq_true rfl) (by decide) (by decide) (fun z0 => rm_arg11 l Z a0 hw [] n0 h158 z0 b11 un me ag de sl po (2 : Int32) ((((0 : Int32) + 1) + 1) - 1) u1 a b c d e g (0 : Int32) (0 : Int32) (0 : Int32) (0 : Int32) (0 : Int32) (0 : Int32) A_b11 A_ag) (fun v180 h181 qv180 => ?_)
          obtain ⟨rfl, rfl⟩ := qv180
          show W K l _ n0 _ h158 9 44 277 #[.val (.long xl), .second, .val (.long yl), .second, .val (.long zl), .second, .val (.int fl), .val (.int a), .val (.int b), .val (.int c), .val (.int d), .val (.int e), .val (.int g), .val (.ref b1), .val (.ref b6), .val (.ref b11), .val (.int (0 : Int32)), .val (.int (1 : Int32)), .val (.int (0 : Int32)), .val (.int (fl &&& (3 : Int32))), .val (.int (1 : Int32))] [(.int e)]
          refine w_iload ok at_277 rfl ?_
          refine w_icmp_ne ok at_279 (pc' := 298) (by decide) (fun hc183 => False.elim (by exact hc183 rfl)) (fun hc183 => ?_)
          show W K l _ n0 _ h158 9 44 282 #[.val (.long xl), .second, .val (.long yl), .second, .val (.long zl), .second, .val (.int fl), .val (.int a), .val (.int b), .val (.int c), .val (.int d), .val (.int e), .val (.int g), .val (.ref b1), .val (.ref b6), .val (.ref b11), .val (.int (0 : Int32)), .val (.int (1 : Int32)), .val (.int (0 : Int32)), .val (.int (fl &&& (3 : Int32))), .val (.int (1 : Int32))] []
          refine w_aload ok at_282 rfl rfl ?_
          refine w_iconst ok at_284 (v := (1 : Int32)) rfl ?_
          refine w_iconst ok at_285 (v := (2 : Int32)) rfl ?_
          refine w_callV ok (y := (⟨"com/example/hornconv/hornconv/FactTable", "argument", "(II)I"⟩ : MethodName)) (a := b11) (argsL := [(.int (1 : Int32)), (.int (2 : Int32))]) (rest := []) at_286 (hw _ (List.mem_of_getElem? (i := 61) rfl)) (hw _ (List.mem_of_getElem? (i := 62) rfl)) (hw _ (List.mem_of_getElem? (i := 64) rfl)) (hw _ (List.mem_of_getElem? (i := 63) rfl)) (hw _ (List.mem_of_getElem? (i := 3) rfl)) (hw _ (List.mem_of_getElem? (i := 65) rfl)) (by decide) A_b11.1 pd_28II29I rfl rfl (by decide) (Nat.le_of_ble_eq_true rfl) (by decide) (by decide) (fun z0 => rm_arg12 l Z a0 hw [] n0 h158 z0 b11 un me ag de sl po (2 : Int32) ((((0 : Int32) + 1) + 1) - 1) u1 a b c d e g (0 : Int32) (0 : Int32) (0 : Int32) (0 : Int32) (0 : Int32) (0 : Int32) A_b11 A_ag) (fun v184 h185 qv184 => ?_)
          obtain ⟨rfl, rfl⟩ := qv184
          show W K l _ n0 _ h158 9 44 289 #[.val (.long xl), .second, .val (.long yl), .second, .val (.long zl), .second, .val (.int fl), .val (.int a), .val (.int b), .val (.int c), .val (.int d), .val (.int e), .val (.int g), .val (.ref b1), .val (.ref b6), .val (.ref b11), .val (.int (0 : Int32)), .val (.int (1 : Int32)), .val (.int (0 : Int32)), .val (.int (fl &&& (3 : Int32))), .val (.int (1 : Int32))] [(.int g)]
          refine w_iload ok at_289 rfl ?_
          refine w_icmp_ne ok at_291 (pc' := 298) (by decide) (fun hc187 => False.elim (by exact hc187 rfl)) (fun hc187 => ?_)
          show W K l _ n0 _ h158 9 44 294 #[.val (.long xl), .second, .val (.long yl), .second, .val (.long zl), .second, .val (.int fl), .val (.int a), .val (.int b), .val (.int c), .val (.int d), .val (.int e), .val (.int g), .val (.ref b1), .val (.ref b6), .val (.ref b11), .val (.int (0 : Int32)), .val (.int (1 : Int32)), .val (.int (0 : Int32)), .val (.int (fl &&& (3 : Int32))), .val (.int (1 : Int32))] []
          refine w_iconst ok at_294 (v := (1 : Int32)) rfl ?_
          refine w_goto ok at_295 (pc' := 299) (by decide) ?_
          refine w_istore ok at_299 (L' := #[.val (.long xl), .second, .val (.long yl), .second, .val (.long zl), .second, .val (.int fl), .val (.int a), .val (.int b), .val (.int c), .val (.int d), .val (.int e), .val (.int g), .val (.ref b1), .val (.ref b6), .val (.ref b11), .val (.int (0 : Int32)), .val (.int (1 : Int32)), .val (.int (0 : Int32)), .val (.int (fl &&& (3 : Int32))), .val (.int (1 : Int32))]) rfl ?_
          refine w_iload ok at_301 rfl ?_
          refine w_bret ok (by simp) at_303 (by decide) (by decide) ?_
          exact rfl
      · show W K l _ n0 _ h19 9 44 123 #[.val (.long xl), .second, .val (.long yl), .second, .val (.long zl), .second, .val (.int fl), .val (.int a), .val (.int b), .val (.int c), .val (.int d), .val (.int e), .val (.int g), .val (.ref b1), .val (.ref b6), .val (.ref b11), .val (.int (0 : Int32)), .val (.int (1 : Int32)), .unset, .unset, .unset] []
        refine w_iload ok at_123 rfl ?_
        refine w_iload ok at_125 rfl ?_
        refine w_icmp_ne ok at_127 (pc' := 141) (by decide) (fun hc189 => ?_) (fun hc189 => ?_)
        · show W K l _ n0 _ h19 9 44 141 #[.val (.long xl), .second, .val (.long yl), .second, .val (.long zl), .second, .val (.int fl), .val (.int a), .val (.int b), .val (.int c), .val (.int d), .val (.int e), .val (.int g), .val (.ref b1), .val (.ref b6), .val (.ref b11), .val (.int (0 : Int32)), .val (.int (1 : Int32)), .unset, .unset, .unset] []
          refine w_iconst ok at_141 (v := (0 : Int32)) rfl ?_
          refine w_istore ok at_142 (L' := #[.val (.long xl), .second, .val (.long yl), .second, .val (.long zl), .second, .val (.int fl), .val (.int a), .val (.int b), .val (.int c), .val (.int d), .val (.int e), .val (.int g), .val (.ref b1), .val (.ref b6), .val (.ref b11), .val (.int (0 : Int32)), .val (.int (1 : Int32)), .val (.int (0 : Int32)), .unset, .unset]) rfl ?_
          refine w_iload ok at_144 rfl ?_
          refine w_if_eq ok at_146 (pc' := 157) (by decide) (fun hc191 => ?_) (fun hc191 => False.elim (by revert hc191; decide))
          show W K l _ n0 _ h19 9 44 157 #[.val (.long xl), .second, .val (.long yl), .second, .val (.long zl), .second, .val (.int fl), .val (.int a), .val (.int b), .val (.int c), .val (.int d), .val (.int e), .val (.int g), .val (.ref b1), .val (.ref b6), .val (.ref b11), .val (.int (0 : Int32)), .val (.int (1 : Int32)), .val (.int (0 : Int32)), .unset, .unset] []
          refine w_iload ok at_157 rfl ?_
          refine w_iconst ok at_159 (v := (1 : Int32)) rfl ?_
          refine w_icmp_eq ok at_160 (pc' := 165) (by decide) (fun hc193 => ?_) (fun hc193 => False.elim (by revert hc193; decide))
          show W K l _ n0 _ h19 9 44 165 #[.val (.long xl), .second, .val (.long yl), .second, .val (.long zl), .second, .val (.int fl), .val (.int a), .val (.int b), .val (.int c), .val (.int d), .val (.int e), .val (.int g), .val (.ref b1), .val (.ref b6), .val (.ref b11), .val (.int (0 : Int32)), .val (.int (1 : Int32)), .val (.int (0 : Int32)), .unset, .unset] []
          refine w_iload ok at_165 rfl ?_
          refine w_iconst ok at_167 (v := (3 : Int32)) rfl ?_
          refine w_iand ok at_168 ?_
          refine w_istore ok at_169 (L' := #[.val (.long xl), .second, .val (.long yl), .second, .val (.long zl), .second, .val (.int fl), .val (.int a), .val (.int b), .val (.int c), .val (.int d), .val (.int e), .val (.int g), .val (.ref b1), .val (.ref b6), .val (.ref b11), .val (.int (0 : Int32)), .val (.int (1 : Int32)), .val (.int (0 : Int32)), .val (.int (fl &&& (3 : Int32))), .unset]) rfl ?_
          refine w_iload ok at_171 rfl ?_
          refine w_iconst ok at_173 (v := (1 : Int32)) rfl ?_
          refine w_icmp_ne ok at_174 (pc' := 186) (by decide) (fun hc195 => ?_) (fun hc195 => ?_)
          · show W K l _ n0 _ h19 9 44 186 #[.val (.long xl), .second, .val (.long yl), .second, .val (.long zl), .second, .val (.int fl), .val (.int a), .val (.int b), .val (.int c), .val (.int d), .val (.int e), .val (.int g), .val (.ref b1), .val (.ref b6), .val (.ref b11), .val (.int (0 : Int32)), .val (.int (1 : Int32)), .val (.int (0 : Int32)), .val (.int (fl &&& (3 : Int32))), .unset] []
            refine w_iload ok at_186 rfl ?_
            refine w_iconst ok at_188 (v := (2 : Int32)) rfl ?_
            refine w_icmp_ne ok at_189 (pc' := 204) (by decide) (fun hc197 => ?_) (fun hc197 => ?_)
            · show W K l _ n0 _ h19 9 44 204 #[.val (.long xl), .second, .val (.long yl), .second, .val (.long zl), .second, .val (.int fl), .val (.int a), .val (.int b), .val (.int c), .val (.int d), .val (.int e), .val (.int g), .val (.ref b1), .val (.ref b6), .val (.ref b11), .val (.int (0 : Int32)), .val (.int (1 : Int32)), .val (.int (0 : Int32)), .val (.int (fl &&& (3 : Int32))), .unset] []
              refine w_aload ok at_204 rfl rfl ?_
              refine w_iconst ok at_206 (v := (0 : Int32)) rfl ?_
              refine w_iconst ok at_207 (v := (0 : Int32)) rfl ?_
              refine w_callV ok (y := (⟨"com/example/hornconv/hornconv/FactTable", "argument", "(II)I"⟩ : MethodName)) (a := b11) (argsL := [(.int (0 : Int32)), (.int (0 : Int32))]) (rest := []) at_208 (hw _ (List.mem_of_getElem? (i := 61) rfl)) (hw _ (List.mem_of_getElem? (i := 62) rfl)) (hw _ (List.mem_of_getElem? (i := 64) rfl)) (hw _ (List.mem_of_getElem? (i := 63) rfl)) (hw _ (List.mem_of_getElem? (i := 3) rfl)) (hw _ (List.mem_of_getElem? (i := 65) rfl)) (by decide) A_b11.1 pd_28II29I rfl rfl (by decide) (Nat.le_of_ble_eq_true rfl) (by decide) (by decide) (fun z0 => rm_arg00 l Z a0 hw [] n0 h19 z0 b11 un me ag de sl po (2 : Int32) (((0 : Int32) + 1) + 1) u1 a b c d e g (0 : Int32) (0 : Int32) (0 : Int32) (0 : Int32) (0 : Int32) (0 : Int32) A_b11 A_ag) (fun v198 h199 qv198 => ?_)
              obtain ⟨rfl, rfl⟩ := qv198
              show W K l _ n0 _ h19 9 44 211 #[.val (.long xl), .second, .val (.long yl), .second, .val (.long zl), .second, .val (.int fl), .val (.int a), .val (.int b), .val (.int c), .val (.int d), .val (.int e), .val (.int g), .val (.ref b1), .val (.ref b6), .val (.ref b11), .val (.int (0 : Int32)), .val (.int (1 : Int32)), .val (.int (0 : Int32)), .val (.int (fl &&& (3 : Int32))), .unset] [(.int a)]
              refine w_iload ok at_211 rfl ?_
              refine w_icmp_ne ok at_213 (pc' := 244) (by decide) (fun hc201 => False.elim (by exact hc201 rfl)) (fun hc201 => ?_)
              show W K l _ n0 _ h19 9 44 216 #[.val (.long xl), .second, .val (.long yl), .second, .val (.long zl), .second, .val (.int fl), .val (.int a), .val (.int b), .val (.int c), .val (.int d), .val (.int e), .val (.int g), .val (.ref b1), .val (.ref b6), .val (.ref b11), .val (.int (0 : Int32)), .val (.int (1 : Int32)), .val (.int (0 : Int32)), .val (.int (fl &&& (3 : Int32))), .unset] []
              refine w_aload ok at_216 rfl rfl ?_
              refine w_iconst ok at_218 (v := (0 : Int32)) rfl ?_
              refine w_iconst ok at_219 (v := (1 : Int32)) rfl ?_
              refine w_callV ok (y := (⟨"com/example/hornconv/hornconv/FactTable", "argument", "(II)I"⟩ : MethodName)) (a := b11) (argsL := [(.int (0 : Int32)), (.int (1 : Int32))]) (rest := []) at_220 (hw _ (List.mem_of_getElem? (i := 61) rfl)) (hw _ (List.mem_of_getElem? (i := 62) rfl)) (hw _ (List.mem_of_getElem? (i := 64) rfl)) (hw _ (List.mem_of_getElem? (i := 63) rfl)) (hw _ (List.mem_of_getElem? (i := 3) rfl)) (hw _ (List.mem_of_getElem? (i := 65) rfl)) (by decide) A_b11.1 pd_28II29I rfl rfl (by decide) (Nat.le_of_ble_eq_true rfl) (by decide) (by decide) (fun z0 => rm_arg01 l Z a0 hw [] n0 h19 z0 b11 un me ag de sl po (2 : Int32) (((0 : Int32) + 1) + 1) u1 a b c d e g (0 : Int32) (0 : Int32) (0 : Int32) (0 : Int32) (0 : Int32) (0 : Int32) A_b11 A_ag) (fun v202 h203 qv202 => ?_)
              obtain ⟨rfl, rfl⟩ := qv202
              show W K l _ n0 _ h19 9 44 223 #[.val (.long xl), .second, .val (.long yl), .second, .val (.long zl), .second, .val (.int fl), .val (.int a), .val (.int b), .val (.int c), .val (.int d), .val (.int e), .val (.int g), .val (.ref b1), .val (.ref b6), .val (.ref b11), .val (.int (0 : Int32)), .val (.int (1 : Int32)), .val (.int (0 : Int32)), .val (.int (fl &&& (3 : Int32))), .unset] [(.int b)]
              refine w_iload ok at_223 rfl ?_
              refine w_icmp_ne ok at_225 (pc' := 244) (by decide) (fun hc205 => False.elim (by exact hc205 rfl)) (fun hc205 => ?_)
              show W K l _ n0 _ h19 9 44 228 #[.val (.long xl), .second, .val (.long yl), .second, .val (.long zl), .second, .val (.int fl), .val (.int a), .val (.int b), .val (.int c), .val (.int d), .val (.int e), .val (.int g), .val (.ref b1), .val (.ref b6), .val (.ref b11), .val (.int (0 : Int32)), .val (.int (1 : Int32)), .val (.int (0 : Int32)), .val (.int (fl &&& (3 : Int32))), .unset] []
              refine w_aload ok at_228 rfl rfl ?_
              refine w_iconst ok at_230 (v := (0 : Int32)) rfl ?_
              refine w_iconst ok at_231 (v := (2 : Int32)) rfl ?_
              refine w_callV ok (y := (⟨"com/example/hornconv/hornconv/FactTable", "argument", "(II)I"⟩ : MethodName)) (a := b11) (argsL := [(.int (0 : Int32)), (.int (2 : Int32))]) (rest := []) at_232 (hw _ (List.mem_of_getElem? (i := 61) rfl)) (hw _ (List.mem_of_getElem? (i := 62) rfl)) (hw _ (List.mem_of_getElem? (i := 64) rfl)) (hw _ (List.mem_of_getElem? (i := 63) rfl)) (hw _ (List.mem_of_getElem? (i := 3) rfl)) (hw _ (List.mem_of_getElem? (i := 65) rfl)) (by decide) A_b11.1 pd_28II29I rfl rfl (by decide) (Nat.le_of_ble_eq_true rfl) (by decide) (by decide) (fun z0 => rm_arg02 l Z a0 hw [] n0 h19 z0 b11 un me ag de sl po (2 : Int32) (((0 : Int32) + 1) + 1) u1 a b c d e g (0 : Int32) (0 : Int32) (0 : Int32) (0 : Int32) (0 : Int32) (0 : Int32) A_b11 A_ag) (fun v206 h207 qv206 => ?_)
              obtain ⟨rfl, rfl⟩ := qv206
              show W K l _ n0 _ h19 9 44 235 #[.val (.long xl), .second, .val (.long yl), .second, .val (.long zl), .second, .val (.int fl), .val (.int a), .val (.int b), .val (.int c), .val (.int d), .val (.int e), .val (.int g), .val (.ref b1), .val (.ref b6), .val (.ref b11), .val (.int (0 : Int32)), .val (.int (1 : Int32)), .val (.int (0 : Int32)), .val (.int (fl &&& (3 : Int32))), .unset] [(.int c)]
              refine w_iload ok at_235 rfl ?_
              refine w_icmp_ne ok at_237 (pc' := 244) (by decide) (fun hc209 => False.elim (by exact hc209 rfl)) (fun hc209 => ?_)
              show W K l _ n0 _ h19 9 44 240 #[.val (.long xl), .second, .val (.long yl), .second, .val (.long zl), .second, .val (.int fl), .val (.int a), .val (.int b), .val (.int c), .val (.int d), .val (.int e), .val (.int g), .val (.ref b1), .val (.ref b6), .val (.ref b11), .val (.int (0 : Int32)), .val (.int (1 : Int32)), .val (.int (0 : Int32)), .val (.int (fl &&& (3 : Int32))), .unset] []
              refine w_iconst ok at_240 (v := (1 : Int32)) rfl ?_
              refine w_goto ok at_241 (pc' := 245) (by decide) ?_
              refine w_istore ok at_245 (L' := #[.val (.long xl), .second, .val (.long yl), .second, .val (.long zl), .second, .val (.int fl), .val (.int a), .val (.int b), .val (.int c), .val (.int d), .val (.int e), .val (.int g), .val (.ref b1), .val (.ref b6), .val (.ref b11), .val (.int (0 : Int32)), .val (.int (1 : Int32)), .val (.int (0 : Int32)), .val (.int (fl &&& (3 : Int32))), .val (.int (1 : Int32))]) rfl ?_
              refine w_iload ok at_247 rfl ?_
              refine w_iconst ok at_249 (v := (1 : Int32)) rfl ?_
              refine w_icmp_ne ok at_250 (pc' := 301) (by decide) (fun hc211 => False.elim (by revert hc211; decide)) (fun hc211 => ?_)
              show W K l _ n0 _ h19 9 44 253 #[.val (.long xl), .second, .val (.long yl), .second, .val (.long zl), .second, .val (.int fl), .val (.int a), .val (.int b), .val (.int c), .val (.int d), .val (.int e), .val (.int g), .val (.ref b1), .val (.ref b6), .val (.ref b11), .val (.int (0 : Int32)), .val (.int (1 : Int32)), .val (.int (0 : Int32)), .val (.int (fl &&& (3 : Int32))), .val (.int (1 : Int32))] []
              refine w_iload ok at_253 rfl ?_
              refine w_if_eq ok at_255 (pc' := 298) (by decide) (fun hc213 => False.elim (by revert hc213; decide)) (fun hc213 => ?_)
              show W K l _ n0 _ h19 9 44 258 #[.val (.long xl), .second, .val (.long yl), .second, .val (.long zl), .second, .val (.int fl), .val (.int a), .val (.int b), .val (.int c), .val (.int d), .val (.int e), .val (.int g), .val (.ref b1), .val (.ref b6), .val (.ref b11), .val (.int (0 : Int32)), .val (.int (1 : Int32)), .val (.int (0 : Int32)), .val (.int (fl &&& (3 : Int32))), .val (.int (1 : Int32))] []
              refine w_aload ok at_258 rfl rfl ?_
              refine w_iconst ok at_260 (v := (1 : Int32)) rfl ?_
              refine w_iconst ok at_261 (v := (0 : Int32)) rfl ?_
              refine w_callV ok (y := (⟨"com/example/hornconv/hornconv/FactTable", "argument", "(II)I"⟩ : MethodName)) (a := b11) (argsL := [(.int (1 : Int32)), (.int (0 : Int32))]) (rest := []) at_262 (hw _ (List.mem_of_getElem? (i := 61) rfl)) (hw _ (List.mem_of_getElem? (i := 62) rfl)) (hw _ (List.mem_of_getElem? (i := 64) rfl)) (hw _ (List.mem_of_getElem? (i := 63) rfl)) (hw _ (List.mem_of_getElem? (i := 3) rfl)) (hw _ (List.mem_of_getElem? (i := 65) rfl)) (by decide) A_b11.1 pd_28II29I rfl rfl (by decide) (Nat.le_of_ble_eq_true rfl) (by decide) (by decide) (fun z0 => rm_arg10 l Z a0 hw [] n0 h19 z0 b11 un me ag de sl po (2 : Int32) (((0 : Int32) + 1) + 1) u1 a b c d e g (0 : Int32) (0 : Int32) (0 : Int32) (0 : Int32) (0 : Int32) (0 : Int32) A_b11 A_ag) (fun v214 h215 qv214 => ?_)
              obtain ⟨rfl, rfl⟩ := qv214
              show W K l _ n0 _ h19 9 44 265 #[.val (.long xl), .second, .val (.long yl), .second, .val (.long zl), .second, .val (.int fl), .val (.int a), .val (.int b), .val (.int c), .val (.int d), .val (.int e), .val (.int g), .val (.ref b1), .val (.ref b6), .val (.ref b11), .val (.int (0 : Int32)), .val (.int (1 : Int32)), .val (.int (0 : Int32)), .val (.int (fl &&& (3 : Int32))), .val (.int (1 : Int32))] [(.int d)]
              refine w_iload ok at_265 rfl ?_
              refine w_icmp_ne ok at_267 (pc' := 298) (by decide) (fun hc217 => False.elim (by exact hc217 rfl)) (fun hc217 => ?_)
              show W K l _ n0 _ h19 9 44 270 #[.val (.long xl), .second, .val (.long yl), .second, .val (.long zl), .second, .val (.int fl), .val (.int a), .val (.int b), .val (.int c), .val (.int d), .val (.int e), .val (.int g), .val (.ref b1), .val (.ref b6), .val (.ref b11), .val (.int (0 : Int32)), .val (.int (1 : Int32)), .val (.int (0 : Int32)), .val (.int (fl &&& (3 : Int32))), .val (.int (1 : Int32))] []
              refine w_aload ok at_270 rfl rfl ?_
              refine w_iconst ok at_272 (v := (1 : Int32)) rfl ?_
              refine w_iconst ok at_273 (v := (1 : Int32)) rfl ?_
              refine w_callV ok (y := (⟨"com/example/hornconv/hornconv/FactTable", "argument", "(II)I"⟩ : MethodName)) (a := b11) (argsL := [(.int (1 : Int32)), (.int (1 : Int32))]) (rest := []) at_274 (hw _ (List.mem_of_getElem? (i := 61) rfl)) (hw _ (List.mem_of_getElem? (i := 62) rfl)) (hw _ (List.mem_of_getElem? (i := 64) rfl)) (hw _ (List.mem_of_getElem? (i := 63) rfl)) (hw _ (List.mem_of_getElem? (i := 3) rfl)) (hw _ (List.mem_of_getElem? (i := 65) rfl)) (by decide) A_b11.1 pd_28II29I rfl rfl (by decide) (Nat.le_of_ble_eq_true rfl) (by decide) (by decide) (fun z0 => rm_arg11 l Z a0 hw [] n0 h19 z0 b11 un me ag de sl po (2 : Int32) (((0 : Int32) + 1) + 1) u1 a b c d e g (0 : Int32) (0 : Int32) (0 : Int32) (0 : Int32) (0 : Int32) (0 : Int32) A_b11 A_ag) (fun v218 h219 qv218 => ?_)
              obtain ⟨rfl, rfl⟩ := qv218
              show W K l _ n0 _ h19 9 44 277 #[.val (.long xl), .second, .val (.long yl), .second, .val (.long zl), .second, .val (.int fl), .val (.int a), .val (.int b), .val (.int c), .val (.int d), .val (.int e), .val (.int g), .val (.ref b1), .val (.ref b6), .val (.ref b11), .val (.int (0 : Int32)), .val (.int (1 : Int32)), .val (.int (0 : Int32)), .val (.int (fl &&& (3 : Int32))), .val (.int (1 : Int32))] [(.int e)]
              refine w_iload ok at_277 rfl ?_
              refine w_icmp_ne ok at_279 (pc' := 298) (by decide) (fun hc221 => False.elim (by exact hc221 rfl)) (fun hc221 => ?_)
              show W K l _ n0 _ h19 9 44 282 #[.val (.long xl), .second, .val (.long yl), .second, .val (.long zl), .second, .val (.int fl), .val (.int a), .val (.int b), .val (.int c), .val (.int d), .val (.int e), .val (.int g), .val (.ref b1), .val (.ref b6), .val (.ref b11), .val (.int (0 : Int32)), .val (.int (1 : Int32)), .val (.int (0 : Int32)), .val (.int (fl &&& (3 : Int32))), .val (.int (1 : Int32))] []
              refine w_aload ok at_282 rfl rfl ?_
              refine w_iconst ok at_284 (v := (1 : Int32)) rfl ?_
              refine w_iconst ok at_285 (v := (2 : Int32)) rfl ?_
              refine w_callV ok (y := (⟨"com/example/hornconv/hornconv/FactTable", "argument", "(II)I"⟩ : MethodName)) (a := b11) (argsL := [(.int (1 : Int32)), (.int (2 : Int32))]) (rest := []) at_286 (hw _ (List.mem_of_getElem? (i := 61) rfl)) (hw _ (List.mem_of_getElem? (i := 62) rfl)) (hw _ (List.mem_of_getElem? (i := 64) rfl)) (hw _ (List.mem_of_getElem? (i := 63) rfl)) (hw _ (List.mem_of_getElem? (i := 3) rfl)) (hw _ (List.mem_of_getElem? (i := 65) rfl)) (by decide) A_b11.1 pd_28II29I rfl rfl (by decide) (Nat.le_of_ble_eq_true rfl) (by decide) (by decide) (fun z0 => rm_arg12 l Z a0 hw [] n0 h19 z0 b11 un me ag de sl po (2 : Int32) (((0 : Int32) + 1) + 1) u1 a b c d e g (0 : Int32) (0 : Int32) (0 : Int32) (0 : Int32) (0 : Int32) (0 : Int32) A_b11 A_ag) (fun v222 h223 qv222 => ?_)
              obtain ⟨rfl, rfl⟩ := qv222
              show W K l _ n0 _ h19 9 44 289 #[.val (.long xl), .second, .val (.long yl), .second, .val (.long zl), .second, .val (.int fl), .val (.int a), .val (.int b), .val (.int c), .val (.int d), .val (.int e), .val (.int g), .val (.ref b1), .val (.ref b6), .val (.ref b11), .val (.int (0 : Int32)), .val (.int (1 : Int32)), .val (.int (0 : Int32)), .val (.int (fl &&& (3 : Int32))), .val (.int (1 : Int32))] [(.int g)]
              refine w_iload ok at_289 rfl ?_
              refine w_icmp_ne ok at_291 (pc' := 298) (by decide) (fun hc225 => False.elim (by exact hc225 rfl)) (fun hc225 => ?_)
              show W K l _ n0 _ h19 9 44 294 #[.val (.long xl), .second, .val (.long yl), .second, .val (.long zl), .second, .val (.int fl), .val (.int a), .val (.int b), .val (.int c), .val (.int d), .val (.int e), .val (.int g), .val (.ref b1), .val (.ref b6), .val (.ref b11), .val (.int (0 : Int32)), .val (.int (1 : Int32)), .val (.int (0 : Int32)), .val (.int (fl &&& (3 : Int32))), .val (.int (1 : Int32))] []
              refine w_iconst ok at_294 (v := (1 : Int32)) rfl ?_
              refine w_goto ok at_295 (pc' := 299) (by decide) ?_
              refine w_istore ok at_299 (L' := #[.val (.long xl), .second, .val (.long yl), .second, .val (.long zl), .second, .val (.int fl), .val (.int a), .val (.int b), .val (.int c), .val (.int d), .val (.int e), .val (.int g), .val (.ref b1), .val (.ref b6), .val (.ref b11), .val (.int (0 : Int32)), .val (.int (1 : Int32)), .val (.int (0 : Int32)), .val (.int (fl &&& (3 : Int32))), .val (.int (1 : Int32))]) rfl ?_
              refine w_iload ok at_301 rfl ?_
              refine w_bret ok (by simp) at_303 (by decide) (by decide) ?_
              exact rfl
            · show W K l _ n0 _ h19 9 44 192 #[.val (.long xl), .second, .val (.long yl), .second, .val (.long zl), .second, .val (.int fl), .val (.int a), .val (.int b), .val (.int c), .val (.int d), .val (.int e), .val (.int g), .val (.ref b1), .val (.ref b6), .val (.ref b11), .val (.int (0 : Int32)), .val (.int (1 : Int32)), .val (.int (0 : Int32)), .val (.int (fl &&& (3 : Int32))), .unset] []
              refine w_iload ok at_192 rfl ?_
              refine w_iconst ok at_194 (v := (1 : Int32)) rfl ?_
              refine w_icmp_ne ok at_195 (pc' := 204) (by decide) (fun hc227 => False.elim (by revert hc227; decide)) (fun hc227 => ?_)
              show W K l _ n0 _ h19 9 44 198 #[.val (.long xl), .second, .val (.long yl), .second, .val (.long zl), .second, .val (.int fl), .val (.int a), .val (.int b), .val (.int c), .val (.int d), .val (.int e), .val (.int g), .val (.ref b1), .val (.ref b6), .val (.ref b11), .val (.int (0 : Int32)), .val (.int (1 : Int32)), .val (.int (0 : Int32)), .val (.int (fl &&& (3 : Int32))), .unset] []
              refine w_aload ok at_198 rfl rfl ?_
              refine w_iconst ok at_200 (v := (1 : Int32)) rfl ?_
              refine w_callV ok (y := (⟨"com/example/hornconv/hornconv/FactTable", "remove", "(I)V"⟩ : MethodName)) (a := b11) (argsL := [(.int (1 : Int32))]) (rest := []) at_201 (hw _ (List.mem_of_getElem? (i := 56) rfl)) (hw _ (List.mem_of_getElem? (i := 57) rfl)) (hw _ (List.mem_of_getElem? (i := 59) rfl)) (hw _ (List.mem_of_getElem? (i := 58) rfl)) (hw _ (List.mem_of_getElem? (i := 3) rfl)) (hw _ (List.mem_of_getElem? (i := 60) rfl)) (by decide) A_b11.1 pd_28I29V rfl rfl (by decide) (Nat.le_of_ble_eq_true rfl) (by decide) (by decide) (fun z0 => rm_rm1 l Z a0 hw [] n0 h19 z0 b11 un me ag de sl po (2 : Int32) (((0 : Int32) + 1) + 1) u1 a b c d e g (0 : Int32) (0 : Int32) (0 : Int32) (0 : Int32) (0 : Int32) (0 : Int32) (0 : Int32) (0 : Int32) (0 : Int32) (0 : Int32) (upd (upd f00 r0 0) r1 1) A_b11 A_ag A_de A_sl A_po ge_b11 g2 g3 nn0 nn1 nn2 nn3 nn4 nn5 nn6 nn7 nn9 nn8 ⟨i1, by rw [← hr1]; simp [upd, ne10]⟩) (fun v228 h229 qv228 => ?_)
              obtain ⟨rfl, rr, h8_rr, hfr, K1, A1, A2, A3⟩ := qv228
              replace A_b1 := A_b1.keep K1 (ninS ne_b1_b11 (ninS ne_b1_de (ninS ne_b1_sl nin0)))
              replace A_b6 := A_b6.keep K1 (ninS ne_b6_b11 (ninS ne_b6_de (ninS ne_b6_sl nin0)))
              replace A_ag := A_ag.keep K1 (ninS (Ne.symm nn0) (ninS nn4 (ninS nn5 nin0)))
              replace A_po := A_po.keep K1 (ninS (Ne.symm nn3) (ninS (Ne.symm nn8) (ninS (Ne.symm nn9) nin0)))
              replace A_b11 := A1
              replace A_de := A2
              replace A_sl := A3
              have err : rr = r1 := by
                simp only [upd, f00] at hfr; repeat' split at hfr
                all_goals first | assumption | exact absurd hfr (by decide)
              rw [err] at A_sl
              have hRn230 : Rw (upd (upd (upd f00 r0 0) r1 1) r1 (-2)) := own_rwu hRn83 (by decide)
              have hNn230 := own_free (f := (upd (upd (upd f00 r0 0) r1 1) r1 (-2))) r0 r1 (fun j _ h0 h1 => by simp [upd, h0, h1])
              show W K l _ n0 _ h229 9 44 204 #[.val (.long xl), .second, .val (.long yl), .second, .val (.long zl), .second, .val (.int fl), .val (.int a), .val (.int b), .val (.int c), .val (.int d), .val (.int e), .val (.int g), .val (.ref b1), .val (.ref b6), .val (.ref b11), .val (.int (0 : Int32)), .val (.int (1 : Int32)), .val (.int (0 : Int32)), .val (.int (fl &&& (3 : Int32))), .unset] []
              refine w_aload ok at_204 rfl rfl ?_
              refine w_iconst ok at_206 (v := (0 : Int32)) rfl ?_
              refine w_iconst ok at_207 (v := (0 : Int32)) rfl ?_
              refine w_callV ok (y := (⟨"com/example/hornconv/hornconv/FactTable", "argument", "(II)I"⟩ : MethodName)) (a := b11) (argsL := [(.int (0 : Int32)), (.int (0 : Int32))]) (rest := []) at_208 (hw _ (List.mem_of_getElem? (i := 61) rfl)) (hw _ (List.mem_of_getElem? (i := 62) rfl)) (hw _ (List.mem_of_getElem? (i := 64) rfl)) (hw _ (List.mem_of_getElem? (i := 63) rfl)) (hw _ (List.mem_of_getElem? (i := 3) rfl)) (hw _ (List.mem_of_getElem? (i := 65) rfl)) (by decide) A_b11.1 pd_28II29I rfl rfl (by decide) (Nat.le_of_ble_eq_true rfl) (by decide) (by decide) (fun z0 => rm_arg00 l Z a0 hw [] n0 h229 z0 b11 un me ag de sl po (2 : Int32) ((((0 : Int32) + 1) + 1) - 1) u1 a b c d e g (0 : Int32) (0 : Int32) (0 : Int32) (0 : Int32) (0 : Int32) (0 : Int32) A_b11 A_ag) (fun v231 h232 qv231 => ?_)
              obtain ⟨rfl, rfl⟩ := qv231
              show W K l _ n0 _ h229 9 44 211 #[.val (.long xl), .second, .val (.long yl), .second, .val (.long zl), .second, .val (.int fl), .val (.int a), .val (.int b), .val (.int c), .val (.int d), .val (.int e), .val (.int g), .val (.ref b1), .val (.ref b6), .val (.ref b11), .val (.int (0 : Int32)), .val (.int (1 : Int32)), .val (.int (0 : Int32)), .val (.int (fl &&& (3 : Int32))), .unset] [(.int a)]
              refine w_iload ok at_211 rfl ?_
              refine w_icmp_ne ok at_213 (pc' := 244) (by decide) (fun hc234 => False.elim (by exact hc234 rfl)) (fun hc234 => ?_)
              show W K l _ n0 _ h229 9 44 216 #[.val (.long xl), .second, .val (.long yl), .second, .val (.long zl), .second, .val (.int fl), .val (.int a), .val (.int b), .val (.int c), .val (.int d), .val (.int e), .val (.int g), .val (.ref b1), .val (.ref b6), .val (.ref b11), .val (.int (0 : Int32)), .val (.int (1 : Int32)), .val (.int (0 : Int32)), .val (.int (fl &&& (3 : Int32))), .unset] []
              refine w_aload ok at_216 rfl rfl ?_
              refine w_iconst ok at_218 (v := (0 : Int32)) rfl ?_
              refine w_iconst ok at_219 (v := (1 : Int32)) rfl ?_
              refine w_callV ok (y := (⟨"com/example/hornconv/hornconv/FactTable", "argument", "(II)I"⟩ : MethodName)) (a := b11) (argsL := [(.int (0 : Int32)), (.int (1 : Int32))]) (rest := []) at_220 (hw _ (List.mem_of_getElem? (i := 61) rfl)) (hw _ (List.mem_of_getElem? (i := 62) rfl)) (hw _ (List.mem_of_getElem? (i := 64) rfl)) (hw _ (List.mem_of_getElem? (i := 63) rfl)) (hw _ (List.mem_of_getElem? (i := 3) rfl)) (hw _ (List.mem_of_getElem? (i := 65) rfl)) (by decide) A_b11.1 pd_28II29I rfl rfl (by decide) (Nat.le_of_ble_eq_true rfl) (by decide) (by decide) (fun z0 => rm_arg01 l Z a0 hw [] n0 h229 z0 b11 un me ag de sl po (2 : Int32) ((((0 : Int32) + 1) + 1) - 1) u1 a b c d e g (0 : Int32) (0 : Int32) (0 : Int32) (0 : Int32) (0 : Int32) (0 : Int32) A_b11 A_ag) (fun v235 h236 qv235 => ?_)
              obtain ⟨rfl, rfl⟩ := qv235
              show W K l _ n0 _ h229 9 44 223 #[.val (.long xl), .second, .val (.long yl), .second, .val (.long zl), .second, .val (.int fl), .val (.int a), .val (.int b), .val (.int c), .val (.int d), .val (.int e), .val (.int g), .val (.ref b1), .val (.ref b6), .val (.ref b11), .val (.int (0 : Int32)), .val (.int (1 : Int32)), .val (.int (0 : Int32)), .val (.int (fl &&& (3 : Int32))), .unset] [(.int b)]
              refine w_iload ok at_223 rfl ?_
              refine w_icmp_ne ok at_225 (pc' := 244) (by decide) (fun hc238 => False.elim (by exact hc238 rfl)) (fun hc238 => ?_)
              show W K l _ n0 _ h229 9 44 228 #[.val (.long xl), .second, .val (.long yl), .second, .val (.long zl), .second, .val (.int fl), .val (.int a), .val (.int b), .val (.int c), .val (.int d), .val (.int e), .val (.int g), .val (.ref b1), .val (.ref b6), .val (.ref b11), .val (.int (0 : Int32)), .val (.int (1 : Int32)), .val (.int (0 : Int32)), .val (.int (fl &&& (3 : Int32))), .unset] []
              refine w_aload ok at_228 rfl rfl ?_
              refine w_iconst ok at_230 (v := (0 : Int32)) rfl ?_
              refine w_iconst ok at_231 (v := (2 : Int32)) rfl ?_
              refine w_callV ok (y := (⟨"com/example/hornconv/hornconv/FactTable", "argument", "(II)I"⟩ : MethodName)) (a := b11) (argsL := [(.int (0 : Int32)), (.int (2 : Int32))]) (rest := []) at_232 (hw _ (List.mem_of_getElem? (i := 61) rfl)) (hw _ (List.mem_of_getElem? (i := 62) rfl)) (hw _ (List.mem_of_getElem? (i := 64) rfl)) (hw _ (List.mem_of_getElem? (i := 63) rfl)) (hw _ (List.mem_of_getElem? (i := 3) rfl)) (hw _ (List.mem_of_getElem? (i := 65) rfl)) (by decide) A_b11.1 pd_28II29I rfl rfl (by decide) (Nat.le_of_ble_eq_true rfl) (by decide) (by decide) (fun z0 => rm_arg02 l Z a0 hw [] n0 h229 z0 b11 un me ag de sl po (2 : Int32) ((((0 : Int32) + 1) + 1) - 1) u1 a b c d e g (0 : Int32) (0 : Int32) (0 : Int32) (0 : Int32) (0 : Int32) (0 : Int32) A_b11 A_ag) (fun v239 h240 qv239 => ?_)
              obtain ⟨rfl, rfl⟩ := qv239
              show W K l _ n0 _ h229 9 44 235 #[.val (.long xl), .second, .val (.long yl), .second, .val (.long zl), .second, .val (.int fl), .val (.int a), .val (.int b), .val (.int c), .val (.int d), .val (.int e), .val (.int g), .val (.ref b1), .val (.ref b6), .val (.ref b11), .val (.int (0 : Int32)), .val (.int (1 : Int32)), .val (.int (0 : Int32)), .val (.int (fl &&& (3 : Int32))), .unset] [(.int c)]
              refine w_iload ok at_235 rfl ?_
              refine w_icmp_ne ok at_237 (pc' := 244) (by decide) (fun hc242 => False.elim (by exact hc242 rfl)) (fun hc242 => ?_)
              show W K l _ n0 _ h229 9 44 240 #[.val (.long xl), .second, .val (.long yl), .second, .val (.long zl), .second, .val (.int fl), .val (.int a), .val (.int b), .val (.int c), .val (.int d), .val (.int e), .val (.int g), .val (.ref b1), .val (.ref b6), .val (.ref b11), .val (.int (0 : Int32)), .val (.int (1 : Int32)), .val (.int (0 : Int32)), .val (.int (fl &&& (3 : Int32))), .unset] []
              refine w_iconst ok at_240 (v := (1 : Int32)) rfl ?_
              refine w_goto ok at_241 (pc' := 245) (by decide) ?_
              refine w_istore ok at_245 (L' := #[.val (.long xl), .second, .val (.long yl), .second, .val (.long zl), .second, .val (.int fl), .val (.int a), .val (.int b), .val (.int c), .val (.int d), .val (.int e), .val (.int g), .val (.ref b1), .val (.ref b6), .val (.ref b11), .val (.int (0 : Int32)), .val (.int (1 : Int32)), .val (.int (0 : Int32)), .val (.int (fl &&& (3 : Int32))), .val (.int (1 : Int32))]) rfl ?_
              refine w_iload ok at_247 rfl ?_
              refine w_iconst ok at_249 (v := (1 : Int32)) rfl ?_
              refine w_icmp_ne ok at_250 (pc' := 301) (by decide) (fun hc244 => False.elim (by revert hc244; decide)) (fun hc244 => ?_)
              show W K l _ n0 _ h229 9 44 253 #[.val (.long xl), .second, .val (.long yl), .second, .val (.long zl), .second, .val (.int fl), .val (.int a), .val (.int b), .val (.int c), .val (.int d), .val (.int e), .val (.int g), .val (.ref b1), .val (.ref b6), .val (.ref b11), .val (.int (0 : Int32)), .val (.int (1 : Int32)), .val (.int (0 : Int32)), .val (.int (fl &&& (3 : Int32))), .val (.int (1 : Int32))] []
              refine w_iload ok at_253 rfl ?_
              refine w_if_eq ok at_255 (pc' := 298) (by decide) (fun hc246 => False.elim (by revert hc246; decide)) (fun hc246 => ?_)
              show W K l _ n0 _ h229 9 44 258 #[.val (.long xl), .second, .val (.long yl), .second, .val (.long zl), .second, .val (.int fl), .val (.int a), .val (.int b), .val (.int c), .val (.int d), .val (.int e), .val (.int g), .val (.ref b1), .val (.ref b6), .val (.ref b11), .val (.int (0 : Int32)), .val (.int (1 : Int32)), .val (.int (0 : Int32)), .val (.int (fl &&& (3 : Int32))), .val (.int (1 : Int32))] []
              refine w_aload ok at_258 rfl rfl ?_
              refine w_iconst ok at_260 (v := (1 : Int32)) rfl ?_
              refine w_iconst ok at_261 (v := (0 : Int32)) rfl ?_
              refine w_callV ok (y := (⟨"com/example/hornconv/hornconv/FactTable", "argument", "(II)I"⟩ : MethodName)) (a := b11) (argsL := [(.int (1 : Int32)), (.int (0 : Int32))]) (rest := []) at_262 (hw _ (List.mem_of_getElem? (i := 61) rfl)) (hw _ (List.mem_of_getElem? (i := 62) rfl)) (hw _ (List.mem_of_getElem? (i := 64) rfl)) (hw _ (List.mem_of_getElem? (i := 63) rfl)) (hw _ (List.mem_of_getElem? (i := 3) rfl)) (hw _ (List.mem_of_getElem? (i := 65) rfl)) (by decide) A_b11.1 pd_28II29I rfl rfl (by decide) (Nat.le_of_ble_eq_true rfl) (by decide) (by decide) (fun z0 => rm_arg10 l Z a0 hw [] n0 h229 z0 b11 un me ag de sl po (2 : Int32) ((((0 : Int32) + 1) + 1) - 1) u1 a b c d e g (0 : Int32) (0 : Int32) (0 : Int32) (0 : Int32) (0 : Int32) (0 : Int32) A_b11 A_ag) (fun v247 h248 qv247 => ?_)
              obtain ⟨rfl, rfl⟩ := qv247
              show W K l _ n0 _ h229 9 44 265 #[.val (.long xl), .second, .val (.long yl), .second, .val (.long zl), .second, .val (.int fl), .val (.int a), .val (.int b), .val (.int c), .val (.int d), .val (.int e), .val (.int g), .val (.ref b1), .val (.ref b6), .val (.ref b11), .val (.int (0 : Int32)), .val (.int (1 : Int32)), .val (.int (0 : Int32)), .val (.int (fl &&& (3 : Int32))), .val (.int (1 : Int32))] [(.int d)]
              refine w_iload ok at_265 rfl ?_
              refine w_icmp_ne ok at_267 (pc' := 298) (by decide) (fun hc250 => False.elim (by exact hc250 rfl)) (fun hc250 => ?_)
              show W K l _ n0 _ h229 9 44 270 #[.val (.long xl), .second, .val (.long yl), .second, .val (.long zl), .second, .val (.int fl), .val (.int a), .val (.int b), .val (.int c), .val (.int d), .val (.int e), .val (.int g), .val (.ref b1), .val (.ref b6), .val (.ref b11), .val (.int (0 : Int32)), .val (.int (1 : Int32)), .val (.int (0 : Int32)), .val (.int (fl &&& (3 : Int32))), .val (.int (1 : Int32))] []
              refine w_aload ok at_270 rfl rfl ?_
              refine w_iconst ok at_272 (v := (1 : Int32)) rfl ?_
              refine w_iconst ok at_273 (v := (1 : Int32)) rfl ?_
              refine w_callV ok (y := (⟨"com/example/hornconv/hornconv/FactTable", "argument", "(II)I"⟩ : MethodName)) (a := b11) (argsL := [(.int (1 : Int32)), (.int (1 : Int32))]) (rest := []) at_274 (hw _ (List.mem_of_getElem? (i := 61) rfl)) (hw _ (List.mem_of_getElem? (i := 62) rfl)) (hw _ (List.mem_of_getElem? (i := 64) rfl)) (hw _ (List.mem_of_getElem? (i := 63) rfl)) (hw _ (List.mem_of_getElem? (i := 3) rfl)) (hw _ (List.mem_of_getElem? (i := 65) rfl)) (by decide) A_b11.1 pd_28II29I rfl rfl (by decide) (Nat.le_of_ble_eq_true rfl) (by decide) (by decide) (fun z0 => rm_arg11 l Z a0 hw [] n0 h229 z0 b11 un me ag de sl po (2 : Int32) ((((0 : Int32) + 1) + 1) - 1) u1 a b c d e g (0 : Int32) (0 : Int32) (0 : Int32) (0 : Int32) (0 : Int32) (0 : Int32) A_b11 A_ag) (fun v251 h252 qv251 => ?_)
              obtain ⟨rfl, rfl⟩ := qv251
              show W K l _ n0 _ h229 9 44 277 #[.val (.long xl), .second, .val (.long yl), .second, .val (.long zl), .second, .val (.int fl), .val (.int a), .val (.int b), .val (.int c), .val (.int d), .val (.int e), .val (.int g), .val (.ref b1), .val (.ref b6), .val (.ref b11), .val (.int (0 : Int32)), .val (.int (1 : Int32)), .val (.int (0 : Int32)), .val (.int (fl &&& (3 : Int32))), .val (.int (1 : Int32))] [(.int e)]
              refine w_iload ok at_277 rfl ?_
              refine w_icmp_ne ok at_279 (pc' := 298) (by decide) (fun hc254 => False.elim (by exact hc254 rfl)) (fun hc254 => ?_)
              show W K l _ n0 _ h229 9 44 282 #[.val (.long xl), .second, .val (.long yl), .second, .val (.long zl), .second, .val (.int fl), .val (.int a), .val (.int b), .val (.int c), .val (.int d), .val (.int e), .val (.int g), .val (.ref b1), .val (.ref b6), .val (.ref b11), .val (.int (0 : Int32)), .val (.int (1 : Int32)), .val (.int (0 : Int32)), .val (.int (fl &&& (3 : Int32))), .val (.int (1 : Int32))] []
              refine w_aload ok at_282 rfl rfl ?_
              refine w_iconst ok at_284 (v := (1 : Int32)) rfl ?_
              refine w_iconst ok at_285 (v := (2 : Int32)) rfl ?_
              refine w_callV ok (y := (⟨"com/example/hornconv/hornconv/FactTable", "argument", "(II)I"⟩ : MethodName)) (a := b11) (argsL := [(.int (1 : Int32)), (.int (2 : Int32))]) (rest := []) at_286 (hw _ (List.mem_of_getElem? (i := 61) rfl)) (hw _ (List.mem_of_getElem? (i := 62) rfl)) (hw _ (List.mem_of_getElem? (i := 64) rfl)) (hw _ (List.mem_of_getElem? (i := 63) rfl)) (hw _ (List.mem_of_getElem? (i := 3) rfl)) (hw _ (List.mem_of_getElem? (i := 65) rfl)) (by decide) A_b11.1 pd_28II29I rfl rfl (by decide) (Nat.le_of_ble_eq_true rfl) (by decide) (by decide) (fun z0 => rm_arg12 l Z a0 hw [] n0 h229 z0 b11 un me ag de sl po (2 : Int32) ((((0 : Int32) + 1) + 1) - 1) u1 a b c d e g (0 : Int32) (0 : Int32) (0 : Int32) (0 : Int32) (0 : Int32) (0 : Int32) A_b11 A_ag) (fun v255 h256 qv255 => ?_)
              obtain ⟨rfl, rfl⟩ := qv255
              show W K l _ n0 _ h229 9 44 289 #[.val (.long xl), .second, .val (.long yl), .second, .val (.long zl), .second, .val (.int fl), .val (.int a), .val (.int b), .val (.int c), .val (.int d), .val (.int e), .val (.int g), .val (.ref b1), .val (.ref b6), .val (.ref b11), .val (.int (0 : Int32)), .val (.int (1 : Int32)), .val (.int (0 : Int32)), .val (.int (fl &&& (3 : Int32))), .val (.int (1 : Int32))] [(.int g)]
              refine w_iload ok at_289 rfl ?_
              refine w_icmp_ne ok at_291 (pc' := 298) (by decide) (fun hc258 => False.elim (by exact hc258 rfl)) (fun hc258 => ?_)
              show W K l _ n0 _ h229 9 44 294 #[.val (.long xl), .second, .val (.long yl), .second, .val (.long zl), .second, .val (.int fl), .val (.int a), .val (.int b), .val (.int c), .val (.int d), .val (.int e), .val (.int g), .val (.ref b1), .val (.ref b6), .val (.ref b11), .val (.int (0 : Int32)), .val (.int (1 : Int32)), .val (.int (0 : Int32)), .val (.int (fl &&& (3 : Int32))), .val (.int (1 : Int32))] []
              refine w_iconst ok at_294 (v := (1 : Int32)) rfl ?_
              refine w_goto ok at_295 (pc' := 299) (by decide) ?_
              refine w_istore ok at_299 (L' := #[.val (.long xl), .second, .val (.long yl), .second, .val (.long zl), .second, .val (.int fl), .val (.int a), .val (.int b), .val (.int c), .val (.int d), .val (.int e), .val (.int g), .val (.ref b1), .val (.ref b6), .val (.ref b11), .val (.int (0 : Int32)), .val (.int (1 : Int32)), .val (.int (0 : Int32)), .val (.int (fl &&& (3 : Int32))), .val (.int (1 : Int32))]) rfl ?_
              refine w_iload ok at_301 rfl ?_
              refine w_bret ok (by simp) at_303 (by decide) (by decide) ?_
              exact rfl
          · show W K l _ n0 _ h19 9 44 177 #[.val (.long xl), .second, .val (.long yl), .second, .val (.long zl), .second, .val (.int fl), .val (.int a), .val (.int b), .val (.int c), .val (.int d), .val (.int e), .val (.int g), .val (.ref b1), .val (.ref b6), .val (.ref b11), .val (.int (0 : Int32)), .val (.int (1 : Int32)), .val (.int (0 : Int32)), .val (.int (fl &&& (3 : Int32))), .unset] []
            refine w_aload ok at_177 rfl rfl ?_
            refine w_iconst ok at_179 (v := (0 : Int32)) rfl ?_
            refine w_callV ok (y := (⟨"com/example/hornconv/hornconv/FactTable", "remove", "(I)V"⟩ : MethodName)) (a := b11) (argsL := [(.int (0 : Int32))]) (rest := []) at_180 (hw _ (List.mem_of_getElem? (i := 56) rfl)) (hw _ (List.mem_of_getElem? (i := 57) rfl)) (hw _ (List.mem_of_getElem? (i := 59) rfl)) (hw _ (List.mem_of_getElem? (i := 58) rfl)) (hw _ (List.mem_of_getElem? (i := 3) rfl)) (hw _ (List.mem_of_getElem? (i := 60) rfl)) (by decide) A_b11.1 pd_28I29V rfl rfl (by decide) (Nat.le_of_ble_eq_true rfl) (by decide) (by decide) (fun z0 => rm_rm0 l Z a0 hw [] n0 h19 z0 b11 un me ag de sl po (2 : Int32) (((0 : Int32) + 1) + 1) u1 a b c d e g (0 : Int32) (0 : Int32) (0 : Int32) (0 : Int32) (0 : Int32) (0 : Int32) (0 : Int32) (0 : Int32) (0 : Int32) (0 : Int32) (upd (upd f00 r0 0) r1 1) A_b11 A_ag A_de A_sl A_po ge_b11 g2 g3 nn0 nn1 nn2 nn3 nn4 nn5 nn6 nn7 nn9 nn8 ⟨0, by rw [← hr0]; simp [upd, Ne.symm ne10]⟩) (fun v259 h260 qv259 => ?_)
            obtain ⟨rfl, rr, h8_rr, hfr, K1, A1, A2, A3⟩ := qv259
            replace A_b1 := A_b1.keep K1 (ninS ne_b1_b11 (ninS ne_b1_de (ninS ne_b1_sl nin0)))
            replace A_b6 := A_b6.keep K1 (ninS ne_b6_b11 (ninS ne_b6_de (ninS ne_b6_sl nin0)))
            replace A_ag := A_ag.keep K1 (ninS (Ne.symm nn0) (ninS nn4 (ninS nn5 nin0)))
            replace A_po := A_po.keep K1 (ninS (Ne.symm nn3) (ninS (Ne.symm nn8) (ninS (Ne.symm nn9) nin0)))
            replace A_b11 := A1
            replace A_de := A2
            replace A_sl := A3
            have err : rr = r0 := by
              simp only [upd, f00] at hfr; repeat' split at hfr
              all_goals first | assumption | exact absurd hfr (by decide)
            rw [err] at A_sl
            have hRn261 : Rw (upd (upd (upd f00 r0 0) r1 1) r0 (-2)) := own_rwu hRn83 (by decide)
            have hNn261 := own_free (f := (upd (upd (upd f00 r0 0) r1 1) r0 (-2))) r0 r1 (fun j _ h0 h1 => by simp [upd, h0, h1])
            show W K l _ n0 _ h260 9 44 183 #[.val (.long xl), .second, .val (.long yl), .second, .val (.long zl), .second, .val (.int fl), .val (.int a), .val (.int b), .val (.int c), .val (.int d), .val (.int e), .val (.int g), .val (.ref b1), .val (.ref b6), .val (.ref b11), .val (.int (0 : Int32)), .val (.int (1 : Int32)), .val (.int (0 : Int32)), .val (.int (fl &&& (3 : Int32))), .unset] []
            refine w_goto ok at_183 (pc' := 204) (by decide) ?_
            refine w_aload ok at_204 rfl rfl ?_
            refine w_iconst ok at_206 (v := (0 : Int32)) rfl ?_
            refine w_iconst ok at_207 (v := (0 : Int32)) rfl ?_
            refine w_callV ok (y := (⟨"com/example/hornconv/hornconv/FactTable", "argument", "(II)I"⟩ : MethodName)) (a := b11) (argsL := [(.int (0 : Int32)), (.int (0 : Int32))]) (rest := []) at_208 (hw _ (List.mem_of_getElem? (i := 61) rfl)) (hw _ (List.mem_of_getElem? (i := 62) rfl)) (hw _ (List.mem_of_getElem? (i := 64) rfl)) (hw _ (List.mem_of_getElem? (i := 63) rfl)) (hw _ (List.mem_of_getElem? (i := 3) rfl)) (hw _ (List.mem_of_getElem? (i := 65) rfl)) (by decide) A_b11.1 pd_28II29I rfl rfl (by decide) (Nat.le_of_ble_eq_true rfl) (by decide) (by decide) (fun z0 => rm_arg00 l Z a0 hw [] n0 h260 z0 b11 un me ag de sl po (2 : Int32) ((((0 : Int32) + 1) + 1) - 1) u1 a b c d e g (0 : Int32) (0 : Int32) (0 : Int32) (0 : Int32) (0 : Int32) (0 : Int32) A_b11 A_ag) (fun v262 h263 qv262 => ?_)
            obtain ⟨rfl, rfl⟩ := qv262
            show W K l _ n0 _ h260 9 44 211 #[.val (.long xl), .second, .val (.long yl), .second, .val (.long zl), .second, .val (.int fl), .val (.int a), .val (.int b), .val (.int c), .val (.int d), .val (.int e), .val (.int g), .val (.ref b1), .val (.ref b6), .val (.ref b11), .val (.int (0 : Int32)), .val (.int (1 : Int32)), .val (.int (0 : Int32)), .val (.int (fl &&& (3 : Int32))), .unset] [(.int a)]
            refine w_iload ok at_211 rfl ?_
            refine w_icmp_ne ok at_213 (pc' := 244) (by decide) (fun hc265 => False.elim (by exact hc265 rfl)) (fun hc265 => ?_)
            show W K l _ n0 _ h260 9 44 216 #[.val (.long xl), .second, .val (.long yl), .second, .val (.long zl), .second, .val (.int fl), .val (.int a), .val (.int b), .val (.int c), .val (.int d), .val (.int e), .val (.int g), .val (.ref b1), .val (.ref b6), .val (.ref b11), .val (.int (0 : Int32)), .val (.int (1 : Int32)), .val (.int (0 : Int32)), .val (.int (fl &&& (3 : Int32))), .unset] []
            refine w_aload ok at_216 rfl rfl ?_
            refine w_iconst ok at_218 (v := (0 : Int32)) rfl ?_
            refine w_iconst ok at_219 (v := (1 : Int32)) rfl ?_
            refine w_callV ok (y := (⟨"com/example/hornconv/hornconv/FactTable", "argument", "(II)I"⟩ : MethodName)) (a := b11) (argsL := [(.int (0 : Int32)), (.int (1 : Int32))]) (rest := []) at_220 (hw _ (List.mem_of_getElem? (i := 61) rfl)) (hw _ (List.mem_of_getElem? (i := 62) rfl)) (hw _ (List.mem_of_getElem? (i := 64) rfl)) (hw _ (List.mem_of_getElem? (i := 63) rfl)) (hw _ (List.mem_of_getElem? (i := 3) rfl)) (hw _ (List.mem_of_getElem? (i := 65) rfl)) (by decide) A_b11.1 pd_28II29I rfl rfl (by decide) (Nat.le_of_ble_eq_true rfl) (by decide) (by decide) (fun z0 => rm_arg01 l Z a0 hw [] n0 h260 z0 b11 un me ag de sl po (2 : Int32) ((((0 : Int32) + 1) + 1) - 1) u1 a b c d e g (0 : Int32) (0 : Int32) (0 : Int32) (0 : Int32) (0 : Int32) (0 : Int32) A_b11 A_ag) (fun v266 h267 qv266 => ?_)
            obtain ⟨rfl, rfl⟩ := qv266
            show W K l _ n0 _ h260 9 44 223 #[.val (.long xl), .second, .val (.long yl), .second, .val (.long zl), .second, .val (.int fl), .val (.int a), .val (.int b), .val (.int c), .val (.int d), .val (.int e), .val (.int g), .val (.ref b1), .val (.ref b6), .val (.ref b11), .val (.int (0 : Int32)), .val (.int (1 : Int32)), .val (.int (0 : Int32)), .val (.int (fl &&& (3 : Int32))), .unset] [(.int b)]
            refine w_iload ok at_223 rfl ?_
            refine w_icmp_ne ok at_225 (pc' := 244) (by decide) (fun hc269 => False.elim (by exact hc269 rfl)) (fun hc269 => ?_)
            show W K l _ n0 _ h260 9 44 228 #[.val (.long xl), .second, .val (.long yl), .second, .val (.long zl), .second, .val (.int fl), .val (.int a), .val (.int b), .val (.int c), .val (.int d), .val (.int e), .val (.int g), .val (.ref b1), .val (.ref b6), .val (.ref b11), .val (.int (0 : Int32)), .val (.int (1 : Int32)), .val (.int (0 : Int32)), .val (.int (fl &&& (3 : Int32))), .unset] []
            refine w_aload ok at_228 rfl rfl ?_
            refine w_iconst ok at_230 (v := (0 : Int32)) rfl ?_
            refine w_iconst ok at_231 (v := (2 : Int32)) rfl ?_
            refine w_callV ok (y := (⟨"com/example/hornconv/hornconv/FactTable", "argument", "(II)I"⟩ : MethodName)) (a := b11) (argsL := [(.int (0 : Int32)), (.int (2 : Int32))]) (rest := []) at_232 (hw _ (List.mem_of_getElem? (i := 61) rfl)) (hw _ (List.mem_of_getElem? (i := 62) rfl)) (hw _ (List.mem_of_getElem? (i := 64) rfl)) (hw _ (List.mem_of_getElem? (i := 63) rfl)) (hw _ (List.mem_of_getElem? (i := 3) rfl)) (hw _ (List.mem_of_getElem? (i := 65) rfl)) (by decide) A_b11.1 pd_28II29I rfl rfl (by decide) (Nat.le_of_ble_eq_true rfl) (by decide) (by decide) (fun z0 => rm_arg02 l Z a0 hw [] n0 h260 z0 b11 un me ag de sl po (2 : Int32) ((((0 : Int32) + 1) + 1) - 1) u1 a b c d e g (0 : Int32) (0 : Int32) (0 : Int32) (0 : Int32) (0 : Int32) (0 : Int32) A_b11 A_ag) (fun v270 h271 qv270 => ?_)
            obtain ⟨rfl, rfl⟩ := qv270
            show W K l _ n0 _ h260 9 44 235 #[.val (.long xl), .second, .val (.long yl), .second, .val (.long zl), .second, .val (.int fl), .val (.int a), .val (.int b), .val (.int c), .val (.int d), .val (.int e), .val (.int g), .val (.ref b1), .val (.ref b6), .val (.ref b11), .val (.int (0 : Int32)), .val (.int (1 : Int32)), .val (.int (0 : Int32)), .val (.int (fl &&& (3 : Int32))), .unset] [(.int c)]
            refine w_iload ok at_235 rfl ?_
            refine w_icmp_ne ok at_237 (pc' := 244) (by decide) (fun hc273 => False.elim (by exact hc273 rfl)) (fun hc273 => ?_)
            show W K l _ n0 _ h260 9 44 240 #[.val (.long xl), .second, .val (.long yl), .second, .val (.long zl), .second, .val (.int fl), .val (.int a), .val (.int b), .val (.int c), .val (.int d), .val (.int e), .val (.int g), .val (.ref b1), .val (.ref b6), .val (.ref b11), .val (.int (0 : Int32)), .val (.int (1 : Int32)), .val (.int (0 : Int32)), .val (.int (fl &&& (3 : Int32))), .unset] []
            refine w_iconst ok at_240 (v := (1 : Int32)) rfl ?_
            refine w_goto ok at_241 (pc' := 245) (by decide) ?_
            refine w_istore ok at_245 (L' := #[.val (.long xl), .second, .val (.long yl), .second, .val (.long zl), .second, .val (.int fl), .val (.int a), .val (.int b), .val (.int c), .val (.int d), .val (.int e), .val (.int g), .val (.ref b1), .val (.ref b6), .val (.ref b11), .val (.int (0 : Int32)), .val (.int (1 : Int32)), .val (.int (0 : Int32)), .val (.int (fl &&& (3 : Int32))), .val (.int (1 : Int32))]) rfl ?_
            refine w_iload ok at_247 rfl ?_
            refine w_iconst ok at_249 (v := (1 : Int32)) rfl ?_
            refine w_icmp_ne ok at_250 (pc' := 301) (by decide) (fun hc275 => False.elim (by revert hc275; decide)) (fun hc275 => ?_)
            show W K l _ n0 _ h260 9 44 253 #[.val (.long xl), .second, .val (.long yl), .second, .val (.long zl), .second, .val (.int fl), .val (.int a), .val (.int b), .val (.int c), .val (.int d), .val (.int e), .val (.int g), .val (.ref b1), .val (.ref b6), .val (.ref b11), .val (.int (0 : Int32)), .val (.int (1 : Int32)), .val (.int (0 : Int32)), .val (.int (fl &&& (3 : Int32))), .val (.int (1 : Int32))] []
            refine w_iload ok at_253 rfl ?_
            refine w_if_eq ok at_255 (pc' := 298) (by decide) (fun hc277 => False.elim (by revert hc277; decide)) (fun hc277 => ?_)
            show W K l _ n0 _ h260 9 44 258 #[.val (.long xl), .second, .val (.long yl), .second, .val (.long zl), .second, .val (.int fl), .val (.int a), .val (.int b), .val (.int c), .val (.int d), .val (.int e), .val (.int g), .val (.ref b1), .val (.ref b6), .val (.ref b11), .val (.int (0 : Int32)), .val (.int (1 : Int32)), .val (.int (0 : Int32)), .val (.int (fl &&& (3 : Int32))), .val (.int (1 : Int32))] []
            refine w_aload ok at_258 rfl rfl ?_
            refine w_iconst ok at_260 (v := (1 : Int32)) rfl ?_
            refine w_iconst ok at_261 (v := (0 : Int32)) rfl ?_
            refine w_callV ok (y := (⟨"com/example/hornconv/hornconv/FactTable", "argument", "(II)I"⟩ : MethodName)) (a := b11) (argsL := [(.int (1 : Int32)), (.int (0 : Int32))]) (rest := []) at_262 (hw _ (List.mem_of_getElem? (i := 61) rfl)) (hw _ (List.mem_of_getElem? (i := 62) rfl)) (hw _ (List.mem_of_getElem? (i := 64) rfl)) (hw _ (List.mem_of_getElem? (i := 63) rfl)) (hw _ (List.mem_of_getElem? (i := 3) rfl)) (hw _ (List.mem_of_getElem? (i := 65) rfl)) (by decide) A_b11.1 pd_28II29I rfl rfl (by decide) (Nat.le_of_ble_eq_true rfl) (by decide) (by decide) (fun z0 => rm_arg10 l Z a0 hw [] n0 h260 z0 b11 un me ag de sl po (2 : Int32) ((((0 : Int32) + 1) + 1) - 1) u1 a b c d e g (0 : Int32) (0 : Int32) (0 : Int32) (0 : Int32) (0 : Int32) (0 : Int32) A_b11 A_ag) (fun v278 h279 qv278 => ?_)
            obtain ⟨rfl, rfl⟩ := qv278
            show W K l _ n0 _ h260 9 44 265 #[.val (.long xl), .second, .val (.long yl), .second, .val (.long zl), .second, .val (.int fl), .val (.int a), .val (.int b), .val (.int c), .val (.int d), .val (.int e), .val (.int g), .val (.ref b1), .val (.ref b6), .val (.ref b11), .val (.int (0 : Int32)), .val (.int (1 : Int32)), .val (.int (0 : Int32)), .val (.int (fl &&& (3 : Int32))), .val (.int (1 : Int32))] [(.int d)]
            refine w_iload ok at_265 rfl ?_
            refine w_icmp_ne ok at_267 (pc' := 298) (by decide) (fun hc281 => False.elim (by exact hc281 rfl)) (fun hc281 => ?_)
            show W K l _ n0 _ h260 9 44 270 #[.val (.long xl), .second, .val (.long yl), .second, .val (.long zl), .second, .val (.int fl), .val (.int a), .val (.int b), .val (.int c), .val (.int d), .val (.int e), .val (.int g), .val (.ref b1), .val (.ref b6), .val (.ref b11), .val (.int (0 : Int32)), .val (.int (1 : Int32)), .val (.int (0 : Int32)), .val (.int (fl &&& (3 : Int32))), .val (.int (1 : Int32))] []
            refine w_aload ok at_270 rfl rfl ?_
            refine w_iconst ok at_272 (v := (1 : Int32)) rfl ?_
            refine w_iconst ok at_273 (v := (1 : Int32)) rfl ?_
            refine w_callV ok (y := (⟨"com/example/hornconv/hornconv/FactTable", "argument", "(II)I"⟩ : MethodName)) (a := b11) (argsL := [(.int (1 : Int32)), (.int (1 : Int32))]) (rest := []) at_274 (hw _ (List.mem_of_getElem? (i := 61) rfl)) (hw _ (List.mem_of_getElem? (i := 62) rfl)) (hw _ (List.mem_of_getElem? (i := 64) rfl)) (hw _ (List.mem_of_getElem? (i := 63) rfl)) (hw _ (List.mem_of_getElem? (i := 3) rfl)) (hw _ (List.mem_of_getElem? (i := 65) rfl)) (by decide) A_b11.1 pd_28II29I rfl rfl (by decide) (Nat.le_of_ble_eq_true rfl) (by decide) (by decide) (fun z0 => rm_arg11 l Z a0 hw [] n0 h260 z0 b11 un me ag de sl po (2 : Int32) ((((0 : Int32) + 1) + 1) - 1) u1 a b c d e g (0 : Int32) (0 : Int32) (0 : Int32) (0 : Int32) (0 : Int32) (0 : Int32) A_b11 A_ag) (fun v282 h283 qv282 => ?_)
            obtain ⟨rfl, rfl⟩ := qv282
            show W K l _ n0 _ h260 9 44 277 #[.val (.long xl), .second, .val (.long yl), .second, .val (.long zl), .second, .val (.int fl), .val (.int a), .val (.int b), .val (.int c), .val (.int d), .val (.int e), .val (.int g), .val (.ref b1), .val (.ref b6), .val (.ref b11), .val (.int (0 : Int32)), .val (.int (1 : Int32)), .val (.int (0 : Int32)), .val (.int (fl &&& (3 : Int32))), .val (.int (1 : Int32))] [(.int e)]
            refine w_iload ok at_277 rfl ?_
            refine w_icmp_ne ok at_279 (pc' := 298) (by decide) (fun hc285 => False.elim (by exact hc285 rfl)) (fun hc285 => ?_)
            show W K l _ n0 _ h260 9 44 282 #[.val (.long xl), .second, .val (.long yl), .second, .val (.long zl), .second, .val (.int fl), .val (.int a), .val (.int b), .val (.int c), .val (.int d), .val (.int e), .val (.int g), .val (.ref b1), .val (.ref b6), .val (.ref b11), .val (.int (0 : Int32)), .val (.int (1 : Int32)), .val (.int (0 : Int32)), .val (.int (fl &&& (3 : Int32))), .val (.int (1 : Int32))] []
            refine w_aload ok at_282 rfl rfl ?_
            refine w_iconst ok at_284 (v := (1 : Int32)) rfl ?_
            refine w_iconst ok at_285 (v := (2 : Int32)) rfl ?_
            refine w_callV ok (y := (⟨"com/example/hornconv/hornconv/FactTable", "argument", "(II)I"⟩ : MethodName)) (a := b11) (argsL := [(.int (1 : Int32)), (.int (2 : Int32))]) (rest := []) at_286 (hw _ (List.mem_of_getElem? (i := 61) rfl)) (hw _ (List.mem_of_getElem? (i := 62) rfl)) (hw _ (List.mem_of_getElem? (i := 64) rfl)) (hw _ (List.mem_of_getElem? (i := 63) rfl)) (hw _ (List.mem_of_getElem? (i := 3) rfl)) (hw _ (List.mem_of_getElem? (i := 65) rfl)) (by decide) A_b11.1 pd_28II29I rfl rfl (by decide) (Nat.le_of_ble_eq_true rfl) (by decide) (by decide) (fun z0 => rm_arg12 l Z a0 hw [] n0 h260 z0 b11 un me ag de sl po (2 : Int32) ((((0 : Int32) + 1) + 1) - 1) u1 a b c d e g (0 : Int32) (0 : Int32) (0 : Int32) (0 : Int32) (0 : Int32) (0 : Int32) A_b11 A_ag) (fun v286 h287 qv286 => ?_)
            obtain ⟨rfl, rfl⟩ := qv286
            show W K l _ n0 _ h260 9 44 289 #[.val (.long xl), .second, .val (.long yl), .second, .val (.long zl), .second, .val (.int fl), .val (.int a), .val (.int b), .val (.int c), .val (.int d), .val (.int e), .val (.int g), .val (.ref b1), .val (.ref b6), .val (.ref b11), .val (.int (0 : Int32)), .val (.int (1 : Int32)), .val (.int (0 : Int32)), .val (.int (fl &&& (3 : Int32))), .val (.int (1 : Int32))] [(.int g)]
            refine w_iload ok at_289 rfl ?_
            refine w_icmp_ne ok at_291 (pc' := 298) (by decide) (fun hc289 => False.elim (by exact hc289 rfl)) (fun hc289 => ?_)
            show W K l _ n0 _ h260 9 44 294 #[.val (.long xl), .second, .val (.long yl), .second, .val (.long zl), .second, .val (.int fl), .val (.int a), .val (.int b), .val (.int c), .val (.int d), .val (.int e), .val (.int g), .val (.ref b1), .val (.ref b6), .val (.ref b11), .val (.int (0 : Int32)), .val (.int (1 : Int32)), .val (.int (0 : Int32)), .val (.int (fl &&& (3 : Int32))), .val (.int (1 : Int32))] []
            refine w_iconst ok at_294 (v := (1 : Int32)) rfl ?_
            refine w_goto ok at_295 (pc' := 299) (by decide) ?_
            refine w_istore ok at_299 (L' := #[.val (.long xl), .second, .val (.long yl), .second, .val (.long zl), .second, .val (.int fl), .val (.int a), .val (.int b), .val (.int c), .val (.int d), .val (.int e), .val (.int g), .val (.ref b1), .val (.ref b6), .val (.ref b11), .val (.int (0 : Int32)), .val (.int (1 : Int32)), .val (.int (0 : Int32)), .val (.int (fl &&& (3 : Int32))), .val (.int (1 : Int32))]) rfl ?_
            refine w_iload ok at_301 rfl ?_
            refine w_bret ok (by simp) at_303 (by decide) (by decide) ?_
            exact rfl
        · show W K l _ n0 _ h19 9 44 130 #[.val (.long xl), .second, .val (.long yl), .second, .val (.long zl), .second, .val (.int fl), .val (.int a), .val (.int b), .val (.int c), .val (.int d), .val (.int e), .val (.int g), .val (.ref b1), .val (.ref b6), .val (.ref b11), .val (.int (0 : Int32)), .val (.int (1 : Int32)), .unset, .unset, .unset] []
          refine w_iload ok at_130 rfl ?_
          refine w_iload ok at_132 rfl ?_
          refine w_icmp_ne ok at_134 (pc' := 141) (by decide) (fun hc291 => ?_) (fun hc291 => False.elim (by exact nsame ⟨hc87, hc189, hc291⟩))
          show W K l _ n0 _ h19 9 44 141 #[.val (.long xl), .second, .val (.long yl), .second, .val (.long zl), .second, .val (.int fl), .val (.int a), .val (.int b), .val (.int c), .val (.int d), .val (.int e), .val (.int g), .val (.ref b1), .val (.ref b6), .val (.ref b11), .val (.int (0 : Int32)), .val (.int (1 : Int32)), .unset, .unset, .unset] []
          refine w_iconst ok at_141 (v := (0 : Int32)) rfl ?_
          refine w_istore ok at_142 (L' := #[.val (.long xl), .second, .val (.long yl), .second, .val (.long zl), .second, .val (.int fl), .val (.int a), .val (.int b), .val (.int c), .val (.int d), .val (.int e), .val (.int g), .val (.ref b1), .val (.ref b6), .val (.ref b11), .val (.int (0 : Int32)), .val (.int (1 : Int32)), .val (.int (0 : Int32)), .unset, .unset]) rfl ?_
          refine w_iload ok at_144 rfl ?_
          refine w_if_eq ok at_146 (pc' := 157) (by decide) (fun hc293 => ?_) (fun hc293 => False.elim (by revert hc293; decide))
          show W K l _ n0 _ h19 9 44 157 #[.val (.long xl), .second, .val (.long yl), .second, .val (.long zl), .second, .val (.int fl), .val (.int a), .val (.int b), .val (.int c), .val (.int d), .val (.int e), .val (.int g), .val (.ref b1), .val (.ref b6), .val (.ref b11), .val (.int (0 : Int32)), .val (.int (1 : Int32)), .val (.int (0 : Int32)), .unset, .unset] []
          refine w_iload ok at_157 rfl ?_
          refine w_iconst ok at_159 (v := (1 : Int32)) rfl ?_
          refine w_icmp_eq ok at_160 (pc' := 165) (by decide) (fun hc295 => ?_) (fun hc295 => False.elim (by revert hc295; decide))
          show W K l _ n0 _ h19 9 44 165 #[.val (.long xl), .second, .val (.long yl), .second, .val (.long zl), .second, .val (.int fl), .val (.int a), .val (.int b), .val (.int c), .val (.int d), .val (.int e), .val (.int g), .val (.ref b1), .val (.ref b6), .val (.ref b11), .val (.int (0 : Int32)), .val (.int (1 : Int32)), .val (.int (0 : Int32)), .unset, .unset] []
          refine w_iload ok at_165 rfl ?_
          refine w_iconst ok at_167 (v := (3 : Int32)) rfl ?_
          refine w_iand ok at_168 ?_
          refine w_istore ok at_169 (L' := #[.val (.long xl), .second, .val (.long yl), .second, .val (.long zl), .second, .val (.int fl), .val (.int a), .val (.int b), .val (.int c), .val (.int d), .val (.int e), .val (.int g), .val (.ref b1), .val (.ref b6), .val (.ref b11), .val (.int (0 : Int32)), .val (.int (1 : Int32)), .val (.int (0 : Int32)), .val (.int (fl &&& (3 : Int32))), .unset]) rfl ?_
          refine w_iload ok at_171 rfl ?_
          refine w_iconst ok at_173 (v := (1 : Int32)) rfl ?_
          refine w_icmp_ne ok at_174 (pc' := 186) (by decide) (fun hc297 => ?_) (fun hc297 => ?_)
          · show W K l _ n0 _ h19 9 44 186 #[.val (.long xl), .second, .val (.long yl), .second, .val (.long zl), .second, .val (.int fl), .val (.int a), .val (.int b), .val (.int c), .val (.int d), .val (.int e), .val (.int g), .val (.ref b1), .val (.ref b6), .val (.ref b11), .val (.int (0 : Int32)), .val (.int (1 : Int32)), .val (.int (0 : Int32)), .val (.int (fl &&& (3 : Int32))), .unset] []
            refine w_iload ok at_186 rfl ?_
            refine w_iconst ok at_188 (v := (2 : Int32)) rfl ?_
            refine w_icmp_ne ok at_189 (pc' := 204) (by decide) (fun hc299 => ?_) (fun hc299 => ?_)
            · show W K l _ n0 _ h19 9 44 204 #[.val (.long xl), .second, .val (.long yl), .second, .val (.long zl), .second, .val (.int fl), .val (.int a), .val (.int b), .val (.int c), .val (.int d), .val (.int e), .val (.int g), .val (.ref b1), .val (.ref b6), .val (.ref b11), .val (.int (0 : Int32)), .val (.int (1 : Int32)), .val (.int (0 : Int32)), .val (.int (fl &&& (3 : Int32))), .unset] []
              refine w_aload ok at_204 rfl rfl ?_
              refine w_iconst ok at_206 (v := (0 : Int32)) rfl ?_
              refine w_iconst ok at_207 (v := (0 : Int32)) rfl ?_
              refine w_callV ok (y := (⟨"com/example/hornconv/hornconv/FactTable", "argument", "(II)I"⟩ : MethodName)) (a := b11) (argsL := [(.int (0 : Int32)), (.int (0 : Int32))]) (rest := []) at_208 (hw _ (List.mem_of_getElem? (i := 61) rfl)) (hw _ (List.mem_of_getElem? (i := 62) rfl)) (hw _ (List.mem_of_getElem? (i := 64) rfl)) (hw _ (List.mem_of_getElem? (i := 63) rfl)) (hw _ (List.mem_of_getElem? (i := 3) rfl)) (hw _ (List.mem_of_getElem? (i := 65) rfl)) (by decide) A_b11.1 pd_28II29I rfl rfl (by decide) (Nat.le_of_ble_eq_true rfl) (by decide) (by decide) (fun z0 => rm_arg00 l Z a0 hw [] n0 h19 z0 b11 un me ag de sl po (2 : Int32) (((0 : Int32) + 1) + 1) u1 a b c d e g (0 : Int32) (0 : Int32) (0 : Int32) (0 : Int32) (0 : Int32) (0 : Int32) A_b11 A_ag) (fun v300 h301 qv300 => ?_)
              obtain ⟨rfl, rfl⟩ := qv300
              show W K l _ n0 _ h19 9 44 211 #[.val (.long xl), .second, .val (.long yl), .second, .val (.long zl), .second, .val (.int fl), .val (.int a), .val (.int b), .val (.int c), .val (.int d), .val (.int e), .val (.int g), .val (.ref b1), .val (.ref b6), .val (.ref b11), .val (.int (0 : Int32)), .val (.int (1 : Int32)), .val (.int (0 : Int32)), .val (.int (fl &&& (3 : Int32))), .unset] [(.int a)]
              refine w_iload ok at_211 rfl ?_
              refine w_icmp_ne ok at_213 (pc' := 244) (by decide) (fun hc303 => False.elim (by exact hc303 rfl)) (fun hc303 => ?_)
              show W K l _ n0 _ h19 9 44 216 #[.val (.long xl), .second, .val (.long yl), .second, .val (.long zl), .second, .val (.int fl), .val (.int a), .val (.int b), .val (.int c), .val (.int d), .val (.int e), .val (.int g), .val (.ref b1), .val (.ref b6), .val (.ref b11), .val (.int (0 : Int32)), .val (.int (1 : Int32)), .val (.int (0 : Int32)), .val (.int (fl &&& (3 : Int32))), .unset] []
              refine w_aload ok at_216 rfl rfl ?_
              refine w_iconst ok at_218 (v := (0 : Int32)) rfl ?_
              refine w_iconst ok at_219 (v := (1 : Int32)) rfl ?_
              refine w_callV ok (y := (⟨"com/example/hornconv/hornconv/FactTable", "argument", "(II)I"⟩ : MethodName)) (a := b11) (argsL := [(.int (0 : Int32)), (.int (1 : Int32))]) (rest := []) at_220 (hw _ (List.mem_of_getElem? (i := 61) rfl)) (hw _ (List.mem_of_getElem? (i := 62) rfl)) (hw _ (List.mem_of_getElem? (i := 64) rfl)) (hw _ (List.mem_of_getElem? (i := 63) rfl)) (hw _ (List.mem_of_getElem? (i := 3) rfl)) (hw _ (List.mem_of_getElem? (i := 65) rfl)) (by decide) A_b11.1 pd_28II29I rfl rfl (by decide) (Nat.le_of_ble_eq_true rfl) (by decide) (by decide) (fun z0 => rm_arg01 l Z a0 hw [] n0 h19 z0 b11 un me ag de sl po (2 : Int32) (((0 : Int32) + 1) + 1) u1 a b c d e g (0 : Int32) (0 : Int32) (0 : Int32) (0 : Int32) (0 : Int32) (0 : Int32) A_b11 A_ag) (fun v304 h305 qv304 => ?_)
              obtain ⟨rfl, rfl⟩ := qv304
              show W K l _ n0 _ h19 9 44 223 #[.val (.long xl), .second, .val (.long yl), .second, .val (.long zl), .second, .val (.int fl), .val (.int a), .val (.int b), .val (.int c), .val (.int d), .val (.int e), .val (.int g), .val (.ref b1), .val (.ref b6), .val (.ref b11), .val (.int (0 : Int32)), .val (.int (1 : Int32)), .val (.int (0 : Int32)), .val (.int (fl &&& (3 : Int32))), .unset] [(.int b)]
              refine w_iload ok at_223 rfl ?_
              refine w_icmp_ne ok at_225 (pc' := 244) (by decide) (fun hc307 => False.elim (by exact hc307 rfl)) (fun hc307 => ?_)
              show W K l _ n0 _ h19 9 44 228 #[.val (.long xl), .second, .val (.long yl), .second, .val (.long zl), .second, .val (.int fl), .val (.int a), .val (.int b), .val (.int c), .val (.int d), .val (.int e), .val (.int g), .val (.ref b1), .val (.ref b6), .val (.ref b11), .val (.int (0 : Int32)), .val (.int (1 : Int32)), .val (.int (0 : Int32)), .val (.int (fl &&& (3 : Int32))), .unset] []
              refine w_aload ok at_228 rfl rfl ?_
              refine w_iconst ok at_230 (v := (0 : Int32)) rfl ?_
              refine w_iconst ok at_231 (v := (2 : Int32)) rfl ?_
              refine w_callV ok (y := (⟨"com/example/hornconv/hornconv/FactTable", "argument", "(II)I"⟩ : MethodName)) (a := b11) (argsL := [(.int (0 : Int32)), (.int (2 : Int32))]) (rest := []) at_232 (hw _ (List.mem_of_getElem? (i := 61) rfl)) (hw _ (List.mem_of_getElem? (i := 62) rfl)) (hw _ (List.mem_of_getElem? (i := 64) rfl)) (hw _ (List.mem_of_getElem? (i := 63) rfl)) (hw _ (List.mem_of_getElem? (i := 3) rfl)) (hw _ (List.mem_of_getElem? (i := 65) rfl)) (by decide) A_b11.1 pd_28II29I rfl rfl (by decide) (Nat.le_of_ble_eq_true rfl) (by decide) (by decide) (fun z0 => rm_arg02 l Z a0 hw [] n0 h19 z0 b11 un me ag de sl po (2 : Int32) (((0 : Int32) + 1) + 1) u1 a b c d e g (0 : Int32) (0 : Int32) (0 : Int32) (0 : Int32) (0 : Int32) (0 : Int32) A_b11 A_ag) (fun v308 h309 qv308 => ?_)
              obtain ⟨rfl, rfl⟩ := qv308
              show W K l _ n0 _ h19 9 44 235 #[.val (.long xl), .second, .val (.long yl), .second, .val (.long zl), .second, .val (.int fl), .val (.int a), .val (.int b), .val (.int c), .val (.int d), .val (.int e), .val (.int g), .val (.ref b1), .val (.ref b6), .val (.ref b11), .val (.int (0 : Int32)), .val (.int (1 : Int32)), .val (.int (0 : Int32)), .val (.int (fl &&& (3 : Int32))), .unset] [(.int c)]
              refine w_iload ok at_235 rfl ?_
              refine w_icmp_ne ok at_237 (pc' := 244) (by decide) (fun hc311 => False.elim (by exact hc311 rfl)) (fun hc311 => ?_)
              show W K l _ n0 _ h19 9 44 240 #[.val (.long xl), .second, .val (.long yl), .second, .val (.long zl), .second, .val (.int fl), .val (.int a), .val (.int b), .val (.int c), .val (.int d), .val (.int e), .val (.int g), .val (.ref b1), .val (.ref b6), .val (.ref b11), .val (.int (0 : Int32)), .val (.int (1 : Int32)), .val (.int (0 : Int32)), .val (.int (fl &&& (3 : Int32))), .unset] []
              refine w_iconst ok at_240 (v := (1 : Int32)) rfl ?_
              refine w_goto ok at_241 (pc' := 245) (by decide) ?_
              refine w_istore ok at_245 (L' := #[.val (.long xl), .second, .val (.long yl), .second, .val (.long zl), .second, .val (.int fl), .val (.int a), .val (.int b), .val (.int c), .val (.int d), .val (.int e), .val (.int g), .val (.ref b1), .val (.ref b6), .val (.ref b11), .val (.int (0 : Int32)), .val (.int (1 : Int32)), .val (.int (0 : Int32)), .val (.int (fl &&& (3 : Int32))), .val (.int (1 : Int32))]) rfl ?_
              refine w_iload ok at_247 rfl ?_
              refine w_iconst ok at_249 (v := (1 : Int32)) rfl ?_
              refine w_icmp_ne ok at_250 (pc' := 301) (by decide) (fun hc313 => False.elim (by revert hc313; decide)) (fun hc313 => ?_)
              show W K l _ n0 _ h19 9 44 253 #[.val (.long xl), .second, .val (.long yl), .second, .val (.long zl), .second, .val (.int fl), .val (.int a), .val (.int b), .val (.int c), .val (.int d), .val (.int e), .val (.int g), .val (.ref b1), .val (.ref b6), .val (.ref b11), .val (.int (0 : Int32)), .val (.int (1 : Int32)), .val (.int (0 : Int32)), .val (.int (fl &&& (3 : Int32))), .val (.int (1 : Int32))] []
              refine w_iload ok at_253 rfl ?_
              refine w_if_eq ok at_255 (pc' := 298) (by decide) (fun hc315 => False.elim (by revert hc315; decide)) (fun hc315 => ?_)
              show W K l _ n0 _ h19 9 44 258 #[.val (.long xl), .second, .val (.long yl), .second, .val (.long zl), .second, .val (.int fl), .val (.int a), .val (.int b), .val (.int c), .val (.int d), .val (.int e), .val (.int g), .val (.ref b1), .val (.ref b6), .val (.ref b11), .val (.int (0 : Int32)), .val (.int (1 : Int32)), .val (.int (0 : Int32)), .val (.int (fl &&& (3 : Int32))), .val (.int (1 : Int32))] []
              refine w_aload ok at_258 rfl rfl ?_
              refine w_iconst ok at_260 (v := (1 : Int32)) rfl ?_
              refine w_iconst ok at_261 (v := (0 : Int32)) rfl ?_
              refine w_callV ok (y := (⟨"com/example/hornconv/hornconv/FactTable", "argument", "(II)I"⟩ : MethodName)) (a := b11) (argsL := [(.int (1 : Int32)), (.int (0 : Int32))]) (rest := []) at_262 (hw _ (List.mem_of_getElem? (i := 61) rfl)) (hw _ (List.mem_of_getElem? (i := 62) rfl)) (hw _ (List.mem_of_getElem? (i := 64) rfl)) (hw _ (List.mem_of_getElem? (i := 63) rfl)) (hw _ (List.mem_of_getElem? (i := 3) rfl)) (hw _ (List.mem_of_getElem? (i := 65) rfl)) (by decide) A_b11.1 pd_28II29I rfl rfl (by decide) (Nat.le_of_ble_eq_true rfl) (by decide) (by decide) (fun z0 => rm_arg10 l Z a0 hw [] n0 h19 z0 b11 un me ag de sl po (2 : Int32) (((0 : Int32) + 1) + 1) u1 a b c d e g (0 : Int32) (0 : Int32) (0 : Int32) (0 : Int32) (0 : Int32) (0 : Int32) A_b11 A_ag) (fun v316 h317 qv316 => ?_)
              obtain ⟨rfl, rfl⟩ := qv316
              show W K l _ n0 _ h19 9 44 265 #[.val (.long xl), .second, .val (.long yl), .second, .val (.long zl), .second, .val (.int fl), .val (.int a), .val (.int b), .val (.int c), .val (.int d), .val (.int e), .val (.int g), .val (.ref b1), .val (.ref b6), .val (.ref b11), .val (.int (0 : Int32)), .val (.int (1 : Int32)), .val (.int (0 : Int32)), .val (.int (fl &&& (3 : Int32))), .val (.int (1 : Int32))] [(.int d)]
              refine w_iload ok at_265 rfl ?_
              refine w_icmp_ne ok at_267 (pc' := 298) (by decide) (fun hc319 => False.elim (by exact hc319 rfl)) (fun hc319 => ?_)
              show W K l _ n0 _ h19 9 44 270 #[.val (.long xl), .second, .val (.long yl), .second, .val (.long zl), .second, .val (.int fl), .val (.int a), .val (.int b), .val (.int c), .val (.int d), .val (.int e), .val (.int g), .val (.ref b1), .val (.ref b6), .val (.ref b11), .val (.int (0 : Int32)), .val (.int (1 : Int32)), .val (.int (0 : Int32)), .val (.int (fl &&& (3 : Int32))), .val (.int (1 : Int32))] []
              refine w_aload ok at_270 rfl rfl ?_
              refine w_iconst ok at_272 (v := (1 : Int32)) rfl ?_
              refine w_iconst ok at_273 (v := (1 : Int32)) rfl ?_
              refine w_callV ok (y := (⟨"com/example/hornconv/hornconv/FactTable", "argument", "(II)I"⟩ : MethodName)) (a := b11) (argsL := [(.int (1 : Int32)), (.int (1 : Int32))]) (rest := []) at_274 (hw _ (List.mem_of_getElem? (i := 61) rfl)) (hw _ (List.mem_of_getElem? (i := 62) rfl)) (hw _ (List.mem_of_getElem? (i := 64) rfl)) (hw _ (List.mem_of_getElem? (i := 63) rfl)) (hw _ (List.mem_of_getElem? (i := 3) rfl)) (hw _ (List.mem_of_getElem? (i := 65) rfl)) (by decide) A_b11.1 pd_28II29I rfl rfl (by decide) (Nat.le_of_ble_eq_true rfl) (by decide) (by decide) (fun z0 => rm_arg11 l Z a0 hw [] n0 h19 z0 b11 un me ag de sl po (2 : Int32) (((0 : Int32) + 1) + 1) u1 a b c d e g (0 : Int32) (0 : Int32) (0 : Int32) (0 : Int32) (0 : Int32) (0 : Int32) A_b11 A_ag) (fun v320 h321 qv320 => ?_)
              obtain ⟨rfl, rfl⟩ := qv320
              show W K l _ n0 _ h19 9 44 277 #[.val (.long xl), .second, .val (.long yl), .second, .val (.long zl), .second, .val (.int fl), .val (.int a), .val (.int b), .val (.int c), .val (.int d), .val (.int e), .val (.int g), .val (.ref b1), .val (.ref b6), .val (.ref b11), .val (.int (0 : Int32)), .val (.int (1 : Int32)), .val (.int (0 : Int32)), .val (.int (fl &&& (3 : Int32))), .val (.int (1 : Int32))] [(.int e)]
              refine w_iload ok at_277 rfl ?_
              refine w_icmp_ne ok at_279 (pc' := 298) (by decide) (fun hc323 => False.elim (by exact hc323 rfl)) (fun hc323 => ?_)
              show W K l _ n0 _ h19 9 44 282 #[.val (.long xl), .second, .val (.long yl), .second, .val (.long zl), .second, .val (.int fl), .val (.int a), .val (.int b), .val (.int c), .val (.int d), .val (.int e), .val (.int g), .val (.ref b1), .val (.ref b6), .val (.ref b11), .val (.int (0 : Int32)), .val (.int (1 : Int32)), .val (.int (0 : Int32)), .val (.int (fl &&& (3 : Int32))), .val (.int (1 : Int32))] []
              refine w_aload ok at_282 rfl rfl ?_
              refine w_iconst ok at_284 (v := (1 : Int32)) rfl ?_
              refine w_iconst ok at_285 (v := (2 : Int32)) rfl ?_
              refine w_callV ok (y := (⟨"com/example/hornconv/hornconv/FactTable", "argument", "(II)I"⟩ : MethodName)) (a := b11) (argsL := [(.int (1 : Int32)), (.int (2 : Int32))]) (rest := []) at_286 (hw _ (List.mem_of_getElem? (i := 61) rfl)) (hw _ (List.mem_of_getElem? (i := 62) rfl)) (hw _ (List.mem_of_getElem? (i := 64) rfl)) (hw _ (List.mem_of_getElem? (i := 63) rfl)) (hw _ (List.mem_of_getElem? (i := 3) rfl)) (hw _ (List.mem_of_getElem? (i := 65) rfl)) (by decide) A_b11.1 pd_28II29I rfl rfl (by decide) (Nat.le_of_ble_eq_true rfl) (by decide) (by decide) (fun z0 => rm_arg12 l Z a0 hw [] n0 h19 z0 b11 un me ag de sl po (2 : Int32) (((0 : Int32) + 1) + 1) u1 a b c d e g (0 : Int32) (0 : Int32) (0 : Int32) (0 : Int32) (0 : Int32) (0 : Int32) A_b11 A_ag) (fun v324 h325 qv324 => ?_)
              obtain ⟨rfl, rfl⟩ := qv324
              show W K l _ n0 _ h19 9 44 289 #[.val (.long xl), .second, .val (.long yl), .second, .val (.long zl), .second, .val (.int fl), .val (.int a), .val (.int b), .val (.int c), .val (.int d), .val (.int e), .val (.int g), .val (.ref b1), .val (.ref b6), .val (.ref b11), .val (.int (0 : Int32)), .val (.int (1 : Int32)), .val (.int (0 : Int32)), .val (.int (fl &&& (3 : Int32))), .val (.int (1 : Int32))] [(.int g)]
              refine w_iload ok at_289 rfl ?_
              refine w_icmp_ne ok at_291 (pc' := 298) (by decide) (fun hc327 => False.elim (by exact hc327 rfl)) (fun hc327 => ?_)
              show W K l _ n0 _ h19 9 44 294 #[.val (.long xl), .second, .val (.long yl), .second, .val (.long zl), .second, .val (.int fl), .val (.int a), .val (.int b), .val (.int c), .val (.int d), .val (.int e), .val (.int g), .val (.ref b1), .val (.ref b6), .val (.ref b11), .val (.int (0 : Int32)), .val (.int (1 : Int32)), .val (.int (0 : Int32)), .val (.int (fl &&& (3 : Int32))), .val (.int (1 : Int32))] []
              refine w_iconst ok at_294 (v := (1 : Int32)) rfl ?_
              refine w_goto ok at_295 (pc' := 299) (by decide) ?_
              refine w_istore ok at_299 (L' := #[.val (.long xl), .second, .val (.long yl), .second, .val (.long zl), .second, .val (.int fl), .val (.int a), .val (.int b), .val (.int c), .val (.int d), .val (.int e), .val (.int g), .val (.ref b1), .val (.ref b6), .val (.ref b11), .val (.int (0 : Int32)), .val (.int (1 : Int32)), .val (.int (0 : Int32)), .val (.int (fl &&& (3 : Int32))), .val (.int (1 : Int32))]) rfl ?_
              refine w_iload ok at_301 rfl ?_
              refine w_bret ok (by simp) at_303 (by decide) (by decide) ?_
              exact rfl
            · show W K l _ n0 _ h19 9 44 192 #[.val (.long xl), .second, .val (.long yl), .second, .val (.long zl), .second, .val (.int fl), .val (.int a), .val (.int b), .val (.int c), .val (.int d), .val (.int e), .val (.int g), .val (.ref b1), .val (.ref b6), .val (.ref b11), .val (.int (0 : Int32)), .val (.int (1 : Int32)), .val (.int (0 : Int32)), .val (.int (fl &&& (3 : Int32))), .unset] []
              refine w_iload ok at_192 rfl ?_
              refine w_iconst ok at_194 (v := (1 : Int32)) rfl ?_
              refine w_icmp_ne ok at_195 (pc' := 204) (by decide) (fun hc329 => False.elim (by revert hc329; decide)) (fun hc329 => ?_)
              show W K l _ n0 _ h19 9 44 198 #[.val (.long xl), .second, .val (.long yl), .second, .val (.long zl), .second, .val (.int fl), .val (.int a), .val (.int b), .val (.int c), .val (.int d), .val (.int e), .val (.int g), .val (.ref b1), .val (.ref b6), .val (.ref b11), .val (.int (0 : Int32)), .val (.int (1 : Int32)), .val (.int (0 : Int32)), .val (.int (fl &&& (3 : Int32))), .unset] []
              refine w_aload ok at_198 rfl rfl ?_
              refine w_iconst ok at_200 (v := (1 : Int32)) rfl ?_
              refine w_callV ok (y := (⟨"com/example/hornconv/hornconv/FactTable", "remove", "(I)V"⟩ : MethodName)) (a := b11) (argsL := [(.int (1 : Int32))]) (rest := []) at_201 (hw _ (List.mem_of_getElem? (i := 56) rfl)) (hw _ (List.mem_of_getElem? (i := 57) rfl)) (hw _ (List.mem_of_getElem? (i := 59) rfl)) (hw _ (List.mem_of_getElem? (i := 58) rfl)) (hw _ (List.mem_of_getElem? (i := 3) rfl)) (hw _ (List.mem_of_getElem? (i := 60) rfl)) (by decide) A_b11.1 pd_28I29V rfl rfl (by decide) (Nat.le_of_ble_eq_true rfl) (by decide) (by decide) (fun z0 => rm_rm1 l Z a0 hw [] n0 h19 z0 b11 un me ag de sl po (2 : Int32) (((0 : Int32) + 1) + 1) u1 a b c d e g (0 : Int32) (0 : Int32) (0 : Int32) (0 : Int32) (0 : Int32) (0 : Int32) (0 : Int32) (0 : Int32) (0 : Int32) (0 : Int32) (upd (upd f00 r0 0) r1 1) A_b11 A_ag A_de A_sl A_po ge_b11 g2 g3 nn0 nn1 nn2 nn3 nn4 nn5 nn6 nn7 nn9 nn8 ⟨i1, by rw [← hr1]; simp [upd, ne10]⟩) (fun v330 h331 qv330 => ?_)
              obtain ⟨rfl, rr, h8_rr, hfr, K1, A1, A2, A3⟩ := qv330
              replace A_b1 := A_b1.keep K1 (ninS ne_b1_b11 (ninS ne_b1_de (ninS ne_b1_sl nin0)))
              replace A_b6 := A_b6.keep K1 (ninS ne_b6_b11 (ninS ne_b6_de (ninS ne_b6_sl nin0)))
              replace A_ag := A_ag.keep K1 (ninS (Ne.symm nn0) (ninS nn4 (ninS nn5 nin0)))
              replace A_po := A_po.keep K1 (ninS (Ne.symm nn3) (ninS (Ne.symm nn8) (ninS (Ne.symm nn9) nin0)))
              replace A_b11 := A1
              replace A_de := A2
              replace A_sl := A3
              have err : rr = r1 := by
                simp only [upd, f00] at hfr; repeat' split at hfr
                all_goals first | assumption | exact absurd hfr (by decide)
              rw [err] at A_sl
              have hRn332 : Rw (upd (upd (upd f00 r0 0) r1 1) r1 (-2)) := own_rwu hRn83 (by decide)
              have hNn332 := own_free (f := (upd (upd (upd f00 r0 0) r1 1) r1 (-2))) r0 r1 (fun j _ h0 h1 => by simp [upd, h0, h1])
              show W K l _ n0 _ h331 9 44 204 #[.val (.long xl), .second, .val (.long yl), .second, .val (.long zl), .second, .val (.int fl), .val (.int a), .val (.int b), .val (.int c), .val (.int d), .val (.int e), .val (.int g), .val (.ref b1), .val (.ref b6), .val (.ref b11), .val (.int (0 : Int32)), .val (.int (1 : Int32)), .val (.int (0 : Int32)), .val (.int (fl &&& (3 : Int32))), .unset] []
              refine w_aload ok at_204 rfl rfl ?_
              refine w_iconst ok at_206 (v := (0 : Int32)) rfl ?_
              refine w_iconst ok at_207 (v := (0 : Int32)) rfl ?_
              refine w_callV ok (y := (⟨"com/example/hornconv/hornconv/FactTable", "argument", "(II)I"⟩ : MethodName)) (a := b11) (argsL := [(.int (0 : Int32)), (.int (0 : Int32))]) (rest := []) at_208 (hw _ (List.mem_of_getElem? (i := 61) rfl)) (hw _ (List.mem_of_getElem? (i := 62) rfl)) (hw _ (List.mem_of_getElem? (i := 64) rfl)) (hw _ (List.mem_of_getElem? (i := 63) rfl)) (hw _ (List.mem_of_getElem? (i := 3) rfl)) (hw _ (List.mem_of_getElem? (i := 65) rfl)) (by decide) A_b11.1 pd_28II29I rfl rfl (by decide) (Nat.le_of_ble_eq_true rfl) (by decide) (by decide) (fun z0 => rm_arg00 l Z a0 hw [] n0 h331 z0 b11 un me ag de sl po (2 : Int32) ((((0 : Int32) + 1) + 1) - 1) u1 a b c d e g (0 : Int32) (0 : Int32) (0 : Int32) (0 : Int32) (0 : Int32) (0 : Int32) A_b11 A_ag) (fun v333 h334 qv333 => ?_)
              obtain ⟨rfl, rfl⟩ := qv333
              show W K l _ n0 _ h331 9 44 211 #[.val (.long xl), .second, .val (.long yl), .second, .val (.long zl), .second, .val (.int fl), .val (.int a), .val (.int b), .val (.int c), .val (.int d), .val (.int e), .val (.int g), .val (.ref b1), .val (.ref b6), .val (.ref b11), .val (.int (0 : Int32)), .val (.int (1 : Int32)), .val (.int (0 : Int32)), .val (.int (fl &&& (3 : Int32))), .unset] [(.int a)]
              refine w_iload ok at_211 rfl ?_
              refine w_icmp_ne ok at_213 (pc' := 244) (by decide) (fun hc336 => False.elim (by exact hc336 rfl)) (fun hc336 => ?_)
              show W K l _ n0 _ h331 9 44 216 #[.val (.long xl), .second, .val (.long yl), .second, .val (.long zl), .second, .val (.int fl), .val (.int a), .val (.int b), .val (.int c), .val (.int d), .val (.int e), .val (.int g), .val (.ref b1), .val (.ref b6), .val (.ref b11), .val (.int (0 : Int32)), .val (.int (1 : Int32)), .val (.int (0 : Int32)), .val (.int (fl &&& (3 : Int32))), .unset] []
              refine w_aload ok at_216 rfl rfl ?_
              refine w_iconst ok at_218 (v := (0 : Int32)) rfl ?_
              refine w_iconst ok at_219 (v := (1 : Int32)) rfl ?_
              refine w_callV ok (y := (⟨"com/example/hornconv/hornconv/FactTable", "argument", "(II)I"⟩ : MethodName)) (a := b11) (argsL := [(.int (0 : Int32)), (.int (1 : Int32))]) (rest := []) at_220 (hw _ (List.mem_of_getElem? (i := 61) rfl)) (hw _ (List.mem_of_getElem? (i := 62) rfl)) (hw _ (List.mem_of_getElem? (i := 64) rfl)) (hw _ (List.mem_of_getElem? (i := 63) rfl)) (hw _ (List.mem_of_getElem? (i := 3) rfl)) (hw _ (List.mem_of_getElem? (i := 65) rfl)) (by decide) A_b11.1 pd_28II29I rfl rfl (by decide) (Nat.le_of_ble_eq_true rfl) (by decide) (by decide) (fun z0 => rm_arg01 l Z a0 hw [] n0 h331 z0 b11 un me ag de sl po (2 : Int32) ((((0 : Int32) + 1) + 1) - 1) u1 a b c d e g (0 : Int32) (0 : Int32) (0 : Int32) (0 : Int32) (0 : Int32) (0 : Int32) A_b11 A_ag) (fun v337 h338 qv337 => ?_)
              obtain ⟨rfl, rfl⟩ := qv337
              show W K l _ n0 _ h331 9 44 223 #[.val (.long xl), .second, .val (.long yl), .second, .val (.long zl), .second, .val (.int fl), .val (.int a), .val (.int b), .val (.int c), .val (.int d), .val (.int e), .val (.int g), .val (.ref b1), .val (.ref b6), .val (.ref b11), .val (.int (0 : Int32)), .val (.int (1 : Int32)), .val (.int (0 : Int32)), .val (.int (fl &&& (3 : Int32))), .unset] [(.int b)]
              refine w_iload ok at_223 rfl ?_
              refine w_icmp_ne ok at_225 (pc' := 244) (by decide) (fun hc340 => False.elim (by exact hc340 rfl)) (fun hc340 => ?_)
              show W K l _ n0 _ h331 9 44 228 #[.val (.long xl), .second, .val (.long yl), .second, .val (.long zl), .second, .val (.int fl), .val (.int a), .val (.int b), .val (.int c), .val (.int d), .val (.int e), .val (.int g), .val (.ref b1), .val (.ref b6), .val (.ref b11), .val (.int (0 : Int32)), .val (.int (1 : Int32)), .val (.int (0 : Int32)), .val (.int (fl &&& (3 : Int32))), .unset] []
              refine w_aload ok at_228 rfl rfl ?_
              refine w_iconst ok at_230 (v := (0 : Int32)) rfl ?_
              refine w_iconst ok at_231 (v := (2 : Int32)) rfl ?_
              refine w_callV ok (y := (⟨"com/example/hornconv/hornconv/FactTable", "argument", "(II)I"⟩ : MethodName)) (a := b11) (argsL := [(.int (0 : Int32)), (.int (2 : Int32))]) (rest := []) at_232 (hw _ (List.mem_of_getElem? (i := 61) rfl)) (hw _ (List.mem_of_getElem? (i := 62) rfl)) (hw _ (List.mem_of_getElem? (i := 64) rfl)) (hw _ (List.mem_of_getElem? (i := 63) rfl)) (hw _ (List.mem_of_getElem? (i := 3) rfl)) (hw _ (List.mem_of_getElem? (i := 65) rfl)) (by decide) A_b11.1 pd_28II29I rfl rfl (by decide) (Nat.le_of_ble_eq_true rfl) (by decide) (by decide) (fun z0 => rm_arg02 l Z a0 hw [] n0 h331 z0 b11 un me ag de sl po (2 : Int32) ((((0 : Int32) + 1) + 1) - 1) u1 a b c d e g (0 : Int32) (0 : Int32) (0 : Int32) (0 : Int32) (0 : Int32) (0 : Int32) A_b11 A_ag) (fun v341 h342 qv341 => ?_)
              obtain ⟨rfl, rfl⟩ := qv341
              show W K l _ n0 _ h331 9 44 235 #[.val (.long xl), .second, .val (.long yl), .second, .val (.long zl), .second, .val (.int fl), .val (.int a), .val (.int b), .val (.int c), .val (.int d), .val (.int e), .val (.int g), .val (.ref b1), .val (.ref b6), .val (.ref b11), .val (.int (0 : Int32)), .val (.int (1 : Int32)), .val (.int (0 : Int32)), .val (.int (fl &&& (3 : Int32))), .unset] [(.int c)]
              refine w_iload ok at_235 rfl ?_
              refine w_icmp_ne ok at_237 (pc' := 244) (by decide) (fun hc344 => False.elim (by exact hc344 rfl)) (fun hc344 => ?_)
              show W K l _ n0 _ h331 9 44 240 #[.val (.long xl), .second, .val (.long yl), .second, .val (.long zl), .second, .val (.int fl), .val (.int a), .val (.int b), .val (.int c), .val (.int d), .val (.int e), .val (.int g), .val (.ref b1), .val (.ref b6), .val (.ref b11), .val (.int (0 : Int32)), .val (.int (1 : Int32)), .val (.int (0 : Int32)), .val (.int (fl &&& (3 : Int32))), .unset] []
              refine w_iconst ok at_240 (v := (1 : Int32)) rfl ?_
              refine w_goto ok at_241 (pc' := 245) (by decide) ?_
              refine w_istore ok at_245 (L' := #[.val (.long xl), .second, .val (.long yl), .second, .val (.long zl), .second, .val (.int fl), .val (.int a), .val (.int b), .val (.int c), .val (.int d), .val (.int e), .val (.int g), .val (.ref b1), .val (.ref b6), .val (.ref b11), .val (.int (0 : Int32)), .val (.int (1 : Int32)), .val (.int (0 : Int32)), .val (.int (fl &&& (3 : Int32))), .val (.int (1 : Int32))]) rfl ?_
              refine w_iload ok at_247 rfl ?_
              refine w_iconst ok at_249 (v := (1 : Int32)) rfl ?_
              refine w_icmp_ne ok at_250 (pc' := 301) (by decide) (fun hc346 => False.elim (by revert hc346; decide)) (fun hc346 => ?_)
              show W K l _ n0 _ h331 9 44 253 #[.val (.long xl), .second, .val (.long yl), .second, .val (.long zl), .second, .val (.int fl), .val (.int a), .val (.int b), .val (.int c), .val (.int d), .val (.int e), .val (.int g), .val (.ref b1), .val (.ref b6), .val (.ref b11), .val (.int (0 : Int32)), .val (.int (1 : Int32)), .val (.int (0 : Int32)), .val (.int (fl &&& (3 : Int32))), .val (.int (1 : Int32))] []
              refine w_iload ok at_253 rfl ?_
              refine w_if_eq ok at_255 (pc' := 298) (by decide) (fun hc348 => False.elim (by revert hc348; decide)) (fun hc348 => ?_)
              show W K l _ n0 _ h331 9 44 258 #[.val (.long xl), .second, .val (.long yl), .second, .val (.long zl), .second, .val (.int fl), .val (.int a), .val (.int b), .val (.int c), .val (.int d), .val (.int e), .val (.int g), .val (.ref b1), .val (.ref b6), .val (.ref b11), .val (.int (0 : Int32)), .val (.int (1 : Int32)), .val (.int (0 : Int32)), .val (.int (fl &&& (3 : Int32))), .val (.int (1 : Int32))] []
              refine w_aload ok at_258 rfl rfl ?_
              refine w_iconst ok at_260 (v := (1 : Int32)) rfl ?_
              refine w_iconst ok at_261 (v := (0 : Int32)) rfl ?_
              refine w_callV ok (y := (⟨"com/example/hornconv/hornconv/FactTable", "argument", "(II)I"⟩ : MethodName)) (a := b11) (argsL := [(.int (1 : Int32)), (.int (0 : Int32))]) (rest := []) at_262 (hw _ (List.mem_of_getElem? (i := 61) rfl)) (hw _ (List.mem_of_getElem? (i := 62) rfl)) (hw _ (List.mem_of_getElem? (i := 64) rfl)) (hw _ (List.mem_of_getElem? (i := 63) rfl)) (hw _ (List.mem_of_getElem? (i := 3) rfl)) (hw _ (List.mem_of_getElem? (i := 65) rfl)) (by decide) A_b11.1 pd_28II29I rfl rfl (by decide) (Nat.le_of_ble_eq_true rfl) (by decide) (by decide) (fun z0 => rm_arg10 l Z a0 hw [] n0 h331 z0 b11 un me ag de sl po (2 : Int32) ((((0 : Int32) + 1) + 1) - 1) u1 a b c d e g (0 : Int32) (0 : Int32) (0 : Int32) (0 : Int32) (0 : Int32) (0 : Int32) A_b11 A_ag) (fun v349 h350 qv349 => ?_)
              obtain ⟨rfl, rfl⟩ := qv349
              show W K l _ n0 _ h331 9 44 265 #[.val (.long xl), .second, .val (.long yl), .second, .val (.long zl), .second, .val (.int fl), .val (.int a), .val (.int b), .val (.int c), .val (.int d), .val (.int e), .val (.int g), .val (.ref b1), .val (.ref b6), .val (.ref b11), .val (.int (0 : Int32)), .val (.int (1 : Int32)), .val (.int (0 : Int32)), .val (.int (fl &&& (3 : Int32))), .val (.int (1 : Int32))] [(.int d)]
              refine w_iload ok at_265 rfl ?_
              refine w_icmp_ne ok at_267 (pc' := 298) (by decide) (fun hc352 => False.elim (by exact hc352 rfl)) (fun hc352 => ?_)
              show W K l _ n0 _ h331 9 44 270 #[.val (.long xl), .second, .val (.long yl), .second, .val (.long zl), .second, .val (.int fl), .val (.int a), .val (.int b), .val (.int c), .val (.int d), .val (.int e), .val (.int g), .val (.ref b1), .val (.ref b6), .val (.ref b11), .val (.int (0 : Int32)), .val (.int (1 : Int32)), .val (.int (0 : Int32)), .val (.int (fl &&& (3 : Int32))), .val (.int (1 : Int32))] []
              refine w_aload ok at_270 rfl rfl ?_
              refine w_iconst ok at_272 (v := (1 : Int32)) rfl ?_
              refine w_iconst ok at_273 (v := (1 : Int32)) rfl ?_
              refine w_callV ok (y := (⟨"com/example/hornconv/hornconv/FactTable", "argument", "(II)I"⟩ : MethodName)) (a := b11) (argsL := [(.int (1 : Int32)), (.int (1 : Int32))]) (rest := []) at_274 (hw _ (List.mem_of_getElem? (i := 61) rfl)) (hw _ (List.mem_of_getElem? (i := 62) rfl)) (hw _ (List.mem_of_getElem? (i := 64) rfl)) (hw _ (List.mem_of_getElem? (i := 63) rfl)) (hw _ (List.mem_of_getElem? (i := 3) rfl)) (hw _ (List.mem_of_getElem? (i := 65) rfl)) (by decide) A_b11.1 pd_28II29I rfl rfl (by decide) (Nat.le_of_ble_eq_true rfl) (by decide) (by decide) (fun z0 => rm_arg11 l Z a0 hw [] n0 h331 z0 b11 un me ag de sl po (2 : Int32) ((((0 : Int32) + 1) + 1) - 1) u1 a b c d e g (0 : Int32) (0 : Int32) (0 : Int32) (0 : Int32) (0 : Int32) (0 : Int32) A_b11 A_ag) (fun v353 h354 qv353 => ?_)
              obtain ⟨rfl, rfl⟩ := qv353
              show W K l _ n0 _ h331 9 44 277 #[.val (.long xl), .second, .val (.long yl), .second, .val (.long zl), .second, .val (.int fl), .val (.int a), .val (.int b), .val (.int c), .val (.int d), .val (.int e), .val (.int g), .val (.ref b1), .val (.ref b6), .val (.ref b11), .val (.int (0 : Int32)), .val (.int (1 : Int32)), .val (.int (0 : Int32)), .val (.int (fl &&& (3 : Int32))), .val (.int (1 : Int32))] [(.int e)]
              refine w_iload ok at_277 rfl ?_
              refine w_icmp_ne ok at_279 (pc' := 298) (by decide) (fun hc356 => False.elim (by exact hc356 rfl)) (fun hc356 => ?_)
              show W K l _ n0 _ h331 9 44 282 #[.val (.long xl), .second, .val (.long yl), .second, .val (.long zl), .second, .val (.int fl), .val (.int a), .val (.int b), .val (.int c), .val (.int d), .val (.int e), .val (.int g), .val (.ref b1), .val (.ref b6), .val (.ref b11), .val (.int (0 : Int32)), .val (.int (1 : Int32)), .val (.int (0 : Int32)), .val (.int (fl &&& (3 : Int32))), .val (.int (1 : Int32))] []
              refine w_aload ok at_282 rfl rfl ?_
              refine w_iconst ok at_284 (v := (1 : Int32)) rfl ?_
              refine w_iconst ok at_285 (v := (2 : Int32)) rfl ?_
              refine w_callV ok (y := (⟨"com/example/hornconv/hornconv/FactTable", "argument", "(II)I"⟩ : MethodName)) (a := b11) (argsL := [(.int (1 : Int32)), (.int (2 : Int32))]) (rest := []) at_286 (hw _ (List.mem_of_getElem? (i := 61) rfl)) (hw _ (List.mem_of_getElem? (i := 62) rfl)) (hw _ (List.mem_of_getElem? (i := 64) rfl)) (hw _ (List.mem_of_getElem? (i := 63) rfl)) (hw _ (List.mem_of_getElem? (i := 3) rfl)) (hw _ (List.mem_of_getElem? (i := 65) rfl)) (by decide) A_b11.1 pd_28II29I rfl rfl (by decide) (Nat.le_of_ble_eq_true rfl) (by decide) (by decide) (fun z0 => rm_arg12 l Z a0 hw [] n0 h331 z0 b11 un me ag de sl po (2 : Int32) ((((0 : Int32) + 1) + 1) - 1) u1 a b c d e g (0 : Int32) (0 : Int32) (0 : Int32) (0 : Int32) (0 : Int32) (0 : Int32) A_b11 A_ag) (fun v357 h358 qv357 => ?_)
              obtain ⟨rfl, rfl⟩ := qv357
              show W K l _ n0 _ h331 9 44 289 #[.val (.long xl), .second, .val (.long yl), .second, .val (.long zl), .second, .val (.int fl), .val (.int a), .val (.int b), .val (.int c), .val (.int d), .val (.int e), .val (.int g), .val (.ref b1), .val (.ref b6), .val (.ref b11), .val (.int (0 : Int32)), .val (.int (1 : Int32)), .val (.int (0 : Int32)), .val (.int (fl &&& (3 : Int32))), .val (.int (1 : Int32))] [(.int g)]
              refine w_iload ok at_289 rfl ?_
              refine w_icmp_ne ok at_291 (pc' := 298) (by decide) (fun hc360 => False.elim (by exact hc360 rfl)) (fun hc360 => ?_)
              show W K l _ n0 _ h331 9 44 294 #[.val (.long xl), .second, .val (.long yl), .second, .val (.long zl), .second, .val (.int fl), .val (.int a), .val (.int b), .val (.int c), .val (.int d), .val (.int e), .val (.int g), .val (.ref b1), .val (.ref b6), .val (.ref b11), .val (.int (0 : Int32)), .val (.int (1 : Int32)), .val (.int (0 : Int32)), .val (.int (fl &&& (3 : Int32))), .val (.int (1 : Int32))] []
              refine w_iconst ok at_294 (v := (1 : Int32)) rfl ?_
              refine w_goto ok at_295 (pc' := 299) (by decide) ?_
              refine w_istore ok at_299 (L' := #[.val (.long xl), .second, .val (.long yl), .second, .val (.long zl), .second, .val (.int fl), .val (.int a), .val (.int b), .val (.int c), .val (.int d), .val (.int e), .val (.int g), .val (.ref b1), .val (.ref b6), .val (.ref b11), .val (.int (0 : Int32)), .val (.int (1 : Int32)), .val (.int (0 : Int32)), .val (.int (fl &&& (3 : Int32))), .val (.int (1 : Int32))]) rfl ?_
              refine w_iload ok at_301 rfl ?_
              refine w_bret ok (by simp) at_303 (by decide) (by decide) ?_
              exact rfl
          · show W K l _ n0 _ h19 9 44 177 #[.val (.long xl), .second, .val (.long yl), .second, .val (.long zl), .second, .val (.int fl), .val (.int a), .val (.int b), .val (.int c), .val (.int d), .val (.int e), .val (.int g), .val (.ref b1), .val (.ref b6), .val (.ref b11), .val (.int (0 : Int32)), .val (.int (1 : Int32)), .val (.int (0 : Int32)), .val (.int (fl &&& (3 : Int32))), .unset] []
            refine w_aload ok at_177 rfl rfl ?_
            refine w_iconst ok at_179 (v := (0 : Int32)) rfl ?_
            refine w_callV ok (y := (⟨"com/example/hornconv/hornconv/FactTable", "remove", "(I)V"⟩ : MethodName)) (a := b11) (argsL := [(.int (0 : Int32))]) (rest := []) at_180 (hw _ (List.mem_of_getElem? (i := 56) rfl)) (hw _ (List.mem_of_getElem? (i := 57) rfl)) (hw _ (List.mem_of_getElem? (i := 59) rfl)) (hw _ (List.mem_of_getElem? (i := 58) rfl)) (hw _ (List.mem_of_getElem? (i := 3) rfl)) (hw _ (List.mem_of_getElem? (i := 60) rfl)) (by decide) A_b11.1 pd_28I29V rfl rfl (by decide) (Nat.le_of_ble_eq_true rfl) (by decide) (by decide) (fun z0 => rm_rm0 l Z a0 hw [] n0 h19 z0 b11 un me ag de sl po (2 : Int32) (((0 : Int32) + 1) + 1) u1 a b c d e g (0 : Int32) (0 : Int32) (0 : Int32) (0 : Int32) (0 : Int32) (0 : Int32) (0 : Int32) (0 : Int32) (0 : Int32) (0 : Int32) (upd (upd f00 r0 0) r1 1) A_b11 A_ag A_de A_sl A_po ge_b11 g2 g3 nn0 nn1 nn2 nn3 nn4 nn5 nn6 nn7 nn9 nn8 ⟨0, by rw [← hr0]; simp [upd, Ne.symm ne10]⟩) (fun v361 h362 qv361 => ?_)
            obtain ⟨rfl, rr, h8_rr, hfr, K1, A1, A2, A3⟩ := qv361
            replace A_b1 := A_b1.keep K1 (ninS ne_b1_b11 (ninS ne_b1_de (ninS ne_b1_sl nin0)))
            replace A_b6 := A_b6.keep K1 (ninS ne_b6_b11 (ninS ne_b6_de (ninS ne_b6_sl nin0)))
            replace A_ag := A_ag.keep K1 (ninS (Ne.symm nn0) (ninS nn4 (ninS nn5 nin0)))
            replace A_po := A_po.keep K1 (ninS (Ne.symm nn3) (ninS (Ne.symm nn8) (ninS (Ne.symm nn9) nin0)))
            replace A_b11 := A1
            replace A_de := A2
            replace A_sl := A3
            have err : rr = r0 := by
              simp only [upd, f00] at hfr; repeat' split at hfr
              all_goals first | assumption | exact absurd hfr (by decide)
            rw [err] at A_sl
            have hRn363 : Rw (upd (upd (upd f00 r0 0) r1 1) r0 (-2)) := own_rwu hRn83 (by decide)
            have hNn363 := own_free (f := (upd (upd (upd f00 r0 0) r1 1) r0 (-2))) r0 r1 (fun j _ h0 h1 => by simp [upd, h0, h1])
            show W K l _ n0 _ h362 9 44 183 #[.val (.long xl), .second, .val (.long yl), .second, .val (.long zl), .second, .val (.int fl), .val (.int a), .val (.int b), .val (.int c), .val (.int d), .val (.int e), .val (.int g), .val (.ref b1), .val (.ref b6), .val (.ref b11), .val (.int (0 : Int32)), .val (.int (1 : Int32)), .val (.int (0 : Int32)), .val (.int (fl &&& (3 : Int32))), .unset] []
            refine w_goto ok at_183 (pc' := 204) (by decide) ?_
            refine w_aload ok at_204 rfl rfl ?_
            refine w_iconst ok at_206 (v := (0 : Int32)) rfl ?_
            refine w_iconst ok at_207 (v := (0 : Int32)) rfl ?_
            refine w_callV ok (y := (⟨"com/example/hornconv/hornconv/FactTable", "argument", "(II)I"⟩ : MethodName)) (a := b11) (argsL := [(.int (0 : Int32)), (.int (0 : Int32))]) (rest := []) at_208 (hw _ (List.mem_of_getElem? (i := 61) rfl)) (hw _ (List.mem_of_getElem? (i := 62) rfl)) (hw _ (List.mem_of_getElem? (i := 64) rfl)) (hw _ (List.mem_of_getElem? (i := 63) rfl)) (hw _ (List.mem_of_getElem? (i := 3) rfl)) (hw _ (List.mem_of_getElem? (i := 65) rfl)) (by decide) A_b11.1 pd_28II29I rfl rfl (by decide) (Nat.le_of_ble_eq_true rfl) (by decide) (by decide) (fun z0 => rm_arg00 l Z a0 hw [] n0 h362 z0 b11 un me ag de sl po (2 : Int32) ((((0 : Int32) + 1) + 1) - 1) u1 a b c d e g (0 : Int32) (0 : Int32) (0 : Int32) (0 : Int32) (0 : Int32) (0 : Int32) A_b11 A_ag) (fun v364 h365 qv364 => ?_)
            obtain ⟨rfl, rfl⟩ := qv364
            show W K l _ n0 _ h362 9 44 211 #[.val (.long xl), .second, .val (.long yl), .second, .val (.long zl), .second, .val (.int fl), .val (.int a), .val (.int b), .val (.int c), .val (.int d), .val (.int e), .val (.int g), .val (.ref b1), .val (.ref b6), .val (.ref b11), .val (.int (0 : Int32)), .val (.int (1 : Int32)), .val (.int (0 : Int32)), .val (.int (fl &&& (3 : Int32))), .unset] [(.int a)]
            refine w_iload ok at_211 rfl ?_
            refine w_icmp_ne ok at_213 (pc' := 244) (by decide) (fun hc367 => False.elim (by exact hc367 rfl)) (fun hc367 => ?_)
            show W K l _ n0 _ h362 9 44 216 #[.val (.long xl), .second, .val (.long yl), .second, .val (.long zl), .second, .val (.int fl), .val (.int a), .val (.int b), .val (.int c), .val (.int d), .val (.int e), .val (.int g), .val (.ref b1), .val (.ref b6), .val (.ref b11), .val (.int (0 : Int32)), .val (.int (1 : Int32)), .val (.int (0 : Int32)), .val (.int (fl &&& (3 : Int32))), .unset] []
            refine w_aload ok at_216 rfl rfl ?_
            refine w_iconst ok at_218 (v := (0 : Int32)) rfl ?_
            refine w_iconst ok at_219 (v := (1 : Int32)) rfl ?_
            refine w_callV ok (y := (⟨"com/example/hornconv/hornconv/FactTable", "argument", "(II)I"⟩ : MethodName)) (a := b11) (argsL := [(.int (0 : Int32)), (.int (1 : Int32))]) (rest := []) at_220 (hw _ (List.mem_of_getElem? (i := 61) rfl)) (hw _ (List.mem_of_getElem? (i := 62) rfl)) (hw _ (List.mem_of_getElem? (i := 64) rfl)) (hw _ (List.mem_of_getElem? (i := 63) rfl)) (hw _ (List.mem_of_getElem? (i := 3) rfl)) (hw _ (List.mem_of_getElem? (i := 65) rfl)) (by decide) A_b11.1 pd_28II29I rfl rfl (by decide) (Nat.le_of_ble_eq_true rfl) (by decide) (by decide) (fun z0 => rm_arg01 l Z a0 hw [] n0 h362 z0 b11 un me ag de sl po (2 : Int32) ((((0 : Int32) + 1) + 1) - 1) u1 a b c d e g (0 : Int32) (0 : Int32) (0 : Int32) (0 : Int32) (0 : Int32) (0 : Int32) A_b11 A_ag) (fun v368 h369 qv368 => ?_)
            obtain ⟨rfl, rfl⟩ := qv368
            show W K l _ n0 _ h362 9 44 223 #[.val (.long xl), .second, .val (.long yl), .second, .val (.long zl), .second, .val (.int fl), .val (.int a), .val (.int b), .val (.int c), .val (.int d), .val (.int e), .val (.int g), .val (.ref b1), .val (.ref b6), .val (.ref b11), .val (.int (0 : Int32)), .val (.int (1 : Int32)), .val (.int (0 : Int32)), .val (.int (fl &&& (3 : Int32))), .unset] [(.int b)]
            refine w_iload ok at_223 rfl ?_
            refine w_icmp_ne ok at_225 (pc' := 244) (by decide) (fun hc371 => False.elim (by exact hc371 rfl)) (fun hc371 => ?_)
            show W K l _ n0 _ h362 9 44 228 #[.val (.long xl), .second, .val (.long yl), .second, .val (.long zl), .second, .val (.int fl), .val (.int a), .val (.int b), .val (.int c), .val (.int d), .val (.int e), .val (.int g), .val (.ref b1), .val (.ref b6), .val (.ref b11), .val (.int (0 : Int32)), .val (.int (1 : Int32)), .val (.int (0 : Int32)), .val (.int (fl &&& (3 : Int32))), .unset] []
            refine w_aload ok at_228 rfl rfl ?_
            refine w_iconst ok at_230 (v := (0 : Int32)) rfl ?_
            refine w_iconst ok at_231 (v := (2 : Int32)) rfl ?_
            refine w_callV ok (y := (⟨"com/example/hornconv/hornconv/FactTable", "argument", "(II)I"⟩ : MethodName)) (a := b11) (argsL := [(.int (0 : Int32)), (.int (2 : Int32))]) (rest := []) at_232 (hw _ (List.mem_of_getElem? (i := 61) rfl)) (hw _ (List.mem_of_getElem? (i := 62) rfl)) (hw _ (List.mem_of_getElem? (i := 64) rfl)) (hw _ (List.mem_of_getElem? (i := 63) rfl)) (hw _ (List.mem_of_getElem? (i := 3) rfl)) (hw _ (List.mem_of_getElem? (i := 65) rfl)) (by decide) A_b11.1 pd_28II29I rfl rfl (by decide) (Nat.le_of_ble_eq_true rfl) (by decide) (by decide) (fun z0 => rm_arg02 l Z a0 hw [] n0 h362 z0 b11 un me ag de sl po (2 : Int32) ((((0 : Int32) + 1) + 1) - 1) u1 a b c d e g (0 : Int32) (0 : Int32) (0 : Int32) (0 : Int32) (0 : Int32) (0 : Int32) A_b11 A_ag) (fun v372 h373 qv372 => ?_)
            obtain ⟨rfl, rfl⟩ := qv372
            show W K l _ n0 _ h362 9 44 235 #[.val (.long xl), .second, .val (.long yl), .second, .val (.long zl), .second, .val (.int fl), .val (.int a), .val (.int b), .val (.int c), .val (.int d), .val (.int e), .val (.int g), .val (.ref b1), .val (.ref b6), .val (.ref b11), .val (.int (0 : Int32)), .val (.int (1 : Int32)), .val (.int (0 : Int32)), .val (.int (fl &&& (3 : Int32))), .unset] [(.int c)]
            refine w_iload ok at_235 rfl ?_
            refine w_icmp_ne ok at_237 (pc' := 244) (by decide) (fun hc375 => False.elim (by exact hc375 rfl)) (fun hc375 => ?_)
            show W K l _ n0 _ h362 9 44 240 #[.val (.long xl), .second, .val (.long yl), .second, .val (.long zl), .second, .val (.int fl), .val (.int a), .val (.int b), .val (.int c), .val (.int d), .val (.int e), .val (.int g), .val (.ref b1), .val (.ref b6), .val (.ref b11), .val (.int (0 : Int32)), .val (.int (1 : Int32)), .val (.int (0 : Int32)), .val (.int (fl &&& (3 : Int32))), .unset] []
            refine w_iconst ok at_240 (v := (1 : Int32)) rfl ?_
            refine w_goto ok at_241 (pc' := 245) (by decide) ?_
            refine w_istore ok at_245 (L' := #[.val (.long xl), .second, .val (.long yl), .second, .val (.long zl), .second, .val (.int fl), .val (.int a), .val (.int b), .val (.int c), .val (.int d), .val (.int e), .val (.int g), .val (.ref b1), .val (.ref b6), .val (.ref b11), .val (.int (0 : Int32)), .val (.int (1 : Int32)), .val (.int (0 : Int32)), .val (.int (fl &&& (3 : Int32))), .val (.int (1 : Int32))]) rfl ?_
            refine w_iload ok at_247 rfl ?_
            refine w_iconst ok at_249 (v := (1 : Int32)) rfl ?_
            refine w_icmp_ne ok at_250 (pc' := 301) (by decide) (fun hc377 => False.elim (by revert hc377; decide)) (fun hc377 => ?_)
            show W K l _ n0 _ h362 9 44 253 #[.val (.long xl), .second, .val (.long yl), .second, .val (.long zl), .second, .val (.int fl), .val (.int a), .val (.int b), .val (.int c), .val (.int d), .val (.int e), .val (.int g), .val (.ref b1), .val (.ref b6), .val (.ref b11), .val (.int (0 : Int32)), .val (.int (1 : Int32)), .val (.int (0 : Int32)), .val (.int (fl &&& (3 : Int32))), .val (.int (1 : Int32))] []
            refine w_iload ok at_253 rfl ?_
            refine w_if_eq ok at_255 (pc' := 298) (by decide) (fun hc379 => False.elim (by revert hc379; decide)) (fun hc379 => ?_)
            show W K l _ n0 _ h362 9 44 258 #[.val (.long xl), .second, .val (.long yl), .second, .val (.long zl), .second, .val (.int fl), .val (.int a), .val (.int b), .val (.int c), .val (.int d), .val (.int e), .val (.int g), .val (.ref b1), .val (.ref b6), .val (.ref b11), .val (.int (0 : Int32)), .val (.int (1 : Int32)), .val (.int (0 : Int32)), .val (.int (fl &&& (3 : Int32))), .val (.int (1 : Int32))] []
            refine w_aload ok at_258 rfl rfl ?_
            refine w_iconst ok at_260 (v := (1 : Int32)) rfl ?_
            refine w_iconst ok at_261 (v := (0 : Int32)) rfl ?_
            refine w_callV ok (y := (⟨"com/example/hornconv/hornconv/FactTable", "argument", "(II)I"⟩ : MethodName)) (a := b11) (argsL := [(.int (1 : Int32)), (.int (0 : Int32))]) (rest := []) at_262 (hw _ (List.mem_of_getElem? (i := 61) rfl)) (hw _ (List.mem_of_getElem? (i := 62) rfl)) (hw _ (List.mem_of_getElem? (i := 64) rfl)) (hw _ (List.mem_of_getElem? (i := 63) rfl)) (hw _ (List.mem_of_getElem? (i := 3) rfl)) (hw _ (List.mem_of_getElem? (i := 65) rfl)) (by decide) A_b11.1 pd_28II29I rfl rfl (by decide) (Nat.le_of_ble_eq_true rfl) (by decide) (by decide) (fun z0 => rm_arg10 l Z a0 hw [] n0 h362 z0 b11 un me ag de sl po (2 : Int32) ((((0 : Int32) + 1) + 1) - 1) u1 a b c d e g (0 : Int32) (0 : Int32) (0 : Int32) (0 : Int32) (0 : Int32) (0 : Int32) A_b11 A_ag) (fun v380 h381 qv380 => ?_)
            obtain ⟨rfl, rfl⟩ := qv380
            show W K l _ n0 _ h362 9 44 265 #[.val (.long xl), .second, .val (.long yl), .second, .val (.long zl), .second, .val (.int fl), .val (.int a), .val (.int b), .val (.int c), .val (.int d), .val (.int e), .val (.int g), .val (.ref b1), .val (.ref b6), .val (.ref b11), .val (.int (0 : Int32)), .val (.int (1 : Int32)), .val (.int (0 : Int32)), .val (.int (fl &&& (3 : Int32))), .val (.int (1 : Int32))] [(.int d)]
            refine w_iload ok at_265 rfl ?_
            refine w_icmp_ne ok at_267 (pc' := 298) (by decide) (fun hc383 => False.elim (by exact hc383 rfl)) (fun hc383 => ?_)
            show W K l _ n0 _ h362 9 44 270 #[.val (.long xl), .second, .val (.long yl), .second, .val (.long zl), .second, .val (.int fl), .val (.int a), .val (.int b), .val (.int c), .val (.int d), .val (.int e), .val (.int g), .val (.ref b1), .val (.ref b6), .val (.ref b11), .val (.int (0 : Int32)), .val (.int (1 : Int32)), .val (.int (0 : Int32)), .val (.int (fl &&& (3 : Int32))), .val (.int (1 : Int32))] []
            refine w_aload ok at_270 rfl rfl ?_
            refine w_iconst ok at_272 (v := (1 : Int32)) rfl ?_
            refine w_iconst ok at_273 (v := (1 : Int32)) rfl ?_
            refine w_callV ok (y := (⟨"com/example/hornconv/hornconv/FactTable", "argument", "(II)I"⟩ : MethodName)) (a := b11) (argsL := [(.int (1 : Int32)), (.int (1 : Int32))]) (rest := []) at_274 (hw _ (List.mem_of_getElem? (i := 61) rfl)) (hw _ (List.mem_of_getElem? (i := 62) rfl)) (hw _ (List.mem_of_getElem? (i := 64) rfl)) (hw _ (List.mem_of_getElem? (i := 63) rfl)) (hw _ (List.mem_of_getElem? (i := 3) rfl)) (hw _ (List.mem_of_getElem? (i := 65) rfl)) (by decide) A_b11.1 pd_28II29I rfl rfl (by decide) (Nat.le_of_ble_eq_true rfl) (by decide) (by decide) (fun z0 => rm_arg11 l Z a0 hw [] n0 h362 z0 b11 un me ag de sl po (2 : Int32) ((((0 : Int32) + 1) + 1) - 1) u1 a b c d e g (0 : Int32) (0 : Int32) (0 : Int32) (0 : Int32) (0 : Int32) (0 : Int32) A_b11 A_ag) (fun v384 h385 qv384 => ?_)
            obtain ⟨rfl, rfl⟩ := qv384
            show W K l _ n0 _ h362 9 44 277 #[.val (.long xl), .second, .val (.long yl), .second, .val (.long zl), .second, .val (.int fl), .val (.int a), .val (.int b), .val (.int c), .val (.int d), .val (.int e), .val (.int g), .val (.ref b1), .val (.ref b6), .val (.ref b11), .val (.int (0 : Int32)), .val (.int (1 : Int32)), .val (.int (0 : Int32)), .val (.int (fl &&& (3 : Int32))), .val (.int (1 : Int32))] [(.int e)]
            refine w_iload ok at_277 rfl ?_
            refine w_icmp_ne ok at_279 (pc' := 298) (by decide) (fun hc387 => False.elim (by exact hc387 rfl)) (fun hc387 => ?_)
            show W K l _ n0 _ h362 9 44 282 #[.val (.long xl), .second, .val (.long yl), .second, .val (.long zl), .second, .val (.int fl), .val (.int a), .val (.int b), .val (.int c), .val (.int d), .val (.int e), .val (.int g), .val (.ref b1), .val (.ref b6), .val (.ref b11), .val (.int (0 : Int32)), .val (.int (1 : Int32)), .val (.int (0 : Int32)), .val (.int (fl &&& (3 : Int32))), .val (.int (1 : Int32))] []
            refine w_aload ok at_282 rfl rfl ?_
            refine w_iconst ok at_284 (v := (1 : Int32)) rfl ?_
            refine w_iconst ok at_285 (v := (2 : Int32)) rfl ?_
            refine w_callV ok (y := (⟨"com/example/hornconv/hornconv/FactTable", "argument", "(II)I"⟩ : MethodName)) (a := b11) (argsL := [(.int (1 : Int32)), (.int (2 : Int32))]) (rest := []) at_286 (hw _ (List.mem_of_getElem? (i := 61) rfl)) (hw _ (List.mem_of_getElem? (i := 62) rfl)) (hw _ (List.mem_of_getElem? (i := 64) rfl)) (hw _ (List.mem_of_getElem? (i := 63) rfl)) (hw _ (List.mem_of_getElem? (i := 3) rfl)) (hw _ (List.mem_of_getElem? (i := 65) rfl)) (by decide) A_b11.1 pd_28II29I rfl rfl (by decide) (Nat.le_of_ble_eq_true rfl) (by decide) (by decide) (fun z0 => rm_arg12 l Z a0 hw [] n0 h362 z0 b11 un me ag de sl po (2 : Int32) ((((0 : Int32) + 1) + 1) - 1) u1 a b c d e g (0 : Int32) (0 : Int32) (0 : Int32) (0 : Int32) (0 : Int32) (0 : Int32) A_b11 A_ag) (fun v388 h389 qv388 => ?_)
            obtain ⟨rfl, rfl⟩ := qv388
            show W K l _ n0 _ h362 9 44 289 #[.val (.long xl), .second, .val (.long yl), .second, .val (.long zl), .second, .val (.int fl), .val (.int a), .val (.int b), .val (.int c), .val (.int d), .val (.int e), .val (.int g), .val (.ref b1), .val (.ref b6), .val (.ref b11), .val (.int (0 : Int32)), .val (.int (1 : Int32)), .val (.int (0 : Int32)), .val (.int (fl &&& (3 : Int32))), .val (.int (1 : Int32))] [(.int g)]
            refine w_iload ok at_289 rfl ?_
            refine w_icmp_ne ok at_291 (pc' := 298) (by decide) (fun hc391 => False.elim (by exact hc391 rfl)) (fun hc391 => ?_)
            show W K l _ n0 _ h362 9 44 294 #[.val (.long xl), .second, .val (.long yl), .second, .val (.long zl), .second, .val (.int fl), .val (.int a), .val (.int b), .val (.int c), .val (.int d), .val (.int e), .val (.int g), .val (.ref b1), .val (.ref b6), .val (.ref b11), .val (.int (0 : Int32)), .val (.int (1 : Int32)), .val (.int (0 : Int32)), .val (.int (fl &&& (3 : Int32))), .val (.int (1 : Int32))] []
            refine w_iconst ok at_294 (v := (1 : Int32)) rfl ?_
            refine w_goto ok at_295 (pc' := 299) (by decide) ?_
            refine w_istore ok at_299 (L' := #[.val (.long xl), .second, .val (.long yl), .second, .val (.long zl), .second, .val (.int fl), .val (.int a), .val (.int b), .val (.int c), .val (.int d), .val (.int e), .val (.int g), .val (.ref b1), .val (.ref b6), .val (.ref b11), .val (.int (0 : Int32)), .val (.int (1 : Int32)), .val (.int (0 : Int32)), .val (.int (fl &&& (3 : Int32))), .val (.int (1 : Int32))]) rfl ?_
            refine w_iload ok at_301 rfl ?_
            refine w_bret ok (by simp) at_303 (by decide) (by decide) ?_
            exact rfl
set_option maxRecDepth 65536 in
set_option maxHeartbeats 40000000 in
theorem comes_1 {Post : Tables → Env → Array Value → State → Outcome → State → Prop} (hpost : ∀ tb e args s v u, (limb_1_1.after args s (.returned v) u = true ∧ limb_1_2.after args s (.returned v) u = true) → FrameEnd s (.returned v) u (Jvm.fieldLocs frame_1_writes args s ++ Jvm.arrayLocs frame_1_arrays args s ++ Jvm.staticLocs frame_1_statics s) 32 192 → Post tb e args s (.returned v) u) :
    ArmFor flags0 classFile x code maxLocals ret World_1 tables_1 room_1 Calls_1 rest_1 Pre_1 Post := by
  intro l hfl _ _ p e ha hc hk s m args below hf hA hF happ hP
  obtain ⟨hcalls, hrest, hpre⟩ := hP
  obtain ⟨-, -, -, hnamed, -, -, -, hat⟩ := (Spec.applies_iff hf).mp happ
  obtain ⟨hg, hn⟩ := and_e (Cond.before_iff.mp (show (Jvm.Cond.and given_1 narrow_1).before args s = true from hpre))
  obtain ⟨g0, r0⟩ := and_e hg
  obtain ⟨g1, r1⟩ := and_e r0
  obtain ⟨g2, r2⟩ := and_e r1
  obtain ⟨g3, r3⟩ := and_e r2
  obtain ⟨w0, w1, w2, w3, rfl⟩ : ∃ w0 w1 w2 w3 : Value, args = #[w0, w1, w2, w3] := by
    have hs : args.size = 4 := by simpa [Cond.value, given_1] using g0
    obtain ⟨L⟩ := args
    match L, hs with
    | [w0, w1, w2, w3], _ => exact ⟨w0, w1, w2, w3, rfl⟩
  have hw := fun d (hd : d ∈ tables_1) => atoms_spec (ws := Jvm.Cond.code x code maxLocals ret :: tables_1) hat d (List.mem_cons_of_mem _ hd)
  have hfit : Fit s := fun {y c} hc i hi => by
    obtain ⟨ha, rfl⟩ := Array.getElem?_eq_some_iff.mp hc
    have q := List.all_eq_true.mp ((Array.all_eq_true_iff_forall_mem.mp hF) _ (Array.getElem_mem ha)) i (List.mem_range.mpr hi)
    simpa [Array.getElem?_eq_getElem hi] using q
  obtain ⟨i0, ei0⟩ := isL_v g1
  obtain rfl : w0 = (.long i0) := Option.some.inj ei0
  obtain ⟨i1, ei1⟩ := isL_v g2
  obtain rfl : w1 = (.long i1) := Option.some.inj ei1
  obtain ⟨i2, ei2⟩ := isL_v g3
  obtain rfl : w2 = (.long i2) := Option.some.inj ei2
  obtain ⟨i3, ei3⟩ := is_v r3
  obtain rfl : w3 = (.int i3) := Option.some.inj ei3
  obtain ⟨n, o, h1, h2, h3, _, L, rfl, ⟨rfl, N⟩, hq⟩ := rm0 l s _ hw tables_1 s.heap.size s.heap (Old.start s) i0 i1 i2 i3  p e ha hc hk s m _ below hf ((Spec.applies_iff_loose hf).mp happ).1 ⟨rfl, State.Warmed39.refl s, rfl⟩ trivial
  exact ⟨n, _, h1, h2, h3, hpost _ _ _ _ _ _ ⟨Cond.after_iff.mpr rfl, Cond.after_iff.mpr (eq_i res_at (Term.int_eval (1)) rfl)⟩ (frame_fin hq N (by decide) (by decide))⟩
theorem main_1_1 : Claimed_1_1 := comes_1 fun _ _ _ _ _ _ h hF => ⟨h.1, hF⟩
theorem main_1_2 : Claimed_1_2 := comes_1 fun _ _ _ _ _ _ h hF => ⟨h.2, hF⟩
end Jvm.Pilot.@@N@@
namespace Jvm.Pilot.@@N@@
open Jvm Jvm.ClassFile Sem Op Lib Jvm.Free Jvm.Stand Jvm.Pilot.@@N@@.Jvm.D
/-! MADE BY PROGRAM (witnessworld.py) out of the Statement's table words and the real class files: 17 classes; the members and pool entries that the words name. The judged class is class 1, her method 1. -/
namespace start1
open Jvm.ClassFile
def u (s : String) : CpInfo := .utf8 (stringToUtf16 s)
/-- a pool by its gaps: so many unusable entries, then the entry; so many at the end -/
def gap : Nat → List CpInfo → List CpInfo
  | 0, r => r
  | n + 1, r => .unusable :: gap n r
def poolList (es : List (Nat × CpInfo)) (last : Nat) : List CpInfo := es.foldr (fun e r => gap e.1 (e.2 :: r)) (gap last [])
def pool (es : List (Nat × CpInfo)) (last : Nat) : Array CpInfo := ⟨poolList es last⟩
def fileOf (pool : Array CpInfo) (this : Nat) (attrs : Array Attribute := #[]) (ms : Array MethodInfo := #[]) (fl : Nat := 33) (sup : Nat := 0) (ifs : Array Nat := #[]) (fds : Array FieldInfo := #[]) : ClassFile where
  minorVersion := 0
  majorVersion := 65
  constantPool := pool
  accessFlags := fl
  thisClass := this
  superClass := sup
  interfaces := ifs
  fields := fds
  methods := ms
  attributes := attrs
def plain (name : String) (sup : Option ClassId) : Class where
  name := name
  kind := .ordinary
  loader := none
  accessFlags := 33
  super := sup
  interfaces := #[]
  cf := none
  fields := #[]
  methods := #[]
  instanceTypes := #[]
  staticTypes := #[]
  resolved := #[]
  callSites := []
  init := .initialized
  statics := none
  mirror := none

def pool0 : Array CpInfo := pool [(5, u "<init>"), (0, u "()V"), (1, .class_ 10), (1, u "java/lang/Object")] 113

def k0c0 : Code := { maxStack := 0, maxLocals := 1, code := object_method_1_code, exceptionTable := #[], attributes := #[] }
def k0m0 : Method := { name := "<init>", desc := "()V", sig := { parameters := [], returnType := none }, accessFlags := 1, code := some k0c0 }
/-- java/lang/Object -/
def k0 : Class := { plain "java/lang/Object" none with
  accessFlags := 33
  interfaces := #[]
  cf := some (fileOf pool0 8 #[] #[{ accessFlags := 1, nameIndex := 5, descriptorIndex := 6, attributes := #[] }] 33 0 #[] #[])
  fields := #[]
  methods := #[k0m0]
  instanceTypes := #[]
  staticTypes := #[]
  resolved := Array.replicate 124 none
  statics := none }

def pool1 : Array CpInfo := pool [(2, .class_ 4), (1, u "java/lang/Object"), (0, u "<init>"), (0, u "()V"), (0, .class_ 8), (0, u "com/example/hornconv/hornconv/FactTable"), (0, .methodref 7 10), (0, .nameAndType 5 11), (0, u "(I)V"), (0, .methodref 7 13), (0, .nameAndType 14 15), (0, u "add"), (0, u "([I)I"), (0, .methodref 7 17), (0, .nameAndType 18 11), (0, u "remove"), (0, .methodref 7 20), (0, .nameAndType 21 22), (0, u "argument"), (0, u "(II)I"), (0, .class_ 24), (0, u "com/example/hornconv/hornconv/FactTableArgumentPinLaw"), (2, u "law"), (0, u "(JJJI)Z")] 5

def k1m0 : Method := { name := "<init>", desc := "()V", sig := { parameters := [], returnType := none }, accessFlags := 1, code := none }
def k1c1 : Code := { maxStack := 3, maxLocals := 21, code := code, exceptionTable := #[], attributes := #[] }
def k1m1 : Method := { name := "law", desc := "(JJJI)Z", sig := { parameters := [.long, .long, .long, .int], returnType := some .boolean }, accessFlags := 9, code := some k1c1 }
/-- com/example/hornconv/hornconv/FactTableArgumentPinLaw -/
def k1 : Class := { plain "com/example/hornconv/hornconv/FactTableArgumentPinLaw" (some 0) with
  accessFlags := 49
  interfaces := #[]
  cf := some (fileOf pool1 23 #[] #[{ accessFlags := 1, nameIndex := 5, descriptorIndex := 6, attributes := #[] }, { accessFlags := 9, nameIndex := 27, descriptorIndex := 28, attributes := #[] }] 49 2 #[] #[])
  fields := #[]
  methods := #[k1m0, k1m1]
  instanceTypes := #[]
  staticTypes := #[]
  resolved := Array.replicate 34 none
  statics := none }

def pool2 : Array CpInfo := pool [(1, .methodref 2 3), (0, .class_ 4), (0, .nameAndType 5 6), (0, u "java/lang/Object"), (0, u "<init>"), (0, u "()V"), (0, .fieldref 8 9), (0, .class_ 10), (0, .nameAndType 11 12), (0, u "com/example/hornconv/hornconv/FactTable"), (0, u "unary"), (0, u "[I"), (0, .fieldref 8 14), (0, .nameAndType 15 16), (0, u "members"), (0, u "[J"), (0, .fieldref 8 18), (0, .nameAndType 19 20), (0, u "arity"), (0, u "I"), (0, .fieldref 8 22), (0, .nameAndType 23 12), (0, u "arguments"), (0, .fieldref 8 25), (0, .nameAndType 26 27), (0, u "dead"), (0, u "[Z"), (0, .fieldref 8 29), (0, .nameAndType 30 12), (0, u "slots"), (0, .methodref 32 33), (0, .class_ 34), (0, .nameAndType 35 36), (0, u "java/util/Arrays"), (0, u "fill"), (0, u "([II)V"), (0, .class_ 38), (0, u "com/example/hornconv/hornconv/FactTable$PositionIndex"), (0, .fieldref 8 40), (0, .nameAndType 41 42), (0, u "positions"), (0, u "[Lcom/example/hornconv/hornconv/FactTable$PositionIndex;"), (0, .fieldref 8 44), (0, .nameAndType 45 20), (0, u "rows"), (0, .fieldref 8 47), (0, .nameAndType 48 20), (0, u "live"), (4, .methodref 8 54), (0, .nameAndType 55 56), (0, u "hash"), (0, u "([II)I"), (0, .methodref 8 58), (0, .nameAndType 59 56), (0, u "find"), (7, .methodref 68 69), (0, .class_ 70), (0, .nameAndType 71 72), (0, u "java/lang/System"), (0, u "arraycopy"), (0, u "(Ljava/lang/Object;ILjava/lang/Object;II)V"), (6, u "add"), (1, .fieldref 8 82), (0, .nameAndType 83 20), (0, u "used"), (3, .methodref 8 88), (0, .nameAndType 89 90), (0, u "argument"), (0, u "(II)I"), (2, u "remove"), (0, u "(I)V"), (28, .methodref 8 124), (0, .nameAndType 125 126), (0, u "equalsRow"), (0, u "(I[I)Z"), (0, .integer 2654435769), (0, u "NONE"), (2, u "REMOVED"), (1, u "GOLDEN"), (6, u "([I)I")] 5

def k2c0 : Code := { maxStack := 3, maxLocals := 2, code := prog_3_method_1_code, exceptionTable := #[], attributes := #[] }
def k2m0 : Method := { name := "<init>", desc := "(I)V", sig := { parameters := [.int], returnType := none }, accessFlags := 0, code := some k2c0 }
def k2c1 : Code := { maxStack := 3, maxLocals := 3, code := prog_3_method_6_code, exceptionTable := #[], attributes := #[] }
def k2m1 : Method := { name := "argument", desc := "(II)I", sig := { parameters := [.int, .int], returnType := some .int }, accessFlags := 0, code := some k2c1 }
def k2c2 : Code := { maxStack := 5, maxLocals := 6, code := prog_3_method_7_code, exceptionTable := #[], attributes := #[] }
def k2m2 : Method := { name := "add", desc := "([I)I", sig := { parameters := [(.array .int)], returnType := some .int }, accessFlags := 0, code := some k2c2 }
def k2c3 : Code := { maxStack := 4, maxLocals := 5, code := prog_3_method_8_code, exceptionTable := #[], attributes := #[] }
def k2m3 : Method := { name := "remove", desc := "(I)V", sig := { parameters := [.int], returnType := none }, accessFlags := 0, code := some k2c3 }
def k2c4 : Code := { maxStack := 3, maxLocals := 7, code := prog_3_method_16_code, exceptionTable := #[], attributes := #[] }
def k2m4 : Method := { name := "find", desc := "([II)I", sig := { parameters := [(.array .int), .int], returnType := some .int }, accessFlags := 2, code := some k2c4 }
def k2c5 : Code := { maxStack := 3, maxLocals := 5, code := prog_3_method_17_code, exceptionTable := #[], attributes := #[] }
def k2m5 : Method := { name := "equalsRow", desc := "(I[I)Z", sig := { parameters := [.int, (.array .int)], returnType := some .boolean }, accessFlags := 2, code := some k2c5 }
def k2c6 : Code := { maxStack := 4, maxLocals := 5, code := prog_3_method_18_code, exceptionTable := #[], attributes := #[] }
def k2m6 : Method := { name := "hash", desc := "([II)I", sig := { parameters := [(.array .int), .int], returnType := some .int }, accessFlags := 2, code := some k2c6 }
/-- com/example/hornconv/hornconv/FactTable -/
def k2 : Class := { plain "com/example/hornconv/hornconv/FactTable" (some 0) with
  accessFlags := 48
  interfaces := #[]
  cf := some (fileOf pool2 8 #[.nestMembers #[37]] #[{ accessFlags := 0, nameIndex := 5, descriptorIndex := 94, attributes := #[] }, { accessFlags := 0, nameIndex := 89, descriptorIndex := 90, attributes := #[] }, { accessFlags := 0, nameIndex := 79, descriptorIndex := 140, attributes := #[] }, { accessFlags := 0, nameIndex := 93, descriptorIndex := 94, attributes := #[] }, { accessFlags := 2, nameIndex := 59, descriptorIndex := 56, attributes := #[] }, { accessFlags := 2, nameIndex := 125, descriptorIndex := 126, attributes := #[] }, { accessFlags := 2, nameIndex := 55, descriptorIndex := 56, attributes := #[] }] 48 2 #[] #[{ accessFlags := 26, nameIndex := 128, descriptorIndex := 20, attributes := #[] }, { accessFlags := 26, nameIndex := 131, descriptorIndex := 20, attributes := #[] }, { accessFlags := 26, nameIndex := 133, descriptorIndex := 20, attributes := #[] }, { accessFlags := 18, nameIndex := 19, descriptorIndex := 20, attributes := #[] }, { accessFlags := 2, nameIndex := 23, descriptorIndex := 12, attributes := #[] }, { accessFlags := 2, nameIndex := 26, descriptorIndex := 27, attributes := #[] }, { accessFlags := 2, nameIndex := 45, descriptorIndex := 20, attributes := #[] }, { accessFlags := 2, nameIndex := 48, descriptorIndex := 20, attributes := #[] }, { accessFlags := 2, nameIndex := 30, descriptorIndex := 12, attributes := #[] }, { accessFlags := 2, nameIndex := 83, descriptorIndex := 20, attributes := #[] }, { accessFlags := 18, nameIndex := 41, descriptorIndex := 42, attributes := #[] }, { accessFlags := 18, nameIndex := 11, descriptorIndex := 12, attributes := #[] }, { accessFlags := 2, nameIndex := 15, descriptorIndex := 16, attributes := #[] }])
  fields := #[{ name := "NONE", type := .int, accessFlags := 26, slot := 0, constantValue := 0 }, { name := "REMOVED", type := .int, accessFlags := 26, slot := 1, constantValue := 0 }, { name := "GOLDEN", type := .int, accessFlags := 26, slot := 2, constantValue := 0 }, { name := "arity", type := .int, accessFlags := 18, slot := 0, constantValue := 0 }, { name := "arguments", type := (.array .int), accessFlags := 2, slot := 1, constantValue := 0 }, { name := "dead", type := (.array .boolean), accessFlags := 2, slot := 2, constantValue := 0 }, { name := "rows", type := .int, accessFlags := 2, slot := 3, constantValue := 0 }, { name := "live", type := .int, accessFlags := 2, slot := 4, constantValue := 0 }, { name := "slots", type := (.array .int), accessFlags := 2, slot := 5, constantValue := 0 }, { name := "used", type := .int, accessFlags := 2, slot := 6, constantValue := 0 }, { name := "positions", type := (.array (.object "com/example/hornconv/hornconv/FactTable$PositionIndex")), accessFlags := 18, slot := 7, constantValue := 0 }, { name := "unary", type := (.array .int), accessFlags := 18, slot := 8, constantValue := 0 }, { name := "members", type := (.array .long), accessFlags := 2, slot := 9, constantValue := 0 }]
  methods := #[k2m0, k2m1, k2m2, k2m3, k2m4, k2m5, k2m6]
  instanceTypes := #[.int, (.array .int), (.array .boolean), .int, .int, (.array .int), .int, (.array (.object "com/example/hornconv/hornconv/FactTable$PositionIndex")), (.array .int), (.array .long)]
  staticTypes := #[.int, .int, .int]
  resolved := Array.replicate 146 none
  statics := none }

def pool3 : Array CpInfo := pool [(2, .class_ 4), (1, u "java/lang/Object"), (0, u "<init>"), (0, u "()V"), (7, .class_ 16), (1, u "java/util/Arrays"), (57, .class_ 76), (1, u "java/util/Arrays$NaturalOrder"), (36, .class_ 115), (1, u "java/util/Arrays$LegacyMergeSort"), (1, u "Z"), (257, .class_ 376), (0, u "java/util/Arrays$ArrayList"), (68, u "$assertionsDisabled"), (269, u "MIN_ARRAY_SORT_GRAN"), (0, u "I"), (2, u "INSERTIONSORT_THRESHOLD"), (120, u "fill"), (4, u "([II)V"), (129, .class_ 976), (0, u "java/util/Arrays$ArrayItr")] 52

def k3m0 : Method := { name := "<init>", desc := "()V", sig := { parameters := [], returnType := none }, accessFlags := 2, code := none }
def k3c1 : Code := { maxStack := 3, maxLocals := 4, code := jdk_65_method_103_code, exceptionTable := #[], attributes := #[] }
def k3m1 : Method := { name := "fill", desc := "([II)V", sig := { parameters := [(.array .int), .int], returnType := none }, accessFlags := 9, code := some k3c1 }
/-- java/util/Arrays -/
def k3 : Class := { plain "java/util/Arrays" (some 0) with
  accessFlags := 49
  interfaces := #[]
  cf := some (fileOf pool3 14 #[.nestMembers #[975, 375, 113, 74]] #[{ accessFlags := 2, nameIndex := 5, descriptorIndex := 6, attributes := #[] }, { accessFlags := 9, nameIndex := 840, descriptorIndex := 845, attributes := #[] }] 49 2 #[] #[{ accessFlags := 26, nameIndex := 715, descriptorIndex := 716, attributes := #[] }, { accessFlags := 26, nameIndex := 719, descriptorIndex := 716, attributes := #[] }, { accessFlags := 4120, nameIndex := 445, descriptorIndex := 117, attributes := #[] }])
  fields := #[{ name := "MIN_ARRAY_SORT_GRAN", type := .int, accessFlags := 26, slot := 0, constantValue := 0 }, { name := "INSERTIONSORT_THRESHOLD", type := .int, accessFlags := 26, slot := 1, constantValue := 0 }, { name := "$assertionsDisabled", type := .boolean, accessFlags := 4120, slot := 2, constantValue := 0 }]
  methods := #[k3m0, k3m1]
  instanceTypes := #[]
  staticTypes := #[.int, .int, .boolean]
  resolved := Array.replicate 1029 none
  statics := none }

def pool4 : Array CpInfo := pool [(1, .class_ 2), (0, u "com/example/hornconv/hornconv/FactTable"), (1, .class_ 6), (1, u "java/lang/Object"), (0, u "<init>"), (0, u "()V"), (1, .class_ 12), (1, u "com/example/hornconv/hornconv/FactTable$PositionIndex"), (0, u "keys"), (0, u "[I"), (2, u "heads"), (2, u "counts"), (2, u "next"), (16, u "size"), (0, u "I")] 22

def k4m0 : Method := { name := "<init>", desc := "()V", sig := { parameters := [], returnType := none }, accessFlags := 0, code := none }
/-- com/example/hornconv/hornconv/FactTable$PositionIndex -/
def k4 : Class := { plain "com/example/hornconv/hornconv/FactTable$PositionIndex" (some 0) with
  accessFlags := 48
  interfaces := #[]
  cf := some (fileOf pool4 10 #[.nestHost 1] #[{ accessFlags := 0, nameIndex := 7, descriptorIndex := 8, attributes := #[] }] 48 4 #[] #[{ accessFlags := 2, nameIndex := 13, descriptorIndex := 14, attributes := #[] }, { accessFlags := 2, nameIndex := 17, descriptorIndex := 14, attributes := #[] }, { accessFlags := 2, nameIndex := 20, descriptorIndex := 14, attributes := #[] }, { accessFlags := 2, nameIndex := 40, descriptorIndex := 41, attributes := #[] }, { accessFlags := 2, nameIndex := 23, descriptorIndex := 14, attributes := #[] }])
  fields := #[{ name := "keys", type := (.array .int), accessFlags := 2, slot := 0, constantValue := 0 }, { name := "heads", type := (.array .int), accessFlags := 2, slot := 1, constantValue := 0 }, { name := "counts", type := (.array .int), accessFlags := 2, slot := 2, constantValue := 0 }, { name := "size", type := .int, accessFlags := 2, slot := 3, constantValue := 0 }, { name := "next", type := (.array .int), accessFlags := 2, slot := 4, constantValue := 0 }]
  methods := #[k4m0]
  instanceTypes := #[(.array .int), (.array .int), (.array .int), .int, (.array .int)]
  staticTypes := #[]
  resolved := Array.replicate 64 none
  statics := none }

def pool5 : Array CpInfo := pool [(2, .class_ 4), (1, u "java/lang/Object"), (0, u "<init>"), (0, u "()V"), (1, .class_ 10), (1, u "java/lang/System"), (0, u "allowSecurityManager"), (0, u "I"), (16, u "cons"), (0, u "Ljava/io/Console;"), (77, .class_ 110), (1, u "java/lang/System$CallersHolder"), (43, u "initialErrStream"), (0, u "Ljava/io/PrintStream;"), (19, u "security"), (0, u "Ljava/lang/SecurityManager;"), (31, .class_ 209), (0, u "java/lang/System$1"), (7, u "props"), (0, u "Ljava/util/Properties;"), (2, u "lineSeparator"), (0, u "Ljava/lang/String;"), (96, .class_ 321), (1, u "java/lang/System$LoggerFinder"), (5, .class_ 328), (0, u "java/lang/System$Logger"), (67, u "err"), (2, u "out"), (91, u "notSupportedJnuEncoding"), (15, u "in"), (17, u "initialIn"), (0, u "Ljava/io/InputStream;"), (35, u "bootLayer"), (0, u "Ljava/lang/ModuleLayer;"), (99, .class_ 664), (0, u "java/lang/System$2"), (9, u "NEVER"), (2, u "MAYBE"), (49, u "arraycopy"), (0, u "(Ljava/lang/Object;ILjava/lang/Object;II)V"), (72, .class_ 802), (0, u "java/lang/System$Logger$Level")] 31

def k5m0 : Method := { name := "<init>", desc := "()V", sig := { parameters := [], returnType := none }, accessFlags := 2, code := none }
def k5m1 : Method := { name := "arraycopy", desc := "(Ljava/lang/Object;ILjava/lang/Object;II)V", sig := { parameters := [(.object "java/lang/Object"), .int, (.object "java/lang/Object"), .int, .int], returnType := none }, accessFlags := 265, code := none }
/-- java/lang/System -/
def k5 : Class := { plain "java/lang/System" (some 0) with
  accessFlags := 49
  interfaces := #[]
  cf := some (fileOf pool5 8 #[.nestMembers #[319, 327, 801, 108, 663, 208]] #[{ accessFlags := 2, nameIndex := 5, descriptorIndex := 6, attributes := #[] }, { accessFlags := 265, nameIndex := 727, descriptorIndex := 728, attributes := #[] }] 49 2 #[] #[{ accessFlags := 25, nameIndex := 507, descriptorIndex := 526, attributes := #[] }, { accessFlags := 25, nameIndex := 399, descriptorIndex := 155, attributes := #[] }, { accessFlags := 25, nameIndex := 396, descriptorIndex := 155, attributes := #[] }, { accessFlags := 10, nameIndex := 525, descriptorIndex := 526, attributes := #[] }, { accessFlags := 26, nameIndex := 674, descriptorIndex := 12, attributes := #[] }, { accessFlags := 26, nameIndex := 677, descriptorIndex := 12, attributes := #[] }, { accessFlags := 10, nameIndex := 11, descriptorIndex := 12, attributes := #[] }, { accessFlags := 74, nameIndex := 175, descriptorIndex := 176, attributes := #[] }, { accessFlags := 10, nameIndex := 491, descriptorIndex := 222, attributes := #[] }, { accessFlags := 74, nameIndex := 29, descriptorIndex := 30, attributes := #[] }, { accessFlags := 74, nameIndex := 154, descriptorIndex := 155, attributes := #[] }, { accessFlags := 10, nameIndex := 217, descriptorIndex := 218, attributes := #[] }, { accessFlags := 10, nameIndex := 221, descriptorIndex := 222, attributes := #[] }, { accessFlags := 8, nameIndex := 562, descriptorIndex := 563, attributes := #[] }])
  fields := #[{ name := "in", type := (.object "java/io/InputStream"), accessFlags := 25, slot := 0, constantValue := 0 }, { name := "out", type := (.object "java/io/PrintStream"), accessFlags := 25, slot := 1, constantValue := 0 }, { name := "err", type := (.object "java/io/PrintStream"), accessFlags := 25, slot := 2, constantValue := 0 }, { name := "initialIn", type := (.object "java/io/InputStream"), accessFlags := 10, slot := 3, constantValue := 0 }, { name := "NEVER", type := .int, accessFlags := 26, slot := 4, constantValue := 0 }, { name := "MAYBE", type := .int, accessFlags := 26, slot := 5, constantValue := 0 }, { name := "allowSecurityManager", type := .int, accessFlags := 10, slot := 6, constantValue := 0 }, { name := "security", type := (.object "java/lang/SecurityManager"), accessFlags := 74, slot := 7, constantValue := 0 }, { name := "notSupportedJnuEncoding", type := (.object "java/lang/String"), accessFlags := 10, slot := 8, constantValue := 0 }, { name := "cons", type := (.object "java/io/Console"), accessFlags := 74, slot := 9, constantValue := 0 }, { name := "initialErrStream", type := (.object "java/io/PrintStream"), accessFlags := 74, slot := 10, constantValue := 0 }, { name := "props", type := (.object "java/util/Properties"), accessFlags := 10, slot := 11, constantValue := 0 }, { name := "lineSeparator", type := (.object "java/lang/String"), accessFlags := 10, slot := 12, constantValue := 0 }, { name := "bootLayer", type := (.object "java/lang/ModuleLayer"), accessFlags := 8, slot := 13, constantValue := 0 }]
  methods := #[k5m0, k5m1]
  instanceTypes := #[]
  staticTypes := #[(.object "java/io/InputStream"), (.object "java/io/PrintStream"), (.object "java/io/PrintStream"), (.object "java/io/InputStream"), .int, .int, .int, (.object "java/lang/SecurityManager"), (.object "java/lang/String"), (.object "java/io/Console"), (.object "java/io/PrintStream"), (.object "java/util/Properties"), (.object "java/lang/String"), (.object "java/lang/ModuleLayer")]
  resolved := Array.replicate 834 none
  statics := none }

def pool6 : Array CpInfo := pool [(1, u "java/lang/Cloneable"), (0, .class_ 1), (0, u "java/lang/Object"), (0, .class_ 3)] 3

/-- java/lang/Cloneable -/
def k6 : Class := { plain "java/lang/Cloneable" (some 0) with
  accessFlags := 1537
  interfaces := #[]
  cf := some (fileOf pool6 2 #[] #[] 1537 4 #[] #[])
  fields := #[]
  methods := #[]
  instanceTypes := #[]
  staticTypes := #[]
  resolved := Array.replicate 8 none
  statics := none }

def pool7 : Array CpInfo := pool [(1, u "java/io/Serializable"), (0, .class_ 1), (0, u "java/lang/Object"), (0, .class_ 3)] 3

/-- java/io/Serializable -/
def k7 : Class := { plain "java/io/Serializable" (some 0) with
  accessFlags := 1537
  interfaces := #[]
  cf := some (fileOf pool7 2 #[] #[] 1537 4 #[] #[])
  fields := #[]
  methods := #[]
  instanceTypes := #[]
  staticTypes := #[]
  resolved := Array.replicate 8 none
  statics := none }

/-- the primitive boolean -/
def k8 : Class := { plain "boolean" none with kind := .primitive 'Z', accessFlags := 0x411 }
/-- [Z -/
def k9 : Class := { plain "[Z" (some 0) with kind := .array 8 .boolean, interfaces := #[6, 7], accessFlags := 1041 }

/-- the primitive byte -/
def k10 : Class := { plain "byte" none with kind := .primitive 'B', accessFlags := 0x411 }
/-- [B -/
def k11 : Class := { plain "[B" (some 0) with kind := .array 10 .byte, interfaces := #[6, 7], accessFlags := 1041 }

/-- the primitive int -/
def k12 : Class := { plain "int" none with kind := .primitive 'I', accessFlags := 0x411 }
/-- [I -/
def k13 : Class := { plain "[I" (some 0) with kind := .array 12 .int, interfaces := #[6, 7], accessFlags := 1041 }

/-- the primitive long -/
def k14 : Class := { plain "long" none with kind := .primitive 'J', accessFlags := 0x411 }
/-- [J -/
def k15 : Class := { plain "[J" (some 0) with kind := .array 14 .long, interfaces := #[6, 7], accessFlags := 1041 }

/-- [Lcom/example/hornconv/hornconv/FactTable$PositionIndex; -/
def k16 : Class := { plain "[Lcom/example/hornconv/hornconv/FactTable$PositionIndex;" (some 0) with kind := .array 4 (.object "com/example/hornconv/hornconv/FactTable$PositionIndex"), interfaces := #[6, 7], accessFlags := 1041 }

def heap : Heap := #[]
def classes : Array Class := #[k0, k1, k2, k3, k4, k5, k6, k7, k8, k9, k10, k11, k12, k13, k14, k15, k16]
def interned : List (Array UInt16 × Addr) := []
def slotsUsed : Nat := 0
def theMethod : MethodId := ⟨1, 1⟩
def args0 : Array Value := #[.long 5, .long 7, .long 9, .int 1]
def aboutOver (below : List Frame) : State where
  vm := { classes := classes, interned := interned.toArray }
  heap := heap
  slotsUsed := slotsUsed
  threads := #[{ frames := .invoking theMethod args0 :: below }]
def below0 : List Frame := [.native { method := ⟨0, 0⟩, args := #[] }]
def about1 : State := aboutOver below0
def p0 : Program := .bare "" "" ""
def e0 : Env := launch0.env 0 0 0
theorem w_frames : about1.frames = Frame.invoking theMethod args0 :: below0 := rfl
set_option maxRecDepth 65536 in
theorem w_args : argsFit about1.vm theMethod args0 = true := by decide +kernel
set_option maxRecDepth 65536 in
theorem w_heap : heapFits about1 = true := by decide +kernel
set_option maxRecDepth 65536 in
theorem w_runnable : about1.curStatus? = some .runnable := by decide +kernel
set_option maxRecDepth 65536 in
theorem w_alone : about1.alone = true := by decide +kernel
set_option maxRecDepth 65536 in
theorem w_named : about1.methodNamed? x = some theMethod := by decide +kernel
set_option maxRecDepth 65536 in
theorem w_hears : about1.hears theMethod below0 = true := by decide +kernel
set_option maxRecDepth 65536 in
theorem w_ripe : about1.ripe theMethod args0 below0 = true := by decide +kernel
theorem w_running : about1.status = .running := rfl
set_option maxRecDepth 65536 in
theorem w_room : about1.hasRoom e0.platform room_1 = true :=
  launch0.hasRoom_least _ room_1 (by decide +kernel) (by decide +kernel) (by decide +kernel) (by decide +kernel) (by decide +kernel) (by decide +kernel)
theorem allAtoms_all (ts : List Jvm.Cond) (a : Array Jvm.Value) (st : Jvm.State) : (allAtoms ts).before a st = ts.all (fun c => c.before a st) := by
  induction ts with
  | nil => rfl
  | cons c t ih =>
    show (Jvm.Cond.and c (allAtoms t)).before a st = _
    rw [Jvm.Cond.before_and, ih, List.all_cons]
def words1 : List Jvm.Cond := Jvm.Cond.code x code maxLocals ret :: tables_1
/-- a 'code' word, met by the world's own term for the bytes: nothing is compared byte by byte -/
theorem code_word {y : MethodName} {bytes : ByteArray} {mx : Nat} {rt : Option FieldType} {a : Array Value} {s : State} {m : MethodId} {meth : Method} {c : Code} (h1 : s.methodNamed? y = some m) (h2 : s.vm.method? m = some meth) (h3 : meth.code = some c) (h4 : c.code = bytes)
    (h5 : (c.maxLocals == mx && c.exceptionTable.isEmpty && decide (c.maxStack ≤ mostOperands) && decide (meth.sig.returnType = rt) && !meth.locks && decide (parseMethodDescriptor y.desc = some meth.sig)) = true) : (Jvm.Cond.code y bytes mx rt).before a s = true := by
  simp only [Bool.and_eq_true, beq_iff_eq, Bool.not_eq_true', decide_eq_true_eq] at h5
  obtain ⟨⟨⟨⟨⟨g1, g2⟩, g3⟩, g4⟩, g5⟩, g6⟩ := h5
  simp [Cond.before, Cond.holds, Cond.value, h1, h2, h3, h4, g1, g2, g3, g4, g5, g6]
def isCode : Jvm.Cond → Bool
  | .code _ _ _ _ => true
  | _ => false
theorem all_split {L : List Jvm.Cond} {P : Jvm.Cond → Bool} (h1 : L.all (fun c => isCode c || P c) = true) (h2 : ∀ c ∈ L.filter isCode, P c = true) : L.all P = true := by
  refine List.all_eq_true.mpr fun c hc => ?_
  have h := List.all_eq_true.mp h1 c hc
  rcases Bool.eq_false_or_eq_true (isCode c) with hi | hi
  · exact h2 c (List.mem_filter.mpr ⟨hc, hi⟩)
  · simpa [hi] using h
set_option maxRecDepth 65536 in
theorem w_c0 : (Jvm.Cond.code x code maxLocals ret).before args0 about1 = true := code_word (m := ⟨1, 1⟩) (meth := k1m1) (c := k1c1) (by decide +kernel) rfl rfl rfl (by decide +kernel)
set_option maxRecDepth 65536 in
theorem w_c1 : (Jvm.Cond.code ({ cls := "com/example/hornconv/hornconv/FactTable", name := "<init>", desc := "(I)V" } : Jvm.MethodName) prog_3_method_1_code (2 : Nat) (Option.none : Option Jvm.ClassFile.FieldType)).before args0 about1 = true := code_word (m := ⟨2, 0⟩) (meth := k2m0) (c := k2c0) (by decide +kernel) rfl rfl rfl (by decide +kernel)
set_option maxRecDepth 65536 in
theorem w_c2 : (Jvm.Cond.code ({ cls := "java/lang/Object", name := "<init>", desc := "()V" } : Jvm.MethodName) object_method_1_code (1 : Nat) (Option.none : Option Jvm.ClassFile.FieldType)).before args0 about1 = true := code_word (m := ⟨0, 0⟩) (meth := k0m0) (c := k0c0) (by decide +kernel) rfl rfl rfl (by decide +kernel)
set_option maxRecDepth 65536 in
theorem w_c3 : (Jvm.Cond.code ({ cls := "java/util/Arrays", name := "fill", desc := "([II)V" } : Jvm.MethodName) jdk_65_method_103_code (4 : Nat) (Option.none : Option Jvm.ClassFile.FieldType)).before args0 about1 = true := code_word (m := ⟨3, 1⟩) (meth := k3m1) (c := k3c1) (by decide +kernel) rfl rfl rfl (by decide +kernel)
set_option maxRecDepth 65536 in
theorem w_c4 : (Jvm.Cond.code ({ cls := "com/example/hornconv/hornconv/FactTable", name := "add", desc := "([I)I" } : Jvm.MethodName) prog_3_method_7_code (6 : Nat) (Option.some Jvm.ClassFile.FieldType.int)).before args0 about1 = true := code_word (m := ⟨2, 2⟩) (meth := k2m2) (c := k2c2) (by decide +kernel) rfl rfl rfl (by decide +kernel)
set_option maxRecDepth 65536 in
theorem w_c5 : (Jvm.Cond.code ({ cls := "com/example/hornconv/hornconv/FactTable", name := "hash", desc := "([II)I" } : Jvm.MethodName) prog_3_method_18_code (5 : Nat) (Option.some Jvm.ClassFile.FieldType.int)).before args0 about1 = true := code_word (m := ⟨2, 6⟩) (meth := k2m6) (c := k2c6) (by decide +kernel) rfl rfl rfl (by decide +kernel)
set_option maxRecDepth 65536 in
theorem w_c6 : (Jvm.Cond.code ({ cls := "com/example/hornconv/hornconv/FactTable", name := "find", desc := "([II)I" } : Jvm.MethodName) prog_3_method_16_code (7 : Nat) (Option.some Jvm.ClassFile.FieldType.int)).before args0 about1 = true := code_word (m := ⟨2, 4⟩) (meth := k2m4) (c := k2c4) (by decide +kernel) rfl rfl rfl (by decide +kernel)
set_option maxRecDepth 65536 in
theorem w_c7 : (Jvm.Cond.code ({ cls := "com/example/hornconv/hornconv/FactTable", name := "remove", desc := "(I)V" } : Jvm.MethodName) prog_3_method_8_code (5 : Nat) (Option.none : Option Jvm.ClassFile.FieldType)).before args0 about1 = true := code_word (m := ⟨2, 3⟩) (meth := k2m3) (c := k2c3) (by decide +kernel) rfl rfl rfl (by decide +kernel)
set_option maxRecDepth 65536 in
theorem w_c8 : (Jvm.Cond.code ({ cls := "com/example/hornconv/hornconv/FactTable", name := "argument", desc := "(II)I" } : Jvm.MethodName) prog_3_method_6_code (3 : Nat) (Option.some Jvm.ClassFile.FieldType.int)).before args0 about1 = true := code_word (m := ⟨2, 1⟩) (meth := k2m1) (c := k2c1) (by decide +kernel) rfl rfl rfl (by decide +kernel)
set_option maxRecDepth 65536 in
theorem w_c9 : (Jvm.Cond.code ({ cls := "com/example/hornconv/hornconv/FactTable", name := "equalsRow", desc := "(I[I)Z" } : Jvm.MethodName) prog_3_method_17_code (5 : Nat) (Option.some Jvm.ClassFile.FieldType.boolean)).before args0 about1 = true := code_word (m := ⟨2, 5⟩) (meth := k2m5) (c := k2c5) (by decide +kernel) rfl rfl rfl (by decide +kernel)
def codes1 : List Jvm.Cond := [Jvm.Cond.code x code maxLocals ret, Jvm.Cond.code ({ cls := "com/example/hornconv/hornconv/FactTable", name := "<init>", desc := "(I)V" } : Jvm.MethodName) prog_3_method_1_code (2 : Nat) (Option.none : Option Jvm.ClassFile.FieldType), Jvm.Cond.code ({ cls := "java/lang/Object", name := "<init>", desc := "()V" } : Jvm.MethodName) object_method_1_code (1 : Nat) (Option.none : Option Jvm.ClassFile.FieldType), Jvm.Cond.code ({ cls := "java/util/Arrays", name := "fill", desc := "([II)V" } : Jvm.MethodName) jdk_65_method_103_code (4 : Nat) (Option.none : Option Jvm.ClassFile.FieldType), Jvm.Cond.code ({ cls := "com/example/hornconv/hornconv/FactTable", name := "add", desc := "([I)I" } : Jvm.MethodName) prog_3_method_7_code (6 : Nat) (Option.some Jvm.ClassFile.FieldType.int), Jvm.Cond.code ({ cls := "com/example/hornconv/hornconv/FactTable", name := "hash", desc := "([II)I" } : Jvm.MethodName) prog_3_method_18_code (5 : Nat) (Option.some Jvm.ClassFile.FieldType.int), Jvm.Cond.code ({ cls := "com/example/hornconv/hornconv/FactTable", name := "find", desc := "([II)I" } : Jvm.MethodName) prog_3_method_16_code (7 : Nat) (Option.some Jvm.ClassFile.FieldType.int), Jvm.Cond.code ({ cls := "com/example/hornconv/hornconv/FactTable", name := "remove", desc := "(I)V" } : Jvm.MethodName) prog_3_method_8_code (5 : Nat) (Option.none : Option Jvm.ClassFile.FieldType), Jvm.Cond.code ({ cls := "com/example/hornconv/hornconv/FactTable", name := "argument", desc := "(II)I" } : Jvm.MethodName) prog_3_method_6_code (3 : Nat) (Option.some Jvm.ClassFile.FieldType.int), Jvm.Cond.code ({ cls := "com/example/hornconv/hornconv/FactTable", name := "equalsRow", desc := "(I[I)Z" } : Jvm.MethodName) prog_3_method_17_code (5 : Nat) (Option.some Jvm.ClassFile.FieldType.boolean)]
set_option maxRecDepth 65536 in
theorem codes_eq : words1.filter isCode = codes1 := rfl
theorem w_codes : ∀ c ∈ words1.filter isCode, c.before args0 about1 = true := by
  rw [codes_eq]
  intro c hc
  simp only [codes1, List.mem_cons, List.not_mem_nil, or_false] at hc
  rcases hc with rfl | rfl | rfl | rfl | rfl | rfl | rfl | rfl | rfl | rfl
  · exact w_c0
  · exact w_c1
  · exact w_c2
  · exact w_c3
  · exact w_c4
  · exact w_c5
  · exact w_c6
  · exact w_c7
  · exact w_c8
  · exact w_c9
set_option maxRecDepth 65536 in
theorem w_t1 : (words1.take 24).all (fun c => isCode c || c.before args0 about1) = true := by decide +kernel
set_option maxRecDepth 65536 in
theorem w_t2 : ((words1.drop 24).take 24).all (fun c => isCode c || c.before args0 about1) = true := by decide +kernel
set_option maxRecDepth 65536 in
theorem w_t3 : ((words1.drop 24).drop 24).all (fun c => isCode c || c.before args0 about1) = true := by decide +kernel
theorem w_tables : (allAtoms (Jvm.Cond.code x code maxLocals ret :: tables_1)).before args0 about1 = true := by
  rw [allAtoms_all]
  show words1.all (fun c => c.before args0 about1) = true
  refine all_split ?_ w_codes
  rw [← List.take_append_drop 24 words1, List.all_append, w_t1, ← List.take_append_drop 24 (words1.drop 24), List.all_append, w_t2, w_t3]
  rfl
set_option maxRecDepth 65536 in
theorem w_case : (Jvm.Cond.and given_1 narrow_1).before args0 about1 = true := by decide +kernel
theorem w_applies : (headSpec (Jvm.Cond.code x code maxLocals ret :: tables_1) room_1).applies x e0.platform about1 = true :=
  (Spec.applies_iff w_frames).mpr ⟨w_running, w_runnable, w_alone, w_named, w_hears, w_ripe, w_room, w_tables⟩
theorem atStart : AtStart classFile x code maxLocals ret World_1 tables_1 room_1 Calls_1 rest_1 Pre_1 launch0 p0 e0 about1 theMethod args0 below0 :=
  ⟨lists_1, trivial, launch0.admits_env _ _ _, launch0.least_env, fairChoices_fair.cas, fairChoices_fair.clock, w_frames, w_args, w_heap, w_applies, trivial, trivial, w_case⟩
end start1
theorem witness_1 : WitnessClaimed_1 := ⟨start1.p0, start1.e0, start1.about1, start1.theMethod, start1.args0, start1.below0, start1.atStart⟩
end Jvm.Pilot.@@N@@
