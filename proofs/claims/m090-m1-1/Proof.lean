import JvmDerived
import JvmDerived.Pilot.@@N@@Statement
import JvmDerived.Pilot.@@N@@Code
set_option linter.unusedVariables false
set_option linter.unusedSimpArgs false
namespace Jvm.OwnKit
open Sem ClassFile Op Lib Jvm.Stand Jvm.Free Jvm.LawKit Jvm.RoadKit Bundle
/-- the run's own things: program, environment, start state, method, arguments, frames below, its record, its code -/
abbrev Cx := Program × Env × State × MethodId × Array Value × List Frame × Method × Code
def Ok (K : Cx) (Z : State) (n0 : Nat) (own : String) (code : ByteArray) (maxL : Nat) (ret : Option FieldType) (nm : String) : Prop :=
  match K with
  | (p, _, s, m, _, _, meth, c) => p.tables.exec = Jvm.exec ∧ Z.Warmed39 s.vm ∧ s.vm.findClass own = some m.cls ∧ c.code = code ∧ c.maxLocals = maxL ∧ meth.sig.returnType = ret ∧ meth.name = nm ∧ meth.locks = false ∧ Old Z n0 s.heap
/-- from heap h, with k cells and n slots made, at pc with locals L and stack S, the run comes to a return that P likes -/
def W (K : Cx) (l : Launch) (R : Room) (n0 : Nat) (P : Option Value → Heap → Prop) (h : Heap) (k n pc : Nat) (L : Array Slot) (S : List Value) : Prop :=
  match K with
  | (p, e, s, m, args, below, meth, c) => ∀ T locs, Stand p l e R s m args below meth c T locs k n → T.heap = h → Fr n0 locs →
    ∃ s₂ o, Steps p.tables e below (T.setTop (mkF m pc L S)) s₂ ∧ s₂.status = .running ∧ Ended s₂ below o ∧ ∃ v L', o = .returned v ∧ (P v s₂.heap ∧ Fr n0 L') ∧ FrameEnd s o s₂ L' R.cells R.slots
/-- a method's contract: called with as' at heap h it returns what Q likes -/
abbrev Met (l : Launch) (Z : State) (n0 : Nat) (y : MethodName) (bytes : ByteArray) (mL : Nat) (rt : Option FieldType) (ws : List Cond) (rm : Room) (as' : Array Value) (h : Heap) (Q : Option Value → Heap → Prop) : Prop :=
  MetFree l y (head1 (Cond.code y bytes mL rt :: ws) rm) (fun a U => a = as' ∧ Z.Warmed39 U.vm ∧ U.heap = h) (fun _ _ _ _ _ => True) (fun _ U o U' => ∃ v L, o = .returned v ∧ (Q v U'.heap ∧ Fr n0 L) ∧ FrameEnd U o U' L rm.cells rm.slots)
theorem old_now {p : Program} {l : Launch} {e : Env} {R : Room} {s : State} {m : MethodId} {args : Array Value} {below : List Frame} {meth : Method} {c : Code} {T : State} {locs : List Loc} {k n : Nat} {Z : State} {n0 : Nat} (O : Old Z n0 s.heap) (X : Stand p l e R s m args below meth c T locs k n) (N : Fr n0 locs) : Old Z n0 T.heap := by
  refine ⟨O.1, Nat.le_trans O.2.1 X.same.2.1, fun a c hc => ?_⟩
  have h1 := O.2.2 a c hc
  have ha : a < n0 := O.1 ▸ (Array.getElem?_eq_some_iff.mp hc).1
  obtain ⟨c', q1, q2, q3, q4⟩ := X.same.2.2.2.2.2 a c h1
  have q5 : c'.slots = c.slots := Array.ext_getElem? fun i => q4 i fun hm => Nat.lt_irrefl _ (Nat.lt_of_lt_of_le ha (N _ hm))
  rw [q5] at q2
  have q6 : T.heap[a]? = some c' := q1
  rw [q6, q2]
theorem old_ge {p : Program} {l : Launch} {e : Env} {R : Room} {s : State} {m : MethodId} {args : Array Value} {below : List Frame} {meth : Method} {c : Code} {T : State} {locs : List Loc} {k n : Nat} {Z : State} {n0 : Nat} (O : Old Z n0 s.heap) (X : Stand p l e R s m args below meth c T locs k n) (N : Fr n0 locs) : n0 ≤ T.heap.size := by
  have q := old_now O X N
  rw [← q.1]; exact q.2.1
theorem met_of {l : Launch} {Z : State} {n0 : Nat} {y : MethodName} {bytes : ByteArray} {mL : Nat} {rt : Option FieldType} {ws : List Cond} {rm : Room} {as' : Array Value} {h : Heap} {Q : Option Value → Heap → Prop} (Z0 : Old Z n0 h) (pn : plainFor y = true) {Ls : Array Slot} (ef : ∀ m, entryFrame m as' mL = mkF m 0 Ls [])
    (H : ∀ K, Ok K Z n0 y.cls bytes mL rt y.name → W K l rm n0 Q h 0 0 0 Ls []) : Met l Z n0 y bytes mL rt ws rm as' h Q := by
  refine MetFree.of_bodySF pn hisR ?_
  intro p e s m args below meth c s₁ Bd hml0 hP hK
  obtain ⟨rfl, hZ, hh⟩ := hP
  have hnm := (name_of_methodNamed Bd.named Bd.method).1
  have X0 : Stand p l e rm s m args below meth c s₁ [] 0 0 := Stand.of_body Bd
  have e0 : s₁.heap = h := by rw [← hh, Bd.state]; rfl
  obtain ⟨s₂, o, st, r⟩ := H (p, e, s, m, args, below, meth, c) ⟨Bd.exec, hZ, findClass_of_methodNamed Bd.named, Bd.bytes, hml0, Bd.returns, hnm, Bd.notSynchronized, by show Old Z n0 s.heap; rw [hh]; exact Z0⟩ s₁ [] X0 e0 (Fr.nil n0)
  exact ⟨s₂, o, castTop (ef m) st, r⟩
section S
variable {K : Cx} {l : Launch} {R : Room} {Z : State} {n0 : Nat} {P : Option Value → Heap → Prop} {h : Heap} {k n pc : Nat} {L : Array Slot} {S : List Value} {own : String} {code : ByteArray} {maxL : Nat} {ret : Option FieldType} {nm : String} {a0 : Array Value}
theorem W.mono {P' : Option Value → Heap → Prop} (q : ∀ v h, P v h → P' v h) (w : W K l R n0 P h k n pc L S) : W K l R n0 P' h k n pc L S := by
  obtain ⟨p, e, s, m, args, below, meth, c⟩ := K
  intro T locs X eT N
  obtain ⟨s₂, o, st, r1, r2, v, L', r3, ⟨r4, r5⟩, r6⟩ := w T locs X eT N
  exact ⟨s₂, o, st, r1, r2, v, L', r3, ⟨q _ _ r4, r5⟩, r6⟩
theorem W.more {k' n' : Nat} (w : W K l R n0 P h k' n' pc L S) (hk : k ≤ k') (hn : n ≤ n') : W K l R n0 P h k n pc L S := by
  obtain ⟨p, e, s, m, args, below, meth, c⟩ := K
  intro T locs X eT N
  exact w T locs (X.more hk hn) eT N
theorem w_iloadN (ok : Ok K Z n0 own code maxL ret nm) {i : Fin 4} {v : Int32} (hd : decode code pc = .ok (.iload_n i, 1)) (hl : L[i.val]? = some (.val (.int v))) (w : W K l R n0 P h k n (pc + 1) L (.int v :: S)) : W K l R n0 P h k n pc L (S) := by
  obtain ⟨p, e, s, m, args, below, meth, c⟩ := K
  obtain ⟨hx, hZ, hown, hby, -⟩ := ok
  intro T locs X eT N
  obtain ⟨s₂, o, st, r⟩ := w T locs X eT N
  exact ⟨s₂, o, XS.iloadN X.here hx rfl (hb hby hd) hl st, r⟩
theorem w_iload (ok : Ok K Z n0 own code maxL ret nm) {i : Nat} {v : Int32} (hd : decode code pc = .ok (.iload i, 2)) (hl : L[i]? = some (.val (.int v))) (w : W K l R n0 P h k n (pc + 2) L (.int v :: S)) : W K l R n0 P h k n pc L (S) := by
  obtain ⟨p, e, s, m, args, below, meth, c⟩ := K
  obtain ⟨hx, hZ, hown, hby, -⟩ := ok
  intro T locs X eT N
  obtain ⟨s₂, o, st, r⟩ := w T locs X eT N
  exact ⟨s₂, o, XS.iload X.here hx rfl (hb hby hd) hl st, r⟩
theorem w_istoreN (ok : Ok K Z n0 own code maxL ret nm) {i : Fin 4} {v : Int32} {L' : Array Slot} (hd : decode code pc = .ok (.istore_n i, 1)) (hl : storeLocals L i.val (.int v) = some L') (w : W K l R n0 P h k n (pc + 1) L' (S)) : W K l R n0 P h k n pc L (.int v :: S) := by
  obtain ⟨p, e, s, m, args, below, meth, c⟩ := K
  obtain ⟨hx, hZ, hown, hby, -⟩ := ok
  intro T locs X eT N
  obtain ⟨s₂, o, st, r⟩ := w T locs X eT N
  exact ⟨s₂, o, XS.istoreN X.here hx rfl (hb hby hd) rfl hl st, r⟩
theorem w_istore (ok : Ok K Z n0 own code maxL ret nm) {i : Nat} {v : Int32} {L' : Array Slot} (hd : decode code pc = .ok (.istore i, 2)) (hl : storeLocals L i (.int v) = some L') (w : W K l R n0 P h k n (pc + 2) L' (S)) : W K l R n0 P h k n pc L (.int v :: S) := by
  obtain ⟨p, e, s, m, args, below, meth, c⟩ := K
  obtain ⟨hx, hZ, hown, hby, -⟩ := ok
  intro T locs X eT N
  obtain ⟨s₂, o, st, r⟩ := w T locs X eT N
  exact ⟨s₂, o, XS.istore X.here hx rfl (hb hby hd) rfl hl st, r⟩
theorem w_lloadN (ok : Ok K Z n0 own code maxL ret nm) {i : Fin 4} {v : Int64} (hd : decode code pc = .ok (.lload_n i, 1)) (hl : L[i.val]? = some (.val (.long v))) (w : W K l R n0 P h k n (pc + 1) L (.long v :: S)) : W K l R n0 P h k n pc L (S) := by
  obtain ⟨p, e, s, m, args, below, meth, c⟩ := K
  obtain ⟨hx, hZ, hown, hby, -⟩ := ok
  intro T locs X eT N
  obtain ⟨s₂, o, st, r⟩ := w T locs X eT N
  exact ⟨s₂, o, XS.lloadN X.here hx rfl (hb hby hd) hl st, r⟩
theorem w_lload (ok : Ok K Z n0 own code maxL ret nm) {i : Nat} {v : Int64} (hd : decode code pc = .ok (.lload i, 2)) (hl : L[i]? = some (.val (.long v))) (w : W K l R n0 P h k n (pc + 2) L (.long v :: S)) : W K l R n0 P h k n pc L (S) := by
  obtain ⟨p, e, s, m, args, below, meth, c⟩ := K
  obtain ⟨hx, hZ, hown, hby, -⟩ := ok
  intro T locs X eT N
  obtain ⟨s₂, o, st, r⟩ := w T locs X eT N
  exact ⟨s₂, o, XS.lload X.here hx rfl (hb hby hd) hl st, r⟩
theorem w_lstoreN (ok : Ok K Z n0 own code maxL ret nm) {i : Fin 4} {v : Int64} {L' : Array Slot} (hd : decode code pc = .ok (.lstore_n i, 1)) (hl : storeLocals L i.val (.long v) = some L') (w : W K l R n0 P h k n (pc + 1) L' (S)) : W K l R n0 P h k n pc L (.long v :: S) := by
  obtain ⟨p, e, s, m, args, below, meth, c⟩ := K
  obtain ⟨hx, hZ, hown, hby, -⟩ := ok
  intro T locs X eT N
  obtain ⟨s₂, o, st, r⟩ := w T locs X eT N
  exact ⟨s₂, o, XS.lstoreN X.here hx rfl (hb hby hd) rfl hl st, r⟩
theorem w_lstore (ok : Ok K Z n0 own code maxL ret nm) {i : Nat} {v : Int64} {L' : Array Slot} (hd : decode code pc = .ok (.lstore i, 2)) (hl : storeLocals L i (.long v) = some L') (w : W K l R n0 P h k n (pc + 2) L' (S)) : W K l R n0 P h k n pc L (.long v :: S) := by
  obtain ⟨p, e, s, m, args, below, meth, c⟩ := K
  obtain ⟨hx, hZ, hown, hby, -⟩ := ok
  intro T locs X eT N
  obtain ⟨s₂, o, st, r⟩ := w T locs X eT N
  exact ⟨s₂, o, XS.lstore X.here hx rfl (hb hby hd) rfl hl st, r⟩
theorem w_aloadN (ok : Ok K Z n0 own code maxL ret nm) {i : Fin 4} {v : Value} (hd : decode code pc = .ok (.aload_n i, 1)) (hl : L[i.val]? = some (.val v)) (hv : v.isRef = true) (w : W K l R n0 P h k n (pc + 1) L (v :: S)) : W K l R n0 P h k n pc L (S) := by
  obtain ⟨p, e, s, m, args, below, meth, c⟩ := K
  obtain ⟨hx, hZ, hown, hby, -⟩ := ok
  intro T locs X eT N
  obtain ⟨s₂, o, st, r⟩ := w T locs X eT N
  exact ⟨s₂, o, XS.aloadN X.here hx rfl (hb hby hd) hl hv st, r⟩
theorem w_aload (ok : Ok K Z n0 own code maxL ret nm) {i : Nat} {v : Value} (hd : decode code pc = .ok (.aload i, 2)) (hl : L[i]? = some (.val v)) (hv : v.isRef = true) (w : W K l R n0 P h k n (pc + 2) L (v :: S)) : W K l R n0 P h k n pc L (S) := by
  obtain ⟨p, e, s, m, args, below, meth, c⟩ := K
  obtain ⟨hx, hZ, hown, hby, -⟩ := ok
  intro T locs X eT N
  obtain ⟨s₂, o, st, r⟩ := w T locs X eT N
  exact ⟨s₂, o, XS.aload X.here hx rfl (hb hby hd) hl hv st, r⟩
theorem w_astoreN (ok : Ok K Z n0 own code maxL ret nm) {i : Fin 4} {v : Value} {L' : Array Slot} (hd : decode code pc = .ok (.astore_n i, 1)) (hv : v.isRef = true) (hl : storeLocals L i.val v = some L') (w : W K l R n0 P h k n (pc + 1) L' (S)) : W K l R n0 P h k n pc L (v :: S) := by
  obtain ⟨p, e, s, m, args, below, meth, c⟩ := K
  obtain ⟨hx, hZ, hown, hby, -⟩ := ok
  intro T locs X eT N
  obtain ⟨s₂, o, st, r⟩ := w T locs X eT N
  exact ⟨s₂, o, XS.astoreN X.here hx rfl (hb hby hd) rfl hv hl st, r⟩
theorem w_astore (ok : Ok K Z n0 own code maxL ret nm) {i : Nat} {v : Value} {L' : Array Slot} (hd : decode code pc = .ok (.astore i, 2)) (hv : v.isRef = true) (hl : storeLocals L i v = some L') (w : W K l R n0 P h k n (pc + 2) L' (S)) : W K l R n0 P h k n pc L (v :: S) := by
  obtain ⟨p, e, s, m, args, below, meth, c⟩ := K
  obtain ⟨hx, hZ, hown, hby, -⟩ := ok
  intro T locs X eT N
  obtain ⟨s₂, o, st, r⟩ := w T locs X eT N
  exact ⟨s₂, o, XS.astore X.here hx rfl (hb hby hd) rfl hv hl st, r⟩
theorem w_iconst (ok : Ok K Z n0 own code maxL ret nm) {i : Int} {v : Int32} (hd : decode code pc = .ok (.iconst i, 1)) (hv : Int32.ofInt i = v) (w : W K l R n0 P h k n (pc + 1) L (.int v :: S)) : W K l R n0 P h k n pc L (S) := by
  obtain ⟨p, e, s, m, args, below, meth, c⟩ := K
  obtain ⟨hx, hZ, hown, hby, -⟩ := ok
  intro T locs X eT N
  obtain ⟨s₂, o, st, r⟩ := w T locs X eT N
  exact ⟨s₂, o, XS.iconst X.here hx rfl (hb hby hd) (hv ▸ st), r⟩
theorem w_bipush (ok : Ok K Z n0 own code maxL ret nm) {i : Int} {v : Int32} (hd : decode code pc = .ok (.bipush i, 2)) (hv : (Int8.ofInt i).toInt32 = v) (w : W K l R n0 P h k n (pc + 2) L (.int v :: S)) : W K l R n0 P h k n pc L (S) := by
  obtain ⟨p, e, s, m, args, below, meth, c⟩ := K
  obtain ⟨hx, hZ, hown, hby, -⟩ := ok
  intro T locs X eT N
  obtain ⟨s₂, o, st, r⟩ := w T locs X eT N
  exact ⟨s₂, o, XS.bipush X.here hx rfl (hb hby hd) (hv ▸ st), r⟩
theorem w_sipush (ok : Ok K Z n0 own code maxL ret nm) {i : Int} {v : Int32} (hd : decode code pc = .ok (.sipush i, 3)) (hv : (Int16.ofInt i).toInt32 = v) (w : W K l R n0 P h k n (pc + 3) L (.int v :: S)) : W K l R n0 P h k n pc L (S) := by
  obtain ⟨p, e, s, m, args, below, meth, c⟩ := K
  obtain ⟨hx, hZ, hown, hby, -⟩ := ok
  intro T locs X eT N
  obtain ⟨s₂, o, st, r⟩ := w T locs X eT N
  exact ⟨s₂, o, XS.sipush X.here hx rfl (hb hby hd) (hv ▸ st), r⟩
theorem w_lconst (ok : Ok K Z n0 own code maxL ret nm) {i : Fin 2} {v : Int64} (hd : decode code pc = .ok (.lconst i, 1)) (hv : Int64.ofNat i = v) (w : W K l R n0 P h k n (pc + 1) L (.long v :: S)) : W K l R n0 P h k n pc L (S) := by
  obtain ⟨p, e, s, m, args, below, meth, c⟩ := K
  obtain ⟨hx, hZ, hown, hby, -⟩ := ok
  intro T locs X eT N
  obtain ⟨s₂, o, st, r⟩ := w T locs X eT N
  exact ⟨s₂, o, XS.lconst X.here hx rfl (hb hby hd) (hv ▸ st), r⟩
theorem w_aconstNull (ok : Ok K Z n0 own code maxL ret nm)  (hd : decode code pc = .ok (.aconst_null, 1)) (w : W K l R n0 P h k n (pc + 1) L (.null :: S)) : W K l R n0 P h k n pc L (S) := by
  obtain ⟨p, e, s, m, args, below, meth, c⟩ := K
  obtain ⟨hx, hZ, hown, hby, -⟩ := ok
  intro T locs X eT N
  obtain ⟨s₂, o, st, r⟩ := w T locs X eT N
  exact ⟨s₂, o, XS.aconstNull X.here hx rfl (hb hby hd)  st, r⟩
theorem w_dup (ok : Ok K Z n0 own code maxL ret nm) {v : Value} (hd : decode code pc = .ok (.dup, 1)) (hv : v.category = 1) (w : W K l R n0 P h k n (pc + 1) L (v :: v :: S)) : W K l R n0 P h k n pc L (v :: S) := by
  obtain ⟨p, e, s, m, args, below, meth, c⟩ := K
  obtain ⟨hx, hZ, hown, hby, -⟩ := ok
  intro T locs X eT N
  obtain ⟨s₂, o, st, r⟩ := w T locs X eT N
  exact ⟨s₂, o, XS.dup X.here hx rfl (hb hby hd) rfl hv st, r⟩
theorem w_dupX1 (ok : Ok K Z n0 own code maxL ret nm) {v u : Value} (hd : decode code pc = .ok (.dup_x1, 1)) (hv : v.category = 1) (hu : u.category = 1) (w : W K l R n0 P h k n (pc + 1) L (v :: u :: v :: S)) : W K l R n0 P h k n pc L (v :: u :: S) := by
  obtain ⟨p, e, s, m, args, below, meth, c⟩ := K
  obtain ⟨hx, hZ, hown, hby, -⟩ := ok
  intro T locs X eT N
  obtain ⟨s₂, o, st, r⟩ := w T locs X eT N
  exact ⟨s₂, o, XS.dupX1 X.here hx rfl (hb hby hd) rfl hv hu st, r⟩
theorem w_pop (ok : Ok K Z n0 own code maxL ret nm) {v : Value} (hd : decode code pc = .ok (.pop, 1)) (hv : v.category = 1) (w : W K l R n0 P h k n (pc + 1) L (S)) : W K l R n0 P h k n pc L (v :: S) := by
  obtain ⟨p, e, s, m, args, below, meth, c⟩ := K
  obtain ⟨hx, hZ, hown, hby, -⟩ := ok
  intro T locs X eT N
  obtain ⟨s₂, o, st, r⟩ := w T locs X eT N
  exact ⟨s₂, o, XS.pop X.here hx rfl (hb hby hd) rfl hv st, r⟩
theorem w_dup2 (ok : Ok K Z n0 own code maxL ret nm) {v u : Value} (hd : decode code pc = .ok (.dup2, 1)) (hv : v.category = 1) (hu : u.category = 1) (w : W K l R n0 P h k n (pc + 1) L (v :: u :: v :: u :: S)) : W K l R n0 P h k n pc L (v :: u :: S) := by
  obtain ⟨p, e, s, m, args, below, meth, c⟩ := K
  obtain ⟨hx, hZ, hown, hby, -⟩ := ok
  intro T locs X eT N
  obtain ⟨s₂, o, st, r⟩ := w T locs X eT N
  exact ⟨s₂, o, XT.dup2 X.here hx rfl (hb hby hd) rfl hv hu st, r⟩
theorem w_iinc (ok : Ok K Z n0 own code maxL ret nm) {i : Nat} {c : Int} {v u : Int32} {L' : Array Slot} (hd : decode code pc = .ok (.iinc i c, 3)) (hu : Int32.ofInt c = u) (hl : L[i]? = some (.val (.int v))) (hl' : storeLocals L i (.int (v + u)) = some L') (w : W K l R n0 P h k n (pc + 3) L' (S)) : W K l R n0 P h k n pc L (S) := by
  obtain ⟨p, e, s, m, args, below, meth, c⟩ := K
  obtain ⟨hx, hZ, hown, hby, -⟩ := ok
  intro T locs X eT N
  obtain ⟨s₂, o, st, r⟩ := w T locs X eT N
  exact ⟨s₂, o, XS.iinc X.here hx rfl (hb hby hd) hl (by rw [hu]; exact hl') st, r⟩
theorem w_iadd (ok : Ok K Z n0 own code maxL ret nm) {x y : Int32} (hd : decode code pc = .ok (.iadd, 1)) (w : W K l R n0 P h k n (pc + 1) L (.int (x + y) :: S)) : W K l R n0 P h k n pc L (.int y :: .int x :: S) := by
  obtain ⟨p, e, s, m, args, below, meth, c⟩ := K
  obtain ⟨hx, hZ, hown, hby, -⟩ := ok
  intro T locs X eT N
  obtain ⟨s₂, o, st, r⟩ := w T locs X eT N
  exact ⟨s₂, o, XS.iadd X.here hx rfl (hb hby hd) rfl st, r⟩
theorem w_isub (ok : Ok K Z n0 own code maxL ret nm) {x y : Int32} (hd : decode code pc = .ok (.isub, 1)) (w : W K l R n0 P h k n (pc + 1) L (.int (x - y) :: S)) : W K l R n0 P h k n pc L (.int y :: .int x :: S) := by
  obtain ⟨p, e, s, m, args, below, meth, c⟩ := K
  obtain ⟨hx, hZ, hown, hby, -⟩ := ok
  intro T locs X eT N
  obtain ⟨s₂, o, st, r⟩ := w T locs X eT N
  exact ⟨s₂, o, XS.isub X.here hx rfl (hb hby hd) rfl st, r⟩
theorem w_imul (ok : Ok K Z n0 own code maxL ret nm) {x y : Int32} (hd : decode code pc = .ok (.imul, 1)) (w : W K l R n0 P h k n (pc + 1) L (.int (x * y) :: S)) : W K l R n0 P h k n pc L (.int y :: .int x :: S) := by
  obtain ⟨p, e, s, m, args, below, meth, c⟩ := K
  obtain ⟨hx, hZ, hown, hby, -⟩ := ok
  intro T locs X eT N
  obtain ⟨s₂, o, st, r⟩ := w T locs X eT N
  exact ⟨s₂, o, XS.imul X.here hx rfl (hb hby hd) rfl st, r⟩
theorem w_iand (ok : Ok K Z n0 own code maxL ret nm) {x y : Int32} (hd : decode code pc = .ok (.iand, 1)) (w : W K l R n0 P h k n (pc + 1) L (.int (x &&& y) :: S)) : W K l R n0 P h k n pc L (.int y :: .int x :: S) := by
  obtain ⟨p, e, s, m, args, below, meth, c⟩ := K
  obtain ⟨hx, hZ, hown, hby, -⟩ := ok
  intro T locs X eT N
  obtain ⟨s₂, o, st, r⟩ := w T locs X eT N
  exact ⟨s₂, o, XS.iand X.here hx rfl (hb hby hd) rfl st, r⟩
theorem w_ior (ok : Ok K Z n0 own code maxL ret nm) {x y : Int32} (hd : decode code pc = .ok (.ior, 1)) (w : W K l R n0 P h k n (pc + 1) L (.int (x ||| y) :: S)) : W K l R n0 P h k n pc L (.int y :: .int x :: S) := by
  obtain ⟨p, e, s, m, args, below, meth, c⟩ := K
  obtain ⟨hx, hZ, hown, hby, -⟩ := ok
  intro T locs X eT N
  obtain ⟨s₂, o, st, r⟩ := w T locs X eT N
  exact ⟨s₂, o, XS.ior X.here hx rfl (hb hby hd) rfl st, r⟩
theorem w_ixor (ok : Ok K Z n0 own code maxL ret nm) {x y : Int32} (hd : decode code pc = .ok (.ixor, 1)) (w : W K l R n0 P h k n (pc + 1) L (.int (x ^^^ y) :: S)) : W K l R n0 P h k n pc L (.int y :: .int x :: S) := by
  obtain ⟨p, e, s, m, args, below, meth, c⟩ := K
  obtain ⟨hx, hZ, hown, hby, -⟩ := ok
  intro T locs X eT N
  obtain ⟨s₂, o, st, r⟩ := w T locs X eT N
  exact ⟨s₂, o, XS.ixor X.here hx rfl (hb hby hd) rfl st, r⟩
theorem w_ishl (ok : Ok K Z n0 own code maxL ret nm) {x y : Int32} (hd : decode code pc = .ok (.ishl, 1)) (w : W K l R n0 P h k n (pc + 1) L (.int (x <<< (y &&& 31)) :: S)) : W K l R n0 P h k n pc L (.int y :: .int x :: S) := by
  obtain ⟨p, e, s, m, args, below, meth, c⟩ := K
  obtain ⟨hx, hZ, hown, hby, -⟩ := ok
  intro T locs X eT N
  obtain ⟨s₂, o, st, r⟩ := w T locs X eT N
  exact ⟨s₂, o, XS.ishl X.here hx rfl (hb hby hd) rfl st, r⟩
theorem w_ishr (ok : Ok K Z n0 own code maxL ret nm) {x y : Int32} (hd : decode code pc = .ok (.ishr, 1)) (w : W K l R n0 P h k n (pc + 1) L (.int (x >>> (y &&& 31)) :: S)) : W K l R n0 P h k n pc L (.int y :: .int x :: S) := by
  obtain ⟨p, e, s, m, args, below, meth, c⟩ := K
  obtain ⟨hx, hZ, hown, hby, -⟩ := ok
  intro T locs X eT N
  obtain ⟨s₂, o, st, r⟩ := w T locs X eT N
  exact ⟨s₂, o, XS.ishr X.here hx rfl (hb hby hd) rfl st, r⟩
theorem w_iushr (ok : Ok K Z n0 own code maxL ret nm) {x y : Int32} (hd : decode code pc = .ok (.iushr, 1)) (w : W K l R n0 P h k n (pc + 1) L (.int (XT.ushr x y) :: S)) : W K l R n0 P h k n pc L (.int y :: .int x :: S) := by
  obtain ⟨p, e, s, m, args, below, meth, c⟩ := K
  obtain ⟨hx, hZ, hown, hby, -⟩ := ok
  intro T locs X eT N
  obtain ⟨s₂, o, st, r⟩ := w T locs X eT N
  exact ⟨s₂, o, XS.iushr X.here hx rfl (hb hby hd) rfl st, r⟩
theorem w_ladd (ok : Ok K Z n0 own code maxL ret nm) {x y : Int64} (hd : decode code pc = .ok (.ladd, 1)) (w : W K l R n0 P h k n (pc + 1) L (.long (x + y) :: S)) : W K l R n0 P h k n pc L (.long y :: .long x :: S) := by
  obtain ⟨p, e, s, m, args, below, meth, c⟩ := K
  obtain ⟨hx, hZ, hown, hby, -⟩ := ok
  intro T locs X eT N
  obtain ⟨s₂, o, st, r⟩ := w T locs X eT N
  exact ⟨s₂, o, XS.ladd X.here hx rfl (hb hby hd) rfl st, r⟩
theorem w_lsub (ok : Ok K Z n0 own code maxL ret nm) {x y : Int64} (hd : decode code pc = .ok (.lsub, 1)) (w : W K l R n0 P h k n (pc + 1) L (.long (x - y) :: S)) : W K l R n0 P h k n pc L (.long y :: .long x :: S) := by
  obtain ⟨p, e, s, m, args, below, meth, c⟩ := K
  obtain ⟨hx, hZ, hown, hby, -⟩ := ok
  intro T locs X eT N
  obtain ⟨s₂, o, st, r⟩ := w T locs X eT N
  exact ⟨s₂, o, XS.lsub X.here hx rfl (hb hby hd) rfl st, r⟩
theorem w_lmul (ok : Ok K Z n0 own code maxL ret nm) {x y : Int64} (hd : decode code pc = .ok (.lmul, 1)) (w : W K l R n0 P h k n (pc + 1) L (.long (x * y) :: S)) : W K l R n0 P h k n pc L (.long y :: .long x :: S) := by
  obtain ⟨p, e, s, m, args, below, meth, c⟩ := K
  obtain ⟨hx, hZ, hown, hby, -⟩ := ok
  intro T locs X eT N
  obtain ⟨s₂, o, st, r⟩ := w T locs X eT N
  exact ⟨s₂, o, XS.lmul X.here hx rfl (hb hby hd) rfl st, r⟩
theorem w_land (ok : Ok K Z n0 own code maxL ret nm) {x y : Int64} (hd : decode code pc = .ok (.land, 1)) (w : W K l R n0 P h k n (pc + 1) L (.long (x &&& y) :: S)) : W K l R n0 P h k n pc L (.long y :: .long x :: S) := by
  obtain ⟨p, e, s, m, args, below, meth, c⟩ := K
  obtain ⟨hx, hZ, hown, hby, -⟩ := ok
  intro T locs X eT N
  obtain ⟨s₂, o, st, r⟩ := w T locs X eT N
  exact ⟨s₂, o, XS.land X.here hx rfl (hb hby hd) rfl st, r⟩
theorem w_lor (ok : Ok K Z n0 own code maxL ret nm) {x y : Int64} (hd : decode code pc = .ok (.lor, 1)) (w : W K l R n0 P h k n (pc + 1) L (.long (x ||| y) :: S)) : W K l R n0 P h k n pc L (.long y :: .long x :: S) := by
  obtain ⟨p, e, s, m, args, below, meth, c⟩ := K
  obtain ⟨hx, hZ, hown, hby, -⟩ := ok
  intro T locs X eT N
  obtain ⟨s₂, o, st, r⟩ := w T locs X eT N
  exact ⟨s₂, o, XS.lor X.here hx rfl (hb hby hd) rfl st, r⟩
theorem w_lxor (ok : Ok K Z n0 own code maxL ret nm) {x y : Int64} (hd : decode code pc = .ok (.lxor, 1)) (w : W K l R n0 P h k n (pc + 1) L (.long (x ^^^ y) :: S)) : W K l R n0 P h k n pc L (.long y :: .long x :: S) := by
  obtain ⟨p, e, s, m, args, below, meth, c⟩ := K
  obtain ⟨hx, hZ, hown, hby, -⟩ := ok
  intro T locs X eT N
  obtain ⟨s₂, o, st, r⟩ := w T locs X eT N
  exact ⟨s₂, o, XS.lxor X.here hx rfl (hb hby hd) rfl st, r⟩
theorem w_lshl (ok : Ok K Z n0 own code maxL ret nm) {x : Int64} {y : Int32} (hd : decode code pc = .ok (.lshl, 1)) (w : W K l R n0 P h k n (pc + 1) L (.long (x <<< (y &&& 0x3f).toInt64) :: S)) : W K l R n0 P h k n pc L (.int y :: .long x :: S) := by
  obtain ⟨p, e, s, m, args, below, meth, c⟩ := K
  obtain ⟨hx, hZ, hown, hby, -⟩ := ok
  intro T locs X eT N
  obtain ⟨s₂, o, st, r⟩ := w T locs X eT N
  exact ⟨s₂, o, XS.lshl X.here hx rfl (hb hby hd) rfl st, r⟩
theorem w_lshr (ok : Ok K Z n0 own code maxL ret nm) {x : Int64} {y : Int32} (hd : decode code pc = .ok (.lshr, 1)) (w : W K l R n0 P h k n (pc + 1) L (.long (x >>> (y &&& 0x3f).toInt64) :: S)) : W K l R n0 P h k n pc L (.int y :: .long x :: S) := by
  obtain ⟨p, e, s, m, args, below, meth, c⟩ := K
  obtain ⟨hx, hZ, hown, hby, -⟩ := ok
  intro T locs X eT N
  obtain ⟨s₂, o, st, r⟩ := w T locs X eT N
  exact ⟨s₂, o, XS.lshr X.here hx rfl (hb hby hd) rfl st, r⟩
theorem w_lushr (ok : Ok K Z n0 own code maxL ret nm) {x : Int64} {y : Int32} (hd : decode code pc = .ok (.lushr, 1)) (w : W K l R n0 P h k n (pc + 1) L (.long ((x.toUInt64 >>> (y &&& 0x3f).toInt64.toUInt64).toInt64) :: S)) : W K l R n0 P h k n pc L (.int y :: .long x :: S) := by
  obtain ⟨p, e, s, m, args, below, meth, c⟩ := K
  obtain ⟨hx, hZ, hown, hby, -⟩ := ok
  intro T locs X eT N
  obtain ⟨s₂, o, st, r⟩ := w T locs X eT N
  exact ⟨s₂, o, XS.lushr X.here hx rfl (hb hby hd) rfl st, r⟩
theorem w_i2l (ok : Ok K Z n0 own code maxL ret nm) {x : Int32} (hd : decode code pc = .ok (.i2l, 1)) (w : W K l R n0 P h k n (pc + 1) L (.long (x.toInt64) :: S)) : W K l R n0 P h k n pc L (.int x :: S) := by
  obtain ⟨p, e, s, m, args, below, meth, c⟩ := K
  obtain ⟨hx, hZ, hown, hby, -⟩ := ok
  intro T locs X eT N
  obtain ⟨s₂, o, st, r⟩ := w T locs X eT N
  exact ⟨s₂, o, XS.i2l X.here hx rfl (hb hby hd) rfl st, r⟩
theorem w_l2i (ok : Ok K Z n0 own code maxL ret nm) {x : Int64} (hd : decode code pc = .ok (.l2i, 1)) (w : W K l R n0 P h k n (pc + 1) L (.int (x.toInt32) :: S)) : W K l R n0 P h k n pc L (.long x :: S) := by
  obtain ⟨p, e, s, m, args, below, meth, c⟩ := K
  obtain ⟨hx, hZ, hown, hby, -⟩ := ok
  intro T locs X eT N
  obtain ⟨s₂, o, st, r⟩ := w T locs X eT N
  exact ⟨s₂, o, XS.l2i X.here hx rfl (hb hby hd) rfl st, r⟩
theorem w_i2b (ok : Ok K Z n0 own code maxL ret nm) {x : Int32} (hd : decode code pc = .ok (.i2b, 1)) (w : W K l R n0 P h k n (pc + 1) L (.int (x.toInt8.toInt32) :: S)) : W K l R n0 P h k n pc L (.int x :: S) := by
  obtain ⟨p, e, s, m, args, below, meth, c⟩ := K
  obtain ⟨hx, hZ, hown, hby, -⟩ := ok
  intro T locs X eT N
  obtain ⟨s₂, o, st, r⟩ := w T locs X eT N
  exact ⟨s₂, o, XS.i2b X.here hx rfl (hb hby hd) rfl st, r⟩
theorem w_i2c (ok : Ok K Z n0 own code maxL ret nm) {x : Int32} (hd : decode code pc = .ok (.i2c, 1)) (w : W K l R n0 P h k n (pc + 1) L (.int (x.toUInt32.toUInt16.toUInt32.toInt32) :: S)) : W K l R n0 P h k n pc L (.int x :: S) := by
  obtain ⟨p, e, s, m, args, below, meth, c⟩ := K
  obtain ⟨hx, hZ, hown, hby, -⟩ := ok
  intro T locs X eT N
  obtain ⟨s₂, o, st, r⟩ := w T locs X eT N
  exact ⟨s₂, o, XS.i2c X.here hx rfl (hb hby hd) rfl st, r⟩
theorem w_ineg (ok : Ok K Z n0 own code maxL ret nm) {x : Int32} (hd : decode code pc = .ok (.ineg, 1)) (w : W K l R n0 P h k n (pc + 1) L (.int (-x) :: S)) : W K l R n0 P h k n pc L (.int x :: S) := by
  obtain ⟨p, e, s, m, args, below, meth, c⟩ := K
  obtain ⟨hx, hZ, hown, hby, -⟩ := ok
  intro T locs X eT N
  obtain ⟨s₂, o, st, r⟩ := w T locs X eT N
  exact ⟨s₂, o, XS.ineg X.here hx rfl (hb hby hd) rfl st, r⟩
theorem w_idiv (ok : Ok K Z n0 own code maxL ret nm) {x y : Int32} (hd : decode code pc = .ok (.idiv, 1)) (hy : y ≠ 0) (w : W K l R n0 P h k n (pc + 1) L (.int (x / y) :: S)) : W K l R n0 P h k n pc L (.int y :: .int x :: S) := by
  obtain ⟨p, e, s, m, args, below, meth, c⟩ := K
  obtain ⟨hx, hZ, hown, hby, -⟩ := ok
  intro T locs X eT N
  obtain ⟨s₂, o, st, r⟩ := w T locs X eT N
  exact ⟨s₂, o, XS.idiv X.here hx rfl (hb hby hd) rfl hy st, r⟩
theorem w_irem (ok : Ok K Z n0 own code maxL ret nm) {x y : Int32} (hd : decode code pc = .ok (.irem, 1)) (hy : y ≠ 0) (w : W K l R n0 P h k n (pc + 1) L (.int (x % y) :: S)) : W K l R n0 P h k n pc L (.int y :: .int x :: S) := by
  obtain ⟨p, e, s, m, args, below, meth, c⟩ := K
  obtain ⟨hx, hZ, hown, hby, -⟩ := ok
  intro T locs X eT N
  obtain ⟨s₂, o, st, r⟩ := w T locs X eT N
  exact ⟨s₂, o, iremM X hx rfl (hb hby hd) rfl hy st, r⟩
theorem w_ldiv (ok : Ok K Z n0 own code maxL ret nm) {x y : Int64} (hd : decode code pc = .ok (.ldiv, 1)) (hy : y ≠ 0) (w : W K l R n0 P h k n (pc + 1) L (.long (x / y) :: S)) : W K l R n0 P h k n pc L (.long y :: .long x :: S) := by
  obtain ⟨p, e, s, m, args, below, meth, c⟩ := K
  obtain ⟨hx, hZ, hown, hby, -⟩ := ok
  intro T locs X eT N
  obtain ⟨s₂, o, st, r⟩ := w T locs X eT N
  exact ⟨s₂, o, XS.ldiv X.here hx rfl (hb hby hd) rfl hy st, r⟩
theorem w_lrem (ok : Ok K Z n0 own code maxL ret nm) {x y : Int64} (hd : decode code pc = .ok (.lrem, 1)) (hy : y ≠ 0) (w : W K l R n0 P h k n (pc + 1) L (.long (x % y) :: S)) : W K l R n0 P h k n pc L (.long y :: .long x :: S) := by
  obtain ⟨p, e, s, m, args, below, meth, c⟩ := K
  obtain ⟨hx, hZ, hown, hby, -⟩ := ok
  intro T locs X eT N
  obtain ⟨s₂, o, st, r⟩ := w T locs X eT N
  exact ⟨s₂, o, XS.lrem X.here hx rfl (hb hby hd) rfl hy (by rw [lrem_mod]; exact st), r⟩
theorem w_goto (ok : Ok K Z n0 own code maxL ret nm) {o : Int} {pc' : Nat} (hd : decode code pc = .ok (.goto o, 3)) (hp : (pc : Int) + o = (pc' : Int)) (w : W K l R n0 P h k n (pc') L (S)) : W K l R n0 P h k n pc L (S) := by
  obtain ⟨p, e, s, m, args, below, meth, c⟩ := K
  obtain ⟨hx, hZ, hown, hby, -⟩ := ok
  intro T locs X eT N
  obtain ⟨s₂, o, st, r⟩ := w T locs X eT N
  exact ⟨s₂, o, XS.goto X.here hx rfl (pc0 := pc) (pc' := pc') rfl (hb hby hd) (by rw [hp]; exact Int.natCast_nonneg _) (by rw [hp]; rfl) st, r⟩
theorem w_ldcI (ok : Ok K Z n0 own code maxL ret nm) {i : Nat} {v : Int32} (hd : decode code pc = .ok (.ldc i, 2)) (w1 : (Cond.constant own i v).before a0 Z = true) (w : W K l R n0 P h k n (pc + 2) L (.int v :: S)) : W K l R n0 P h k n pc L (S) := by
  obtain ⟨p, e, s, m, args, below, meth, c⟩ := K
  obtain ⟨hx, hZ, hown, hby, -⟩ := ok
  intro T locs X eT N
  obtain ⟨s₂, o, st, r⟩ := w T locs X eT N
  exact ⟨s₂, o, X.ldcInt hx hown (mvT hZ w1) (g := mkF m pc L S) rfl (hb hby hd) _ st, r⟩
theorem w_ldc2J (ok : Ok K Z n0 own code maxL ret nm) {i : Nat} {v : Int64} (hd : decode code pc = .ok (.ldc2_w i, 3)) (w1 : (Cond.constantLong own i v).before a0 Z = true) (w : W K l R n0 P h k n (pc + 3) L (.long v :: S)) : W K l R n0 P h k n pc L (S) := by
  obtain ⟨p, e, s, m, args, below, meth, c⟩ := K
  obtain ⟨hx, hZ, hown, hby, -⟩ := ok
  intro T locs X eT N
  obtain ⟨s₂, o, st, r⟩ := w T locs X eT N
  exact ⟨s₂, o, X.ldc2Long hx hown (mvT hZ w1) (g := mkF m pc L S) rfl (hb hby hd) _ st, r⟩
theorem w_icmp_eq (ok : Ok K Z n0 own code maxL ret nm) {x y : Int32} {o : Int} {pc' : Nat} (hd : decode code pc = .ok (.if_icmp .eq o, 3)) (hp : (pc : Int) + o = (pc' : Int)) (wy : x = y → W K l R n0 P h k n pc' L S) (wn : ¬ x = y → W K l R n0 P h k n (pc + 3) L S) : W K l R n0 P h k n pc L (.int y :: .int x :: S) := by
  obtain ⟨p, e, s, m, args, below, meth, c⟩ := K
  obtain ⟨hx, hZ, hown, hby, -⟩ := ok
  intro T locs X eT N
  by_cases hc : x = y
  · obtain ⟨s₂, o, st, r⟩ := wy hc T locs X eT N
    exact ⟨s₂, o, XS.icmpYes X.here hx rfl (pc0 := pc) (pc' := pc') rfl (hb hby hd) rfl (teq hc).1 (by rw [hp]; exact Int.natCast_nonneg _) (by rw [hp]; rfl) st, r⟩
  · obtain ⟨s₂, o, st, r⟩ := wn hc T locs X eT N
    exact ⟨s₂, o, XS.icmpNo X.here hx rfl (hb hby hd) rfl (feq hc).1 st, r⟩
theorem w_if_eq (ok : Ok K Z n0 own code maxL ret nm) {x : Int32} {o : Int} {pc' : Nat} (hd : decode code pc = .ok (.ifCond .eq o, 3)) (hp : (pc : Int) + o = (pc' : Int)) (wy : x = 0 → W K l R n0 P h k n pc' L S) (wn : ¬ x = 0 → W K l R n0 P h k n (pc + 3) L S) : W K l R n0 P h k n pc L (.int x :: S) := by
  obtain ⟨p, e, s, m, args, below, meth, c⟩ := K
  obtain ⟨hx, hZ, hown, hby, -⟩ := ok
  intro T locs X eT N
  by_cases hc : x = 0
  · obtain ⟨s₂, o, st, r⟩ := wy hc T locs X eT N
    exact ⟨s₂, o, XS.ifYes X.here hx rfl (pc0 := pc) (pc' := pc') rfl (hb hby hd) rfl ((if0 _ _).trans (teq hc).1) (by rw [hp]; exact Int.natCast_nonneg _) (by rw [hp]; rfl) st, r⟩
  · obtain ⟨s₂, o, st, r⟩ := wn hc T locs X eT N
    exact ⟨s₂, o, XS.ifNo X.here hx rfl (hb hby hd) rfl ((if0 _ _).trans (feq hc).1) st, r⟩
theorem w_icmp_ne (ok : Ok K Z n0 own code maxL ret nm) {x y : Int32} {o : Int} {pc' : Nat} (hd : decode code pc = .ok (.if_icmp .ne o, 3)) (hp : (pc : Int) + o = (pc' : Int)) (wy : ¬ x = y → W K l R n0 P h k n pc' L S) (wn : x = y → W K l R n0 P h k n (pc + 3) L S) : W K l R n0 P h k n pc L (.int y :: .int x :: S) := by
  obtain ⟨p, e, s, m, args, below, meth, c⟩ := K
  obtain ⟨hx, hZ, hown, hby, -⟩ := ok
  intro T locs X eT N
  by_cases hc : x = y
  · obtain ⟨s₂, o, st, r⟩ := wn hc T locs X eT N
    exact ⟨s₂, o, XS.icmpNo X.here hx rfl (hb hby hd) rfl (teq hc).2 st, r⟩
  · obtain ⟨s₂, o, st, r⟩ := wy hc T locs X eT N
    exact ⟨s₂, o, XS.icmpYes X.here hx rfl (pc0 := pc) (pc' := pc') rfl (hb hby hd) rfl (feq hc).2 (by rw [hp]; exact Int.natCast_nonneg _) (by rw [hp]; rfl) st, r⟩
theorem w_if_ne (ok : Ok K Z n0 own code maxL ret nm) {x : Int32} {o : Int} {pc' : Nat} (hd : decode code pc = .ok (.ifCond .ne o, 3)) (hp : (pc : Int) + o = (pc' : Int)) (wy : ¬ x = 0 → W K l R n0 P h k n pc' L S) (wn : x = 0 → W K l R n0 P h k n (pc + 3) L S) : W K l R n0 P h k n pc L (.int x :: S) := by
  obtain ⟨p, e, s, m, args, below, meth, c⟩ := K
  obtain ⟨hx, hZ, hown, hby, -⟩ := ok
  intro T locs X eT N
  by_cases hc : x = 0
  · obtain ⟨s₂, o, st, r⟩ := wn hc T locs X eT N
    exact ⟨s₂, o, XS.ifNo X.here hx rfl (hb hby hd) rfl ((if0 _ _).trans (teq hc).2) st, r⟩
  · obtain ⟨s₂, o, st, r⟩ := wy hc T locs X eT N
    exact ⟨s₂, o, XS.ifYes X.here hx rfl (pc0 := pc) (pc' := pc') rfl (hb hby hd) rfl ((if0 _ _).trans (feq hc).2) (by rw [hp]; exact Int.natCast_nonneg _) (by rw [hp]; rfl) st, r⟩
theorem w_icmp_lt (ok : Ok K Z n0 own code maxL ret nm) {x y : Int32} {o : Int} {pc' : Nat} (hd : decode code pc = .ok (.if_icmp .lt o, 3)) (hp : (pc : Int) + o = (pc' : Int)) (wy : x < y → W K l R n0 P h k n pc' L S) (wn : ¬ x < y → W K l R n0 P h k n (pc + 3) L S) : W K l R n0 P h k n pc L (.int y :: .int x :: S) := by
  obtain ⟨p, e, s, m, args, below, meth, c⟩ := K
  obtain ⟨hx, hZ, hown, hby, -⟩ := ok
  intro T locs X eT N
  by_cases hc : x < y
  · obtain ⟨s₂, o, st, r⟩ := wy hc T locs X eT N
    exact ⟨s₂, o, XS.icmpYes X.here hx rfl (pc0 := pc) (pc' := pc') rfl (hb hby hd) rfl (tlt hc).1 (by rw [hp]; exact Int.natCast_nonneg _) (by rw [hp]; rfl) st, r⟩
  · obtain ⟨s₂, o, st, r⟩ := wn hc T locs X eT N
    exact ⟨s₂, o, XS.icmpNo X.here hx rfl (hb hby hd) rfl (flt hc).1 st, r⟩
theorem w_if_lt (ok : Ok K Z n0 own code maxL ret nm) {x : Int32} {o : Int} {pc' : Nat} (hd : decode code pc = .ok (.ifCond .lt o, 3)) (hp : (pc : Int) + o = (pc' : Int)) (wy : x < 0 → W K l R n0 P h k n pc' L S) (wn : ¬ x < 0 → W K l R n0 P h k n (pc + 3) L S) : W K l R n0 P h k n pc L (.int x :: S) := by
  obtain ⟨p, e, s, m, args, below, meth, c⟩ := K
  obtain ⟨hx, hZ, hown, hby, -⟩ := ok
  intro T locs X eT N
  by_cases hc : x < 0
  · obtain ⟨s₂, o, st, r⟩ := wy hc T locs X eT N
    exact ⟨s₂, o, XS.ifYes X.here hx rfl (pc0 := pc) (pc' := pc') rfl (hb hby hd) rfl ((if0 _ _).trans (tlt hc).1) (by rw [hp]; exact Int.natCast_nonneg _) (by rw [hp]; rfl) st, r⟩
  · obtain ⟨s₂, o, st, r⟩ := wn hc T locs X eT N
    exact ⟨s₂, o, XS.ifNo X.here hx rfl (hb hby hd) rfl ((if0 _ _).trans (flt hc).1) st, r⟩
theorem w_icmp_ge (ok : Ok K Z n0 own code maxL ret nm) {x y : Int32} {o : Int} {pc' : Nat} (hd : decode code pc = .ok (.if_icmp .ge o, 3)) (hp : (pc : Int) + o = (pc' : Int)) (wy : ¬ x < y → W K l R n0 P h k n pc' L S) (wn : x < y → W K l R n0 P h k n (pc + 3) L S) : W K l R n0 P h k n pc L (.int y :: .int x :: S) := by
  obtain ⟨p, e, s, m, args, below, meth, c⟩ := K
  obtain ⟨hx, hZ, hown, hby, -⟩ := ok
  intro T locs X eT N
  by_cases hc : x < y
  · obtain ⟨s₂, o, st, r⟩ := wn hc T locs X eT N
    exact ⟨s₂, o, XS.icmpNo X.here hx rfl (hb hby hd) rfl (tlt hc).2.1 st, r⟩
  · obtain ⟨s₂, o, st, r⟩ := wy hc T locs X eT N
    exact ⟨s₂, o, XS.icmpYes X.here hx rfl (pc0 := pc) (pc' := pc') rfl (hb hby hd) rfl (flt hc).2.1 (by rw [hp]; exact Int.natCast_nonneg _) (by rw [hp]; rfl) st, r⟩
theorem w_if_ge (ok : Ok K Z n0 own code maxL ret nm) {x : Int32} {o : Int} {pc' : Nat} (hd : decode code pc = .ok (.ifCond .ge o, 3)) (hp : (pc : Int) + o = (pc' : Int)) (wy : ¬ x < 0 → W K l R n0 P h k n pc' L S) (wn : x < 0 → W K l R n0 P h k n (pc + 3) L S) : W K l R n0 P h k n pc L (.int x :: S) := by
  obtain ⟨p, e, s, m, args, below, meth, c⟩ := K
  obtain ⟨hx, hZ, hown, hby, -⟩ := ok
  intro T locs X eT N
  by_cases hc : x < 0
  · obtain ⟨s₂, o, st, r⟩ := wn hc T locs X eT N
    exact ⟨s₂, o, XS.ifNo X.here hx rfl (hb hby hd) rfl ((if0 _ _).trans (tlt hc).2.1) st, r⟩
  · obtain ⟨s₂, o, st, r⟩ := wy hc T locs X eT N
    exact ⟨s₂, o, XS.ifYes X.here hx rfl (pc0 := pc) (pc' := pc') rfl (hb hby hd) rfl ((if0 _ _).trans (flt hc).2.1) (by rw [hp]; exact Int.natCast_nonneg _) (by rw [hp]; rfl) st, r⟩
theorem w_icmp_gt (ok : Ok K Z n0 own code maxL ret nm) {x y : Int32} {o : Int} {pc' : Nat} (hd : decode code pc = .ok (.if_icmp .gt o, 3)) (hp : (pc : Int) + o = (pc' : Int)) (wy : y < x → W K l R n0 P h k n pc' L S) (wn : ¬ y < x → W K l R n0 P h k n (pc + 3) L S) : W K l R n0 P h k n pc L (.int y :: .int x :: S) := by
  obtain ⟨p, e, s, m, args, below, meth, c⟩ := K
  obtain ⟨hx, hZ, hown, hby, -⟩ := ok
  intro T locs X eT N
  by_cases hc : y < x
  · obtain ⟨s₂, o, st, r⟩ := wy hc T locs X eT N
    exact ⟨s₂, o, XS.icmpYes X.here hx rfl (pc0 := pc) (pc' := pc') rfl (hb hby hd) rfl (tlt hc).2.2.1 (by rw [hp]; exact Int.natCast_nonneg _) (by rw [hp]; rfl) st, r⟩
  · obtain ⟨s₂, o, st, r⟩ := wn hc T locs X eT N
    exact ⟨s₂, o, XS.icmpNo X.here hx rfl (hb hby hd) rfl (flt hc).2.2.1 st, r⟩
theorem w_if_gt (ok : Ok K Z n0 own code maxL ret nm) {x : Int32} {o : Int} {pc' : Nat} (hd : decode code pc = .ok (.ifCond .gt o, 3)) (hp : (pc : Int) + o = (pc' : Int)) (wy : 0 < x → W K l R n0 P h k n pc' L S) (wn : ¬ 0 < x → W K l R n0 P h k n (pc + 3) L S) : W K l R n0 P h k n pc L (.int x :: S) := by
  obtain ⟨p, e, s, m, args, below, meth, c⟩ := K
  obtain ⟨hx, hZ, hown, hby, -⟩ := ok
  intro T locs X eT N
  by_cases hc : 0 < x
  · obtain ⟨s₂, o, st, r⟩ := wy hc T locs X eT N
    exact ⟨s₂, o, XS.ifYes X.here hx rfl (pc0 := pc) (pc' := pc') rfl (hb hby hd) rfl ((if0 _ _).trans (tlt hc).2.2.1) (by rw [hp]; exact Int.natCast_nonneg _) (by rw [hp]; rfl) st, r⟩
  · obtain ⟨s₂, o, st, r⟩ := wn hc T locs X eT N
    exact ⟨s₂, o, XS.ifNo X.here hx rfl (hb hby hd) rfl ((if0 _ _).trans (flt hc).2.2.1) st, r⟩
theorem w_icmp_le (ok : Ok K Z n0 own code maxL ret nm) {x y : Int32} {o : Int} {pc' : Nat} (hd : decode code pc = .ok (.if_icmp .le o, 3)) (hp : (pc : Int) + o = (pc' : Int)) (wy : ¬ y < x → W K l R n0 P h k n pc' L S) (wn : y < x → W K l R n0 P h k n (pc + 3) L S) : W K l R n0 P h k n pc L (.int y :: .int x :: S) := by
  obtain ⟨p, e, s, m, args, below, meth, c⟩ := K
  obtain ⟨hx, hZ, hown, hby, -⟩ := ok
  intro T locs X eT N
  by_cases hc : y < x
  · obtain ⟨s₂, o, st, r⟩ := wn hc T locs X eT N
    exact ⟨s₂, o, XS.icmpNo X.here hx rfl (hb hby hd) rfl (tlt hc).2.2.2 st, r⟩
  · obtain ⟨s₂, o, st, r⟩ := wy hc T locs X eT N
    exact ⟨s₂, o, XS.icmpYes X.here hx rfl (pc0 := pc) (pc' := pc') rfl (hb hby hd) rfl (flt hc).2.2.2 (by rw [hp]; exact Int.natCast_nonneg _) (by rw [hp]; rfl) st, r⟩
theorem w_if_le (ok : Ok K Z n0 own code maxL ret nm) {x : Int32} {o : Int} {pc' : Nat} (hd : decode code pc = .ok (.ifCond .le o, 3)) (hp : (pc : Int) + o = (pc' : Int)) (wy : ¬ 0 < x → W K l R n0 P h k n pc' L S) (wn : 0 < x → W K l R n0 P h k n (pc + 3) L S) : W K l R n0 P h k n pc L (.int x :: S) := by
  obtain ⟨p, e, s, m, args, below, meth, c⟩ := K
  obtain ⟨hx, hZ, hown, hby, -⟩ := ok
  intro T locs X eT N
  by_cases hc : 0 < x
  · obtain ⟨s₂, o, st, r⟩ := wn hc T locs X eT N
    exact ⟨s₂, o, XS.ifNo X.here hx rfl (hb hby hd) rfl ((if0 _ _).trans (tlt hc).2.2.2) st, r⟩
  · obtain ⟨s₂, o, st, r⟩ := wy hc T locs X eT N
    exact ⟨s₂, o, XS.ifYes X.here hx rfl (pc0 := pc) (pc' := pc') rfl (hb hby hd) rfl ((if0 _ _).trans (flt hc).2.2.2) (by rw [hp]; exact Int.natCast_nonneg _) (by rw [hp]; rfl) st, r⟩
theorem w_lcmp (ok : Ok K Z n0 own code maxL ret nm) {x y : Int64} (hd : decode code pc = .ok (.lcmp, 1)) (w : W K l R n0 P h k n (pc + 1) L (.int (lcmpW x y) :: S)) : W K l R n0 P h k n pc L (.long y :: .long x :: S) := by
  obtain ⟨p, e, s, m, args, below, meth, c⟩ := K
  obtain ⟨hx, hZ, hown, hby, -⟩ := ok
  intro T locs X eT N
  obtain ⟨s₂, o, st, r⟩ := w T locs X eT N
  exact ⟨s₂, o, XS.lcmp X.here hx rfl (hb hby hd) rfl st, r⟩
theorem w_lcmp_eq (ok : Ok K Z n0 own code maxL ret nm) {x y : Int64} {o : Int} {pc' : Nat} (hd : decode code pc = .ok (.lcmp, 1)) (hd2 : decode code (pc + 1) = .ok (.ifCond .eq o, 3)) (hp : ((pc + 1 : Nat) : Int) + o = (pc' : Int)) (wy : x = y → W K l R n0 P h k n pc' L S) (wn : ¬ x = y → W K l R n0 P h k n (pc + 4) L S) : W K l R n0 P h k n pc L (.long y :: .long x :: S) :=
  w_lcmp ok hd (w_if_eq ok hd2 hp (fun hc => wy ((lw_eq x y).mp hc)) (fun hc => wn (fun q => hc ((lw_eq x y).mpr q))))
theorem w_lcmp_ne (ok : Ok K Z n0 own code maxL ret nm) {x y : Int64} {o : Int} {pc' : Nat} (hd : decode code pc = .ok (.lcmp, 1)) (hd2 : decode code (pc + 1) = .ok (.ifCond .ne o, 3)) (hp : ((pc + 1 : Nat) : Int) + o = (pc' : Int)) (wy : ¬ x = y → W K l R n0 P h k n pc' L S) (wn : x = y → W K l R n0 P h k n (pc + 4) L S) : W K l R n0 P h k n pc L (.long y :: .long x :: S) :=
  w_lcmp ok hd (w_if_ne ok hd2 hp (fun hc => wy (fun q => hc ((lw_eq x y).mpr q))) (fun hc => wn ((lw_eq x y).mp hc)))
theorem w_lcmp_lt (ok : Ok K Z n0 own code maxL ret nm) {x y : Int64} {o : Int} {pc' : Nat} (hd : decode code pc = .ok (.lcmp, 1)) (hd2 : decode code (pc + 1) = .ok (.ifCond .lt o, 3)) (hp : ((pc + 1 : Nat) : Int) + o = (pc' : Int)) (wy : x < y → W K l R n0 P h k n pc' L S) (wn : ¬ x < y → W K l R n0 P h k n (pc + 4) L S) : W K l R n0 P h k n pc L (.long y :: .long x :: S) :=
  w_lcmp ok hd (w_if_lt ok hd2 hp (fun hc => wy ((lw_lt x y).mp hc)) (fun hc => wn (fun q => hc ((lw_lt x y).mpr q))))
theorem w_lcmp_ge (ok : Ok K Z n0 own code maxL ret nm) {x y : Int64} {o : Int} {pc' : Nat} (hd : decode code pc = .ok (.lcmp, 1)) (hd2 : decode code (pc + 1) = .ok (.ifCond .ge o, 3)) (hp : ((pc + 1 : Nat) : Int) + o = (pc' : Int)) (wy : ¬ x < y → W K l R n0 P h k n pc' L S) (wn : x < y → W K l R n0 P h k n (pc + 4) L S) : W K l R n0 P h k n pc L (.long y :: .long x :: S) :=
  w_lcmp ok hd (w_if_ge ok hd2 hp (fun hc => wy (fun q => hc ((lw_lt x y).mpr q))) (fun hc => wn ((lw_lt x y).mp hc)))
theorem w_lcmp_gt (ok : Ok K Z n0 own code maxL ret nm) {x y : Int64} {o : Int} {pc' : Nat} (hd : decode code pc = .ok (.lcmp, 1)) (hd2 : decode code (pc + 1) = .ok (.ifCond .gt o, 3)) (hp : ((pc + 1 : Nat) : Int) + o = (pc' : Int)) (wy : y < x → W K l R n0 P h k n pc' L S) (wn : ¬ y < x → W K l R n0 P h k n (pc + 4) L S) : W K l R n0 P h k n pc L (.long y :: .long x :: S) :=
  w_lcmp ok hd (w_if_gt ok hd2 hp (fun hc => wy ((lw_gt x y).mp hc)) (fun hc => wn (fun q => hc ((lw_gt x y).mpr q))))
theorem w_lcmp_le (ok : Ok K Z n0 own code maxL ret nm) {x y : Int64} {o : Int} {pc' : Nat} (hd : decode code pc = .ok (.lcmp, 1)) (hd2 : decode code (pc + 1) = .ok (.ifCond .le o, 3)) (hp : ((pc + 1 : Nat) : Int) + o = (pc' : Int)) (wy : ¬ y < x → W K l R n0 P h k n pc' L S) (wn : y < x → W K l R n0 P h k n (pc + 4) L S) : W K l R n0 P h k n pc L (.long y :: .long x :: S) :=
  w_lcmp ok hd (w_if_le ok hd2 hp (fun hc => wy (fun q => hc ((lw_gt x y).mpr q))) (fun hc => wn ((lw_gt x y).mp hc)))
theorem w_out {t : FieldType} {i : Instr} {w : Value} (ok : Ok K Z n0 own code maxL (some t) nm) (hn : narrow t w = w) (hi : (i = .ireturn ∧ (t = .int ∨ t = .boolean ∨ t = .byte ∨ t = .char ∨ t = .short) ∧ ∃ z, w = .int z) ∨ (i = .lreturn ∧ t = .long ∧ ∃ z, w = .long z) ∨ (i = .dreturn ∧ t = .double ∧ ∃ z, w = .double z) ∨ (i = .freturn ∧ t = .float ∧ ∃ z, w = .float z) ∨ (i = .areturn ∧ t.isReference = true ∧ w.isRef = true))
    (hd : decode code pc = .ok (i, 1)) (hk : k ≤ R.cells) (hs : n ≤ R.slots) (hP : P (some w) h) : W K l R n0 P h k n pc L (w :: S) := by
  obtain ⟨p, e, s, m, args, below, meth, c⟩ := K
  obtain ⟨hx, hZ, hown, hby, hml, hret, hnm, hlk, hn0⟩ := ok
  intro T locs X eT N
  obtain ⟨fs, hr, hrun, hended, hW, hsame⟩ := X.leave (v := some w) (fun q => by rw [hret] at q; cases q)
  exact ⟨_, _, retOut X hx hret hn hi (hb hby hd) hr, hrun, hended, _, _, rfl, ⟨by show P (some w) T.heap; rw [eT]; exact hP, N⟩, ⟨_, rfl⟩, hW, hsame.mono hk hs⟩
theorem w_iret {z : Int32} (ok : Ok K Z n0 own code maxL (some .int) nm) (hd : decode code pc = .ok (.ireturn, 1)) (hk : k ≤ R.cells) (hs : n ≤ R.slots) (hP : P (some (.int z)) h) : W K l R n0 P h k n pc L (.int z :: S) :=
  w_out ok rfl (Or.inl ⟨rfl, by simp, z, rfl⟩) hd hk hs hP
theorem w_lret {z : Int64} (ok : Ok K Z n0 own code maxL (some .long) nm) (hd : decode code pc = .ok (.lreturn, 1)) (hk : k ≤ R.cells) (hs : n ≤ R.slots) (hP : P (some (.long z)) h) : W K l R n0 P h k n pc L (.long z :: S) :=
  w_out ok rfl (Or.inr (Or.inl ⟨rfl, rfl, z, rfl⟩)) hd hk hs hP
theorem w_aret {w : Value} {t : FieldType} (ok : Ok K Z n0 own code maxL (some t) nm) (ht : t.isReference = true) (hw : w.isRef = true) (hd : decode code pc = .ok (.areturn, 1)) (hk : k ≤ R.cells) (hs : n ≤ R.slots) (hP : P (some w) h) : W K l R n0 P h k n pc L (w :: S) :=
  w_out ok (by rcases ref_cases hw with rfl | ⟨_, rfl⟩ <;> cases t <;> first | rfl | cases ht) (Or.inr (Or.inr (Or.inr (Or.inr ⟨rfl, ht, hw⟩)))) hd hk hs hP
theorem w_bret {z : Int32} {t : FieldType} (ok : Ok K Z n0 own code maxL (some t) nm) (ht : t = .boolean ∨ t = .byte ∨ t = .char ∨ t = .short) (hd : decode code pc = .ok (.ireturn, 1)) (hk : k ≤ R.cells) (hs : n ≤ R.slots) (hP : P (some (.int (nar t z))) h) : W K l R n0 P h k n pc L (.int z :: S) := by
  obtain ⟨p, e, s, m, args, below, meth, c⟩ := K
  obtain ⟨hx, hZ, hown, hby, hml, hret, hnm, hlk, hn0⟩ := ok
  intro T locs X eT N
  obtain ⟨fs, hr, hrun, hended, hW, hsame⟩ := X.leave (v := some (.int (nar t z))) (fun q => by rw [hret] at q; cases q)
  exact ⟨_, _, retN X hx hret ht (hb hby hd) hr, hrun, hended, _, _, rfl, ⟨by show P (some (.int (nar t z))) T.heap; rw [eT]; exact hP, N⟩, ⟨_, rfl⟩, hW, hsame.mono hk hs⟩
theorem w_ret (ok : Ok K Z n0 own code maxL none nm) (hd : decode code pc = .ok (.return_, 1)) (hk : k ≤ R.cells) (hs : n ≤ R.slots) (hP : P none h) : W K l R n0 P h k n pc L [] := by
  obtain ⟨p, e, s, m, args, below, meth, c⟩ := K
  obtain ⟨hx, hZ, hown, hby, hml, hret, hnm, hlk, hn0⟩ := ok
  intro T locs X eT N
  obtain ⟨fs, hr, hrun, hended, hW, hsame⟩ := X.leave (v := none) (fun _ => rfl)
  exact ⟨_, _, X.returnOut hx hret (hb hby hd) hr, hrun, hended, _, _, rfl, ⟨by show P none T.heap; rw [eT]; exact hP, N⟩, ⟨_, rfl⟩, hW, hsame.mono hk hs⟩
abbrev notHandle (y : MethodName) : Prop := y.cls ≠ "java/lang/invoke/MethodHandle" ∧ y.cls ≠ "java/lang/invoke/VarHandle"
theorem w_callS (ok : Ok K Z n0 own code maxL ret nm) {index : Nat} {y : MethodName} {bytes : ByteArray} {mL : Nat} {rt : Option FieldType} {rm : Room} {argsL rest : List Value} {Q : Option Value → Heap → Prop} {ps : List FieldType} {r : Option FieldType}
    (hd : decode code pc = .ok (.invokestatic index, 3)) (w1 : (Cond.methodLink own index y).before a0 Z = true) (w2 : (Cond.static y).before a0 Z = true) (w3 : (Cond.initialized y.cls).before a0 Z = true) (w4 : (Cond.code y bytes mL rt).before a0 Z = true) (hy : notHandle y)
    (pd : parseMethodDescriptor y.desc = some ⟨ps, r⟩) (hlen : argsL.length = ps.length) (hL : L.size = maxL) (hf : rm.frames + 1 ≤ R.frames) (hl : (rest.map fun v => v.category).sum + (mL + 11) + rm.locals ≤ R.locals) (hc : k + rm.cells ≤ R.cells) (hs : n + rm.slots ≤ R.slots)
    (hM : Old Z n0 h → Met l Z n0 y bytes mL rt [] rm argsL.toArray h Q) (w : ∀ v h', Q v h' → W K l R n0 P h' (k + rm.cells) (n + rm.slots) (pc + 3) L (v.toList ++ rest)) : W K l R n0 P h k n pc L (argsL.reverse ++ rest) := by
  obtain ⟨p, e, s, m, args, below, meth, c⟩ := K
  obtain ⟨hx, hZ, hown, hby, hml, hret, hnm, hlk, hn0⟩ := ok
  intro T locs X eT N
  have hM := hM (by rw [← eT]; exact old_now hn0 X N)
  obtain ⟨v, _, ⟨T1, L1, k1, n1⟩, -, X1, ⟨Lc, ⟨hQ, N1⟩, l1, y1, z1⟩, st⟩ := Jvm.LawKit.callS X hx (y := y) hown (mvT hZ w1) (mvT hZ w2) (mvT hZ w3) (mvT hZ w4) hy (backOf (W := (rest.map fun v => v.category).sum) (Q := fun v h L => Q v h ∧ Fr n0 L) hM hZ w4 w3 hf hl) (g := mkF m pc L (argsL.reverse ++ rest)) rfl (hL.trans hml.symm) (argsL := argsL) (rest := rest) (lenOf pd hlen) rfl (by show 2 * 0 + _ ≤ _; omega) (hb hby hd) (fun _ _ => ⟨rfl, eT, hc, hs⟩)
  dsimp only [Pt.U, Pt.locs, Pt.cells, Pt.slots] at X1 l1 y1 z1 st hQ
  subst l1 y1 z1
  obtain ⟨s₂, o, st2, r2⟩ := w v _ hQ T1 _ X1 rfl (Fr.app N N1)
  exact ⟨s₂, o, st _ st2, r2⟩
theorem pa_z {N : Nat} (q : N < 2 ^ 31) : ∃ z : Int32, N = z.toNatClampNeg ∧ ¬ z < 0 := by
  have e : (Int32.ofNat N).toInt = N := Int32.toInt_ofNat_of_lt q
  refine ⟨Int32.ofNat N, ?_, ?_⟩
  · simp [Int32.toNatClampNeg, e]
  · rw [Int32.lt_iff_toInt_lt, e]; simp
def PA (ty : FieldType) (Z : State) (h : Heap) (a : Addr) (vs : List Value) : Prop := ∃ c : Cell, Arr Z h a c ty ∧ vs.length < 2 ^ 31 ∧ c.slots = vs.toArray ∧ ∀ v ∈ vs, fits ty v = true
theorem pa_in {c : Cell} {vs : List Value} {j : Int32} (q : c.slots = vs.toArray) (h0 : ¬ j < 0) (hj : j.toNatClampNeg < vs.length) : ¬ (j < 0 ∨ c.slots.size ≤ j.toNatClampNeg) := by
  rw [q]; rintro (y | y)
  · exact h0 y
  · simp at y; omega
section PAs
variable {ty : FieldType} {h' : Heap} {a b : Addr} {vs : List Value} {v : Value} {sl : Nat} {ws : List Addr}
theorem PA.lt (A : PA ty Z h a vs) : a < h.size := by obtain ⟨c, A, -⟩ := A; exact A.lt
theorem PA.len (A : PA ty Z h a vs) : vs.length < 2 ^ 31 := by obtain ⟨c, A, q, -⟩ := A; exact q
theorem PA.ext (A : PA ty Z h a vs) (E : Ext h h') : PA ty Z h' a vs := by obtain ⟨c, A, r⟩ := A; exact ⟨c, A.ext E, r⟩
theorem PA.other (A : PA ty Z h b vs) (W1 : Wr h h' a sl v) (ne : b ≠ a) : PA ty Z h' b vs := by obtain ⟨c, A, r⟩ := A; exact ⟨c, A.other W1 ne, r⟩
theorem PA.keep (A : PA ty Z h a vs) (K1 : Keep h h' ws) (q : a ∉ ws) : PA ty Z h' a vs := by obtain ⟨c, A, r⟩ := A; exact ⟨c, ⟨K1.2.1 a c A.1 q, A.2⟩, r⟩
theorem PA.set (A : PA ty Z h a vs) (W1 : Wr h h' a sl v) (hv : fits ty v = true) : PA ty Z h' a (vs.set sl v) := by
  obtain ⟨c, A, hl, hs, hf⟩ := A
  refine ⟨c.setSlot sl v, A.same W1, by rw [List.length_set]; exact hl, ?_, ?_⟩
  · show c.slots.setIfInBounds sl v = _
    rw [hs]; simp
  · intro u hu
    rcases List.mem_or_eq_of_mem_set hu with q | rfl
    · exact hf _ q
    · exact hv
theorem PA.arv (A : PA ty Z h a vs) {z : Int32} (hz : vs.length = z.toNatClampNeg) (hz0 : ¬ z < 0) (d : Value) : ∃ k, Arv Z h a k ty z vs d := by
  obtain ⟨c, A, hl, hs, hf⟩ := A
  refine ⟨c.cls, c, A, rfl, by rw [hs]; simpa using hz, hz0, fun i hi => ?_, fun i hi => ?_⟩
  · rw [hs] at hi ⊢
    simp at hi
    simp [List.getD_eq_getElem?_getD, List.getElem?_eq_getElem hi]
  · rw [hs] at hi
    simp at hi
    rw [List.getD_eq_getElem?_getD, List.getElem?_eq_getElem hi]
    exact hf _ (List.getElem_mem hi)
theorem PA.of_arv {k : ClassId} {z : Int32} {d : Value} (B : Arv Z h a k ty z vs d) (hl : vs.length = z.toNatClampNeg) : PA ty Z h a vs := by
  obtain ⟨c, A, -, S1, N1, H, G⟩ := B
  have e : c.slots = vs.toArray := by
    apply Array.ext_getElem?
    intro i
    by_cases q : i < c.slots.size
    · rw [H i q]
      have q2 : i < vs.length := by omega
      simp [List.getD_eq_getElem?_getD, List.getElem?_eq_getElem q2]
    · rw [Array.getElem?_eq_none (by omega)]
      simp; omega
  refine ⟨c, A, by have := (back32 N1).2; omega, e, fun v hv => ?_⟩
  obtain ⟨i, hi, rfl⟩ := List.getElem_of_mem hv
  have q := G i (by omega)
  rw [List.getD_eq_getElem?_getD, List.getElem?_eq_getElem hi] at q
  exact q
end PAs
theorem w_arraylength (ok : Ok K Z n0 own code maxL ret nm) {ty : FieldType} {a : Addr} {vs : List Value} {z : Int32} (hd : decode code pc = .ok (.arraylength, 1)) (A : PA ty Z h a vs) (hz : vs.length = z.toNatClampNeg) (hz0 : ¬ z < 0) (w : W K l R n0 P h k n (pc + 1) L (.int z :: S)) : W K l R n0 P h k n pc L (.ref a :: S) := by
  obtain ⟨p, e, s, m, args, below, meth, c⟩ := K
  obtain ⟨hx, hZ, hown, hby, -⟩ := ok
  intro T locs X eT N
  obtain ⟨s₂, o, st, r⟩ := w T locs X eT N
  obtain ⟨cl, A, q1, q2, q3⟩ := A
  have e1 : cl.slots.size.toInt32 = z := len_of (by rw [q2]; simpa using hz) hz0
  exact ⟨s₂, o, X.arraylength hx (by rw [eT]; exact A.1) (State.isArrayOf_alike hZ.alike A.2.1) (g := mkF m pc L (.ref a :: S)) rfl rfl (hb hby hd) _ (by rw [e1]; exact st), r⟩
theorem w_newarray (ok : Ok K Z n0 own code maxL ret nm) {aty : ArrayType} {z : Int32} (hd : decode code pc = .ok (.newarray aty, 2)) (w1 : (Cond.arrayClass (newarray.typeOf aty)).before a0 Z = true) (hz : ¬ z < 0) {cap : Nat} (hcap : z.toNatClampNeg ≤ cap) (hb1 : cap * 8 ≤ 536870912) (hc : k + 1 ≤ R.cells) (hl : n + cap ≤ R.slots)
    (w : ∀ h' a, a = h.size → n0 ≤ a → Ext h h' → PA (newarray.typeOf aty) Z h' a (List.replicate z.toNatClampNeg (defaultValue (newarray.typeOf aty))) → W K l R n0 P h' (k + 1) (n + cap) (pc + 2) L (.ref a :: S)) : W K l R n0 P h k n pc L (.int z :: S) := by
  obtain ⟨p, e, s, m, args, below, meth, c⟩ := K
  obtain ⟨hx, hZ, hown, hby, hml, hret, hnm, hlk, hn0⟩ := ok
  intro T locs X eT N
  obtain ⟨T1, h1, cA, X1, e1, E1, A1, st⟩ := newP X hx hZ w1 eT (g := mkF m pc L (.int z :: S)) rfl (hb hby hd) rfl hz hcap hb1 hc hl
  have A2 : PA (newarray.typeOf aty) Z h1 h.size (List.replicate z.toNatClampNeg (defaultValue (newarray.typeOf aty))) := by
    refine ⟨_, A1, by simpa using (back32 hz).2, by simp [newA], fun v hv => ?_⟩
    rw [List.eq_of_mem_replicate hv]
    cases aty <;> rfl
  obtain ⟨s₂, o, st2, r⟩ := w h1 h.size rfl (by rw [← eT]; exact old_ge hn0 X N) E1 A2 T1 _ X1 e1 N
  exact ⟨s₂, o, st _ st2, r⟩
theorem w_arraycopy (ok : Ok K Z n0 own code maxL ret nm) {index : Nat} {ty : FieldType} {a b : Addr} {vs vd : List Value} {sp dp nn : Int32} {sp' dp' nn' : Nat} (hd : decode code pc = .ok (.invokestatic index, 3)) (w1 : (Cond.methodLink own index Jvm.Stand.acN).before a0 Z = true) (w2 : (Cond.native Jvm.Stand.acN).before a0 Z = true) (w3 : (Cond.static Jvm.Stand.acN).before a0 Z = true) (w4 : (Cond.initialized "java/lang/System").before a0 Z = true)
    (A : PA ty Z h a vs) (B : PA ty Z h b vd) (hty : refKind ty = false) (ge : n0 ≤ b) (h1 : ¬ sp < 0) (h2 : ¬ dp < 0) (h3 : ¬ nn < 0) (es : sp.toNatClampNeg = sp') (ed : dp.toNatClampNeg = dp') (en : nn.toNatClampNeg = nn') (h4 : sp' + nn' ≤ vs.length) (h5 : dp' + nn' ≤ vd.length) (hL : L.size = maxL) (hf : 1 ≤ R.frames) (hlo : (S.map fun v => v.category).sum + (nativeFrameWords "java/lang/System" "arraycopy" 5 + 11) ≤ R.locals)
    (w : ∀ h', Keep h h' [b] → PA ty Z h' b (vd.take dp' ++ (vs.drop sp').take nn' ++ vd.drop (dp' + nn')) → W K l R n0 P h' k n (pc + 3) L S) : W K l R n0 P h k n pc L (.int nn :: .int dp :: .ref b :: .int sp :: .ref a :: S) := by
  obtain ⟨p, e, s, m, args, below, meth, c⟩ := K
  obtain ⟨hx, hZ, hown, hby, hml, hret, hnm, hlk, hn0⟩ := ok
  intro T locs X eT N
  subst es ed en
  obtain ⟨z1, hz1, hz2⟩ : ∃ z : Int32, vs.length = z.toNatClampNeg ∧ ¬ z < 0 := pa_z A.len
  obtain ⟨z3, hz3, hz4⟩ : ∃ z : Int32, vd.length = z.toNatClampNeg ∧ ¬ z < 0 := pa_z B.len
  obtain ⟨k1, A1⟩ := A.arv hz1 hz2 .null
  obtain ⟨k2, B1⟩ := B.arv hz3 hz4 .null
  obtain ⟨T1, h1', L1, X1, e1, N1, K1, B2, st⟩ := cpA X hx hZ hown w1 w2 w3 w4 eT A1 B1 (Or.inl ⟨rfl, hty⟩) h1 h2 h3 (by omega) (by omega) rfl h5 N ge (g := mkF m pc L (.int nn :: .int dp :: .ref b :: .int sp :: .ref a :: S)) rfl (hL.trans hml.symm) rfl (hb hby hd) hf (W := (S.map fun v => v.category).sum) (by show 2 * 0 + _ ≤ _; omega) hlo
  have e2 : ((List.range nn.toNatClampNeg).map fun i => vs.getD (sp.toNatClampNeg + i) Value.null) = (vs.drop sp.toNatClampNeg).take nn.toNatClampNeg := by
    apply List.ext_getElem
    · simp; omega
    · intro i q1 q2
      simp at q1
      simp [List.getD_eq_getElem?_getD, List.getElem?_eq_getElem (show sp.toNatClampNeg + i < vs.length by omega)]
  rw [e2] at B2
  obtain ⟨s₂, o, st2, r⟩ := w h1' K1 (PA.of_arv B2 (by simp; omega)) T1 _ X1 e1 N1
  exact ⟨s₂, o, st _ st2, r⟩
theorem w_iaload (ok : Ok K Z n0 own code maxL ret nm) {a : Addr} {vs : List Value} {j : Int32} {v : Value} (hd : decode code pc = .ok (.iaload, 1)) (A : PA .int Z h a vs) (h0 : ¬ j < 0) (hj : vs[j.toNatClampNeg]? = some v) (w : W K l R n0 P h k n (pc + 1) L (v :: S)) : W K l R n0 P h k n pc L (.int j :: .ref a :: S) := by
  obtain ⟨p, e, s, m, args, below, meth, c⟩ := K
  obtain ⟨hx, hZ, hown, hby, -⟩ := ok
  intro T locs X eT N
  obtain ⟨s₂, o, st, r⟩ := w T locs X eT N
  obtain ⟨cl, A, q1, q2, q3⟩ := A
  exact ⟨s₂, o, X.iaload hx (j := j) (v := v) (by rw [eT]; exact A.1) (State.isArrayOf_alike hZ.alike A.2.1) A.2.2 (pa_in q2 h0 (List.getElem?_eq_some_iff.mp hj).1) (by rw [q2]; simpa using hj) (g := mkF m pc L (.int j :: .ref a :: S)) rfl rfl (hb hby hd) _ st, r⟩
theorem w_laload (ok : Ok K Z n0 own code maxL ret nm) {a : Addr} {vs : List Value} {j : Int32} {v : Value} (hd : decode code pc = .ok (.laload, 1)) (A : PA .long Z h a vs) (h0 : ¬ j < 0) (hj : vs[j.toNatClampNeg]? = some v) (w : W K l R n0 P h k n (pc + 1) L (v :: S)) : W K l R n0 P h k n pc L (.int j :: .ref a :: S) := by
  obtain ⟨p, e, s, m, args, below, meth, c⟩ := K
  obtain ⟨hx, hZ, hown, hby, -⟩ := ok
  intro T locs X eT N
  obtain ⟨s₂, o, st, r⟩ := w T locs X eT N
  obtain ⟨cl, A, q1, q2, q3⟩ := A
  exact ⟨s₂, o, X.laload hx (j := j) (v := v) (by rw [eT]; exact A.1) (State.isArrayOf_alike hZ.alike A.2.1) A.2.2 (pa_in q2 h0 (List.getElem?_eq_some_iff.mp hj).1) (by rw [q2]; simpa using hj) (g := mkF m pc L (.int j :: .ref a :: S)) rfl rfl (hb hby hd) _ st, r⟩
theorem w_caload (ok : Ok K Z n0 own code maxL ret nm) {a : Addr} {vs : List Value} {j : Int32} {v : Value} (hd : decode code pc = .ok (.caload, 1)) (A : PA .char Z h a vs) (h0 : ¬ j < 0) (hj : vs[j.toNatClampNeg]? = some v) (w : W K l R n0 P h k n (pc + 1) L (v :: S)) : W K l R n0 P h k n pc L (.int j :: .ref a :: S) := by
  obtain ⟨p, e, s, m, args, below, meth, c⟩ := K
  obtain ⟨hx, hZ, hown, hby, -⟩ := ok
  intro T locs X eT N
  obtain ⟨s₂, o, st, r⟩ := w T locs X eT N
  obtain ⟨cl, A, q1, q2, q3⟩ := A
  exact ⟨s₂, o, X.caload hx (j := j) (v := v) (by rw [eT]; exact A.1) (State.isArrayOf_alike hZ.alike A.2.1) A.2.2 (pa_in q2 h0 (List.getElem?_eq_some_iff.mp hj).1) (by rw [q2]; simpa using hj) (g := mkF m pc L (.int j :: .ref a :: S)) rfl rfl (hb hby hd) _ st, r⟩
theorem w_baload (ok : Ok K Z n0 own code maxL ret nm) {a : Addr} {vs : List Value} {j : Int32} {v : Value} (hd : decode code pc = .ok (.baload, 1)) (A : PA .byte Z h a vs) (h0 : ¬ j < 0) (hj : vs[j.toNatClampNeg]? = some v) (w : W K l R n0 P h k n (pc + 1) L (v :: S)) : W K l R n0 P h k n pc L (.int j :: .ref a :: S) := by
  obtain ⟨p, e, s, m, args, below, meth, c⟩ := K
  obtain ⟨hx, hZ, hown, hby, -⟩ := ok
  intro T locs X eT N
  obtain ⟨s₂, o, st, r⟩ := w T locs X eT N
  obtain ⟨cl, A, q1, q2, q3⟩ := A
  exact ⟨s₂, o, X.baloadBytes hx (j := j) (v := v) (by rw [eT]; exact A.1) (State.isArrayOf_alike hZ.alike A.2.1) A.2.2 (pa_in q2 h0 (List.getElem?_eq_some_iff.mp hj).1) (by rw [q2]; simpa using hj) (g := mkF m pc L (.int j :: .ref a :: S)) rfl rfl (hb hby hd) _ st, r⟩
theorem w_zaload (ok : Ok K Z n0 own code maxL ret nm) {a : Addr} {vs : List Value} {j : Int32} {v : Value} (hd : decode code pc = .ok (.baload, 1)) (A : PA .boolean Z h a vs) (h0 : ¬ j < 0) (hj : vs[j.toNatClampNeg]? = some v) (w : W K l R n0 P h k n (pc + 1) L (v :: S)) : W K l R n0 P h k n pc L (.int j :: .ref a :: S) := by
  obtain ⟨p, e, s, m, args, below, meth, c⟩ := K
  obtain ⟨hx, hZ, hown, hby, -⟩ := ok
  intro T locs X eT N
  obtain ⟨s₂, o, st, r⟩ := w T locs X eT N
  obtain ⟨cl, A, q1, q2, q3⟩ := A
  exact ⟨s₂, o, X.baloadBooleans hx (j := j) (v := v) (by rw [eT]; exact A.1) (State.isArrayOf_alike hZ.alike A.2.1) A.2.2 (pa_in q2 h0 (List.getElem?_eq_some_iff.mp hj).1) (by rw [q2]; simpa using hj) (g := mkF m pc L (.int j :: .ref a :: S)) rfl rfl (hb hby hd) _ st, r⟩
theorem w_aaload (ok : Ok K Z n0 own code maxL ret nm) {ty : FieldType} {a : Addr} {vs : List Value} {j : Int32} {v : Value} (hd : decode code pc = .ok (.aaload, 1)) (A : PA ty Z h a vs) (ht : ty.isReference = true) (h0 : ¬ j < 0) (hj : vs[j.toNatClampNeg]? = some v) (w : W K l R n0 P h k n (pc + 1) L (v :: S)) : W K l R n0 P h k n pc L (.int j :: .ref a :: S) := by
  obtain ⟨p, e, s, m, args, below, meth, c⟩ := K
  obtain ⟨hx, hZ, hown, hby, -⟩ := ok
  intro T locs X eT N
  obtain ⟨s₂, o, st, r⟩ := w T locs X eT N
  obtain ⟨cl, A, q1, q2, q3⟩ := A
  exact ⟨s₂, o, X.aaload hx (j := j) (v := v) (by rw [eT]; exact A.1) (State.isArrayOf_alike hZ.alike A.2.1) ht A.2.2 (pa_in q2 h0 (List.getElem?_eq_some_iff.mp hj).1) (by rw [q2]; simpa using hj) (g := mkF m pc L (.int j :: .ref a :: S)) rfl rfl (hb hby hd) _ st, r⟩
theorem w_iastore (ok : Ok K Z n0 own code maxL ret nm) {a : Addr} {vs : List Value} {j : Int32} {x : Int32} (hd : decode code pc = .ok (.iastore, 1)) (A : PA .int Z h a vs) (ge : n0 ≤ a) (h0 : ¬ j < 0) (hj : j.toNatClampNeg < vs.length) (w : ∀ h', Wr h h' a j.toNatClampNeg (.int x) → PA .int Z h' a (vs.set j.toNatClampNeg (.int x)) → W K l R n0 P h' k n (pc + 1) L S) : W K l R n0 P h k n pc L (.int x :: .int j :: .ref a :: S) := by
  obtain ⟨p, e, s, m, args, below, meth, c⟩ := K
  obtain ⟨hx, hZ, hown, hby, -⟩ := ok
  intro T locs X eT N
  have A0 := A
  obtain ⟨cl, A, q1, q2, q3⟩ := A
  obtain ⟨T1, h1, X1, e1, W1, st⟩ := stI X hx hZ eT A (j := j) (pa_in q2 h0 hj) (g := mkF m pc L (.int x :: .int j :: .ref a :: S)) rfl rfl (hb hby hd)
  obtain ⟨s₂, o, st2, r⟩ := w h1 W1 (A0.set W1 rfl) T1 _ X1 e1 (Fr.snoc X1 N ge)
  exact ⟨s₂, o, st _ st2, r⟩
theorem w_lastore (ok : Ok K Z n0 own code maxL ret nm) {a : Addr} {vs : List Value} {j : Int32} {x : Int64} (hd : decode code pc = .ok (.lastore, 1)) (A : PA .long Z h a vs) (ge : n0 ≤ a) (h0 : ¬ j < 0) (hj : j.toNatClampNeg < vs.length) (w : ∀ h', Wr h h' a j.toNatClampNeg (.long x) → PA .long Z h' a (vs.set j.toNatClampNeg (.long x)) → W K l R n0 P h' k n (pc + 1) L S) : W K l R n0 P h k n pc L (.long x :: .int j :: .ref a :: S) := by
  obtain ⟨p, e, s, m, args, below, meth, c⟩ := K
  obtain ⟨hx, hZ, hown, hby, -⟩ := ok
  intro T locs X eT N
  have A0 := A
  obtain ⟨cl, A, q1, q2, q3⟩ := A
  obtain ⟨T1, h1, X1, e1, W1, st⟩ := stJ X hx hZ eT A (j := j) (pa_in q2 h0 hj) (g := mkF m pc L (.long x :: .int j :: .ref a :: S)) rfl rfl (hb hby hd)
  obtain ⟨s₂, o, st2, r⟩ := w h1 W1 (A0.set W1 rfl) T1 _ X1 e1 (Fr.snoc X1 N ge)
  exact ⟨s₂, o, st _ st2, r⟩
theorem w_castore (ok : Ok K Z n0 own code maxL ret nm) {a : Addr} {vs : List Value} {j : Int32} {x : Int32} (hd : decode code pc = .ok (.castore, 1)) (A : PA .char Z h a vs) (ge : n0 ≤ a) (h0 : ¬ j < 0) (hj : j.toNatClampNeg < vs.length) (w : ∀ h', Wr h h' a j.toNatClampNeg (.int (nar .char x)) → PA .char Z h' a (vs.set j.toNatClampNeg (.int (nar .char x))) → W K l R n0 P h' k n (pc + 1) L S) : W K l R n0 P h k n pc L (.int x :: .int j :: .ref a :: S) := by
  obtain ⟨p, e, s, m, args, below, meth, c⟩ := K
  obtain ⟨hx, hZ, hown, hby, -⟩ := ok
  intro T locs X eT N
  have A0 := A
  obtain ⟨cl, A, q1, q2, q3⟩ := A
  obtain ⟨T1, h1, X1, e1, W1, st⟩ := stC X hx hZ eT A (j := j) (pa_in q2 h0 hj) (g := mkF m pc L (.int x :: .int j :: .ref a :: S)) rfl rfl (hb hby hd)
  obtain ⟨s₂, o, st2, r⟩ := w h1 W1 (A0.set W1 (fits_nar_char x)) T1 _ X1 e1 (Fr.snoc X1 N ge)
  exact ⟨s₂, o, st _ st2, r⟩
theorem w_bastore (ok : Ok K Z n0 own code maxL ret nm) {a : Addr} {vs : List Value} {j : Int32} {x : Int32} (hd : decode code pc = .ok (.bastore, 1)) (A : PA .byte Z h a vs) (ge : n0 ≤ a) (h0 : ¬ j < 0) (hj : j.toNatClampNeg < vs.length) (w : ∀ h', Wr h h' a j.toNatClampNeg (.int (nar .byte x)) → PA .byte Z h' a (vs.set j.toNatClampNeg (.int (nar .byte x))) → W K l R n0 P h' k n (pc + 1) L S) : W K l R n0 P h k n pc L (.int x :: .int j :: .ref a :: S) := by
  obtain ⟨p, e, s, m, args, below, meth, c⟩ := K
  obtain ⟨hx, hZ, hown, hby, -⟩ := ok
  intro T locs X eT N
  have A0 := A
  obtain ⟨cl, A, q1, q2, q3⟩ := A
  obtain ⟨T1, h1, X1, e1, W1, st⟩ := stB X hx hZ eT A (j := j) (pa_in q2 h0 hj) (g := mkF m pc L (.int x :: .int j :: .ref a :: S)) rfl rfl (hb hby hd)
  obtain ⟨s₂, o, st2, r⟩ := w h1 W1 (A0.set W1 (fits_nar_byte x)) T1 _ X1 e1 (Fr.snoc X1 N ge)
  exact ⟨s₂, o, st _ st2, r⟩
theorem w_zastore (ok : Ok K Z n0 own code maxL ret nm) {a : Addr} {vs : List Value} {j : Int32} {x : Int32} (hd : decode code pc = .ok (.bastore, 1)) (A : PA .boolean Z h a vs) (ge : n0 ≤ a) (h0 : ¬ j < 0) (hj : j.toNatClampNeg < vs.length) (w : ∀ h', Wr h h' a j.toNatClampNeg (.int (nar .boolean x)) → PA .boolean Z h' a (vs.set j.toNatClampNeg (.int (nar .boolean x))) → W K l R n0 P h' k n (pc + 1) L S) : W K l R n0 P h k n pc L (.int x :: .int j :: .ref a :: S) := by
  obtain ⟨p, e, s, m, args, below, meth, c⟩ := K
  obtain ⟨hx, hZ, hown, hby, -⟩ := ok
  intro T locs X eT N
  have A0 := A
  obtain ⟨cl, A, q1, q2, q3⟩ := A
  obtain ⟨T1, h1, X1, e1, W1, st⟩ := stZ X hx hZ eT A (j := j) (pa_in q2 h0 hj) (g := mkF m pc L (.int x :: .int j :: .ref a :: S)) rfl rfl (hb hby hd)
  obtain ⟨s₂, o, st2, r⟩ := w h1 W1 (A0.set W1 (fits_nar_bool x)) T1 _ X1 e1 (Fr.snoc X1 N ge)
  exact ⟨s₂, o, st _ st2, r⟩
/-! objects -/
abbrev Fl := List (String × String × String × FieldType)
def Ob (Z : State) (h : Heap) (a : Addr) (C : String) (fl : Fl) (vals : List Value) : Prop := Exa Z h a C ∧ ∀ (i : Nat) f v, fl[i]? = some f → vals[i]? = some v → Fld Z h a f.1 f.2.1 f.2.2.1 v
def LA (Z : State) (a0 : Array Value) (C : String) (fl : Fl) : Prop := (∀ f ∈ fl, Laid Z a0 C f.1 f.2.1 f.2.2.1 ∧ parseFieldDescriptor f.2.2.1 = some f.2.2.2) ∧ (fl.map (·.2.1)).Nodup
section Obs
variable {h' : Heap} {a b : Addr} {C : String} {fl : Fl} {vals : List Value} {v : Value} {sl : Nat} {ws : List Addr}
theorem Ob.lt (O : Ob Z h a C fl vals) : a < h.size := O.1.lt
theorem Ob.ext (O : Ob Z h a C fl vals) (E : Ext h h') : Ob Z h' a C fl vals := ⟨O.1.ext E, fun i f v q r => (O.2 i f v q r).ext E⟩
theorem Ob.other (O : Ob Z h b C fl vals) (W1 : Wr h h' a sl v) (ne : b ≠ a) : Ob Z h' b C fl vals := ⟨O.1.wr W1, fun i f v q r => (O.2 i f v q r).other W1 (Or.inl ne)⟩
theorem Ob.keep (O : Ob Z h a C fl vals) (K1 : Keep h h' ws) (q : a ∉ ws) : Ob Z h' a C fl vals := ⟨O.1.keep K1, fun i f v r r' => (O.2 i f v r r').keep K1 q⟩
theorem Ob.put (O : Ob Z h a C fl vals) (LAs : LA Z a0 C fl) {i : Nat} {f : String × String × String × FieldType} {u : Value} (hf : fl[i]? = some f) (hv : vals[i]? = some u) (W1 : Wr h h' a (Jvm.RoadKit.slotOf Z f.1 f.2.1 f.2.2.1) v) : Ob Z h' a C fl (vals.set i v) := by
  refine ⟨O.1.wr W1, fun j g w hg hw => ?_⟩
  by_cases e : i = j
  · subst e
    cases hf.symm.trans hg
    rw [List.getElem?_set_self (List.getElem?_eq_some_iff.mp hv).1] at hw
    cases hw
    exact (O.2 i f u hf hv).same W1
  · rw [List.getElem?_set_ne e] at hw
    refine (O.2 j g w hg hw).other W1 (Or.inr ?_)
    have m1 := LAs.1 f (List.mem_of_getElem? hf)
    have m2 := LAs.1 g (List.mem_of_getElem? hg)
    refine slot_ne m2.1 m1.1 (fun q => e ?_) m2.2 m1.2
    have hi := (List.getElem?_eq_some_iff.mp hf)
    have hj := (List.getElem?_eq_some_iff.mp hg)
    have nd := LAs.2
    have q1 : (fl.map (·.2.1))[i]? = some f.2.1 := by simp [hf]
    have q2 : (fl.map (·.2.1))[j]? = some f.2.1 := by simp [hg, q]
    exact (List.getElem?_inj (by simpa using hi.1) nd).mp (q1.trans q2.symm)
end Obs
theorem w_getfield (ok : Ok K Z n0 own code maxL ret nm) {index : Nat} {a : Addr} {C R0 host : String} {fl : Fl} {vals : List Value} {v : Value} {f : String × String × String × FieldType} (i : Nat) (hd : decode code pc = .ok (.getfield index, 3)) (w1 : (Cond.fieldLink own index R0 f.2.1 f.2.2.1).before a0 Z = true ∨ (Cond.fieldLinkNest own index R0 f.2.1 f.2.2.1 host).before a0 Z = true) (via : Via Z R0 f.1 f.2.1 f.2.2.1) (O : Ob Z h a C fl vals) (hf : fl[i]? = some f) (hv : vals[i]? = some v)
    (w : W K l R n0 P h k n (pc + 3) L (v :: S)) : W K l R n0 P h k n pc L (.ref a :: S) := by
  obtain ⟨p, e, s, m, args, below, meth, c⟩ := K
  obtain ⟨hx, hZ, hown, hby, -⟩ := ok
  intro T locs X eT N
  obtain ⟨T1, X1, e1, st⟩ := getF X hx hZ hown w1 via eT (O.2 i f v hf hv) (g := mkF m pc L (.ref a :: S)) rfl rfl (hb hby hd)
  obtain ⟨s₂, o, st2, r⟩ := w T1 locs X1 e1 N
  exact ⟨s₂, o, st _ st2, r⟩
theorem w_putfield (ok : Ok K Z n0 own code maxL ret nm) {index kk : Nat} {a : Addr} {C R0 host : String} {fl : Fl} {vals : List Value} {v u : Value} {f : String × String × String × FieldType} (i : Nat) (hd : decode code pc = .ok (.putfield index, 3)) (w1 : (Cond.fieldLink own index R0 f.2.1 f.2.2.1).before a0 Z = true ∨ (Cond.fieldLinkNest own index R0 f.2.1 f.2.2.1 host).before a0 Z = true) (via : Via Z R0 f.1 f.2.1 f.2.2.1) (O : Ob Z h a C fl vals) (LAs : LA Z a0 C fl) (hf : fl[i]? = some f) (hv : vals[i]? = some u)
    (w2 : (Cond.lays C f.1 f.2.1 f.2.2.1).before a0 Z = true ∨ ((Cond.laysFinal C f.1 f.2.1 f.2.2.1).before a0 Z = true ∧ own = f.1 ∧ nm = "<init>")) (w3 : (Cond.instantiable C kk).before a0 Z = true) (hn : narrow f.2.2.2 v = v) (hfit : fits f.2.2.2 v = true) (ge : n0 ≤ a)
    (w : ∀ h', Wr h h' a (Jvm.RoadKit.slotOf Z f.1 f.2.1 f.2.2.1) v → Ob Z h' a C fl (vals.set i v) → W K l R n0 P h' k n (pc + 3) L S) : W K l R n0 P h k n pc L (v :: .ref a :: S) := by
  obtain ⟨p, e, s, m, args, below, meth, c⟩ := K
  obtain ⟨hx, hZ, hown, hby, hml, hret, hnm, hlk, hn0⟩ := ok
  intro T locs X eT N
  obtain ⟨T1, h1, X1, e1, W1, st⟩ := putF X hx hZ hown w1 via eT (O.2 i f u hf hv) O.1 (w2.imp id fun q => ⟨q.1, q.2.1, hnm.trans q.2.2⟩) w3 (LAs.1 f (List.mem_of_getElem? hf)).2 hn hfit (g := mkF m pc L (v :: .ref a :: S)) rfl rfl (hb hby hd)
  obtain ⟨s₂, o, st2, r⟩ := w h1 W1 (O.put LAs hf hv W1) T1 _ X1 e1 (Fr.snoc X1 N ge)
  exact ⟨s₂, o, st _ st2, r⟩
theorem w_new (ok : Ok K Z n0 own code maxL ret nm) {index kk : Nat} {C : String} {fl : Fl} (hd : decode code pc = .ok (.new index, 3)) (w1 : (Cond.classLink own index C).before a0 Z = true) (w2 : (Cond.instantiable C kk).before a0 Z = true) (w3 : (Cond.initialized C).before a0 Z = true) (LAs : LA Z a0 C fl) (hc : k + 1 ≤ R.cells) (hl : n + kk ≤ R.slots)
    (w : ∀ h' a, a = h.size → n0 ≤ a → Ext h h' → Ob Z h' a C fl (fl.map fun f => defaultValue f.2.2.2) → W K l R n0 P h' (k + 1) (n + kk) (pc + 3) L (.ref a :: S)) : W K l R n0 P h k n pc L S := by
  obtain ⟨p, e, s, m, args, below, meth, c⟩ := K
  obtain ⟨hx, hZ, hown, hby, hml, hret, hnm, hlk, hn0⟩ := ok
  intro T locs X eT N
  obtain ⟨T1, h1, X1, e1, E1, A1, D1, -, st⟩ := newO X hx hZ hown w1 w2 w3 eT (g := mkF m pc L S) rfl (hb hby hd) hc hl
  obtain ⟨s₂, o, st2, r⟩ := w h1 h.size rfl (by rw [← eT]; exact old_ge hn0 X N) E1 ⟨A1, fun i f v hf hv => by
    simp [hf] at hv; subst hv
    exact D1 (LAs.1 f (List.mem_of_getElem? hf)).1 (LAs.1 f (List.mem_of_getElem? hf)).2⟩ T1 _ X1 e1 N
  exact ⟨s₂, o, st _ st2, r⟩
theorem w_initO (ok : Ok K Z n0 own code maxL ret nm) {index : Nat} {a : Addr} (hd : decode code pc = .ok (.invokespecial index, 3)) (w1 : (Cond.methodLink own index Lib.objectInit).before a0 Z = true) (w2 : (Cond.instanceMethod Lib.objectInit).before a0 Z = true) (w3 : (Cond.code Lib.objectInit ⟨#[0xb1]⟩ 1 none).before a0 Z = true) (hL : L.size = maxL) (hf : 1 ≤ R.frames) (hl : (S.map fun v => v.category).sum + 12 ≤ R.locals)
    (w : W K l R n0 P h k n (pc + 3) L S) : W K l R n0 P h k n pc L (.ref a :: S) := by
  obtain ⟨p, e, s, m, args, below, meth, c⟩ := K
  obtain ⟨hx, hZ, hown, hby, hml, hret, hnm, hlk, hn0⟩ := ok
  intro T locs X eT N
  obtain ⟨T1, X1, e1, st⟩ := initO X hx hZ hown w1 w2 w3 eT (g := mkF m pc L (.ref a :: S)) rfl (hL.trans hml.symm) rfl (hb hby hd) hf (W := (S.map fun v => v.category).sum) (by show 2 * 0 + _ ≤ _; omega) hl
  obtain ⟨s₂, o, st2, r⟩ := w T1 locs X1 e1 N
  exact ⟨s₂, o, st _ st2, r⟩
theorem w_callI (ok : Ok K Z n0 own code maxL ret nm) {index : Nat} {y : MethodName} {bytes : ByteArray} {mL : Nat} {rm : Room} {a : Addr} {argsL rest : List Value} {Q : Option Value → Heap → Prop} {ps : List FieldType} {r : Option FieldType}
    (hd : decode code pc = .ok (.invokespecial index, 3)) (hy1 : y.name = "<init>") (w1 : (Cond.methodLink own index y).before a0 Z = true) (w2 : (Cond.instanceMethod y).before a0 Z = true) (w3 : (Cond.initialized y.cls).before a0 Z = true) (w4 : (Cond.code y bytes mL none).before a0 Z = true) (hy : notHandle y)
    (pd : parseMethodDescriptor y.desc = some ⟨ps, r⟩) (hlen : argsL.length = ps.length) (hL : L.size = maxL) (hf : rm.frames + 1 ≤ R.frames) (hl : (rest.map fun v => v.category).sum + (mL + 11) + rm.locals ≤ R.locals) (hc : k + rm.cells ≤ R.cells) (hs : n + rm.slots ≤ R.slots)
    (hM : Old Z n0 h → Met l Z n0 y bytes mL none [] rm (.ref a :: argsL).toArray h Q) (w : ∀ v h', Q v h' → W K l R n0 P h' (k + rm.cells) (n + rm.slots) (pc + 3) L (v.toList ++ rest)) : W K l R n0 P h k n pc L (argsL.reverse ++ .ref a :: rest) := by
  obtain ⟨p, e, s, m, args, below, meth, c⟩ := K
  obtain ⟨hx, hZ, hown, hby, hml, hret, hnm, hlk, hn0⟩ := ok
  intro T locs X eT N
  have hM := hM (by rw [← eT]; exact old_now hn0 X N)
  obtain ⟨v, _, ⟨T1, L1, k1, n1⟩, -, X1, ⟨Lc, ⟨hQ, N1⟩, l1, y1, z1⟩, st⟩ := X.specialBack hx (y := y) hy1 hown (mvT hZ w1) (mvT hZ w2) (mvT hZ w4) hy (backOf (W := (rest.map fun v => v.category).sum) (Q := fun v h L => Q v h ∧ Fr n0 L) hM hZ w4 w3 hf hl) (g := mkF m pc L (argsL.reverse ++ .ref a :: rest)) rfl (hL.trans hml.symm) (Steps.refl _) (a := a) (argsL := argsL) (rest := rest) (lenOf pd hlen) rfl (by show 2 * 0 + _ ≤ _; omega) (hb hby hd) (fun _ _ => ⟨rfl, eT, hc, hs⟩)
  dsimp only [Pt.U, Pt.locs, Pt.cells, Pt.slots] at X1 l1 y1 z1 st hQ
  subst l1 y1 z1
  obtain ⟨s₂, o, st2, r2⟩ := w v _ hQ T1 _ X1 rfl (Fr.app N N1)
  exact ⟨s₂, o, st.trans st2, r2⟩
theorem w_callV (ok : Ok K Z n0 own code maxL ret nm) {index : Nat} {C : String} {y : MethodName} {bytes : ByteArray} {mL : Nat} {rt : Option FieldType} {rm : Room} {a : Addr} {argsL rest : List Value} {Q : Option Value → Heap → Prop} {ps : List FieldType} {r : Option FieldType}
    (hd : decode code pc = .ok (.invokevirtual index, 3)) (w1 : (Cond.methodLink own index y).before a0 Z = true) (w2 : (Cond.declares y).before a0 Z = true) (w3 : (Cond.selects C y y).before a0 Z = true) (w4 : (Cond.instanceMethod y).before a0 Z = true) (w5 : (Cond.initialized y.cls).before a0 Z = true) (w6 : (Cond.code y bytes mL rt).before a0 Z = true) (hy : notHandle y)
    (E : Exa Z h a C) (pd : parseMethodDescriptor y.desc = some ⟨ps, r⟩) (hlen : argsL.length = ps.length) (hL : L.size = maxL) (hf : rm.frames + 1 ≤ R.frames) (hl : (rest.map fun v => v.category).sum + (mL + 11) + rm.locals ≤ R.locals) (hc : k + rm.cells ≤ R.cells) (hs : n + rm.slots ≤ R.slots)
    (hM : Old Z n0 h → Met l Z n0 y bytes mL rt [] rm (.ref a :: argsL).toArray h Q) (w : ∀ v h', Q v h' → W K l R n0 P h' (k + rm.cells) (n + rm.slots) (pc + 3) L (v.toList ++ rest)) : W K l R n0 P h k n pc L (argsL.reverse ++ .ref a :: rest) := by
  obtain ⟨p, e, s, m, args, below, meth, c⟩ := K
  obtain ⟨hx, hZ, hown, hby, hml, hret, hnm, hlk, hn0⟩ := ok
  intro T locs X eT N
  have hM := hM (by rw [← eT]; exact old_now hn0 X N)
  obtain ⟨cq, kq, qa, qb, qc⟩ := isOf hZ eT E
  obtain ⟨v, _, ⟨T1, L1, k1, n1⟩, -, X1, ⟨Lc, ⟨hQ, N1⟩, l1, y1, z1⟩, st⟩ := X.virtualBack hx (y := y) (z := y) hown (mvT hZ w1) (mvT hZ w2) (notFace_of_selects (args := #[]) (mvT hZ w3)) (mvT hZ w3) (mvT hZ w4) hy (backOf (W := (rest.map fun v => v.category).sum) (Q := fun v h L => Q v h ∧ Fr n0 L) hM hZ w6 w5 hf hl) qa qc (g := mkF m pc L (argsL.reverse ++ .ref a :: rest)) rfl (hL.trans hml.symm) (Steps.refl _) (argsL := argsL) (rest := rest) (lenOf pd hlen) rfl (by show 2 * 0 + _ ≤ _; omega) (hb hby hd) (fun _ _ => ⟨rfl, eT, hc, hs⟩)
  dsimp only [Pt.U, Pt.locs, Pt.cells, Pt.slots] at X1 l1 y1 z1 st hQ
  subst l1 y1 z1
  obtain ⟨s₂, o, st2, r2⟩ := w v _ hQ T1 _ X1 rfl (Fr.app N N1)
  exact ⟨s₂, o, st.trans st2, r2⟩
theorem w_callP (ok : Ok K Z n0 own code maxL ret nm) {index kk : Nat} {y : MethodName} {bytes : ByteArray} {mL : Nat} {rt : Option FieldType} {rm : Room} {a : Addr} {argsL rest : List Value} {Q : Option Value → Heap → Prop} {ps : List FieldType} {r : Option FieldType}
    (hd : decode code pc = .ok (.invokevirtual index, 3)) (w1 : (Cond.methodLink own index y).before a0 Z = true) (w2 : (Cond.instanceMethod y).before a0 Z = true) (w3 : (Cond.privateMethod y).before a0 Z = true) (w4 : (Cond.instantiable y.cls kk).before a0 Z = true) (w5 : (Cond.initialized y.cls).before a0 Z = true) (w6 : (Cond.code y bytes mL rt).before a0 Z = true) (hy : notHandle y)
    (E : Exa Z h a y.cls) (pd : parseMethodDescriptor y.desc = some ⟨ps, r⟩) (hlen : argsL.length = ps.length) (hL : L.size = maxL) (hf : rm.frames + 1 ≤ R.frames) (hl : (rest.map fun v => v.category).sum + (mL + 11) + rm.locals ≤ R.locals) (hc : k + rm.cells ≤ R.cells) (hs : n + rm.slots ≤ R.slots)
    (hM : Old Z n0 h → Met l Z n0 y bytes mL rt [] rm (.ref a :: argsL).toArray h Q) (w : ∀ v h', Q v h' → W K l R n0 P h' (k + rm.cells) (n + rm.slots) (pc + 3) L (v.toList ++ rest)) : W K l R n0 P h k n pc L (argsL.reverse ++ .ref a :: rest) := by
  obtain ⟨p, e, s, m, args, below, meth, c⟩ := K
  obtain ⟨hx, hZ, hown, hby, hml, hret, hnm, hlk, hn0⟩ := ok
  intro T locs X eT N
  have hM := hM (by rw [← eT]; exact old_now hn0 X N)
  have hP : s.PrivateAt y := Cond.privateMethod_at (mvP hZ w3 (args := #[]))
  obtain ⟨ci, ki, i1, i2, i3, i4, -⟩ := Cond.instantiable_spec (mvT (args := args) hZ w4)
  have hni : ki.isInterface = false := by
    cases q : ki.isInterface
    · rfl
    · rw [q] at i4; cases i4
  have hsel := selects_self_of_private (args := args) i1 i2 hni hP (mvT hZ w2) hy
  obtain ⟨cell, hcell, hobj⟩ := E.cell
  obtain ⟨v, _, ⟨T1, L1, k1, n1⟩, -, X1, ⟨Lc, ⟨hQ, N1⟩, l1, y1, z1⟩, st⟩ := X.privateBack hx (y := y) hown (mvT hZ w1) (mvT hZ w2) hsel hP (mvT hZ w6) hy (backOf (W := (rest.map fun v => v.category).sum) (Q := fun v h L => Q v h ∧ Fr n0 L) hM hZ w6 w5 hf hl) (g := mkF m pc L (argsL.reverse ++ .ref a :: rest)) rfl (hL.trans hml.symm) (Steps.refl _) (a := a) (by rw [eT]; exact hcell) hobj (argsL := argsL) (rest := rest) (lenOf pd hlen) rfl (by show 2 * 0 + _ ≤ _; omega) (hb hby hd) (fun _ _ => ⟨rfl, eT, hc, hs⟩)
  dsimp only [Pt.U, Pt.locs, Pt.cells, Pt.slots] at X1 l1 y1 z1 st hQ
  subst l1 y1 z1
  obtain ⟨s₂, o, st2, r2⟩ := w v _ hQ T1 _ X1 rfl (Fr.app N N1)
  exact ⟨s₂, o, st.trans st2, r2⟩
theorem w_getstatic (ok : Ok K Z n0 own code maxL ret nm) {index : Nat} {R0 O n' d : String} {v : Value} (hd : decode code pc = .ok (.getstatic index, 3)) (w1 : (Cond.fieldLink own index R0 n' d).before a0 Z = true) (via : Via Z R0 O n' d) (F : Sta Z Z.heap O n' d v) (w : W K l R n0 P h k n (pc + 3) L (v :: S)) : W K l R n0 P h k n pc L S := by
  obtain ⟨p, e, s, m, args, below, meth, c⟩ := K
  obtain ⟨hx, hZ, hown, hby, hml, hret, hnm, hlk, hn0⟩ := ok
  intro T locs X eT N
  have O := old_now hn0 X N
  obtain ⟨T1, X1, e1, st⟩ := getS (host := "") X hx hZ hown w1 via rfl (F.ext O.2) (g := mkF m pc L S) rfl (hb hby hd)
  obtain ⟨s₂, o, st2, r⟩ := w T1 locs X1 (e1.trans eT) N
  exact ⟨s₂, o, st _ st2, r⟩
theorem w_acmp (ok : Ok K Z n0 own code maxL ret nm) {cd : ACond} {x y : Value} {o : Int} {pc1 pc' : Nat} (hd : decode code pc = .ok (.if_acmp cd o, 3)) (hp : (pc : Int) + o = (pc1 : Int)) (h1 : x.isRef = true) (h2 : y.isRef = true) (same : Bool) (hq : decide (x = y) = same) (hpc : pc' = if acV cd same = true then pc1 else pc + 3) (w : W K l R n0 P h k n pc' L S) : W K l R n0 P h k n pc L (y :: x :: S) := by
  obtain ⟨p, e, s, m, args, below, meth, c⟩ := K
  obtain ⟨hx, hZ, hown, hby, -⟩ := ok
  intro T locs X eT N
  obtain ⟨s₂, o, st, r⟩ := w T locs X eT N
  exact ⟨s₂, o, acmp X hx rfl h1 h2 (pc0 := pc) (pc' := pc') (same := same) rfl (hb hby hd) rfl hq (by rw [hp]; exact Int.natCast_nonneg _) (by rw [hp]; exact hpc) st, r⟩
theorem w_ifnullY (ok : Ok K Z n0 own code maxL ret nm) {o : Int} {pc' : Nat} (hd : decode code pc = .ok (.ifnull o, 3)) (hp : (pc : Int) + o = (pc' : Int)) (w : W K l R n0 P h k n pc' L S) : W K l R n0 P h k n pc L (.null :: S) := by
  obtain ⟨p, e, s, m, args, below, meth, c⟩ := K
  obtain ⟨hx, hZ, hown, hby, -⟩ := ok
  intro T locs X eT N
  obtain ⟨s₂, o, st, r⟩ := w T locs X eT N
  exact ⟨s₂, o, XS.ifnullYes X.here hx rfl (pc0 := pc) (pc' := pc') rfl (hb hby hd) rfl (by rw [hp]; exact Int.natCast_nonneg _) (by rw [hp]; rfl) st, r⟩
theorem w_ifnullN (ok : Ok K Z n0 own code maxL ret nm) {o : Int} {a : Addr} (hd : decode code pc = .ok (.ifnull o, 3)) (w : W K l R n0 P h k n (pc + 3) L S) : W K l R n0 P h k n pc L (.ref a :: S) := by
  obtain ⟨p, e, s, m, args, below, meth, c⟩ := K
  obtain ⟨hx, hZ, hown, hby, -⟩ := ok
  intro T locs X eT N
  obtain ⟨s₂, o, st, r⟩ := w T locs X eT N
  exact ⟨s₂, o, XS.ifnullNo X.here hx rfl (hb hby hd) rfl st, r⟩
theorem w_ifnonnullY (ok : Ok K Z n0 own code maxL ret nm) {o : Int} {pc' : Nat} {a : Addr} (hd : decode code pc = .ok (.ifnonnull o, 3)) (hp : (pc : Int) + o = (pc' : Int)) (w : W K l R n0 P h k n pc' L S) : W K l R n0 P h k n pc L (.ref a :: S) := by
  obtain ⟨p, e, s, m, args, below, meth, c⟩ := K
  obtain ⟨hx, hZ, hown, hby, -⟩ := ok
  intro T locs X eT N
  obtain ⟨s₂, o, st, r⟩ := w T locs X eT N
  exact ⟨s₂, o, XS.ifnonnullYes X.here hx rfl (pc0 := pc) (pc' := pc') rfl (hb hby hd) rfl (by rw [hp]; exact Int.natCast_nonneg _) (by rw [hp]; rfl) st, r⟩
theorem w_ifnonnullN (ok : Ok K Z n0 own code maxL ret nm) {o : Int} (hd : decode code pc = .ok (.ifnonnull o, 3)) (w : W K l R n0 P h k n (pc + 3) L S) : W K l R n0 P h k n pc L (.null :: S) := by
  obtain ⟨p, e, s, m, args, below, meth, c⟩ := K
  obtain ⟨hx, hZ, hown, hby, -⟩ := ok
  intro T locs X eT N
  obtain ⟨s₂, o, st, r⟩ := w T locs X eT N
  exact ⟨s₂, o, XS.ifnonnullNo X.here hx rfl (hb hby hd) rfl st, r⟩
/-- what may lie in the array at a: objects of C -/
def OvA (Z : State) (h : Heap) (a : Addr) (C : String) : Prop := ∃ c : Cell, h[a]? = some c ∧ Ovr Z c.cls C
theorem OvA.ext {h' : Heap} {a : Addr} {C : String} (A : OvA Z h a C) (E : Ext h h') : OvA Z h' a C := by obtain ⟨c, q, r⟩ := A; exact ⟨c, E.2 _ _ q, r⟩
theorem OvA.keep {h' : Heap} {a : Addr} {C : String} {ws : List Addr} (A : OvA Z h a C) (K1 : Keep h h' ws) : OvA Z h' a C := by obtain ⟨c, q, r⟩ := A; obtain ⟨c', q', r1, r2⟩ := K1.2.2 a c q; exact ⟨c', q', by rw [r1]; exact r⟩
theorem w_anewarray (ok : Ok K Z n0 own code maxL ret nm) {index : Nat} {C : String} {z : Int32} (hd : decode code pc = .ok (.anewarray index, 3)) (w1 : (Cond.classLink own index C).before a0 Z = true) (w2 : (Cond.arrayOver (.object C)).before a0 Z = true) (hz : ¬ z < 0) {cap : Nat} (hcap : z.toNatClampNeg ≤ cap) (hb1 : cap * 8 ≤ 536870912) (hc : k + 1 ≤ R.cells) (hl : n + cap ≤ R.slots)
    (w : ∀ h' a, a = h.size → n0 ≤ a → Ext h h' → PA (.object C) Z h' a (List.replicate z.toNatClampNeg .null) → OvA Z h' a C → W K l R n0 P h' (k + 1) (n + cap) (pc + 3) L (.ref a :: S)) : W K l R n0 P h k n pc L (.int z :: S) := by
  obtain ⟨p, e, s, m, args, below, meth, c⟩ := K
  obtain ⟨hx, hZ, hown, hby, hml, hret, hnm, hlk, hn0⟩ := ok
  intro T locs X eT N
  obtain ⟨T1, h1, cA, X1, e1, E1, A1, O1, st⟩ := newR X hx hZ hown w1 w2 eT (g := mkF m pc L (.int z :: S)) rfl (hb hby hd) rfl hz hcap hb1 hc hl
  have A2 : PA (.object C) Z h1 h.size (List.replicate z.toNatClampNeg .null) := by
    refine ⟨_, A1, by simpa using (back32 hz).2, by simp [newA, defaultValue], fun v hv => ?_⟩
    rw [List.eq_of_mem_replicate hv]; rfl
  obtain ⟨s₂, o, st2, r⟩ := w h1 h.size rfl (by rw [← eT]; exact old_ge hn0 X N) E1 A2 ⟨_, A1.1, O1⟩ T1 _ X1 e1 N
  exact ⟨s₂, o, st _ st2, r⟩
theorem w_aastore (ok : Ok K Z n0 own code maxL ret nm) {ty : FieldType} {C : String} {a b : Addr} {vs : List Value} {j : Int32} (hd : decode code pc = .ok (.aastore, 1)) (A : PA ty Z h a vs) (OA : OvA Z h a C) (I1 : Ins Z h b C true) (hty : ty.isReference = true) (hfit : fits ty (.ref b) = true) (ge : n0 ≤ a) (h0 : ¬ j < 0) (hj : j.toNatClampNeg < vs.length)
    (w : ∀ h', Wr h h' a j.toNatClampNeg (.ref b) → PA ty Z h' a (vs.set j.toNatClampNeg (.ref b)) → W K l R n0 P h' k n (pc + 1) L S) : W K l R n0 P h k n pc L (.ref b :: .int j :: .ref a :: S) := by
  obtain ⟨p, e, s, m, args, below, meth, c⟩ := K
  obtain ⟨hx, hZ, hown, hby, -⟩ := ok
  intro T locs X eT N
  have A0 := A
  obtain ⟨cl, A, q1, q2, q3⟩ := A
  obtain ⟨c2, y1, y2⟩ := OA
  cases A.1.symm.trans y1
  obtain ⟨T1, h1, X1, e1, W1, st⟩ := stR X hx hZ eT A (j := j) (pa_in q2 h0 hj) hty (Sto.of A y2 I1) (g := mkF m pc L (.ref b :: .int j :: .ref a :: S)) rfl rfl (hb hby hd)
  obtain ⟨s₂, o, st2, r⟩ := w h1 W1 (A0.set W1 hfit) T1 _ X1 e1 (Fr.snoc X1 N ge)
  exact ⟨s₂, o, st _ st2, r⟩
theorem frame_fin {s u : State} {L L' : List Loc} {v : Option Value} {c c' n n' : Nat} (hq : FrameEnd s (.returned v) u L c n) (N : Fr s.heap.size L) (h1 : c ≤ c') (h2 : n ≤ n') : FrameEnd s (.returned v) u L' c' n' :=
  ⟨hq.1, hq.2.1, (hq.2.2.sift fun y hy => Or.inr (N y hy)).mono h1 h2⟩
end S
end Jvm.OwnKit
namespace Jvm.Pilot.@@N@@
open Jvm Jvm.ClassFile Sem Op Lib Jvm.Free Jvm.Stand Jvm.LawKit Jvm.RoadKit Bundle Jvm.OwnKit Jvm.Pilot.@@N@@.Jvm.D
abbrev fl_Glob : Fl := [("com/example/turnstile/turnstile/server/Glob", "pattern", "[B", (.array .byte))]
theorem la_Glob {Z : State} {a0 : Array Value} (hw : ∀ d ∈ tables_1, d.before a0 Z = true) : LA Z a0 "com/example/turnstile/turnstile/server/Glob" fl_Glob := by
  refine ⟨fun f hf => ?_, by decide⟩
  simp only [fl_Glob, List.mem_cons, List.not_mem_nil, or_false] at hf
  rcases hf with rfl
  · exact ⟨Or.inr (hw _ (List.mem_of_getElem? (i := 25) rfl)), by decide⟩
def cmP (c x : Int32) : Prop := c = 63 ∨ c = x
/-- the pattern matches the name from byte i on -/
def Gi (ns : List Int32) : List Int32 → Nat → Prop
  | [], i => i = ns.length
  | c :: P, i => (c = 42 ∧ ∃ j, i ≤ j ∧ j ≤ ns.length ∧ Gi ns P j) ∨ (c ≠ 42 ∧ i < ns.length ∧ cmP c (ns.getD i 0) ∧ Gi ns P (i + 1))
theorem Gi_nil {ns : List Int32} {i : Nat} : Gi ns [] i ↔ i = ns.length := by rw [Gi]
theorem Gi_star {ns P : List Int32} {i : Nat} : Gi ns (42 :: P) i ↔ ∃ j, i ≤ j ∧ j ≤ ns.length ∧ Gi ns P j := by
  rw [Gi]
  constructor
  · rintro (⟨-, h⟩ | ⟨h, -⟩)
    · exact h
    · exact absurd rfl h
  · exact fun h => Or.inl ⟨rfl, h⟩
theorem Gi_ne {ns P : List Int32} {c : Int32} {i : Nat} (hc : c ≠ 42) : Gi ns (c :: P) i ↔ i < ns.length ∧ cmP c (ns.getD i 0) ∧ Gi ns P (i + 1) := by
  rw [Gi]
  constructor
  · rintro (⟨h, -⟩ | ⟨-, h⟩)
    · exact absurd h hc
    · exact h
  · exact fun h => Or.inr ⟨hc, h⟩
theorem Gi_le {ns : List Int32} : ∀ {P : List Int32} {i : Nat}, Gi ns P i → i ≤ ns.length
  | [], i, h => by rw [Gi_nil] at h; omega
  | c :: P, i, h => by
    rw [Gi] at h
    rcases h with ⟨-, j, h1, h2, -⟩ | ⟨-, h, -⟩ <;> omega
theorem own_dropc {ps : List Int32} {p : Nat} (hp : p < ps.length) : ps.drop p = ps.getD p 0 :: ps.drop (p + 1) := by
  rw [List.drop_eq_getElem_cons hp]; simp [List.getD, hp]
theorem own_dropn {ps : List Int32} {p : Nat} (hp : ¬ p < ps.length) : ps.drop p = [] := List.drop_of_length_le (by omega)
abbrev GInv (ns ps : List Int32) (p n l1 se : Nat) : Prop := p ≤ ps.length ∧ n ≤ ns.length ∧ l1 ≤ p ∧ se ≤ n ∧ (Gi ns ps 0 ↔ (Gi ns (ps.drop p) n ∨ (0 < l1 ∧ ∃ e, se < e ∧ e ≤ ns.length ∧ Gi ns (ps.drop l1) e))) ∧ (0 < l1 → ∀ e, se ≤ e → Gi ns (ps.drop l1) e → Gi ns (ps.drop p) (n + (e - se)))
theorem GInv.hp {ns ps : List Int32} {p n l1 se : Nat} (I : GInv ns ps p n l1 se) : p ≤ ps.length := I.1
theorem GInv.hn {ns ps : List Int32} {p n l1 se : Nat} (I : GInv ns ps p n l1 se) : n ≤ ns.length := I.2.1
theorem GInv.hl {ns ps : List Int32} {p n l1 se : Nat} (I : GInv ns ps p n l1 se) : l1 ≤ p := I.2.2.1
theorem GInv.hs {ns ps : List Int32} {p n l1 se : Nat} (I : GInv ns ps p n l1 se) : se ≤ n := I.2.2.2.1
theorem GInv.all {ns ps : List Int32} {p n l1 se : Nat} (I : GInv ns ps p n l1 se) : (Gi ns ps 0 ↔ (Gi ns (ps.drop p) n ∨ (0 < l1 ∧ ∃ e, se < e ∧ e ≤ ns.length ∧ Gi ns (ps.drop l1) e))) := I.2.2.2.2.1
theorem GInv.fwd {ns ps : List Int32} {p n l1 se : Nat} (I : GInv ns ps p n l1 se) : (0 < l1 → ∀ e, se ≤ e → Gi ns (ps.drop l1) e → Gi ns (ps.drop p) (n + (e - se))) := I.2.2.2.2.2
theorem ginv0 (ns ps : List Int32) : GInv ns ps 0 0 0 0 := ⟨by omega, by omega, by omega, by omega, ⟨fun h => Or.inl h, fun h => h.elim id fun q => absurd q.1 (by omega)⟩, fun h => absurd h (by omega)⟩
theorem GInv.star {ns ps : List Int32} {p n l1 se : Nat} (I : GInv ns ps p n l1 se) (hp : p < ps.length) (h : ps.getD p 0 = 42) : GInv ns ps (p + 1) n (p + 1) n := by
  have e := own_dropc hp
  rw [h] at e
  refine ⟨by omega, I.hn, Nat.le_refl _, Nat.le_refl _, ?_, fun _ x hx hg => by rw [show n + (x - n) = x by omega]; exact hg⟩
  rw [I.all, e, Gi_star]
  constructor
  · rintro (⟨j, h1, h2, h3⟩ | ⟨h0, x, h1, h2, h3⟩)
    · rcases Nat.eq_or_lt_of_le h1 with q | q
      · exact Or.inl (q ▸ h3)
      · exact Or.inr ⟨by omega, j, q, h2, h3⟩
    · have := I.fwd h0 x (by omega) h3
      rw [e, Gi_star] at this
      obtain ⟨j, h4, h5, h6⟩ := this
      exact Or.inr ⟨by omega, j, by omega, h5, h6⟩
  · rintro (h3 | ⟨-, x, h1, h2, h3⟩)
    · exact Or.inl ⟨n, Nat.le_refl _, I.hn, h3⟩
    · exact Or.inl ⟨x, by omega, h2, h3⟩
theorem GInv.same {ns ps : List Int32} {p n l1 se : Nat} (I : GInv ns ps p n l1 se) (hp : p < ps.length) (hn : n < ns.length) (h : ¬ ps.getD p 0 = 42) (hc : cmP (ps.getD p 0) (ns.getD n 0)) : GInv ns ps (p + 1) (n + 1) l1 se := by
  have e := own_dropc hp
  refine ⟨by omega, by omega, by have := I.hl; omega, by have := I.hs; omega, ?_, fun h0 x hx hg => ?_⟩
  · rw [I.all, e, Gi_ne h]
    constructor
    · rintro (⟨-, -, h3⟩ | h3)
      · exact Or.inl h3
      · exact Or.inr h3
    · rintro (h3 | h3)
      · exact Or.inl ⟨hn, hc, h3⟩
      · exact Or.inr h3
  · have := I.fwd h0 x hx hg
    rw [e, Gi_ne h] at this
    rw [show n + 1 + (x - se) = n + (x - se) + 1 by omega]
    exact this.2.2
theorem GInv.back {ns ps : List Int32} {p n l1 se : Nat} (I : GInv ns ps p n l1 se) (hn : n < ns.length) (bad : ¬ Gi ns (ps.drop p) n) (h0 : 0 < l1) : GInv ns ps l1 (se + 1) l1 (se + 1) := by
  refine ⟨by have := I.hl; have := I.hp; omega, by have := I.hs; omega, Nat.le_refl _, Nat.le_refl _, ?_, fun _ x hx hg => by rw [show se + 1 + (x - (se + 1)) = x by omega]; exact hg⟩
  rw [I.all]
  constructor
  · rintro (h | ⟨-, x, h1, h2, h3⟩)
    · exact absurd h bad
    · rcases Nat.eq_or_lt_of_le h1 with q | q
      · exact Or.inl (by rw [show se + 1 = x from q]; exact h3)
      · exact Or.inr ⟨h0, x, q, h2, h3⟩
  · rintro (h | ⟨-, x, h1, h2, h3⟩)
    · exact Or.inr ⟨h0, se + 1, by omega, by have := I.hs; omega, h⟩
    · exact Or.inr ⟨h0, x, by omega, h2, h3⟩
theorem GInv.fail {ns ps : List Int32} {p n se : Nat} (I : GInv ns ps p n 0 se) (bad : ¬ Gi ns (ps.drop p) n) : ¬ Gi ns ps 0 := by
  rw [I.all]; rintro (h | ⟨h, -⟩)
  · exact bad h
  · omega
theorem bad_nil {ns ps : List Int32} {p n : Nat} (hp : ¬ p < ps.length) (hn : n < ns.length) : ¬ Gi ns (ps.drop p) n := by
  rw [own_dropn hp, Gi_nil]; omega
theorem bad_ne {ns ps : List Int32} {p n : Nat} (hp : p < ps.length) (h : ¬ ps.getD p 0 = 42) (hc : ¬ cmP (ps.getD p 0) (ns.getD n 0)) : ¬ Gi ns (ps.drop p) n := by
  rw [own_dropc hp, Gi_ne h]; exact fun q => hc q.2.1
theorem GInv.fin {ns ps : List Int32} {p n l1 se : Nat} (I : GInv ns ps p n l1 se) (hn : ¬ n < ns.length) : Gi ns ps 0 ↔ Gi ns (ps.drop p) ns.length := by
  have e : n = ns.length := by have := I.hn; omega
  rw [I.all, ← e]
  constructor
  · rintro (h | ⟨h0, x, h1, h2, h3⟩)
    · exact h
    · have := Gi_le (I.fwd h0 x (by omega) h3); have := I.hs; omega
  · exact Or.inl
theorem end_star {ns ps : List Int32} {p : Nat} (hp : p < ps.length) (h : ps.getD p 0 = 42) : Gi ns (ps.drop p) ns.length ↔ Gi ns (ps.drop (p + 1)) ns.length := by
  have e := own_dropc hp
  rw [h] at e
  rw [e, Gi_star]
  constructor
  · rintro ⟨j, h1, h2, h3⟩
    have q : j = ns.length := by omega
    exact q ▸ h3
  · exact fun h3 => ⟨_, Nat.le_refl _, Nat.le_refl _, h3⟩
theorem end_nil {ns ps : List Int32} {p : Nat} (hp : ¬ p < ps.length) : Gi ns (ps.drop p) ns.length := by rw [own_dropn hp, Gi_nil]
theorem end_ne {ns ps : List Int32} {p : Nat} (hp : p < ps.length) (h : ¬ ps.getD p 0 = 42) : ¬ Gi ns (ps.drop p) ns.length := by
  rw [own_dropc hp, Gi_ne h]; exact fun q => absurd q.1 (Nat.lt_irrefl _)
/-- a run without a star stands at i -/
def SGl (P ns : List Int32) (i : Nat) : Prop := i + P.length ≤ ns.length ∧ ∀ k, k < P.length → cmP (P.getD k 0) (ns.getD (i + k) 0)
def NoS (P : List Int32) : Prop := ∀ c ∈ P, c ≠ 42
theorem SGl_nil {ns : List Int32} {i : Nat} : SGl [] ns i ↔ i ≤ ns.length := ⟨fun h => by simpa using h.1, fun h => ⟨by simpa using h, fun k hk => absurd hk (Nat.not_lt_zero _)⟩⟩
theorem SGl_cons {ns P : List Int32} {c : Int32} {i : Nat} : SGl (c :: P) ns i ↔ i < ns.length ∧ cmP c (ns.getD i 0) ∧ SGl P ns (i + 1) := by
  constructor
  · rintro ⟨h1, h2⟩
    simp only [List.length_cons] at h1 h2
    refine ⟨by omega, by simpa using h2 0 (by omega), by omega, fun k hk => ?_⟩
    have := h2 (k + 1) (by omega)
    rw [show i + (k + 1) = i + 1 + k by omega] at this; simpa using this
  · rintro ⟨h1, h2, h3, h4⟩
    refine ⟨by simp only [List.length_cons]; omega, fun k hk => ?_⟩
    cases k with
    | zero => simpa using h2
    | succ k =>
      have := h4 k (by simp only [List.length_cons] at hk; omega)
      rw [show i + (k + 1) = i + 1 + k by omega]; simpa using this
theorem Gi_app {ns Q : List Int32} : ∀ {P : List Int32} {i : Nat}, NoS P → (Gi ns (P ++ Q) i ↔ SGl P ns i ∧ Gi ns Q (i + P.length))
  | [], i, _ => ⟨fun h => ⟨SGl_nil.mpr (Gi_le h), h⟩, fun h => h.2⟩
  | c :: P, i, hS => by
    rw [List.cons_append, Gi_ne (hS c (by simp)), SGl_cons, Gi_app (P := P) (fun x hx => hS x (by simp [hx])), List.length_cons, show i + (P.length + 1) = i + 1 + P.length by omega]
    constructor
    · rintro ⟨a, b, c, d⟩; exact ⟨⟨a, b, c⟩, d⟩
    · rintro ⟨⟨a, b, c⟩, d⟩; exact ⟨a, b, c, d⟩
theorem Gi_all {ns P : List Int32} {i : Nat} (hS : NoS P) : Gi ns P i ↔ i + P.length = ns.length ∧ SGl P ns i := by
  have := Gi_app (ns := ns) (Q := []) (i := i) hS
  rw [List.append_nil, Gi_nil] at this
  rw [this]; exact And.comm
theorem Gi_suf {ns P : List Int32} {i : Nat} (hS : NoS P) : Gi ns (42 :: P) i ↔ i + P.length ≤ ns.length ∧ SGl P ns (ns.length - P.length) := by
  rw [Gi_star]
  constructor
  · rintro ⟨j, h1, h2, h3⟩
    rw [Gi_all hS] at h3
    rw [show ns.length - P.length = j by omega]; exact ⟨by omega, h3.2⟩
  · rintro ⟨h1, h2⟩
    exact ⟨ns.length - P.length, by omega, by omega, by rw [Gi_all hS]; exact ⟨by omega, h2⟩⟩
theorem own_one {ns P Q : List Int32} (hP : NoS P) (hQ : NoS Q) : Gi ns (P ++ 42 :: Q) 0 ↔ P.length + Q.length ≤ ns.length ∧ SGl P ns 0 ∧ SGl Q ns (ns.length - Q.length) := by
  rw [Gi_app hP, Gi_suf hQ, Nat.zero_add]
  constructor
  · rintro ⟨a, b, c⟩; exact ⟨b, a, c⟩
  · rintro ⟨a, b, c⟩; exact ⟨b, a, c⟩
theorem own_two {ns P R Q : List Int32} (hP : NoS P) (hR : NoS R) (hQ : NoS Q) : Gi ns (P ++ 42 :: (R ++ 42 :: Q)) 0 ↔ P.length + Q.length ≤ ns.length ∧ SGl P ns 0 ∧ SGl Q ns (ns.length - Q.length) ∧ ∃ i, P.length ≤ i ∧ i + R.length ≤ ns.length - Q.length ∧ SGl R ns i := by
  rw [Gi_app hP, Gi_star, Nat.zero_add]
  constructor
  · rintro ⟨a, j, h1, h2, h3⟩
    rw [Gi_app hR, Gi_suf hQ] at h3
    exact ⟨by omega, a, h3.2.2, j, h1, by omega, h3.1⟩
  · rintro ⟨a, b, c, j, h1, h2, h3⟩
    refine ⟨b, j, h1, by omega, ?_⟩
    rw [Gi_app hR, Gi_suf hQ]
    exact ⟨h3, by omega, c⟩
theorem Gi_cc {ns Q : List Int32} {i : Nat} : Gi ns (42 :: 42 :: Q) i ↔ Gi ns (42 :: Q) i := by
  rw [Gi_star, Gi_star]
  constructor
  · rintro ⟨j, h1, h2, h3⟩
    rw [Gi_star] at h3
    obtain ⟨k, a, b, c⟩ := h3
    exact ⟨k, by omega, b, c⟩
  · rintro ⟨j, h1, h2, h3⟩
    exact ⟨j, h1, h2, Gi_star.mpr ⟨j, Nat.le_refl _, h2, h3⟩⟩
theorem Gi_congr {ns Q Q' : List Int32} (h : ∀ i, Gi ns Q i ↔ Gi ns Q' i) : ∀ (P : List Int32) (i : Nat), Gi ns (P ++ Q) i ↔ Gi ns (P ++ Q') i
  | [], i => h i
  | c :: P, i => by
    rw [List.cons_append, List.cons_append, Gi, Gi, Gi_congr h P (i + 1)]
    have : (∃ j, i ≤ j ∧ j ≤ ns.length ∧ Gi ns (P ++ Q) j) ↔ ∃ j, i ≤ j ∧ j ≤ ns.length ∧ Gi ns (P ++ Q') j := by
      constructor
      · rintro ⟨j, a, b, c⟩; exact ⟨j, a, b, (Gi_congr h P j).mp c⟩
      · rintro ⟨j, a, b, c⟩; exact ⟨j, a, b, (Gi_congr h P j).mpr c⟩
    rw [this]
/-- what a method that answers a question returns -/
def Ans (v : Option Value) (q : Prop) : Prop := (v = some (.int 1) ∧ q) ∨ (v = some (.int 0) ∧ ¬ q)
abbrev bys (xs : List Int32) : List Value := xs.map Value.int
theorem own_ofNat {j : Nat} (h : j < 2147483648) : (Int32.ofNat j).toInt = j := Int32.toInt_ofNat_of_lt h
theorem own_clamp {z : Int32} {n : Nat} (h : z.toInt = n) : z.toNatClampNeg = n := by rw [Int32.toNatClampNeg, h]; rfl
theorem own_nn {z : Int32} {n : Nat} (h : z.toInt = n) : ¬ z < 0 := by rw [Int32.lt_iff_toInt_lt, h]; show ¬ (n : Int) < 0; omega
theorem own_ix {j : Nat} (h : j < 100) : (Int32.ofNat j).toNatClampNeg = j := own_clamp (own_ofNat (by omega))
theorem own_ix0 {j : Nat} (h : j < 100) : ¬ Int32.ofNat j < 0 := own_nn (own_ofNat (by omega))
theorem own_addk {s k : Nat} {c : Int32} (hc : c = Int32.ofNat k) (h : s + k < 100) : Int32.ofNat s + c = Int32.ofNat (s + k) := by
  apply Int32.toInt_inj.mp
  have e := c_iadd (Int32.ofNat s) c; have r := rng32 (Int32.ofNat s + c)
  rw [hc] at e r ⊢
  rw [own_ofNat (show s < 2147483648 by omega), own_ofNat (show k < 2147483648 by omega)] at e
  rw [own_ofNat (show s + k < 2147483648 by omega)]; omega
theorem own_subk {s k : Nat} {c : Int32} (hc : c = Int32.ofNat k) (h : k ≤ s) (hs : s < 100) : Int32.ofNat s - c = Int32.ofNat (s - k) := by
  apply Int32.toInt_inj.mp
  have e := c_isub (Int32.ofNat s) c; have r := rng32 (Int32.ofNat s - c)
  rw [hc] at e r ⊢
  rw [own_ofNat (show s < 2147483648 by omega), own_ofNat (show k < 2147483648 by omega)] at e
  rw [own_ofNat (show s - k < 2147483648 by omega)]; omega
theorem own_lt {a b : Nat} (ha : a < 100) (hb : b < 100) : Int32.ofNat a < Int32.ofNat b ↔ a < b := by
  rw [Int32.lt_iff_toInt_lt, own_ofNat (by omega), own_ofNat (by omega)]; omega
theorem own_eqn {a b : Nat} (ha : a < 100) (hb : b < 100) : Int32.ofNat a = Int32.ofNat b ↔ a = b := by
  rw [← Int32.toInt_inj, own_ofNat (by omega), own_ofNat (by omega)]; omega
theorem own_len {xs : List Int32} (h : xs.length < 100) : (bys xs).length = (Int32.ofNat xs.length).toNatClampNeg := by rw [own_ix h]; simp [bys]
theorem own_rdx {xs : List Int32} {j : Nat} (h : j < xs.length) (hl : xs.length < 100) : (bys xs)[(Int32.ofNat j).toNatClampNeg]? = some (.int (xs.getD j 0)) := by
  rw [own_ix (by omega)]; simp [bys, List.getD, h]
theorem own_rdk {xs : List Int32} {s k : Nat} {c : Int32} (hc : c = Int32.ofNat k) (h : s + k < xs.length) (hl : xs.length < 100) : (bys xs)[(Int32.ofNat s + c).toNatClampNeg]? = some (.int (xs.getD (s + k) 0)) := by
  rw [own_addk hc (by omega)]; exact own_rdx h hl
theorem own_nnk {s k : Nat} {c : Int32} (hc : c = Int32.ofNat k) (h : s + k < 100) : ¬ Int32.ofNat s + c < 0 := by
  rw [own_addk hc h]; exact own_ix0 h
theorem own_getD {ps : List Int32} {s m k : Nat} (hk : k < m) : ((ps.drop s).take m).getD k 0 = ps.getD (s + k) 0 := by
  simp [List.getD, List.getElem?_take, hk, List.getElem?_drop]
theorem own_sgl {ps ns : List Int32} {s m i : Nat} (hs : s + m ≤ ps.length) : SGl ((ps.drop s).take m) ns i ↔ i + m ≤ ns.length ∧ ∀ k, k < m → cmP (ps.getD (s + k) 0) (ns.getD (i + k) 0) := by
  have e : ((ps.drop s).take m).length = m := by simp; omega
  unfold SGl
  rw [e]
  constructor
  · rintro ⟨a, b⟩; exact ⟨a, fun k hk => by have := b k hk; rw [own_getD hk] at this; exact this⟩
  · rintro ⟨a, b⟩; exact ⟨a, fun k hk => by rw [own_getD hk]; exact b k hk⟩
theorem NoS_nil : NoS [] := fun c hc => absurd hc (by simp)
theorem NoS_cons {c : Int32} {P : List Int32} (h : ¬ c = 42) (t : NoS P) : NoS (c :: P) := fun x hx => by
  rcases List.mem_cons.mp hx with rfl | q
  · exact h
  · exact t x q
theorem own_shape : ∀ (ps : List Int32), ps.length ≤ 4 → ps = [] ∨ (∃ x0, ps = [x0]) ∨ (∃ x0 x1, ps = [x0, x1]) ∨ (∃ x0 x1 x2, ps = [x0, x1, x2]) ∨ ∃ x0 x1 x2 x3, ps = [x0, x1, x2, x3]
  | [], _ => Or.inl rfl
  | [a], _ => Or.inr (Or.inl ⟨a, rfl⟩)
  | [a, b], _ => Or.inr (Or.inr (Or.inl ⟨a, b, rfl⟩))
  | [a, b, c], _ => Or.inr (Or.inr (Or.inr (Or.inl ⟨a, b, c, rfl⟩)))
  | [a, b, c, d], _ => Or.inr (Or.inr (Or.inr (Or.inr ⟨a, b, c, d, rfl⟩)))
  | _ :: _ :: _ :: _ :: _ :: _, h => absurd h (by simp only [List.length_cons]; omega)
theorem d8_0 : decode method_6_code 0 = .ok (.aload_n 0, 1) := by decide +kernel
theorem d8_1 : decode method_6_code 1 = .ok (.iload_n 1, 1) := by decide +kernel
theorem d8_2 : decode method_6_code 2 = .ok (.baload, 1) := by decide +kernel
theorem d8_3 : decode method_6_code 3 = .ok (.bipush 42, 2) := by decide +kernel
theorem d8_5 : decode method_6_code 5 = .ok (.if_icmp .ne 7, 3) := by decide +kernel
theorem d8_8 : decode method_6_code 8 = .ok (.iconst 1, 1) := by decide +kernel
theorem d8_9 : decode method_6_code 9 = .ok (.goto 4, 3) := by decide +kernel
theorem d8_12 : decode method_6_code 12 = .ok (.iconst 0, 1) := by decide +kernel
theorem d8_13 : decode method_6_code 13 = .ok (.ireturn, 1) := by decide +kernel
theorem pn_com_example_turnstile_turnstile_server_GlobMatchesPinLaw : plainName "com/example/turnstile/turnstile/server/GlobMatchesPinLaw" = true := by first | (simp [plainName, overriddenIn]; done) | decide +kernel
abbrev mn_8 : MethodName := ⟨"com/example/turnstile/turnstile/server/GlobMatchesPinLaw", "star", "([BI)Z"⟩
set_option maxRecDepth 65536 in
set_option maxHeartbeats 40000000 in
theorem rm_star (l : Launch) (Z : State) (a0 : Array Value) (hw : ∀ d ∈ tables_1, d.before a0 Z = true) (ws : List Jvm.Cond) (n0 : Nat) (h0 : Heap) (Z0 : Old Z n0 h0) (p : Addr) (ps : List Int32) (A_p : PA .byte Z h0 p (bys ps)) (k : Nat) (hk : k < ps.length) (hl : ps.length < 100)  :
    Met l Z n0 mn_8 method_6_code 2 (some .boolean) ws ({ frames := 0, cells := 0, slots := 0, locals := 0 } : Room) #[(.ref p), (.int (Int32.ofNat k))] h0 (fun u h => Ans u (ps.getD k 0 = 42) ∧ h0 = h) := by
  refine met_of Z0 (plainFor_of_name pn_com_example_turnstile_turnstile_server_GlobMatchesPinLaw) (Ls := #[.val (.ref p), .val (.int (Int32.ofNat k))]) (fun m => by first | (simp [entryFrame, mkF, argsToLocals, Value.category]; done) | rfl) ?_
  intro K ok
  show W K l _ n0 _ h0 0 0 0 #[.val (.ref p), .val (.int (Int32.ofNat k))] []
  refine w_aloadN ok d8_0 rfl rfl ?_
  refine w_iloadN ok d8_1 rfl ?_
  refine w_baload ok (v := (.int (ps.getD k 0))) d8_2 A_p (own_ix0 (by omega)) (own_rdx hk hl) ?_
  refine w_bipush ok d8_3 (v := (42 : Int32)) rfl ?_
  refine w_icmp_ne ok d8_5 (pc' := 12) (by decide) (fun hc1 => ?_) (fun hc1 => ?_)
  · skip
    refine w_iconst ok d8_12 (v := (0 : Int32)) rfl ?_
    refine w_bret ok (by simp) d8_13 (by decide) (by decide) ?_
    exact ⟨Or.inr ⟨rfl, hc1⟩, rfl⟩
  · skip
    refine w_iconst ok d8_8 (v := (1 : Int32)) rfl ?_
    refine w_goto ok d8_9 (pc' := 13) (by decide) ?_
    refine w_bret ok (by simp) d8_13 (by decide) (by decide) ?_
    exact ⟨Or.inl ⟨rfl, hc1⟩, rfl⟩
theorem d10_0 : decode method_5_code 0 = .ok (.iload_n 0, 1) := by decide +kernel
theorem d10_1 : decode method_5_code 1 = .ok (.bipush 63, 2) := by decide +kernel
theorem d10_3 : decode method_5_code 3 = .ok (.if_icmp .eq 8, 3) := by decide +kernel
theorem d10_6 : decode method_5_code 6 = .ok (.iload_n 0, 1) := by decide +kernel
theorem d10_7 : decode method_5_code 7 = .ok (.iload_n 1, 1) := by decide +kernel
theorem d10_8 : decode method_5_code 8 = .ok (.if_icmp .ne 7, 3) := by decide +kernel
theorem d10_11 : decode method_5_code 11 = .ok (.iconst 1, 1) := by decide +kernel
theorem d10_12 : decode method_5_code 12 = .ok (.goto 4, 3) := by decide +kernel
theorem d10_15 : decode method_5_code 15 = .ok (.iconst 0, 1) := by decide +kernel
theorem d10_16 : decode method_5_code 16 = .ok (.ireturn, 1) := by decide +kernel
abbrev mn_10 : MethodName := ⟨"com/example/turnstile/turnstile/server/GlobMatchesPinLaw", "cm", "(BB)Z"⟩
set_option maxRecDepth 65536 in
set_option maxHeartbeats 40000000 in
theorem rm_cm (l : Launch) (Z : State) (a0 : Array Value) (hw : ∀ d ∈ tables_1, d.before a0 Z = true) (ws : List Jvm.Cond) (n0 : Nat) (h0 : Heap) (Z0 : Old Z n0 h0) (c d : Int32)  :
    Met l Z n0 mn_10 method_5_code 2 (some .boolean) ws ({ frames := 0, cells := 0, slots := 0, locals := 0 } : Room) #[(.int c), (.int d)] h0 (fun u h => Ans u (cmP c d) ∧ h0 = h) := by
  refine met_of Z0 (plainFor_of_name pn_com_example_turnstile_turnstile_server_GlobMatchesPinLaw) (Ls := #[.val (.int c), .val (.int d)]) (fun m => by first | (simp [entryFrame, mkF, argsToLocals, Value.category]; done) | rfl) ?_
  intro K ok
  show W K l _ n0 _ h0 0 0 0 #[.val (.int c), .val (.int d)] []
  refine w_iloadN ok d10_0 rfl ?_
  refine w_bipush ok d10_1 (v := (63 : Int32)) rfl ?_
  refine w_icmp_eq ok d10_3 (pc' := 11) (by decide) (fun hc1 => ?_) (fun hc1 => ?_)
  · skip
    refine w_iconst ok d10_11 (v := (1 : Int32)) rfl ?_
    refine w_goto ok d10_12 (pc' := 16) (by decide) ?_
    refine w_bret ok (by simp) d10_16 (by decide) (by decide) ?_
    exact ⟨Or.inl ⟨rfl, Or.inl hc1⟩, rfl⟩
  · skip
    refine w_iloadN ok d10_6 rfl ?_
    refine w_iloadN ok d10_7 rfl ?_
    refine w_icmp_ne ok d10_8 (pc' := 15) (by decide) (fun hc3 => ?_) (fun hc3 => ?_)
    · skip
      refine w_iconst ok d10_15 (v := (0 : Int32)) rfl ?_
      refine w_bret ok (by simp) d10_16 (by decide) (by decide) ?_
      exact ⟨Or.inr ⟨rfl, fun q => q.elim hc1 hc3⟩, rfl⟩
    · skip
      refine w_iconst ok d10_11 (v := (1 : Int32)) rfl ?_
      refine w_goto ok d10_12 (pc' := 16) (by decide) ?_
      refine w_bret ok (by simp) d10_16 (by decide) (by decide) ?_
      exact ⟨Or.inl ⟨rfl, Or.inr hc3⟩, rfl⟩
theorem d9_0 : decode method_7_code 0 = .ok (.iload 4, 2) := by decide +kernel
theorem d9_2 : decode method_7_code 2 = .ok (.ifCond .lt 12, 3) := by decide +kernel
theorem d9_5 : decode method_7_code 5 = .ok (.iload 4, 2) := by decide +kernel
theorem d9_7 : decode method_7_code 7 = .ok (.iload_n 2, 1) := by decide +kernel
theorem d9_8 : decode method_7_code 8 = .ok (.iadd, 1) := by decide +kernel
theorem d9_9 : decode method_7_code 9 = .ok (.aload_n 3, 1) := by decide +kernel
theorem d9_10 : decode method_7_code 10 = .ok (.arraylength, 1) := by decide +kernel
theorem d9_11 : decode method_7_code 11 = .ok (.if_icmp .le 5, 3) := by decide +kernel
theorem d9_14 : decode method_7_code 14 = .ok (.iconst 0, 1) := by decide +kernel
theorem d9_15 : decode method_7_code 15 = .ok (.ireturn, 1) := by decide +kernel
theorem d9_16 : decode method_7_code 16 = .ok (.iload_n 2, 1) := by decide +kernel
theorem d9_17 : decode method_7_code 17 = .ok (.ifCond .le 18, 3) := by decide +kernel
theorem d9_20 : decode method_7_code 20 = .ok (.aload_n 0, 1) := by decide +kernel
theorem d9_21 : decode method_7_code 21 = .ok (.iload_n 1, 1) := by decide +kernel
theorem d9_22 : decode method_7_code 22 = .ok (.baload, 1) := by decide +kernel
theorem d9_23 : decode method_7_code 23 = .ok (.aload_n 3, 1) := by decide +kernel
theorem d9_24 : decode method_7_code 24 = .ok (.iload 4, 2) := by decide +kernel
theorem d9_26 : decode method_7_code 26 = .ok (.baload, 1) := by decide +kernel
theorem d9_27 : decode method_7_code 27 = .ok (.invokestatic 11, 3) := by decide +kernel
theorem d9_30 : decode method_7_code 30 = .ok (.ifCond .ne 5, 3) := by decide +kernel
theorem d9_33 : decode method_7_code 33 = .ok (.iconst 0, 1) := by decide +kernel
theorem d9_34 : decode method_7_code 34 = .ok (.ireturn, 1) := by decide +kernel
theorem d9_35 : decode method_7_code 35 = .ok (.iload_n 2, 1) := by decide +kernel
theorem d9_36 : decode method_7_code 36 = .ok (.iconst 1, 1) := by decide +kernel
theorem d9_37 : decode method_7_code 37 = .ok (.if_icmp .le 22, 3) := by decide +kernel
theorem d9_40 : decode method_7_code 40 = .ok (.aload_n 0, 1) := by decide +kernel
theorem d9_41 : decode method_7_code 41 = .ok (.iload_n 1, 1) := by decide +kernel
theorem d9_42 : decode method_7_code 42 = .ok (.iconst 1, 1) := by decide +kernel
theorem d9_43 : decode method_7_code 43 = .ok (.iadd, 1) := by decide +kernel
theorem d9_44 : decode method_7_code 44 = .ok (.baload, 1) := by decide +kernel
theorem d9_45 : decode method_7_code 45 = .ok (.aload_n 3, 1) := by decide +kernel
theorem d9_46 : decode method_7_code 46 = .ok (.iload 4, 2) := by decide +kernel
theorem d9_48 : decode method_7_code 48 = .ok (.iconst 1, 1) := by decide +kernel
theorem d9_49 : decode method_7_code 49 = .ok (.iadd, 1) := by decide +kernel
theorem d9_50 : decode method_7_code 50 = .ok (.baload, 1) := by decide +kernel
theorem d9_51 : decode method_7_code 51 = .ok (.invokestatic 11, 3) := by decide +kernel
theorem d9_54 : decode method_7_code 54 = .ok (.ifCond .ne 5, 3) := by decide +kernel
theorem d9_57 : decode method_7_code 57 = .ok (.iconst 0, 1) := by decide +kernel
theorem d9_58 : decode method_7_code 58 = .ok (.ireturn, 1) := by decide +kernel
theorem d9_59 : decode method_7_code 59 = .ok (.iload_n 2, 1) := by decide +kernel
theorem d9_60 : decode method_7_code 60 = .ok (.iconst 2, 1) := by decide +kernel
theorem d9_61 : decode method_7_code 61 = .ok (.if_icmp .le 22, 3) := by decide +kernel
theorem d9_64 : decode method_7_code 64 = .ok (.aload_n 0, 1) := by decide +kernel
theorem d9_65 : decode method_7_code 65 = .ok (.iload_n 1, 1) := by decide +kernel
theorem d9_66 : decode method_7_code 66 = .ok (.iconst 2, 1) := by decide +kernel
theorem d9_67 : decode method_7_code 67 = .ok (.iadd, 1) := by decide +kernel
theorem d9_68 : decode method_7_code 68 = .ok (.baload, 1) := by decide +kernel
theorem d9_69 : decode method_7_code 69 = .ok (.aload_n 3, 1) := by decide +kernel
theorem d9_70 : decode method_7_code 70 = .ok (.iload 4, 2) := by decide +kernel
theorem d9_72 : decode method_7_code 72 = .ok (.iconst 2, 1) := by decide +kernel
theorem d9_73 : decode method_7_code 73 = .ok (.iadd, 1) := by decide +kernel
theorem d9_74 : decode method_7_code 74 = .ok (.baload, 1) := by decide +kernel
theorem d9_75 : decode method_7_code 75 = .ok (.invokestatic 11, 3) := by decide +kernel
theorem d9_78 : decode method_7_code 78 = .ok (.ifCond .ne 5, 3) := by decide +kernel
theorem d9_81 : decode method_7_code 81 = .ok (.iconst 0, 1) := by decide +kernel
theorem d9_82 : decode method_7_code 82 = .ok (.ireturn, 1) := by decide +kernel
theorem d9_83 : decode method_7_code 83 = .ok (.iload_n 2, 1) := by decide +kernel
theorem d9_84 : decode method_7_code 84 = .ok (.iconst 3, 1) := by decide +kernel
theorem d9_85 : decode method_7_code 85 = .ok (.if_icmp .le 22, 3) := by decide +kernel
theorem d9_88 : decode method_7_code 88 = .ok (.aload_n 0, 1) := by decide +kernel
theorem d9_89 : decode method_7_code 89 = .ok (.iload_n 1, 1) := by decide +kernel
theorem d9_90 : decode method_7_code 90 = .ok (.iconst 3, 1) := by decide +kernel
theorem d9_91 : decode method_7_code 91 = .ok (.iadd, 1) := by decide +kernel
theorem d9_92 : decode method_7_code 92 = .ok (.baload, 1) := by decide +kernel
theorem d9_93 : decode method_7_code 93 = .ok (.aload_n 3, 1) := by decide +kernel
theorem d9_94 : decode method_7_code 94 = .ok (.iload 4, 2) := by decide +kernel
theorem d9_96 : decode method_7_code 96 = .ok (.iconst 3, 1) := by decide +kernel
theorem d9_97 : decode method_7_code 97 = .ok (.iadd, 1) := by decide +kernel
theorem d9_98 : decode method_7_code 98 = .ok (.baload, 1) := by decide +kernel
theorem d9_99 : decode method_7_code 99 = .ok (.invokestatic 11, 3) := by decide +kernel
theorem d9_102 : decode method_7_code 102 = .ok (.ifCond .ne 5, 3) := by decide +kernel
theorem d9_105 : decode method_7_code 105 = .ok (.iconst 0, 1) := by decide +kernel
theorem d9_106 : decode method_7_code 106 = .ok (.ireturn, 1) := by decide +kernel
theorem d9_107 : decode method_7_code 107 = .ok (.iconst 1, 1) := by decide +kernel
theorem d9_108 : decode method_7_code 108 = .ok (.ireturn, 1) := by decide +kernel
theorem pd_28BB29Z : parseMethodDescriptor "(BB)Z" = some ⟨[.byte, .byte], some .boolean⟩ := by decide +kernel
abbrev mn_9 : MethodName := ⟨"com/example/turnstile/turnstile/server/GlobMatchesPinLaw", "seg", "([BII[BI)Z"⟩
set_option maxRecDepth 65536 in
set_option maxHeartbeats 40000000 in
theorem rm_seg (l : Launch) (Z : State) (a0 : Array Value) (hw : ∀ d ∈ tables_1, d.before a0 Z = true) (ws : List Jvm.Cond) (n0 : Nat) (h0 : Heap) (Z0 : Old Z n0 h0) (p n : Addr) (ps ns : List Int32) (A_p : PA .byte Z h0 p (bys ps)) (A_n : PA .byte Z h0 n (bys ns)) (s m i : Nat) (iz : Int32) (hz : iz = Int32.ofNat i) (hs : s + m ≤ ps.length) (hm : m ≤ 4) (hi : i ≤ 5) (lp : ps.length ≤ 5) (ln : ns.length ≤ 5) :
    Met l Z n0 mn_9 method_7_code 5 (some .boolean) ws ({ frames := 1, cells := 0, slots := 0, locals := 13 } : Room) #[(.ref p), (.int (Int32.ofNat s)), (.int (Int32.ofNat m)), (.ref n), (.int iz)] h0 (fun u h => Ans u (SGl ((ps.drop s).take m) ns i) ∧ h0 = h) := by
  refine met_of Z0 (plainFor_of_name pn_com_example_turnstile_turnstile_server_GlobMatchesPinLaw) (Ls := #[.val (.ref p), .val (.int (Int32.ofNat s)), .val (.int (Int32.ofNat m)), .val (.ref n), .val (.int iz)]) (fun m => by first | (simp [entryFrame, mkF, argsToLocals, Value.category]; done) | rfl) ?_
  intro K ok
  subst hz
  obtain rfl | rfl | rfl | rfl | rfl : m = 0 ∨ m = 1 ∨ m = 2 ∨ m = 3 ∨ m = 4 := by omega
  · skip
    show W K l _ n0 _ h0 0 0 0 #[.val (.ref p), .val (.int (Int32.ofNat s)), .val (.int (0 : Int32)), .val (.ref n), .val (.int (Int32.ofNat i))] []
    refine w_iload ok d9_0 rfl ?_
    refine w_if_lt ok d9_2 (pc' := 14) (by decide) (fun hc1 => False.elim (by exact own_ix0 (by omega) hc1)) (fun hc1 => ?_)
    refine w_iload ok d9_5 rfl ?_
    refine w_iloadN ok d9_7 rfl ?_
    refine w_iadd ok d9_8 ?_
    refine w_aloadN ok d9_9 rfl rfl ?_
    refine w_arraylength ok (z := Int32.ofNat ns.length) d9_10 A_n (own_len (by omega)) (own_ix0 (by omega)) ?_
    show W K l _ n0 _ h0 0 0 11 #[.val (.ref p), .val (.int (Int32.ofNat s)), .val (.int (0 : Int32)), .val (.ref n), .val (.int (Int32.ofNat i))] [(.int (Int32.ofNat ns.length)), (.int ((Int32.ofNat i) + (0 : Int32)))]
    refine w_icmp_le ok d9_11 (pc' := 16) (by decide) (fun hc3 => ?_) (fun hc3 => ?_)
    · skip
      have hle : i + 0 ≤ ns.length := by have q := hc3; rw [own_addk (c := (0 : Int32)) (k := 0) rfl (by omega), own_lt (by omega) (by omega)] at q; omega
      refine w_iloadN ok d9_16 rfl ?_
      refine w_if_le ok d9_17 (pc' := 35) (by decide) (fun hc5 => ?_) (fun hc5 => False.elim (by revert hc5; decide))
      refine w_iloadN ok d9_35 rfl ?_
      refine w_iconst ok d9_36 (v := (1 : Int32)) rfl ?_
      refine w_icmp_le ok d9_37 (pc' := 59) (by decide) (fun hc7 => ?_) (fun hc7 => False.elim (by revert hc7; decide))
      refine w_iloadN ok d9_59 rfl ?_
      refine w_iconst ok d9_60 (v := (2 : Int32)) rfl ?_
      refine w_icmp_le ok d9_61 (pc' := 83) (by decide) (fun hc9 => ?_) (fun hc9 => False.elim (by revert hc9; decide))
      refine w_iloadN ok d9_83 rfl ?_
      refine w_iconst ok d9_84 (v := (3 : Int32)) rfl ?_
      refine w_icmp_le ok d9_85 (pc' := 107) (by decide) (fun hc11 => ?_) (fun hc11 => False.elim (by revert hc11; decide))
      refine w_iconst ok d9_107 (v := (1 : Int32)) rfl ?_
      refine w_bret ok (by simp) d9_108 (by decide) (by decide) ?_
      exact ⟨Or.inl ⟨rfl, (own_sgl hs).mpr ⟨hle, fun k hk => match k, hk with  | k' + 0, h' => absurd h' (by omega)⟩⟩, rfl⟩
    · skip
      refine w_iconst ok d9_14 (v := (0 : Int32)) rfl ?_
      refine w_bret ok (by simp) d9_15 (by decide) (by decide) ?_
      refine ⟨Or.inr ⟨rfl, fun q => ?_⟩, rfl⟩
      have q1 := ((own_sgl hs).mp q).1; have q2 := hc3; rw [own_addk (c := (0 : Int32)) (k := 0) rfl (by omega), own_lt (by omega) (by omega)] at q2; omega
  · skip
    show W K l _ n0 _ h0 0 0 0 #[.val (.ref p), .val (.int (Int32.ofNat s)), .val (.int (1 : Int32)), .val (.ref n), .val (.int (Int32.ofNat i))] []
    refine w_iload ok d9_0 rfl ?_
    refine w_if_lt ok d9_2 (pc' := 14) (by decide) (fun hc1 => False.elim (by exact own_ix0 (by omega) hc1)) (fun hc1 => ?_)
    refine w_iload ok d9_5 rfl ?_
    refine w_iloadN ok d9_7 rfl ?_
    refine w_iadd ok d9_8 ?_
    refine w_aloadN ok d9_9 rfl rfl ?_
    refine w_arraylength ok (z := Int32.ofNat ns.length) d9_10 A_n (own_len (by omega)) (own_ix0 (by omega)) ?_
    show W K l _ n0 _ h0 0 0 11 #[.val (.ref p), .val (.int (Int32.ofNat s)), .val (.int (1 : Int32)), .val (.ref n), .val (.int (Int32.ofNat i))] [(.int (Int32.ofNat ns.length)), (.int ((Int32.ofNat i) + (1 : Int32)))]
    refine w_icmp_le ok d9_11 (pc' := 16) (by decide) (fun hc3 => ?_) (fun hc3 => ?_)
    · skip
      have hle : i + 1 ≤ ns.length := by have q := hc3; rw [own_addk (c := (1 : Int32)) (k := 1) rfl (by omega), own_lt (by omega) (by omega)] at q; omega
      refine w_iloadN ok d9_16 rfl ?_
      refine w_if_le ok d9_17 (pc' := 35) (by decide) (fun hc5 => False.elim (by revert hc5; decide)) (fun hc5 => ?_)
      refine w_aloadN ok d9_20 rfl rfl ?_
      refine w_iloadN ok d9_21 rfl ?_
      refine w_baload ok (v := (.int (ps.getD (s + 0) 0))) d9_22 A_p (own_ix0 (by omega)) (own_rdx (by omega) (by omega)) ?_
      refine w_aloadN ok d9_23 rfl rfl ?_
      refine w_iload ok d9_24 rfl ?_
      refine w_baload ok (v := (.int (ns.getD (i + 0) 0))) d9_26 A_n (own_ix0 (by omega)) (own_rdx (by omega) (by omega)) ?_
      refine w_callS ok (y := mn_10) (argsL := [(.int (ps.getD (s + 0) 0)), (.int (ns.getD (i + 0) 0))]) (rest := []) d9_27 (hw _ (List.mem_of_getElem? (i := 40) rfl)) (hw _ (List.mem_of_getElem? (i := 41) rfl)) (hw _ (List.mem_of_getElem? (i := 4) rfl)) (hw _ (List.mem_of_getElem? (i := 42) rfl)) (by decide) pd_28BB29Z rfl rfl (by decide) (Nat.le_of_ble_eq_true rfl) (by decide) (by decide) (fun z0 => rm_cm l Z a0 hw [] n0 h0 z0 (ps.getD (s + 0) 0) (ns.getD (i + 0) 0)) (fun v6 h7 qv6 => ?_)
      obtain ⟨⟨rfl, cm0⟩ | ⟨rfl, cm0⟩, rfl⟩ := qv6
      · skip
        replace cm0 : cmP (ps.getD (s + 0) 0) (ns.getD (i + 0) 0) := cm0
        show W K l _ n0 _ h0 0 0 30 #[.val (.ref p), .val (.int (Int32.ofNat s)), .val (.int (1 : Int32)), .val (.ref n), .val (.int (Int32.ofNat i))] [(.int (1 : Int32))]
        refine w_if_ne ok d9_30 (pc' := 35) (by decide) (fun hc9 => ?_) (fun hc9 => False.elim (by revert hc9; decide))
        refine w_iloadN ok d9_35 rfl ?_
        refine w_iconst ok d9_36 (v := (1 : Int32)) rfl ?_
        refine w_icmp_le ok d9_37 (pc' := 59) (by decide) (fun hc11 => ?_) (fun hc11 => False.elim (by revert hc11; decide))
        refine w_iloadN ok d9_59 rfl ?_
        refine w_iconst ok d9_60 (v := (2 : Int32)) rfl ?_
        refine w_icmp_le ok d9_61 (pc' := 83) (by decide) (fun hc13 => ?_) (fun hc13 => False.elim (by revert hc13; decide))
        refine w_iloadN ok d9_83 rfl ?_
        refine w_iconst ok d9_84 (v := (3 : Int32)) rfl ?_
        refine w_icmp_le ok d9_85 (pc' := 107) (by decide) (fun hc15 => ?_) (fun hc15 => False.elim (by revert hc15; decide))
        refine w_iconst ok d9_107 (v := (1 : Int32)) rfl ?_
        refine w_bret ok (by simp) d9_108 (by decide) (by decide) ?_
        exact ⟨Or.inl ⟨rfl, (own_sgl hs).mpr ⟨hle, fun k hk => match k, hk with | 0, _ => cm0 | k' + 1, h' => absurd h' (by omega)⟩⟩, rfl⟩
      · skip
        replace cm0 : ¬ (cmP (ps.getD (s + 0) 0) (ns.getD (i + 0) 0)) := cm0
        show W K l _ n0 _ h0 0 0 30 #[.val (.ref p), .val (.int (Int32.ofNat s)), .val (.int (1 : Int32)), .val (.ref n), .val (.int (Int32.ofNat i))] [(.int (0 : Int32))]
        refine w_if_ne ok d9_30 (pc' := 35) (by decide) (fun hc17 => False.elim (by revert hc17; decide)) (fun hc17 => ?_)
        refine w_iconst ok d9_33 (v := (0 : Int32)) rfl ?_
        refine w_bret ok (by simp) d9_34 (by decide) (by decide) ?_
        exact ⟨Or.inr ⟨rfl, fun q => cm0 (((own_sgl hs).mp q).2 0 (by decide))⟩, rfl⟩
    · skip
      refine w_iconst ok d9_14 (v := (0 : Int32)) rfl ?_
      refine w_bret ok (by simp) d9_15 (by decide) (by decide) ?_
      refine ⟨Or.inr ⟨rfl, fun q => ?_⟩, rfl⟩
      have q1 := ((own_sgl hs).mp q).1; have q2 := hc3; rw [own_addk (c := (1 : Int32)) (k := 1) rfl (by omega), own_lt (by omega) (by omega)] at q2; omega
  · skip
    show W K l _ n0 _ h0 0 0 0 #[.val (.ref p), .val (.int (Int32.ofNat s)), .val (.int (2 : Int32)), .val (.ref n), .val (.int (Int32.ofNat i))] []
    refine w_iload ok d9_0 rfl ?_
    refine w_if_lt ok d9_2 (pc' := 14) (by decide) (fun hc1 => False.elim (by exact own_ix0 (by omega) hc1)) (fun hc1 => ?_)
    refine w_iload ok d9_5 rfl ?_
    refine w_iloadN ok d9_7 rfl ?_
    refine w_iadd ok d9_8 ?_
    refine w_aloadN ok d9_9 rfl rfl ?_
    refine w_arraylength ok (z := Int32.ofNat ns.length) d9_10 A_n (own_len (by omega)) (own_ix0 (by omega)) ?_
    show W K l _ n0 _ h0 0 0 11 #[.val (.ref p), .val (.int (Int32.ofNat s)), .val (.int (2 : Int32)), .val (.ref n), .val (.int (Int32.ofNat i))] [(.int (Int32.ofNat ns.length)), (.int ((Int32.ofNat i) + (2 : Int32)))]
    refine w_icmp_le ok d9_11 (pc' := 16) (by decide) (fun hc3 => ?_) (fun hc3 => ?_)
    · skip
      have hle : i + 2 ≤ ns.length := by have q := hc3; rw [own_addk (c := (2 : Int32)) (k := 2) rfl (by omega), own_lt (by omega) (by omega)] at q; omega
      refine w_iloadN ok d9_16 rfl ?_
      refine w_if_le ok d9_17 (pc' := 35) (by decide) (fun hc5 => False.elim (by revert hc5; decide)) (fun hc5 => ?_)
      refine w_aloadN ok d9_20 rfl rfl ?_
      refine w_iloadN ok d9_21 rfl ?_
      refine w_baload ok (v := (.int (ps.getD (s + 0) 0))) d9_22 A_p (own_ix0 (by omega)) (own_rdx (by omega) (by omega)) ?_
      refine w_aloadN ok d9_23 rfl rfl ?_
      refine w_iload ok d9_24 rfl ?_
      refine w_baload ok (v := (.int (ns.getD (i + 0) 0))) d9_26 A_n (own_ix0 (by omega)) (own_rdx (by omega) (by omega)) ?_
      refine w_callS ok (y := mn_10) (argsL := [(.int (ps.getD (s + 0) 0)), (.int (ns.getD (i + 0) 0))]) (rest := []) d9_27 (hw _ (List.mem_of_getElem? (i := 40) rfl)) (hw _ (List.mem_of_getElem? (i := 41) rfl)) (hw _ (List.mem_of_getElem? (i := 4) rfl)) (hw _ (List.mem_of_getElem? (i := 42) rfl)) (by decide) pd_28BB29Z rfl rfl (by decide) (Nat.le_of_ble_eq_true rfl) (by decide) (by decide) (fun z0 => rm_cm l Z a0 hw [] n0 h0 z0 (ps.getD (s + 0) 0) (ns.getD (i + 0) 0)) (fun v6 h7 qv6 => ?_)
      obtain ⟨⟨rfl, cm0⟩ | ⟨rfl, cm0⟩, rfl⟩ := qv6
      · skip
        replace cm0 : cmP (ps.getD (s + 0) 0) (ns.getD (i + 0) 0) := cm0
        show W K l _ n0 _ h0 0 0 30 #[.val (.ref p), .val (.int (Int32.ofNat s)), .val (.int (2 : Int32)), .val (.ref n), .val (.int (Int32.ofNat i))] [(.int (1 : Int32))]
        refine w_if_ne ok d9_30 (pc' := 35) (by decide) (fun hc9 => ?_) (fun hc9 => False.elim (by revert hc9; decide))
        refine w_iloadN ok d9_35 rfl ?_
        refine w_iconst ok d9_36 (v := (1 : Int32)) rfl ?_
        refine w_icmp_le ok d9_37 (pc' := 59) (by decide) (fun hc11 => False.elim (by revert hc11; decide)) (fun hc11 => ?_)
        refine w_aloadN ok d9_40 rfl rfl ?_
        refine w_iloadN ok d9_41 rfl ?_
        refine w_iconst ok d9_42 (v := (1 : Int32)) rfl ?_
        refine w_iadd ok d9_43 ?_
        refine w_baload ok (v := (.int (ps.getD (s + 1) 0))) d9_44 A_p (own_nnk (k := 1) rfl (by omega)) (own_rdk (k := 1) rfl (by omega) (by omega)) ?_
        refine w_aloadN ok d9_45 rfl rfl ?_
        refine w_iload ok d9_46 rfl ?_
        refine w_iconst ok d9_48 (v := (1 : Int32)) rfl ?_
        refine w_iadd ok d9_49 ?_
        refine w_baload ok (v := (.int (ns.getD (i + 1) 0))) d9_50 A_n (own_nnk (k := 1) rfl (by omega)) (own_rdk (k := 1) rfl (by omega) (by omega)) ?_
        refine w_callS ok (y := mn_10) (argsL := [(.int (ps.getD (s + 1) 0)), (.int (ns.getD (i + 1) 0))]) (rest := []) d9_51 (hw _ (List.mem_of_getElem? (i := 40) rfl)) (hw _ (List.mem_of_getElem? (i := 41) rfl)) (hw _ (List.mem_of_getElem? (i := 4) rfl)) (hw _ (List.mem_of_getElem? (i := 42) rfl)) (by decide) pd_28BB29Z rfl rfl (by decide) (Nat.le_of_ble_eq_true rfl) (by decide) (by decide) (fun z0 => rm_cm l Z a0 hw [] n0 h0 z0 (ps.getD (s + 1) 0) (ns.getD (i + 1) 0)) (fun v12 h13 qv12 => ?_)
        obtain ⟨⟨rfl, cm1⟩ | ⟨rfl, cm1⟩, rfl⟩ := qv12
        · skip
          replace cm1 : cmP (ps.getD (s + 1) 0) (ns.getD (i + 1) 0) := cm1
          show W K l _ n0 _ h0 0 0 54 #[.val (.ref p), .val (.int (Int32.ofNat s)), .val (.int (2 : Int32)), .val (.ref n), .val (.int (Int32.ofNat i))] [(.int (1 : Int32))]
          refine w_if_ne ok d9_54 (pc' := 59) (by decide) (fun hc15 => ?_) (fun hc15 => False.elim (by revert hc15; decide))
          refine w_iloadN ok d9_59 rfl ?_
          refine w_iconst ok d9_60 (v := (2 : Int32)) rfl ?_
          refine w_icmp_le ok d9_61 (pc' := 83) (by decide) (fun hc17 => ?_) (fun hc17 => False.elim (by revert hc17; decide))
          refine w_iloadN ok d9_83 rfl ?_
          refine w_iconst ok d9_84 (v := (3 : Int32)) rfl ?_
          refine w_icmp_le ok d9_85 (pc' := 107) (by decide) (fun hc19 => ?_) (fun hc19 => False.elim (by revert hc19; decide))
          refine w_iconst ok d9_107 (v := (1 : Int32)) rfl ?_
          refine w_bret ok (by simp) d9_108 (by decide) (by decide) ?_
          exact ⟨Or.inl ⟨rfl, (own_sgl hs).mpr ⟨hle, fun k hk => match k, hk with | 0, _ => cm0 | 1, _ => cm1 | k' + 2, h' => absurd h' (by omega)⟩⟩, rfl⟩
        · skip
          replace cm1 : ¬ (cmP (ps.getD (s + 1) 0) (ns.getD (i + 1) 0)) := cm1
          show W K l _ n0 _ h0 0 0 54 #[.val (.ref p), .val (.int (Int32.ofNat s)), .val (.int (2 : Int32)), .val (.ref n), .val (.int (Int32.ofNat i))] [(.int (0 : Int32))]
          refine w_if_ne ok d9_54 (pc' := 59) (by decide) (fun hc21 => False.elim (by revert hc21; decide)) (fun hc21 => ?_)
          refine w_iconst ok d9_57 (v := (0 : Int32)) rfl ?_
          refine w_bret ok (by simp) d9_58 (by decide) (by decide) ?_
          exact ⟨Or.inr ⟨rfl, fun q => cm1 (((own_sgl hs).mp q).2 1 (by decide))⟩, rfl⟩
      · skip
        replace cm0 : ¬ (cmP (ps.getD (s + 0) 0) (ns.getD (i + 0) 0)) := cm0
        show W K l _ n0 _ h0 0 0 30 #[.val (.ref p), .val (.int (Int32.ofNat s)), .val (.int (2 : Int32)), .val (.ref n), .val (.int (Int32.ofNat i))] [(.int (0 : Int32))]
        refine w_if_ne ok d9_30 (pc' := 35) (by decide) (fun hc23 => False.elim (by revert hc23; decide)) (fun hc23 => ?_)
        refine w_iconst ok d9_33 (v := (0 : Int32)) rfl ?_
        refine w_bret ok (by simp) d9_34 (by decide) (by decide) ?_
        exact ⟨Or.inr ⟨rfl, fun q => cm0 (((own_sgl hs).mp q).2 0 (by decide))⟩, rfl⟩
    · skip
      refine w_iconst ok d9_14 (v := (0 : Int32)) rfl ?_
      refine w_bret ok (by simp) d9_15 (by decide) (by decide) ?_
      refine ⟨Or.inr ⟨rfl, fun q => ?_⟩, rfl⟩
      have q1 := ((own_sgl hs).mp q).1; have q2 := hc3; rw [own_addk (c := (2 : Int32)) (k := 2) rfl (by omega), own_lt (by omega) (by omega)] at q2; omega
  · skip
    show W K l _ n0 _ h0 0 0 0 #[.val (.ref p), .val (.int (Int32.ofNat s)), .val (.int (3 : Int32)), .val (.ref n), .val (.int (Int32.ofNat i))] []
    refine w_iload ok d9_0 rfl ?_
    refine w_if_lt ok d9_2 (pc' := 14) (by decide) (fun hc1 => False.elim (by exact own_ix0 (by omega) hc1)) (fun hc1 => ?_)
    refine w_iload ok d9_5 rfl ?_
    refine w_iloadN ok d9_7 rfl ?_
    refine w_iadd ok d9_8 ?_
    refine w_aloadN ok d9_9 rfl rfl ?_
    refine w_arraylength ok (z := Int32.ofNat ns.length) d9_10 A_n (own_len (by omega)) (own_ix0 (by omega)) ?_
    show W K l _ n0 _ h0 0 0 11 #[.val (.ref p), .val (.int (Int32.ofNat s)), .val (.int (3 : Int32)), .val (.ref n), .val (.int (Int32.ofNat i))] [(.int (Int32.ofNat ns.length)), (.int ((Int32.ofNat i) + (3 : Int32)))]
    refine w_icmp_le ok d9_11 (pc' := 16) (by decide) (fun hc3 => ?_) (fun hc3 => ?_)
    · skip
      have hle : i + 3 ≤ ns.length := by have q := hc3; rw [own_addk (c := (3 : Int32)) (k := 3) rfl (by omega), own_lt (by omega) (by omega)] at q; omega
      refine w_iloadN ok d9_16 rfl ?_
      refine w_if_le ok d9_17 (pc' := 35) (by decide) (fun hc5 => False.elim (by revert hc5; decide)) (fun hc5 => ?_)
      refine w_aloadN ok d9_20 rfl rfl ?_
      refine w_iloadN ok d9_21 rfl ?_
      refine w_baload ok (v := (.int (ps.getD (s + 0) 0))) d9_22 A_p (own_ix0 (by omega)) (own_rdx (by omega) (by omega)) ?_
      refine w_aloadN ok d9_23 rfl rfl ?_
      refine w_iload ok d9_24 rfl ?_
      refine w_baload ok (v := (.int (ns.getD (i + 0) 0))) d9_26 A_n (own_ix0 (by omega)) (own_rdx (by omega) (by omega)) ?_
      refine w_callS ok (y := mn_10) (argsL := [(.int (ps.getD (s + 0) 0)), (.int (ns.getD (i + 0) 0))]) (rest := []) d9_27 (hw _ (List.mem_of_getElem? (i := 40) rfl)) (hw _ (List.mem_of_getElem? (i := 41) rfl)) (hw _ (List.mem_of_getElem? (i := 4) rfl)) (hw _ (List.mem_of_getElem? (i := 42) rfl)) (by decide) pd_28BB29Z rfl rfl (by decide) (Nat.le_of_ble_eq_true rfl) (by decide) (by decide) (fun z0 => rm_cm l Z a0 hw [] n0 h0 z0 (ps.getD (s + 0) 0) (ns.getD (i + 0) 0)) (fun v6 h7 qv6 => ?_)
      obtain ⟨⟨rfl, cm0⟩ | ⟨rfl, cm0⟩, rfl⟩ := qv6
      · skip
        replace cm0 : cmP (ps.getD (s + 0) 0) (ns.getD (i + 0) 0) := cm0
        show W K l _ n0 _ h0 0 0 30 #[.val (.ref p), .val (.int (Int32.ofNat s)), .val (.int (3 : Int32)), .val (.ref n), .val (.int (Int32.ofNat i))] [(.int (1 : Int32))]
        refine w_if_ne ok d9_30 (pc' := 35) (by decide) (fun hc9 => ?_) (fun hc9 => False.elim (by revert hc9; decide))
        refine w_iloadN ok d9_35 rfl ?_
        refine w_iconst ok d9_36 (v := (1 : Int32)) rfl ?_
        refine w_icmp_le ok d9_37 (pc' := 59) (by decide) (fun hc11 => False.elim (by revert hc11; decide)) (fun hc11 => ?_)
        refine w_aloadN ok d9_40 rfl rfl ?_
        refine w_iloadN ok d9_41 rfl ?_
        refine w_iconst ok d9_42 (v := (1 : Int32)) rfl ?_
        refine w_iadd ok d9_43 ?_
        refine w_baload ok (v := (.int (ps.getD (s + 1) 0))) d9_44 A_p (own_nnk (k := 1) rfl (by omega)) (own_rdk (k := 1) rfl (by omega) (by omega)) ?_
        refine w_aloadN ok d9_45 rfl rfl ?_
        refine w_iload ok d9_46 rfl ?_
        refine w_iconst ok d9_48 (v := (1 : Int32)) rfl ?_
        refine w_iadd ok d9_49 ?_
        refine w_baload ok (v := (.int (ns.getD (i + 1) 0))) d9_50 A_n (own_nnk (k := 1) rfl (by omega)) (own_rdk (k := 1) rfl (by omega) (by omega)) ?_
        refine w_callS ok (y := mn_10) (argsL := [(.int (ps.getD (s + 1) 0)), (.int (ns.getD (i + 1) 0))]) (rest := []) d9_51 (hw _ (List.mem_of_getElem? (i := 40) rfl)) (hw _ (List.mem_of_getElem? (i := 41) rfl)) (hw _ (List.mem_of_getElem? (i := 4) rfl)) (hw _ (List.mem_of_getElem? (i := 42) rfl)) (by decide) pd_28BB29Z rfl rfl (by decide) (Nat.le_of_ble_eq_true rfl) (by decide) (by decide) (fun z0 => rm_cm l Z a0 hw [] n0 h0 z0 (ps.getD (s + 1) 0) (ns.getD (i + 1) 0)) (fun v12 h13 qv12 => ?_)
        obtain ⟨⟨rfl, cm1⟩ | ⟨rfl, cm1⟩, rfl⟩ := qv12
        · skip
          replace cm1 : cmP (ps.getD (s + 1) 0) (ns.getD (i + 1) 0) := cm1
          show W K l _ n0 _ h0 0 0 54 #[.val (.ref p), .val (.int (Int32.ofNat s)), .val (.int (3 : Int32)), .val (.ref n), .val (.int (Int32.ofNat i))] [(.int (1 : Int32))]
          refine w_if_ne ok d9_54 (pc' := 59) (by decide) (fun hc15 => ?_) (fun hc15 => False.elim (by revert hc15; decide))
          refine w_iloadN ok d9_59 rfl ?_
          refine w_iconst ok d9_60 (v := (2 : Int32)) rfl ?_
          refine w_icmp_le ok d9_61 (pc' := 83) (by decide) (fun hc17 => False.elim (by revert hc17; decide)) (fun hc17 => ?_)
          refine w_aloadN ok d9_64 rfl rfl ?_
          refine w_iloadN ok d9_65 rfl ?_
          refine w_iconst ok d9_66 (v := (2 : Int32)) rfl ?_
          refine w_iadd ok d9_67 ?_
          refine w_baload ok (v := (.int (ps.getD (s + 2) 0))) d9_68 A_p (own_nnk (k := 2) rfl (by omega)) (own_rdk (k := 2) rfl (by omega) (by omega)) ?_
          refine w_aloadN ok d9_69 rfl rfl ?_
          refine w_iload ok d9_70 rfl ?_
          refine w_iconst ok d9_72 (v := (2 : Int32)) rfl ?_
          refine w_iadd ok d9_73 ?_
          refine w_baload ok (v := (.int (ns.getD (i + 2) 0))) d9_74 A_n (own_nnk (k := 2) rfl (by omega)) (own_rdk (k := 2) rfl (by omega) (by omega)) ?_
          refine w_callS ok (y := mn_10) (argsL := [(.int (ps.getD (s + 2) 0)), (.int (ns.getD (i + 2) 0))]) (rest := []) d9_75 (hw _ (List.mem_of_getElem? (i := 40) rfl)) (hw _ (List.mem_of_getElem? (i := 41) rfl)) (hw _ (List.mem_of_getElem? (i := 4) rfl)) (hw _ (List.mem_of_getElem? (i := 42) rfl)) (by decide) pd_28BB29Z rfl rfl (by decide) (Nat.le_of_ble_eq_true rfl) (by decide) (by decide) (fun z0 => rm_cm l Z a0 hw [] n0 h0 z0 (ps.getD (s + 2) 0) (ns.getD (i + 2) 0)) (fun v18 h19 qv18 => ?_)
          obtain ⟨⟨rfl, cm2⟩ | ⟨rfl, cm2⟩, rfl⟩ := qv18
          · skip
            replace cm2 : cmP (ps.getD (s + 2) 0) (ns.getD (i + 2) 0) := cm2
            show W K l _ n0 _ h0 0 0 78 #[.val (.ref p), .val (.int (Int32.ofNat s)), .val (.int (3 : Int32)), .val (.ref n), .val (.int (Int32.ofNat i))] [(.int (1 : Int32))]
            refine w_if_ne ok d9_78 (pc' := 83) (by decide) (fun hc21 => ?_) (fun hc21 => False.elim (by revert hc21; decide))
            refine w_iloadN ok d9_83 rfl ?_
            refine w_iconst ok d9_84 (v := (3 : Int32)) rfl ?_
            refine w_icmp_le ok d9_85 (pc' := 107) (by decide) (fun hc23 => ?_) (fun hc23 => False.elim (by revert hc23; decide))
            refine w_iconst ok d9_107 (v := (1 : Int32)) rfl ?_
            refine w_bret ok (by simp) d9_108 (by decide) (by decide) ?_
            exact ⟨Or.inl ⟨rfl, (own_sgl hs).mpr ⟨hle, fun k hk => match k, hk with | 0, _ => cm0 | 1, _ => cm1 | 2, _ => cm2 | k' + 3, h' => absurd h' (by omega)⟩⟩, rfl⟩
          · skip
            replace cm2 : ¬ (cmP (ps.getD (s + 2) 0) (ns.getD (i + 2) 0)) := cm2
            show W K l _ n0 _ h0 0 0 78 #[.val (.ref p), .val (.int (Int32.ofNat s)), .val (.int (3 : Int32)), .val (.ref n), .val (.int (Int32.ofNat i))] [(.int (0 : Int32))]
            refine w_if_ne ok d9_78 (pc' := 83) (by decide) (fun hc25 => False.elim (by revert hc25; decide)) (fun hc25 => ?_)
            refine w_iconst ok d9_81 (v := (0 : Int32)) rfl ?_
            refine w_bret ok (by simp) d9_82 (by decide) (by decide) ?_
            exact ⟨Or.inr ⟨rfl, fun q => cm2 (((own_sgl hs).mp q).2 2 (by decide))⟩, rfl⟩
        · skip
          replace cm1 : ¬ (cmP (ps.getD (s + 1) 0) (ns.getD (i + 1) 0)) := cm1
          show W K l _ n0 _ h0 0 0 54 #[.val (.ref p), .val (.int (Int32.ofNat s)), .val (.int (3 : Int32)), .val (.ref n), .val (.int (Int32.ofNat i))] [(.int (0 : Int32))]
          refine w_if_ne ok d9_54 (pc' := 59) (by decide) (fun hc27 => False.elim (by revert hc27; decide)) (fun hc27 => ?_)
          refine w_iconst ok d9_57 (v := (0 : Int32)) rfl ?_
          refine w_bret ok (by simp) d9_58 (by decide) (by decide) ?_
          exact ⟨Or.inr ⟨rfl, fun q => cm1 (((own_sgl hs).mp q).2 1 (by decide))⟩, rfl⟩
      · skip
        replace cm0 : ¬ (cmP (ps.getD (s + 0) 0) (ns.getD (i + 0) 0)) := cm0
        show W K l _ n0 _ h0 0 0 30 #[.val (.ref p), .val (.int (Int32.ofNat s)), .val (.int (3 : Int32)), .val (.ref n), .val (.int (Int32.ofNat i))] [(.int (0 : Int32))]
        refine w_if_ne ok d9_30 (pc' := 35) (by decide) (fun hc29 => False.elim (by revert hc29; decide)) (fun hc29 => ?_)
        refine w_iconst ok d9_33 (v := (0 : Int32)) rfl ?_
        refine w_bret ok (by simp) d9_34 (by decide) (by decide) ?_
        exact ⟨Or.inr ⟨rfl, fun q => cm0 (((own_sgl hs).mp q).2 0 (by decide))⟩, rfl⟩
    · skip
      refine w_iconst ok d9_14 (v := (0 : Int32)) rfl ?_
      refine w_bret ok (by simp) d9_15 (by decide) (by decide) ?_
      refine ⟨Or.inr ⟨rfl, fun q => ?_⟩, rfl⟩
      have q1 := ((own_sgl hs).mp q).1; have q2 := hc3; rw [own_addk (c := (3 : Int32)) (k := 3) rfl (by omega), own_lt (by omega) (by omega)] at q2; omega
  · skip
    show W K l _ n0 _ h0 0 0 0 #[.val (.ref p), .val (.int (Int32.ofNat s)), .val (.int (4 : Int32)), .val (.ref n), .val (.int (Int32.ofNat i))] []
    refine w_iload ok d9_0 rfl ?_
    refine w_if_lt ok d9_2 (pc' := 14) (by decide) (fun hc1 => False.elim (by exact own_ix0 (by omega) hc1)) (fun hc1 => ?_)
    refine w_iload ok d9_5 rfl ?_
    refine w_iloadN ok d9_7 rfl ?_
    refine w_iadd ok d9_8 ?_
    refine w_aloadN ok d9_9 rfl rfl ?_
    refine w_arraylength ok (z := Int32.ofNat ns.length) d9_10 A_n (own_len (by omega)) (own_ix0 (by omega)) ?_
    show W K l _ n0 _ h0 0 0 11 #[.val (.ref p), .val (.int (Int32.ofNat s)), .val (.int (4 : Int32)), .val (.ref n), .val (.int (Int32.ofNat i))] [(.int (Int32.ofNat ns.length)), (.int ((Int32.ofNat i) + (4 : Int32)))]
    refine w_icmp_le ok d9_11 (pc' := 16) (by decide) (fun hc3 => ?_) (fun hc3 => ?_)
    · skip
      have hle : i + 4 ≤ ns.length := by have q := hc3; rw [own_addk (c := (4 : Int32)) (k := 4) rfl (by omega), own_lt (by omega) (by omega)] at q; omega
      refine w_iloadN ok d9_16 rfl ?_
      refine w_if_le ok d9_17 (pc' := 35) (by decide) (fun hc5 => False.elim (by revert hc5; decide)) (fun hc5 => ?_)
      refine w_aloadN ok d9_20 rfl rfl ?_
      refine w_iloadN ok d9_21 rfl ?_
      refine w_baload ok (v := (.int (ps.getD (s + 0) 0))) d9_22 A_p (own_ix0 (by omega)) (own_rdx (by omega) (by omega)) ?_
      refine w_aloadN ok d9_23 rfl rfl ?_
      refine w_iload ok d9_24 rfl ?_
      refine w_baload ok (v := (.int (ns.getD (i + 0) 0))) d9_26 A_n (own_ix0 (by omega)) (own_rdx (by omega) (by omega)) ?_
      refine w_callS ok (y := mn_10) (argsL := [(.int (ps.getD (s + 0) 0)), (.int (ns.getD (i + 0) 0))]) (rest := []) d9_27 (hw _ (List.mem_of_getElem? (i := 40) rfl)) (hw _ (List.mem_of_getElem? (i := 41) rfl)) (hw _ (List.mem_of_getElem? (i := 4) rfl)) (hw _ (List.mem_of_getElem? (i := 42) rfl)) (by decide) pd_28BB29Z rfl rfl (by decide) (Nat.le_of_ble_eq_true rfl) (by decide) (by decide) (fun z0 => rm_cm l Z a0 hw [] n0 h0 z0 (ps.getD (s + 0) 0) (ns.getD (i + 0) 0)) (fun v6 h7 qv6 => ?_)
      obtain ⟨⟨rfl, cm0⟩ | ⟨rfl, cm0⟩, rfl⟩ := qv6
      · skip
        replace cm0 : cmP (ps.getD (s + 0) 0) (ns.getD (i + 0) 0) := cm0
        show W K l _ n0 _ h0 0 0 30 #[.val (.ref p), .val (.int (Int32.ofNat s)), .val (.int (4 : Int32)), .val (.ref n), .val (.int (Int32.ofNat i))] [(.int (1 : Int32))]
        refine w_if_ne ok d9_30 (pc' := 35) (by decide) (fun hc9 => ?_) (fun hc9 => False.elim (by revert hc9; decide))
        refine w_iloadN ok d9_35 rfl ?_
        refine w_iconst ok d9_36 (v := (1 : Int32)) rfl ?_
        refine w_icmp_le ok d9_37 (pc' := 59) (by decide) (fun hc11 => False.elim (by revert hc11; decide)) (fun hc11 => ?_)
        refine w_aloadN ok d9_40 rfl rfl ?_
        refine w_iloadN ok d9_41 rfl ?_
        refine w_iconst ok d9_42 (v := (1 : Int32)) rfl ?_
        refine w_iadd ok d9_43 ?_
        refine w_baload ok (v := (.int (ps.getD (s + 1) 0))) d9_44 A_p (own_nnk (k := 1) rfl (by omega)) (own_rdk (k := 1) rfl (by omega) (by omega)) ?_
        refine w_aloadN ok d9_45 rfl rfl ?_
        refine w_iload ok d9_46 rfl ?_
        refine w_iconst ok d9_48 (v := (1 : Int32)) rfl ?_
        refine w_iadd ok d9_49 ?_
        refine w_baload ok (v := (.int (ns.getD (i + 1) 0))) d9_50 A_n (own_nnk (k := 1) rfl (by omega)) (own_rdk (k := 1) rfl (by omega) (by omega)) ?_
        refine w_callS ok (y := mn_10) (argsL := [(.int (ps.getD (s + 1) 0)), (.int (ns.getD (i + 1) 0))]) (rest := []) d9_51 (hw _ (List.mem_of_getElem? (i := 40) rfl)) (hw _ (List.mem_of_getElem? (i := 41) rfl)) (hw _ (List.mem_of_getElem? (i := 4) rfl)) (hw _ (List.mem_of_getElem? (i := 42) rfl)) (by decide) pd_28BB29Z rfl rfl (by decide) (Nat.le_of_ble_eq_true rfl) (by decide) (by decide) (fun z0 => rm_cm l Z a0 hw [] n0 h0 z0 (ps.getD (s + 1) 0) (ns.getD (i + 1) 0)) (fun v12 h13 qv12 => ?_)
        obtain ⟨⟨rfl, cm1⟩ | ⟨rfl, cm1⟩, rfl⟩ := qv12
        · skip
          replace cm1 : cmP (ps.getD (s + 1) 0) (ns.getD (i + 1) 0) := cm1
          show W K l _ n0 _ h0 0 0 54 #[.val (.ref p), .val (.int (Int32.ofNat s)), .val (.int (4 : Int32)), .val (.ref n), .val (.int (Int32.ofNat i))] [(.int (1 : Int32))]
          refine w_if_ne ok d9_54 (pc' := 59) (by decide) (fun hc15 => ?_) (fun hc15 => False.elim (by revert hc15; decide))
          refine w_iloadN ok d9_59 rfl ?_
          refine w_iconst ok d9_60 (v := (2 : Int32)) rfl ?_
          refine w_icmp_le ok d9_61 (pc' := 83) (by decide) (fun hc17 => False.elim (by revert hc17; decide)) (fun hc17 => ?_)
          refine w_aloadN ok d9_64 rfl rfl ?_
          refine w_iloadN ok d9_65 rfl ?_
          refine w_iconst ok d9_66 (v := (2 : Int32)) rfl ?_
          refine w_iadd ok d9_67 ?_
          refine w_baload ok (v := (.int (ps.getD (s + 2) 0))) d9_68 A_p (own_nnk (k := 2) rfl (by omega)) (own_rdk (k := 2) rfl (by omega) (by omega)) ?_
          refine w_aloadN ok d9_69 rfl rfl ?_
          refine w_iload ok d9_70 rfl ?_
          refine w_iconst ok d9_72 (v := (2 : Int32)) rfl ?_
          refine w_iadd ok d9_73 ?_
          refine w_baload ok (v := (.int (ns.getD (i + 2) 0))) d9_74 A_n (own_nnk (k := 2) rfl (by omega)) (own_rdk (k := 2) rfl (by omega) (by omega)) ?_
          refine w_callS ok (y := mn_10) (argsL := [(.int (ps.getD (s + 2) 0)), (.int (ns.getD (i + 2) 0))]) (rest := []) d9_75 (hw _ (List.mem_of_getElem? (i := 40) rfl)) (hw _ (List.mem_of_getElem? (i := 41) rfl)) (hw _ (List.mem_of_getElem? (i := 4) rfl)) (hw _ (List.mem_of_getElem? (i := 42) rfl)) (by decide) pd_28BB29Z rfl rfl (by decide) (Nat.le_of_ble_eq_true rfl) (by decide) (by decide) (fun z0 => rm_cm l Z a0 hw [] n0 h0 z0 (ps.getD (s + 2) 0) (ns.getD (i + 2) 0)) (fun v18 h19 qv18 => ?_)
          obtain ⟨⟨rfl, cm2⟩ | ⟨rfl, cm2⟩, rfl⟩ := qv18
          · skip
            replace cm2 : cmP (ps.getD (s + 2) 0) (ns.getD (i + 2) 0) := cm2
            show W K l _ n0 _ h0 0 0 78 #[.val (.ref p), .val (.int (Int32.ofNat s)), .val (.int (4 : Int32)), .val (.ref n), .val (.int (Int32.ofNat i))] [(.int (1 : Int32))]
            refine w_if_ne ok d9_78 (pc' := 83) (by decide) (fun hc21 => ?_) (fun hc21 => False.elim (by revert hc21; decide))
            refine w_iloadN ok d9_83 rfl ?_
            refine w_iconst ok d9_84 (v := (3 : Int32)) rfl ?_
            refine w_icmp_le ok d9_85 (pc' := 107) (by decide) (fun hc23 => False.elim (by revert hc23; decide)) (fun hc23 => ?_)
            refine w_aloadN ok d9_88 rfl rfl ?_
            refine w_iloadN ok d9_89 rfl ?_
            refine w_iconst ok d9_90 (v := (3 : Int32)) rfl ?_
            refine w_iadd ok d9_91 ?_
            refine w_baload ok (v := (.int (ps.getD (s + 3) 0))) d9_92 A_p (own_nnk (k := 3) rfl (by omega)) (own_rdk (k := 3) rfl (by omega) (by omega)) ?_
            refine w_aloadN ok d9_93 rfl rfl ?_
            refine w_iload ok d9_94 rfl ?_
            refine w_iconst ok d9_96 (v := (3 : Int32)) rfl ?_
            refine w_iadd ok d9_97 ?_
            refine w_baload ok (v := (.int (ns.getD (i + 3) 0))) d9_98 A_n (own_nnk (k := 3) rfl (by omega)) (own_rdk (k := 3) rfl (by omega) (by omega)) ?_
            refine w_callS ok (y := mn_10) (argsL := [(.int (ps.getD (s + 3) 0)), (.int (ns.getD (i + 3) 0))]) (rest := []) d9_99 (hw _ (List.mem_of_getElem? (i := 40) rfl)) (hw _ (List.mem_of_getElem? (i := 41) rfl)) (hw _ (List.mem_of_getElem? (i := 4) rfl)) (hw _ (List.mem_of_getElem? (i := 42) rfl)) (by decide) pd_28BB29Z rfl rfl (by decide) (Nat.le_of_ble_eq_true rfl) (by decide) (by decide) (fun z0 => rm_cm l Z a0 hw [] n0 h0 z0 (ps.getD (s + 3) 0) (ns.getD (i + 3) 0)) (fun v24 h25 qv24 => ?_)
            obtain ⟨⟨rfl, cm3⟩ | ⟨rfl, cm3⟩, rfl⟩ := qv24
            · skip
              replace cm3 : cmP (ps.getD (s + 3) 0) (ns.getD (i + 3) 0) := cm3
              show W K l _ n0 _ h0 0 0 102 #[.val (.ref p), .val (.int (Int32.ofNat s)), .val (.int (4 : Int32)), .val (.ref n), .val (.int (Int32.ofNat i))] [(.int (1 : Int32))]
              refine w_if_ne ok d9_102 (pc' := 107) (by decide) (fun hc27 => ?_) (fun hc27 => False.elim (by revert hc27; decide))
              refine w_iconst ok d9_107 (v := (1 : Int32)) rfl ?_
              refine w_bret ok (by simp) d9_108 (by decide) (by decide) ?_
              exact ⟨Or.inl ⟨rfl, (own_sgl hs).mpr ⟨hle, fun k hk => match k, hk with | 0, _ => cm0 | 1, _ => cm1 | 2, _ => cm2 | 3, _ => cm3 | k' + 4, h' => absurd h' (by omega)⟩⟩, rfl⟩
            · skip
              replace cm3 : ¬ (cmP (ps.getD (s + 3) 0) (ns.getD (i + 3) 0)) := cm3
              show W K l _ n0 _ h0 0 0 102 #[.val (.ref p), .val (.int (Int32.ofNat s)), .val (.int (4 : Int32)), .val (.ref n), .val (.int (Int32.ofNat i))] [(.int (0 : Int32))]
              refine w_if_ne ok d9_102 (pc' := 107) (by decide) (fun hc29 => False.elim (by revert hc29; decide)) (fun hc29 => ?_)
              refine w_iconst ok d9_105 (v := (0 : Int32)) rfl ?_
              refine w_bret ok (by simp) d9_106 (by decide) (by decide) ?_
              exact ⟨Or.inr ⟨rfl, fun q => cm3 (((own_sgl hs).mp q).2 3 (by decide))⟩, rfl⟩
          · skip
            replace cm2 : ¬ (cmP (ps.getD (s + 2) 0) (ns.getD (i + 2) 0)) := cm2
            show W K l _ n0 _ h0 0 0 78 #[.val (.ref p), .val (.int (Int32.ofNat s)), .val (.int (4 : Int32)), .val (.ref n), .val (.int (Int32.ofNat i))] [(.int (0 : Int32))]
            refine w_if_ne ok d9_78 (pc' := 83) (by decide) (fun hc31 => False.elim (by revert hc31; decide)) (fun hc31 => ?_)
            refine w_iconst ok d9_81 (v := (0 : Int32)) rfl ?_
            refine w_bret ok (by simp) d9_82 (by decide) (by decide) ?_
            exact ⟨Or.inr ⟨rfl, fun q => cm2 (((own_sgl hs).mp q).2 2 (by decide))⟩, rfl⟩
        · skip
          replace cm1 : ¬ (cmP (ps.getD (s + 1) 0) (ns.getD (i + 1) 0)) := cm1
          show W K l _ n0 _ h0 0 0 54 #[.val (.ref p), .val (.int (Int32.ofNat s)), .val (.int (4 : Int32)), .val (.ref n), .val (.int (Int32.ofNat i))] [(.int (0 : Int32))]
          refine w_if_ne ok d9_54 (pc' := 59) (by decide) (fun hc33 => False.elim (by revert hc33; decide)) (fun hc33 => ?_)
          refine w_iconst ok d9_57 (v := (0 : Int32)) rfl ?_
          refine w_bret ok (by simp) d9_58 (by decide) (by decide) ?_
          exact ⟨Or.inr ⟨rfl, fun q => cm1 (((own_sgl hs).mp q).2 1 (by decide))⟩, rfl⟩
      · skip
        replace cm0 : ¬ (cmP (ps.getD (s + 0) 0) (ns.getD (i + 0) 0)) := cm0
        show W K l _ n0 _ h0 0 0 30 #[.val (.ref p), .val (.int (Int32.ofNat s)), .val (.int (4 : Int32)), .val (.ref n), .val (.int (Int32.ofNat i))] [(.int (0 : Int32))]
        refine w_if_ne ok d9_30 (pc' := 35) (by decide) (fun hc35 => False.elim (by revert hc35; decide)) (fun hc35 => ?_)
        refine w_iconst ok d9_33 (v := (0 : Int32)) rfl ?_
        refine w_bret ok (by simp) d9_34 (by decide) (by decide) ?_
        exact ⟨Or.inr ⟨rfl, fun q => cm0 (((own_sgl hs).mp q).2 0 (by decide))⟩, rfl⟩
    · skip
      refine w_iconst ok d9_14 (v := (0 : Int32)) rfl ?_
      refine w_bret ok (by simp) d9_15 (by decide) (by decide) ?_
      refine ⟨Or.inr ⟨rfl, fun q => ?_⟩, rfl⟩
      have q1 := ((own_sgl hs).mp q).1; have q2 := hc3; rw [own_addk (c := (4 : Int32)) (k := 4) rfl (by omega), own_lt (by omega) (by omega)] at q2; omega
theorem d12_0 : decode method_8_code 0 = .ok (.iload 4, 2) := by decide +kernel
theorem d12_2 : decode method_8_code 2 = .ok (.iload 6, 2) := by decide +kernel
theorem d12_4 : decode method_8_code 4 = .ok (.if_icmp .gt 28, 3) := by decide +kernel
theorem d12_7 : decode method_8_code 7 = .ok (.iload 6, 2) := by decide +kernel
theorem d12_9 : decode method_8_code 9 = .ok (.iload_n 2, 1) := by decide +kernel
theorem d12_10 : decode method_8_code 10 = .ok (.iadd, 1) := by decide +kernel
theorem d12_11 : decode method_8_code 11 = .ok (.iload 5, 2) := by decide +kernel
theorem d12_13 : decode method_8_code 13 = .ok (.if_icmp .gt 19, 3) := by decide +kernel
theorem d12_16 : decode method_8_code 16 = .ok (.aload_n 0, 1) := by decide +kernel
theorem d12_17 : decode method_8_code 17 = .ok (.iload_n 1, 1) := by decide +kernel
theorem d12_18 : decode method_8_code 18 = .ok (.iload_n 2, 1) := by decide +kernel
theorem d12_19 : decode method_8_code 19 = .ok (.aload_n 3, 1) := by decide +kernel
theorem d12_20 : decode method_8_code 20 = .ok (.iload 6, 2) := by decide +kernel
theorem d12_22 : decode method_8_code 22 = .ok (.invokestatic 17, 3) := by decide +kernel
theorem d12_25 : decode method_8_code 25 = .ok (.ifCond .eq 7, 3) := by decide +kernel
theorem d12_28 : decode method_8_code 28 = .ok (.iconst 1, 1) := by decide +kernel
theorem d12_29 : decode method_8_code 29 = .ok (.goto 4, 3) := by decide +kernel
theorem d12_32 : decode method_8_code 32 = .ok (.iconst 0, 1) := by decide +kernel
theorem d12_33 : decode method_8_code 33 = .ok (.ireturn, 1) := by decide +kernel
theorem pd_285bBII5bBI29Z : parseMethodDescriptor "([BII[BI)Z" = some ⟨[(.array .byte), .int, .int, (.array .byte), .int], some .boolean⟩ := by decide +kernel
abbrev mn_12 : MethodName := ⟨"com/example/turnstile/turnstile/server/GlobMatchesPinLaw", "at", "([BII[BIII)Z"⟩
set_option maxRecDepth 65536 in
set_option maxHeartbeats 40000000 in
theorem rm_at (l : Launch) (Z : State) (a0 : Array Value) (hw : ∀ d ∈ tables_1, d.before a0 Z = true) (ws : List Jvm.Cond) (n0 : Nat) (h0 : Heap) (Z0 : Old Z n0 h0) (p n : Addr) (ps ns : List Int32) (A_p : PA .byte Z h0 p (bys ps)) (A_n : PA .byte Z h0 n (bys ns)) (s m lo hi i : Nat) (hs : s + m ≤ ps.length) (hm : m ≤ 4) (hi5 : i ≤ 5) (lp : ps.length ≤ 5) (ln : ns.length ≤ 5) (hlo : lo ≤ 5) (hhi : hi ≤ 5) :
    Met l Z n0 mn_12 method_8_code 7 (some .boolean) ws ({ frames := 2, cells := 0, slots := 0, locals := 29 } : Room) #[(.ref p), (.int (Int32.ofNat s)), (.int (Int32.ofNat m)), (.ref n), (.int (Int32.ofNat lo)), (.int (Int32.ofNat hi)), (.int (Int32.ofNat i))] h0 (fun u h => Ans u (lo ≤ i ∧ i + m ≤ hi ∧ SGl ((ps.drop s).take m) ns i) ∧ h0 = h) := by
  refine met_of Z0 (plainFor_of_name pn_com_example_turnstile_turnstile_server_GlobMatchesPinLaw) (Ls := #[.val (.ref p), .val (.int (Int32.ofNat s)), .val (.int (Int32.ofNat m)), .val (.ref n), .val (.int (Int32.ofNat lo)), .val (.int (Int32.ofNat hi)), .val (.int (Int32.ofNat i))]) (fun m => by first | (simp [entryFrame, mkF, argsToLocals, Value.category]; done) | rfl) ?_
  intro K ok
  skip
  · skip
    show W K l _ n0 _ h0 0 0 0 #[.val (.ref p), .val (.int (Int32.ofNat s)), .val (.int (Int32.ofNat m)), .val (.ref n), .val (.int (Int32.ofNat lo)), .val (.int (Int32.ofNat hi)), .val (.int (Int32.ofNat i))] []
    refine w_iload ok d12_0 rfl ?_
    refine w_iload ok d12_2 rfl ?_
    refine w_icmp_gt ok d12_4 (pc' := 32) (by decide) (fun hc1 => ?_) (fun hc1 => ?_)
    · skip
      refine w_iconst ok d12_32 (v := (0 : Int32)) rfl ?_
      refine w_bret ok (by simp) d12_33 (by decide) (by decide) ?_
      have q1 := hc1; rw [own_lt (by omega) (by omega)] at q1
      skip
      exact ⟨Or.inr ⟨rfl, fun q => by have := q.1; have := q.2.1; omega⟩, rfl⟩
    · skip
      refine w_iload ok d12_7 rfl ?_
      refine w_iloadN ok d12_9 rfl ?_
      refine w_iadd ok d12_10 ?_
      refine w_iload ok d12_11 rfl ?_
      refine w_icmp_gt ok d12_13 (pc' := 32) (by decide) (fun hc3 => ?_) (fun hc3 => ?_)
      · skip
        refine w_iconst ok d12_32 (v := (0 : Int32)) rfl ?_
        refine w_bret ok (by simp) d12_33 (by decide) (by decide) ?_
        have q1 := hc1; rw [own_lt (by omega) (by omega)] at q1
        have q2 := hc3; rw [own_addk (k := m) rfl (by omega), own_lt (by omega) (by omega)] at q2
        exact ⟨Or.inr ⟨rfl, fun q => by have := q.1; have := q.2.1; omega⟩, rfl⟩
      · skip
        refine w_aloadN ok d12_16 rfl rfl ?_
        refine w_iloadN ok d12_17 rfl ?_
        refine w_iloadN ok d12_18 rfl ?_
        refine w_aloadN ok d12_19 rfl rfl ?_
        refine w_iload ok d12_20 rfl ?_
        refine w_callS ok (y := mn_9) (argsL := [(.ref p), (.int (Int32.ofNat s)), (.int (Int32.ofNat m)), (.ref n), (.int (Int32.ofNat i))]) (rest := []) d12_22 (hw _ (List.mem_of_getElem? (i := 37) rfl)) (hw _ (List.mem_of_getElem? (i := 38) rfl)) (hw _ (List.mem_of_getElem? (i := 4) rfl)) (hw _ (List.mem_of_getElem? (i := 39) rfl)) (by decide) pd_285bBII5bBI29Z rfl rfl (by decide) (Nat.le_of_ble_eq_true rfl) (by decide) (by decide) (fun z0 => rm_seg l Z a0 hw [] n0 h0 z0 p n ps ns A_p A_n s m i _ rfl hs hm hi5 lp ln) (fun v4 h5 qv4 => ?_)
        obtain ⟨⟨rfl, sg⟩ | ⟨rfl, sg⟩, rfl⟩ := qv4
        · skip
          replace sg : SGl ((ps.drop s).take m) ns i := sg
          show W K l _ n0 _ h0 0 0 25 #[.val (.ref p), .val (.int (Int32.ofNat s)), .val (.int (Int32.ofNat m)), .val (.ref n), .val (.int (Int32.ofNat lo)), .val (.int (Int32.ofNat hi)), .val (.int (Int32.ofNat i))] [(.int (1 : Int32))]
          refine w_if_eq ok d12_25 (pc' := 32) (by decide) (fun hc7 => False.elim (by revert hc7; decide)) (fun hc7 => ?_)
          refine w_iconst ok d12_28 (v := (1 : Int32)) rfl ?_
          refine w_goto ok d12_29 (pc' := 33) (by decide) ?_
          refine w_bret ok (by simp) d12_33 (by decide) (by decide) ?_
          have q1 := hc1; rw [own_lt (by omega) (by omega)] at q1
          have q2 := hc3; rw [own_addk (k := m) rfl (by omega), own_lt (by omega) (by omega)] at q2
          exact ⟨Or.inl ⟨rfl, by omega, by omega, sg⟩, rfl⟩
        · skip
          replace sg : ¬ (SGl ((ps.drop s).take m) ns i) := sg
          show W K l _ n0 _ h0 0 0 25 #[.val (.ref p), .val (.int (Int32.ofNat s)), .val (.int (Int32.ofNat m)), .val (.ref n), .val (.int (Int32.ofNat lo)), .val (.int (Int32.ofNat hi)), .val (.int (Int32.ofNat i))] [(.int (0 : Int32))]
          refine w_if_eq ok d12_25 (pc' := 32) (by decide) (fun hc9 => ?_) (fun hc9 => False.elim (by revert hc9; decide))
          refine w_iconst ok d12_32 (v := (0 : Int32)) rfl ?_
          refine w_bret ok (by simp) d12_33 (by decide) (by decide) ?_
          exact ⟨Or.inr ⟨rfl, fun q => sg q.2.2⟩, rfl⟩
theorem d11_0 : decode method_9_code 0 = .ok (.aload_n 0, 1) := by decide +kernel
theorem d11_1 : decode method_9_code 1 = .ok (.iload_n 1, 1) := by decide +kernel
theorem d11_2 : decode method_9_code 2 = .ok (.iload_n 2, 1) := by decide +kernel
theorem d11_3 : decode method_9_code 3 = .ok (.aload_n 3, 1) := by decide +kernel
theorem d11_4 : decode method_9_code 4 = .ok (.iload 4, 2) := by decide +kernel
theorem d11_6 : decode method_9_code 6 = .ok (.iload 5, 2) := by decide +kernel
theorem d11_8 : decode method_9_code 8 = .ok (.iconst 0, 1) := by decide +kernel
theorem d11_9 : decode method_9_code 9 = .ok (.invokestatic 21, 3) := by decide +kernel
theorem d11_12 : decode method_9_code 12 = .ok (.ifCond .ne 78, 3) := by decide +kernel
theorem d11_15 : decode method_9_code 15 = .ok (.aload_n 0, 1) := by decide +kernel
theorem d11_16 : decode method_9_code 16 = .ok (.iload_n 1, 1) := by decide +kernel
theorem d11_17 : decode method_9_code 17 = .ok (.iload_n 2, 1) := by decide +kernel
theorem d11_18 : decode method_9_code 18 = .ok (.aload_n 3, 1) := by decide +kernel
theorem d11_19 : decode method_9_code 19 = .ok (.iload 4, 2) := by decide +kernel
theorem d11_21 : decode method_9_code 21 = .ok (.iload 5, 2) := by decide +kernel
theorem d11_23 : decode method_9_code 23 = .ok (.iconst 1, 1) := by decide +kernel
theorem d11_24 : decode method_9_code 24 = .ok (.invokestatic 21, 3) := by decide +kernel
theorem d11_27 : decode method_9_code 27 = .ok (.ifCond .ne 63, 3) := by decide +kernel
theorem d11_30 : decode method_9_code 30 = .ok (.aload_n 0, 1) := by decide +kernel
theorem d11_31 : decode method_9_code 31 = .ok (.iload_n 1, 1) := by decide +kernel
theorem d11_32 : decode method_9_code 32 = .ok (.iload_n 2, 1) := by decide +kernel
theorem d11_33 : decode method_9_code 33 = .ok (.aload_n 3, 1) := by decide +kernel
theorem d11_34 : decode method_9_code 34 = .ok (.iload 4, 2) := by decide +kernel
theorem d11_36 : decode method_9_code 36 = .ok (.iload 5, 2) := by decide +kernel
theorem d11_38 : decode method_9_code 38 = .ok (.iconst 2, 1) := by decide +kernel
theorem d11_39 : decode method_9_code 39 = .ok (.invokestatic 21, 3) := by decide +kernel
theorem d11_42 : decode method_9_code 42 = .ok (.ifCond .ne 48, 3) := by decide +kernel
theorem d11_45 : decode method_9_code 45 = .ok (.aload_n 0, 1) := by decide +kernel
theorem d11_46 : decode method_9_code 46 = .ok (.iload_n 1, 1) := by decide +kernel
theorem d11_47 : decode method_9_code 47 = .ok (.iload_n 2, 1) := by decide +kernel
theorem d11_48 : decode method_9_code 48 = .ok (.aload_n 3, 1) := by decide +kernel
theorem d11_49 : decode method_9_code 49 = .ok (.iload 4, 2) := by decide +kernel
theorem d11_51 : decode method_9_code 51 = .ok (.iload 5, 2) := by decide +kernel
theorem d11_53 : decode method_9_code 53 = .ok (.iconst 3, 1) := by decide +kernel
theorem d11_54 : decode method_9_code 54 = .ok (.invokestatic 21, 3) := by decide +kernel
theorem d11_57 : decode method_9_code 57 = .ok (.ifCond .ne 33, 3) := by decide +kernel
theorem d11_60 : decode method_9_code 60 = .ok (.aload_n 0, 1) := by decide +kernel
theorem d11_61 : decode method_9_code 61 = .ok (.iload_n 1, 1) := by decide +kernel
theorem d11_62 : decode method_9_code 62 = .ok (.iload_n 2, 1) := by decide +kernel
theorem d11_63 : decode method_9_code 63 = .ok (.aload_n 3, 1) := by decide +kernel
theorem d11_64 : decode method_9_code 64 = .ok (.iload 4, 2) := by decide +kernel
theorem d11_66 : decode method_9_code 66 = .ok (.iload 5, 2) := by decide +kernel
theorem d11_68 : decode method_9_code 68 = .ok (.iconst 4, 1) := by decide +kernel
theorem d11_69 : decode method_9_code 69 = .ok (.invokestatic 21, 3) := by decide +kernel
theorem d11_72 : decode method_9_code 72 = .ok (.ifCond .ne 18, 3) := by decide +kernel
theorem d11_75 : decode method_9_code 75 = .ok (.aload_n 0, 1) := by decide +kernel
theorem d11_76 : decode method_9_code 76 = .ok (.iload_n 1, 1) := by decide +kernel
theorem d11_77 : decode method_9_code 77 = .ok (.iload_n 2, 1) := by decide +kernel
theorem d11_78 : decode method_9_code 78 = .ok (.aload_n 3, 1) := by decide +kernel
theorem d11_79 : decode method_9_code 79 = .ok (.iload 4, 2) := by decide +kernel
theorem d11_81 : decode method_9_code 81 = .ok (.iload 5, 2) := by decide +kernel
theorem d11_83 : decode method_9_code 83 = .ok (.iconst 5, 1) := by decide +kernel
theorem d11_84 : decode method_9_code 84 = .ok (.invokestatic 21, 3) := by decide +kernel
theorem d11_87 : decode method_9_code 87 = .ok (.ifCond .eq 7, 3) := by decide +kernel
theorem d11_90 : decode method_9_code 90 = .ok (.iconst 1, 1) := by decide +kernel
theorem d11_91 : decode method_9_code 91 = .ok (.goto 4, 3) := by decide +kernel
theorem d11_94 : decode method_9_code 94 = .ok (.iconst 0, 1) := by decide +kernel
theorem d11_95 : decode method_9_code 95 = .ok (.ireturn, 1) := by decide +kernel
theorem pd_285bBII5bBIII29Z : parseMethodDescriptor "([BII[BIII)Z" = some ⟨[(.array .byte), .int, .int, (.array .byte), .int, .int, .int], some .boolean⟩ := by decide +kernel
abbrev mn_11 : MethodName := ⟨"com/example/turnstile/turnstile/server/GlobMatchesPinLaw", "found", "([BII[BII)Z"⟩
set_option maxRecDepth 65536 in
set_option maxHeartbeats 40000000 in
theorem rm_found (l : Launch) (Z : State) (a0 : Array Value) (hw : ∀ d ∈ tables_1, d.before a0 Z = true) (ws : List Jvm.Cond) (n0 : Nat) (h0 : Heap) (Z0 : Old Z n0 h0) (p n : Addr) (ps ns : List Int32) (A_p : PA .byte Z h0 p (bys ps)) (A_n : PA .byte Z h0 n (bys ns)) (s m lo hi : Nat) (hz : Int32) (hhz : hz = Int32.ofNat hi) (hs : s + m ≤ ps.length) (hm : m ≤ 4) (lp : ps.length ≤ 5) (ln : ns.length ≤ 5) (hlo : lo ≤ 5) (hhi : hi ≤ 5) :
    Met l Z n0 mn_11 method_9_code 6 (some .boolean) ws ({ frames := 3, cells := 0, slots := 0, locals := 47 } : Room) #[(.ref p), (.int (Int32.ofNat s)), (.int (Int32.ofNat m)), (.ref n), (.int (Int32.ofNat lo)), (.int hz)] h0 (fun u h => Ans u (∃ i, lo ≤ i ∧ i + m ≤ hi ∧ SGl ((ps.drop s).take m) ns i) ∧ h0 = h) := by
  refine met_of Z0 (plainFor_of_name pn_com_example_turnstile_turnstile_server_GlobMatchesPinLaw) (Ls := #[.val (.ref p), .val (.int (Int32.ofNat s)), .val (.int (Int32.ofNat m)), .val (.ref n), .val (.int (Int32.ofNat lo)), .val (.int hz)]) (fun m => by first | (simp [entryFrame, mkF, argsToLocals, Value.category]; done) | rfl) ?_
  intro K ok
  subst hhz
  · skip
    show W K l _ n0 _ h0 0 0 0 #[.val (.ref p), .val (.int (Int32.ofNat s)), .val (.int (Int32.ofNat m)), .val (.ref n), .val (.int (Int32.ofNat lo)), .val (.int (Int32.ofNat hi))] []
    refine w_aloadN ok d11_0 rfl rfl ?_
    refine w_iloadN ok d11_1 rfl ?_
    refine w_iloadN ok d11_2 rfl ?_
    refine w_aloadN ok d11_3 rfl rfl ?_
    refine w_iload ok d11_4 rfl ?_
    refine w_iload ok d11_6 rfl ?_
    refine w_iconst ok d11_8 (v := (0 : Int32)) rfl ?_
    refine w_callS ok (y := mn_12) (argsL := [(.ref p), (.int (Int32.ofNat s)), (.int (Int32.ofNat m)), (.ref n), (.int (Int32.ofNat lo)), (.int (Int32.ofNat hi)), (.int (0 : Int32))]) (rest := []) d11_9 (hw _ (List.mem_of_getElem? (i := 46) rfl)) (hw _ (List.mem_of_getElem? (i := 47) rfl)) (hw _ (List.mem_of_getElem? (i := 4) rfl)) (hw _ (List.mem_of_getElem? (i := 48) rfl)) (by decide) pd_285bBII5bBIII29Z rfl rfl (by decide) (Nat.le_of_ble_eq_true rfl) (by decide) (by decide) (fun z0 => rm_at l Z a0 hw [] n0 h0 z0 p n ps ns A_p A_n s m lo hi 0 hs hm (by decide) lp ln hlo hhi) (fun v1 h2 qv1 => ?_)
    obtain ⟨⟨rfl, at0⟩ | ⟨rfl, at0⟩, rfl⟩ := qv1
    · skip
      replace at0 : lo ≤ 0 ∧ 0 + m ≤ hi ∧ SGl ((ps.drop s).take m) ns 0 := at0
      show W K l _ n0 _ h0 0 0 12 #[.val (.ref p), .val (.int (Int32.ofNat s)), .val (.int (Int32.ofNat m)), .val (.ref n), .val (.int (Int32.ofNat lo)), .val (.int (Int32.ofNat hi))] [(.int (1 : Int32))]
      refine w_if_ne ok d11_12 (pc' := 90) (by decide) (fun hc4 => ?_) (fun hc4 => False.elim (by revert hc4; decide))
      refine w_iconst ok d11_90 (v := (1 : Int32)) rfl ?_
      refine w_goto ok d11_91 (pc' := 95) (by decide) ?_
      refine w_bret ok (by simp) d11_95 (by decide) (by decide) ?_
      exact ⟨Or.inl ⟨rfl, 0, at0⟩, rfl⟩
    · skip
      replace at0 : ¬ (lo ≤ 0 ∧ 0 + m ≤ hi ∧ SGl ((ps.drop s).take m) ns 0) := at0
      show W K l _ n0 _ h0 0 0 12 #[.val (.ref p), .val (.int (Int32.ofNat s)), .val (.int (Int32.ofNat m)), .val (.ref n), .val (.int (Int32.ofNat lo)), .val (.int (Int32.ofNat hi))] [(.int (0 : Int32))]
      refine w_if_ne ok d11_12 (pc' := 90) (by decide) (fun hc6 => False.elim (by revert hc6; decide)) (fun hc6 => ?_)
      refine w_aloadN ok d11_15 rfl rfl ?_
      refine w_iloadN ok d11_16 rfl ?_
      refine w_iloadN ok d11_17 rfl ?_
      refine w_aloadN ok d11_18 rfl rfl ?_
      refine w_iload ok d11_19 rfl ?_
      refine w_iload ok d11_21 rfl ?_
      refine w_iconst ok d11_23 (v := (1 : Int32)) rfl ?_
      refine w_callS ok (y := mn_12) (argsL := [(.ref p), (.int (Int32.ofNat s)), (.int (Int32.ofNat m)), (.ref n), (.int (Int32.ofNat lo)), (.int (Int32.ofNat hi)), (.int (1 : Int32))]) (rest := []) d11_24 (hw _ (List.mem_of_getElem? (i := 46) rfl)) (hw _ (List.mem_of_getElem? (i := 47) rfl)) (hw _ (List.mem_of_getElem? (i := 4) rfl)) (hw _ (List.mem_of_getElem? (i := 48) rfl)) (by decide) pd_285bBII5bBIII29Z rfl rfl (by decide) (Nat.le_of_ble_eq_true rfl) (by decide) (by decide) (fun z0 => rm_at l Z a0 hw [] n0 h0 z0 p n ps ns A_p A_n s m lo hi 1 hs hm (by decide) lp ln hlo hhi) (fun v7 h8 qv7 => ?_)
      obtain ⟨⟨rfl, at1⟩ | ⟨rfl, at1⟩, rfl⟩ := qv7
      · skip
        replace at1 : lo ≤ 1 ∧ 1 + m ≤ hi ∧ SGl ((ps.drop s).take m) ns 1 := at1
        show W K l _ n0 _ h0 0 0 27 #[.val (.ref p), .val (.int (Int32.ofNat s)), .val (.int (Int32.ofNat m)), .val (.ref n), .val (.int (Int32.ofNat lo)), .val (.int (Int32.ofNat hi))] [(.int (1 : Int32))]
        refine w_if_ne ok d11_27 (pc' := 90) (by decide) (fun hc10 => ?_) (fun hc10 => False.elim (by revert hc10; decide))
        refine w_iconst ok d11_90 (v := (1 : Int32)) rfl ?_
        refine w_goto ok d11_91 (pc' := 95) (by decide) ?_
        refine w_bret ok (by simp) d11_95 (by decide) (by decide) ?_
        exact ⟨Or.inl ⟨rfl, 1, at1⟩, rfl⟩
      · skip
        replace at1 : ¬ (lo ≤ 1 ∧ 1 + m ≤ hi ∧ SGl ((ps.drop s).take m) ns 1) := at1
        show W K l _ n0 _ h0 0 0 27 #[.val (.ref p), .val (.int (Int32.ofNat s)), .val (.int (Int32.ofNat m)), .val (.ref n), .val (.int (Int32.ofNat lo)), .val (.int (Int32.ofNat hi))] [(.int (0 : Int32))]
        refine w_if_ne ok d11_27 (pc' := 90) (by decide) (fun hc12 => False.elim (by revert hc12; decide)) (fun hc12 => ?_)
        refine w_aloadN ok d11_30 rfl rfl ?_
        refine w_iloadN ok d11_31 rfl ?_
        refine w_iloadN ok d11_32 rfl ?_
        refine w_aloadN ok d11_33 rfl rfl ?_
        refine w_iload ok d11_34 rfl ?_
        refine w_iload ok d11_36 rfl ?_
        refine w_iconst ok d11_38 (v := (2 : Int32)) rfl ?_
        refine w_callS ok (y := mn_12) (argsL := [(.ref p), (.int (Int32.ofNat s)), (.int (Int32.ofNat m)), (.ref n), (.int (Int32.ofNat lo)), (.int (Int32.ofNat hi)), (.int (2 : Int32))]) (rest := []) d11_39 (hw _ (List.mem_of_getElem? (i := 46) rfl)) (hw _ (List.mem_of_getElem? (i := 47) rfl)) (hw _ (List.mem_of_getElem? (i := 4) rfl)) (hw _ (List.mem_of_getElem? (i := 48) rfl)) (by decide) pd_285bBII5bBIII29Z rfl rfl (by decide) (Nat.le_of_ble_eq_true rfl) (by decide) (by decide) (fun z0 => rm_at l Z a0 hw [] n0 h0 z0 p n ps ns A_p A_n s m lo hi 2 hs hm (by decide) lp ln hlo hhi) (fun v13 h14 qv13 => ?_)
        obtain ⟨⟨rfl, at2⟩ | ⟨rfl, at2⟩, rfl⟩ := qv13
        · skip
          replace at2 : lo ≤ 2 ∧ 2 + m ≤ hi ∧ SGl ((ps.drop s).take m) ns 2 := at2
          show W K l _ n0 _ h0 0 0 42 #[.val (.ref p), .val (.int (Int32.ofNat s)), .val (.int (Int32.ofNat m)), .val (.ref n), .val (.int (Int32.ofNat lo)), .val (.int (Int32.ofNat hi))] [(.int (1 : Int32))]
          refine w_if_ne ok d11_42 (pc' := 90) (by decide) (fun hc16 => ?_) (fun hc16 => False.elim (by revert hc16; decide))
          refine w_iconst ok d11_90 (v := (1 : Int32)) rfl ?_
          refine w_goto ok d11_91 (pc' := 95) (by decide) ?_
          refine w_bret ok (by simp) d11_95 (by decide) (by decide) ?_
          exact ⟨Or.inl ⟨rfl, 2, at2⟩, rfl⟩
        · skip
          replace at2 : ¬ (lo ≤ 2 ∧ 2 + m ≤ hi ∧ SGl ((ps.drop s).take m) ns 2) := at2
          show W K l _ n0 _ h0 0 0 42 #[.val (.ref p), .val (.int (Int32.ofNat s)), .val (.int (Int32.ofNat m)), .val (.ref n), .val (.int (Int32.ofNat lo)), .val (.int (Int32.ofNat hi))] [(.int (0 : Int32))]
          refine w_if_ne ok d11_42 (pc' := 90) (by decide) (fun hc18 => False.elim (by revert hc18; decide)) (fun hc18 => ?_)
          refine w_aloadN ok d11_45 rfl rfl ?_
          refine w_iloadN ok d11_46 rfl ?_
          refine w_iloadN ok d11_47 rfl ?_
          refine w_aloadN ok d11_48 rfl rfl ?_
          refine w_iload ok d11_49 rfl ?_
          refine w_iload ok d11_51 rfl ?_
          refine w_iconst ok d11_53 (v := (3 : Int32)) rfl ?_
          refine w_callS ok (y := mn_12) (argsL := [(.ref p), (.int (Int32.ofNat s)), (.int (Int32.ofNat m)), (.ref n), (.int (Int32.ofNat lo)), (.int (Int32.ofNat hi)), (.int (3 : Int32))]) (rest := []) d11_54 (hw _ (List.mem_of_getElem? (i := 46) rfl)) (hw _ (List.mem_of_getElem? (i := 47) rfl)) (hw _ (List.mem_of_getElem? (i := 4) rfl)) (hw _ (List.mem_of_getElem? (i := 48) rfl)) (by decide) pd_285bBII5bBIII29Z rfl rfl (by decide) (Nat.le_of_ble_eq_true rfl) (by decide) (by decide) (fun z0 => rm_at l Z a0 hw [] n0 h0 z0 p n ps ns A_p A_n s m lo hi 3 hs hm (by decide) lp ln hlo hhi) (fun v19 h20 qv19 => ?_)
          obtain ⟨⟨rfl, at3⟩ | ⟨rfl, at3⟩, rfl⟩ := qv19
          · skip
            replace at3 : lo ≤ 3 ∧ 3 + m ≤ hi ∧ SGl ((ps.drop s).take m) ns 3 := at3
            show W K l _ n0 _ h0 0 0 57 #[.val (.ref p), .val (.int (Int32.ofNat s)), .val (.int (Int32.ofNat m)), .val (.ref n), .val (.int (Int32.ofNat lo)), .val (.int (Int32.ofNat hi))] [(.int (1 : Int32))]
            refine w_if_ne ok d11_57 (pc' := 90) (by decide) (fun hc22 => ?_) (fun hc22 => False.elim (by revert hc22; decide))
            refine w_iconst ok d11_90 (v := (1 : Int32)) rfl ?_
            refine w_goto ok d11_91 (pc' := 95) (by decide) ?_
            refine w_bret ok (by simp) d11_95 (by decide) (by decide) ?_
            exact ⟨Or.inl ⟨rfl, 3, at3⟩, rfl⟩
          · skip
            replace at3 : ¬ (lo ≤ 3 ∧ 3 + m ≤ hi ∧ SGl ((ps.drop s).take m) ns 3) := at3
            show W K l _ n0 _ h0 0 0 57 #[.val (.ref p), .val (.int (Int32.ofNat s)), .val (.int (Int32.ofNat m)), .val (.ref n), .val (.int (Int32.ofNat lo)), .val (.int (Int32.ofNat hi))] [(.int (0 : Int32))]
            refine w_if_ne ok d11_57 (pc' := 90) (by decide) (fun hc24 => False.elim (by revert hc24; decide)) (fun hc24 => ?_)
            refine w_aloadN ok d11_60 rfl rfl ?_
            refine w_iloadN ok d11_61 rfl ?_
            refine w_iloadN ok d11_62 rfl ?_
            refine w_aloadN ok d11_63 rfl rfl ?_
            refine w_iload ok d11_64 rfl ?_
            refine w_iload ok d11_66 rfl ?_
            refine w_iconst ok d11_68 (v := (4 : Int32)) rfl ?_
            refine w_callS ok (y := mn_12) (argsL := [(.ref p), (.int (Int32.ofNat s)), (.int (Int32.ofNat m)), (.ref n), (.int (Int32.ofNat lo)), (.int (Int32.ofNat hi)), (.int (4 : Int32))]) (rest := []) d11_69 (hw _ (List.mem_of_getElem? (i := 46) rfl)) (hw _ (List.mem_of_getElem? (i := 47) rfl)) (hw _ (List.mem_of_getElem? (i := 4) rfl)) (hw _ (List.mem_of_getElem? (i := 48) rfl)) (by decide) pd_285bBII5bBIII29Z rfl rfl (by decide) (Nat.le_of_ble_eq_true rfl) (by decide) (by decide) (fun z0 => rm_at l Z a0 hw [] n0 h0 z0 p n ps ns A_p A_n s m lo hi 4 hs hm (by decide) lp ln hlo hhi) (fun v25 h26 qv25 => ?_)
            obtain ⟨⟨rfl, at4⟩ | ⟨rfl, at4⟩, rfl⟩ := qv25
            · skip
              replace at4 : lo ≤ 4 ∧ 4 + m ≤ hi ∧ SGl ((ps.drop s).take m) ns 4 := at4
              show W K l _ n0 _ h0 0 0 72 #[.val (.ref p), .val (.int (Int32.ofNat s)), .val (.int (Int32.ofNat m)), .val (.ref n), .val (.int (Int32.ofNat lo)), .val (.int (Int32.ofNat hi))] [(.int (1 : Int32))]
              refine w_if_ne ok d11_72 (pc' := 90) (by decide) (fun hc28 => ?_) (fun hc28 => False.elim (by revert hc28; decide))
              refine w_iconst ok d11_90 (v := (1 : Int32)) rfl ?_
              refine w_goto ok d11_91 (pc' := 95) (by decide) ?_
              refine w_bret ok (by simp) d11_95 (by decide) (by decide) ?_
              exact ⟨Or.inl ⟨rfl, 4, at4⟩, rfl⟩
            · skip
              replace at4 : ¬ (lo ≤ 4 ∧ 4 + m ≤ hi ∧ SGl ((ps.drop s).take m) ns 4) := at4
              show W K l _ n0 _ h0 0 0 72 #[.val (.ref p), .val (.int (Int32.ofNat s)), .val (.int (Int32.ofNat m)), .val (.ref n), .val (.int (Int32.ofNat lo)), .val (.int (Int32.ofNat hi))] [(.int (0 : Int32))]
              refine w_if_ne ok d11_72 (pc' := 90) (by decide) (fun hc30 => False.elim (by revert hc30; decide)) (fun hc30 => ?_)
              refine w_aloadN ok d11_75 rfl rfl ?_
              refine w_iloadN ok d11_76 rfl ?_
              refine w_iloadN ok d11_77 rfl ?_
              refine w_aloadN ok d11_78 rfl rfl ?_
              refine w_iload ok d11_79 rfl ?_
              refine w_iload ok d11_81 rfl ?_
              refine w_iconst ok d11_83 (v := (5 : Int32)) rfl ?_
              refine w_callS ok (y := mn_12) (argsL := [(.ref p), (.int (Int32.ofNat s)), (.int (Int32.ofNat m)), (.ref n), (.int (Int32.ofNat lo)), (.int (Int32.ofNat hi)), (.int (5 : Int32))]) (rest := []) d11_84 (hw _ (List.mem_of_getElem? (i := 46) rfl)) (hw _ (List.mem_of_getElem? (i := 47) rfl)) (hw _ (List.mem_of_getElem? (i := 4) rfl)) (hw _ (List.mem_of_getElem? (i := 48) rfl)) (by decide) pd_285bBII5bBIII29Z rfl rfl (by decide) (Nat.le_of_ble_eq_true rfl) (by decide) (by decide) (fun z0 => rm_at l Z a0 hw [] n0 h0 z0 p n ps ns A_p A_n s m lo hi 5 hs hm (by decide) lp ln hlo hhi) (fun v31 h32 qv31 => ?_)
              obtain ⟨⟨rfl, at5⟩ | ⟨rfl, at5⟩, rfl⟩ := qv31
              · skip
                replace at5 : lo ≤ 5 ∧ 5 + m ≤ hi ∧ SGl ((ps.drop s).take m) ns 5 := at5
                show W K l _ n0 _ h0 0 0 87 #[.val (.ref p), .val (.int (Int32.ofNat s)), .val (.int (Int32.ofNat m)), .val (.ref n), .val (.int (Int32.ofNat lo)), .val (.int (Int32.ofNat hi))] [(.int (1 : Int32))]
                refine w_if_eq ok d11_87 (pc' := 94) (by decide) (fun hc34 => False.elim (by revert hc34; decide)) (fun hc34 => ?_)
                refine w_iconst ok d11_90 (v := (1 : Int32)) rfl ?_
                refine w_goto ok d11_91 (pc' := 95) (by decide) ?_
                refine w_bret ok (by simp) d11_95 (by decide) (by decide) ?_
                exact ⟨Or.inl ⟨rfl, 5, at5⟩, rfl⟩
              · skip
                replace at5 : ¬ (lo ≤ 5 ∧ 5 + m ≤ hi ∧ SGl ((ps.drop s).take m) ns 5) := at5
                show W K l _ n0 _ h0 0 0 87 #[.val (.ref p), .val (.int (Int32.ofNat s)), .val (.int (Int32.ofNat m)), .val (.ref n), .val (.int (Int32.ofNat lo)), .val (.int (Int32.ofNat hi))] [(.int (0 : Int32))]
                refine w_if_eq ok d11_87 (pc' := 94) (by decide) (fun hc36 => ?_) (fun hc36 => False.elim (by revert hc36; decide))
                refine w_iconst ok d11_94 (v := (0 : Int32)) rfl ?_
                refine w_bret ok (by simp) d11_95 (by decide) (by decide) ?_
                exact ⟨Or.inr ⟨rfl, fun ⟨k, q⟩ => match k, q with | 0, q' => at0 q' | 1, q' => at1 q' | 2, q' => at2 q' | 3, q' => at3 q' | 4, q' => at4 q' | 5, q' => at5 q' | k' + 6, q' => absurd q'.2.1 (by omega)⟩, rfl⟩
theorem d7_0 : decode method_10_code 0 = .ok (.aload_n 0, 1) := by decide +kernel
theorem d7_1 : decode method_10_code 1 = .ok (.arraylength, 1) := by decide +kernel
theorem d7_2 : decode method_10_code 2 = .ok (.istore_n 2, 1) := by decide +kernel
theorem d7_3 : decode method_10_code 3 = .ok (.aload_n 1, 1) := by decide +kernel
theorem d7_4 : decode method_10_code 4 = .ok (.arraylength, 1) := by decide +kernel
theorem d7_5 : decode method_10_code 5 = .ok (.istore_n 3, 1) := by decide +kernel
theorem d7_6 : decode method_10_code 6 = .ok (.iconst (-1), 1) := by decide +kernel
theorem d7_7 : decode method_10_code 7 = .ok (.istore 4, 2) := by decide +kernel
theorem d7_9 : decode method_10_code 9 = .ok (.iload_n 2, 1) := by decide +kernel
theorem d7_10 : decode method_10_code 10 = .ok (.iconst 3, 1) := by decide +kernel
theorem d7_11 : decode method_10_code 11 = .ok (.if_icmp .le 14, 3) := by decide +kernel
theorem d7_14 : decode method_10_code 14 = .ok (.aload_n 0, 1) := by decide +kernel
theorem d7_15 : decode method_10_code 15 = .ok (.iconst 3, 1) := by decide +kernel
theorem d7_16 : decode method_10_code 16 = .ok (.invokestatic 25, 3) := by decide +kernel
theorem d7_19 : decode method_10_code 19 = .ok (.ifCond .eq 6, 3) := by decide +kernel
theorem d7_22 : decode method_10_code 22 = .ok (.iconst 3, 1) := by decide +kernel
theorem d7_23 : decode method_10_code 23 = .ok (.istore 4, 2) := by decide +kernel
theorem d7_25 : decode method_10_code 25 = .ok (.iload_n 2, 1) := by decide +kernel
theorem d7_26 : decode method_10_code 26 = .ok (.iconst 2, 1) := by decide +kernel
theorem d7_27 : decode method_10_code 27 = .ok (.if_icmp .le 14, 3) := by decide +kernel
theorem d7_30 : decode method_10_code 30 = .ok (.aload_n 0, 1) := by decide +kernel
theorem d7_31 : decode method_10_code 31 = .ok (.iconst 2, 1) := by decide +kernel
theorem d7_32 : decode method_10_code 32 = .ok (.invokestatic 25, 3) := by decide +kernel
theorem d7_35 : decode method_10_code 35 = .ok (.ifCond .eq 6, 3) := by decide +kernel
theorem d7_38 : decode method_10_code 38 = .ok (.iconst 2, 1) := by decide +kernel
theorem d7_39 : decode method_10_code 39 = .ok (.istore 4, 2) := by decide +kernel
theorem d7_41 : decode method_10_code 41 = .ok (.iload_n 2, 1) := by decide +kernel
theorem d7_42 : decode method_10_code 42 = .ok (.iconst 1, 1) := by decide +kernel
theorem d7_43 : decode method_10_code 43 = .ok (.if_icmp .le 14, 3) := by decide +kernel
theorem d7_46 : decode method_10_code 46 = .ok (.aload_n 0, 1) := by decide +kernel
theorem d7_47 : decode method_10_code 47 = .ok (.iconst 1, 1) := by decide +kernel
theorem d7_48 : decode method_10_code 48 = .ok (.invokestatic 25, 3) := by decide +kernel
theorem d7_51 : decode method_10_code 51 = .ok (.ifCond .eq 6, 3) := by decide +kernel
theorem d7_54 : decode method_10_code 54 = .ok (.iconst 1, 1) := by decide +kernel
theorem d7_55 : decode method_10_code 55 = .ok (.istore 4, 2) := by decide +kernel
theorem d7_57 : decode method_10_code 57 = .ok (.iload_n 2, 1) := by decide +kernel
theorem d7_58 : decode method_10_code 58 = .ok (.ifCond .le 14, 3) := by decide +kernel
theorem d7_61 : decode method_10_code 61 = .ok (.aload_n 0, 1) := by decide +kernel
theorem d7_62 : decode method_10_code 62 = .ok (.iconst 0, 1) := by decide +kernel
theorem d7_63 : decode method_10_code 63 = .ok (.invokestatic 25, 3) := by decide +kernel
theorem d7_66 : decode method_10_code 66 = .ok (.ifCond .eq 6, 3) := by decide +kernel
theorem d7_69 : decode method_10_code 69 = .ok (.iconst 0, 1) := by decide +kernel
theorem d7_70 : decode method_10_code 70 = .ok (.istore 4, 2) := by decide +kernel
theorem d7_72 : decode method_10_code 72 = .ok (.iload 4, 2) := by decide +kernel
theorem d7_74 : decode method_10_code 74 = .ok (.ifCond .ge 25, 3) := by decide +kernel
theorem d7_77 : decode method_10_code 77 = .ok (.iload_n 3, 1) := by decide +kernel
theorem d7_78 : decode method_10_code 78 = .ok (.iload_n 2, 1) := by decide +kernel
theorem d7_79 : decode method_10_code 79 = .ok (.if_icmp .ne 18, 3) := by decide +kernel
theorem d7_82 : decode method_10_code 82 = .ok (.aload_n 0, 1) := by decide +kernel
theorem d7_83 : decode method_10_code 83 = .ok (.iconst 0, 1) := by decide +kernel
theorem d7_84 : decode method_10_code 84 = .ok (.iload_n 2, 1) := by decide +kernel
theorem d7_85 : decode method_10_code 85 = .ok (.aload_n 1, 1) := by decide +kernel
theorem d7_86 : decode method_10_code 86 = .ok (.iconst 0, 1) := by decide +kernel
theorem d7_87 : decode method_10_code 87 = .ok (.invokestatic 17, 3) := by decide +kernel
theorem d7_90 : decode method_10_code 90 = .ok (.ifCond .eq 7, 3) := by decide +kernel
theorem d7_93 : decode method_10_code 93 = .ok (.iconst 1, 1) := by decide +kernel
theorem d7_94 : decode method_10_code 94 = .ok (.goto 4, 3) := by decide +kernel
theorem d7_97 : decode method_10_code 97 = .ok (.iconst 0, 1) := by decide +kernel
theorem d7_98 : decode method_10_code 98 = .ok (.ireturn, 1) := by decide +kernel
theorem d7_99 : decode method_10_code 99 = .ok (.iconst (-1), 1) := by decide +kernel
theorem d7_100 : decode method_10_code 100 = .ok (.istore 5, 2) := by decide +kernel
theorem d7_102 : decode method_10_code 102 = .ok (.iload_n 2, 1) := by decide +kernel
theorem d7_103 : decode method_10_code 103 = .ok (.ifCond .le 14, 3) := by decide +kernel
theorem d7_106 : decode method_10_code 106 = .ok (.aload_n 0, 1) := by decide +kernel
theorem d7_107 : decode method_10_code 107 = .ok (.iconst 0, 1) := by decide +kernel
theorem d7_108 : decode method_10_code 108 = .ok (.invokestatic 25, 3) := by decide +kernel
theorem d7_111 : decode method_10_code 111 = .ok (.ifCond .eq 6, 3) := by decide +kernel
theorem d7_114 : decode method_10_code 114 = .ok (.iconst 0, 1) := by decide +kernel
theorem d7_115 : decode method_10_code 115 = .ok (.istore 5, 2) := by decide +kernel
theorem d7_117 : decode method_10_code 117 = .ok (.iload_n 2, 1) := by decide +kernel
theorem d7_118 : decode method_10_code 118 = .ok (.iconst 1, 1) := by decide +kernel
theorem d7_119 : decode method_10_code 119 = .ok (.if_icmp .le 14, 3) := by decide +kernel
theorem d7_122 : decode method_10_code 122 = .ok (.aload_n 0, 1) := by decide +kernel
theorem d7_123 : decode method_10_code 123 = .ok (.iconst 1, 1) := by decide +kernel
theorem d7_124 : decode method_10_code 124 = .ok (.invokestatic 25, 3) := by decide +kernel
theorem d7_127 : decode method_10_code 127 = .ok (.ifCond .eq 6, 3) := by decide +kernel
theorem d7_130 : decode method_10_code 130 = .ok (.iconst 1, 1) := by decide +kernel
theorem d7_131 : decode method_10_code 131 = .ok (.istore 5, 2) := by decide +kernel
theorem d7_133 : decode method_10_code 133 = .ok (.iload_n 2, 1) := by decide +kernel
theorem d7_134 : decode method_10_code 134 = .ok (.iconst 2, 1) := by decide +kernel
theorem d7_135 : decode method_10_code 135 = .ok (.if_icmp .le 14, 3) := by decide +kernel
theorem d7_138 : decode method_10_code 138 = .ok (.aload_n 0, 1) := by decide +kernel
theorem d7_139 : decode method_10_code 139 = .ok (.iconst 2, 1) := by decide +kernel
theorem d7_140 : decode method_10_code 140 = .ok (.invokestatic 25, 3) := by decide +kernel
theorem d7_143 : decode method_10_code 143 = .ok (.ifCond .eq 6, 3) := by decide +kernel
theorem d7_146 : decode method_10_code 146 = .ok (.iconst 2, 1) := by decide +kernel
theorem d7_147 : decode method_10_code 147 = .ok (.istore 5, 2) := by decide +kernel
theorem d7_149 : decode method_10_code 149 = .ok (.iload_n 2, 1) := by decide +kernel
theorem d7_150 : decode method_10_code 150 = .ok (.iconst 3, 1) := by decide +kernel
theorem d7_151 : decode method_10_code 151 = .ok (.if_icmp .le 14, 3) := by decide +kernel
theorem d7_154 : decode method_10_code 154 = .ok (.aload_n 0, 1) := by decide +kernel
theorem d7_155 : decode method_10_code 155 = .ok (.iconst 3, 1) := by decide +kernel
theorem d7_156 : decode method_10_code 156 = .ok (.invokestatic 25, 3) := by decide +kernel
theorem d7_159 : decode method_10_code 159 = .ok (.ifCond .eq 6, 3) := by decide +kernel
theorem d7_162 : decode method_10_code 162 = .ok (.iconst 3, 1) := by decide +kernel
theorem d7_163 : decode method_10_code 163 = .ok (.istore 5, 2) := by decide +kernel
theorem d7_165 : decode method_10_code 165 = .ok (.iload 4, 2) := by decide +kernel
theorem d7_167 : decode method_10_code 167 = .ok (.istore 6, 2) := by decide +kernel
theorem d7_169 : decode method_10_code 169 = .ok (.iload_n 2, 1) := by decide +kernel
theorem d7_170 : decode method_10_code 170 = .ok (.iconst 1, 1) := by decide +kernel
theorem d7_171 : decode method_10_code 171 = .ok (.isub, 1) := by decide +kernel
theorem d7_172 : decode method_10_code 172 = .ok (.iload 5, 2) := by decide +kernel
theorem d7_174 : decode method_10_code 174 = .ok (.isub, 1) := by decide +kernel
theorem d7_175 : decode method_10_code 175 = .ok (.istore 7, 2) := by decide +kernel
theorem d7_177 : decode method_10_code 177 = .ok (.iload_n 3, 1) := by decide +kernel
theorem d7_178 : decode method_10_code 178 = .ok (.iload 6, 2) := by decide +kernel
theorem d7_180 : decode method_10_code 180 = .ok (.iload 7, 2) := by decide +kernel
theorem d7_182 : decode method_10_code 182 = .ok (.iadd, 1) := by decide +kernel
theorem d7_183 : decode method_10_code 183 = .ok (.if_icmp .ge 5, 3) := by decide +kernel
theorem d7_186 : decode method_10_code 186 = .ok (.iconst 0, 1) := by decide +kernel
theorem d7_187 : decode method_10_code 187 = .ok (.ireturn, 1) := by decide +kernel
theorem d7_188 : decode method_10_code 188 = .ok (.aload_n 0, 1) := by decide +kernel
theorem d7_189 : decode method_10_code 189 = .ok (.iconst 0, 1) := by decide +kernel
theorem d7_190 : decode method_10_code 190 = .ok (.iload 6, 2) := by decide +kernel
theorem d7_192 : decode method_10_code 192 = .ok (.aload_n 1, 1) := by decide +kernel
theorem d7_193 : decode method_10_code 193 = .ok (.iconst 0, 1) := by decide +kernel
theorem d7_194 : decode method_10_code 194 = .ok (.invokestatic 17, 3) := by decide +kernel
theorem d7_197 : decode method_10_code 197 = .ok (.ifCond .ne 5, 3) := by decide +kernel
theorem d7_200 : decode method_10_code 200 = .ok (.iconst 0, 1) := by decide +kernel
theorem d7_201 : decode method_10_code 201 = .ok (.ireturn, 1) := by decide +kernel
theorem d7_202 : decode method_10_code 202 = .ok (.aload_n 0, 1) := by decide +kernel
theorem d7_203 : decode method_10_code 203 = .ok (.iload 5, 2) := by decide +kernel
theorem d7_205 : decode method_10_code 205 = .ok (.iconst 1, 1) := by decide +kernel
theorem d7_206 : decode method_10_code 206 = .ok (.iadd, 1) := by decide +kernel
theorem d7_207 : decode method_10_code 207 = .ok (.iload 7, 2) := by decide +kernel
theorem d7_209 : decode method_10_code 209 = .ok (.aload_n 1, 1) := by decide +kernel
theorem d7_210 : decode method_10_code 210 = .ok (.iload_n 3, 1) := by decide +kernel
theorem d7_211 : decode method_10_code 211 = .ok (.iload 7, 2) := by decide +kernel
theorem d7_213 : decode method_10_code 213 = .ok (.isub, 1) := by decide +kernel
theorem d7_214 : decode method_10_code 214 = .ok (.invokestatic 17, 3) := by decide +kernel
theorem d7_217 : decode method_10_code 217 = .ok (.ifCond .ne 5, 3) := by decide +kernel
theorem d7_220 : decode method_10_code 220 = .ok (.iconst 0, 1) := by decide +kernel
theorem d7_221 : decode method_10_code 221 = .ok (.ireturn, 1) := by decide +kernel
theorem d7_222 : decode method_10_code 222 = .ok (.iload 5, 2) := by decide +kernel
theorem d7_224 : decode method_10_code 224 = .ok (.iload 4, 2) := by decide +kernel
theorem d7_226 : decode method_10_code 226 = .ok (.isub, 1) := by decide +kernel
theorem d7_227 : decode method_10_code 227 = .ok (.iconst 1, 1) := by decide +kernel
theorem d7_228 : decode method_10_code 228 = .ok (.isub, 1) := by decide +kernel
theorem d7_229 : decode method_10_code 229 = .ok (.istore 8, 2) := by decide +kernel
theorem d7_231 : decode method_10_code 231 = .ok (.iload 4, 2) := by decide +kernel
theorem d7_233 : decode method_10_code 233 = .ok (.iconst 1, 1) := by decide +kernel
theorem d7_234 : decode method_10_code 234 = .ok (.iadd, 1) := by decide +kernel
theorem d7_235 : decode method_10_code 235 = .ok (.istore 9, 2) := by decide +kernel
theorem d7_237 : decode method_10_code 237 = .ok (.iconst 0, 1) := by decide +kernel
theorem d7_238 : decode method_10_code 238 = .ok (.istore 10, 2) := by decide +kernel
theorem d7_240 : decode method_10_code 240 = .ok (.iload 8, 2) := by decide +kernel
theorem d7_242 : decode method_10_code 242 = .ok (.iconst 1, 1) := by decide +kernel
theorem d7_243 : decode method_10_code 243 = .ok (.if_icmp .ne 20, 3) := by decide +kernel
theorem d7_246 : decode method_10_code 246 = .ok (.aload_n 0, 1) := by decide +kernel
theorem d7_247 : decode method_10_code 247 = .ok (.iload 4, 2) := by decide +kernel
theorem d7_249 : decode method_10_code 249 = .ok (.iconst 1, 1) := by decide +kernel
theorem d7_250 : decode method_10_code 250 = .ok (.iadd, 1) := by decide +kernel
theorem d7_251 : decode method_10_code 251 = .ok (.invokestatic 25, 3) := by decide +kernel
theorem d7_254 : decode method_10_code 254 = .ok (.ifCond .ne 86, 3) := by decide +kernel
theorem d7_257 : decode method_10_code 257 = .ok (.iconst 1, 1) := by decide +kernel
theorem d7_258 : decode method_10_code 258 = .ok (.istore 10, 2) := by decide +kernel
theorem d7_260 : decode method_10_code 260 = .ok (.goto 80, 3) := by decide +kernel
theorem d7_263 : decode method_10_code 263 = .ok (.iload 8, 2) := by decide +kernel
theorem d7_265 : decode method_10_code 265 = .ok (.iconst 2, 1) := by decide +kernel
theorem d7_266 : decode method_10_code 266 = .ok (.if_icmp .ne 74, 3) := by decide +kernel
theorem d7_269 : decode method_10_code 269 = .ok (.aload_n 0, 1) := by decide +kernel
theorem d7_270 : decode method_10_code 270 = .ok (.iload 4, 2) := by decide +kernel
theorem d7_272 : decode method_10_code 272 = .ok (.iconst 1, 1) := by decide +kernel
theorem d7_273 : decode method_10_code 273 = .ok (.iadd, 1) := by decide +kernel
theorem d7_274 : decode method_10_code 274 = .ok (.invokestatic 25, 3) := by decide +kernel
theorem d7_277 : decode method_10_code 277 = .ok (.istore 11, 2) := by decide +kernel
theorem d7_279 : decode method_10_code 279 = .ok (.aload_n 0, 1) := by decide +kernel
theorem d7_280 : decode method_10_code 280 = .ok (.iload 4, 2) := by decide +kernel
theorem d7_282 : decode method_10_code 282 = .ok (.iconst 2, 1) := by decide +kernel
theorem d7_283 : decode method_10_code 283 = .ok (.iadd, 1) := by decide +kernel
theorem d7_284 : decode method_10_code 284 = .ok (.invokestatic 25, 3) := by decide +kernel
theorem d7_287 : decode method_10_code 287 = .ok (.istore 12, 2) := by decide +kernel
theorem d7_289 : decode method_10_code 289 = .ok (.iload 11, 2) := by decide +kernel
theorem d7_291 : decode method_10_code 291 = .ok (.ifCond .ne 14, 3) := by decide +kernel
theorem d7_294 : decode method_10_code 294 = .ok (.iload 12, 2) := by decide +kernel
theorem d7_296 : decode method_10_code 296 = .ok (.ifCond .ne 9, 3) := by decide +kernel
theorem d7_299 : decode method_10_code 299 = .ok (.iconst 2, 1) := by decide +kernel
theorem d7_300 : decode method_10_code 300 = .ok (.istore 10, 2) := by decide +kernel
theorem d7_302 : decode method_10_code 302 = .ok (.goto 38, 3) := by decide +kernel
theorem d7_305 : decode method_10_code 305 = .ok (.iload 11, 2) := by decide +kernel
theorem d7_307 : decode method_10_code 307 = .ok (.ifCond .eq 20, 3) := by decide +kernel
theorem d7_310 : decode method_10_code 310 = .ok (.iload 12, 2) := by decide +kernel
theorem d7_312 : decode method_10_code 312 = .ok (.ifCond .ne 15, 3) := by decide +kernel
theorem d7_315 : decode method_10_code 315 = .ok (.iload 4, 2) := by decide +kernel
theorem d7_317 : decode method_10_code 317 = .ok (.iconst 2, 1) := by decide +kernel
theorem d7_318 : decode method_10_code 318 = .ok (.iadd, 1) := by decide +kernel
theorem d7_319 : decode method_10_code 319 = .ok (.istore 9, 2) := by decide +kernel
theorem d7_321 : decode method_10_code 321 = .ok (.iconst 1, 1) := by decide +kernel
theorem d7_322 : decode method_10_code 322 = .ok (.istore 10, 2) := by decide +kernel
theorem d7_324 : decode method_10_code 324 = .ok (.goto 16, 3) := by decide +kernel
theorem d7_327 : decode method_10_code 327 = .ok (.iload 11, 2) := by decide +kernel
theorem d7_329 : decode method_10_code 329 = .ok (.ifCond .ne 11, 3) := by decide +kernel
theorem d7_332 : decode method_10_code 332 = .ok (.iload 12, 2) := by decide +kernel
theorem d7_334 : decode method_10_code 334 = .ok (.ifCond .eq 6, 3) := by decide +kernel
theorem d7_337 : decode method_10_code 337 = .ok (.iconst 1, 1) := by decide +kernel
theorem d7_338 : decode method_10_code 338 = .ok (.istore 10, 2) := by decide +kernel
theorem d7_340 : decode method_10_code 340 = .ok (.iload 10, 2) := by decide +kernel
theorem d7_342 : decode method_10_code 342 = .ok (.ifCond .ne 5, 3) := by decide +kernel
theorem d7_345 : decode method_10_code 345 = .ok (.iconst 1, 1) := by decide +kernel
theorem d7_346 : decode method_10_code 346 = .ok (.ireturn, 1) := by decide +kernel
theorem d7_347 : decode method_10_code 347 = .ok (.aload_n 0, 1) := by decide +kernel
theorem d7_348 : decode method_10_code 348 = .ok (.iload 9, 2) := by decide +kernel
theorem d7_350 : decode method_10_code 350 = .ok (.iload 10, 2) := by decide +kernel
theorem d7_352 : decode method_10_code 352 = .ok (.aload_n 1, 1) := by decide +kernel
theorem d7_353 : decode method_10_code 353 = .ok (.iload 6, 2) := by decide +kernel
theorem d7_355 : decode method_10_code 355 = .ok (.iload_n 3, 1) := by decide +kernel
theorem d7_356 : decode method_10_code 356 = .ok (.iload 7, 2) := by decide +kernel
theorem d7_358 : decode method_10_code 358 = .ok (.isub, 1) := by decide +kernel
theorem d7_359 : decode method_10_code 359 = .ok (.invokestatic 29, 3) := by decide +kernel
theorem d7_362 : decode method_10_code 362 = .ok (.ireturn, 1) := by decide +kernel
theorem pd_285bBI29Z : parseMethodDescriptor "([BI)Z" = some ⟨[(.array .byte), .int], some .boolean⟩ := by decide +kernel
theorem pd_285bBII5bBII29Z : parseMethodDescriptor "([BII[BII)Z" = some ⟨[(.array .byte), .int, .int, (.array .byte), .int, .int], some .boolean⟩ := by decide +kernel
abbrev mn_7 : MethodName := ⟨"com/example/turnstile/turnstile/server/GlobMatchesPinLaw", "ref", "([B[B)Z"⟩
set_option maxRecDepth 65536 in
set_option maxHeartbeats 40000000 in
theorem rm_ref (l : Launch) (Z : State) (a0 : Array Value) (hw : ∀ d ∈ tables_1, d.before a0 Z = true) (ws : List Jvm.Cond) (n0 : Nat) (h0 : Heap) (Z0 : Old Z n0 h0) (p n : Addr) (ps ns : List Int32) (A_p : PA .byte Z h0 p (bys ps)) (A_n : PA .byte Z h0 n (bys ns)) (lp : ps.length ≤ 4) (ln : ns.length ≤ 5) :
    Met l Z n0 mn_7 method_10_code 13 (some .boolean) ws ({ frames := 4, cells := 0, slots := 0, locals := 64 } : Room) #[(.ref p), (.ref n)] h0 (fun u h => Ans u (Gi ns ps 0) ∧ h0 = h) := by
  refine met_of Z0 (plainFor_of_name pn_com_example_turnstile_turnstile_server_GlobMatchesPinLaw) (Ls := #[.val (.ref p), .val (.ref n), .unset, .unset, .unset, .unset, .unset, .unset, .unset, .unset, .unset, .unset, .unset]) (fun m => by first | (simp [entryFrame, mkF, argsToLocals, Value.category]; done) | rfl) ?_
  intro K ok
  obtain rfl | ⟨x0, rfl⟩ | ⟨x0, x1, rfl⟩ | ⟨x0, x1, x2, rfl⟩ | ⟨x0, x1, x2, x3, rfl⟩ := own_shape ps lp
  · skip
    show W K l _ n0 _ h0 0 0 0 #[.val (.ref p), .val (.ref n), .unset, .unset, .unset, .unset, .unset, .unset, .unset, .unset, .unset, .unset, .unset] []
    refine w_aloadN ok d7_0 rfl rfl ?_
    refine w_arraylength ok (z := (0 : Int32)) d7_1 A_p rfl (by decide) ?_
    show W K l _ n0 _ h0 0 0 2 #[.val (.ref p), .val (.ref n), .unset, .unset, .unset, .unset, .unset, .unset, .unset, .unset, .unset, .unset, .unset] [(.int (0 : Int32))]
    refine w_istoreN ok d7_2 (L' := #[.val (.ref p), .val (.ref n), .val (.int (0 : Int32)), .unset, .unset, .unset, .unset, .unset, .unset, .unset, .unset, .unset, .unset]) rfl ?_
    refine w_aloadN ok d7_3 rfl rfl ?_
    refine w_arraylength ok (z := Int32.ofNat ns.length) d7_4 A_n (own_len (by omega)) (own_ix0 (by omega)) ?_
    show W K l _ n0 _ h0 0 0 5 #[.val (.ref p), .val (.ref n), .val (.int (0 : Int32)), .unset, .unset, .unset, .unset, .unset, .unset, .unset, .unset, .unset, .unset] [(.int (Int32.ofNat ns.length))]
    refine w_istoreN ok d7_5 (L' := #[.val (.ref p), .val (.ref n), .val (.int (0 : Int32)), .val (.int (Int32.ofNat ns.length)), .unset, .unset, .unset, .unset, .unset, .unset, .unset, .unset, .unset]) rfl ?_
    refine w_iconst ok d7_6 (v := (-1 : Int32)) rfl ?_
    refine w_istore ok d7_7 (L' := #[.val (.ref p), .val (.ref n), .val (.int (0 : Int32)), .val (.int (Int32.ofNat ns.length)), .val (.int (-1 : Int32)), .unset, .unset, .unset, .unset, .unset, .unset, .unset, .unset]) rfl ?_
    refine w_iloadN ok d7_9 rfl ?_
    refine w_iconst ok d7_10 (v := (3 : Int32)) rfl ?_
    refine w_icmp_le ok d7_11 (pc' := 25) (by decide) (fun hc1 => ?_) (fun hc1 => False.elim (by revert hc1; decide))
    refine w_iloadN ok d7_25 rfl ?_
    refine w_iconst ok d7_26 (v := (2 : Int32)) rfl ?_
    refine w_icmp_le ok d7_27 (pc' := 41) (by decide) (fun hc3 => ?_) (fun hc3 => False.elim (by revert hc3; decide))
    refine w_iloadN ok d7_41 rfl ?_
    refine w_iconst ok d7_42 (v := (1 : Int32)) rfl ?_
    refine w_icmp_le ok d7_43 (pc' := 57) (by decide) (fun hc5 => ?_) (fun hc5 => False.elim (by revert hc5; decide))
    refine w_iloadN ok d7_57 rfl ?_
    refine w_if_le ok d7_58 (pc' := 72) (by decide) (fun hc7 => ?_) (fun hc7 => False.elim (by revert hc7; decide))
    refine w_iload ok d7_72 rfl ?_
    refine w_if_ge ok d7_74 (pc' := 99) (by decide) (fun hc9 => False.elim (by revert hc9; decide)) (fun hc9 => ?_)
    refine w_iloadN ok d7_77 rfl ?_
    refine w_iloadN ok d7_78 rfl ?_
    refine w_icmp_ne ok d7_79 (pc' := 97) (by decide) (fun hc11 => ?_) (fun hc11 => ?_)
    · skip
      refine w_iconst ok d7_97 (v := (0 : Int32)) rfl ?_
      refine w_bret ok (by simp) d7_98 (by decide) (by decide) ?_
      refine ⟨Or.inr ⟨rfl, fun q => ?_⟩, rfl⟩
      have q1 := ((Gi_all NoS_nil).mp q).1
      exact hc11 (show Int32.ofNat ns.length = Int32.ofNat 0 by rw [← q1]; rfl)
    · skip
      refine w_aloadN ok d7_82 rfl rfl ?_
      refine w_iconst ok d7_83 (v := (0 : Int32)) rfl ?_
      refine w_iloadN ok d7_84 rfl ?_
      refine w_aloadN ok d7_85 rfl rfl ?_
      refine w_iconst ok d7_86 (v := (0 : Int32)) rfl ?_
      refine w_callS ok (y := mn_9) (argsL := [(.ref p), (.int (0 : Int32)), (.int (0 : Int32)), (.ref n), (.int (0 : Int32))]) (rest := []) d7_87 (hw _ (List.mem_of_getElem? (i := 37) rfl)) (hw _ (List.mem_of_getElem? (i := 38) rfl)) (hw _ (List.mem_of_getElem? (i := 4) rfl)) (hw _ (List.mem_of_getElem? (i := 39) rfl)) (by decide) pd_285bBII5bBI29Z rfl rfl (by decide) (Nat.le_of_ble_eq_true rfl) (by decide) (by decide) (fun z0 => rm_seg l Z a0 hw [] n0 h0 z0 p n [] ns A_p A_n 0 0 0 _ rfl (Nat.le_of_ble_eq_true rfl) (by decide) (by omega) (Nat.le_of_ble_eq_true rfl) ln) (fun v12 h13 qv12 => ?_)
      obtain ⟨⟨rfl, sga⟩ | ⟨rfl, sga⟩, rfl⟩ := qv12
      · skip
        replace sga : SGl [] ns 0 := sga
        show W K l _ n0 _ h0 0 0 90 #[.val (.ref p), .val (.ref n), .val (.int (0 : Int32)), .val (.int (Int32.ofNat ns.length)), .val (.int (-1 : Int32)), .unset, .unset, .unset, .unset, .unset, .unset, .unset, .unset] [(.int (1 : Int32))]
        refine w_if_eq ok d7_90 (pc' := 97) (by decide) (fun hc15 => False.elim (by revert hc15; decide)) (fun hc15 => ?_)
        refine w_iconst ok d7_93 (v := (1 : Int32)) rfl ?_
        refine w_goto ok d7_94 (pc' := 98) (by decide) ?_
        refine w_bret ok (by simp) d7_98 (by decide) (by decide) ?_
        have hl : ns.length = 0 := (own_eqn (by omega) (by decide)).mp (show Int32.ofNat ns.length = Int32.ofNat 0 from hc11)
        exact ⟨Or.inl ⟨rfl, (Gi_all NoS_nil).mpr ⟨by rw [hl]; rfl, sga⟩⟩, rfl⟩
      · skip
        replace sga : ¬ (SGl [] ns 0) := sga
        show W K l _ n0 _ h0 0 0 90 #[.val (.ref p), .val (.ref n), .val (.int (0 : Int32)), .val (.int (Int32.ofNat ns.length)), .val (.int (-1 : Int32)), .unset, .unset, .unset, .unset, .unset, .unset, .unset, .unset] [(.int (0 : Int32))]
        refine w_if_eq ok d7_90 (pc' := 97) (by decide) (fun hc17 => ?_) (fun hc17 => False.elim (by revert hc17; decide))
        refine w_iconst ok d7_97 (v := (0 : Int32)) rfl ?_
        refine w_bret ok (by simp) d7_98 (by decide) (by decide) ?_
        exact ⟨Or.inr ⟨rfl, fun q => sga ((Gi_all NoS_nil).mp q).2⟩, rfl⟩
  · skip
    show W K l _ n0 _ h0 0 0 0 #[.val (.ref p), .val (.ref n), .unset, .unset, .unset, .unset, .unset, .unset, .unset, .unset, .unset, .unset, .unset] []
    refine w_aloadN ok d7_0 rfl rfl ?_
    refine w_arraylength ok (z := (1 : Int32)) d7_1 A_p rfl (by decide) ?_
    show W K l _ n0 _ h0 0 0 2 #[.val (.ref p), .val (.ref n), .unset, .unset, .unset, .unset, .unset, .unset, .unset, .unset, .unset, .unset, .unset] [(.int (1 : Int32))]
    refine w_istoreN ok d7_2 (L' := #[.val (.ref p), .val (.ref n), .val (.int (1 : Int32)), .unset, .unset, .unset, .unset, .unset, .unset, .unset, .unset, .unset, .unset]) rfl ?_
    refine w_aloadN ok d7_3 rfl rfl ?_
    refine w_arraylength ok (z := Int32.ofNat ns.length) d7_4 A_n (own_len (by omega)) (own_ix0 (by omega)) ?_
    show W K l _ n0 _ h0 0 0 5 #[.val (.ref p), .val (.ref n), .val (.int (1 : Int32)), .unset, .unset, .unset, .unset, .unset, .unset, .unset, .unset, .unset, .unset] [(.int (Int32.ofNat ns.length))]
    refine w_istoreN ok d7_5 (L' := #[.val (.ref p), .val (.ref n), .val (.int (1 : Int32)), .val (.int (Int32.ofNat ns.length)), .unset, .unset, .unset, .unset, .unset, .unset, .unset, .unset, .unset]) rfl ?_
    refine w_iconst ok d7_6 (v := (-1 : Int32)) rfl ?_
    refine w_istore ok d7_7 (L' := #[.val (.ref p), .val (.ref n), .val (.int (1 : Int32)), .val (.int (Int32.ofNat ns.length)), .val (.int (-1 : Int32)), .unset, .unset, .unset, .unset, .unset, .unset, .unset, .unset]) rfl ?_
    refine w_iloadN ok d7_9 rfl ?_
    refine w_iconst ok d7_10 (v := (3 : Int32)) rfl ?_
    refine w_icmp_le ok d7_11 (pc' := 25) (by decide) (fun hc1 => ?_) (fun hc1 => False.elim (by revert hc1; decide))
    refine w_iloadN ok d7_25 rfl ?_
    refine w_iconst ok d7_26 (v := (2 : Int32)) rfl ?_
    refine w_icmp_le ok d7_27 (pc' := 41) (by decide) (fun hc3 => ?_) (fun hc3 => False.elim (by revert hc3; decide))
    refine w_iloadN ok d7_41 rfl ?_
    refine w_iconst ok d7_42 (v := (1 : Int32)) rfl ?_
    refine w_icmp_le ok d7_43 (pc' := 57) (by decide) (fun hc5 => ?_) (fun hc5 => False.elim (by revert hc5; decide))
    refine w_iloadN ok d7_57 rfl ?_
    refine w_if_le ok d7_58 (pc' := 72) (by decide) (fun hc7 => False.elim (by revert hc7; decide)) (fun hc7 => ?_)
    refine w_aloadN ok d7_61 rfl rfl ?_
    refine w_iconst ok d7_62 (v := (0 : Int32)) rfl ?_
    refine w_callS ok (y := mn_8) (argsL := [(.ref p), (.int (0 : Int32))]) (rest := []) d7_63 (hw _ (List.mem_of_getElem? (i := 34) rfl)) (hw _ (List.mem_of_getElem? (i := 35) rfl)) (hw _ (List.mem_of_getElem? (i := 4) rfl)) (hw _ (List.mem_of_getElem? (i := 36) rfl)) (by decide) pd_285bBI29Z rfl rfl (by decide) (Nat.le_of_ble_eq_true rfl) (by decide) (by decide) (fun z0 => rm_star l Z a0 hw [] n0 h0 z0 p [x0] A_p 0 (Nat.le_of_ble_eq_true rfl) (Nat.le_of_ble_eq_true rfl)) (fun v8 h9 qv8 => ?_)
    obtain ⟨⟨rfl, s0⟩ | ⟨rfl, s0⟩, rfl⟩ := qv8
    · skip
      replace s0 : x0 = 42 := s0
      show W K l _ n0 _ h0 0 0 66 #[.val (.ref p), .val (.ref n), .val (.int (1 : Int32)), .val (.int (Int32.ofNat ns.length)), .val (.int (-1 : Int32)), .unset, .unset, .unset, .unset, .unset, .unset, .unset, .unset] [(.int (1 : Int32))]
      refine w_if_eq ok d7_66 (pc' := 72) (by decide) (fun hc11 => False.elim (by revert hc11; decide)) (fun hc11 => ?_)
      refine w_iconst ok d7_69 (v := (0 : Int32)) rfl ?_
      refine w_istore ok d7_70 (L' := #[.val (.ref p), .val (.ref n), .val (.int (1 : Int32)), .val (.int (Int32.ofNat ns.length)), .val (.int (0 : Int32)), .unset, .unset, .unset, .unset, .unset, .unset, .unset, .unset]) rfl ?_
      refine w_iload ok d7_72 rfl ?_
      refine w_if_ge ok d7_74 (pc' := 99) (by decide) (fun hc13 => ?_) (fun hc13 => False.elim (by revert hc13; decide))
      refine w_iconst ok d7_99 (v := (-1 : Int32)) rfl ?_
      refine w_istore ok d7_100 (L' := #[.val (.ref p), .val (.ref n), .val (.int (1 : Int32)), .val (.int (Int32.ofNat ns.length)), .val (.int (0 : Int32)), .val (.int (-1 : Int32)), .unset, .unset, .unset, .unset, .unset, .unset, .unset]) rfl ?_
      refine w_iloadN ok d7_102 rfl ?_
      refine w_if_le ok d7_103 (pc' := 117) (by decide) (fun hc15 => False.elim (by revert hc15; decide)) (fun hc15 => ?_)
      refine w_aloadN ok d7_106 rfl rfl ?_
      refine w_iconst ok d7_107 (v := (0 : Int32)) rfl ?_
      refine w_callS ok (y := mn_8) (argsL := [(.ref p), (.int (0 : Int32))]) (rest := []) d7_108 (hw _ (List.mem_of_getElem? (i := 34) rfl)) (hw _ (List.mem_of_getElem? (i := 35) rfl)) (hw _ (List.mem_of_getElem? (i := 4) rfl)) (hw _ (List.mem_of_getElem? (i := 36) rfl)) (by decide) pd_285bBI29Z rfl rfl (by decide) (Nat.le_of_ble_eq_true rfl) (by decide) (by decide) (fun z0 => rm_star l Z a0 hw [] n0 h0 z0 p [x0] A_p 0 (Nat.le_of_ble_eq_true rfl) (Nat.le_of_ble_eq_true rfl)) (fun v16 h17 qv16 => ?_)
      obtain ⟨⟨rfl, t18⟩ | ⟨rfl, t18⟩, rfl⟩ := qv16
      · skip
        replace t18 : x0 = 42 := t18
        show W K l _ n0 _ h0 0 0 111 #[.val (.ref p), .val (.ref n), .val (.int (1 : Int32)), .val (.int (Int32.ofNat ns.length)), .val (.int (0 : Int32)), .val (.int (-1 : Int32)), .unset, .unset, .unset, .unset, .unset, .unset, .unset] [(.int (1 : Int32))]
        refine w_if_eq ok d7_111 (pc' := 117) (by decide) (fun hc20 => False.elim (by revert hc20; decide)) (fun hc20 => ?_)
        refine w_iconst ok d7_114 (v := (0 : Int32)) rfl ?_
        refine w_istore ok d7_115 (L' := #[.val (.ref p), .val (.ref n), .val (.int (1 : Int32)), .val (.int (Int32.ofNat ns.length)), .val (.int (0 : Int32)), .val (.int (0 : Int32)), .unset, .unset, .unset, .unset, .unset, .unset, .unset]) rfl ?_
        refine w_iloadN ok d7_117 rfl ?_
        refine w_iconst ok d7_118 (v := (1 : Int32)) rfl ?_
        refine w_icmp_le ok d7_119 (pc' := 133) (by decide) (fun hc22 => ?_) (fun hc22 => False.elim (by revert hc22; decide))
        refine w_iloadN ok d7_133 rfl ?_
        refine w_iconst ok d7_134 (v := (2 : Int32)) rfl ?_
        refine w_icmp_le ok d7_135 (pc' := 149) (by decide) (fun hc24 => ?_) (fun hc24 => False.elim (by revert hc24; decide))
        refine w_iloadN ok d7_149 rfl ?_
        refine w_iconst ok d7_150 (v := (3 : Int32)) rfl ?_
        refine w_icmp_le ok d7_151 (pc' := 165) (by decide) (fun hc26 => ?_) (fun hc26 => False.elim (by revert hc26; decide))
        refine w_iload ok d7_165 rfl ?_
        refine w_istore ok d7_167 (L' := #[.val (.ref p), .val (.ref n), .val (.int (1 : Int32)), .val (.int (Int32.ofNat ns.length)), .val (.int (0 : Int32)), .val (.int (0 : Int32)), .val (.int (0 : Int32)), .unset, .unset, .unset, .unset, .unset, .unset]) rfl ?_
        refine w_iloadN ok d7_169 rfl ?_
        refine w_iconst ok d7_170 (v := (1 : Int32)) rfl ?_
        refine w_isub ok d7_171 ?_
        show W K l _ n0 _ h0 0 0 172 #[.val (.ref p), .val (.ref n), .val (.int (1 : Int32)), .val (.int (Int32.ofNat ns.length)), .val (.int (0 : Int32)), .val (.int (0 : Int32)), .val (.int (0 : Int32)), .unset, .unset, .unset, .unset, .unset, .unset] [(.int (0 : Int32))]
        refine w_iload ok d7_172 rfl ?_
        refine w_isub ok d7_174 ?_
        show W K l _ n0 _ h0 0 0 175 #[.val (.ref p), .val (.ref n), .val (.int (1 : Int32)), .val (.int (Int32.ofNat ns.length)), .val (.int (0 : Int32)), .val (.int (0 : Int32)), .val (.int (0 : Int32)), .unset, .unset, .unset, .unset, .unset, .unset] [(.int (0 : Int32))]
        refine w_istore ok d7_175 (L' := #[.val (.ref p), .val (.ref n), .val (.int (1 : Int32)), .val (.int (Int32.ofNat ns.length)), .val (.int (0 : Int32)), .val (.int (0 : Int32)), .val (.int (0 : Int32)), .val (.int (0 : Int32)), .unset, .unset, .unset, .unset, .unset]) rfl ?_
        refine w_iloadN ok d7_177 rfl ?_
        refine w_iload ok d7_178 rfl ?_
        refine w_iload ok d7_180 rfl ?_
        refine w_iadd ok d7_182 ?_
        show W K l _ n0 _ h0 0 0 183 #[.val (.ref p), .val (.ref n), .val (.int (1 : Int32)), .val (.int (Int32.ofNat ns.length)), .val (.int (0 : Int32)), .val (.int (0 : Int32)), .val (.int (0 : Int32)), .val (.int (0 : Int32)), .unset, .unset, .unset, .unset, .unset] [(.int (0 : Int32)), (.int (Int32.ofNat ns.length))]
        refine w_icmp_ge ok d7_183 (pc' := 188) (by decide) (fun hc28 => ?_) (fun hc28 => ?_)
        · skip
          have hge : 0 ≤ ns.length := by have q := hc28; rw [show (0 : Int32) = Int32.ofNat 0 from rfl, own_lt (by omega) (by omega)] at q; omega
          refine w_aloadN ok d7_188 rfl rfl ?_
          refine w_iconst ok d7_189 (v := (0 : Int32)) rfl ?_
          refine w_iload ok d7_190 rfl ?_
          refine w_aloadN ok d7_192 rfl rfl ?_
          refine w_iconst ok d7_193 (v := (0 : Int32)) rfl ?_
          refine w_callS ok (y := mn_9) (argsL := [(.ref p), (.int (0 : Int32)), (.int (0 : Int32)), (.ref n), (.int (0 : Int32))]) (rest := []) d7_194 (hw _ (List.mem_of_getElem? (i := 37) rfl)) (hw _ (List.mem_of_getElem? (i := 38) rfl)) (hw _ (List.mem_of_getElem? (i := 4) rfl)) (hw _ (List.mem_of_getElem? (i := 39) rfl)) (by decide) pd_285bBII5bBI29Z rfl rfl (by decide) (Nat.le_of_ble_eq_true rfl) (by decide) (by decide) (fun z0 => rm_seg l Z a0 hw [] n0 h0 z0 p n [x0] ns A_p A_n 0 0 0 _ rfl (Nat.le_of_ble_eq_true rfl) (by decide) (by omega) (Nat.le_of_ble_eq_true rfl) ln) (fun v29 h30 qv29 => ?_)
          obtain ⟨⟨rfl, sgp⟩ | ⟨rfl, sgp⟩, rfl⟩ := qv29
          · skip
            replace sgp : SGl [] ns 0 := sgp
            show W K l _ n0 _ h0 0 0 197 #[.val (.ref p), .val (.ref n), .val (.int (1 : Int32)), .val (.int (Int32.ofNat ns.length)), .val (.int (0 : Int32)), .val (.int (0 : Int32)), .val (.int (0 : Int32)), .val (.int (0 : Int32)), .unset, .unset, .unset, .unset, .unset] [(.int (1 : Int32))]
            refine w_if_ne ok d7_197 (pc' := 202) (by decide) (fun hc32 => ?_) (fun hc32 => False.elim (by revert hc32; decide))
            refine w_aloadN ok d7_202 rfl rfl ?_
            refine w_iload ok d7_203 rfl ?_
            refine w_iconst ok d7_205 (v := (1 : Int32)) rfl ?_
            refine w_iadd ok d7_206 ?_
            show W K l _ n0 _ h0 0 0 207 #[.val (.ref p), .val (.ref n), .val (.int (1 : Int32)), .val (.int (Int32.ofNat ns.length)), .val (.int (0 : Int32)), .val (.int (0 : Int32)), .val (.int (0 : Int32)), .val (.int (0 : Int32)), .unset, .unset, .unset, .unset, .unset] [(.int (1 : Int32)), (.ref p)]
            refine w_iload ok d7_207 rfl ?_
            refine w_aloadN ok d7_209 rfl rfl ?_
            refine w_iloadN ok d7_210 rfl ?_
            refine w_iload ok d7_211 rfl ?_
            refine w_isub ok d7_213 ?_
            refine w_callS ok (y := mn_9) (argsL := [(.ref p), (.int (1 : Int32)), (.int (0 : Int32)), (.ref n), (.int ((Int32.ofNat ns.length) - (0 : Int32)))]) (rest := []) d7_214 (hw _ (List.mem_of_getElem? (i := 37) rfl)) (hw _ (List.mem_of_getElem? (i := 38) rfl)) (hw _ (List.mem_of_getElem? (i := 4) rfl)) (hw _ (List.mem_of_getElem? (i := 39) rfl)) (by decide) pd_285bBII5bBI29Z rfl rfl (by decide) (Nat.le_of_ble_eq_true rfl) (by decide) (by decide) (fun z0 => rm_seg l Z a0 hw [] n0 h0 z0 p n [x0] ns A_p A_n 1 0 (ns.length - 0) _ (own_subk (k := 0) rfl (by omega) (by omega)) (Nat.le_of_ble_eq_true rfl) (by decide) (by omega) (Nat.le_of_ble_eq_true rfl) ln) (fun v33 h34 qv33 => ?_)
            obtain ⟨⟨rfl, sgs⟩ | ⟨rfl, sgs⟩, rfl⟩ := qv33
            · skip
              replace sgs : SGl [] ns (ns.length - 0) := sgs
              show W K l _ n0 _ h0 0 0 217 #[.val (.ref p), .val (.ref n), .val (.int (1 : Int32)), .val (.int (Int32.ofNat ns.length)), .val (.int (0 : Int32)), .val (.int (0 : Int32)), .val (.int (0 : Int32)), .val (.int (0 : Int32)), .unset, .unset, .unset, .unset, .unset] [(.int (1 : Int32))]
              refine w_if_ne ok d7_217 (pc' := 222) (by decide) (fun hc36 => ?_) (fun hc36 => False.elim (by revert hc36; decide))
              refine w_iload ok d7_222 rfl ?_
              refine w_iload ok d7_224 rfl ?_
              refine w_isub ok d7_226 ?_
              show W K l _ n0 _ h0 0 0 227 #[.val (.ref p), .val (.ref n), .val (.int (1 : Int32)), .val (.int (Int32.ofNat ns.length)), .val (.int (0 : Int32)), .val (.int (0 : Int32)), .val (.int (0 : Int32)), .val (.int (0 : Int32)), .unset, .unset, .unset, .unset, .unset] [(.int (0 : Int32))]
              refine w_iconst ok d7_227 (v := (1 : Int32)) rfl ?_
              refine w_isub ok d7_228 ?_
              show W K l _ n0 _ h0 0 0 229 #[.val (.ref p), .val (.ref n), .val (.int (1 : Int32)), .val (.int (Int32.ofNat ns.length)), .val (.int (0 : Int32)), .val (.int (0 : Int32)), .val (.int (0 : Int32)), .val (.int (0 : Int32)), .unset, .unset, .unset, .unset, .unset] [(.int (-1 : Int32))]
              refine w_istore ok d7_229 (L' := #[.val (.ref p), .val (.ref n), .val (.int (1 : Int32)), .val (.int (Int32.ofNat ns.length)), .val (.int (0 : Int32)), .val (.int (0 : Int32)), .val (.int (0 : Int32)), .val (.int (0 : Int32)), .val (.int (-1 : Int32)), .unset, .unset, .unset, .unset]) rfl ?_
              refine w_iload ok d7_231 rfl ?_
              refine w_iconst ok d7_233 (v := (1 : Int32)) rfl ?_
              refine w_iadd ok d7_234 ?_
              show W K l _ n0 _ h0 0 0 235 #[.val (.ref p), .val (.ref n), .val (.int (1 : Int32)), .val (.int (Int32.ofNat ns.length)), .val (.int (0 : Int32)), .val (.int (0 : Int32)), .val (.int (0 : Int32)), .val (.int (0 : Int32)), .val (.int (-1 : Int32)), .unset, .unset, .unset, .unset] [(.int (1 : Int32))]
              refine w_istore ok d7_235 (L' := #[.val (.ref p), .val (.ref n), .val (.int (1 : Int32)), .val (.int (Int32.ofNat ns.length)), .val (.int (0 : Int32)), .val (.int (0 : Int32)), .val (.int (0 : Int32)), .val (.int (0 : Int32)), .val (.int (-1 : Int32)), .val (.int (1 : Int32)), .unset, .unset, .unset]) rfl ?_
              refine w_iconst ok d7_237 (v := (0 : Int32)) rfl ?_
              refine w_istore ok d7_238 (L' := #[.val (.ref p), .val (.ref n), .val (.int (1 : Int32)), .val (.int (Int32.ofNat ns.length)), .val (.int (0 : Int32)), .val (.int (0 : Int32)), .val (.int (0 : Int32)), .val (.int (0 : Int32)), .val (.int (-1 : Int32)), .val (.int (1 : Int32)), .val (.int (0 : Int32)), .unset, .unset]) rfl ?_
              refine w_iload ok d7_240 rfl ?_
              refine w_iconst ok d7_242 (v := (1 : Int32)) rfl ?_
              refine w_icmp_ne ok d7_243 (pc' := 263) (by decide) (fun hc38 => ?_) (fun hc38 => False.elim (by revert hc38; decide))
              refine w_iload ok d7_263 rfl ?_
              refine w_iconst ok d7_265 (v := (2 : Int32)) rfl ?_
              refine w_icmp_ne ok d7_266 (pc' := 340) (by decide) (fun hc40 => ?_) (fun hc40 => False.elim (by revert hc40; decide))
              refine w_iload ok d7_340 rfl ?_
              refine w_if_ne ok d7_342 (pc' := 347) (by decide) (fun hc42 => False.elim (by revert hc42; decide)) (fun hc42 => ?_)
              refine w_iconst ok d7_345 (v := (1 : Int32)) rfl ?_
              refine w_bret ok (by simp) d7_346 (by decide) (by decide) ?_
              subst s0
              have key : Gi ns [42] 0 ↔ _ := own_one (ns := ns) (P := []) (Q := []) NoS_nil NoS_nil
              exact ⟨Or.inl ⟨rfl, key.mpr ⟨hge, sgp, sgs⟩⟩, rfl⟩
            · skip
              replace sgs : ¬ (SGl [] ns (ns.length - 0)) := sgs
              show W K l _ n0 _ h0 0 0 217 #[.val (.ref p), .val (.ref n), .val (.int (1 : Int32)), .val (.int (Int32.ofNat ns.length)), .val (.int (0 : Int32)), .val (.int (0 : Int32)), .val (.int (0 : Int32)), .val (.int (0 : Int32)), .unset, .unset, .unset, .unset, .unset] [(.int (0 : Int32))]
              refine w_if_ne ok d7_217 (pc' := 222) (by decide) (fun hc44 => False.elim (by revert hc44; decide)) (fun hc44 => ?_)
              refine w_iconst ok d7_220 (v := (0 : Int32)) rfl ?_
              refine w_bret ok (by simp) d7_221 (by decide) (by decide) ?_
              subst s0
              have key : Gi ns [42] 0 ↔ _ := own_one (ns := ns) (P := []) (Q := []) NoS_nil NoS_nil
              exact ⟨Or.inr ⟨rfl, fun q => sgs (key.mp q).2.2⟩, rfl⟩
          · skip
            replace sgp : ¬ (SGl [] ns 0) := sgp
            show W K l _ n0 _ h0 0 0 197 #[.val (.ref p), .val (.ref n), .val (.int (1 : Int32)), .val (.int (Int32.ofNat ns.length)), .val (.int (0 : Int32)), .val (.int (0 : Int32)), .val (.int (0 : Int32)), .val (.int (0 : Int32)), .unset, .unset, .unset, .unset, .unset] [(.int (0 : Int32))]
            refine w_if_ne ok d7_197 (pc' := 202) (by decide) (fun hc46 => False.elim (by revert hc46; decide)) (fun hc46 => ?_)
            refine w_iconst ok d7_200 (v := (0 : Int32)) rfl ?_
            refine w_bret ok (by simp) d7_201 (by decide) (by decide) ?_
            subst s0
            have key : Gi ns [42] 0 ↔ _ := own_one (ns := ns) (P := []) (Q := []) NoS_nil NoS_nil
            exact ⟨Or.inr ⟨rfl, fun q => sgp (key.mp q).2.1⟩, rfl⟩
        · skip
          refine w_iconst ok d7_186 (v := (0 : Int32)) rfl ?_
          refine w_bret ok (by simp) d7_187 (by decide) (by decide) ?_
          subst s0
          have key : Gi ns [42] 0 ↔ _ := own_one (ns := ns) (P := []) (Q := []) NoS_nil NoS_nil
          refine ⟨Or.inr ⟨rfl, fun q => ?_⟩, rfl⟩
          have q1 : 0 + 0 ≤ ns.length := (key.mp q).1
          have q2 := hc28; rw [show (0 : Int32) = Int32.ofNat 0 from rfl, own_lt (by omega) (by omega)] at q2; omega
      · exact absurd s0 t18
    · skip
      replace s0 : ¬ (x0 = 42) := s0
      show W K l _ n0 _ h0 0 0 66 #[.val (.ref p), .val (.ref n), .val (.int (1 : Int32)), .val (.int (Int32.ofNat ns.length)), .val (.int (-1 : Int32)), .unset, .unset, .unset, .unset, .unset, .unset, .unset, .unset] [(.int (0 : Int32))]
      refine w_if_eq ok d7_66 (pc' := 72) (by decide) (fun hc48 => ?_) (fun hc48 => False.elim (by revert hc48; decide))
      refine w_iload ok d7_72 rfl ?_
      refine w_if_ge ok d7_74 (pc' := 99) (by decide) (fun hc50 => False.elim (by revert hc50; decide)) (fun hc50 => ?_)
      refine w_iloadN ok d7_77 rfl ?_
      refine w_iloadN ok d7_78 rfl ?_
      refine w_icmp_ne ok d7_79 (pc' := 97) (by decide) (fun hc52 => ?_) (fun hc52 => ?_)
      · skip
        refine w_iconst ok d7_97 (v := (0 : Int32)) rfl ?_
        refine w_bret ok (by simp) d7_98 (by decide) (by decide) ?_
        refine ⟨Or.inr ⟨rfl, fun q => ?_⟩, rfl⟩
        have q1 := ((Gi_all (NoS_cons s0 NoS_nil)).mp q).1
        exact hc52 (show Int32.ofNat ns.length = Int32.ofNat 1 by rw [← q1]; rfl)
      · skip
        refine w_aloadN ok d7_82 rfl rfl ?_
        refine w_iconst ok d7_83 (v := (0 : Int32)) rfl ?_
        refine w_iloadN ok d7_84 rfl ?_
        refine w_aloadN ok d7_85 rfl rfl ?_
        refine w_iconst ok d7_86 (v := (0 : Int32)) rfl ?_
        refine w_callS ok (y := mn_9) (argsL := [(.ref p), (.int (0 : Int32)), (.int (1 : Int32)), (.ref n), (.int (0 : Int32))]) (rest := []) d7_87 (hw _ (List.mem_of_getElem? (i := 37) rfl)) (hw _ (List.mem_of_getElem? (i := 38) rfl)) (hw _ (List.mem_of_getElem? (i := 4) rfl)) (hw _ (List.mem_of_getElem? (i := 39) rfl)) (by decide) pd_285bBII5bBI29Z rfl rfl (by decide) (Nat.le_of_ble_eq_true rfl) (by decide) (by decide) (fun z0 => rm_seg l Z a0 hw [] n0 h0 z0 p n [x0] ns A_p A_n 0 1 0 _ rfl (Nat.le_of_ble_eq_true rfl) (by decide) (by omega) (Nat.le_of_ble_eq_true rfl) ln) (fun v53 h54 qv53 => ?_)
        obtain ⟨⟨rfl, sga⟩ | ⟨rfl, sga⟩, rfl⟩ := qv53
        · skip
          replace sga : SGl [x0] ns 0 := sga
          show W K l _ n0 _ h0 0 0 90 #[.val (.ref p), .val (.ref n), .val (.int (1 : Int32)), .val (.int (Int32.ofNat ns.length)), .val (.int (-1 : Int32)), .unset, .unset, .unset, .unset, .unset, .unset, .unset, .unset] [(.int (1 : Int32))]
          refine w_if_eq ok d7_90 (pc' := 97) (by decide) (fun hc56 => False.elim (by revert hc56; decide)) (fun hc56 => ?_)
          refine w_iconst ok d7_93 (v := (1 : Int32)) rfl ?_
          refine w_goto ok d7_94 (pc' := 98) (by decide) ?_
          refine w_bret ok (by simp) d7_98 (by decide) (by decide) ?_
          have hl : ns.length = 1 := (own_eqn (by omega) (by decide)).mp (show Int32.ofNat ns.length = Int32.ofNat 1 from hc52)
          exact ⟨Or.inl ⟨rfl, (Gi_all (NoS_cons s0 NoS_nil)).mpr ⟨by rw [hl]; rfl, sga⟩⟩, rfl⟩
        · skip
          replace sga : ¬ (SGl [x0] ns 0) := sga
          show W K l _ n0 _ h0 0 0 90 #[.val (.ref p), .val (.ref n), .val (.int (1 : Int32)), .val (.int (Int32.ofNat ns.length)), .val (.int (-1 : Int32)), .unset, .unset, .unset, .unset, .unset, .unset, .unset, .unset] [(.int (0 : Int32))]
          refine w_if_eq ok d7_90 (pc' := 97) (by decide) (fun hc58 => ?_) (fun hc58 => False.elim (by revert hc58; decide))
          refine w_iconst ok d7_97 (v := (0 : Int32)) rfl ?_
          refine w_bret ok (by simp) d7_98 (by decide) (by decide) ?_
          exact ⟨Or.inr ⟨rfl, fun q => sga ((Gi_all (NoS_cons s0 NoS_nil)).mp q).2⟩, rfl⟩
  · skip
    show W K l _ n0 _ h0 0 0 0 #[.val (.ref p), .val (.ref n), .unset, .unset, .unset, .unset, .unset, .unset, .unset, .unset, .unset, .unset, .unset] []
    refine w_aloadN ok d7_0 rfl rfl ?_
    refine w_arraylength ok (z := (2 : Int32)) d7_1 A_p rfl (by decide) ?_
    show W K l _ n0 _ h0 0 0 2 #[.val (.ref p), .val (.ref n), .unset, .unset, .unset, .unset, .unset, .unset, .unset, .unset, .unset, .unset, .unset] [(.int (2 : Int32))]
    refine w_istoreN ok d7_2 (L' := #[.val (.ref p), .val (.ref n), .val (.int (2 : Int32)), .unset, .unset, .unset, .unset, .unset, .unset, .unset, .unset, .unset, .unset]) rfl ?_
    refine w_aloadN ok d7_3 rfl rfl ?_
    refine w_arraylength ok (z := Int32.ofNat ns.length) d7_4 A_n (own_len (by omega)) (own_ix0 (by omega)) ?_
    show W K l _ n0 _ h0 0 0 5 #[.val (.ref p), .val (.ref n), .val (.int (2 : Int32)), .unset, .unset, .unset, .unset, .unset, .unset, .unset, .unset, .unset, .unset] [(.int (Int32.ofNat ns.length))]
    refine w_istoreN ok d7_5 (L' := #[.val (.ref p), .val (.ref n), .val (.int (2 : Int32)), .val (.int (Int32.ofNat ns.length)), .unset, .unset, .unset, .unset, .unset, .unset, .unset, .unset, .unset]) rfl ?_
    refine w_iconst ok d7_6 (v := (-1 : Int32)) rfl ?_
    refine w_istore ok d7_7 (L' := #[.val (.ref p), .val (.ref n), .val (.int (2 : Int32)), .val (.int (Int32.ofNat ns.length)), .val (.int (-1 : Int32)), .unset, .unset, .unset, .unset, .unset, .unset, .unset, .unset]) rfl ?_
    refine w_iloadN ok d7_9 rfl ?_
    refine w_iconst ok d7_10 (v := (3 : Int32)) rfl ?_
    refine w_icmp_le ok d7_11 (pc' := 25) (by decide) (fun hc1 => ?_) (fun hc1 => False.elim (by revert hc1; decide))
    refine w_iloadN ok d7_25 rfl ?_
    refine w_iconst ok d7_26 (v := (2 : Int32)) rfl ?_
    refine w_icmp_le ok d7_27 (pc' := 41) (by decide) (fun hc3 => ?_) (fun hc3 => False.elim (by revert hc3; decide))
    refine w_iloadN ok d7_41 rfl ?_
    refine w_iconst ok d7_42 (v := (1 : Int32)) rfl ?_
    refine w_icmp_le ok d7_43 (pc' := 57) (by decide) (fun hc5 => False.elim (by revert hc5; decide)) (fun hc5 => ?_)
    refine w_aloadN ok d7_46 rfl rfl ?_
    refine w_iconst ok d7_47 (v := (1 : Int32)) rfl ?_
    refine w_callS ok (y := mn_8) (argsL := [(.ref p), (.int (1 : Int32))]) (rest := []) d7_48 (hw _ (List.mem_of_getElem? (i := 34) rfl)) (hw _ (List.mem_of_getElem? (i := 35) rfl)) (hw _ (List.mem_of_getElem? (i := 4) rfl)) (hw _ (List.mem_of_getElem? (i := 36) rfl)) (by decide) pd_285bBI29Z rfl rfl (by decide) (Nat.le_of_ble_eq_true rfl) (by decide) (by decide) (fun z0 => rm_star l Z a0 hw [] n0 h0 z0 p [x0, x1] A_p 1 (Nat.le_of_ble_eq_true rfl) (Nat.le_of_ble_eq_true rfl)) (fun v6 h7 qv6 => ?_)
    obtain ⟨⟨rfl, s1⟩ | ⟨rfl, s1⟩, rfl⟩ := qv6
    · skip
      replace s1 : x1 = 42 := s1
      show W K l _ n0 _ h0 0 0 51 #[.val (.ref p), .val (.ref n), .val (.int (2 : Int32)), .val (.int (Int32.ofNat ns.length)), .val (.int (-1 : Int32)), .unset, .unset, .unset, .unset, .unset, .unset, .unset, .unset] [(.int (1 : Int32))]
      refine w_if_eq ok d7_51 (pc' := 57) (by decide) (fun hc9 => False.elim (by revert hc9; decide)) (fun hc9 => ?_)
      refine w_iconst ok d7_54 (v := (1 : Int32)) rfl ?_
      refine w_istore ok d7_55 (L' := #[.val (.ref p), .val (.ref n), .val (.int (2 : Int32)), .val (.int (Int32.ofNat ns.length)), .val (.int (1 : Int32)), .unset, .unset, .unset, .unset, .unset, .unset, .unset, .unset]) rfl ?_
      refine w_iloadN ok d7_57 rfl ?_
      refine w_if_le ok d7_58 (pc' := 72) (by decide) (fun hc11 => False.elim (by revert hc11; decide)) (fun hc11 => ?_)
      refine w_aloadN ok d7_61 rfl rfl ?_
      refine w_iconst ok d7_62 (v := (0 : Int32)) rfl ?_
      refine w_callS ok (y := mn_8) (argsL := [(.ref p), (.int (0 : Int32))]) (rest := []) d7_63 (hw _ (List.mem_of_getElem? (i := 34) rfl)) (hw _ (List.mem_of_getElem? (i := 35) rfl)) (hw _ (List.mem_of_getElem? (i := 4) rfl)) (hw _ (List.mem_of_getElem? (i := 36) rfl)) (by decide) pd_285bBI29Z rfl rfl (by decide) (Nat.le_of_ble_eq_true rfl) (by decide) (by decide) (fun z0 => rm_star l Z a0 hw [] n0 h0 z0 p [x0, x1] A_p 0 (Nat.le_of_ble_eq_true rfl) (Nat.le_of_ble_eq_true rfl)) (fun v12 h13 qv12 => ?_)
      obtain ⟨⟨rfl, s0⟩ | ⟨rfl, s0⟩, rfl⟩ := qv12
      · skip
        replace s0 : x0 = 42 := s0
        show W K l _ n0 _ h0 0 0 66 #[.val (.ref p), .val (.ref n), .val (.int (2 : Int32)), .val (.int (Int32.ofNat ns.length)), .val (.int (1 : Int32)), .unset, .unset, .unset, .unset, .unset, .unset, .unset, .unset] [(.int (1 : Int32))]
        refine w_if_eq ok d7_66 (pc' := 72) (by decide) (fun hc15 => False.elim (by revert hc15; decide)) (fun hc15 => ?_)
        refine w_iconst ok d7_69 (v := (0 : Int32)) rfl ?_
        refine w_istore ok d7_70 (L' := #[.val (.ref p), .val (.ref n), .val (.int (2 : Int32)), .val (.int (Int32.ofNat ns.length)), .val (.int (0 : Int32)), .unset, .unset, .unset, .unset, .unset, .unset, .unset, .unset]) rfl ?_
        refine w_iload ok d7_72 rfl ?_
        refine w_if_ge ok d7_74 (pc' := 99) (by decide) (fun hc17 => ?_) (fun hc17 => False.elim (by revert hc17; decide))
        refine w_iconst ok d7_99 (v := (-1 : Int32)) rfl ?_
        refine w_istore ok d7_100 (L' := #[.val (.ref p), .val (.ref n), .val (.int (2 : Int32)), .val (.int (Int32.ofNat ns.length)), .val (.int (0 : Int32)), .val (.int (-1 : Int32)), .unset, .unset, .unset, .unset, .unset, .unset, .unset]) rfl ?_
        refine w_iloadN ok d7_102 rfl ?_
        refine w_if_le ok d7_103 (pc' := 117) (by decide) (fun hc19 => False.elim (by revert hc19; decide)) (fun hc19 => ?_)
        refine w_aloadN ok d7_106 rfl rfl ?_
        refine w_iconst ok d7_107 (v := (0 : Int32)) rfl ?_
        refine w_callS ok (y := mn_8) (argsL := [(.ref p), (.int (0 : Int32))]) (rest := []) d7_108 (hw _ (List.mem_of_getElem? (i := 34) rfl)) (hw _ (List.mem_of_getElem? (i := 35) rfl)) (hw _ (List.mem_of_getElem? (i := 4) rfl)) (hw _ (List.mem_of_getElem? (i := 36) rfl)) (by decide) pd_285bBI29Z rfl rfl (by decide) (Nat.le_of_ble_eq_true rfl) (by decide) (by decide) (fun z0 => rm_star l Z a0 hw [] n0 h0 z0 p [x0, x1] A_p 0 (Nat.le_of_ble_eq_true rfl) (Nat.le_of_ble_eq_true rfl)) (fun v20 h21 qv20 => ?_)
        obtain ⟨⟨rfl, t22⟩ | ⟨rfl, t22⟩, rfl⟩ := qv20
        · skip
          replace t22 : x0 = 42 := t22
          show W K l _ n0 _ h0 0 0 111 #[.val (.ref p), .val (.ref n), .val (.int (2 : Int32)), .val (.int (Int32.ofNat ns.length)), .val (.int (0 : Int32)), .val (.int (-1 : Int32)), .unset, .unset, .unset, .unset, .unset, .unset, .unset] [(.int (1 : Int32))]
          refine w_if_eq ok d7_111 (pc' := 117) (by decide) (fun hc24 => False.elim (by revert hc24; decide)) (fun hc24 => ?_)
          refine w_iconst ok d7_114 (v := (0 : Int32)) rfl ?_
          refine w_istore ok d7_115 (L' := #[.val (.ref p), .val (.ref n), .val (.int (2 : Int32)), .val (.int (Int32.ofNat ns.length)), .val (.int (0 : Int32)), .val (.int (0 : Int32)), .unset, .unset, .unset, .unset, .unset, .unset, .unset]) rfl ?_
          refine w_iloadN ok d7_117 rfl ?_
          refine w_iconst ok d7_118 (v := (1 : Int32)) rfl ?_
          refine w_icmp_le ok d7_119 (pc' := 133) (by decide) (fun hc26 => False.elim (by revert hc26; decide)) (fun hc26 => ?_)
          refine w_aloadN ok d7_122 rfl rfl ?_
          refine w_iconst ok d7_123 (v := (1 : Int32)) rfl ?_
          refine w_callS ok (y := mn_8) (argsL := [(.ref p), (.int (1 : Int32))]) (rest := []) d7_124 (hw _ (List.mem_of_getElem? (i := 34) rfl)) (hw _ (List.mem_of_getElem? (i := 35) rfl)) (hw _ (List.mem_of_getElem? (i := 4) rfl)) (hw _ (List.mem_of_getElem? (i := 36) rfl)) (by decide) pd_285bBI29Z rfl rfl (by decide) (Nat.le_of_ble_eq_true rfl) (by decide) (by decide) (fun z0 => rm_star l Z a0 hw [] n0 h0 z0 p [x0, x1] A_p 1 (Nat.le_of_ble_eq_true rfl) (Nat.le_of_ble_eq_true rfl)) (fun v27 h28 qv27 => ?_)
          obtain ⟨⟨rfl, t29⟩ | ⟨rfl, t29⟩, rfl⟩ := qv27
          · skip
            replace t29 : x1 = 42 := t29
            show W K l _ n0 _ h0 0 0 127 #[.val (.ref p), .val (.ref n), .val (.int (2 : Int32)), .val (.int (Int32.ofNat ns.length)), .val (.int (0 : Int32)), .val (.int (0 : Int32)), .unset, .unset, .unset, .unset, .unset, .unset, .unset] [(.int (1 : Int32))]
            refine w_if_eq ok d7_127 (pc' := 133) (by decide) (fun hc31 => False.elim (by revert hc31; decide)) (fun hc31 => ?_)
            refine w_iconst ok d7_130 (v := (1 : Int32)) rfl ?_
            refine w_istore ok d7_131 (L' := #[.val (.ref p), .val (.ref n), .val (.int (2 : Int32)), .val (.int (Int32.ofNat ns.length)), .val (.int (0 : Int32)), .val (.int (1 : Int32)), .unset, .unset, .unset, .unset, .unset, .unset, .unset]) rfl ?_
            refine w_iloadN ok d7_133 rfl ?_
            refine w_iconst ok d7_134 (v := (2 : Int32)) rfl ?_
            refine w_icmp_le ok d7_135 (pc' := 149) (by decide) (fun hc33 => ?_) (fun hc33 => False.elim (by revert hc33; decide))
            refine w_iloadN ok d7_149 rfl ?_
            refine w_iconst ok d7_150 (v := (3 : Int32)) rfl ?_
            refine w_icmp_le ok d7_151 (pc' := 165) (by decide) (fun hc35 => ?_) (fun hc35 => False.elim (by revert hc35; decide))
            refine w_iload ok d7_165 rfl ?_
            refine w_istore ok d7_167 (L' := #[.val (.ref p), .val (.ref n), .val (.int (2 : Int32)), .val (.int (Int32.ofNat ns.length)), .val (.int (0 : Int32)), .val (.int (1 : Int32)), .val (.int (0 : Int32)), .unset, .unset, .unset, .unset, .unset, .unset]) rfl ?_
            refine w_iloadN ok d7_169 rfl ?_
            refine w_iconst ok d7_170 (v := (1 : Int32)) rfl ?_
            refine w_isub ok d7_171 ?_
            show W K l _ n0 _ h0 0 0 172 #[.val (.ref p), .val (.ref n), .val (.int (2 : Int32)), .val (.int (Int32.ofNat ns.length)), .val (.int (0 : Int32)), .val (.int (1 : Int32)), .val (.int (0 : Int32)), .unset, .unset, .unset, .unset, .unset, .unset] [(.int (1 : Int32))]
            refine w_iload ok d7_172 rfl ?_
            refine w_isub ok d7_174 ?_
            show W K l _ n0 _ h0 0 0 175 #[.val (.ref p), .val (.ref n), .val (.int (2 : Int32)), .val (.int (Int32.ofNat ns.length)), .val (.int (0 : Int32)), .val (.int (1 : Int32)), .val (.int (0 : Int32)), .unset, .unset, .unset, .unset, .unset, .unset] [(.int (0 : Int32))]
            refine w_istore ok d7_175 (L' := #[.val (.ref p), .val (.ref n), .val (.int (2 : Int32)), .val (.int (Int32.ofNat ns.length)), .val (.int (0 : Int32)), .val (.int (1 : Int32)), .val (.int (0 : Int32)), .val (.int (0 : Int32)), .unset, .unset, .unset, .unset, .unset]) rfl ?_
            refine w_iloadN ok d7_177 rfl ?_
            refine w_iload ok d7_178 rfl ?_
            refine w_iload ok d7_180 rfl ?_
            refine w_iadd ok d7_182 ?_
            show W K l _ n0 _ h0 0 0 183 #[.val (.ref p), .val (.ref n), .val (.int (2 : Int32)), .val (.int (Int32.ofNat ns.length)), .val (.int (0 : Int32)), .val (.int (1 : Int32)), .val (.int (0 : Int32)), .val (.int (0 : Int32)), .unset, .unset, .unset, .unset, .unset] [(.int (0 : Int32)), (.int (Int32.ofNat ns.length))]
            refine w_icmp_ge ok d7_183 (pc' := 188) (by decide) (fun hc37 => ?_) (fun hc37 => ?_)
            · skip
              have hge : 0 ≤ ns.length := by have q := hc37; rw [show (0 : Int32) = Int32.ofNat 0 from rfl, own_lt (by omega) (by omega)] at q; omega
              refine w_aloadN ok d7_188 rfl rfl ?_
              refine w_iconst ok d7_189 (v := (0 : Int32)) rfl ?_
              refine w_iload ok d7_190 rfl ?_
              refine w_aloadN ok d7_192 rfl rfl ?_
              refine w_iconst ok d7_193 (v := (0 : Int32)) rfl ?_
              refine w_callS ok (y := mn_9) (argsL := [(.ref p), (.int (0 : Int32)), (.int (0 : Int32)), (.ref n), (.int (0 : Int32))]) (rest := []) d7_194 (hw _ (List.mem_of_getElem? (i := 37) rfl)) (hw _ (List.mem_of_getElem? (i := 38) rfl)) (hw _ (List.mem_of_getElem? (i := 4) rfl)) (hw _ (List.mem_of_getElem? (i := 39) rfl)) (by decide) pd_285bBII5bBI29Z rfl rfl (by decide) (Nat.le_of_ble_eq_true rfl) (by decide) (by decide) (fun z0 => rm_seg l Z a0 hw [] n0 h0 z0 p n [x0, x1] ns A_p A_n 0 0 0 _ rfl (Nat.le_of_ble_eq_true rfl) (by decide) (by omega) (Nat.le_of_ble_eq_true rfl) ln) (fun v38 h39 qv38 => ?_)
              obtain ⟨⟨rfl, sgp⟩ | ⟨rfl, sgp⟩, rfl⟩ := qv38
              · skip
                replace sgp : SGl [] ns 0 := sgp
                show W K l _ n0 _ h0 0 0 197 #[.val (.ref p), .val (.ref n), .val (.int (2 : Int32)), .val (.int (Int32.ofNat ns.length)), .val (.int (0 : Int32)), .val (.int (1 : Int32)), .val (.int (0 : Int32)), .val (.int (0 : Int32)), .unset, .unset, .unset, .unset, .unset] [(.int (1 : Int32))]
                refine w_if_ne ok d7_197 (pc' := 202) (by decide) (fun hc41 => ?_) (fun hc41 => False.elim (by revert hc41; decide))
                refine w_aloadN ok d7_202 rfl rfl ?_
                refine w_iload ok d7_203 rfl ?_
                refine w_iconst ok d7_205 (v := (1 : Int32)) rfl ?_
                refine w_iadd ok d7_206 ?_
                show W K l _ n0 _ h0 0 0 207 #[.val (.ref p), .val (.ref n), .val (.int (2 : Int32)), .val (.int (Int32.ofNat ns.length)), .val (.int (0 : Int32)), .val (.int (1 : Int32)), .val (.int (0 : Int32)), .val (.int (0 : Int32)), .unset, .unset, .unset, .unset, .unset] [(.int (2 : Int32)), (.ref p)]
                refine w_iload ok d7_207 rfl ?_
                refine w_aloadN ok d7_209 rfl rfl ?_
                refine w_iloadN ok d7_210 rfl ?_
                refine w_iload ok d7_211 rfl ?_
                refine w_isub ok d7_213 ?_
                refine w_callS ok (y := mn_9) (argsL := [(.ref p), (.int (2 : Int32)), (.int (0 : Int32)), (.ref n), (.int ((Int32.ofNat ns.length) - (0 : Int32)))]) (rest := []) d7_214 (hw _ (List.mem_of_getElem? (i := 37) rfl)) (hw _ (List.mem_of_getElem? (i := 38) rfl)) (hw _ (List.mem_of_getElem? (i := 4) rfl)) (hw _ (List.mem_of_getElem? (i := 39) rfl)) (by decide) pd_285bBII5bBI29Z rfl rfl (by decide) (Nat.le_of_ble_eq_true rfl) (by decide) (by decide) (fun z0 => rm_seg l Z a0 hw [] n0 h0 z0 p n [x0, x1] ns A_p A_n 2 0 (ns.length - 0) _ (own_subk (k := 0) rfl (by omega) (by omega)) (Nat.le_of_ble_eq_true rfl) (by decide) (by omega) (Nat.le_of_ble_eq_true rfl) ln) (fun v42 h43 qv42 => ?_)
                obtain ⟨⟨rfl, sgs⟩ | ⟨rfl, sgs⟩, rfl⟩ := qv42
                · skip
                  replace sgs : SGl [] ns (ns.length - 0) := sgs
                  show W K l _ n0 _ h0 0 0 217 #[.val (.ref p), .val (.ref n), .val (.int (2 : Int32)), .val (.int (Int32.ofNat ns.length)), .val (.int (0 : Int32)), .val (.int (1 : Int32)), .val (.int (0 : Int32)), .val (.int (0 : Int32)), .unset, .unset, .unset, .unset, .unset] [(.int (1 : Int32))]
                  refine w_if_ne ok d7_217 (pc' := 222) (by decide) (fun hc45 => ?_) (fun hc45 => False.elim (by revert hc45; decide))
                  refine w_iload ok d7_222 rfl ?_
                  refine w_iload ok d7_224 rfl ?_
                  refine w_isub ok d7_226 ?_
                  show W K l _ n0 _ h0 0 0 227 #[.val (.ref p), .val (.ref n), .val (.int (2 : Int32)), .val (.int (Int32.ofNat ns.length)), .val (.int (0 : Int32)), .val (.int (1 : Int32)), .val (.int (0 : Int32)), .val (.int (0 : Int32)), .unset, .unset, .unset, .unset, .unset] [(.int (1 : Int32))]
                  refine w_iconst ok d7_227 (v := (1 : Int32)) rfl ?_
                  refine w_isub ok d7_228 ?_
                  show W K l _ n0 _ h0 0 0 229 #[.val (.ref p), .val (.ref n), .val (.int (2 : Int32)), .val (.int (Int32.ofNat ns.length)), .val (.int (0 : Int32)), .val (.int (1 : Int32)), .val (.int (0 : Int32)), .val (.int (0 : Int32)), .unset, .unset, .unset, .unset, .unset] [(.int (0 : Int32))]
                  refine w_istore ok d7_229 (L' := #[.val (.ref p), .val (.ref n), .val (.int (2 : Int32)), .val (.int (Int32.ofNat ns.length)), .val (.int (0 : Int32)), .val (.int (1 : Int32)), .val (.int (0 : Int32)), .val (.int (0 : Int32)), .val (.int (0 : Int32)), .unset, .unset, .unset, .unset]) rfl ?_
                  refine w_iload ok d7_231 rfl ?_
                  refine w_iconst ok d7_233 (v := (1 : Int32)) rfl ?_
                  refine w_iadd ok d7_234 ?_
                  show W K l _ n0 _ h0 0 0 235 #[.val (.ref p), .val (.ref n), .val (.int (2 : Int32)), .val (.int (Int32.ofNat ns.length)), .val (.int (0 : Int32)), .val (.int (1 : Int32)), .val (.int (0 : Int32)), .val (.int (0 : Int32)), .val (.int (0 : Int32)), .unset, .unset, .unset, .unset] [(.int (1 : Int32))]
                  refine w_istore ok d7_235 (L' := #[.val (.ref p), .val (.ref n), .val (.int (2 : Int32)), .val (.int (Int32.ofNat ns.length)), .val (.int (0 : Int32)), .val (.int (1 : Int32)), .val (.int (0 : Int32)), .val (.int (0 : Int32)), .val (.int (0 : Int32)), .val (.int (1 : Int32)), .unset, .unset, .unset]) rfl ?_
                  refine w_iconst ok d7_237 (v := (0 : Int32)) rfl ?_
                  refine w_istore ok d7_238 (L' := #[.val (.ref p), .val (.ref n), .val (.int (2 : Int32)), .val (.int (Int32.ofNat ns.length)), .val (.int (0 : Int32)), .val (.int (1 : Int32)), .val (.int (0 : Int32)), .val (.int (0 : Int32)), .val (.int (0 : Int32)), .val (.int (1 : Int32)), .val (.int (0 : Int32)), .unset, .unset]) rfl ?_
                  refine w_iload ok d7_240 rfl ?_
                  refine w_iconst ok d7_242 (v := (1 : Int32)) rfl ?_
                  refine w_icmp_ne ok d7_243 (pc' := 263) (by decide) (fun hc47 => ?_) (fun hc47 => False.elim (by revert hc47; decide))
                  refine w_iload ok d7_263 rfl ?_
                  refine w_iconst ok d7_265 (v := (2 : Int32)) rfl ?_
                  refine w_icmp_ne ok d7_266 (pc' := 340) (by decide) (fun hc49 => ?_) (fun hc49 => False.elim (by revert hc49; decide))
                  refine w_iload ok d7_340 rfl ?_
                  refine w_if_ne ok d7_342 (pc' := 347) (by decide) (fun hc51 => False.elim (by revert hc51; decide)) (fun hc51 => ?_)
                  refine w_iconst ok d7_345 (v := (1 : Int32)) rfl ?_
                  refine w_bret ok (by simp) d7_346 (by decide) (by decide) ?_
                  subst s0 s1
                  have key : Gi ns [42, 42] 0 ↔ _ := (own_two (ns := ns) (P := []) (R := []) (Q := []) NoS_nil NoS_nil NoS_nil)
                  exact ⟨Or.inl ⟨rfl, key.mpr ⟨hge, sgp, sgs, 0, Nat.le_refl _, (show 0 + 0 ≤ ns.length - 0 by omega), SGl_nil.mpr (by omega)⟩⟩, rfl⟩
                · skip
                  replace sgs : ¬ (SGl [] ns (ns.length - 0)) := sgs
                  show W K l _ n0 _ h0 0 0 217 #[.val (.ref p), .val (.ref n), .val (.int (2 : Int32)), .val (.int (Int32.ofNat ns.length)), .val (.int (0 : Int32)), .val (.int (1 : Int32)), .val (.int (0 : Int32)), .val (.int (0 : Int32)), .unset, .unset, .unset, .unset, .unset] [(.int (0 : Int32))]
                  refine w_if_ne ok d7_217 (pc' := 222) (by decide) (fun hc53 => False.elim (by revert hc53; decide)) (fun hc53 => ?_)
                  refine w_iconst ok d7_220 (v := (0 : Int32)) rfl ?_
                  refine w_bret ok (by simp) d7_221 (by decide) (by decide) ?_
                  subst s0 s1
                  have key : Gi ns [42, 42] 0 ↔ _ := (own_two (ns := ns) (P := []) (R := []) (Q := []) NoS_nil NoS_nil NoS_nil)
                  exact ⟨Or.inr ⟨rfl, fun q => sgs (key.mp q).2.2.1⟩, rfl⟩
              · skip
                replace sgp : ¬ (SGl [] ns 0) := sgp
                show W K l _ n0 _ h0 0 0 197 #[.val (.ref p), .val (.ref n), .val (.int (2 : Int32)), .val (.int (Int32.ofNat ns.length)), .val (.int (0 : Int32)), .val (.int (1 : Int32)), .val (.int (0 : Int32)), .val (.int (0 : Int32)), .unset, .unset, .unset, .unset, .unset] [(.int (0 : Int32))]
                refine w_if_ne ok d7_197 (pc' := 202) (by decide) (fun hc55 => False.elim (by revert hc55; decide)) (fun hc55 => ?_)
                refine w_iconst ok d7_200 (v := (0 : Int32)) rfl ?_
                refine w_bret ok (by simp) d7_201 (by decide) (by decide) ?_
                subst s0 s1
                have key : Gi ns [42, 42] 0 ↔ _ := (own_two (ns := ns) (P := []) (R := []) (Q := []) NoS_nil NoS_nil NoS_nil)
                exact ⟨Or.inr ⟨rfl, fun q => sgp (key.mp q).2.1⟩, rfl⟩
            · skip
              refine w_iconst ok d7_186 (v := (0 : Int32)) rfl ?_
              refine w_bret ok (by simp) d7_187 (by decide) (by decide) ?_
              subst s0 s1
              have key : Gi ns [42, 42] 0 ↔ _ := (own_two (ns := ns) (P := []) (R := []) (Q := []) NoS_nil NoS_nil NoS_nil)
              refine ⟨Or.inr ⟨rfl, fun q => ?_⟩, rfl⟩
              have q1 : 0 + 0 ≤ ns.length := (key.mp q).1
              have q2 := hc37; rw [show (0 : Int32) = Int32.ofNat 0 from rfl, own_lt (by omega) (by omega)] at q2; omega
          · exact absurd s1 t29
        · exact absurd s0 t22
      · skip
        replace s0 : ¬ (x0 = 42) := s0
        show W K l _ n0 _ h0 0 0 66 #[.val (.ref p), .val (.ref n), .val (.int (2 : Int32)), .val (.int (Int32.ofNat ns.length)), .val (.int (1 : Int32)), .unset, .unset, .unset, .unset, .unset, .unset, .unset, .unset] [(.int (0 : Int32))]
        refine w_if_eq ok d7_66 (pc' := 72) (by decide) (fun hc57 => ?_) (fun hc57 => False.elim (by revert hc57; decide))
        refine w_iload ok d7_72 rfl ?_
        refine w_if_ge ok d7_74 (pc' := 99) (by decide) (fun hc59 => ?_) (fun hc59 => False.elim (by revert hc59; decide))
        refine w_iconst ok d7_99 (v := (-1 : Int32)) rfl ?_
        refine w_istore ok d7_100 (L' := #[.val (.ref p), .val (.ref n), .val (.int (2 : Int32)), .val (.int (Int32.ofNat ns.length)), .val (.int (1 : Int32)), .val (.int (-1 : Int32)), .unset, .unset, .unset, .unset, .unset, .unset, .unset]) rfl ?_
        refine w_iloadN ok d7_102 rfl ?_
        refine w_if_le ok d7_103 (pc' := 117) (by decide) (fun hc61 => False.elim (by revert hc61; decide)) (fun hc61 => ?_)
        refine w_aloadN ok d7_106 rfl rfl ?_
        refine w_iconst ok d7_107 (v := (0 : Int32)) rfl ?_
        refine w_callS ok (y := mn_8) (argsL := [(.ref p), (.int (0 : Int32))]) (rest := []) d7_108 (hw _ (List.mem_of_getElem? (i := 34) rfl)) (hw _ (List.mem_of_getElem? (i := 35) rfl)) (hw _ (List.mem_of_getElem? (i := 4) rfl)) (hw _ (List.mem_of_getElem? (i := 36) rfl)) (by decide) pd_285bBI29Z rfl rfl (by decide) (Nat.le_of_ble_eq_true rfl) (by decide) (by decide) (fun z0 => rm_star l Z a0 hw [] n0 h0 z0 p [x0, x1] A_p 0 (Nat.le_of_ble_eq_true rfl) (Nat.le_of_ble_eq_true rfl)) (fun v62 h63 qv62 => ?_)
        obtain ⟨⟨rfl, t64⟩ | ⟨rfl, t64⟩, rfl⟩ := qv62
        · exact absurd t64 s0
        · skip
          replace t64 : ¬ (x0 = 42) := t64
          show W K l _ n0 _ h0 0 0 111 #[.val (.ref p), .val (.ref n), .val (.int (2 : Int32)), .val (.int (Int32.ofNat ns.length)), .val (.int (1 : Int32)), .val (.int (-1 : Int32)), .unset, .unset, .unset, .unset, .unset, .unset, .unset] [(.int (0 : Int32))]
          refine w_if_eq ok d7_111 (pc' := 117) (by decide) (fun hc66 => ?_) (fun hc66 => False.elim (by revert hc66; decide))
          refine w_iloadN ok d7_117 rfl ?_
          refine w_iconst ok d7_118 (v := (1 : Int32)) rfl ?_
          refine w_icmp_le ok d7_119 (pc' := 133) (by decide) (fun hc68 => False.elim (by revert hc68; decide)) (fun hc68 => ?_)
          refine w_aloadN ok d7_122 rfl rfl ?_
          refine w_iconst ok d7_123 (v := (1 : Int32)) rfl ?_
          refine w_callS ok (y := mn_8) (argsL := [(.ref p), (.int (1 : Int32))]) (rest := []) d7_124 (hw _ (List.mem_of_getElem? (i := 34) rfl)) (hw _ (List.mem_of_getElem? (i := 35) rfl)) (hw _ (List.mem_of_getElem? (i := 4) rfl)) (hw _ (List.mem_of_getElem? (i := 36) rfl)) (by decide) pd_285bBI29Z rfl rfl (by decide) (Nat.le_of_ble_eq_true rfl) (by decide) (by decide) (fun z0 => rm_star l Z a0 hw [] n0 h0 z0 p [x0, x1] A_p 1 (Nat.le_of_ble_eq_true rfl) (Nat.le_of_ble_eq_true rfl)) (fun v69 h70 qv69 => ?_)
          obtain ⟨⟨rfl, t71⟩ | ⟨rfl, t71⟩, rfl⟩ := qv69
          · skip
            replace t71 : x1 = 42 := t71
            show W K l _ n0 _ h0 0 0 127 #[.val (.ref p), .val (.ref n), .val (.int (2 : Int32)), .val (.int (Int32.ofNat ns.length)), .val (.int (1 : Int32)), .val (.int (-1 : Int32)), .unset, .unset, .unset, .unset, .unset, .unset, .unset] [(.int (1 : Int32))]
            refine w_if_eq ok d7_127 (pc' := 133) (by decide) (fun hc73 => False.elim (by revert hc73; decide)) (fun hc73 => ?_)
            refine w_iconst ok d7_130 (v := (1 : Int32)) rfl ?_
            refine w_istore ok d7_131 (L' := #[.val (.ref p), .val (.ref n), .val (.int (2 : Int32)), .val (.int (Int32.ofNat ns.length)), .val (.int (1 : Int32)), .val (.int (1 : Int32)), .unset, .unset, .unset, .unset, .unset, .unset, .unset]) rfl ?_
            refine w_iloadN ok d7_133 rfl ?_
            refine w_iconst ok d7_134 (v := (2 : Int32)) rfl ?_
            refine w_icmp_le ok d7_135 (pc' := 149) (by decide) (fun hc75 => ?_) (fun hc75 => False.elim (by revert hc75; decide))
            refine w_iloadN ok d7_149 rfl ?_
            refine w_iconst ok d7_150 (v := (3 : Int32)) rfl ?_
            refine w_icmp_le ok d7_151 (pc' := 165) (by decide) (fun hc77 => ?_) (fun hc77 => False.elim (by revert hc77; decide))
            refine w_iload ok d7_165 rfl ?_
            refine w_istore ok d7_167 (L' := #[.val (.ref p), .val (.ref n), .val (.int (2 : Int32)), .val (.int (Int32.ofNat ns.length)), .val (.int (1 : Int32)), .val (.int (1 : Int32)), .val (.int (1 : Int32)), .unset, .unset, .unset, .unset, .unset, .unset]) rfl ?_
            refine w_iloadN ok d7_169 rfl ?_
            refine w_iconst ok d7_170 (v := (1 : Int32)) rfl ?_
            refine w_isub ok d7_171 ?_
            show W K l _ n0 _ h0 0 0 172 #[.val (.ref p), .val (.ref n), .val (.int (2 : Int32)), .val (.int (Int32.ofNat ns.length)), .val (.int (1 : Int32)), .val (.int (1 : Int32)), .val (.int (1 : Int32)), .unset, .unset, .unset, .unset, .unset, .unset] [(.int (1 : Int32))]
            refine w_iload ok d7_172 rfl ?_
            refine w_isub ok d7_174 ?_
            show W K l _ n0 _ h0 0 0 175 #[.val (.ref p), .val (.ref n), .val (.int (2 : Int32)), .val (.int (Int32.ofNat ns.length)), .val (.int (1 : Int32)), .val (.int (1 : Int32)), .val (.int (1 : Int32)), .unset, .unset, .unset, .unset, .unset, .unset] [(.int (0 : Int32))]
            refine w_istore ok d7_175 (L' := #[.val (.ref p), .val (.ref n), .val (.int (2 : Int32)), .val (.int (Int32.ofNat ns.length)), .val (.int (1 : Int32)), .val (.int (1 : Int32)), .val (.int (1 : Int32)), .val (.int (0 : Int32)), .unset, .unset, .unset, .unset, .unset]) rfl ?_
            refine w_iloadN ok d7_177 rfl ?_
            refine w_iload ok d7_178 rfl ?_
            refine w_iload ok d7_180 rfl ?_
            refine w_iadd ok d7_182 ?_
            show W K l _ n0 _ h0 0 0 183 #[.val (.ref p), .val (.ref n), .val (.int (2 : Int32)), .val (.int (Int32.ofNat ns.length)), .val (.int (1 : Int32)), .val (.int (1 : Int32)), .val (.int (1 : Int32)), .val (.int (0 : Int32)), .unset, .unset, .unset, .unset, .unset] [(.int (1 : Int32)), (.int (Int32.ofNat ns.length))]
            refine w_icmp_ge ok d7_183 (pc' := 188) (by decide) (fun hc79 => ?_) (fun hc79 => ?_)
            · skip
              have hge : 1 ≤ ns.length := by have q := hc79; rw [show (1 : Int32) = Int32.ofNat 1 from rfl, own_lt (by omega) (by omega)] at q; omega
              refine w_aloadN ok d7_188 rfl rfl ?_
              refine w_iconst ok d7_189 (v := (0 : Int32)) rfl ?_
              refine w_iload ok d7_190 rfl ?_
              refine w_aloadN ok d7_192 rfl rfl ?_
              refine w_iconst ok d7_193 (v := (0 : Int32)) rfl ?_
              refine w_callS ok (y := mn_9) (argsL := [(.ref p), (.int (0 : Int32)), (.int (1 : Int32)), (.ref n), (.int (0 : Int32))]) (rest := []) d7_194 (hw _ (List.mem_of_getElem? (i := 37) rfl)) (hw _ (List.mem_of_getElem? (i := 38) rfl)) (hw _ (List.mem_of_getElem? (i := 4) rfl)) (hw _ (List.mem_of_getElem? (i := 39) rfl)) (by decide) pd_285bBII5bBI29Z rfl rfl (by decide) (Nat.le_of_ble_eq_true rfl) (by decide) (by decide) (fun z0 => rm_seg l Z a0 hw [] n0 h0 z0 p n [x0, x1] ns A_p A_n 0 1 0 _ rfl (Nat.le_of_ble_eq_true rfl) (by decide) (by omega) (Nat.le_of_ble_eq_true rfl) ln) (fun v80 h81 qv80 => ?_)
              obtain ⟨⟨rfl, sgp⟩ | ⟨rfl, sgp⟩, rfl⟩ := qv80
              · skip
                replace sgp : SGl [x0] ns 0 := sgp
                show W K l _ n0 _ h0 0 0 197 #[.val (.ref p), .val (.ref n), .val (.int (2 : Int32)), .val (.int (Int32.ofNat ns.length)), .val (.int (1 : Int32)), .val (.int (1 : Int32)), .val (.int (1 : Int32)), .val (.int (0 : Int32)), .unset, .unset, .unset, .unset, .unset] [(.int (1 : Int32))]
                refine w_if_ne ok d7_197 (pc' := 202) (by decide) (fun hc83 => ?_) (fun hc83 => False.elim (by revert hc83; decide))
                refine w_aloadN ok d7_202 rfl rfl ?_
                refine w_iload ok d7_203 rfl ?_
                refine w_iconst ok d7_205 (v := (1 : Int32)) rfl ?_
                refine w_iadd ok d7_206 ?_
                show W K l _ n0 _ h0 0 0 207 #[.val (.ref p), .val (.ref n), .val (.int (2 : Int32)), .val (.int (Int32.ofNat ns.length)), .val (.int (1 : Int32)), .val (.int (1 : Int32)), .val (.int (1 : Int32)), .val (.int (0 : Int32)), .unset, .unset, .unset, .unset, .unset] [(.int (2 : Int32)), (.ref p)]
                refine w_iload ok d7_207 rfl ?_
                refine w_aloadN ok d7_209 rfl rfl ?_
                refine w_iloadN ok d7_210 rfl ?_
                refine w_iload ok d7_211 rfl ?_
                refine w_isub ok d7_213 ?_
                refine w_callS ok (y := mn_9) (argsL := [(.ref p), (.int (2 : Int32)), (.int (0 : Int32)), (.ref n), (.int ((Int32.ofNat ns.length) - (0 : Int32)))]) (rest := []) d7_214 (hw _ (List.mem_of_getElem? (i := 37) rfl)) (hw _ (List.mem_of_getElem? (i := 38) rfl)) (hw _ (List.mem_of_getElem? (i := 4) rfl)) (hw _ (List.mem_of_getElem? (i := 39) rfl)) (by decide) pd_285bBII5bBI29Z rfl rfl (by decide) (Nat.le_of_ble_eq_true rfl) (by decide) (by decide) (fun z0 => rm_seg l Z a0 hw [] n0 h0 z0 p n [x0, x1] ns A_p A_n 2 0 (ns.length - 0) _ (own_subk (k := 0) rfl (by omega) (by omega)) (Nat.le_of_ble_eq_true rfl) (by decide) (by omega) (Nat.le_of_ble_eq_true rfl) ln) (fun v84 h85 qv84 => ?_)
                obtain ⟨⟨rfl, sgs⟩ | ⟨rfl, sgs⟩, rfl⟩ := qv84
                · skip
                  replace sgs : SGl [] ns (ns.length - 0) := sgs
                  show W K l _ n0 _ h0 0 0 217 #[.val (.ref p), .val (.ref n), .val (.int (2 : Int32)), .val (.int (Int32.ofNat ns.length)), .val (.int (1 : Int32)), .val (.int (1 : Int32)), .val (.int (1 : Int32)), .val (.int (0 : Int32)), .unset, .unset, .unset, .unset, .unset] [(.int (1 : Int32))]
                  refine w_if_ne ok d7_217 (pc' := 222) (by decide) (fun hc87 => ?_) (fun hc87 => False.elim (by revert hc87; decide))
                  refine w_iload ok d7_222 rfl ?_
                  refine w_iload ok d7_224 rfl ?_
                  refine w_isub ok d7_226 ?_
                  show W K l _ n0 _ h0 0 0 227 #[.val (.ref p), .val (.ref n), .val (.int (2 : Int32)), .val (.int (Int32.ofNat ns.length)), .val (.int (1 : Int32)), .val (.int (1 : Int32)), .val (.int (1 : Int32)), .val (.int (0 : Int32)), .unset, .unset, .unset, .unset, .unset] [(.int (0 : Int32))]
                  refine w_iconst ok d7_227 (v := (1 : Int32)) rfl ?_
                  refine w_isub ok d7_228 ?_
                  show W K l _ n0 _ h0 0 0 229 #[.val (.ref p), .val (.ref n), .val (.int (2 : Int32)), .val (.int (Int32.ofNat ns.length)), .val (.int (1 : Int32)), .val (.int (1 : Int32)), .val (.int (1 : Int32)), .val (.int (0 : Int32)), .unset, .unset, .unset, .unset, .unset] [(.int (-1 : Int32))]
                  refine w_istore ok d7_229 (L' := #[.val (.ref p), .val (.ref n), .val (.int (2 : Int32)), .val (.int (Int32.ofNat ns.length)), .val (.int (1 : Int32)), .val (.int (1 : Int32)), .val (.int (1 : Int32)), .val (.int (0 : Int32)), .val (.int (-1 : Int32)), .unset, .unset, .unset, .unset]) rfl ?_
                  refine w_iload ok d7_231 rfl ?_
                  refine w_iconst ok d7_233 (v := (1 : Int32)) rfl ?_
                  refine w_iadd ok d7_234 ?_
                  show W K l _ n0 _ h0 0 0 235 #[.val (.ref p), .val (.ref n), .val (.int (2 : Int32)), .val (.int (Int32.ofNat ns.length)), .val (.int (1 : Int32)), .val (.int (1 : Int32)), .val (.int (1 : Int32)), .val (.int (0 : Int32)), .val (.int (-1 : Int32)), .unset, .unset, .unset, .unset] [(.int (2 : Int32))]
                  refine w_istore ok d7_235 (L' := #[.val (.ref p), .val (.ref n), .val (.int (2 : Int32)), .val (.int (Int32.ofNat ns.length)), .val (.int (1 : Int32)), .val (.int (1 : Int32)), .val (.int (1 : Int32)), .val (.int (0 : Int32)), .val (.int (-1 : Int32)), .val (.int (2 : Int32)), .unset, .unset, .unset]) rfl ?_
                  refine w_iconst ok d7_237 (v := (0 : Int32)) rfl ?_
                  refine w_istore ok d7_238 (L' := #[.val (.ref p), .val (.ref n), .val (.int (2 : Int32)), .val (.int (Int32.ofNat ns.length)), .val (.int (1 : Int32)), .val (.int (1 : Int32)), .val (.int (1 : Int32)), .val (.int (0 : Int32)), .val (.int (-1 : Int32)), .val (.int (2 : Int32)), .val (.int (0 : Int32)), .unset, .unset]) rfl ?_
                  refine w_iload ok d7_240 rfl ?_
                  refine w_iconst ok d7_242 (v := (1 : Int32)) rfl ?_
                  refine w_icmp_ne ok d7_243 (pc' := 263) (by decide) (fun hc89 => ?_) (fun hc89 => False.elim (by revert hc89; decide))
                  refine w_iload ok d7_263 rfl ?_
                  refine w_iconst ok d7_265 (v := (2 : Int32)) rfl ?_
                  refine w_icmp_ne ok d7_266 (pc' := 340) (by decide) (fun hc91 => ?_) (fun hc91 => False.elim (by revert hc91; decide))
                  refine w_iload ok d7_340 rfl ?_
                  refine w_if_ne ok d7_342 (pc' := 347) (by decide) (fun hc93 => False.elim (by revert hc93; decide)) (fun hc93 => ?_)
                  refine w_iconst ok d7_345 (v := (1 : Int32)) rfl ?_
                  refine w_bret ok (by simp) d7_346 (by decide) (by decide) ?_
                  subst s1
                  have key : Gi ns [x0, 42] 0 ↔ _ := own_one (ns := ns) (P := [x0]) (Q := []) (NoS_cons s0 NoS_nil) NoS_nil
                  exact ⟨Or.inl ⟨rfl, key.mpr ⟨hge, sgp, sgs⟩⟩, rfl⟩
                · skip
                  replace sgs : ¬ (SGl [] ns (ns.length - 0)) := sgs
                  show W K l _ n0 _ h0 0 0 217 #[.val (.ref p), .val (.ref n), .val (.int (2 : Int32)), .val (.int (Int32.ofNat ns.length)), .val (.int (1 : Int32)), .val (.int (1 : Int32)), .val (.int (1 : Int32)), .val (.int (0 : Int32)), .unset, .unset, .unset, .unset, .unset] [(.int (0 : Int32))]
                  refine w_if_ne ok d7_217 (pc' := 222) (by decide) (fun hc95 => False.elim (by revert hc95; decide)) (fun hc95 => ?_)
                  refine w_iconst ok d7_220 (v := (0 : Int32)) rfl ?_
                  refine w_bret ok (by simp) d7_221 (by decide) (by decide) ?_
                  subst s1
                  have key : Gi ns [x0, 42] 0 ↔ _ := own_one (ns := ns) (P := [x0]) (Q := []) (NoS_cons s0 NoS_nil) NoS_nil
                  exact ⟨Or.inr ⟨rfl, fun q => sgs (key.mp q).2.2⟩, rfl⟩
              · skip
                replace sgp : ¬ (SGl [x0] ns 0) := sgp
                show W K l _ n0 _ h0 0 0 197 #[.val (.ref p), .val (.ref n), .val (.int (2 : Int32)), .val (.int (Int32.ofNat ns.length)), .val (.int (1 : Int32)), .val (.int (1 : Int32)), .val (.int (1 : Int32)), .val (.int (0 : Int32)), .unset, .unset, .unset, .unset, .unset] [(.int (0 : Int32))]
                refine w_if_ne ok d7_197 (pc' := 202) (by decide) (fun hc97 => False.elim (by revert hc97; decide)) (fun hc97 => ?_)
                refine w_iconst ok d7_200 (v := (0 : Int32)) rfl ?_
                refine w_bret ok (by simp) d7_201 (by decide) (by decide) ?_
                subst s1
                have key : Gi ns [x0, 42] 0 ↔ _ := own_one (ns := ns) (P := [x0]) (Q := []) (NoS_cons s0 NoS_nil) NoS_nil
                exact ⟨Or.inr ⟨rfl, fun q => sgp (key.mp q).2.1⟩, rfl⟩
            · skip
              refine w_iconst ok d7_186 (v := (0 : Int32)) rfl ?_
              refine w_bret ok (by simp) d7_187 (by decide) (by decide) ?_
              subst s1
              have key : Gi ns [x0, 42] 0 ↔ _ := own_one (ns := ns) (P := [x0]) (Q := []) (NoS_cons s0 NoS_nil) NoS_nil
              refine ⟨Or.inr ⟨rfl, fun q => ?_⟩, rfl⟩
              have q1 : 1 + 0 ≤ ns.length := (key.mp q).1
              have q2 := hc79; rw [show (1 : Int32) = Int32.ofNat 1 from rfl, own_lt (by omega) (by omega)] at q2; omega
          · exact absurd s1 t71
    · skip
      replace s1 : ¬ (x1 = 42) := s1
      show W K l _ n0 _ h0 0 0 51 #[.val (.ref p), .val (.ref n), .val (.int (2 : Int32)), .val (.int (Int32.ofNat ns.length)), .val (.int (-1 : Int32)), .unset, .unset, .unset, .unset, .unset, .unset, .unset, .unset] [(.int (0 : Int32))]
      refine w_if_eq ok d7_51 (pc' := 57) (by decide) (fun hc99 => ?_) (fun hc99 => False.elim (by revert hc99; decide))
      refine w_iloadN ok d7_57 rfl ?_
      refine w_if_le ok d7_58 (pc' := 72) (by decide) (fun hc101 => False.elim (by revert hc101; decide)) (fun hc101 => ?_)
      refine w_aloadN ok d7_61 rfl rfl ?_
      refine w_iconst ok d7_62 (v := (0 : Int32)) rfl ?_
      refine w_callS ok (y := mn_8) (argsL := [(.ref p), (.int (0 : Int32))]) (rest := []) d7_63 (hw _ (List.mem_of_getElem? (i := 34) rfl)) (hw _ (List.mem_of_getElem? (i := 35) rfl)) (hw _ (List.mem_of_getElem? (i := 4) rfl)) (hw _ (List.mem_of_getElem? (i := 36) rfl)) (by decide) pd_285bBI29Z rfl rfl (by decide) (Nat.le_of_ble_eq_true rfl) (by decide) (by decide) (fun z0 => rm_star l Z a0 hw [] n0 h0 z0 p [x0, x1] A_p 0 (Nat.le_of_ble_eq_true rfl) (Nat.le_of_ble_eq_true rfl)) (fun v102 h103 qv102 => ?_)
      obtain ⟨⟨rfl, s0⟩ | ⟨rfl, s0⟩, rfl⟩ := qv102
      · skip
        replace s0 : x0 = 42 := s0
        show W K l _ n0 _ h0 0 0 66 #[.val (.ref p), .val (.ref n), .val (.int (2 : Int32)), .val (.int (Int32.ofNat ns.length)), .val (.int (-1 : Int32)), .unset, .unset, .unset, .unset, .unset, .unset, .unset, .unset] [(.int (1 : Int32))]
        refine w_if_eq ok d7_66 (pc' := 72) (by decide) (fun hc105 => False.elim (by revert hc105; decide)) (fun hc105 => ?_)
        refine w_iconst ok d7_69 (v := (0 : Int32)) rfl ?_
        refine w_istore ok d7_70 (L' := #[.val (.ref p), .val (.ref n), .val (.int (2 : Int32)), .val (.int (Int32.ofNat ns.length)), .val (.int (0 : Int32)), .unset, .unset, .unset, .unset, .unset, .unset, .unset, .unset]) rfl ?_
        refine w_iload ok d7_72 rfl ?_
        refine w_if_ge ok d7_74 (pc' := 99) (by decide) (fun hc107 => ?_) (fun hc107 => False.elim (by revert hc107; decide))
        refine w_iconst ok d7_99 (v := (-1 : Int32)) rfl ?_
        refine w_istore ok d7_100 (L' := #[.val (.ref p), .val (.ref n), .val (.int (2 : Int32)), .val (.int (Int32.ofNat ns.length)), .val (.int (0 : Int32)), .val (.int (-1 : Int32)), .unset, .unset, .unset, .unset, .unset, .unset, .unset]) rfl ?_
        refine w_iloadN ok d7_102 rfl ?_
        refine w_if_le ok d7_103 (pc' := 117) (by decide) (fun hc109 => False.elim (by revert hc109; decide)) (fun hc109 => ?_)
        refine w_aloadN ok d7_106 rfl rfl ?_
        refine w_iconst ok d7_107 (v := (0 : Int32)) rfl ?_
        refine w_callS ok (y := mn_8) (argsL := [(.ref p), (.int (0 : Int32))]) (rest := []) d7_108 (hw _ (List.mem_of_getElem? (i := 34) rfl)) (hw _ (List.mem_of_getElem? (i := 35) rfl)) (hw _ (List.mem_of_getElem? (i := 4) rfl)) (hw _ (List.mem_of_getElem? (i := 36) rfl)) (by decide) pd_285bBI29Z rfl rfl (by decide) (Nat.le_of_ble_eq_true rfl) (by decide) (by decide) (fun z0 => rm_star l Z a0 hw [] n0 h0 z0 p [x0, x1] A_p 0 (Nat.le_of_ble_eq_true rfl) (Nat.le_of_ble_eq_true rfl)) (fun v110 h111 qv110 => ?_)
        obtain ⟨⟨rfl, t112⟩ | ⟨rfl, t112⟩, rfl⟩ := qv110
        · skip
          replace t112 : x0 = 42 := t112
          show W K l _ n0 _ h0 0 0 111 #[.val (.ref p), .val (.ref n), .val (.int (2 : Int32)), .val (.int (Int32.ofNat ns.length)), .val (.int (0 : Int32)), .val (.int (-1 : Int32)), .unset, .unset, .unset, .unset, .unset, .unset, .unset] [(.int (1 : Int32))]
          refine w_if_eq ok d7_111 (pc' := 117) (by decide) (fun hc114 => False.elim (by revert hc114; decide)) (fun hc114 => ?_)
          refine w_iconst ok d7_114 (v := (0 : Int32)) rfl ?_
          refine w_istore ok d7_115 (L' := #[.val (.ref p), .val (.ref n), .val (.int (2 : Int32)), .val (.int (Int32.ofNat ns.length)), .val (.int (0 : Int32)), .val (.int (0 : Int32)), .unset, .unset, .unset, .unset, .unset, .unset, .unset]) rfl ?_
          refine w_iloadN ok d7_117 rfl ?_
          refine w_iconst ok d7_118 (v := (1 : Int32)) rfl ?_
          refine w_icmp_le ok d7_119 (pc' := 133) (by decide) (fun hc116 => False.elim (by revert hc116; decide)) (fun hc116 => ?_)
          refine w_aloadN ok d7_122 rfl rfl ?_
          refine w_iconst ok d7_123 (v := (1 : Int32)) rfl ?_
          refine w_callS ok (y := mn_8) (argsL := [(.ref p), (.int (1 : Int32))]) (rest := []) d7_124 (hw _ (List.mem_of_getElem? (i := 34) rfl)) (hw _ (List.mem_of_getElem? (i := 35) rfl)) (hw _ (List.mem_of_getElem? (i := 4) rfl)) (hw _ (List.mem_of_getElem? (i := 36) rfl)) (by decide) pd_285bBI29Z rfl rfl (by decide) (Nat.le_of_ble_eq_true rfl) (by decide) (by decide) (fun z0 => rm_star l Z a0 hw [] n0 h0 z0 p [x0, x1] A_p 1 (Nat.le_of_ble_eq_true rfl) (Nat.le_of_ble_eq_true rfl)) (fun v117 h118 qv117 => ?_)
          obtain ⟨⟨rfl, t119⟩ | ⟨rfl, t119⟩, rfl⟩ := qv117
          · exact absurd t119 s1
          · skip
            replace t119 : ¬ (x1 = 42) := t119
            show W K l _ n0 _ h0 0 0 127 #[.val (.ref p), .val (.ref n), .val (.int (2 : Int32)), .val (.int (Int32.ofNat ns.length)), .val (.int (0 : Int32)), .val (.int (0 : Int32)), .unset, .unset, .unset, .unset, .unset, .unset, .unset] [(.int (0 : Int32))]
            refine w_if_eq ok d7_127 (pc' := 133) (by decide) (fun hc121 => ?_) (fun hc121 => False.elim (by revert hc121; decide))
            refine w_iloadN ok d7_133 rfl ?_
            refine w_iconst ok d7_134 (v := (2 : Int32)) rfl ?_
            refine w_icmp_le ok d7_135 (pc' := 149) (by decide) (fun hc123 => ?_) (fun hc123 => False.elim (by revert hc123; decide))
            refine w_iloadN ok d7_149 rfl ?_
            refine w_iconst ok d7_150 (v := (3 : Int32)) rfl ?_
            refine w_icmp_le ok d7_151 (pc' := 165) (by decide) (fun hc125 => ?_) (fun hc125 => False.elim (by revert hc125; decide))
            refine w_iload ok d7_165 rfl ?_
            refine w_istore ok d7_167 (L' := #[.val (.ref p), .val (.ref n), .val (.int (2 : Int32)), .val (.int (Int32.ofNat ns.length)), .val (.int (0 : Int32)), .val (.int (0 : Int32)), .val (.int (0 : Int32)), .unset, .unset, .unset, .unset, .unset, .unset]) rfl ?_
            refine w_iloadN ok d7_169 rfl ?_
            refine w_iconst ok d7_170 (v := (1 : Int32)) rfl ?_
            refine w_isub ok d7_171 ?_
            show W K l _ n0 _ h0 0 0 172 #[.val (.ref p), .val (.ref n), .val (.int (2 : Int32)), .val (.int (Int32.ofNat ns.length)), .val (.int (0 : Int32)), .val (.int (0 : Int32)), .val (.int (0 : Int32)), .unset, .unset, .unset, .unset, .unset, .unset] [(.int (1 : Int32))]
            refine w_iload ok d7_172 rfl ?_
            refine w_isub ok d7_174 ?_
            show W K l _ n0 _ h0 0 0 175 #[.val (.ref p), .val (.ref n), .val (.int (2 : Int32)), .val (.int (Int32.ofNat ns.length)), .val (.int (0 : Int32)), .val (.int (0 : Int32)), .val (.int (0 : Int32)), .unset, .unset, .unset, .unset, .unset, .unset] [(.int (1 : Int32))]
            refine w_istore ok d7_175 (L' := #[.val (.ref p), .val (.ref n), .val (.int (2 : Int32)), .val (.int (Int32.ofNat ns.length)), .val (.int (0 : Int32)), .val (.int (0 : Int32)), .val (.int (0 : Int32)), .val (.int (1 : Int32)), .unset, .unset, .unset, .unset, .unset]) rfl ?_
            refine w_iloadN ok d7_177 rfl ?_
            refine w_iload ok d7_178 rfl ?_
            refine w_iload ok d7_180 rfl ?_
            refine w_iadd ok d7_182 ?_
            show W K l _ n0 _ h0 0 0 183 #[.val (.ref p), .val (.ref n), .val (.int (2 : Int32)), .val (.int (Int32.ofNat ns.length)), .val (.int (0 : Int32)), .val (.int (0 : Int32)), .val (.int (0 : Int32)), .val (.int (1 : Int32)), .unset, .unset, .unset, .unset, .unset] [(.int (1 : Int32)), (.int (Int32.ofNat ns.length))]
            refine w_icmp_ge ok d7_183 (pc' := 188) (by decide) (fun hc127 => ?_) (fun hc127 => ?_)
            · skip
              have hge : 1 ≤ ns.length := by have q := hc127; rw [show (1 : Int32) = Int32.ofNat 1 from rfl, own_lt (by omega) (by omega)] at q; omega
              refine w_aloadN ok d7_188 rfl rfl ?_
              refine w_iconst ok d7_189 (v := (0 : Int32)) rfl ?_
              refine w_iload ok d7_190 rfl ?_
              refine w_aloadN ok d7_192 rfl rfl ?_
              refine w_iconst ok d7_193 (v := (0 : Int32)) rfl ?_
              refine w_callS ok (y := mn_9) (argsL := [(.ref p), (.int (0 : Int32)), (.int (0 : Int32)), (.ref n), (.int (0 : Int32))]) (rest := []) d7_194 (hw _ (List.mem_of_getElem? (i := 37) rfl)) (hw _ (List.mem_of_getElem? (i := 38) rfl)) (hw _ (List.mem_of_getElem? (i := 4) rfl)) (hw _ (List.mem_of_getElem? (i := 39) rfl)) (by decide) pd_285bBII5bBI29Z rfl rfl (by decide) (Nat.le_of_ble_eq_true rfl) (by decide) (by decide) (fun z0 => rm_seg l Z a0 hw [] n0 h0 z0 p n [x0, x1] ns A_p A_n 0 0 0 _ rfl (Nat.le_of_ble_eq_true rfl) (by decide) (by omega) (Nat.le_of_ble_eq_true rfl) ln) (fun v128 h129 qv128 => ?_)
              obtain ⟨⟨rfl, sgp⟩ | ⟨rfl, sgp⟩, rfl⟩ := qv128
              · skip
                replace sgp : SGl [] ns 0 := sgp
                show W K l _ n0 _ h0 0 0 197 #[.val (.ref p), .val (.ref n), .val (.int (2 : Int32)), .val (.int (Int32.ofNat ns.length)), .val (.int (0 : Int32)), .val (.int (0 : Int32)), .val (.int (0 : Int32)), .val (.int (1 : Int32)), .unset, .unset, .unset, .unset, .unset] [(.int (1 : Int32))]
                refine w_if_ne ok d7_197 (pc' := 202) (by decide) (fun hc131 => ?_) (fun hc131 => False.elim (by revert hc131; decide))
                refine w_aloadN ok d7_202 rfl rfl ?_
                refine w_iload ok d7_203 rfl ?_
                refine w_iconst ok d7_205 (v := (1 : Int32)) rfl ?_
                refine w_iadd ok d7_206 ?_
                show W K l _ n0 _ h0 0 0 207 #[.val (.ref p), .val (.ref n), .val (.int (2 : Int32)), .val (.int (Int32.ofNat ns.length)), .val (.int (0 : Int32)), .val (.int (0 : Int32)), .val (.int (0 : Int32)), .val (.int (1 : Int32)), .unset, .unset, .unset, .unset, .unset] [(.int (1 : Int32)), (.ref p)]
                refine w_iload ok d7_207 rfl ?_
                refine w_aloadN ok d7_209 rfl rfl ?_
                refine w_iloadN ok d7_210 rfl ?_
                refine w_iload ok d7_211 rfl ?_
                refine w_isub ok d7_213 ?_
                refine w_callS ok (y := mn_9) (argsL := [(.ref p), (.int (1 : Int32)), (.int (1 : Int32)), (.ref n), (.int ((Int32.ofNat ns.length) - (1 : Int32)))]) (rest := []) d7_214 (hw _ (List.mem_of_getElem? (i := 37) rfl)) (hw _ (List.mem_of_getElem? (i := 38) rfl)) (hw _ (List.mem_of_getElem? (i := 4) rfl)) (hw _ (List.mem_of_getElem? (i := 39) rfl)) (by decide) pd_285bBII5bBI29Z rfl rfl (by decide) (Nat.le_of_ble_eq_true rfl) (by decide) (by decide) (fun z0 => rm_seg l Z a0 hw [] n0 h0 z0 p n [x0, x1] ns A_p A_n 1 1 (ns.length - 1) _ (own_subk (k := 1) rfl (by omega) (by omega)) (Nat.le_of_ble_eq_true rfl) (by decide) (by omega) (Nat.le_of_ble_eq_true rfl) ln) (fun v132 h133 qv132 => ?_)
                obtain ⟨⟨rfl, sgs⟩ | ⟨rfl, sgs⟩, rfl⟩ := qv132
                · skip
                  replace sgs : SGl [x1] ns (ns.length - 1) := sgs
                  show W K l _ n0 _ h0 0 0 217 #[.val (.ref p), .val (.ref n), .val (.int (2 : Int32)), .val (.int (Int32.ofNat ns.length)), .val (.int (0 : Int32)), .val (.int (0 : Int32)), .val (.int (0 : Int32)), .val (.int (1 : Int32)), .unset, .unset, .unset, .unset, .unset] [(.int (1 : Int32))]
                  refine w_if_ne ok d7_217 (pc' := 222) (by decide) (fun hc135 => ?_) (fun hc135 => False.elim (by revert hc135; decide))
                  refine w_iload ok d7_222 rfl ?_
                  refine w_iload ok d7_224 rfl ?_
                  refine w_isub ok d7_226 ?_
                  show W K l _ n0 _ h0 0 0 227 #[.val (.ref p), .val (.ref n), .val (.int (2 : Int32)), .val (.int (Int32.ofNat ns.length)), .val (.int (0 : Int32)), .val (.int (0 : Int32)), .val (.int (0 : Int32)), .val (.int (1 : Int32)), .unset, .unset, .unset, .unset, .unset] [(.int (0 : Int32))]
                  refine w_iconst ok d7_227 (v := (1 : Int32)) rfl ?_
                  refine w_isub ok d7_228 ?_
                  show W K l _ n0 _ h0 0 0 229 #[.val (.ref p), .val (.ref n), .val (.int (2 : Int32)), .val (.int (Int32.ofNat ns.length)), .val (.int (0 : Int32)), .val (.int (0 : Int32)), .val (.int (0 : Int32)), .val (.int (1 : Int32)), .unset, .unset, .unset, .unset, .unset] [(.int (-1 : Int32))]
                  refine w_istore ok d7_229 (L' := #[.val (.ref p), .val (.ref n), .val (.int (2 : Int32)), .val (.int (Int32.ofNat ns.length)), .val (.int (0 : Int32)), .val (.int (0 : Int32)), .val (.int (0 : Int32)), .val (.int (1 : Int32)), .val (.int (-1 : Int32)), .unset, .unset, .unset, .unset]) rfl ?_
                  refine w_iload ok d7_231 rfl ?_
                  refine w_iconst ok d7_233 (v := (1 : Int32)) rfl ?_
                  refine w_iadd ok d7_234 ?_
                  show W K l _ n0 _ h0 0 0 235 #[.val (.ref p), .val (.ref n), .val (.int (2 : Int32)), .val (.int (Int32.ofNat ns.length)), .val (.int (0 : Int32)), .val (.int (0 : Int32)), .val (.int (0 : Int32)), .val (.int (1 : Int32)), .val (.int (-1 : Int32)), .unset, .unset, .unset, .unset] [(.int (1 : Int32))]
                  refine w_istore ok d7_235 (L' := #[.val (.ref p), .val (.ref n), .val (.int (2 : Int32)), .val (.int (Int32.ofNat ns.length)), .val (.int (0 : Int32)), .val (.int (0 : Int32)), .val (.int (0 : Int32)), .val (.int (1 : Int32)), .val (.int (-1 : Int32)), .val (.int (1 : Int32)), .unset, .unset, .unset]) rfl ?_
                  refine w_iconst ok d7_237 (v := (0 : Int32)) rfl ?_
                  refine w_istore ok d7_238 (L' := #[.val (.ref p), .val (.ref n), .val (.int (2 : Int32)), .val (.int (Int32.ofNat ns.length)), .val (.int (0 : Int32)), .val (.int (0 : Int32)), .val (.int (0 : Int32)), .val (.int (1 : Int32)), .val (.int (-1 : Int32)), .val (.int (1 : Int32)), .val (.int (0 : Int32)), .unset, .unset]) rfl ?_
                  refine w_iload ok d7_240 rfl ?_
                  refine w_iconst ok d7_242 (v := (1 : Int32)) rfl ?_
                  refine w_icmp_ne ok d7_243 (pc' := 263) (by decide) (fun hc137 => ?_) (fun hc137 => False.elim (by revert hc137; decide))
                  refine w_iload ok d7_263 rfl ?_
                  refine w_iconst ok d7_265 (v := (2 : Int32)) rfl ?_
                  refine w_icmp_ne ok d7_266 (pc' := 340) (by decide) (fun hc139 => ?_) (fun hc139 => False.elim (by revert hc139; decide))
                  refine w_iload ok d7_340 rfl ?_
                  refine w_if_ne ok d7_342 (pc' := 347) (by decide) (fun hc141 => False.elim (by revert hc141; decide)) (fun hc141 => ?_)
                  refine w_iconst ok d7_345 (v := (1 : Int32)) rfl ?_
                  refine w_bret ok (by simp) d7_346 (by decide) (by decide) ?_
                  subst s0
                  have key : Gi ns [42, x1] 0 ↔ _ := own_one (ns := ns) (P := []) (Q := [x1]) NoS_nil (NoS_cons s1 NoS_nil)
                  exact ⟨Or.inl ⟨rfl, key.mpr ⟨hge, sgp, sgs⟩⟩, rfl⟩
                · skip
                  replace sgs : ¬ (SGl [x1] ns (ns.length - 1)) := sgs
                  show W K l _ n0 _ h0 0 0 217 #[.val (.ref p), .val (.ref n), .val (.int (2 : Int32)), .val (.int (Int32.ofNat ns.length)), .val (.int (0 : Int32)), .val (.int (0 : Int32)), .val (.int (0 : Int32)), .val (.int (1 : Int32)), .unset, .unset, .unset, .unset, .unset] [(.int (0 : Int32))]
                  refine w_if_ne ok d7_217 (pc' := 222) (by decide) (fun hc143 => False.elim (by revert hc143; decide)) (fun hc143 => ?_)
                  refine w_iconst ok d7_220 (v := (0 : Int32)) rfl ?_
                  refine w_bret ok (by simp) d7_221 (by decide) (by decide) ?_
                  subst s0
                  have key : Gi ns [42, x1] 0 ↔ _ := own_one (ns := ns) (P := []) (Q := [x1]) NoS_nil (NoS_cons s1 NoS_nil)
                  exact ⟨Or.inr ⟨rfl, fun q => sgs (key.mp q).2.2⟩, rfl⟩
              · skip
                replace sgp : ¬ (SGl [] ns 0) := sgp
                show W K l _ n0 _ h0 0 0 197 #[.val (.ref p), .val (.ref n), .val (.int (2 : Int32)), .val (.int (Int32.ofNat ns.length)), .val (.int (0 : Int32)), .val (.int (0 : Int32)), .val (.int (0 : Int32)), .val (.int (1 : Int32)), .unset, .unset, .unset, .unset, .unset] [(.int (0 : Int32))]
                refine w_if_ne ok d7_197 (pc' := 202) (by decide) (fun hc145 => False.elim (by revert hc145; decide)) (fun hc145 => ?_)
                refine w_iconst ok d7_200 (v := (0 : Int32)) rfl ?_
                refine w_bret ok (by simp) d7_201 (by decide) (by decide) ?_
                subst s0
                have key : Gi ns [42, x1] 0 ↔ _ := own_one (ns := ns) (P := []) (Q := [x1]) NoS_nil (NoS_cons s1 NoS_nil)
                exact ⟨Or.inr ⟨rfl, fun q => sgp (key.mp q).2.1⟩, rfl⟩
            · skip
              refine w_iconst ok d7_186 (v := (0 : Int32)) rfl ?_
              refine w_bret ok (by simp) d7_187 (by decide) (by decide) ?_
              subst s0
              have key : Gi ns [42, x1] 0 ↔ _ := own_one (ns := ns) (P := []) (Q := [x1]) NoS_nil (NoS_cons s1 NoS_nil)
              refine ⟨Or.inr ⟨rfl, fun q => ?_⟩, rfl⟩
              have q1 : 0 + 1 ≤ ns.length := (key.mp q).1
              have q2 := hc127; rw [show (1 : Int32) = Int32.ofNat 1 from rfl, own_lt (by omega) (by omega)] at q2; omega
        · exact absurd s0 t112
      · skip
        replace s0 : ¬ (x0 = 42) := s0
        show W K l _ n0 _ h0 0 0 66 #[.val (.ref p), .val (.ref n), .val (.int (2 : Int32)), .val (.int (Int32.ofNat ns.length)), .val (.int (-1 : Int32)), .unset, .unset, .unset, .unset, .unset, .unset, .unset, .unset] [(.int (0 : Int32))]
        refine w_if_eq ok d7_66 (pc' := 72) (by decide) (fun hc147 => ?_) (fun hc147 => False.elim (by revert hc147; decide))
        refine w_iload ok d7_72 rfl ?_
        refine w_if_ge ok d7_74 (pc' := 99) (by decide) (fun hc149 => False.elim (by revert hc149; decide)) (fun hc149 => ?_)
        refine w_iloadN ok d7_77 rfl ?_
        refine w_iloadN ok d7_78 rfl ?_
        refine w_icmp_ne ok d7_79 (pc' := 97) (by decide) (fun hc151 => ?_) (fun hc151 => ?_)
        · skip
          refine w_iconst ok d7_97 (v := (0 : Int32)) rfl ?_
          refine w_bret ok (by simp) d7_98 (by decide) (by decide) ?_
          refine ⟨Or.inr ⟨rfl, fun q => ?_⟩, rfl⟩
          have q1 := ((Gi_all (NoS_cons s0 (NoS_cons s1 NoS_nil))).mp q).1
          exact hc151 (show Int32.ofNat ns.length = Int32.ofNat 2 by rw [← q1]; rfl)
        · skip
          refine w_aloadN ok d7_82 rfl rfl ?_
          refine w_iconst ok d7_83 (v := (0 : Int32)) rfl ?_
          refine w_iloadN ok d7_84 rfl ?_
          refine w_aloadN ok d7_85 rfl rfl ?_
          refine w_iconst ok d7_86 (v := (0 : Int32)) rfl ?_
          refine w_callS ok (y := mn_9) (argsL := [(.ref p), (.int (0 : Int32)), (.int (2 : Int32)), (.ref n), (.int (0 : Int32))]) (rest := []) d7_87 (hw _ (List.mem_of_getElem? (i := 37) rfl)) (hw _ (List.mem_of_getElem? (i := 38) rfl)) (hw _ (List.mem_of_getElem? (i := 4) rfl)) (hw _ (List.mem_of_getElem? (i := 39) rfl)) (by decide) pd_285bBII5bBI29Z rfl rfl (by decide) (Nat.le_of_ble_eq_true rfl) (by decide) (by decide) (fun z0 => rm_seg l Z a0 hw [] n0 h0 z0 p n [x0, x1] ns A_p A_n 0 2 0 _ rfl (Nat.le_of_ble_eq_true rfl) (by decide) (by omega) (Nat.le_of_ble_eq_true rfl) ln) (fun v152 h153 qv152 => ?_)
          obtain ⟨⟨rfl, sga⟩ | ⟨rfl, sga⟩, rfl⟩ := qv152
          · skip
            replace sga : SGl [x0, x1] ns 0 := sga
            show W K l _ n0 _ h0 0 0 90 #[.val (.ref p), .val (.ref n), .val (.int (2 : Int32)), .val (.int (Int32.ofNat ns.length)), .val (.int (-1 : Int32)), .unset, .unset, .unset, .unset, .unset, .unset, .unset, .unset] [(.int (1 : Int32))]
            refine w_if_eq ok d7_90 (pc' := 97) (by decide) (fun hc155 => False.elim (by revert hc155; decide)) (fun hc155 => ?_)
            refine w_iconst ok d7_93 (v := (1 : Int32)) rfl ?_
            refine w_goto ok d7_94 (pc' := 98) (by decide) ?_
            refine w_bret ok (by simp) d7_98 (by decide) (by decide) ?_
            have hl : ns.length = 2 := (own_eqn (by omega) (by decide)).mp (show Int32.ofNat ns.length = Int32.ofNat 2 from hc151)
            exact ⟨Or.inl ⟨rfl, (Gi_all (NoS_cons s0 (NoS_cons s1 NoS_nil))).mpr ⟨by rw [hl]; rfl, sga⟩⟩, rfl⟩
          · skip
            replace sga : ¬ (SGl [x0, x1] ns 0) := sga
            show W K l _ n0 _ h0 0 0 90 #[.val (.ref p), .val (.ref n), .val (.int (2 : Int32)), .val (.int (Int32.ofNat ns.length)), .val (.int (-1 : Int32)), .unset, .unset, .unset, .unset, .unset, .unset, .unset, .unset] [(.int (0 : Int32))]
            refine w_if_eq ok d7_90 (pc' := 97) (by decide) (fun hc157 => ?_) (fun hc157 => False.elim (by revert hc157; decide))
            refine w_iconst ok d7_97 (v := (0 : Int32)) rfl ?_
            refine w_bret ok (by simp) d7_98 (by decide) (by decide) ?_
            exact ⟨Or.inr ⟨rfl, fun q => sga ((Gi_all (NoS_cons s0 (NoS_cons s1 NoS_nil))).mp q).2⟩, rfl⟩
  · skip
    show W K l _ n0 _ h0 0 0 0 #[.val (.ref p), .val (.ref n), .unset, .unset, .unset, .unset, .unset, .unset, .unset, .unset, .unset, .unset, .unset] []
    refine w_aloadN ok d7_0 rfl rfl ?_
    refine w_arraylength ok (z := (3 : Int32)) d7_1 A_p rfl (by decide) ?_
    show W K l _ n0 _ h0 0 0 2 #[.val (.ref p), .val (.ref n), .unset, .unset, .unset, .unset, .unset, .unset, .unset, .unset, .unset, .unset, .unset] [(.int (3 : Int32))]
    refine w_istoreN ok d7_2 (L' := #[.val (.ref p), .val (.ref n), .val (.int (3 : Int32)), .unset, .unset, .unset, .unset, .unset, .unset, .unset, .unset, .unset, .unset]) rfl ?_
    refine w_aloadN ok d7_3 rfl rfl ?_
    refine w_arraylength ok (z := Int32.ofNat ns.length) d7_4 A_n (own_len (by omega)) (own_ix0 (by omega)) ?_
    show W K l _ n0 _ h0 0 0 5 #[.val (.ref p), .val (.ref n), .val (.int (3 : Int32)), .unset, .unset, .unset, .unset, .unset, .unset, .unset, .unset, .unset, .unset] [(.int (Int32.ofNat ns.length))]
    refine w_istoreN ok d7_5 (L' := #[.val (.ref p), .val (.ref n), .val (.int (3 : Int32)), .val (.int (Int32.ofNat ns.length)), .unset, .unset, .unset, .unset, .unset, .unset, .unset, .unset, .unset]) rfl ?_
    refine w_iconst ok d7_6 (v := (-1 : Int32)) rfl ?_
    refine w_istore ok d7_7 (L' := #[.val (.ref p), .val (.ref n), .val (.int (3 : Int32)), .val (.int (Int32.ofNat ns.length)), .val (.int (-1 : Int32)), .unset, .unset, .unset, .unset, .unset, .unset, .unset, .unset]) rfl ?_
    refine w_iloadN ok d7_9 rfl ?_
    refine w_iconst ok d7_10 (v := (3 : Int32)) rfl ?_
    refine w_icmp_le ok d7_11 (pc' := 25) (by decide) (fun hc1 => ?_) (fun hc1 => False.elim (by revert hc1; decide))
    refine w_iloadN ok d7_25 rfl ?_
    refine w_iconst ok d7_26 (v := (2 : Int32)) rfl ?_
    refine w_icmp_le ok d7_27 (pc' := 41) (by decide) (fun hc3 => False.elim (by revert hc3; decide)) (fun hc3 => ?_)
    refine w_aloadN ok d7_30 rfl rfl ?_
    refine w_iconst ok d7_31 (v := (2 : Int32)) rfl ?_
    refine w_callS ok (y := mn_8) (argsL := [(.ref p), (.int (2 : Int32))]) (rest := []) d7_32 (hw _ (List.mem_of_getElem? (i := 34) rfl)) (hw _ (List.mem_of_getElem? (i := 35) rfl)) (hw _ (List.mem_of_getElem? (i := 4) rfl)) (hw _ (List.mem_of_getElem? (i := 36) rfl)) (by decide) pd_285bBI29Z rfl rfl (by decide) (Nat.le_of_ble_eq_true rfl) (by decide) (by decide) (fun z0 => rm_star l Z a0 hw [] n0 h0 z0 p [x0, x1, x2] A_p 2 (Nat.le_of_ble_eq_true rfl) (Nat.le_of_ble_eq_true rfl)) (fun v4 h5 qv4 => ?_)
    obtain ⟨⟨rfl, s2⟩ | ⟨rfl, s2⟩, rfl⟩ := qv4
    · skip
      replace s2 : x2 = 42 := s2
      show W K l _ n0 _ h0 0 0 35 #[.val (.ref p), .val (.ref n), .val (.int (3 : Int32)), .val (.int (Int32.ofNat ns.length)), .val (.int (-1 : Int32)), .unset, .unset, .unset, .unset, .unset, .unset, .unset, .unset] [(.int (1 : Int32))]
      refine w_if_eq ok d7_35 (pc' := 41) (by decide) (fun hc7 => False.elim (by revert hc7; decide)) (fun hc7 => ?_)
      refine w_iconst ok d7_38 (v := (2 : Int32)) rfl ?_
      refine w_istore ok d7_39 (L' := #[.val (.ref p), .val (.ref n), .val (.int (3 : Int32)), .val (.int (Int32.ofNat ns.length)), .val (.int (2 : Int32)), .unset, .unset, .unset, .unset, .unset, .unset, .unset, .unset]) rfl ?_
      refine w_iloadN ok d7_41 rfl ?_
      refine w_iconst ok d7_42 (v := (1 : Int32)) rfl ?_
      refine w_icmp_le ok d7_43 (pc' := 57) (by decide) (fun hc9 => False.elim (by revert hc9; decide)) (fun hc9 => ?_)
      refine w_aloadN ok d7_46 rfl rfl ?_
      refine w_iconst ok d7_47 (v := (1 : Int32)) rfl ?_
      refine w_callS ok (y := mn_8) (argsL := [(.ref p), (.int (1 : Int32))]) (rest := []) d7_48 (hw _ (List.mem_of_getElem? (i := 34) rfl)) (hw _ (List.mem_of_getElem? (i := 35) rfl)) (hw _ (List.mem_of_getElem? (i := 4) rfl)) (hw _ (List.mem_of_getElem? (i := 36) rfl)) (by decide) pd_285bBI29Z rfl rfl (by decide) (Nat.le_of_ble_eq_true rfl) (by decide) (by decide) (fun z0 => rm_star l Z a0 hw [] n0 h0 z0 p [x0, x1, x2] A_p 1 (Nat.le_of_ble_eq_true rfl) (Nat.le_of_ble_eq_true rfl)) (fun v10 h11 qv10 => ?_)
      obtain ⟨⟨rfl, s1⟩ | ⟨rfl, s1⟩, rfl⟩ := qv10
      · skip
        replace s1 : x1 = 42 := s1
        show W K l _ n0 _ h0 0 0 51 #[.val (.ref p), .val (.ref n), .val (.int (3 : Int32)), .val (.int (Int32.ofNat ns.length)), .val (.int (2 : Int32)), .unset, .unset, .unset, .unset, .unset, .unset, .unset, .unset] [(.int (1 : Int32))]
        refine w_if_eq ok d7_51 (pc' := 57) (by decide) (fun hc13 => False.elim (by revert hc13; decide)) (fun hc13 => ?_)
        refine w_iconst ok d7_54 (v := (1 : Int32)) rfl ?_
        refine w_istore ok d7_55 (L' := #[.val (.ref p), .val (.ref n), .val (.int (3 : Int32)), .val (.int (Int32.ofNat ns.length)), .val (.int (1 : Int32)), .unset, .unset, .unset, .unset, .unset, .unset, .unset, .unset]) rfl ?_
        refine w_iloadN ok d7_57 rfl ?_
        refine w_if_le ok d7_58 (pc' := 72) (by decide) (fun hc15 => False.elim (by revert hc15; decide)) (fun hc15 => ?_)
        refine w_aloadN ok d7_61 rfl rfl ?_
        refine w_iconst ok d7_62 (v := (0 : Int32)) rfl ?_
        refine w_callS ok (y := mn_8) (argsL := [(.ref p), (.int (0 : Int32))]) (rest := []) d7_63 (hw _ (List.mem_of_getElem? (i := 34) rfl)) (hw _ (List.mem_of_getElem? (i := 35) rfl)) (hw _ (List.mem_of_getElem? (i := 4) rfl)) (hw _ (List.mem_of_getElem? (i := 36) rfl)) (by decide) pd_285bBI29Z rfl rfl (by decide) (Nat.le_of_ble_eq_true rfl) (by decide) (by decide) (fun z0 => rm_star l Z a0 hw [] n0 h0 z0 p [x0, x1, x2] A_p 0 (Nat.le_of_ble_eq_true rfl) (Nat.le_of_ble_eq_true rfl)) (fun v16 h17 qv16 => ?_)
        obtain ⟨⟨rfl, s0⟩ | ⟨rfl, s0⟩, rfl⟩ := qv16
        · skip
          replace s0 : x0 = 42 := s0
          show W K l _ n0 _ h0 0 0 66 #[.val (.ref p), .val (.ref n), .val (.int (3 : Int32)), .val (.int (Int32.ofNat ns.length)), .val (.int (1 : Int32)), .unset, .unset, .unset, .unset, .unset, .unset, .unset, .unset] [(.int (1 : Int32))]
          refine w_if_eq ok d7_66 (pc' := 72) (by decide) (fun hc19 => False.elim (by revert hc19; decide)) (fun hc19 => ?_)
          refine w_iconst ok d7_69 (v := (0 : Int32)) rfl ?_
          refine w_istore ok d7_70 (L' := #[.val (.ref p), .val (.ref n), .val (.int (3 : Int32)), .val (.int (Int32.ofNat ns.length)), .val (.int (0 : Int32)), .unset, .unset, .unset, .unset, .unset, .unset, .unset, .unset]) rfl ?_
          refine w_iload ok d7_72 rfl ?_
          refine w_if_ge ok d7_74 (pc' := 99) (by decide) (fun hc21 => ?_) (fun hc21 => False.elim (by revert hc21; decide))
          refine w_iconst ok d7_99 (v := (-1 : Int32)) rfl ?_
          refine w_istore ok d7_100 (L' := #[.val (.ref p), .val (.ref n), .val (.int (3 : Int32)), .val (.int (Int32.ofNat ns.length)), .val (.int (0 : Int32)), .val (.int (-1 : Int32)), .unset, .unset, .unset, .unset, .unset, .unset, .unset]) rfl ?_
          refine w_iloadN ok d7_102 rfl ?_
          refine w_if_le ok d7_103 (pc' := 117) (by decide) (fun hc23 => False.elim (by revert hc23; decide)) (fun hc23 => ?_)
          refine w_aloadN ok d7_106 rfl rfl ?_
          refine w_iconst ok d7_107 (v := (0 : Int32)) rfl ?_
          refine w_callS ok (y := mn_8) (argsL := [(.ref p), (.int (0 : Int32))]) (rest := []) d7_108 (hw _ (List.mem_of_getElem? (i := 34) rfl)) (hw _ (List.mem_of_getElem? (i := 35) rfl)) (hw _ (List.mem_of_getElem? (i := 4) rfl)) (hw _ (List.mem_of_getElem? (i := 36) rfl)) (by decide) pd_285bBI29Z rfl rfl (by decide) (Nat.le_of_ble_eq_true rfl) (by decide) (by decide) (fun z0 => rm_star l Z a0 hw [] n0 h0 z0 p [x0, x1, x2] A_p 0 (Nat.le_of_ble_eq_true rfl) (Nat.le_of_ble_eq_true rfl)) (fun v24 h25 qv24 => ?_)
          obtain ⟨⟨rfl, t26⟩ | ⟨rfl, t26⟩, rfl⟩ := qv24
          · skip
            replace t26 : x0 = 42 := t26
            show W K l _ n0 _ h0 0 0 111 #[.val (.ref p), .val (.ref n), .val (.int (3 : Int32)), .val (.int (Int32.ofNat ns.length)), .val (.int (0 : Int32)), .val (.int (-1 : Int32)), .unset, .unset, .unset, .unset, .unset, .unset, .unset] [(.int (1 : Int32))]
            refine w_if_eq ok d7_111 (pc' := 117) (by decide) (fun hc28 => False.elim (by revert hc28; decide)) (fun hc28 => ?_)
            refine w_iconst ok d7_114 (v := (0 : Int32)) rfl ?_
            refine w_istore ok d7_115 (L' := #[.val (.ref p), .val (.ref n), .val (.int (3 : Int32)), .val (.int (Int32.ofNat ns.length)), .val (.int (0 : Int32)), .val (.int (0 : Int32)), .unset, .unset, .unset, .unset, .unset, .unset, .unset]) rfl ?_
            refine w_iloadN ok d7_117 rfl ?_
            refine w_iconst ok d7_118 (v := (1 : Int32)) rfl ?_
            refine w_icmp_le ok d7_119 (pc' := 133) (by decide) (fun hc30 => False.elim (by revert hc30; decide)) (fun hc30 => ?_)
            refine w_aloadN ok d7_122 rfl rfl ?_
            refine w_iconst ok d7_123 (v := (1 : Int32)) rfl ?_
            refine w_callS ok (y := mn_8) (argsL := [(.ref p), (.int (1 : Int32))]) (rest := []) d7_124 (hw _ (List.mem_of_getElem? (i := 34) rfl)) (hw _ (List.mem_of_getElem? (i := 35) rfl)) (hw _ (List.mem_of_getElem? (i := 4) rfl)) (hw _ (List.mem_of_getElem? (i := 36) rfl)) (by decide) pd_285bBI29Z rfl rfl (by decide) (Nat.le_of_ble_eq_true rfl) (by decide) (by decide) (fun z0 => rm_star l Z a0 hw [] n0 h0 z0 p [x0, x1, x2] A_p 1 (Nat.le_of_ble_eq_true rfl) (Nat.le_of_ble_eq_true rfl)) (fun v31 h32 qv31 => ?_)
            obtain ⟨⟨rfl, t33⟩ | ⟨rfl, t33⟩, rfl⟩ := qv31
            · skip
              replace t33 : x1 = 42 := t33
              show W K l _ n0 _ h0 0 0 127 #[.val (.ref p), .val (.ref n), .val (.int (3 : Int32)), .val (.int (Int32.ofNat ns.length)), .val (.int (0 : Int32)), .val (.int (0 : Int32)), .unset, .unset, .unset, .unset, .unset, .unset, .unset] [(.int (1 : Int32))]
              refine w_if_eq ok d7_127 (pc' := 133) (by decide) (fun hc35 => False.elim (by revert hc35; decide)) (fun hc35 => ?_)
              refine w_iconst ok d7_130 (v := (1 : Int32)) rfl ?_
              refine w_istore ok d7_131 (L' := #[.val (.ref p), .val (.ref n), .val (.int (3 : Int32)), .val (.int (Int32.ofNat ns.length)), .val (.int (0 : Int32)), .val (.int (1 : Int32)), .unset, .unset, .unset, .unset, .unset, .unset, .unset]) rfl ?_
              refine w_iloadN ok d7_133 rfl ?_
              refine w_iconst ok d7_134 (v := (2 : Int32)) rfl ?_
              refine w_icmp_le ok d7_135 (pc' := 149) (by decide) (fun hc37 => False.elim (by revert hc37; decide)) (fun hc37 => ?_)
              refine w_aloadN ok d7_138 rfl rfl ?_
              refine w_iconst ok d7_139 (v := (2 : Int32)) rfl ?_
              refine w_callS ok (y := mn_8) (argsL := [(.ref p), (.int (2 : Int32))]) (rest := []) d7_140 (hw _ (List.mem_of_getElem? (i := 34) rfl)) (hw _ (List.mem_of_getElem? (i := 35) rfl)) (hw _ (List.mem_of_getElem? (i := 4) rfl)) (hw _ (List.mem_of_getElem? (i := 36) rfl)) (by decide) pd_285bBI29Z rfl rfl (by decide) (Nat.le_of_ble_eq_true rfl) (by decide) (by decide) (fun z0 => rm_star l Z a0 hw [] n0 h0 z0 p [x0, x1, x2] A_p 2 (Nat.le_of_ble_eq_true rfl) (Nat.le_of_ble_eq_true rfl)) (fun v38 h39 qv38 => ?_)
              obtain ⟨⟨rfl, t40⟩ | ⟨rfl, t40⟩, rfl⟩ := qv38
              · skip
                replace t40 : x2 = 42 := t40
                show W K l _ n0 _ h0 0 0 143 #[.val (.ref p), .val (.ref n), .val (.int (3 : Int32)), .val (.int (Int32.ofNat ns.length)), .val (.int (0 : Int32)), .val (.int (1 : Int32)), .unset, .unset, .unset, .unset, .unset, .unset, .unset] [(.int (1 : Int32))]
                refine w_if_eq ok d7_143 (pc' := 149) (by decide) (fun hc42 => False.elim (by revert hc42; decide)) (fun hc42 => ?_)
                refine w_iconst ok d7_146 (v := (2 : Int32)) rfl ?_
                refine w_istore ok d7_147 (L' := #[.val (.ref p), .val (.ref n), .val (.int (3 : Int32)), .val (.int (Int32.ofNat ns.length)), .val (.int (0 : Int32)), .val (.int (2 : Int32)), .unset, .unset, .unset, .unset, .unset, .unset, .unset]) rfl ?_
                refine w_iloadN ok d7_149 rfl ?_
                refine w_iconst ok d7_150 (v := (3 : Int32)) rfl ?_
                refine w_icmp_le ok d7_151 (pc' := 165) (by decide) (fun hc44 => ?_) (fun hc44 => False.elim (by revert hc44; decide))
                refine w_iload ok d7_165 rfl ?_
                refine w_istore ok d7_167 (L' := #[.val (.ref p), .val (.ref n), .val (.int (3 : Int32)), .val (.int (Int32.ofNat ns.length)), .val (.int (0 : Int32)), .val (.int (2 : Int32)), .val (.int (0 : Int32)), .unset, .unset, .unset, .unset, .unset, .unset]) rfl ?_
                refine w_iloadN ok d7_169 rfl ?_
                refine w_iconst ok d7_170 (v := (1 : Int32)) rfl ?_
                refine w_isub ok d7_171 ?_
                show W K l _ n0 _ h0 0 0 172 #[.val (.ref p), .val (.ref n), .val (.int (3 : Int32)), .val (.int (Int32.ofNat ns.length)), .val (.int (0 : Int32)), .val (.int (2 : Int32)), .val (.int (0 : Int32)), .unset, .unset, .unset, .unset, .unset, .unset] [(.int (2 : Int32))]
                refine w_iload ok d7_172 rfl ?_
                refine w_isub ok d7_174 ?_
                show W K l _ n0 _ h0 0 0 175 #[.val (.ref p), .val (.ref n), .val (.int (3 : Int32)), .val (.int (Int32.ofNat ns.length)), .val (.int (0 : Int32)), .val (.int (2 : Int32)), .val (.int (0 : Int32)), .unset, .unset, .unset, .unset, .unset, .unset] [(.int (0 : Int32))]
                refine w_istore ok d7_175 (L' := #[.val (.ref p), .val (.ref n), .val (.int (3 : Int32)), .val (.int (Int32.ofNat ns.length)), .val (.int (0 : Int32)), .val (.int (2 : Int32)), .val (.int (0 : Int32)), .val (.int (0 : Int32)), .unset, .unset, .unset, .unset, .unset]) rfl ?_
                refine w_iloadN ok d7_177 rfl ?_
                refine w_iload ok d7_178 rfl ?_
                refine w_iload ok d7_180 rfl ?_
                refine w_iadd ok d7_182 ?_
                show W K l _ n0 _ h0 0 0 183 #[.val (.ref p), .val (.ref n), .val (.int (3 : Int32)), .val (.int (Int32.ofNat ns.length)), .val (.int (0 : Int32)), .val (.int (2 : Int32)), .val (.int (0 : Int32)), .val (.int (0 : Int32)), .unset, .unset, .unset, .unset, .unset] [(.int (0 : Int32)), (.int (Int32.ofNat ns.length))]
                refine w_icmp_ge ok d7_183 (pc' := 188) (by decide) (fun hc46 => ?_) (fun hc46 => ?_)
                · skip
                  have hge : 0 ≤ ns.length := by have q := hc46; rw [show (0 : Int32) = Int32.ofNat 0 from rfl, own_lt (by omega) (by omega)] at q; omega
                  refine w_aloadN ok d7_188 rfl rfl ?_
                  refine w_iconst ok d7_189 (v := (0 : Int32)) rfl ?_
                  refine w_iload ok d7_190 rfl ?_
                  refine w_aloadN ok d7_192 rfl rfl ?_
                  refine w_iconst ok d7_193 (v := (0 : Int32)) rfl ?_
                  refine w_callS ok (y := mn_9) (argsL := [(.ref p), (.int (0 : Int32)), (.int (0 : Int32)), (.ref n), (.int (0 : Int32))]) (rest := []) d7_194 (hw _ (List.mem_of_getElem? (i := 37) rfl)) (hw _ (List.mem_of_getElem? (i := 38) rfl)) (hw _ (List.mem_of_getElem? (i := 4) rfl)) (hw _ (List.mem_of_getElem? (i := 39) rfl)) (by decide) pd_285bBII5bBI29Z rfl rfl (by decide) (Nat.le_of_ble_eq_true rfl) (by decide) (by decide) (fun z0 => rm_seg l Z a0 hw [] n0 h0 z0 p n [x0, x1, x2] ns A_p A_n 0 0 0 _ rfl (Nat.le_of_ble_eq_true rfl) (by decide) (by omega) (Nat.le_of_ble_eq_true rfl) ln) (fun v47 h48 qv47 => ?_)
                  obtain ⟨⟨rfl, sgp⟩ | ⟨rfl, sgp⟩, rfl⟩ := qv47
                  · skip
                    replace sgp : SGl [] ns 0 := sgp
                    show W K l _ n0 _ h0 0 0 197 #[.val (.ref p), .val (.ref n), .val (.int (3 : Int32)), .val (.int (Int32.ofNat ns.length)), .val (.int (0 : Int32)), .val (.int (2 : Int32)), .val (.int (0 : Int32)), .val (.int (0 : Int32)), .unset, .unset, .unset, .unset, .unset] [(.int (1 : Int32))]
                    refine w_if_ne ok d7_197 (pc' := 202) (by decide) (fun hc50 => ?_) (fun hc50 => False.elim (by revert hc50; decide))
                    refine w_aloadN ok d7_202 rfl rfl ?_
                    refine w_iload ok d7_203 rfl ?_
                    refine w_iconst ok d7_205 (v := (1 : Int32)) rfl ?_
                    refine w_iadd ok d7_206 ?_
                    show W K l _ n0 _ h0 0 0 207 #[.val (.ref p), .val (.ref n), .val (.int (3 : Int32)), .val (.int (Int32.ofNat ns.length)), .val (.int (0 : Int32)), .val (.int (2 : Int32)), .val (.int (0 : Int32)), .val (.int (0 : Int32)), .unset, .unset, .unset, .unset, .unset] [(.int (3 : Int32)), (.ref p)]
                    refine w_iload ok d7_207 rfl ?_
                    refine w_aloadN ok d7_209 rfl rfl ?_
                    refine w_iloadN ok d7_210 rfl ?_
                    refine w_iload ok d7_211 rfl ?_
                    refine w_isub ok d7_213 ?_
                    refine w_callS ok (y := mn_9) (argsL := [(.ref p), (.int (3 : Int32)), (.int (0 : Int32)), (.ref n), (.int ((Int32.ofNat ns.length) - (0 : Int32)))]) (rest := []) d7_214 (hw _ (List.mem_of_getElem? (i := 37) rfl)) (hw _ (List.mem_of_getElem? (i := 38) rfl)) (hw _ (List.mem_of_getElem? (i := 4) rfl)) (hw _ (List.mem_of_getElem? (i := 39) rfl)) (by decide) pd_285bBII5bBI29Z rfl rfl (by decide) (Nat.le_of_ble_eq_true rfl) (by decide) (by decide) (fun z0 => rm_seg l Z a0 hw [] n0 h0 z0 p n [x0, x1, x2] ns A_p A_n 3 0 (ns.length - 0) _ (own_subk (k := 0) rfl (by omega) (by omega)) (Nat.le_of_ble_eq_true rfl) (by decide) (by omega) (Nat.le_of_ble_eq_true rfl) ln) (fun v51 h52 qv51 => ?_)
                    obtain ⟨⟨rfl, sgs⟩ | ⟨rfl, sgs⟩, rfl⟩ := qv51
                    · skip
                      replace sgs : SGl [] ns (ns.length - 0) := sgs
                      show W K l _ n0 _ h0 0 0 217 #[.val (.ref p), .val (.ref n), .val (.int (3 : Int32)), .val (.int (Int32.ofNat ns.length)), .val (.int (0 : Int32)), .val (.int (2 : Int32)), .val (.int (0 : Int32)), .val (.int (0 : Int32)), .unset, .unset, .unset, .unset, .unset] [(.int (1 : Int32))]
                      refine w_if_ne ok d7_217 (pc' := 222) (by decide) (fun hc54 => ?_) (fun hc54 => False.elim (by revert hc54; decide))
                      refine w_iload ok d7_222 rfl ?_
                      refine w_iload ok d7_224 rfl ?_
                      refine w_isub ok d7_226 ?_
                      show W K l _ n0 _ h0 0 0 227 #[.val (.ref p), .val (.ref n), .val (.int (3 : Int32)), .val (.int (Int32.ofNat ns.length)), .val (.int (0 : Int32)), .val (.int (2 : Int32)), .val (.int (0 : Int32)), .val (.int (0 : Int32)), .unset, .unset, .unset, .unset, .unset] [(.int (2 : Int32))]
                      refine w_iconst ok d7_227 (v := (1 : Int32)) rfl ?_
                      refine w_isub ok d7_228 ?_
                      show W K l _ n0 _ h0 0 0 229 #[.val (.ref p), .val (.ref n), .val (.int (3 : Int32)), .val (.int (Int32.ofNat ns.length)), .val (.int (0 : Int32)), .val (.int (2 : Int32)), .val (.int (0 : Int32)), .val (.int (0 : Int32)), .unset, .unset, .unset, .unset, .unset] [(.int (1 : Int32))]
                      refine w_istore ok d7_229 (L' := #[.val (.ref p), .val (.ref n), .val (.int (3 : Int32)), .val (.int (Int32.ofNat ns.length)), .val (.int (0 : Int32)), .val (.int (2 : Int32)), .val (.int (0 : Int32)), .val (.int (0 : Int32)), .val (.int (1 : Int32)), .unset, .unset, .unset, .unset]) rfl ?_
                      refine w_iload ok d7_231 rfl ?_
                      refine w_iconst ok d7_233 (v := (1 : Int32)) rfl ?_
                      refine w_iadd ok d7_234 ?_
                      show W K l _ n0 _ h0 0 0 235 #[.val (.ref p), .val (.ref n), .val (.int (3 : Int32)), .val (.int (Int32.ofNat ns.length)), .val (.int (0 : Int32)), .val (.int (2 : Int32)), .val (.int (0 : Int32)), .val (.int (0 : Int32)), .val (.int (1 : Int32)), .unset, .unset, .unset, .unset] [(.int (1 : Int32))]
                      refine w_istore ok d7_235 (L' := #[.val (.ref p), .val (.ref n), .val (.int (3 : Int32)), .val (.int (Int32.ofNat ns.length)), .val (.int (0 : Int32)), .val (.int (2 : Int32)), .val (.int (0 : Int32)), .val (.int (0 : Int32)), .val (.int (1 : Int32)), .val (.int (1 : Int32)), .unset, .unset, .unset]) rfl ?_
                      refine w_iconst ok d7_237 (v := (0 : Int32)) rfl ?_
                      refine w_istore ok d7_238 (L' := #[.val (.ref p), .val (.ref n), .val (.int (3 : Int32)), .val (.int (Int32.ofNat ns.length)), .val (.int (0 : Int32)), .val (.int (2 : Int32)), .val (.int (0 : Int32)), .val (.int (0 : Int32)), .val (.int (1 : Int32)), .val (.int (1 : Int32)), .val (.int (0 : Int32)), .unset, .unset]) rfl ?_
                      refine w_iload ok d7_240 rfl ?_
                      refine w_iconst ok d7_242 (v := (1 : Int32)) rfl ?_
                      refine w_icmp_ne ok d7_243 (pc' := 263) (by decide) (fun hc56 => False.elim (by revert hc56; decide)) (fun hc56 => ?_)
                      refine w_aloadN ok d7_246 rfl rfl ?_
                      refine w_iload ok d7_247 rfl ?_
                      refine w_iconst ok d7_249 (v := (1 : Int32)) rfl ?_
                      refine w_iadd ok d7_250 ?_
                      show W K l _ n0 _ h0 0 0 251 #[.val (.ref p), .val (.ref n), .val (.int (3 : Int32)), .val (.int (Int32.ofNat ns.length)), .val (.int (0 : Int32)), .val (.int (2 : Int32)), .val (.int (0 : Int32)), .val (.int (0 : Int32)), .val (.int (1 : Int32)), .val (.int (1 : Int32)), .val (.int (0 : Int32)), .unset, .unset] [(.int (1 : Int32)), (.ref p)]
                      refine w_callS ok (y := mn_8) (argsL := [(.ref p), (.int (1 : Int32))]) (rest := []) d7_251 (hw _ (List.mem_of_getElem? (i := 34) rfl)) (hw _ (List.mem_of_getElem? (i := 35) rfl)) (hw _ (List.mem_of_getElem? (i := 4) rfl)) (hw _ (List.mem_of_getElem? (i := 36) rfl)) (by decide) pd_285bBI29Z rfl rfl (by decide) (Nat.le_of_ble_eq_true rfl) (by decide) (by decide) (fun z0 => rm_star l Z a0 hw [] n0 h0 z0 p [x0, x1, x2] A_p 1 (Nat.le_of_ble_eq_true rfl) (Nat.le_of_ble_eq_true rfl)) (fun v57 h58 qv57 => ?_)
                      obtain ⟨⟨rfl, t59⟩ | ⟨rfl, t59⟩, rfl⟩ := qv57
                      · skip
                        replace t59 : x1 = 42 := t59
                        show W K l _ n0 _ h0 0 0 254 #[.val (.ref p), .val (.ref n), .val (.int (3 : Int32)), .val (.int (Int32.ofNat ns.length)), .val (.int (0 : Int32)), .val (.int (2 : Int32)), .val (.int (0 : Int32)), .val (.int (0 : Int32)), .val (.int (1 : Int32)), .val (.int (1 : Int32)), .val (.int (0 : Int32)), .unset, .unset] [(.int (1 : Int32))]
                        refine w_if_ne ok d7_254 (pc' := 340) (by decide) (fun hc61 => ?_) (fun hc61 => False.elim (by revert hc61; decide))
                        refine w_iload ok d7_340 rfl ?_
                        refine w_if_ne ok d7_342 (pc' := 347) (by decide) (fun hc63 => False.elim (by revert hc63; decide)) (fun hc63 => ?_)
                        refine w_iconst ok d7_345 (v := (1 : Int32)) rfl ?_
                        refine w_bret ok (by simp) d7_346 (by decide) (by decide) ?_
                        subst s0 s1 s2
                        have key : Gi ns [42, 42, 42] 0 ↔ _ := Iff.trans (Gi_congr (fun i => Gi_cc (ns := ns) (Q := 42 :: []) (i := i)) [] 0) (own_two (ns := ns) (P := []) (R := []) (Q := []) NoS_nil NoS_nil NoS_nil)
                        exact ⟨Or.inl ⟨rfl, key.mpr ⟨hge, sgp, sgs, 0, Nat.le_refl _, (show 0 + 0 ≤ ns.length - 0 by omega), SGl_nil.mpr (by omega)⟩⟩, rfl⟩
                      · exact absurd s1 t59
                    · skip
                      replace sgs : ¬ (SGl [] ns (ns.length - 0)) := sgs
                      show W K l _ n0 _ h0 0 0 217 #[.val (.ref p), .val (.ref n), .val (.int (3 : Int32)), .val (.int (Int32.ofNat ns.length)), .val (.int (0 : Int32)), .val (.int (2 : Int32)), .val (.int (0 : Int32)), .val (.int (0 : Int32)), .unset, .unset, .unset, .unset, .unset] [(.int (0 : Int32))]
                      refine w_if_ne ok d7_217 (pc' := 222) (by decide) (fun hc65 => False.elim (by revert hc65; decide)) (fun hc65 => ?_)
                      refine w_iconst ok d7_220 (v := (0 : Int32)) rfl ?_
                      refine w_bret ok (by simp) d7_221 (by decide) (by decide) ?_
                      subst s0 s1 s2
                      have key : Gi ns [42, 42, 42] 0 ↔ _ := Iff.trans (Gi_congr (fun i => Gi_cc (ns := ns) (Q := 42 :: []) (i := i)) [] 0) (own_two (ns := ns) (P := []) (R := []) (Q := []) NoS_nil NoS_nil NoS_nil)
                      exact ⟨Or.inr ⟨rfl, fun q => sgs (key.mp q).2.2.1⟩, rfl⟩
                  · skip
                    replace sgp : ¬ (SGl [] ns 0) := sgp
                    show W K l _ n0 _ h0 0 0 197 #[.val (.ref p), .val (.ref n), .val (.int (3 : Int32)), .val (.int (Int32.ofNat ns.length)), .val (.int (0 : Int32)), .val (.int (2 : Int32)), .val (.int (0 : Int32)), .val (.int (0 : Int32)), .unset, .unset, .unset, .unset, .unset] [(.int (0 : Int32))]
                    refine w_if_ne ok d7_197 (pc' := 202) (by decide) (fun hc67 => False.elim (by revert hc67; decide)) (fun hc67 => ?_)
                    refine w_iconst ok d7_200 (v := (0 : Int32)) rfl ?_
                    refine w_bret ok (by simp) d7_201 (by decide) (by decide) ?_
                    subst s0 s1 s2
                    have key : Gi ns [42, 42, 42] 0 ↔ _ := Iff.trans (Gi_congr (fun i => Gi_cc (ns := ns) (Q := 42 :: []) (i := i)) [] 0) (own_two (ns := ns) (P := []) (R := []) (Q := []) NoS_nil NoS_nil NoS_nil)
                    exact ⟨Or.inr ⟨rfl, fun q => sgp (key.mp q).2.1⟩, rfl⟩
                · skip
                  refine w_iconst ok d7_186 (v := (0 : Int32)) rfl ?_
                  refine w_bret ok (by simp) d7_187 (by decide) (by decide) ?_
                  subst s0 s1 s2
                  have key : Gi ns [42, 42, 42] 0 ↔ _ := Iff.trans (Gi_congr (fun i => Gi_cc (ns := ns) (Q := 42 :: []) (i := i)) [] 0) (own_two (ns := ns) (P := []) (R := []) (Q := []) NoS_nil NoS_nil NoS_nil)
                  refine ⟨Or.inr ⟨rfl, fun q => ?_⟩, rfl⟩
                  have q1 : 0 + 0 ≤ ns.length := (key.mp q).1
                  have q2 := hc46; rw [show (0 : Int32) = Int32.ofNat 0 from rfl, own_lt (by omega) (by omega)] at q2; omega
              · exact absurd s2 t40
            · exact absurd s1 t33
          · exact absurd s0 t26
        · skip
          replace s0 : ¬ (x0 = 42) := s0
          show W K l _ n0 _ h0 0 0 66 #[.val (.ref p), .val (.ref n), .val (.int (3 : Int32)), .val (.int (Int32.ofNat ns.length)), .val (.int (1 : Int32)), .unset, .unset, .unset, .unset, .unset, .unset, .unset, .unset] [(.int (0 : Int32))]
          refine w_if_eq ok d7_66 (pc' := 72) (by decide) (fun hc69 => ?_) (fun hc69 => False.elim (by revert hc69; decide))
          refine w_iload ok d7_72 rfl ?_
          refine w_if_ge ok d7_74 (pc' := 99) (by decide) (fun hc71 => ?_) (fun hc71 => False.elim (by revert hc71; decide))
          refine w_iconst ok d7_99 (v := (-1 : Int32)) rfl ?_
          refine w_istore ok d7_100 (L' := #[.val (.ref p), .val (.ref n), .val (.int (3 : Int32)), .val (.int (Int32.ofNat ns.length)), .val (.int (1 : Int32)), .val (.int (-1 : Int32)), .unset, .unset, .unset, .unset, .unset, .unset, .unset]) rfl ?_
          refine w_iloadN ok d7_102 rfl ?_
          refine w_if_le ok d7_103 (pc' := 117) (by decide) (fun hc73 => False.elim (by revert hc73; decide)) (fun hc73 => ?_)
          refine w_aloadN ok d7_106 rfl rfl ?_
          refine w_iconst ok d7_107 (v := (0 : Int32)) rfl ?_
          refine w_callS ok (y := mn_8) (argsL := [(.ref p), (.int (0 : Int32))]) (rest := []) d7_108 (hw _ (List.mem_of_getElem? (i := 34) rfl)) (hw _ (List.mem_of_getElem? (i := 35) rfl)) (hw _ (List.mem_of_getElem? (i := 4) rfl)) (hw _ (List.mem_of_getElem? (i := 36) rfl)) (by decide) pd_285bBI29Z rfl rfl (by decide) (Nat.le_of_ble_eq_true rfl) (by decide) (by decide) (fun z0 => rm_star l Z a0 hw [] n0 h0 z0 p [x0, x1, x2] A_p 0 (Nat.le_of_ble_eq_true rfl) (Nat.le_of_ble_eq_true rfl)) (fun v74 h75 qv74 => ?_)
          obtain ⟨⟨rfl, t76⟩ | ⟨rfl, t76⟩, rfl⟩ := qv74
          · exact absurd t76 s0
          · skip
            replace t76 : ¬ (x0 = 42) := t76
            show W K l _ n0 _ h0 0 0 111 #[.val (.ref p), .val (.ref n), .val (.int (3 : Int32)), .val (.int (Int32.ofNat ns.length)), .val (.int (1 : Int32)), .val (.int (-1 : Int32)), .unset, .unset, .unset, .unset, .unset, .unset, .unset] [(.int (0 : Int32))]
            refine w_if_eq ok d7_111 (pc' := 117) (by decide) (fun hc78 => ?_) (fun hc78 => False.elim (by revert hc78; decide))
            refine w_iloadN ok d7_117 rfl ?_
            refine w_iconst ok d7_118 (v := (1 : Int32)) rfl ?_
            refine w_icmp_le ok d7_119 (pc' := 133) (by decide) (fun hc80 => False.elim (by revert hc80; decide)) (fun hc80 => ?_)
            refine w_aloadN ok d7_122 rfl rfl ?_
            refine w_iconst ok d7_123 (v := (1 : Int32)) rfl ?_
            refine w_callS ok (y := mn_8) (argsL := [(.ref p), (.int (1 : Int32))]) (rest := []) d7_124 (hw _ (List.mem_of_getElem? (i := 34) rfl)) (hw _ (List.mem_of_getElem? (i := 35) rfl)) (hw _ (List.mem_of_getElem? (i := 4) rfl)) (hw _ (List.mem_of_getElem? (i := 36) rfl)) (by decide) pd_285bBI29Z rfl rfl (by decide) (Nat.le_of_ble_eq_true rfl) (by decide) (by decide) (fun z0 => rm_star l Z a0 hw [] n0 h0 z0 p [x0, x1, x2] A_p 1 (Nat.le_of_ble_eq_true rfl) (Nat.le_of_ble_eq_true rfl)) (fun v81 h82 qv81 => ?_)
            obtain ⟨⟨rfl, t83⟩ | ⟨rfl, t83⟩, rfl⟩ := qv81
            · skip
              replace t83 : x1 = 42 := t83
              show W K l _ n0 _ h0 0 0 127 #[.val (.ref p), .val (.ref n), .val (.int (3 : Int32)), .val (.int (Int32.ofNat ns.length)), .val (.int (1 : Int32)), .val (.int (-1 : Int32)), .unset, .unset, .unset, .unset, .unset, .unset, .unset] [(.int (1 : Int32))]
              refine w_if_eq ok d7_127 (pc' := 133) (by decide) (fun hc85 => False.elim (by revert hc85; decide)) (fun hc85 => ?_)
              refine w_iconst ok d7_130 (v := (1 : Int32)) rfl ?_
              refine w_istore ok d7_131 (L' := #[.val (.ref p), .val (.ref n), .val (.int (3 : Int32)), .val (.int (Int32.ofNat ns.length)), .val (.int (1 : Int32)), .val (.int (1 : Int32)), .unset, .unset, .unset, .unset, .unset, .unset, .unset]) rfl ?_
              refine w_iloadN ok d7_133 rfl ?_
              refine w_iconst ok d7_134 (v := (2 : Int32)) rfl ?_
              refine w_icmp_le ok d7_135 (pc' := 149) (by decide) (fun hc87 => False.elim (by revert hc87; decide)) (fun hc87 => ?_)
              refine w_aloadN ok d7_138 rfl rfl ?_
              refine w_iconst ok d7_139 (v := (2 : Int32)) rfl ?_
              refine w_callS ok (y := mn_8) (argsL := [(.ref p), (.int (2 : Int32))]) (rest := []) d7_140 (hw _ (List.mem_of_getElem? (i := 34) rfl)) (hw _ (List.mem_of_getElem? (i := 35) rfl)) (hw _ (List.mem_of_getElem? (i := 4) rfl)) (hw _ (List.mem_of_getElem? (i := 36) rfl)) (by decide) pd_285bBI29Z rfl rfl (by decide) (Nat.le_of_ble_eq_true rfl) (by decide) (by decide) (fun z0 => rm_star l Z a0 hw [] n0 h0 z0 p [x0, x1, x2] A_p 2 (Nat.le_of_ble_eq_true rfl) (Nat.le_of_ble_eq_true rfl)) (fun v88 h89 qv88 => ?_)
              obtain ⟨⟨rfl, t90⟩ | ⟨rfl, t90⟩, rfl⟩ := qv88
              · skip
                replace t90 : x2 = 42 := t90
                show W K l _ n0 _ h0 0 0 143 #[.val (.ref p), .val (.ref n), .val (.int (3 : Int32)), .val (.int (Int32.ofNat ns.length)), .val (.int (1 : Int32)), .val (.int (1 : Int32)), .unset, .unset, .unset, .unset, .unset, .unset, .unset] [(.int (1 : Int32))]
                refine w_if_eq ok d7_143 (pc' := 149) (by decide) (fun hc92 => False.elim (by revert hc92; decide)) (fun hc92 => ?_)
                refine w_iconst ok d7_146 (v := (2 : Int32)) rfl ?_
                refine w_istore ok d7_147 (L' := #[.val (.ref p), .val (.ref n), .val (.int (3 : Int32)), .val (.int (Int32.ofNat ns.length)), .val (.int (1 : Int32)), .val (.int (2 : Int32)), .unset, .unset, .unset, .unset, .unset, .unset, .unset]) rfl ?_
                refine w_iloadN ok d7_149 rfl ?_
                refine w_iconst ok d7_150 (v := (3 : Int32)) rfl ?_
                refine w_icmp_le ok d7_151 (pc' := 165) (by decide) (fun hc94 => ?_) (fun hc94 => False.elim (by revert hc94; decide))
                refine w_iload ok d7_165 rfl ?_
                refine w_istore ok d7_167 (L' := #[.val (.ref p), .val (.ref n), .val (.int (3 : Int32)), .val (.int (Int32.ofNat ns.length)), .val (.int (1 : Int32)), .val (.int (2 : Int32)), .val (.int (1 : Int32)), .unset, .unset, .unset, .unset, .unset, .unset]) rfl ?_
                refine w_iloadN ok d7_169 rfl ?_
                refine w_iconst ok d7_170 (v := (1 : Int32)) rfl ?_
                refine w_isub ok d7_171 ?_
                show W K l _ n0 _ h0 0 0 172 #[.val (.ref p), .val (.ref n), .val (.int (3 : Int32)), .val (.int (Int32.ofNat ns.length)), .val (.int (1 : Int32)), .val (.int (2 : Int32)), .val (.int (1 : Int32)), .unset, .unset, .unset, .unset, .unset, .unset] [(.int (2 : Int32))]
                refine w_iload ok d7_172 rfl ?_
                refine w_isub ok d7_174 ?_
                show W K l _ n0 _ h0 0 0 175 #[.val (.ref p), .val (.ref n), .val (.int (3 : Int32)), .val (.int (Int32.ofNat ns.length)), .val (.int (1 : Int32)), .val (.int (2 : Int32)), .val (.int (1 : Int32)), .unset, .unset, .unset, .unset, .unset, .unset] [(.int (0 : Int32))]
                refine w_istore ok d7_175 (L' := #[.val (.ref p), .val (.ref n), .val (.int (3 : Int32)), .val (.int (Int32.ofNat ns.length)), .val (.int (1 : Int32)), .val (.int (2 : Int32)), .val (.int (1 : Int32)), .val (.int (0 : Int32)), .unset, .unset, .unset, .unset, .unset]) rfl ?_
                refine w_iloadN ok d7_177 rfl ?_
                refine w_iload ok d7_178 rfl ?_
                refine w_iload ok d7_180 rfl ?_
                refine w_iadd ok d7_182 ?_
                show W K l _ n0 _ h0 0 0 183 #[.val (.ref p), .val (.ref n), .val (.int (3 : Int32)), .val (.int (Int32.ofNat ns.length)), .val (.int (1 : Int32)), .val (.int (2 : Int32)), .val (.int (1 : Int32)), .val (.int (0 : Int32)), .unset, .unset, .unset, .unset, .unset] [(.int (1 : Int32)), (.int (Int32.ofNat ns.length))]
                refine w_icmp_ge ok d7_183 (pc' := 188) (by decide) (fun hc96 => ?_) (fun hc96 => ?_)
                · skip
                  have hge : 1 ≤ ns.length := by have q := hc96; rw [show (1 : Int32) = Int32.ofNat 1 from rfl, own_lt (by omega) (by omega)] at q; omega
                  refine w_aloadN ok d7_188 rfl rfl ?_
                  refine w_iconst ok d7_189 (v := (0 : Int32)) rfl ?_
                  refine w_iload ok d7_190 rfl ?_
                  refine w_aloadN ok d7_192 rfl rfl ?_
                  refine w_iconst ok d7_193 (v := (0 : Int32)) rfl ?_
                  refine w_callS ok (y := mn_9) (argsL := [(.ref p), (.int (0 : Int32)), (.int (1 : Int32)), (.ref n), (.int (0 : Int32))]) (rest := []) d7_194 (hw _ (List.mem_of_getElem? (i := 37) rfl)) (hw _ (List.mem_of_getElem? (i := 38) rfl)) (hw _ (List.mem_of_getElem? (i := 4) rfl)) (hw _ (List.mem_of_getElem? (i := 39) rfl)) (by decide) pd_285bBII5bBI29Z rfl rfl (by decide) (Nat.le_of_ble_eq_true rfl) (by decide) (by decide) (fun z0 => rm_seg l Z a0 hw [] n0 h0 z0 p n [x0, x1, x2] ns A_p A_n 0 1 0 _ rfl (Nat.le_of_ble_eq_true rfl) (by decide) (by omega) (Nat.le_of_ble_eq_true rfl) ln) (fun v97 h98 qv97 => ?_)
                  obtain ⟨⟨rfl, sgp⟩ | ⟨rfl, sgp⟩, rfl⟩ := qv97
                  · skip
                    replace sgp : SGl [x0] ns 0 := sgp
                    show W K l _ n0 _ h0 0 0 197 #[.val (.ref p), .val (.ref n), .val (.int (3 : Int32)), .val (.int (Int32.ofNat ns.length)), .val (.int (1 : Int32)), .val (.int (2 : Int32)), .val (.int (1 : Int32)), .val (.int (0 : Int32)), .unset, .unset, .unset, .unset, .unset] [(.int (1 : Int32))]
                    refine w_if_ne ok d7_197 (pc' := 202) (by decide) (fun hc100 => ?_) (fun hc100 => False.elim (by revert hc100; decide))
                    refine w_aloadN ok d7_202 rfl rfl ?_
                    refine w_iload ok d7_203 rfl ?_
                    refine w_iconst ok d7_205 (v := (1 : Int32)) rfl ?_
                    refine w_iadd ok d7_206 ?_
                    show W K l _ n0 _ h0 0 0 207 #[.val (.ref p), .val (.ref n), .val (.int (3 : Int32)), .val (.int (Int32.ofNat ns.length)), .val (.int (1 : Int32)), .val (.int (2 : Int32)), .val (.int (1 : Int32)), .val (.int (0 : Int32)), .unset, .unset, .unset, .unset, .unset] [(.int (3 : Int32)), (.ref p)]
                    refine w_iload ok d7_207 rfl ?_
                    refine w_aloadN ok d7_209 rfl rfl ?_
                    refine w_iloadN ok d7_210 rfl ?_
                    refine w_iload ok d7_211 rfl ?_
                    refine w_isub ok d7_213 ?_
                    refine w_callS ok (y := mn_9) (argsL := [(.ref p), (.int (3 : Int32)), (.int (0 : Int32)), (.ref n), (.int ((Int32.ofNat ns.length) - (0 : Int32)))]) (rest := []) d7_214 (hw _ (List.mem_of_getElem? (i := 37) rfl)) (hw _ (List.mem_of_getElem? (i := 38) rfl)) (hw _ (List.mem_of_getElem? (i := 4) rfl)) (hw _ (List.mem_of_getElem? (i := 39) rfl)) (by decide) pd_285bBII5bBI29Z rfl rfl (by decide) (Nat.le_of_ble_eq_true rfl) (by decide) (by decide) (fun z0 => rm_seg l Z a0 hw [] n0 h0 z0 p n [x0, x1, x2] ns A_p A_n 3 0 (ns.length - 0) _ (own_subk (k := 0) rfl (by omega) (by omega)) (Nat.le_of_ble_eq_true rfl) (by decide) (by omega) (Nat.le_of_ble_eq_true rfl) ln) (fun v101 h102 qv101 => ?_)
                    obtain ⟨⟨rfl, sgs⟩ | ⟨rfl, sgs⟩, rfl⟩ := qv101
                    · skip
                      replace sgs : SGl [] ns (ns.length - 0) := sgs
                      show W K l _ n0 _ h0 0 0 217 #[.val (.ref p), .val (.ref n), .val (.int (3 : Int32)), .val (.int (Int32.ofNat ns.length)), .val (.int (1 : Int32)), .val (.int (2 : Int32)), .val (.int (1 : Int32)), .val (.int (0 : Int32)), .unset, .unset, .unset, .unset, .unset] [(.int (1 : Int32))]
                      refine w_if_ne ok d7_217 (pc' := 222) (by decide) (fun hc104 => ?_) (fun hc104 => False.elim (by revert hc104; decide))
                      refine w_iload ok d7_222 rfl ?_
                      refine w_iload ok d7_224 rfl ?_
                      refine w_isub ok d7_226 ?_
                      show W K l _ n0 _ h0 0 0 227 #[.val (.ref p), .val (.ref n), .val (.int (3 : Int32)), .val (.int (Int32.ofNat ns.length)), .val (.int (1 : Int32)), .val (.int (2 : Int32)), .val (.int (1 : Int32)), .val (.int (0 : Int32)), .unset, .unset, .unset, .unset, .unset] [(.int (1 : Int32))]
                      refine w_iconst ok d7_227 (v := (1 : Int32)) rfl ?_
                      refine w_isub ok d7_228 ?_
                      show W K l _ n0 _ h0 0 0 229 #[.val (.ref p), .val (.ref n), .val (.int (3 : Int32)), .val (.int (Int32.ofNat ns.length)), .val (.int (1 : Int32)), .val (.int (2 : Int32)), .val (.int (1 : Int32)), .val (.int (0 : Int32)), .unset, .unset, .unset, .unset, .unset] [(.int (0 : Int32))]
                      refine w_istore ok d7_229 (L' := #[.val (.ref p), .val (.ref n), .val (.int (3 : Int32)), .val (.int (Int32.ofNat ns.length)), .val (.int (1 : Int32)), .val (.int (2 : Int32)), .val (.int (1 : Int32)), .val (.int (0 : Int32)), .val (.int (0 : Int32)), .unset, .unset, .unset, .unset]) rfl ?_
                      refine w_iload ok d7_231 rfl ?_
                      refine w_iconst ok d7_233 (v := (1 : Int32)) rfl ?_
                      refine w_iadd ok d7_234 ?_
                      show W K l _ n0 _ h0 0 0 235 #[.val (.ref p), .val (.ref n), .val (.int (3 : Int32)), .val (.int (Int32.ofNat ns.length)), .val (.int (1 : Int32)), .val (.int (2 : Int32)), .val (.int (1 : Int32)), .val (.int (0 : Int32)), .val (.int (0 : Int32)), .unset, .unset, .unset, .unset] [(.int (2 : Int32))]
                      refine w_istore ok d7_235 (L' := #[.val (.ref p), .val (.ref n), .val (.int (3 : Int32)), .val (.int (Int32.ofNat ns.length)), .val (.int (1 : Int32)), .val (.int (2 : Int32)), .val (.int (1 : Int32)), .val (.int (0 : Int32)), .val (.int (0 : Int32)), .val (.int (2 : Int32)), .unset, .unset, .unset]) rfl ?_
                      refine w_iconst ok d7_237 (v := (0 : Int32)) rfl ?_
                      refine w_istore ok d7_238 (L' := #[.val (.ref p), .val (.ref n), .val (.int (3 : Int32)), .val (.int (Int32.ofNat ns.length)), .val (.int (1 : Int32)), .val (.int (2 : Int32)), .val (.int (1 : Int32)), .val (.int (0 : Int32)), .val (.int (0 : Int32)), .val (.int (2 : Int32)), .val (.int (0 : Int32)), .unset, .unset]) rfl ?_
                      refine w_iload ok d7_240 rfl ?_
                      refine w_iconst ok d7_242 (v := (1 : Int32)) rfl ?_
                      refine w_icmp_ne ok d7_243 (pc' := 263) (by decide) (fun hc106 => ?_) (fun hc106 => False.elim (by revert hc106; decide))
                      refine w_iload ok d7_263 rfl ?_
                      refine w_iconst ok d7_265 (v := (2 : Int32)) rfl ?_
                      refine w_icmp_ne ok d7_266 (pc' := 340) (by decide) (fun hc108 => ?_) (fun hc108 => False.elim (by revert hc108; decide))
                      refine w_iload ok d7_340 rfl ?_
                      refine w_if_ne ok d7_342 (pc' := 347) (by decide) (fun hc110 => False.elim (by revert hc110; decide)) (fun hc110 => ?_)
                      refine w_iconst ok d7_345 (v := (1 : Int32)) rfl ?_
                      refine w_bret ok (by simp) d7_346 (by decide) (by decide) ?_
                      subst s1 s2
                      have key : Gi ns [x0, 42, 42] 0 ↔ _ := (own_two (ns := ns) (P := [x0]) (R := []) (Q := []) (NoS_cons s0 NoS_nil) NoS_nil NoS_nil)
                      exact ⟨Or.inl ⟨rfl, key.mpr ⟨hge, sgp, sgs, 1, Nat.le_refl _, (show 1 + 0 ≤ ns.length - 0 by omega), SGl_nil.mpr (by omega)⟩⟩, rfl⟩
                    · skip
                      replace sgs : ¬ (SGl [] ns (ns.length - 0)) := sgs
                      show W K l _ n0 _ h0 0 0 217 #[.val (.ref p), .val (.ref n), .val (.int (3 : Int32)), .val (.int (Int32.ofNat ns.length)), .val (.int (1 : Int32)), .val (.int (2 : Int32)), .val (.int (1 : Int32)), .val (.int (0 : Int32)), .unset, .unset, .unset, .unset, .unset] [(.int (0 : Int32))]
                      refine w_if_ne ok d7_217 (pc' := 222) (by decide) (fun hc112 => False.elim (by revert hc112; decide)) (fun hc112 => ?_)
                      refine w_iconst ok d7_220 (v := (0 : Int32)) rfl ?_
                      refine w_bret ok (by simp) d7_221 (by decide) (by decide) ?_
                      subst s1 s2
                      have key : Gi ns [x0, 42, 42] 0 ↔ _ := (own_two (ns := ns) (P := [x0]) (R := []) (Q := []) (NoS_cons s0 NoS_nil) NoS_nil NoS_nil)
                      exact ⟨Or.inr ⟨rfl, fun q => sgs (key.mp q).2.2.1⟩, rfl⟩
                  · skip
                    replace sgp : ¬ (SGl [x0] ns 0) := sgp
                    show W K l _ n0 _ h0 0 0 197 #[.val (.ref p), .val (.ref n), .val (.int (3 : Int32)), .val (.int (Int32.ofNat ns.length)), .val (.int (1 : Int32)), .val (.int (2 : Int32)), .val (.int (1 : Int32)), .val (.int (0 : Int32)), .unset, .unset, .unset, .unset, .unset] [(.int (0 : Int32))]
                    refine w_if_ne ok d7_197 (pc' := 202) (by decide) (fun hc114 => False.elim (by revert hc114; decide)) (fun hc114 => ?_)
                    refine w_iconst ok d7_200 (v := (0 : Int32)) rfl ?_
                    refine w_bret ok (by simp) d7_201 (by decide) (by decide) ?_
                    subst s1 s2
                    have key : Gi ns [x0, 42, 42] 0 ↔ _ := (own_two (ns := ns) (P := [x0]) (R := []) (Q := []) (NoS_cons s0 NoS_nil) NoS_nil NoS_nil)
                    exact ⟨Or.inr ⟨rfl, fun q => sgp (key.mp q).2.1⟩, rfl⟩
                · skip
                  refine w_iconst ok d7_186 (v := (0 : Int32)) rfl ?_
                  refine w_bret ok (by simp) d7_187 (by decide) (by decide) ?_
                  subst s1 s2
                  have key : Gi ns [x0, 42, 42] 0 ↔ _ := (own_two (ns := ns) (P := [x0]) (R := []) (Q := []) (NoS_cons s0 NoS_nil) NoS_nil NoS_nil)
                  refine ⟨Or.inr ⟨rfl, fun q => ?_⟩, rfl⟩
                  have q1 : 1 + 0 ≤ ns.length := (key.mp q).1
                  have q2 := hc96; rw [show (1 : Int32) = Int32.ofNat 1 from rfl, own_lt (by omega) (by omega)] at q2; omega
              · exact absurd s2 t90
            · exact absurd s1 t83
      · skip
        replace s1 : ¬ (x1 = 42) := s1
        show W K l _ n0 _ h0 0 0 51 #[.val (.ref p), .val (.ref n), .val (.int (3 : Int32)), .val (.int (Int32.ofNat ns.length)), .val (.int (2 : Int32)), .unset, .unset, .unset, .unset, .unset, .unset, .unset, .unset] [(.int (0 : Int32))]
        refine w_if_eq ok d7_51 (pc' := 57) (by decide) (fun hc116 => ?_) (fun hc116 => False.elim (by revert hc116; decide))
        refine w_iloadN ok d7_57 rfl ?_
        refine w_if_le ok d7_58 (pc' := 72) (by decide) (fun hc118 => False.elim (by revert hc118; decide)) (fun hc118 => ?_)
        refine w_aloadN ok d7_61 rfl rfl ?_
        refine w_iconst ok d7_62 (v := (0 : Int32)) rfl ?_
        refine w_callS ok (y := mn_8) (argsL := [(.ref p), (.int (0 : Int32))]) (rest := []) d7_63 (hw _ (List.mem_of_getElem? (i := 34) rfl)) (hw _ (List.mem_of_getElem? (i := 35) rfl)) (hw _ (List.mem_of_getElem? (i := 4) rfl)) (hw _ (List.mem_of_getElem? (i := 36) rfl)) (by decide) pd_285bBI29Z rfl rfl (by decide) (Nat.le_of_ble_eq_true rfl) (by decide) (by decide) (fun z0 => rm_star l Z a0 hw [] n0 h0 z0 p [x0, x1, x2] A_p 0 (Nat.le_of_ble_eq_true rfl) (Nat.le_of_ble_eq_true rfl)) (fun v119 h120 qv119 => ?_)
        obtain ⟨⟨rfl, s0⟩ | ⟨rfl, s0⟩, rfl⟩ := qv119
        · skip
          replace s0 : x0 = 42 := s0
          show W K l _ n0 _ h0 0 0 66 #[.val (.ref p), .val (.ref n), .val (.int (3 : Int32)), .val (.int (Int32.ofNat ns.length)), .val (.int (2 : Int32)), .unset, .unset, .unset, .unset, .unset, .unset, .unset, .unset] [(.int (1 : Int32))]
          refine w_if_eq ok d7_66 (pc' := 72) (by decide) (fun hc122 => False.elim (by revert hc122; decide)) (fun hc122 => ?_)
          refine w_iconst ok d7_69 (v := (0 : Int32)) rfl ?_
          refine w_istore ok d7_70 (L' := #[.val (.ref p), .val (.ref n), .val (.int (3 : Int32)), .val (.int (Int32.ofNat ns.length)), .val (.int (0 : Int32)), .unset, .unset, .unset, .unset, .unset, .unset, .unset, .unset]) rfl ?_
          refine w_iload ok d7_72 rfl ?_
          refine w_if_ge ok d7_74 (pc' := 99) (by decide) (fun hc124 => ?_) (fun hc124 => False.elim (by revert hc124; decide))
          refine w_iconst ok d7_99 (v := (-1 : Int32)) rfl ?_
          refine w_istore ok d7_100 (L' := #[.val (.ref p), .val (.ref n), .val (.int (3 : Int32)), .val (.int (Int32.ofNat ns.length)), .val (.int (0 : Int32)), .val (.int (-1 : Int32)), .unset, .unset, .unset, .unset, .unset, .unset, .unset]) rfl ?_
          refine w_iloadN ok d7_102 rfl ?_
          refine w_if_le ok d7_103 (pc' := 117) (by decide) (fun hc126 => False.elim (by revert hc126; decide)) (fun hc126 => ?_)
          refine w_aloadN ok d7_106 rfl rfl ?_
          refine w_iconst ok d7_107 (v := (0 : Int32)) rfl ?_
          refine w_callS ok (y := mn_8) (argsL := [(.ref p), (.int (0 : Int32))]) (rest := []) d7_108 (hw _ (List.mem_of_getElem? (i := 34) rfl)) (hw _ (List.mem_of_getElem? (i := 35) rfl)) (hw _ (List.mem_of_getElem? (i := 4) rfl)) (hw _ (List.mem_of_getElem? (i := 36) rfl)) (by decide) pd_285bBI29Z rfl rfl (by decide) (Nat.le_of_ble_eq_true rfl) (by decide) (by decide) (fun z0 => rm_star l Z a0 hw [] n0 h0 z0 p [x0, x1, x2] A_p 0 (Nat.le_of_ble_eq_true rfl) (Nat.le_of_ble_eq_true rfl)) (fun v127 h128 qv127 => ?_)
          obtain ⟨⟨rfl, t129⟩ | ⟨rfl, t129⟩, rfl⟩ := qv127
          · skip
            replace t129 : x0 = 42 := t129
            show W K l _ n0 _ h0 0 0 111 #[.val (.ref p), .val (.ref n), .val (.int (3 : Int32)), .val (.int (Int32.ofNat ns.length)), .val (.int (0 : Int32)), .val (.int (-1 : Int32)), .unset, .unset, .unset, .unset, .unset, .unset, .unset] [(.int (1 : Int32))]
            refine w_if_eq ok d7_111 (pc' := 117) (by decide) (fun hc131 => False.elim (by revert hc131; decide)) (fun hc131 => ?_)
            refine w_iconst ok d7_114 (v := (0 : Int32)) rfl ?_
            refine w_istore ok d7_115 (L' := #[.val (.ref p), .val (.ref n), .val (.int (3 : Int32)), .val (.int (Int32.ofNat ns.length)), .val (.int (0 : Int32)), .val (.int (0 : Int32)), .unset, .unset, .unset, .unset, .unset, .unset, .unset]) rfl ?_
            refine w_iloadN ok d7_117 rfl ?_
            refine w_iconst ok d7_118 (v := (1 : Int32)) rfl ?_
            refine w_icmp_le ok d7_119 (pc' := 133) (by decide) (fun hc133 => False.elim (by revert hc133; decide)) (fun hc133 => ?_)
            refine w_aloadN ok d7_122 rfl rfl ?_
            refine w_iconst ok d7_123 (v := (1 : Int32)) rfl ?_
            refine w_callS ok (y := mn_8) (argsL := [(.ref p), (.int (1 : Int32))]) (rest := []) d7_124 (hw _ (List.mem_of_getElem? (i := 34) rfl)) (hw _ (List.mem_of_getElem? (i := 35) rfl)) (hw _ (List.mem_of_getElem? (i := 4) rfl)) (hw _ (List.mem_of_getElem? (i := 36) rfl)) (by decide) pd_285bBI29Z rfl rfl (by decide) (Nat.le_of_ble_eq_true rfl) (by decide) (by decide) (fun z0 => rm_star l Z a0 hw [] n0 h0 z0 p [x0, x1, x2] A_p 1 (Nat.le_of_ble_eq_true rfl) (Nat.le_of_ble_eq_true rfl)) (fun v134 h135 qv134 => ?_)
            obtain ⟨⟨rfl, t136⟩ | ⟨rfl, t136⟩, rfl⟩ := qv134
            · exact absurd t136 s1
            · skip
              replace t136 : ¬ (x1 = 42) := t136
              show W K l _ n0 _ h0 0 0 127 #[.val (.ref p), .val (.ref n), .val (.int (3 : Int32)), .val (.int (Int32.ofNat ns.length)), .val (.int (0 : Int32)), .val (.int (0 : Int32)), .unset, .unset, .unset, .unset, .unset, .unset, .unset] [(.int (0 : Int32))]
              refine w_if_eq ok d7_127 (pc' := 133) (by decide) (fun hc138 => ?_) (fun hc138 => False.elim (by revert hc138; decide))
              refine w_iloadN ok d7_133 rfl ?_
              refine w_iconst ok d7_134 (v := (2 : Int32)) rfl ?_
              refine w_icmp_le ok d7_135 (pc' := 149) (by decide) (fun hc140 => False.elim (by revert hc140; decide)) (fun hc140 => ?_)
              refine w_aloadN ok d7_138 rfl rfl ?_
              refine w_iconst ok d7_139 (v := (2 : Int32)) rfl ?_
              refine w_callS ok (y := mn_8) (argsL := [(.ref p), (.int (2 : Int32))]) (rest := []) d7_140 (hw _ (List.mem_of_getElem? (i := 34) rfl)) (hw _ (List.mem_of_getElem? (i := 35) rfl)) (hw _ (List.mem_of_getElem? (i := 4) rfl)) (hw _ (List.mem_of_getElem? (i := 36) rfl)) (by decide) pd_285bBI29Z rfl rfl (by decide) (Nat.le_of_ble_eq_true rfl) (by decide) (by decide) (fun z0 => rm_star l Z a0 hw [] n0 h0 z0 p [x0, x1, x2] A_p 2 (Nat.le_of_ble_eq_true rfl) (Nat.le_of_ble_eq_true rfl)) (fun v141 h142 qv141 => ?_)
              obtain ⟨⟨rfl, t143⟩ | ⟨rfl, t143⟩, rfl⟩ := qv141
              · skip
                replace t143 : x2 = 42 := t143
                show W K l _ n0 _ h0 0 0 143 #[.val (.ref p), .val (.ref n), .val (.int (3 : Int32)), .val (.int (Int32.ofNat ns.length)), .val (.int (0 : Int32)), .val (.int (0 : Int32)), .unset, .unset, .unset, .unset, .unset, .unset, .unset] [(.int (1 : Int32))]
                refine w_if_eq ok d7_143 (pc' := 149) (by decide) (fun hc145 => False.elim (by revert hc145; decide)) (fun hc145 => ?_)
                refine w_iconst ok d7_146 (v := (2 : Int32)) rfl ?_
                refine w_istore ok d7_147 (L' := #[.val (.ref p), .val (.ref n), .val (.int (3 : Int32)), .val (.int (Int32.ofNat ns.length)), .val (.int (0 : Int32)), .val (.int (2 : Int32)), .unset, .unset, .unset, .unset, .unset, .unset, .unset]) rfl ?_
                refine w_iloadN ok d7_149 rfl ?_
                refine w_iconst ok d7_150 (v := (3 : Int32)) rfl ?_
                refine w_icmp_le ok d7_151 (pc' := 165) (by decide) (fun hc147 => ?_) (fun hc147 => False.elim (by revert hc147; decide))
                refine w_iload ok d7_165 rfl ?_
                refine w_istore ok d7_167 (L' := #[.val (.ref p), .val (.ref n), .val (.int (3 : Int32)), .val (.int (Int32.ofNat ns.length)), .val (.int (0 : Int32)), .val (.int (2 : Int32)), .val (.int (0 : Int32)), .unset, .unset, .unset, .unset, .unset, .unset]) rfl ?_
                refine w_iloadN ok d7_169 rfl ?_
                refine w_iconst ok d7_170 (v := (1 : Int32)) rfl ?_
                refine w_isub ok d7_171 ?_
                show W K l _ n0 _ h0 0 0 172 #[.val (.ref p), .val (.ref n), .val (.int (3 : Int32)), .val (.int (Int32.ofNat ns.length)), .val (.int (0 : Int32)), .val (.int (2 : Int32)), .val (.int (0 : Int32)), .unset, .unset, .unset, .unset, .unset, .unset] [(.int (2 : Int32))]
                refine w_iload ok d7_172 rfl ?_
                refine w_isub ok d7_174 ?_
                show W K l _ n0 _ h0 0 0 175 #[.val (.ref p), .val (.ref n), .val (.int (3 : Int32)), .val (.int (Int32.ofNat ns.length)), .val (.int (0 : Int32)), .val (.int (2 : Int32)), .val (.int (0 : Int32)), .unset, .unset, .unset, .unset, .unset, .unset] [(.int (0 : Int32))]
                refine w_istore ok d7_175 (L' := #[.val (.ref p), .val (.ref n), .val (.int (3 : Int32)), .val (.int (Int32.ofNat ns.length)), .val (.int (0 : Int32)), .val (.int (2 : Int32)), .val (.int (0 : Int32)), .val (.int (0 : Int32)), .unset, .unset, .unset, .unset, .unset]) rfl ?_
                refine w_iloadN ok d7_177 rfl ?_
                refine w_iload ok d7_178 rfl ?_
                refine w_iload ok d7_180 rfl ?_
                refine w_iadd ok d7_182 ?_
                show W K l _ n0 _ h0 0 0 183 #[.val (.ref p), .val (.ref n), .val (.int (3 : Int32)), .val (.int (Int32.ofNat ns.length)), .val (.int (0 : Int32)), .val (.int (2 : Int32)), .val (.int (0 : Int32)), .val (.int (0 : Int32)), .unset, .unset, .unset, .unset, .unset] [(.int (0 : Int32)), (.int (Int32.ofNat ns.length))]
                refine w_icmp_ge ok d7_183 (pc' := 188) (by decide) (fun hc149 => ?_) (fun hc149 => ?_)
                · skip
                  have hge : 0 ≤ ns.length := by have q := hc149; rw [show (0 : Int32) = Int32.ofNat 0 from rfl, own_lt (by omega) (by omega)] at q; omega
                  refine w_aloadN ok d7_188 rfl rfl ?_
                  refine w_iconst ok d7_189 (v := (0 : Int32)) rfl ?_
                  refine w_iload ok d7_190 rfl ?_
                  refine w_aloadN ok d7_192 rfl rfl ?_
                  refine w_iconst ok d7_193 (v := (0 : Int32)) rfl ?_
                  refine w_callS ok (y := mn_9) (argsL := [(.ref p), (.int (0 : Int32)), (.int (0 : Int32)), (.ref n), (.int (0 : Int32))]) (rest := []) d7_194 (hw _ (List.mem_of_getElem? (i := 37) rfl)) (hw _ (List.mem_of_getElem? (i := 38) rfl)) (hw _ (List.mem_of_getElem? (i := 4) rfl)) (hw _ (List.mem_of_getElem? (i := 39) rfl)) (by decide) pd_285bBII5bBI29Z rfl rfl (by decide) (Nat.le_of_ble_eq_true rfl) (by decide) (by decide) (fun z0 => rm_seg l Z a0 hw [] n0 h0 z0 p n [x0, x1, x2] ns A_p A_n 0 0 0 _ rfl (Nat.le_of_ble_eq_true rfl) (by decide) (by omega) (Nat.le_of_ble_eq_true rfl) ln) (fun v150 h151 qv150 => ?_)
                  obtain ⟨⟨rfl, sgp⟩ | ⟨rfl, sgp⟩, rfl⟩ := qv150
                  · skip
                    replace sgp : SGl [] ns 0 := sgp
                    show W K l _ n0 _ h0 0 0 197 #[.val (.ref p), .val (.ref n), .val (.int (3 : Int32)), .val (.int (Int32.ofNat ns.length)), .val (.int (0 : Int32)), .val (.int (2 : Int32)), .val (.int (0 : Int32)), .val (.int (0 : Int32)), .unset, .unset, .unset, .unset, .unset] [(.int (1 : Int32))]
                    refine w_if_ne ok d7_197 (pc' := 202) (by decide) (fun hc153 => ?_) (fun hc153 => False.elim (by revert hc153; decide))
                    refine w_aloadN ok d7_202 rfl rfl ?_
                    refine w_iload ok d7_203 rfl ?_
                    refine w_iconst ok d7_205 (v := (1 : Int32)) rfl ?_
                    refine w_iadd ok d7_206 ?_
                    show W K l _ n0 _ h0 0 0 207 #[.val (.ref p), .val (.ref n), .val (.int (3 : Int32)), .val (.int (Int32.ofNat ns.length)), .val (.int (0 : Int32)), .val (.int (2 : Int32)), .val (.int (0 : Int32)), .val (.int (0 : Int32)), .unset, .unset, .unset, .unset, .unset] [(.int (3 : Int32)), (.ref p)]
                    refine w_iload ok d7_207 rfl ?_
                    refine w_aloadN ok d7_209 rfl rfl ?_
                    refine w_iloadN ok d7_210 rfl ?_
                    refine w_iload ok d7_211 rfl ?_
                    refine w_isub ok d7_213 ?_
                    refine w_callS ok (y := mn_9) (argsL := [(.ref p), (.int (3 : Int32)), (.int (0 : Int32)), (.ref n), (.int ((Int32.ofNat ns.length) - (0 : Int32)))]) (rest := []) d7_214 (hw _ (List.mem_of_getElem? (i := 37) rfl)) (hw _ (List.mem_of_getElem? (i := 38) rfl)) (hw _ (List.mem_of_getElem? (i := 4) rfl)) (hw _ (List.mem_of_getElem? (i := 39) rfl)) (by decide) pd_285bBII5bBI29Z rfl rfl (by decide) (Nat.le_of_ble_eq_true rfl) (by decide) (by decide) (fun z0 => rm_seg l Z a0 hw [] n0 h0 z0 p n [x0, x1, x2] ns A_p A_n 3 0 (ns.length - 0) _ (own_subk (k := 0) rfl (by omega) (by omega)) (Nat.le_of_ble_eq_true rfl) (by decide) (by omega) (Nat.le_of_ble_eq_true rfl) ln) (fun v154 h155 qv154 => ?_)
                    obtain ⟨⟨rfl, sgs⟩ | ⟨rfl, sgs⟩, rfl⟩ := qv154
                    · skip
                      replace sgs : SGl [] ns (ns.length - 0) := sgs
                      show W K l _ n0 _ h0 0 0 217 #[.val (.ref p), .val (.ref n), .val (.int (3 : Int32)), .val (.int (Int32.ofNat ns.length)), .val (.int (0 : Int32)), .val (.int (2 : Int32)), .val (.int (0 : Int32)), .val (.int (0 : Int32)), .unset, .unset, .unset, .unset, .unset] [(.int (1 : Int32))]
                      refine w_if_ne ok d7_217 (pc' := 222) (by decide) (fun hc157 => ?_) (fun hc157 => False.elim (by revert hc157; decide))
                      refine w_iload ok d7_222 rfl ?_
                      refine w_iload ok d7_224 rfl ?_
                      refine w_isub ok d7_226 ?_
                      show W K l _ n0 _ h0 0 0 227 #[.val (.ref p), .val (.ref n), .val (.int (3 : Int32)), .val (.int (Int32.ofNat ns.length)), .val (.int (0 : Int32)), .val (.int (2 : Int32)), .val (.int (0 : Int32)), .val (.int (0 : Int32)), .unset, .unset, .unset, .unset, .unset] [(.int (2 : Int32))]
                      refine w_iconst ok d7_227 (v := (1 : Int32)) rfl ?_
                      refine w_isub ok d7_228 ?_
                      show W K l _ n0 _ h0 0 0 229 #[.val (.ref p), .val (.ref n), .val (.int (3 : Int32)), .val (.int (Int32.ofNat ns.length)), .val (.int (0 : Int32)), .val (.int (2 : Int32)), .val (.int (0 : Int32)), .val (.int (0 : Int32)), .unset, .unset, .unset, .unset, .unset] [(.int (1 : Int32))]
                      refine w_istore ok d7_229 (L' := #[.val (.ref p), .val (.ref n), .val (.int (3 : Int32)), .val (.int (Int32.ofNat ns.length)), .val (.int (0 : Int32)), .val (.int (2 : Int32)), .val (.int (0 : Int32)), .val (.int (0 : Int32)), .val (.int (1 : Int32)), .unset, .unset, .unset, .unset]) rfl ?_
                      refine w_iload ok d7_231 rfl ?_
                      refine w_iconst ok d7_233 (v := (1 : Int32)) rfl ?_
                      refine w_iadd ok d7_234 ?_
                      show W K l _ n0 _ h0 0 0 235 #[.val (.ref p), .val (.ref n), .val (.int (3 : Int32)), .val (.int (Int32.ofNat ns.length)), .val (.int (0 : Int32)), .val (.int (2 : Int32)), .val (.int (0 : Int32)), .val (.int (0 : Int32)), .val (.int (1 : Int32)), .unset, .unset, .unset, .unset] [(.int (1 : Int32))]
                      refine w_istore ok d7_235 (L' := #[.val (.ref p), .val (.ref n), .val (.int (3 : Int32)), .val (.int (Int32.ofNat ns.length)), .val (.int (0 : Int32)), .val (.int (2 : Int32)), .val (.int (0 : Int32)), .val (.int (0 : Int32)), .val (.int (1 : Int32)), .val (.int (1 : Int32)), .unset, .unset, .unset]) rfl ?_
                      refine w_iconst ok d7_237 (v := (0 : Int32)) rfl ?_
                      refine w_istore ok d7_238 (L' := #[.val (.ref p), .val (.ref n), .val (.int (3 : Int32)), .val (.int (Int32.ofNat ns.length)), .val (.int (0 : Int32)), .val (.int (2 : Int32)), .val (.int (0 : Int32)), .val (.int (0 : Int32)), .val (.int (1 : Int32)), .val (.int (1 : Int32)), .val (.int (0 : Int32)), .unset, .unset]) rfl ?_
                      refine w_iload ok d7_240 rfl ?_
                      refine w_iconst ok d7_242 (v := (1 : Int32)) rfl ?_
                      refine w_icmp_ne ok d7_243 (pc' := 263) (by decide) (fun hc159 => False.elim (by revert hc159; decide)) (fun hc159 => ?_)
                      refine w_aloadN ok d7_246 rfl rfl ?_
                      refine w_iload ok d7_247 rfl ?_
                      refine w_iconst ok d7_249 (v := (1 : Int32)) rfl ?_
                      refine w_iadd ok d7_250 ?_
                      show W K l _ n0 _ h0 0 0 251 #[.val (.ref p), .val (.ref n), .val (.int (3 : Int32)), .val (.int (Int32.ofNat ns.length)), .val (.int (0 : Int32)), .val (.int (2 : Int32)), .val (.int (0 : Int32)), .val (.int (0 : Int32)), .val (.int (1 : Int32)), .val (.int (1 : Int32)), .val (.int (0 : Int32)), .unset, .unset] [(.int (1 : Int32)), (.ref p)]
                      refine w_callS ok (y := mn_8) (argsL := [(.ref p), (.int (1 : Int32))]) (rest := []) d7_251 (hw _ (List.mem_of_getElem? (i := 34) rfl)) (hw _ (List.mem_of_getElem? (i := 35) rfl)) (hw _ (List.mem_of_getElem? (i := 4) rfl)) (hw _ (List.mem_of_getElem? (i := 36) rfl)) (by decide) pd_285bBI29Z rfl rfl (by decide) (Nat.le_of_ble_eq_true rfl) (by decide) (by decide) (fun z0 => rm_star l Z a0 hw [] n0 h0 z0 p [x0, x1, x2] A_p 1 (Nat.le_of_ble_eq_true rfl) (Nat.le_of_ble_eq_true rfl)) (fun v160 h161 qv160 => ?_)
                      obtain ⟨⟨rfl, t162⟩ | ⟨rfl, t162⟩, rfl⟩ := qv160
                      · exact absurd t162 s1
                      · skip
                        replace t162 : ¬ (x1 = 42) := t162
                        show W K l _ n0 _ h0 0 0 254 #[.val (.ref p), .val (.ref n), .val (.int (3 : Int32)), .val (.int (Int32.ofNat ns.length)), .val (.int (0 : Int32)), .val (.int (2 : Int32)), .val (.int (0 : Int32)), .val (.int (0 : Int32)), .val (.int (1 : Int32)), .val (.int (1 : Int32)), .val (.int (0 : Int32)), .unset, .unset] [(.int (0 : Int32))]
                        refine w_if_ne ok d7_254 (pc' := 340) (by decide) (fun hc164 => False.elim (by revert hc164; decide)) (fun hc164 => ?_)
                        refine w_iconst ok d7_257 (v := (1 : Int32)) rfl ?_
                        refine w_istore ok d7_258 (L' := #[.val (.ref p), .val (.ref n), .val (.int (3 : Int32)), .val (.int (Int32.ofNat ns.length)), .val (.int (0 : Int32)), .val (.int (2 : Int32)), .val (.int (0 : Int32)), .val (.int (0 : Int32)), .val (.int (1 : Int32)), .val (.int (1 : Int32)), .val (.int (1 : Int32)), .unset, .unset]) rfl ?_
                        refine w_goto ok d7_260 (pc' := 340) (by decide) ?_
                        refine w_iload ok d7_340 rfl ?_
                        refine w_if_ne ok d7_342 (pc' := 347) (by decide) (fun hc166 => ?_) (fun hc166 => False.elim (by revert hc166; decide))
                        refine w_aloadN ok d7_347 rfl rfl ?_
                        refine w_iload ok d7_348 rfl ?_
                        refine w_iload ok d7_350 rfl ?_
                        refine w_aloadN ok d7_352 rfl rfl ?_
                        refine w_iload ok d7_353 rfl ?_
                        refine w_iloadN ok d7_355 rfl ?_
                        refine w_iload ok d7_356 rfl ?_
                        refine w_isub ok d7_358 ?_
                        refine w_callS ok (y := mn_11) (argsL := [(.ref p), (.int (1 : Int32)), (.int (1 : Int32)), (.ref n), (.int (0 : Int32)), (.int ((Int32.ofNat ns.length) - (0 : Int32)))]) (rest := []) d7_359 (hw _ (List.mem_of_getElem? (i := 43) rfl)) (hw _ (List.mem_of_getElem? (i := 44) rfl)) (hw _ (List.mem_of_getElem? (i := 4) rfl)) (hw _ (List.mem_of_getElem? (i := 45) rfl)) (by decide) pd_285bBII5bBII29Z rfl rfl (by decide) (Nat.le_of_ble_eq_true rfl) (by decide) (by decide) (fun z0 => rm_found l Z a0 hw [] n0 h0 z0 p n [x0, x1, x2] ns A_p A_n 1 1 0 (ns.length - 0) _ (own_subk (k := 0) rfl (by omega) (by omega)) (Nat.le_of_ble_eq_true rfl) (by decide) (Nat.le_of_ble_eq_true rfl) ln (by decide) (by omega)) (fun v167 h168 qv167 => ?_)
                        obtain ⟨⟨rfl, fo⟩ | ⟨rfl, fo⟩, rfl⟩ := qv167
                        · skip
                          replace fo : ∃ i, 0 ≤ i ∧ i + 1 ≤ ns.length - 0 ∧ SGl [x1] ns i := fo
                          show W K l _ n0 _ h0 0 0 362 #[.val (.ref p), .val (.ref n), .val (.int (3 : Int32)), .val (.int (Int32.ofNat ns.length)), .val (.int (0 : Int32)), .val (.int (2 : Int32)), .val (.int (0 : Int32)), .val (.int (0 : Int32)), .val (.int (1 : Int32)), .val (.int (1 : Int32)), .val (.int (1 : Int32)), .unset, .unset] [(.int (1 : Int32))]
                          refine w_bret ok (by simp) d7_362 (by decide) (by decide) ?_
                          subst s0 s2
                          have key : Gi ns [42, x1, 42] 0 ↔ _ := (own_two (ns := ns) (P := []) (R := [x1]) (Q := []) NoS_nil (NoS_cons s1 NoS_nil) NoS_nil)
                          exact ⟨Or.inl ⟨rfl, key.mpr ⟨hge, sgp, sgs, fo⟩⟩, rfl⟩
                        · skip
                          replace fo : ¬ (∃ i, 0 ≤ i ∧ i + 1 ≤ ns.length - 0 ∧ SGl [x1] ns i) := fo
                          show W K l _ n0 _ h0 0 0 362 #[.val (.ref p), .val (.ref n), .val (.int (3 : Int32)), .val (.int (Int32.ofNat ns.length)), .val (.int (0 : Int32)), .val (.int (2 : Int32)), .val (.int (0 : Int32)), .val (.int (0 : Int32)), .val (.int (1 : Int32)), .val (.int (1 : Int32)), .val (.int (1 : Int32)), .unset, .unset] [(.int (0 : Int32))]
                          refine w_bret ok (by simp) d7_362 (by decide) (by decide) ?_
                          subst s0 s2
                          have key : Gi ns [42, x1, 42] 0 ↔ _ := (own_two (ns := ns) (P := []) (R := [x1]) (Q := []) NoS_nil (NoS_cons s1 NoS_nil) NoS_nil)
                          exact ⟨Or.inr ⟨rfl, fun q => fo (key.mp q).2.2.2⟩, rfl⟩
                    · skip
                      replace sgs : ¬ (SGl [] ns (ns.length - 0)) := sgs
                      show W K l _ n0 _ h0 0 0 217 #[.val (.ref p), .val (.ref n), .val (.int (3 : Int32)), .val (.int (Int32.ofNat ns.length)), .val (.int (0 : Int32)), .val (.int (2 : Int32)), .val (.int (0 : Int32)), .val (.int (0 : Int32)), .unset, .unset, .unset, .unset, .unset] [(.int (0 : Int32))]
                      refine w_if_ne ok d7_217 (pc' := 222) (by decide) (fun hc170 => False.elim (by revert hc170; decide)) (fun hc170 => ?_)
                      refine w_iconst ok d7_220 (v := (0 : Int32)) rfl ?_
                      refine w_bret ok (by simp) d7_221 (by decide) (by decide) ?_
                      subst s0 s2
                      have key : Gi ns [42, x1, 42] 0 ↔ _ := (own_two (ns := ns) (P := []) (R := [x1]) (Q := []) NoS_nil (NoS_cons s1 NoS_nil) NoS_nil)
                      exact ⟨Or.inr ⟨rfl, fun q => sgs (key.mp q).2.2.1⟩, rfl⟩
                  · skip
                    replace sgp : ¬ (SGl [] ns 0) := sgp
                    show W K l _ n0 _ h0 0 0 197 #[.val (.ref p), .val (.ref n), .val (.int (3 : Int32)), .val (.int (Int32.ofNat ns.length)), .val (.int (0 : Int32)), .val (.int (2 : Int32)), .val (.int (0 : Int32)), .val (.int (0 : Int32)), .unset, .unset, .unset, .unset, .unset] [(.int (0 : Int32))]
                    refine w_if_ne ok d7_197 (pc' := 202) (by decide) (fun hc172 => False.elim (by revert hc172; decide)) (fun hc172 => ?_)
                    refine w_iconst ok d7_200 (v := (0 : Int32)) rfl ?_
                    refine w_bret ok (by simp) d7_201 (by decide) (by decide) ?_
                    subst s0 s2
                    have key : Gi ns [42, x1, 42] 0 ↔ _ := (own_two (ns := ns) (P := []) (R := [x1]) (Q := []) NoS_nil (NoS_cons s1 NoS_nil) NoS_nil)
                    exact ⟨Or.inr ⟨rfl, fun q => sgp (key.mp q).2.1⟩, rfl⟩
                · skip
                  refine w_iconst ok d7_186 (v := (0 : Int32)) rfl ?_
                  refine w_bret ok (by simp) d7_187 (by decide) (by decide) ?_
                  subst s0 s2
                  have key : Gi ns [42, x1, 42] 0 ↔ _ := (own_two (ns := ns) (P := []) (R := [x1]) (Q := []) NoS_nil (NoS_cons s1 NoS_nil) NoS_nil)
                  refine ⟨Or.inr ⟨rfl, fun q => ?_⟩, rfl⟩
                  have q1 : 0 + 0 ≤ ns.length := (key.mp q).1
                  have q2 := hc149; rw [show (0 : Int32) = Int32.ofNat 0 from rfl, own_lt (by omega) (by omega)] at q2; omega
              · exact absurd s2 t143
          · exact absurd s0 t129
        · skip
          replace s0 : ¬ (x0 = 42) := s0
          show W K l _ n0 _ h0 0 0 66 #[.val (.ref p), .val (.ref n), .val (.int (3 : Int32)), .val (.int (Int32.ofNat ns.length)), .val (.int (2 : Int32)), .unset, .unset, .unset, .unset, .unset, .unset, .unset, .unset] [(.int (0 : Int32))]
          refine w_if_eq ok d7_66 (pc' := 72) (by decide) (fun hc174 => ?_) (fun hc174 => False.elim (by revert hc174; decide))
          refine w_iload ok d7_72 rfl ?_
          refine w_if_ge ok d7_74 (pc' := 99) (by decide) (fun hc176 => ?_) (fun hc176 => False.elim (by revert hc176; decide))
          refine w_iconst ok d7_99 (v := (-1 : Int32)) rfl ?_
          refine w_istore ok d7_100 (L' := #[.val (.ref p), .val (.ref n), .val (.int (3 : Int32)), .val (.int (Int32.ofNat ns.length)), .val (.int (2 : Int32)), .val (.int (-1 : Int32)), .unset, .unset, .unset, .unset, .unset, .unset, .unset]) rfl ?_
          refine w_iloadN ok d7_102 rfl ?_
          refine w_if_le ok d7_103 (pc' := 117) (by decide) (fun hc178 => False.elim (by revert hc178; decide)) (fun hc178 => ?_)
          refine w_aloadN ok d7_106 rfl rfl ?_
          refine w_iconst ok d7_107 (v := (0 : Int32)) rfl ?_
          refine w_callS ok (y := mn_8) (argsL := [(.ref p), (.int (0 : Int32))]) (rest := []) d7_108 (hw _ (List.mem_of_getElem? (i := 34) rfl)) (hw _ (List.mem_of_getElem? (i := 35) rfl)) (hw _ (List.mem_of_getElem? (i := 4) rfl)) (hw _ (List.mem_of_getElem? (i := 36) rfl)) (by decide) pd_285bBI29Z rfl rfl (by decide) (Nat.le_of_ble_eq_true rfl) (by decide) (by decide) (fun z0 => rm_star l Z a0 hw [] n0 h0 z0 p [x0, x1, x2] A_p 0 (Nat.le_of_ble_eq_true rfl) (Nat.le_of_ble_eq_true rfl)) (fun v179 h180 qv179 => ?_)
          obtain ⟨⟨rfl, t181⟩ | ⟨rfl, t181⟩, rfl⟩ := qv179
          · exact absurd t181 s0
          · skip
            replace t181 : ¬ (x0 = 42) := t181
            show W K l _ n0 _ h0 0 0 111 #[.val (.ref p), .val (.ref n), .val (.int (3 : Int32)), .val (.int (Int32.ofNat ns.length)), .val (.int (2 : Int32)), .val (.int (-1 : Int32)), .unset, .unset, .unset, .unset, .unset, .unset, .unset] [(.int (0 : Int32))]
            refine w_if_eq ok d7_111 (pc' := 117) (by decide) (fun hc183 => ?_) (fun hc183 => False.elim (by revert hc183; decide))
            refine w_iloadN ok d7_117 rfl ?_
            refine w_iconst ok d7_118 (v := (1 : Int32)) rfl ?_
            refine w_icmp_le ok d7_119 (pc' := 133) (by decide) (fun hc185 => False.elim (by revert hc185; decide)) (fun hc185 => ?_)
            refine w_aloadN ok d7_122 rfl rfl ?_
            refine w_iconst ok d7_123 (v := (1 : Int32)) rfl ?_
            refine w_callS ok (y := mn_8) (argsL := [(.ref p), (.int (1 : Int32))]) (rest := []) d7_124 (hw _ (List.mem_of_getElem? (i := 34) rfl)) (hw _ (List.mem_of_getElem? (i := 35) rfl)) (hw _ (List.mem_of_getElem? (i := 4) rfl)) (hw _ (List.mem_of_getElem? (i := 36) rfl)) (by decide) pd_285bBI29Z rfl rfl (by decide) (Nat.le_of_ble_eq_true rfl) (by decide) (by decide) (fun z0 => rm_star l Z a0 hw [] n0 h0 z0 p [x0, x1, x2] A_p 1 (Nat.le_of_ble_eq_true rfl) (Nat.le_of_ble_eq_true rfl)) (fun v186 h187 qv186 => ?_)
            obtain ⟨⟨rfl, t188⟩ | ⟨rfl, t188⟩, rfl⟩ := qv186
            · exact absurd t188 s1
            · skip
              replace t188 : ¬ (x1 = 42) := t188
              show W K l _ n0 _ h0 0 0 127 #[.val (.ref p), .val (.ref n), .val (.int (3 : Int32)), .val (.int (Int32.ofNat ns.length)), .val (.int (2 : Int32)), .val (.int (-1 : Int32)), .unset, .unset, .unset, .unset, .unset, .unset, .unset] [(.int (0 : Int32))]
              refine w_if_eq ok d7_127 (pc' := 133) (by decide) (fun hc190 => ?_) (fun hc190 => False.elim (by revert hc190; decide))
              refine w_iloadN ok d7_133 rfl ?_
              refine w_iconst ok d7_134 (v := (2 : Int32)) rfl ?_
              refine w_icmp_le ok d7_135 (pc' := 149) (by decide) (fun hc192 => False.elim (by revert hc192; decide)) (fun hc192 => ?_)
              refine w_aloadN ok d7_138 rfl rfl ?_
              refine w_iconst ok d7_139 (v := (2 : Int32)) rfl ?_
              refine w_callS ok (y := mn_8) (argsL := [(.ref p), (.int (2 : Int32))]) (rest := []) d7_140 (hw _ (List.mem_of_getElem? (i := 34) rfl)) (hw _ (List.mem_of_getElem? (i := 35) rfl)) (hw _ (List.mem_of_getElem? (i := 4) rfl)) (hw _ (List.mem_of_getElem? (i := 36) rfl)) (by decide) pd_285bBI29Z rfl rfl (by decide) (Nat.le_of_ble_eq_true rfl) (by decide) (by decide) (fun z0 => rm_star l Z a0 hw [] n0 h0 z0 p [x0, x1, x2] A_p 2 (Nat.le_of_ble_eq_true rfl) (Nat.le_of_ble_eq_true rfl)) (fun v193 h194 qv193 => ?_)
              obtain ⟨⟨rfl, t195⟩ | ⟨rfl, t195⟩, rfl⟩ := qv193
              · skip
                replace t195 : x2 = 42 := t195
                show W K l _ n0 _ h0 0 0 143 #[.val (.ref p), .val (.ref n), .val (.int (3 : Int32)), .val (.int (Int32.ofNat ns.length)), .val (.int (2 : Int32)), .val (.int (-1 : Int32)), .unset, .unset, .unset, .unset, .unset, .unset, .unset] [(.int (1 : Int32))]
                refine w_if_eq ok d7_143 (pc' := 149) (by decide) (fun hc197 => False.elim (by revert hc197; decide)) (fun hc197 => ?_)
                refine w_iconst ok d7_146 (v := (2 : Int32)) rfl ?_
                refine w_istore ok d7_147 (L' := #[.val (.ref p), .val (.ref n), .val (.int (3 : Int32)), .val (.int (Int32.ofNat ns.length)), .val (.int (2 : Int32)), .val (.int (2 : Int32)), .unset, .unset, .unset, .unset, .unset, .unset, .unset]) rfl ?_
                refine w_iloadN ok d7_149 rfl ?_
                refine w_iconst ok d7_150 (v := (3 : Int32)) rfl ?_
                refine w_icmp_le ok d7_151 (pc' := 165) (by decide) (fun hc199 => ?_) (fun hc199 => False.elim (by revert hc199; decide))
                refine w_iload ok d7_165 rfl ?_
                refine w_istore ok d7_167 (L' := #[.val (.ref p), .val (.ref n), .val (.int (3 : Int32)), .val (.int (Int32.ofNat ns.length)), .val (.int (2 : Int32)), .val (.int (2 : Int32)), .val (.int (2 : Int32)), .unset, .unset, .unset, .unset, .unset, .unset]) rfl ?_
                refine w_iloadN ok d7_169 rfl ?_
                refine w_iconst ok d7_170 (v := (1 : Int32)) rfl ?_
                refine w_isub ok d7_171 ?_
                show W K l _ n0 _ h0 0 0 172 #[.val (.ref p), .val (.ref n), .val (.int (3 : Int32)), .val (.int (Int32.ofNat ns.length)), .val (.int (2 : Int32)), .val (.int (2 : Int32)), .val (.int (2 : Int32)), .unset, .unset, .unset, .unset, .unset, .unset] [(.int (2 : Int32))]
                refine w_iload ok d7_172 rfl ?_
                refine w_isub ok d7_174 ?_
                show W K l _ n0 _ h0 0 0 175 #[.val (.ref p), .val (.ref n), .val (.int (3 : Int32)), .val (.int (Int32.ofNat ns.length)), .val (.int (2 : Int32)), .val (.int (2 : Int32)), .val (.int (2 : Int32)), .unset, .unset, .unset, .unset, .unset, .unset] [(.int (0 : Int32))]
                refine w_istore ok d7_175 (L' := #[.val (.ref p), .val (.ref n), .val (.int (3 : Int32)), .val (.int (Int32.ofNat ns.length)), .val (.int (2 : Int32)), .val (.int (2 : Int32)), .val (.int (2 : Int32)), .val (.int (0 : Int32)), .unset, .unset, .unset, .unset, .unset]) rfl ?_
                refine w_iloadN ok d7_177 rfl ?_
                refine w_iload ok d7_178 rfl ?_
                refine w_iload ok d7_180 rfl ?_
                refine w_iadd ok d7_182 ?_
                show W K l _ n0 _ h0 0 0 183 #[.val (.ref p), .val (.ref n), .val (.int (3 : Int32)), .val (.int (Int32.ofNat ns.length)), .val (.int (2 : Int32)), .val (.int (2 : Int32)), .val (.int (2 : Int32)), .val (.int (0 : Int32)), .unset, .unset, .unset, .unset, .unset] [(.int (2 : Int32)), (.int (Int32.ofNat ns.length))]
                refine w_icmp_ge ok d7_183 (pc' := 188) (by decide) (fun hc201 => ?_) (fun hc201 => ?_)
                · skip
                  have hge : 2 ≤ ns.length := by have q := hc201; rw [show (2 : Int32) = Int32.ofNat 2 from rfl, own_lt (by omega) (by omega)] at q; omega
                  refine w_aloadN ok d7_188 rfl rfl ?_
                  refine w_iconst ok d7_189 (v := (0 : Int32)) rfl ?_
                  refine w_iload ok d7_190 rfl ?_
                  refine w_aloadN ok d7_192 rfl rfl ?_
                  refine w_iconst ok d7_193 (v := (0 : Int32)) rfl ?_
                  refine w_callS ok (y := mn_9) (argsL := [(.ref p), (.int (0 : Int32)), (.int (2 : Int32)), (.ref n), (.int (0 : Int32))]) (rest := []) d7_194 (hw _ (List.mem_of_getElem? (i := 37) rfl)) (hw _ (List.mem_of_getElem? (i := 38) rfl)) (hw _ (List.mem_of_getElem? (i := 4) rfl)) (hw _ (List.mem_of_getElem? (i := 39) rfl)) (by decide) pd_285bBII5bBI29Z rfl rfl (by decide) (Nat.le_of_ble_eq_true rfl) (by decide) (by decide) (fun z0 => rm_seg l Z a0 hw [] n0 h0 z0 p n [x0, x1, x2] ns A_p A_n 0 2 0 _ rfl (Nat.le_of_ble_eq_true rfl) (by decide) (by omega) (Nat.le_of_ble_eq_true rfl) ln) (fun v202 h203 qv202 => ?_)
                  obtain ⟨⟨rfl, sgp⟩ | ⟨rfl, sgp⟩, rfl⟩ := qv202
                  · skip
                    replace sgp : SGl [x0, x1] ns 0 := sgp
                    show W K l _ n0 _ h0 0 0 197 #[.val (.ref p), .val (.ref n), .val (.int (3 : Int32)), .val (.int (Int32.ofNat ns.length)), .val (.int (2 : Int32)), .val (.int (2 : Int32)), .val (.int (2 : Int32)), .val (.int (0 : Int32)), .unset, .unset, .unset, .unset, .unset] [(.int (1 : Int32))]
                    refine w_if_ne ok d7_197 (pc' := 202) (by decide) (fun hc205 => ?_) (fun hc205 => False.elim (by revert hc205; decide))
                    refine w_aloadN ok d7_202 rfl rfl ?_
                    refine w_iload ok d7_203 rfl ?_
                    refine w_iconst ok d7_205 (v := (1 : Int32)) rfl ?_
                    refine w_iadd ok d7_206 ?_
                    show W K l _ n0 _ h0 0 0 207 #[.val (.ref p), .val (.ref n), .val (.int (3 : Int32)), .val (.int (Int32.ofNat ns.length)), .val (.int (2 : Int32)), .val (.int (2 : Int32)), .val (.int (2 : Int32)), .val (.int (0 : Int32)), .unset, .unset, .unset, .unset, .unset] [(.int (3 : Int32)), (.ref p)]
                    refine w_iload ok d7_207 rfl ?_
                    refine w_aloadN ok d7_209 rfl rfl ?_
                    refine w_iloadN ok d7_210 rfl ?_
                    refine w_iload ok d7_211 rfl ?_
                    refine w_isub ok d7_213 ?_
                    refine w_callS ok (y := mn_9) (argsL := [(.ref p), (.int (3 : Int32)), (.int (0 : Int32)), (.ref n), (.int ((Int32.ofNat ns.length) - (0 : Int32)))]) (rest := []) d7_214 (hw _ (List.mem_of_getElem? (i := 37) rfl)) (hw _ (List.mem_of_getElem? (i := 38) rfl)) (hw _ (List.mem_of_getElem? (i := 4) rfl)) (hw _ (List.mem_of_getElem? (i := 39) rfl)) (by decide) pd_285bBII5bBI29Z rfl rfl (by decide) (Nat.le_of_ble_eq_true rfl) (by decide) (by decide) (fun z0 => rm_seg l Z a0 hw [] n0 h0 z0 p n [x0, x1, x2] ns A_p A_n 3 0 (ns.length - 0) _ (own_subk (k := 0) rfl (by omega) (by omega)) (Nat.le_of_ble_eq_true rfl) (by decide) (by omega) (Nat.le_of_ble_eq_true rfl) ln) (fun v206 h207 qv206 => ?_)
                    obtain ⟨⟨rfl, sgs⟩ | ⟨rfl, sgs⟩, rfl⟩ := qv206
                    · skip
                      replace sgs : SGl [] ns (ns.length - 0) := sgs
                      show W K l _ n0 _ h0 0 0 217 #[.val (.ref p), .val (.ref n), .val (.int (3 : Int32)), .val (.int (Int32.ofNat ns.length)), .val (.int (2 : Int32)), .val (.int (2 : Int32)), .val (.int (2 : Int32)), .val (.int (0 : Int32)), .unset, .unset, .unset, .unset, .unset] [(.int (1 : Int32))]
                      refine w_if_ne ok d7_217 (pc' := 222) (by decide) (fun hc209 => ?_) (fun hc209 => False.elim (by revert hc209; decide))
                      refine w_iload ok d7_222 rfl ?_
                      refine w_iload ok d7_224 rfl ?_
                      refine w_isub ok d7_226 ?_
                      show W K l _ n0 _ h0 0 0 227 #[.val (.ref p), .val (.ref n), .val (.int (3 : Int32)), .val (.int (Int32.ofNat ns.length)), .val (.int (2 : Int32)), .val (.int (2 : Int32)), .val (.int (2 : Int32)), .val (.int (0 : Int32)), .unset, .unset, .unset, .unset, .unset] [(.int (0 : Int32))]
                      refine w_iconst ok d7_227 (v := (1 : Int32)) rfl ?_
                      refine w_isub ok d7_228 ?_
                      show W K l _ n0 _ h0 0 0 229 #[.val (.ref p), .val (.ref n), .val (.int (3 : Int32)), .val (.int (Int32.ofNat ns.length)), .val (.int (2 : Int32)), .val (.int (2 : Int32)), .val (.int (2 : Int32)), .val (.int (0 : Int32)), .unset, .unset, .unset, .unset, .unset] [(.int (-1 : Int32))]
                      refine w_istore ok d7_229 (L' := #[.val (.ref p), .val (.ref n), .val (.int (3 : Int32)), .val (.int (Int32.ofNat ns.length)), .val (.int (2 : Int32)), .val (.int (2 : Int32)), .val (.int (2 : Int32)), .val (.int (0 : Int32)), .val (.int (-1 : Int32)), .unset, .unset, .unset, .unset]) rfl ?_
                      refine w_iload ok d7_231 rfl ?_
                      refine w_iconst ok d7_233 (v := (1 : Int32)) rfl ?_
                      refine w_iadd ok d7_234 ?_
                      show W K l _ n0 _ h0 0 0 235 #[.val (.ref p), .val (.ref n), .val (.int (3 : Int32)), .val (.int (Int32.ofNat ns.length)), .val (.int (2 : Int32)), .val (.int (2 : Int32)), .val (.int (2 : Int32)), .val (.int (0 : Int32)), .val (.int (-1 : Int32)), .unset, .unset, .unset, .unset] [(.int (3 : Int32))]
                      refine w_istore ok d7_235 (L' := #[.val (.ref p), .val (.ref n), .val (.int (3 : Int32)), .val (.int (Int32.ofNat ns.length)), .val (.int (2 : Int32)), .val (.int (2 : Int32)), .val (.int (2 : Int32)), .val (.int (0 : Int32)), .val (.int (-1 : Int32)), .val (.int (3 : Int32)), .unset, .unset, .unset]) rfl ?_
                      refine w_iconst ok d7_237 (v := (0 : Int32)) rfl ?_
                      refine w_istore ok d7_238 (L' := #[.val (.ref p), .val (.ref n), .val (.int (3 : Int32)), .val (.int (Int32.ofNat ns.length)), .val (.int (2 : Int32)), .val (.int (2 : Int32)), .val (.int (2 : Int32)), .val (.int (0 : Int32)), .val (.int (-1 : Int32)), .val (.int (3 : Int32)), .val (.int (0 : Int32)), .unset, .unset]) rfl ?_
                      refine w_iload ok d7_240 rfl ?_
                      refine w_iconst ok d7_242 (v := (1 : Int32)) rfl ?_
                      refine w_icmp_ne ok d7_243 (pc' := 263) (by decide) (fun hc211 => ?_) (fun hc211 => False.elim (by revert hc211; decide))
                      refine w_iload ok d7_263 rfl ?_
                      refine w_iconst ok d7_265 (v := (2 : Int32)) rfl ?_
                      refine w_icmp_ne ok d7_266 (pc' := 340) (by decide) (fun hc213 => ?_) (fun hc213 => False.elim (by revert hc213; decide))
                      refine w_iload ok d7_340 rfl ?_
                      refine w_if_ne ok d7_342 (pc' := 347) (by decide) (fun hc215 => False.elim (by revert hc215; decide)) (fun hc215 => ?_)
                      refine w_iconst ok d7_345 (v := (1 : Int32)) rfl ?_
                      refine w_bret ok (by simp) d7_346 (by decide) (by decide) ?_
                      subst s2
                      have key : Gi ns [x0, x1, 42] 0 ↔ _ := own_one (ns := ns) (P := [x0, x1]) (Q := []) (NoS_cons s0 (NoS_cons s1 NoS_nil)) NoS_nil
                      exact ⟨Or.inl ⟨rfl, key.mpr ⟨hge, sgp, sgs⟩⟩, rfl⟩
                    · skip
                      replace sgs : ¬ (SGl [] ns (ns.length - 0)) := sgs
                      show W K l _ n0 _ h0 0 0 217 #[.val (.ref p), .val (.ref n), .val (.int (3 : Int32)), .val (.int (Int32.ofNat ns.length)), .val (.int (2 : Int32)), .val (.int (2 : Int32)), .val (.int (2 : Int32)), .val (.int (0 : Int32)), .unset, .unset, .unset, .unset, .unset] [(.int (0 : Int32))]
                      refine w_if_ne ok d7_217 (pc' := 222) (by decide) (fun hc217 => False.elim (by revert hc217; decide)) (fun hc217 => ?_)
                      refine w_iconst ok d7_220 (v := (0 : Int32)) rfl ?_
                      refine w_bret ok (by simp) d7_221 (by decide) (by decide) ?_
                      subst s2
                      have key : Gi ns [x0, x1, 42] 0 ↔ _ := own_one (ns := ns) (P := [x0, x1]) (Q := []) (NoS_cons s0 (NoS_cons s1 NoS_nil)) NoS_nil
                      exact ⟨Or.inr ⟨rfl, fun q => sgs (key.mp q).2.2⟩, rfl⟩
                  · skip
                    replace sgp : ¬ (SGl [x0, x1] ns 0) := sgp
                    show W K l _ n0 _ h0 0 0 197 #[.val (.ref p), .val (.ref n), .val (.int (3 : Int32)), .val (.int (Int32.ofNat ns.length)), .val (.int (2 : Int32)), .val (.int (2 : Int32)), .val (.int (2 : Int32)), .val (.int (0 : Int32)), .unset, .unset, .unset, .unset, .unset] [(.int (0 : Int32))]
                    refine w_if_ne ok d7_197 (pc' := 202) (by decide) (fun hc219 => False.elim (by revert hc219; decide)) (fun hc219 => ?_)
                    refine w_iconst ok d7_200 (v := (0 : Int32)) rfl ?_
                    refine w_bret ok (by simp) d7_201 (by decide) (by decide) ?_
                    subst s2
                    have key : Gi ns [x0, x1, 42] 0 ↔ _ := own_one (ns := ns) (P := [x0, x1]) (Q := []) (NoS_cons s0 (NoS_cons s1 NoS_nil)) NoS_nil
                    exact ⟨Or.inr ⟨rfl, fun q => sgp (key.mp q).2.1⟩, rfl⟩
                · skip
                  refine w_iconst ok d7_186 (v := (0 : Int32)) rfl ?_
                  refine w_bret ok (by simp) d7_187 (by decide) (by decide) ?_
                  subst s2
                  have key : Gi ns [x0, x1, 42] 0 ↔ _ := own_one (ns := ns) (P := [x0, x1]) (Q := []) (NoS_cons s0 (NoS_cons s1 NoS_nil)) NoS_nil
                  refine ⟨Or.inr ⟨rfl, fun q => ?_⟩, rfl⟩
                  have q1 : 2 + 0 ≤ ns.length := (key.mp q).1
                  have q2 := hc201; rw [show (2 : Int32) = Int32.ofNat 2 from rfl, own_lt (by omega) (by omega)] at q2; omega
              · exact absurd s2 t195
    · skip
      replace s2 : ¬ (x2 = 42) := s2
      show W K l _ n0 _ h0 0 0 35 #[.val (.ref p), .val (.ref n), .val (.int (3 : Int32)), .val (.int (Int32.ofNat ns.length)), .val (.int (-1 : Int32)), .unset, .unset, .unset, .unset, .unset, .unset, .unset, .unset] [(.int (0 : Int32))]
      refine w_if_eq ok d7_35 (pc' := 41) (by decide) (fun hc221 => ?_) (fun hc221 => False.elim (by revert hc221; decide))
      refine w_iloadN ok d7_41 rfl ?_
      refine w_iconst ok d7_42 (v := (1 : Int32)) rfl ?_
      refine w_icmp_le ok d7_43 (pc' := 57) (by decide) (fun hc223 => False.elim (by revert hc223; decide)) (fun hc223 => ?_)
      refine w_aloadN ok d7_46 rfl rfl ?_
      refine w_iconst ok d7_47 (v := (1 : Int32)) rfl ?_
      refine w_callS ok (y := mn_8) (argsL := [(.ref p), (.int (1 : Int32))]) (rest := []) d7_48 (hw _ (List.mem_of_getElem? (i := 34) rfl)) (hw _ (List.mem_of_getElem? (i := 35) rfl)) (hw _ (List.mem_of_getElem? (i := 4) rfl)) (hw _ (List.mem_of_getElem? (i := 36) rfl)) (by decide) pd_285bBI29Z rfl rfl (by decide) (Nat.le_of_ble_eq_true rfl) (by decide) (by decide) (fun z0 => rm_star l Z a0 hw [] n0 h0 z0 p [x0, x1, x2] A_p 1 (Nat.le_of_ble_eq_true rfl) (Nat.le_of_ble_eq_true rfl)) (fun v224 h225 qv224 => ?_)
      obtain ⟨⟨rfl, s1⟩ | ⟨rfl, s1⟩, rfl⟩ := qv224
      · skip
        replace s1 : x1 = 42 := s1
        show W K l _ n0 _ h0 0 0 51 #[.val (.ref p), .val (.ref n), .val (.int (3 : Int32)), .val (.int (Int32.ofNat ns.length)), .val (.int (-1 : Int32)), .unset, .unset, .unset, .unset, .unset, .unset, .unset, .unset] [(.int (1 : Int32))]
        refine w_if_eq ok d7_51 (pc' := 57) (by decide) (fun hc227 => False.elim (by revert hc227; decide)) (fun hc227 => ?_)
        refine w_iconst ok d7_54 (v := (1 : Int32)) rfl ?_
        refine w_istore ok d7_55 (L' := #[.val (.ref p), .val (.ref n), .val (.int (3 : Int32)), .val (.int (Int32.ofNat ns.length)), .val (.int (1 : Int32)), .unset, .unset, .unset, .unset, .unset, .unset, .unset, .unset]) rfl ?_
        refine w_iloadN ok d7_57 rfl ?_
        refine w_if_le ok d7_58 (pc' := 72) (by decide) (fun hc229 => False.elim (by revert hc229; decide)) (fun hc229 => ?_)
        refine w_aloadN ok d7_61 rfl rfl ?_
        refine w_iconst ok d7_62 (v := (0 : Int32)) rfl ?_
        refine w_callS ok (y := mn_8) (argsL := [(.ref p), (.int (0 : Int32))]) (rest := []) d7_63 (hw _ (List.mem_of_getElem? (i := 34) rfl)) (hw _ (List.mem_of_getElem? (i := 35) rfl)) (hw _ (List.mem_of_getElem? (i := 4) rfl)) (hw _ (List.mem_of_getElem? (i := 36) rfl)) (by decide) pd_285bBI29Z rfl rfl (by decide) (Nat.le_of_ble_eq_true rfl) (by decide) (by decide) (fun z0 => rm_star l Z a0 hw [] n0 h0 z0 p [x0, x1, x2] A_p 0 (Nat.le_of_ble_eq_true rfl) (Nat.le_of_ble_eq_true rfl)) (fun v230 h231 qv230 => ?_)
        obtain ⟨⟨rfl, s0⟩ | ⟨rfl, s0⟩, rfl⟩ := qv230
        · skip
          replace s0 : x0 = 42 := s0
          show W K l _ n0 _ h0 0 0 66 #[.val (.ref p), .val (.ref n), .val (.int (3 : Int32)), .val (.int (Int32.ofNat ns.length)), .val (.int (1 : Int32)), .unset, .unset, .unset, .unset, .unset, .unset, .unset, .unset] [(.int (1 : Int32))]
          refine w_if_eq ok d7_66 (pc' := 72) (by decide) (fun hc233 => False.elim (by revert hc233; decide)) (fun hc233 => ?_)
          refine w_iconst ok d7_69 (v := (0 : Int32)) rfl ?_
          refine w_istore ok d7_70 (L' := #[.val (.ref p), .val (.ref n), .val (.int (3 : Int32)), .val (.int (Int32.ofNat ns.length)), .val (.int (0 : Int32)), .unset, .unset, .unset, .unset, .unset, .unset, .unset, .unset]) rfl ?_
          refine w_iload ok d7_72 rfl ?_
          refine w_if_ge ok d7_74 (pc' := 99) (by decide) (fun hc235 => ?_) (fun hc235 => False.elim (by revert hc235; decide))
          refine w_iconst ok d7_99 (v := (-1 : Int32)) rfl ?_
          refine w_istore ok d7_100 (L' := #[.val (.ref p), .val (.ref n), .val (.int (3 : Int32)), .val (.int (Int32.ofNat ns.length)), .val (.int (0 : Int32)), .val (.int (-1 : Int32)), .unset, .unset, .unset, .unset, .unset, .unset, .unset]) rfl ?_
          refine w_iloadN ok d7_102 rfl ?_
          refine w_if_le ok d7_103 (pc' := 117) (by decide) (fun hc237 => False.elim (by revert hc237; decide)) (fun hc237 => ?_)
          refine w_aloadN ok d7_106 rfl rfl ?_
          refine w_iconst ok d7_107 (v := (0 : Int32)) rfl ?_
          refine w_callS ok (y := mn_8) (argsL := [(.ref p), (.int (0 : Int32))]) (rest := []) d7_108 (hw _ (List.mem_of_getElem? (i := 34) rfl)) (hw _ (List.mem_of_getElem? (i := 35) rfl)) (hw _ (List.mem_of_getElem? (i := 4) rfl)) (hw _ (List.mem_of_getElem? (i := 36) rfl)) (by decide) pd_285bBI29Z rfl rfl (by decide) (Nat.le_of_ble_eq_true rfl) (by decide) (by decide) (fun z0 => rm_star l Z a0 hw [] n0 h0 z0 p [x0, x1, x2] A_p 0 (Nat.le_of_ble_eq_true rfl) (Nat.le_of_ble_eq_true rfl)) (fun v238 h239 qv238 => ?_)
          obtain ⟨⟨rfl, t240⟩ | ⟨rfl, t240⟩, rfl⟩ := qv238
          · skip
            replace t240 : x0 = 42 := t240
            show W K l _ n0 _ h0 0 0 111 #[.val (.ref p), .val (.ref n), .val (.int (3 : Int32)), .val (.int (Int32.ofNat ns.length)), .val (.int (0 : Int32)), .val (.int (-1 : Int32)), .unset, .unset, .unset, .unset, .unset, .unset, .unset] [(.int (1 : Int32))]
            refine w_if_eq ok d7_111 (pc' := 117) (by decide) (fun hc242 => False.elim (by revert hc242; decide)) (fun hc242 => ?_)
            refine w_iconst ok d7_114 (v := (0 : Int32)) rfl ?_
            refine w_istore ok d7_115 (L' := #[.val (.ref p), .val (.ref n), .val (.int (3 : Int32)), .val (.int (Int32.ofNat ns.length)), .val (.int (0 : Int32)), .val (.int (0 : Int32)), .unset, .unset, .unset, .unset, .unset, .unset, .unset]) rfl ?_
            refine w_iloadN ok d7_117 rfl ?_
            refine w_iconst ok d7_118 (v := (1 : Int32)) rfl ?_
            refine w_icmp_le ok d7_119 (pc' := 133) (by decide) (fun hc244 => False.elim (by revert hc244; decide)) (fun hc244 => ?_)
            refine w_aloadN ok d7_122 rfl rfl ?_
            refine w_iconst ok d7_123 (v := (1 : Int32)) rfl ?_
            refine w_callS ok (y := mn_8) (argsL := [(.ref p), (.int (1 : Int32))]) (rest := []) d7_124 (hw _ (List.mem_of_getElem? (i := 34) rfl)) (hw _ (List.mem_of_getElem? (i := 35) rfl)) (hw _ (List.mem_of_getElem? (i := 4) rfl)) (hw _ (List.mem_of_getElem? (i := 36) rfl)) (by decide) pd_285bBI29Z rfl rfl (by decide) (Nat.le_of_ble_eq_true rfl) (by decide) (by decide) (fun z0 => rm_star l Z a0 hw [] n0 h0 z0 p [x0, x1, x2] A_p 1 (Nat.le_of_ble_eq_true rfl) (Nat.le_of_ble_eq_true rfl)) (fun v245 h246 qv245 => ?_)
            obtain ⟨⟨rfl, t247⟩ | ⟨rfl, t247⟩, rfl⟩ := qv245
            · skip
              replace t247 : x1 = 42 := t247
              show W K l _ n0 _ h0 0 0 127 #[.val (.ref p), .val (.ref n), .val (.int (3 : Int32)), .val (.int (Int32.ofNat ns.length)), .val (.int (0 : Int32)), .val (.int (0 : Int32)), .unset, .unset, .unset, .unset, .unset, .unset, .unset] [(.int (1 : Int32))]
              refine w_if_eq ok d7_127 (pc' := 133) (by decide) (fun hc249 => False.elim (by revert hc249; decide)) (fun hc249 => ?_)
              refine w_iconst ok d7_130 (v := (1 : Int32)) rfl ?_
              refine w_istore ok d7_131 (L' := #[.val (.ref p), .val (.ref n), .val (.int (3 : Int32)), .val (.int (Int32.ofNat ns.length)), .val (.int (0 : Int32)), .val (.int (1 : Int32)), .unset, .unset, .unset, .unset, .unset, .unset, .unset]) rfl ?_
              refine w_iloadN ok d7_133 rfl ?_
              refine w_iconst ok d7_134 (v := (2 : Int32)) rfl ?_
              refine w_icmp_le ok d7_135 (pc' := 149) (by decide) (fun hc251 => False.elim (by revert hc251; decide)) (fun hc251 => ?_)
              refine w_aloadN ok d7_138 rfl rfl ?_
              refine w_iconst ok d7_139 (v := (2 : Int32)) rfl ?_
              refine w_callS ok (y := mn_8) (argsL := [(.ref p), (.int (2 : Int32))]) (rest := []) d7_140 (hw _ (List.mem_of_getElem? (i := 34) rfl)) (hw _ (List.mem_of_getElem? (i := 35) rfl)) (hw _ (List.mem_of_getElem? (i := 4) rfl)) (hw _ (List.mem_of_getElem? (i := 36) rfl)) (by decide) pd_285bBI29Z rfl rfl (by decide) (Nat.le_of_ble_eq_true rfl) (by decide) (by decide) (fun z0 => rm_star l Z a0 hw [] n0 h0 z0 p [x0, x1, x2] A_p 2 (Nat.le_of_ble_eq_true rfl) (Nat.le_of_ble_eq_true rfl)) (fun v252 h253 qv252 => ?_)
              obtain ⟨⟨rfl, t254⟩ | ⟨rfl, t254⟩, rfl⟩ := qv252
              · exact absurd t254 s2
              · skip
                replace t254 : ¬ (x2 = 42) := t254
                show W K l _ n0 _ h0 0 0 143 #[.val (.ref p), .val (.ref n), .val (.int (3 : Int32)), .val (.int (Int32.ofNat ns.length)), .val (.int (0 : Int32)), .val (.int (1 : Int32)), .unset, .unset, .unset, .unset, .unset, .unset, .unset] [(.int (0 : Int32))]
                refine w_if_eq ok d7_143 (pc' := 149) (by decide) (fun hc256 => ?_) (fun hc256 => False.elim (by revert hc256; decide))
                refine w_iloadN ok d7_149 rfl ?_
                refine w_iconst ok d7_150 (v := (3 : Int32)) rfl ?_
                refine w_icmp_le ok d7_151 (pc' := 165) (by decide) (fun hc258 => ?_) (fun hc258 => False.elim (by revert hc258; decide))
                refine w_iload ok d7_165 rfl ?_
                refine w_istore ok d7_167 (L' := #[.val (.ref p), .val (.ref n), .val (.int (3 : Int32)), .val (.int (Int32.ofNat ns.length)), .val (.int (0 : Int32)), .val (.int (1 : Int32)), .val (.int (0 : Int32)), .unset, .unset, .unset, .unset, .unset, .unset]) rfl ?_
                refine w_iloadN ok d7_169 rfl ?_
                refine w_iconst ok d7_170 (v := (1 : Int32)) rfl ?_
                refine w_isub ok d7_171 ?_
                show W K l _ n0 _ h0 0 0 172 #[.val (.ref p), .val (.ref n), .val (.int (3 : Int32)), .val (.int (Int32.ofNat ns.length)), .val (.int (0 : Int32)), .val (.int (1 : Int32)), .val (.int (0 : Int32)), .unset, .unset, .unset, .unset, .unset, .unset] [(.int (2 : Int32))]
                refine w_iload ok d7_172 rfl ?_
                refine w_isub ok d7_174 ?_
                show W K l _ n0 _ h0 0 0 175 #[.val (.ref p), .val (.ref n), .val (.int (3 : Int32)), .val (.int (Int32.ofNat ns.length)), .val (.int (0 : Int32)), .val (.int (1 : Int32)), .val (.int (0 : Int32)), .unset, .unset, .unset, .unset, .unset, .unset] [(.int (1 : Int32))]
                refine w_istore ok d7_175 (L' := #[.val (.ref p), .val (.ref n), .val (.int (3 : Int32)), .val (.int (Int32.ofNat ns.length)), .val (.int (0 : Int32)), .val (.int (1 : Int32)), .val (.int (0 : Int32)), .val (.int (1 : Int32)), .unset, .unset, .unset, .unset, .unset]) rfl ?_
                refine w_iloadN ok d7_177 rfl ?_
                refine w_iload ok d7_178 rfl ?_
                refine w_iload ok d7_180 rfl ?_
                refine w_iadd ok d7_182 ?_
                show W K l _ n0 _ h0 0 0 183 #[.val (.ref p), .val (.ref n), .val (.int (3 : Int32)), .val (.int (Int32.ofNat ns.length)), .val (.int (0 : Int32)), .val (.int (1 : Int32)), .val (.int (0 : Int32)), .val (.int (1 : Int32)), .unset, .unset, .unset, .unset, .unset] [(.int (1 : Int32)), (.int (Int32.ofNat ns.length))]
                refine w_icmp_ge ok d7_183 (pc' := 188) (by decide) (fun hc260 => ?_) (fun hc260 => ?_)
                · skip
                  have hge : 1 ≤ ns.length := by have q := hc260; rw [show (1 : Int32) = Int32.ofNat 1 from rfl, own_lt (by omega) (by omega)] at q; omega
                  refine w_aloadN ok d7_188 rfl rfl ?_
                  refine w_iconst ok d7_189 (v := (0 : Int32)) rfl ?_
                  refine w_iload ok d7_190 rfl ?_
                  refine w_aloadN ok d7_192 rfl rfl ?_
                  refine w_iconst ok d7_193 (v := (0 : Int32)) rfl ?_
                  refine w_callS ok (y := mn_9) (argsL := [(.ref p), (.int (0 : Int32)), (.int (0 : Int32)), (.ref n), (.int (0 : Int32))]) (rest := []) d7_194 (hw _ (List.mem_of_getElem? (i := 37) rfl)) (hw _ (List.mem_of_getElem? (i := 38) rfl)) (hw _ (List.mem_of_getElem? (i := 4) rfl)) (hw _ (List.mem_of_getElem? (i := 39) rfl)) (by decide) pd_285bBII5bBI29Z rfl rfl (by decide) (Nat.le_of_ble_eq_true rfl) (by decide) (by decide) (fun z0 => rm_seg l Z a0 hw [] n0 h0 z0 p n [x0, x1, x2] ns A_p A_n 0 0 0 _ rfl (Nat.le_of_ble_eq_true rfl) (by decide) (by omega) (Nat.le_of_ble_eq_true rfl) ln) (fun v261 h262 qv261 => ?_)
                  obtain ⟨⟨rfl, sgp⟩ | ⟨rfl, sgp⟩, rfl⟩ := qv261
                  · skip
                    replace sgp : SGl [] ns 0 := sgp
                    show W K l _ n0 _ h0 0 0 197 #[.val (.ref p), .val (.ref n), .val (.int (3 : Int32)), .val (.int (Int32.ofNat ns.length)), .val (.int (0 : Int32)), .val (.int (1 : Int32)), .val (.int (0 : Int32)), .val (.int (1 : Int32)), .unset, .unset, .unset, .unset, .unset] [(.int (1 : Int32))]
                    refine w_if_ne ok d7_197 (pc' := 202) (by decide) (fun hc264 => ?_) (fun hc264 => False.elim (by revert hc264; decide))
                    refine w_aloadN ok d7_202 rfl rfl ?_
                    refine w_iload ok d7_203 rfl ?_
                    refine w_iconst ok d7_205 (v := (1 : Int32)) rfl ?_
                    refine w_iadd ok d7_206 ?_
                    show W K l _ n0 _ h0 0 0 207 #[.val (.ref p), .val (.ref n), .val (.int (3 : Int32)), .val (.int (Int32.ofNat ns.length)), .val (.int (0 : Int32)), .val (.int (1 : Int32)), .val (.int (0 : Int32)), .val (.int (1 : Int32)), .unset, .unset, .unset, .unset, .unset] [(.int (2 : Int32)), (.ref p)]
                    refine w_iload ok d7_207 rfl ?_
                    refine w_aloadN ok d7_209 rfl rfl ?_
                    refine w_iloadN ok d7_210 rfl ?_
                    refine w_iload ok d7_211 rfl ?_
                    refine w_isub ok d7_213 ?_
                    refine w_callS ok (y := mn_9) (argsL := [(.ref p), (.int (2 : Int32)), (.int (1 : Int32)), (.ref n), (.int ((Int32.ofNat ns.length) - (1 : Int32)))]) (rest := []) d7_214 (hw _ (List.mem_of_getElem? (i := 37) rfl)) (hw _ (List.mem_of_getElem? (i := 38) rfl)) (hw _ (List.mem_of_getElem? (i := 4) rfl)) (hw _ (List.mem_of_getElem? (i := 39) rfl)) (by decide) pd_285bBII5bBI29Z rfl rfl (by decide) (Nat.le_of_ble_eq_true rfl) (by decide) (by decide) (fun z0 => rm_seg l Z a0 hw [] n0 h0 z0 p n [x0, x1, x2] ns A_p A_n 2 1 (ns.length - 1) _ (own_subk (k := 1) rfl (by omega) (by omega)) (Nat.le_of_ble_eq_true rfl) (by decide) (by omega) (Nat.le_of_ble_eq_true rfl) ln) (fun v265 h266 qv265 => ?_)
                    obtain ⟨⟨rfl, sgs⟩ | ⟨rfl, sgs⟩, rfl⟩ := qv265
                    · skip
                      replace sgs : SGl [x2] ns (ns.length - 1) := sgs
                      show W K l _ n0 _ h0 0 0 217 #[.val (.ref p), .val (.ref n), .val (.int (3 : Int32)), .val (.int (Int32.ofNat ns.length)), .val (.int (0 : Int32)), .val (.int (1 : Int32)), .val (.int (0 : Int32)), .val (.int (1 : Int32)), .unset, .unset, .unset, .unset, .unset] [(.int (1 : Int32))]
                      refine w_if_ne ok d7_217 (pc' := 222) (by decide) (fun hc268 => ?_) (fun hc268 => False.elim (by revert hc268; decide))
                      refine w_iload ok d7_222 rfl ?_
                      refine w_iload ok d7_224 rfl ?_
                      refine w_isub ok d7_226 ?_
                      show W K l _ n0 _ h0 0 0 227 #[.val (.ref p), .val (.ref n), .val (.int (3 : Int32)), .val (.int (Int32.ofNat ns.length)), .val (.int (0 : Int32)), .val (.int (1 : Int32)), .val (.int (0 : Int32)), .val (.int (1 : Int32)), .unset, .unset, .unset, .unset, .unset] [(.int (1 : Int32))]
                      refine w_iconst ok d7_227 (v := (1 : Int32)) rfl ?_
                      refine w_isub ok d7_228 ?_
                      show W K l _ n0 _ h0 0 0 229 #[.val (.ref p), .val (.ref n), .val (.int (3 : Int32)), .val (.int (Int32.ofNat ns.length)), .val (.int (0 : Int32)), .val (.int (1 : Int32)), .val (.int (0 : Int32)), .val (.int (1 : Int32)), .unset, .unset, .unset, .unset, .unset] [(.int (0 : Int32))]
                      refine w_istore ok d7_229 (L' := #[.val (.ref p), .val (.ref n), .val (.int (3 : Int32)), .val (.int (Int32.ofNat ns.length)), .val (.int (0 : Int32)), .val (.int (1 : Int32)), .val (.int (0 : Int32)), .val (.int (1 : Int32)), .val (.int (0 : Int32)), .unset, .unset, .unset, .unset]) rfl ?_
                      refine w_iload ok d7_231 rfl ?_
                      refine w_iconst ok d7_233 (v := (1 : Int32)) rfl ?_
                      refine w_iadd ok d7_234 ?_
                      show W K l _ n0 _ h0 0 0 235 #[.val (.ref p), .val (.ref n), .val (.int (3 : Int32)), .val (.int (Int32.ofNat ns.length)), .val (.int (0 : Int32)), .val (.int (1 : Int32)), .val (.int (0 : Int32)), .val (.int (1 : Int32)), .val (.int (0 : Int32)), .unset, .unset, .unset, .unset] [(.int (1 : Int32))]
                      refine w_istore ok d7_235 (L' := #[.val (.ref p), .val (.ref n), .val (.int (3 : Int32)), .val (.int (Int32.ofNat ns.length)), .val (.int (0 : Int32)), .val (.int (1 : Int32)), .val (.int (0 : Int32)), .val (.int (1 : Int32)), .val (.int (0 : Int32)), .val (.int (1 : Int32)), .unset, .unset, .unset]) rfl ?_
                      refine w_iconst ok d7_237 (v := (0 : Int32)) rfl ?_
                      refine w_istore ok d7_238 (L' := #[.val (.ref p), .val (.ref n), .val (.int (3 : Int32)), .val (.int (Int32.ofNat ns.length)), .val (.int (0 : Int32)), .val (.int (1 : Int32)), .val (.int (0 : Int32)), .val (.int (1 : Int32)), .val (.int (0 : Int32)), .val (.int (1 : Int32)), .val (.int (0 : Int32)), .unset, .unset]) rfl ?_
                      refine w_iload ok d7_240 rfl ?_
                      refine w_iconst ok d7_242 (v := (1 : Int32)) rfl ?_
                      refine w_icmp_ne ok d7_243 (pc' := 263) (by decide) (fun hc270 => ?_) (fun hc270 => False.elim (by revert hc270; decide))
                      refine w_iload ok d7_263 rfl ?_
                      refine w_iconst ok d7_265 (v := (2 : Int32)) rfl ?_
                      refine w_icmp_ne ok d7_266 (pc' := 340) (by decide) (fun hc272 => ?_) (fun hc272 => False.elim (by revert hc272; decide))
                      refine w_iload ok d7_340 rfl ?_
                      refine w_if_ne ok d7_342 (pc' := 347) (by decide) (fun hc274 => False.elim (by revert hc274; decide)) (fun hc274 => ?_)
                      refine w_iconst ok d7_345 (v := (1 : Int32)) rfl ?_
                      refine w_bret ok (by simp) d7_346 (by decide) (by decide) ?_
                      subst s0 s1
                      have key : Gi ns [42, 42, x2] 0 ↔ _ := (own_two (ns := ns) (P := []) (R := []) (Q := [x2]) NoS_nil NoS_nil (NoS_cons s2 NoS_nil))
                      exact ⟨Or.inl ⟨rfl, key.mpr ⟨hge, sgp, sgs, 0, Nat.le_refl _, (show 0 + 0 ≤ ns.length - 1 by omega), SGl_nil.mpr (by omega)⟩⟩, rfl⟩
                    · skip
                      replace sgs : ¬ (SGl [x2] ns (ns.length - 1)) := sgs
                      show W K l _ n0 _ h0 0 0 217 #[.val (.ref p), .val (.ref n), .val (.int (3 : Int32)), .val (.int (Int32.ofNat ns.length)), .val (.int (0 : Int32)), .val (.int (1 : Int32)), .val (.int (0 : Int32)), .val (.int (1 : Int32)), .unset, .unset, .unset, .unset, .unset] [(.int (0 : Int32))]
                      refine w_if_ne ok d7_217 (pc' := 222) (by decide) (fun hc276 => False.elim (by revert hc276; decide)) (fun hc276 => ?_)
                      refine w_iconst ok d7_220 (v := (0 : Int32)) rfl ?_
                      refine w_bret ok (by simp) d7_221 (by decide) (by decide) ?_
                      subst s0 s1
                      have key : Gi ns [42, 42, x2] 0 ↔ _ := (own_two (ns := ns) (P := []) (R := []) (Q := [x2]) NoS_nil NoS_nil (NoS_cons s2 NoS_nil))
                      exact ⟨Or.inr ⟨rfl, fun q => sgs (key.mp q).2.2.1⟩, rfl⟩
                  · skip
                    replace sgp : ¬ (SGl [] ns 0) := sgp
                    show W K l _ n0 _ h0 0 0 197 #[.val (.ref p), .val (.ref n), .val (.int (3 : Int32)), .val (.int (Int32.ofNat ns.length)), .val (.int (0 : Int32)), .val (.int (1 : Int32)), .val (.int (0 : Int32)), .val (.int (1 : Int32)), .unset, .unset, .unset, .unset, .unset] [(.int (0 : Int32))]
                    refine w_if_ne ok d7_197 (pc' := 202) (by decide) (fun hc278 => False.elim (by revert hc278; decide)) (fun hc278 => ?_)
                    refine w_iconst ok d7_200 (v := (0 : Int32)) rfl ?_
                    refine w_bret ok (by simp) d7_201 (by decide) (by decide) ?_
                    subst s0 s1
                    have key : Gi ns [42, 42, x2] 0 ↔ _ := (own_two (ns := ns) (P := []) (R := []) (Q := [x2]) NoS_nil NoS_nil (NoS_cons s2 NoS_nil))
                    exact ⟨Or.inr ⟨rfl, fun q => sgp (key.mp q).2.1⟩, rfl⟩
                · skip
                  refine w_iconst ok d7_186 (v := (0 : Int32)) rfl ?_
                  refine w_bret ok (by simp) d7_187 (by decide) (by decide) ?_
                  subst s0 s1
                  have key : Gi ns [42, 42, x2] 0 ↔ _ := (own_two (ns := ns) (P := []) (R := []) (Q := [x2]) NoS_nil NoS_nil (NoS_cons s2 NoS_nil))
                  refine ⟨Or.inr ⟨rfl, fun q => ?_⟩, rfl⟩
                  have q1 : 0 + 1 ≤ ns.length := (key.mp q).1
                  have q2 := hc260; rw [show (1 : Int32) = Int32.ofNat 1 from rfl, own_lt (by omega) (by omega)] at q2; omega
            · exact absurd s1 t247
          · exact absurd s0 t240
        · skip
          replace s0 : ¬ (x0 = 42) := s0
          show W K l _ n0 _ h0 0 0 66 #[.val (.ref p), .val (.ref n), .val (.int (3 : Int32)), .val (.int (Int32.ofNat ns.length)), .val (.int (1 : Int32)), .unset, .unset, .unset, .unset, .unset, .unset, .unset, .unset] [(.int (0 : Int32))]
          refine w_if_eq ok d7_66 (pc' := 72) (by decide) (fun hc280 => ?_) (fun hc280 => False.elim (by revert hc280; decide))
          refine w_iload ok d7_72 rfl ?_
          refine w_if_ge ok d7_74 (pc' := 99) (by decide) (fun hc282 => ?_) (fun hc282 => False.elim (by revert hc282; decide))
          refine w_iconst ok d7_99 (v := (-1 : Int32)) rfl ?_
          refine w_istore ok d7_100 (L' := #[.val (.ref p), .val (.ref n), .val (.int (3 : Int32)), .val (.int (Int32.ofNat ns.length)), .val (.int (1 : Int32)), .val (.int (-1 : Int32)), .unset, .unset, .unset, .unset, .unset, .unset, .unset]) rfl ?_
          refine w_iloadN ok d7_102 rfl ?_
          refine w_if_le ok d7_103 (pc' := 117) (by decide) (fun hc284 => False.elim (by revert hc284; decide)) (fun hc284 => ?_)
          refine w_aloadN ok d7_106 rfl rfl ?_
          refine w_iconst ok d7_107 (v := (0 : Int32)) rfl ?_
          refine w_callS ok (y := mn_8) (argsL := [(.ref p), (.int (0 : Int32))]) (rest := []) d7_108 (hw _ (List.mem_of_getElem? (i := 34) rfl)) (hw _ (List.mem_of_getElem? (i := 35) rfl)) (hw _ (List.mem_of_getElem? (i := 4) rfl)) (hw _ (List.mem_of_getElem? (i := 36) rfl)) (by decide) pd_285bBI29Z rfl rfl (by decide) (Nat.le_of_ble_eq_true rfl) (by decide) (by decide) (fun z0 => rm_star l Z a0 hw [] n0 h0 z0 p [x0, x1, x2] A_p 0 (Nat.le_of_ble_eq_true rfl) (Nat.le_of_ble_eq_true rfl)) (fun v285 h286 qv285 => ?_)
          obtain ⟨⟨rfl, t287⟩ | ⟨rfl, t287⟩, rfl⟩ := qv285
          · exact absurd t287 s0
          · skip
            replace t287 : ¬ (x0 = 42) := t287
            show W K l _ n0 _ h0 0 0 111 #[.val (.ref p), .val (.ref n), .val (.int (3 : Int32)), .val (.int (Int32.ofNat ns.length)), .val (.int (1 : Int32)), .val (.int (-1 : Int32)), .unset, .unset, .unset, .unset, .unset, .unset, .unset] [(.int (0 : Int32))]
            refine w_if_eq ok d7_111 (pc' := 117) (by decide) (fun hc289 => ?_) (fun hc289 => False.elim (by revert hc289; decide))
            refine w_iloadN ok d7_117 rfl ?_
            refine w_iconst ok d7_118 (v := (1 : Int32)) rfl ?_
            refine w_icmp_le ok d7_119 (pc' := 133) (by decide) (fun hc291 => False.elim (by revert hc291; decide)) (fun hc291 => ?_)
            refine w_aloadN ok d7_122 rfl rfl ?_
            refine w_iconst ok d7_123 (v := (1 : Int32)) rfl ?_
            refine w_callS ok (y := mn_8) (argsL := [(.ref p), (.int (1 : Int32))]) (rest := []) d7_124 (hw _ (List.mem_of_getElem? (i := 34) rfl)) (hw _ (List.mem_of_getElem? (i := 35) rfl)) (hw _ (List.mem_of_getElem? (i := 4) rfl)) (hw _ (List.mem_of_getElem? (i := 36) rfl)) (by decide) pd_285bBI29Z rfl rfl (by decide) (Nat.le_of_ble_eq_true rfl) (by decide) (by decide) (fun z0 => rm_star l Z a0 hw [] n0 h0 z0 p [x0, x1, x2] A_p 1 (Nat.le_of_ble_eq_true rfl) (Nat.le_of_ble_eq_true rfl)) (fun v292 h293 qv292 => ?_)
            obtain ⟨⟨rfl, t294⟩ | ⟨rfl, t294⟩, rfl⟩ := qv292
            · skip
              replace t294 : x1 = 42 := t294
              show W K l _ n0 _ h0 0 0 127 #[.val (.ref p), .val (.ref n), .val (.int (3 : Int32)), .val (.int (Int32.ofNat ns.length)), .val (.int (1 : Int32)), .val (.int (-1 : Int32)), .unset, .unset, .unset, .unset, .unset, .unset, .unset] [(.int (1 : Int32))]
              refine w_if_eq ok d7_127 (pc' := 133) (by decide) (fun hc296 => False.elim (by revert hc296; decide)) (fun hc296 => ?_)
              refine w_iconst ok d7_130 (v := (1 : Int32)) rfl ?_
              refine w_istore ok d7_131 (L' := #[.val (.ref p), .val (.ref n), .val (.int (3 : Int32)), .val (.int (Int32.ofNat ns.length)), .val (.int (1 : Int32)), .val (.int (1 : Int32)), .unset, .unset, .unset, .unset, .unset, .unset, .unset]) rfl ?_
              refine w_iloadN ok d7_133 rfl ?_
              refine w_iconst ok d7_134 (v := (2 : Int32)) rfl ?_
              refine w_icmp_le ok d7_135 (pc' := 149) (by decide) (fun hc298 => False.elim (by revert hc298; decide)) (fun hc298 => ?_)
              refine w_aloadN ok d7_138 rfl rfl ?_
              refine w_iconst ok d7_139 (v := (2 : Int32)) rfl ?_
              refine w_callS ok (y := mn_8) (argsL := [(.ref p), (.int (2 : Int32))]) (rest := []) d7_140 (hw _ (List.mem_of_getElem? (i := 34) rfl)) (hw _ (List.mem_of_getElem? (i := 35) rfl)) (hw _ (List.mem_of_getElem? (i := 4) rfl)) (hw _ (List.mem_of_getElem? (i := 36) rfl)) (by decide) pd_285bBI29Z rfl rfl (by decide) (Nat.le_of_ble_eq_true rfl) (by decide) (by decide) (fun z0 => rm_star l Z a0 hw [] n0 h0 z0 p [x0, x1, x2] A_p 2 (Nat.le_of_ble_eq_true rfl) (Nat.le_of_ble_eq_true rfl)) (fun v299 h300 qv299 => ?_)
              obtain ⟨⟨rfl, t301⟩ | ⟨rfl, t301⟩, rfl⟩ := qv299
              · exact absurd t301 s2
              · skip
                replace t301 : ¬ (x2 = 42) := t301
                show W K l _ n0 _ h0 0 0 143 #[.val (.ref p), .val (.ref n), .val (.int (3 : Int32)), .val (.int (Int32.ofNat ns.length)), .val (.int (1 : Int32)), .val (.int (1 : Int32)), .unset, .unset, .unset, .unset, .unset, .unset, .unset] [(.int (0 : Int32))]
                refine w_if_eq ok d7_143 (pc' := 149) (by decide) (fun hc303 => ?_) (fun hc303 => False.elim (by revert hc303; decide))
                refine w_iloadN ok d7_149 rfl ?_
                refine w_iconst ok d7_150 (v := (3 : Int32)) rfl ?_
                refine w_icmp_le ok d7_151 (pc' := 165) (by decide) (fun hc305 => ?_) (fun hc305 => False.elim (by revert hc305; decide))
                refine w_iload ok d7_165 rfl ?_
                refine w_istore ok d7_167 (L' := #[.val (.ref p), .val (.ref n), .val (.int (3 : Int32)), .val (.int (Int32.ofNat ns.length)), .val (.int (1 : Int32)), .val (.int (1 : Int32)), .val (.int (1 : Int32)), .unset, .unset, .unset, .unset, .unset, .unset]) rfl ?_
                refine w_iloadN ok d7_169 rfl ?_
                refine w_iconst ok d7_170 (v := (1 : Int32)) rfl ?_
                refine w_isub ok d7_171 ?_
                show W K l _ n0 _ h0 0 0 172 #[.val (.ref p), .val (.ref n), .val (.int (3 : Int32)), .val (.int (Int32.ofNat ns.length)), .val (.int (1 : Int32)), .val (.int (1 : Int32)), .val (.int (1 : Int32)), .unset, .unset, .unset, .unset, .unset, .unset] [(.int (2 : Int32))]
                refine w_iload ok d7_172 rfl ?_
                refine w_isub ok d7_174 ?_
                show W K l _ n0 _ h0 0 0 175 #[.val (.ref p), .val (.ref n), .val (.int (3 : Int32)), .val (.int (Int32.ofNat ns.length)), .val (.int (1 : Int32)), .val (.int (1 : Int32)), .val (.int (1 : Int32)), .unset, .unset, .unset, .unset, .unset, .unset] [(.int (1 : Int32))]
                refine w_istore ok d7_175 (L' := #[.val (.ref p), .val (.ref n), .val (.int (3 : Int32)), .val (.int (Int32.ofNat ns.length)), .val (.int (1 : Int32)), .val (.int (1 : Int32)), .val (.int (1 : Int32)), .val (.int (1 : Int32)), .unset, .unset, .unset, .unset, .unset]) rfl ?_
                refine w_iloadN ok d7_177 rfl ?_
                refine w_iload ok d7_178 rfl ?_
                refine w_iload ok d7_180 rfl ?_
                refine w_iadd ok d7_182 ?_
                show W K l _ n0 _ h0 0 0 183 #[.val (.ref p), .val (.ref n), .val (.int (3 : Int32)), .val (.int (Int32.ofNat ns.length)), .val (.int (1 : Int32)), .val (.int (1 : Int32)), .val (.int (1 : Int32)), .val (.int (1 : Int32)), .unset, .unset, .unset, .unset, .unset] [(.int (2 : Int32)), (.int (Int32.ofNat ns.length))]
                refine w_icmp_ge ok d7_183 (pc' := 188) (by decide) (fun hc307 => ?_) (fun hc307 => ?_)
                · skip
                  have hge : 2 ≤ ns.length := by have q := hc307; rw [show (2 : Int32) = Int32.ofNat 2 from rfl, own_lt (by omega) (by omega)] at q; omega
                  refine w_aloadN ok d7_188 rfl rfl ?_
                  refine w_iconst ok d7_189 (v := (0 : Int32)) rfl ?_
                  refine w_iload ok d7_190 rfl ?_
                  refine w_aloadN ok d7_192 rfl rfl ?_
                  refine w_iconst ok d7_193 (v := (0 : Int32)) rfl ?_
                  refine w_callS ok (y := mn_9) (argsL := [(.ref p), (.int (0 : Int32)), (.int (1 : Int32)), (.ref n), (.int (0 : Int32))]) (rest := []) d7_194 (hw _ (List.mem_of_getElem? (i := 37) rfl)) (hw _ (List.mem_of_getElem? (i := 38) rfl)) (hw _ (List.mem_of_getElem? (i := 4) rfl)) (hw _ (List.mem_of_getElem? (i := 39) rfl)) (by decide) pd_285bBII5bBI29Z rfl rfl (by decide) (Nat.le_of_ble_eq_true rfl) (by decide) (by decide) (fun z0 => rm_seg l Z a0 hw [] n0 h0 z0 p n [x0, x1, x2] ns A_p A_n 0 1 0 _ rfl (Nat.le_of_ble_eq_true rfl) (by decide) (by omega) (Nat.le_of_ble_eq_true rfl) ln) (fun v308 h309 qv308 => ?_)
                  obtain ⟨⟨rfl, sgp⟩ | ⟨rfl, sgp⟩, rfl⟩ := qv308
                  · skip
                    replace sgp : SGl [x0] ns 0 := sgp
                    show W K l _ n0 _ h0 0 0 197 #[.val (.ref p), .val (.ref n), .val (.int (3 : Int32)), .val (.int (Int32.ofNat ns.length)), .val (.int (1 : Int32)), .val (.int (1 : Int32)), .val (.int (1 : Int32)), .val (.int (1 : Int32)), .unset, .unset, .unset, .unset, .unset] [(.int (1 : Int32))]
                    refine w_if_ne ok d7_197 (pc' := 202) (by decide) (fun hc311 => ?_) (fun hc311 => False.elim (by revert hc311; decide))
                    refine w_aloadN ok d7_202 rfl rfl ?_
                    refine w_iload ok d7_203 rfl ?_
                    refine w_iconst ok d7_205 (v := (1 : Int32)) rfl ?_
                    refine w_iadd ok d7_206 ?_
                    show W K l _ n0 _ h0 0 0 207 #[.val (.ref p), .val (.ref n), .val (.int (3 : Int32)), .val (.int (Int32.ofNat ns.length)), .val (.int (1 : Int32)), .val (.int (1 : Int32)), .val (.int (1 : Int32)), .val (.int (1 : Int32)), .unset, .unset, .unset, .unset, .unset] [(.int (2 : Int32)), (.ref p)]
                    refine w_iload ok d7_207 rfl ?_
                    refine w_aloadN ok d7_209 rfl rfl ?_
                    refine w_iloadN ok d7_210 rfl ?_
                    refine w_iload ok d7_211 rfl ?_
                    refine w_isub ok d7_213 ?_
                    refine w_callS ok (y := mn_9) (argsL := [(.ref p), (.int (2 : Int32)), (.int (1 : Int32)), (.ref n), (.int ((Int32.ofNat ns.length) - (1 : Int32)))]) (rest := []) d7_214 (hw _ (List.mem_of_getElem? (i := 37) rfl)) (hw _ (List.mem_of_getElem? (i := 38) rfl)) (hw _ (List.mem_of_getElem? (i := 4) rfl)) (hw _ (List.mem_of_getElem? (i := 39) rfl)) (by decide) pd_285bBII5bBI29Z rfl rfl (by decide) (Nat.le_of_ble_eq_true rfl) (by decide) (by decide) (fun z0 => rm_seg l Z a0 hw [] n0 h0 z0 p n [x0, x1, x2] ns A_p A_n 2 1 (ns.length - 1) _ (own_subk (k := 1) rfl (by omega) (by omega)) (Nat.le_of_ble_eq_true rfl) (by decide) (by omega) (Nat.le_of_ble_eq_true rfl) ln) (fun v312 h313 qv312 => ?_)
                    obtain ⟨⟨rfl, sgs⟩ | ⟨rfl, sgs⟩, rfl⟩ := qv312
                    · skip
                      replace sgs : SGl [x2] ns (ns.length - 1) := sgs
                      show W K l _ n0 _ h0 0 0 217 #[.val (.ref p), .val (.ref n), .val (.int (3 : Int32)), .val (.int (Int32.ofNat ns.length)), .val (.int (1 : Int32)), .val (.int (1 : Int32)), .val (.int (1 : Int32)), .val (.int (1 : Int32)), .unset, .unset, .unset, .unset, .unset] [(.int (1 : Int32))]
                      refine w_if_ne ok d7_217 (pc' := 222) (by decide) (fun hc315 => ?_) (fun hc315 => False.elim (by revert hc315; decide))
                      refine w_iload ok d7_222 rfl ?_
                      refine w_iload ok d7_224 rfl ?_
                      refine w_isub ok d7_226 ?_
                      show W K l _ n0 _ h0 0 0 227 #[.val (.ref p), .val (.ref n), .val (.int (3 : Int32)), .val (.int (Int32.ofNat ns.length)), .val (.int (1 : Int32)), .val (.int (1 : Int32)), .val (.int (1 : Int32)), .val (.int (1 : Int32)), .unset, .unset, .unset, .unset, .unset] [(.int (0 : Int32))]
                      refine w_iconst ok d7_227 (v := (1 : Int32)) rfl ?_
                      refine w_isub ok d7_228 ?_
                      show W K l _ n0 _ h0 0 0 229 #[.val (.ref p), .val (.ref n), .val (.int (3 : Int32)), .val (.int (Int32.ofNat ns.length)), .val (.int (1 : Int32)), .val (.int (1 : Int32)), .val (.int (1 : Int32)), .val (.int (1 : Int32)), .unset, .unset, .unset, .unset, .unset] [(.int (-1 : Int32))]
                      refine w_istore ok d7_229 (L' := #[.val (.ref p), .val (.ref n), .val (.int (3 : Int32)), .val (.int (Int32.ofNat ns.length)), .val (.int (1 : Int32)), .val (.int (1 : Int32)), .val (.int (1 : Int32)), .val (.int (1 : Int32)), .val (.int (-1 : Int32)), .unset, .unset, .unset, .unset]) rfl ?_
                      refine w_iload ok d7_231 rfl ?_
                      refine w_iconst ok d7_233 (v := (1 : Int32)) rfl ?_
                      refine w_iadd ok d7_234 ?_
                      show W K l _ n0 _ h0 0 0 235 #[.val (.ref p), .val (.ref n), .val (.int (3 : Int32)), .val (.int (Int32.ofNat ns.length)), .val (.int (1 : Int32)), .val (.int (1 : Int32)), .val (.int (1 : Int32)), .val (.int (1 : Int32)), .val (.int (-1 : Int32)), .unset, .unset, .unset, .unset] [(.int (2 : Int32))]
                      refine w_istore ok d7_235 (L' := #[.val (.ref p), .val (.ref n), .val (.int (3 : Int32)), .val (.int (Int32.ofNat ns.length)), .val (.int (1 : Int32)), .val (.int (1 : Int32)), .val (.int (1 : Int32)), .val (.int (1 : Int32)), .val (.int (-1 : Int32)), .val (.int (2 : Int32)), .unset, .unset, .unset]) rfl ?_
                      refine w_iconst ok d7_237 (v := (0 : Int32)) rfl ?_
                      refine w_istore ok d7_238 (L' := #[.val (.ref p), .val (.ref n), .val (.int (3 : Int32)), .val (.int (Int32.ofNat ns.length)), .val (.int (1 : Int32)), .val (.int (1 : Int32)), .val (.int (1 : Int32)), .val (.int (1 : Int32)), .val (.int (-1 : Int32)), .val (.int (2 : Int32)), .val (.int (0 : Int32)), .unset, .unset]) rfl ?_
                      refine w_iload ok d7_240 rfl ?_
                      refine w_iconst ok d7_242 (v := (1 : Int32)) rfl ?_
                      refine w_icmp_ne ok d7_243 (pc' := 263) (by decide) (fun hc317 => ?_) (fun hc317 => False.elim (by revert hc317; decide))
                      refine w_iload ok d7_263 rfl ?_
                      refine w_iconst ok d7_265 (v := (2 : Int32)) rfl ?_
                      refine w_icmp_ne ok d7_266 (pc' := 340) (by decide) (fun hc319 => ?_) (fun hc319 => False.elim (by revert hc319; decide))
                      refine w_iload ok d7_340 rfl ?_
                      refine w_if_ne ok d7_342 (pc' := 347) (by decide) (fun hc321 => False.elim (by revert hc321; decide)) (fun hc321 => ?_)
                      refine w_iconst ok d7_345 (v := (1 : Int32)) rfl ?_
                      refine w_bret ok (by simp) d7_346 (by decide) (by decide) ?_
                      subst s1
                      have key : Gi ns [x0, 42, x2] 0 ↔ _ := own_one (ns := ns) (P := [x0]) (Q := [x2]) (NoS_cons s0 NoS_nil) (NoS_cons s2 NoS_nil)
                      exact ⟨Or.inl ⟨rfl, key.mpr ⟨hge, sgp, sgs⟩⟩, rfl⟩
                    · skip
                      replace sgs : ¬ (SGl [x2] ns (ns.length - 1)) := sgs
                      show W K l _ n0 _ h0 0 0 217 #[.val (.ref p), .val (.ref n), .val (.int (3 : Int32)), .val (.int (Int32.ofNat ns.length)), .val (.int (1 : Int32)), .val (.int (1 : Int32)), .val (.int (1 : Int32)), .val (.int (1 : Int32)), .unset, .unset, .unset, .unset, .unset] [(.int (0 : Int32))]
                      refine w_if_ne ok d7_217 (pc' := 222) (by decide) (fun hc323 => False.elim (by revert hc323; decide)) (fun hc323 => ?_)
                      refine w_iconst ok d7_220 (v := (0 : Int32)) rfl ?_
                      refine w_bret ok (by simp) d7_221 (by decide) (by decide) ?_
                      subst s1
                      have key : Gi ns [x0, 42, x2] 0 ↔ _ := own_one (ns := ns) (P := [x0]) (Q := [x2]) (NoS_cons s0 NoS_nil) (NoS_cons s2 NoS_nil)
                      exact ⟨Or.inr ⟨rfl, fun q => sgs (key.mp q).2.2⟩, rfl⟩
                  · skip
                    replace sgp : ¬ (SGl [x0] ns 0) := sgp
                    show W K l _ n0 _ h0 0 0 197 #[.val (.ref p), .val (.ref n), .val (.int (3 : Int32)), .val (.int (Int32.ofNat ns.length)), .val (.int (1 : Int32)), .val (.int (1 : Int32)), .val (.int (1 : Int32)), .val (.int (1 : Int32)), .unset, .unset, .unset, .unset, .unset] [(.int (0 : Int32))]
                    refine w_if_ne ok d7_197 (pc' := 202) (by decide) (fun hc325 => False.elim (by revert hc325; decide)) (fun hc325 => ?_)
                    refine w_iconst ok d7_200 (v := (0 : Int32)) rfl ?_
                    refine w_bret ok (by simp) d7_201 (by decide) (by decide) ?_
                    subst s1
                    have key : Gi ns [x0, 42, x2] 0 ↔ _ := own_one (ns := ns) (P := [x0]) (Q := [x2]) (NoS_cons s0 NoS_nil) (NoS_cons s2 NoS_nil)
                    exact ⟨Or.inr ⟨rfl, fun q => sgp (key.mp q).2.1⟩, rfl⟩
                · skip
                  refine w_iconst ok d7_186 (v := (0 : Int32)) rfl ?_
                  refine w_bret ok (by simp) d7_187 (by decide) (by decide) ?_
                  subst s1
                  have key : Gi ns [x0, 42, x2] 0 ↔ _ := own_one (ns := ns) (P := [x0]) (Q := [x2]) (NoS_cons s0 NoS_nil) (NoS_cons s2 NoS_nil)
                  refine ⟨Or.inr ⟨rfl, fun q => ?_⟩, rfl⟩
                  have q1 : 1 + 1 ≤ ns.length := (key.mp q).1
                  have q2 := hc307; rw [show (2 : Int32) = Int32.ofNat 2 from rfl, own_lt (by omega) (by omega)] at q2; omega
            · exact absurd s1 t294
      · skip
        replace s1 : ¬ (x1 = 42) := s1
        show W K l _ n0 _ h0 0 0 51 #[.val (.ref p), .val (.ref n), .val (.int (3 : Int32)), .val (.int (Int32.ofNat ns.length)), .val (.int (-1 : Int32)), .unset, .unset, .unset, .unset, .unset, .unset, .unset, .unset] [(.int (0 : Int32))]
        refine w_if_eq ok d7_51 (pc' := 57) (by decide) (fun hc327 => ?_) (fun hc327 => False.elim (by revert hc327; decide))
        refine w_iloadN ok d7_57 rfl ?_
        refine w_if_le ok d7_58 (pc' := 72) (by decide) (fun hc329 => False.elim (by revert hc329; decide)) (fun hc329 => ?_)
        refine w_aloadN ok d7_61 rfl rfl ?_
        refine w_iconst ok d7_62 (v := (0 : Int32)) rfl ?_
        refine w_callS ok (y := mn_8) (argsL := [(.ref p), (.int (0 : Int32))]) (rest := []) d7_63 (hw _ (List.mem_of_getElem? (i := 34) rfl)) (hw _ (List.mem_of_getElem? (i := 35) rfl)) (hw _ (List.mem_of_getElem? (i := 4) rfl)) (hw _ (List.mem_of_getElem? (i := 36) rfl)) (by decide) pd_285bBI29Z rfl rfl (by decide) (Nat.le_of_ble_eq_true rfl) (by decide) (by decide) (fun z0 => rm_star l Z a0 hw [] n0 h0 z0 p [x0, x1, x2] A_p 0 (Nat.le_of_ble_eq_true rfl) (Nat.le_of_ble_eq_true rfl)) (fun v330 h331 qv330 => ?_)
        obtain ⟨⟨rfl, s0⟩ | ⟨rfl, s0⟩, rfl⟩ := qv330
        · skip
          replace s0 : x0 = 42 := s0
          show W K l _ n0 _ h0 0 0 66 #[.val (.ref p), .val (.ref n), .val (.int (3 : Int32)), .val (.int (Int32.ofNat ns.length)), .val (.int (-1 : Int32)), .unset, .unset, .unset, .unset, .unset, .unset, .unset, .unset] [(.int (1 : Int32))]
          refine w_if_eq ok d7_66 (pc' := 72) (by decide) (fun hc333 => False.elim (by revert hc333; decide)) (fun hc333 => ?_)
          refine w_iconst ok d7_69 (v := (0 : Int32)) rfl ?_
          refine w_istore ok d7_70 (L' := #[.val (.ref p), .val (.ref n), .val (.int (3 : Int32)), .val (.int (Int32.ofNat ns.length)), .val (.int (0 : Int32)), .unset, .unset, .unset, .unset, .unset, .unset, .unset, .unset]) rfl ?_
          refine w_iload ok d7_72 rfl ?_
          refine w_if_ge ok d7_74 (pc' := 99) (by decide) (fun hc335 => ?_) (fun hc335 => False.elim (by revert hc335; decide))
          refine w_iconst ok d7_99 (v := (-1 : Int32)) rfl ?_
          refine w_istore ok d7_100 (L' := #[.val (.ref p), .val (.ref n), .val (.int (3 : Int32)), .val (.int (Int32.ofNat ns.length)), .val (.int (0 : Int32)), .val (.int (-1 : Int32)), .unset, .unset, .unset, .unset, .unset, .unset, .unset]) rfl ?_
          refine w_iloadN ok d7_102 rfl ?_
          refine w_if_le ok d7_103 (pc' := 117) (by decide) (fun hc337 => False.elim (by revert hc337; decide)) (fun hc337 => ?_)
          refine w_aloadN ok d7_106 rfl rfl ?_
          refine w_iconst ok d7_107 (v := (0 : Int32)) rfl ?_
          refine w_callS ok (y := mn_8) (argsL := [(.ref p), (.int (0 : Int32))]) (rest := []) d7_108 (hw _ (List.mem_of_getElem? (i := 34) rfl)) (hw _ (List.mem_of_getElem? (i := 35) rfl)) (hw _ (List.mem_of_getElem? (i := 4) rfl)) (hw _ (List.mem_of_getElem? (i := 36) rfl)) (by decide) pd_285bBI29Z rfl rfl (by decide) (Nat.le_of_ble_eq_true rfl) (by decide) (by decide) (fun z0 => rm_star l Z a0 hw [] n0 h0 z0 p [x0, x1, x2] A_p 0 (Nat.le_of_ble_eq_true rfl) (Nat.le_of_ble_eq_true rfl)) (fun v338 h339 qv338 => ?_)
          obtain ⟨⟨rfl, t340⟩ | ⟨rfl, t340⟩, rfl⟩ := qv338
          · skip
            replace t340 : x0 = 42 := t340
            show W K l _ n0 _ h0 0 0 111 #[.val (.ref p), .val (.ref n), .val (.int (3 : Int32)), .val (.int (Int32.ofNat ns.length)), .val (.int (0 : Int32)), .val (.int (-1 : Int32)), .unset, .unset, .unset, .unset, .unset, .unset, .unset] [(.int (1 : Int32))]
            refine w_if_eq ok d7_111 (pc' := 117) (by decide) (fun hc342 => False.elim (by revert hc342; decide)) (fun hc342 => ?_)
            refine w_iconst ok d7_114 (v := (0 : Int32)) rfl ?_
            refine w_istore ok d7_115 (L' := #[.val (.ref p), .val (.ref n), .val (.int (3 : Int32)), .val (.int (Int32.ofNat ns.length)), .val (.int (0 : Int32)), .val (.int (0 : Int32)), .unset, .unset, .unset, .unset, .unset, .unset, .unset]) rfl ?_
            refine w_iloadN ok d7_117 rfl ?_
            refine w_iconst ok d7_118 (v := (1 : Int32)) rfl ?_
            refine w_icmp_le ok d7_119 (pc' := 133) (by decide) (fun hc344 => False.elim (by revert hc344; decide)) (fun hc344 => ?_)
            refine w_aloadN ok d7_122 rfl rfl ?_
            refine w_iconst ok d7_123 (v := (1 : Int32)) rfl ?_
            refine w_callS ok (y := mn_8) (argsL := [(.ref p), (.int (1 : Int32))]) (rest := []) d7_124 (hw _ (List.mem_of_getElem? (i := 34) rfl)) (hw _ (List.mem_of_getElem? (i := 35) rfl)) (hw _ (List.mem_of_getElem? (i := 4) rfl)) (hw _ (List.mem_of_getElem? (i := 36) rfl)) (by decide) pd_285bBI29Z rfl rfl (by decide) (Nat.le_of_ble_eq_true rfl) (by decide) (by decide) (fun z0 => rm_star l Z a0 hw [] n0 h0 z0 p [x0, x1, x2] A_p 1 (Nat.le_of_ble_eq_true rfl) (Nat.le_of_ble_eq_true rfl)) (fun v345 h346 qv345 => ?_)
            obtain ⟨⟨rfl, t347⟩ | ⟨rfl, t347⟩, rfl⟩ := qv345
            · exact absurd t347 s1
            · skip
              replace t347 : ¬ (x1 = 42) := t347
              show W K l _ n0 _ h0 0 0 127 #[.val (.ref p), .val (.ref n), .val (.int (3 : Int32)), .val (.int (Int32.ofNat ns.length)), .val (.int (0 : Int32)), .val (.int (0 : Int32)), .unset, .unset, .unset, .unset, .unset, .unset, .unset] [(.int (0 : Int32))]
              refine w_if_eq ok d7_127 (pc' := 133) (by decide) (fun hc349 => ?_) (fun hc349 => False.elim (by revert hc349; decide))
              refine w_iloadN ok d7_133 rfl ?_
              refine w_iconst ok d7_134 (v := (2 : Int32)) rfl ?_
              refine w_icmp_le ok d7_135 (pc' := 149) (by decide) (fun hc351 => False.elim (by revert hc351; decide)) (fun hc351 => ?_)
              refine w_aloadN ok d7_138 rfl rfl ?_
              refine w_iconst ok d7_139 (v := (2 : Int32)) rfl ?_
              refine w_callS ok (y := mn_8) (argsL := [(.ref p), (.int (2 : Int32))]) (rest := []) d7_140 (hw _ (List.mem_of_getElem? (i := 34) rfl)) (hw _ (List.mem_of_getElem? (i := 35) rfl)) (hw _ (List.mem_of_getElem? (i := 4) rfl)) (hw _ (List.mem_of_getElem? (i := 36) rfl)) (by decide) pd_285bBI29Z rfl rfl (by decide) (Nat.le_of_ble_eq_true rfl) (by decide) (by decide) (fun z0 => rm_star l Z a0 hw [] n0 h0 z0 p [x0, x1, x2] A_p 2 (Nat.le_of_ble_eq_true rfl) (Nat.le_of_ble_eq_true rfl)) (fun v352 h353 qv352 => ?_)
              obtain ⟨⟨rfl, t354⟩ | ⟨rfl, t354⟩, rfl⟩ := qv352
              · exact absurd t354 s2
              · skip
                replace t354 : ¬ (x2 = 42) := t354
                show W K l _ n0 _ h0 0 0 143 #[.val (.ref p), .val (.ref n), .val (.int (3 : Int32)), .val (.int (Int32.ofNat ns.length)), .val (.int (0 : Int32)), .val (.int (0 : Int32)), .unset, .unset, .unset, .unset, .unset, .unset, .unset] [(.int (0 : Int32))]
                refine w_if_eq ok d7_143 (pc' := 149) (by decide) (fun hc356 => ?_) (fun hc356 => False.elim (by revert hc356; decide))
                refine w_iloadN ok d7_149 rfl ?_
                refine w_iconst ok d7_150 (v := (3 : Int32)) rfl ?_
                refine w_icmp_le ok d7_151 (pc' := 165) (by decide) (fun hc358 => ?_) (fun hc358 => False.elim (by revert hc358; decide))
                refine w_iload ok d7_165 rfl ?_
                refine w_istore ok d7_167 (L' := #[.val (.ref p), .val (.ref n), .val (.int (3 : Int32)), .val (.int (Int32.ofNat ns.length)), .val (.int (0 : Int32)), .val (.int (0 : Int32)), .val (.int (0 : Int32)), .unset, .unset, .unset, .unset, .unset, .unset]) rfl ?_
                refine w_iloadN ok d7_169 rfl ?_
                refine w_iconst ok d7_170 (v := (1 : Int32)) rfl ?_
                refine w_isub ok d7_171 ?_
                show W K l _ n0 _ h0 0 0 172 #[.val (.ref p), .val (.ref n), .val (.int (3 : Int32)), .val (.int (Int32.ofNat ns.length)), .val (.int (0 : Int32)), .val (.int (0 : Int32)), .val (.int (0 : Int32)), .unset, .unset, .unset, .unset, .unset, .unset] [(.int (2 : Int32))]
                refine w_iload ok d7_172 rfl ?_
                refine w_isub ok d7_174 ?_
                show W K l _ n0 _ h0 0 0 175 #[.val (.ref p), .val (.ref n), .val (.int (3 : Int32)), .val (.int (Int32.ofNat ns.length)), .val (.int (0 : Int32)), .val (.int (0 : Int32)), .val (.int (0 : Int32)), .unset, .unset, .unset, .unset, .unset, .unset] [(.int (2 : Int32))]
                refine w_istore ok d7_175 (L' := #[.val (.ref p), .val (.ref n), .val (.int (3 : Int32)), .val (.int (Int32.ofNat ns.length)), .val (.int (0 : Int32)), .val (.int (0 : Int32)), .val (.int (0 : Int32)), .val (.int (2 : Int32)), .unset, .unset, .unset, .unset, .unset]) rfl ?_
                refine w_iloadN ok d7_177 rfl ?_
                refine w_iload ok d7_178 rfl ?_
                refine w_iload ok d7_180 rfl ?_
                refine w_iadd ok d7_182 ?_
                show W K l _ n0 _ h0 0 0 183 #[.val (.ref p), .val (.ref n), .val (.int (3 : Int32)), .val (.int (Int32.ofNat ns.length)), .val (.int (0 : Int32)), .val (.int (0 : Int32)), .val (.int (0 : Int32)), .val (.int (2 : Int32)), .unset, .unset, .unset, .unset, .unset] [(.int (2 : Int32)), (.int (Int32.ofNat ns.length))]
                refine w_icmp_ge ok d7_183 (pc' := 188) (by decide) (fun hc360 => ?_) (fun hc360 => ?_)
                · skip
                  have hge : 2 ≤ ns.length := by have q := hc360; rw [show (2 : Int32) = Int32.ofNat 2 from rfl, own_lt (by omega) (by omega)] at q; omega
                  refine w_aloadN ok d7_188 rfl rfl ?_
                  refine w_iconst ok d7_189 (v := (0 : Int32)) rfl ?_
                  refine w_iload ok d7_190 rfl ?_
                  refine w_aloadN ok d7_192 rfl rfl ?_
                  refine w_iconst ok d7_193 (v := (0 : Int32)) rfl ?_
                  refine w_callS ok (y := mn_9) (argsL := [(.ref p), (.int (0 : Int32)), (.int (0 : Int32)), (.ref n), (.int (0 : Int32))]) (rest := []) d7_194 (hw _ (List.mem_of_getElem? (i := 37) rfl)) (hw _ (List.mem_of_getElem? (i := 38) rfl)) (hw _ (List.mem_of_getElem? (i := 4) rfl)) (hw _ (List.mem_of_getElem? (i := 39) rfl)) (by decide) pd_285bBII5bBI29Z rfl rfl (by decide) (Nat.le_of_ble_eq_true rfl) (by decide) (by decide) (fun z0 => rm_seg l Z a0 hw [] n0 h0 z0 p n [x0, x1, x2] ns A_p A_n 0 0 0 _ rfl (Nat.le_of_ble_eq_true rfl) (by decide) (by omega) (Nat.le_of_ble_eq_true rfl) ln) (fun v361 h362 qv361 => ?_)
                  obtain ⟨⟨rfl, sgp⟩ | ⟨rfl, sgp⟩, rfl⟩ := qv361
                  · skip
                    replace sgp : SGl [] ns 0 := sgp
                    show W K l _ n0 _ h0 0 0 197 #[.val (.ref p), .val (.ref n), .val (.int (3 : Int32)), .val (.int (Int32.ofNat ns.length)), .val (.int (0 : Int32)), .val (.int (0 : Int32)), .val (.int (0 : Int32)), .val (.int (2 : Int32)), .unset, .unset, .unset, .unset, .unset] [(.int (1 : Int32))]
                    refine w_if_ne ok d7_197 (pc' := 202) (by decide) (fun hc364 => ?_) (fun hc364 => False.elim (by revert hc364; decide))
                    refine w_aloadN ok d7_202 rfl rfl ?_
                    refine w_iload ok d7_203 rfl ?_
                    refine w_iconst ok d7_205 (v := (1 : Int32)) rfl ?_
                    refine w_iadd ok d7_206 ?_
                    show W K l _ n0 _ h0 0 0 207 #[.val (.ref p), .val (.ref n), .val (.int (3 : Int32)), .val (.int (Int32.ofNat ns.length)), .val (.int (0 : Int32)), .val (.int (0 : Int32)), .val (.int (0 : Int32)), .val (.int (2 : Int32)), .unset, .unset, .unset, .unset, .unset] [(.int (1 : Int32)), (.ref p)]
                    refine w_iload ok d7_207 rfl ?_
                    refine w_aloadN ok d7_209 rfl rfl ?_
                    refine w_iloadN ok d7_210 rfl ?_
                    refine w_iload ok d7_211 rfl ?_
                    refine w_isub ok d7_213 ?_
                    refine w_callS ok (y := mn_9) (argsL := [(.ref p), (.int (1 : Int32)), (.int (2 : Int32)), (.ref n), (.int ((Int32.ofNat ns.length) - (2 : Int32)))]) (rest := []) d7_214 (hw _ (List.mem_of_getElem? (i := 37) rfl)) (hw _ (List.mem_of_getElem? (i := 38) rfl)) (hw _ (List.mem_of_getElem? (i := 4) rfl)) (hw _ (List.mem_of_getElem? (i := 39) rfl)) (by decide) pd_285bBII5bBI29Z rfl rfl (by decide) (Nat.le_of_ble_eq_true rfl) (by decide) (by decide) (fun z0 => rm_seg l Z a0 hw [] n0 h0 z0 p n [x0, x1, x2] ns A_p A_n 1 2 (ns.length - 2) _ (own_subk (k := 2) rfl (by omega) (by omega)) (Nat.le_of_ble_eq_true rfl) (by decide) (by omega) (Nat.le_of_ble_eq_true rfl) ln) (fun v365 h366 qv365 => ?_)
                    obtain ⟨⟨rfl, sgs⟩ | ⟨rfl, sgs⟩, rfl⟩ := qv365
                    · skip
                      replace sgs : SGl [x1, x2] ns (ns.length - 2) := sgs
                      show W K l _ n0 _ h0 0 0 217 #[.val (.ref p), .val (.ref n), .val (.int (3 : Int32)), .val (.int (Int32.ofNat ns.length)), .val (.int (0 : Int32)), .val (.int (0 : Int32)), .val (.int (0 : Int32)), .val (.int (2 : Int32)), .unset, .unset, .unset, .unset, .unset] [(.int (1 : Int32))]
                      refine w_if_ne ok d7_217 (pc' := 222) (by decide) (fun hc368 => ?_) (fun hc368 => False.elim (by revert hc368; decide))
                      refine w_iload ok d7_222 rfl ?_
                      refine w_iload ok d7_224 rfl ?_
                      refine w_isub ok d7_226 ?_
                      show W K l _ n0 _ h0 0 0 227 #[.val (.ref p), .val (.ref n), .val (.int (3 : Int32)), .val (.int (Int32.ofNat ns.length)), .val (.int (0 : Int32)), .val (.int (0 : Int32)), .val (.int (0 : Int32)), .val (.int (2 : Int32)), .unset, .unset, .unset, .unset, .unset] [(.int (0 : Int32))]
                      refine w_iconst ok d7_227 (v := (1 : Int32)) rfl ?_
                      refine w_isub ok d7_228 ?_
                      show W K l _ n0 _ h0 0 0 229 #[.val (.ref p), .val (.ref n), .val (.int (3 : Int32)), .val (.int (Int32.ofNat ns.length)), .val (.int (0 : Int32)), .val (.int (0 : Int32)), .val (.int (0 : Int32)), .val (.int (2 : Int32)), .unset, .unset, .unset, .unset, .unset] [(.int (-1 : Int32))]
                      refine w_istore ok d7_229 (L' := #[.val (.ref p), .val (.ref n), .val (.int (3 : Int32)), .val (.int (Int32.ofNat ns.length)), .val (.int (0 : Int32)), .val (.int (0 : Int32)), .val (.int (0 : Int32)), .val (.int (2 : Int32)), .val (.int (-1 : Int32)), .unset, .unset, .unset, .unset]) rfl ?_
                      refine w_iload ok d7_231 rfl ?_
                      refine w_iconst ok d7_233 (v := (1 : Int32)) rfl ?_
                      refine w_iadd ok d7_234 ?_
                      show W K l _ n0 _ h0 0 0 235 #[.val (.ref p), .val (.ref n), .val (.int (3 : Int32)), .val (.int (Int32.ofNat ns.length)), .val (.int (0 : Int32)), .val (.int (0 : Int32)), .val (.int (0 : Int32)), .val (.int (2 : Int32)), .val (.int (-1 : Int32)), .unset, .unset, .unset, .unset] [(.int (1 : Int32))]
                      refine w_istore ok d7_235 (L' := #[.val (.ref p), .val (.ref n), .val (.int (3 : Int32)), .val (.int (Int32.ofNat ns.length)), .val (.int (0 : Int32)), .val (.int (0 : Int32)), .val (.int (0 : Int32)), .val (.int (2 : Int32)), .val (.int (-1 : Int32)), .val (.int (1 : Int32)), .unset, .unset, .unset]) rfl ?_
                      refine w_iconst ok d7_237 (v := (0 : Int32)) rfl ?_
                      refine w_istore ok d7_238 (L' := #[.val (.ref p), .val (.ref n), .val (.int (3 : Int32)), .val (.int (Int32.ofNat ns.length)), .val (.int (0 : Int32)), .val (.int (0 : Int32)), .val (.int (0 : Int32)), .val (.int (2 : Int32)), .val (.int (-1 : Int32)), .val (.int (1 : Int32)), .val (.int (0 : Int32)), .unset, .unset]) rfl ?_
                      refine w_iload ok d7_240 rfl ?_
                      refine w_iconst ok d7_242 (v := (1 : Int32)) rfl ?_
                      refine w_icmp_ne ok d7_243 (pc' := 263) (by decide) (fun hc370 => ?_) (fun hc370 => False.elim (by revert hc370; decide))
                      refine w_iload ok d7_263 rfl ?_
                      refine w_iconst ok d7_265 (v := (2 : Int32)) rfl ?_
                      refine w_icmp_ne ok d7_266 (pc' := 340) (by decide) (fun hc372 => ?_) (fun hc372 => False.elim (by revert hc372; decide))
                      refine w_iload ok d7_340 rfl ?_
                      refine w_if_ne ok d7_342 (pc' := 347) (by decide) (fun hc374 => False.elim (by revert hc374; decide)) (fun hc374 => ?_)
                      refine w_iconst ok d7_345 (v := (1 : Int32)) rfl ?_
                      refine w_bret ok (by simp) d7_346 (by decide) (by decide) ?_
                      subst s0
                      have key : Gi ns [42, x1, x2] 0 ↔ _ := own_one (ns := ns) (P := []) (Q := [x1, x2]) NoS_nil (NoS_cons s1 (NoS_cons s2 NoS_nil))
                      exact ⟨Or.inl ⟨rfl, key.mpr ⟨hge, sgp, sgs⟩⟩, rfl⟩
                    · skip
                      replace sgs : ¬ (SGl [x1, x2] ns (ns.length - 2)) := sgs
                      show W K l _ n0 _ h0 0 0 217 #[.val (.ref p), .val (.ref n), .val (.int (3 : Int32)), .val (.int (Int32.ofNat ns.length)), .val (.int (0 : Int32)), .val (.int (0 : Int32)), .val (.int (0 : Int32)), .val (.int (2 : Int32)), .unset, .unset, .unset, .unset, .unset] [(.int (0 : Int32))]
                      refine w_if_ne ok d7_217 (pc' := 222) (by decide) (fun hc376 => False.elim (by revert hc376; decide)) (fun hc376 => ?_)
                      refine w_iconst ok d7_220 (v := (0 : Int32)) rfl ?_
                      refine w_bret ok (by simp) d7_221 (by decide) (by decide) ?_
                      subst s0
                      have key : Gi ns [42, x1, x2] 0 ↔ _ := own_one (ns := ns) (P := []) (Q := [x1, x2]) NoS_nil (NoS_cons s1 (NoS_cons s2 NoS_nil))
                      exact ⟨Or.inr ⟨rfl, fun q => sgs (key.mp q).2.2⟩, rfl⟩
                  · skip
                    replace sgp : ¬ (SGl [] ns 0) := sgp
                    show W K l _ n0 _ h0 0 0 197 #[.val (.ref p), .val (.ref n), .val (.int (3 : Int32)), .val (.int (Int32.ofNat ns.length)), .val (.int (0 : Int32)), .val (.int (0 : Int32)), .val (.int (0 : Int32)), .val (.int (2 : Int32)), .unset, .unset, .unset, .unset, .unset] [(.int (0 : Int32))]
                    refine w_if_ne ok d7_197 (pc' := 202) (by decide) (fun hc378 => False.elim (by revert hc378; decide)) (fun hc378 => ?_)
                    refine w_iconst ok d7_200 (v := (0 : Int32)) rfl ?_
                    refine w_bret ok (by simp) d7_201 (by decide) (by decide) ?_
                    subst s0
                    have key : Gi ns [42, x1, x2] 0 ↔ _ := own_one (ns := ns) (P := []) (Q := [x1, x2]) NoS_nil (NoS_cons s1 (NoS_cons s2 NoS_nil))
                    exact ⟨Or.inr ⟨rfl, fun q => sgp (key.mp q).2.1⟩, rfl⟩
                · skip
                  refine w_iconst ok d7_186 (v := (0 : Int32)) rfl ?_
                  refine w_bret ok (by simp) d7_187 (by decide) (by decide) ?_
                  subst s0
                  have key : Gi ns [42, x1, x2] 0 ↔ _ := own_one (ns := ns) (P := []) (Q := [x1, x2]) NoS_nil (NoS_cons s1 (NoS_cons s2 NoS_nil))
                  refine ⟨Or.inr ⟨rfl, fun q => ?_⟩, rfl⟩
                  have q1 : 0 + 2 ≤ ns.length := (key.mp q).1
                  have q2 := hc360; rw [show (2 : Int32) = Int32.ofNat 2 from rfl, own_lt (by omega) (by omega)] at q2; omega
          · exact absurd s0 t340
        · skip
          replace s0 : ¬ (x0 = 42) := s0
          show W K l _ n0 _ h0 0 0 66 #[.val (.ref p), .val (.ref n), .val (.int (3 : Int32)), .val (.int (Int32.ofNat ns.length)), .val (.int (-1 : Int32)), .unset, .unset, .unset, .unset, .unset, .unset, .unset, .unset] [(.int (0 : Int32))]
          refine w_if_eq ok d7_66 (pc' := 72) (by decide) (fun hc380 => ?_) (fun hc380 => False.elim (by revert hc380; decide))
          refine w_iload ok d7_72 rfl ?_
          refine w_if_ge ok d7_74 (pc' := 99) (by decide) (fun hc382 => False.elim (by revert hc382; decide)) (fun hc382 => ?_)
          refine w_iloadN ok d7_77 rfl ?_
          refine w_iloadN ok d7_78 rfl ?_
          refine w_icmp_ne ok d7_79 (pc' := 97) (by decide) (fun hc384 => ?_) (fun hc384 => ?_)
          · skip
            refine w_iconst ok d7_97 (v := (0 : Int32)) rfl ?_
            refine w_bret ok (by simp) d7_98 (by decide) (by decide) ?_
            refine ⟨Or.inr ⟨rfl, fun q => ?_⟩, rfl⟩
            have q1 := ((Gi_all (NoS_cons s0 (NoS_cons s1 (NoS_cons s2 NoS_nil)))).mp q).1
            exact hc384 (show Int32.ofNat ns.length = Int32.ofNat 3 by rw [← q1]; rfl)
          · skip
            refine w_aloadN ok d7_82 rfl rfl ?_
            refine w_iconst ok d7_83 (v := (0 : Int32)) rfl ?_
            refine w_iloadN ok d7_84 rfl ?_
            refine w_aloadN ok d7_85 rfl rfl ?_
            refine w_iconst ok d7_86 (v := (0 : Int32)) rfl ?_
            refine w_callS ok (y := mn_9) (argsL := [(.ref p), (.int (0 : Int32)), (.int (3 : Int32)), (.ref n), (.int (0 : Int32))]) (rest := []) d7_87 (hw _ (List.mem_of_getElem? (i := 37) rfl)) (hw _ (List.mem_of_getElem? (i := 38) rfl)) (hw _ (List.mem_of_getElem? (i := 4) rfl)) (hw _ (List.mem_of_getElem? (i := 39) rfl)) (by decide) pd_285bBII5bBI29Z rfl rfl (by decide) (Nat.le_of_ble_eq_true rfl) (by decide) (by decide) (fun z0 => rm_seg l Z a0 hw [] n0 h0 z0 p n [x0, x1, x2] ns A_p A_n 0 3 0 _ rfl (Nat.le_of_ble_eq_true rfl) (by decide) (by omega) (Nat.le_of_ble_eq_true rfl) ln) (fun v385 h386 qv385 => ?_)
            obtain ⟨⟨rfl, sga⟩ | ⟨rfl, sga⟩, rfl⟩ := qv385
            · skip
              replace sga : SGl [x0, x1, x2] ns 0 := sga
              show W K l _ n0 _ h0 0 0 90 #[.val (.ref p), .val (.ref n), .val (.int (3 : Int32)), .val (.int (Int32.ofNat ns.length)), .val (.int (-1 : Int32)), .unset, .unset, .unset, .unset, .unset, .unset, .unset, .unset] [(.int (1 : Int32))]
              refine w_if_eq ok d7_90 (pc' := 97) (by decide) (fun hc388 => False.elim (by revert hc388; decide)) (fun hc388 => ?_)
              refine w_iconst ok d7_93 (v := (1 : Int32)) rfl ?_
              refine w_goto ok d7_94 (pc' := 98) (by decide) ?_
              refine w_bret ok (by simp) d7_98 (by decide) (by decide) ?_
              have hl : ns.length = 3 := (own_eqn (by omega) (by decide)).mp (show Int32.ofNat ns.length = Int32.ofNat 3 from hc384)
              exact ⟨Or.inl ⟨rfl, (Gi_all (NoS_cons s0 (NoS_cons s1 (NoS_cons s2 NoS_nil)))).mpr ⟨by rw [hl]; rfl, sga⟩⟩, rfl⟩
            · skip
              replace sga : ¬ (SGl [x0, x1, x2] ns 0) := sga
              show W K l _ n0 _ h0 0 0 90 #[.val (.ref p), .val (.ref n), .val (.int (3 : Int32)), .val (.int (Int32.ofNat ns.length)), .val (.int (-1 : Int32)), .unset, .unset, .unset, .unset, .unset, .unset, .unset, .unset] [(.int (0 : Int32))]
              refine w_if_eq ok d7_90 (pc' := 97) (by decide) (fun hc390 => ?_) (fun hc390 => False.elim (by revert hc390; decide))
              refine w_iconst ok d7_97 (v := (0 : Int32)) rfl ?_
              refine w_bret ok (by simp) d7_98 (by decide) (by decide) ?_
              exact ⟨Or.inr ⟨rfl, fun q => sga ((Gi_all (NoS_cons s0 (NoS_cons s1 (NoS_cons s2 NoS_nil)))).mp q).2⟩, rfl⟩
  · skip
    show W K l _ n0 _ h0 0 0 0 #[.val (.ref p), .val (.ref n), .unset, .unset, .unset, .unset, .unset, .unset, .unset, .unset, .unset, .unset, .unset] []
    refine w_aloadN ok d7_0 rfl rfl ?_
    refine w_arraylength ok (z := (4 : Int32)) d7_1 A_p rfl (by decide) ?_
    show W K l _ n0 _ h0 0 0 2 #[.val (.ref p), .val (.ref n), .unset, .unset, .unset, .unset, .unset, .unset, .unset, .unset, .unset, .unset, .unset] [(.int (4 : Int32))]
    refine w_istoreN ok d7_2 (L' := #[.val (.ref p), .val (.ref n), .val (.int (4 : Int32)), .unset, .unset, .unset, .unset, .unset, .unset, .unset, .unset, .unset, .unset]) rfl ?_
    refine w_aloadN ok d7_3 rfl rfl ?_
    refine w_arraylength ok (z := Int32.ofNat ns.length) d7_4 A_n (own_len (by omega)) (own_ix0 (by omega)) ?_
    show W K l _ n0 _ h0 0 0 5 #[.val (.ref p), .val (.ref n), .val (.int (4 : Int32)), .unset, .unset, .unset, .unset, .unset, .unset, .unset, .unset, .unset, .unset] [(.int (Int32.ofNat ns.length))]
    refine w_istoreN ok d7_5 (L' := #[.val (.ref p), .val (.ref n), .val (.int (4 : Int32)), .val (.int (Int32.ofNat ns.length)), .unset, .unset, .unset, .unset, .unset, .unset, .unset, .unset, .unset]) rfl ?_
    refine w_iconst ok d7_6 (v := (-1 : Int32)) rfl ?_
    refine w_istore ok d7_7 (L' := #[.val (.ref p), .val (.ref n), .val (.int (4 : Int32)), .val (.int (Int32.ofNat ns.length)), .val (.int (-1 : Int32)), .unset, .unset, .unset, .unset, .unset, .unset, .unset, .unset]) rfl ?_
    refine w_iloadN ok d7_9 rfl ?_
    refine w_iconst ok d7_10 (v := (3 : Int32)) rfl ?_
    refine w_icmp_le ok d7_11 (pc' := 25) (by decide) (fun hc1 => False.elim (by revert hc1; decide)) (fun hc1 => ?_)
    refine w_aloadN ok d7_14 rfl rfl ?_
    refine w_iconst ok d7_15 (v := (3 : Int32)) rfl ?_
    refine w_callS ok (y := mn_8) (argsL := [(.ref p), (.int (3 : Int32))]) (rest := []) d7_16 (hw _ (List.mem_of_getElem? (i := 34) rfl)) (hw _ (List.mem_of_getElem? (i := 35) rfl)) (hw _ (List.mem_of_getElem? (i := 4) rfl)) (hw _ (List.mem_of_getElem? (i := 36) rfl)) (by decide) pd_285bBI29Z rfl rfl (by decide) (Nat.le_of_ble_eq_true rfl) (by decide) (by decide) (fun z0 => rm_star l Z a0 hw [] n0 h0 z0 p [x0, x1, x2, x3] A_p 3 (Nat.le_of_ble_eq_true rfl) (Nat.le_of_ble_eq_true rfl)) (fun v2 h3 qv2 => ?_)
    obtain ⟨⟨rfl, s3⟩ | ⟨rfl, s3⟩, rfl⟩ := qv2
    · skip
      replace s3 : x3 = 42 := s3
      show W K l _ n0 _ h0 0 0 19 #[.val (.ref p), .val (.ref n), .val (.int (4 : Int32)), .val (.int (Int32.ofNat ns.length)), .val (.int (-1 : Int32)), .unset, .unset, .unset, .unset, .unset, .unset, .unset, .unset] [(.int (1 : Int32))]
      refine w_if_eq ok d7_19 (pc' := 25) (by decide) (fun hc5 => False.elim (by revert hc5; decide)) (fun hc5 => ?_)
      refine w_iconst ok d7_22 (v := (3 : Int32)) rfl ?_
      refine w_istore ok d7_23 (L' := #[.val (.ref p), .val (.ref n), .val (.int (4 : Int32)), .val (.int (Int32.ofNat ns.length)), .val (.int (3 : Int32)), .unset, .unset, .unset, .unset, .unset, .unset, .unset, .unset]) rfl ?_
      refine w_iloadN ok d7_25 rfl ?_
      refine w_iconst ok d7_26 (v := (2 : Int32)) rfl ?_
      refine w_icmp_le ok d7_27 (pc' := 41) (by decide) (fun hc7 => False.elim (by revert hc7; decide)) (fun hc7 => ?_)
      refine w_aloadN ok d7_30 rfl rfl ?_
      refine w_iconst ok d7_31 (v := (2 : Int32)) rfl ?_
      refine w_callS ok (y := mn_8) (argsL := [(.ref p), (.int (2 : Int32))]) (rest := []) d7_32 (hw _ (List.mem_of_getElem? (i := 34) rfl)) (hw _ (List.mem_of_getElem? (i := 35) rfl)) (hw _ (List.mem_of_getElem? (i := 4) rfl)) (hw _ (List.mem_of_getElem? (i := 36) rfl)) (by decide) pd_285bBI29Z rfl rfl (by decide) (Nat.le_of_ble_eq_true rfl) (by decide) (by decide) (fun z0 => rm_star l Z a0 hw [] n0 h0 z0 p [x0, x1, x2, x3] A_p 2 (Nat.le_of_ble_eq_true rfl) (Nat.le_of_ble_eq_true rfl)) (fun v8 h9 qv8 => ?_)
      obtain ⟨⟨rfl, s2⟩ | ⟨rfl, s2⟩, rfl⟩ := qv8
      · skip
        replace s2 : x2 = 42 := s2
        show W K l _ n0 _ h0 0 0 35 #[.val (.ref p), .val (.ref n), .val (.int (4 : Int32)), .val (.int (Int32.ofNat ns.length)), .val (.int (3 : Int32)), .unset, .unset, .unset, .unset, .unset, .unset, .unset, .unset] [(.int (1 : Int32))]
        refine w_if_eq ok d7_35 (pc' := 41) (by decide) (fun hc11 => False.elim (by revert hc11; decide)) (fun hc11 => ?_)
        refine w_iconst ok d7_38 (v := (2 : Int32)) rfl ?_
        refine w_istore ok d7_39 (L' := #[.val (.ref p), .val (.ref n), .val (.int (4 : Int32)), .val (.int (Int32.ofNat ns.length)), .val (.int (2 : Int32)), .unset, .unset, .unset, .unset, .unset, .unset, .unset, .unset]) rfl ?_
        refine w_iloadN ok d7_41 rfl ?_
        refine w_iconst ok d7_42 (v := (1 : Int32)) rfl ?_
        refine w_icmp_le ok d7_43 (pc' := 57) (by decide) (fun hc13 => False.elim (by revert hc13; decide)) (fun hc13 => ?_)
        refine w_aloadN ok d7_46 rfl rfl ?_
        refine w_iconst ok d7_47 (v := (1 : Int32)) rfl ?_
        refine w_callS ok (y := mn_8) (argsL := [(.ref p), (.int (1 : Int32))]) (rest := []) d7_48 (hw _ (List.mem_of_getElem? (i := 34) rfl)) (hw _ (List.mem_of_getElem? (i := 35) rfl)) (hw _ (List.mem_of_getElem? (i := 4) rfl)) (hw _ (List.mem_of_getElem? (i := 36) rfl)) (by decide) pd_285bBI29Z rfl rfl (by decide) (Nat.le_of_ble_eq_true rfl) (by decide) (by decide) (fun z0 => rm_star l Z a0 hw [] n0 h0 z0 p [x0, x1, x2, x3] A_p 1 (Nat.le_of_ble_eq_true rfl) (Nat.le_of_ble_eq_true rfl)) (fun v14 h15 qv14 => ?_)
        obtain ⟨⟨rfl, s1⟩ | ⟨rfl, s1⟩, rfl⟩ := qv14
        · skip
          replace s1 : x1 = 42 := s1
          show W K l _ n0 _ h0 0 0 51 #[.val (.ref p), .val (.ref n), .val (.int (4 : Int32)), .val (.int (Int32.ofNat ns.length)), .val (.int (2 : Int32)), .unset, .unset, .unset, .unset, .unset, .unset, .unset, .unset] [(.int (1 : Int32))]
          refine w_if_eq ok d7_51 (pc' := 57) (by decide) (fun hc17 => False.elim (by revert hc17; decide)) (fun hc17 => ?_)
          refine w_iconst ok d7_54 (v := (1 : Int32)) rfl ?_
          refine w_istore ok d7_55 (L' := #[.val (.ref p), .val (.ref n), .val (.int (4 : Int32)), .val (.int (Int32.ofNat ns.length)), .val (.int (1 : Int32)), .unset, .unset, .unset, .unset, .unset, .unset, .unset, .unset]) rfl ?_
          refine w_iloadN ok d7_57 rfl ?_
          refine w_if_le ok d7_58 (pc' := 72) (by decide) (fun hc19 => False.elim (by revert hc19; decide)) (fun hc19 => ?_)
          refine w_aloadN ok d7_61 rfl rfl ?_
          refine w_iconst ok d7_62 (v := (0 : Int32)) rfl ?_
          refine w_callS ok (y := mn_8) (argsL := [(.ref p), (.int (0 : Int32))]) (rest := []) d7_63 (hw _ (List.mem_of_getElem? (i := 34) rfl)) (hw _ (List.mem_of_getElem? (i := 35) rfl)) (hw _ (List.mem_of_getElem? (i := 4) rfl)) (hw _ (List.mem_of_getElem? (i := 36) rfl)) (by decide) pd_285bBI29Z rfl rfl (by decide) (Nat.le_of_ble_eq_true rfl) (by decide) (by decide) (fun z0 => rm_star l Z a0 hw [] n0 h0 z0 p [x0, x1, x2, x3] A_p 0 (Nat.le_of_ble_eq_true rfl) (Nat.le_of_ble_eq_true rfl)) (fun v20 h21 qv20 => ?_)
          obtain ⟨⟨rfl, s0⟩ | ⟨rfl, s0⟩, rfl⟩ := qv20
          · skip
            replace s0 : x0 = 42 := s0
            show W K l _ n0 _ h0 0 0 66 #[.val (.ref p), .val (.ref n), .val (.int (4 : Int32)), .val (.int (Int32.ofNat ns.length)), .val (.int (1 : Int32)), .unset, .unset, .unset, .unset, .unset, .unset, .unset, .unset] [(.int (1 : Int32))]
            refine w_if_eq ok d7_66 (pc' := 72) (by decide) (fun hc23 => False.elim (by revert hc23; decide)) (fun hc23 => ?_)
            refine w_iconst ok d7_69 (v := (0 : Int32)) rfl ?_
            refine w_istore ok d7_70 (L' := #[.val (.ref p), .val (.ref n), .val (.int (4 : Int32)), .val (.int (Int32.ofNat ns.length)), .val (.int (0 : Int32)), .unset, .unset, .unset, .unset, .unset, .unset, .unset, .unset]) rfl ?_
            refine w_iload ok d7_72 rfl ?_
            refine w_if_ge ok d7_74 (pc' := 99) (by decide) (fun hc25 => ?_) (fun hc25 => False.elim (by revert hc25; decide))
            refine w_iconst ok d7_99 (v := (-1 : Int32)) rfl ?_
            refine w_istore ok d7_100 (L' := #[.val (.ref p), .val (.ref n), .val (.int (4 : Int32)), .val (.int (Int32.ofNat ns.length)), .val (.int (0 : Int32)), .val (.int (-1 : Int32)), .unset, .unset, .unset, .unset, .unset, .unset, .unset]) rfl ?_
            refine w_iloadN ok d7_102 rfl ?_
            refine w_if_le ok d7_103 (pc' := 117) (by decide) (fun hc27 => False.elim (by revert hc27; decide)) (fun hc27 => ?_)
            refine w_aloadN ok d7_106 rfl rfl ?_
            refine w_iconst ok d7_107 (v := (0 : Int32)) rfl ?_
            refine w_callS ok (y := mn_8) (argsL := [(.ref p), (.int (0 : Int32))]) (rest := []) d7_108 (hw _ (List.mem_of_getElem? (i := 34) rfl)) (hw _ (List.mem_of_getElem? (i := 35) rfl)) (hw _ (List.mem_of_getElem? (i := 4) rfl)) (hw _ (List.mem_of_getElem? (i := 36) rfl)) (by decide) pd_285bBI29Z rfl rfl (by decide) (Nat.le_of_ble_eq_true rfl) (by decide) (by decide) (fun z0 => rm_star l Z a0 hw [] n0 h0 z0 p [x0, x1, x2, x3] A_p 0 (Nat.le_of_ble_eq_true rfl) (Nat.le_of_ble_eq_true rfl)) (fun v28 h29 qv28 => ?_)
            obtain ⟨⟨rfl, t30⟩ | ⟨rfl, t30⟩, rfl⟩ := qv28
            · skip
              replace t30 : x0 = 42 := t30
              show W K l _ n0 _ h0 0 0 111 #[.val (.ref p), .val (.ref n), .val (.int (4 : Int32)), .val (.int (Int32.ofNat ns.length)), .val (.int (0 : Int32)), .val (.int (-1 : Int32)), .unset, .unset, .unset, .unset, .unset, .unset, .unset] [(.int (1 : Int32))]
              refine w_if_eq ok d7_111 (pc' := 117) (by decide) (fun hc32 => False.elim (by revert hc32; decide)) (fun hc32 => ?_)
              refine w_iconst ok d7_114 (v := (0 : Int32)) rfl ?_
              refine w_istore ok d7_115 (L' := #[.val (.ref p), .val (.ref n), .val (.int (4 : Int32)), .val (.int (Int32.ofNat ns.length)), .val (.int (0 : Int32)), .val (.int (0 : Int32)), .unset, .unset, .unset, .unset, .unset, .unset, .unset]) rfl ?_
              refine w_iloadN ok d7_117 rfl ?_
              refine w_iconst ok d7_118 (v := (1 : Int32)) rfl ?_
              refine w_icmp_le ok d7_119 (pc' := 133) (by decide) (fun hc34 => False.elim (by revert hc34; decide)) (fun hc34 => ?_)
              refine w_aloadN ok d7_122 rfl rfl ?_
              refine w_iconst ok d7_123 (v := (1 : Int32)) rfl ?_
              refine w_callS ok (y := mn_8) (argsL := [(.ref p), (.int (1 : Int32))]) (rest := []) d7_124 (hw _ (List.mem_of_getElem? (i := 34) rfl)) (hw _ (List.mem_of_getElem? (i := 35) rfl)) (hw _ (List.mem_of_getElem? (i := 4) rfl)) (hw _ (List.mem_of_getElem? (i := 36) rfl)) (by decide) pd_285bBI29Z rfl rfl (by decide) (Nat.le_of_ble_eq_true rfl) (by decide) (by decide) (fun z0 => rm_star l Z a0 hw [] n0 h0 z0 p [x0, x1, x2, x3] A_p 1 (Nat.le_of_ble_eq_true rfl) (Nat.le_of_ble_eq_true rfl)) (fun v35 h36 qv35 => ?_)
              obtain ⟨⟨rfl, t37⟩ | ⟨rfl, t37⟩, rfl⟩ := qv35
              · skip
                replace t37 : x1 = 42 := t37
                show W K l _ n0 _ h0 0 0 127 #[.val (.ref p), .val (.ref n), .val (.int (4 : Int32)), .val (.int (Int32.ofNat ns.length)), .val (.int (0 : Int32)), .val (.int (0 : Int32)), .unset, .unset, .unset, .unset, .unset, .unset, .unset] [(.int (1 : Int32))]
                refine w_if_eq ok d7_127 (pc' := 133) (by decide) (fun hc39 => False.elim (by revert hc39; decide)) (fun hc39 => ?_)
                refine w_iconst ok d7_130 (v := (1 : Int32)) rfl ?_
                refine w_istore ok d7_131 (L' := #[.val (.ref p), .val (.ref n), .val (.int (4 : Int32)), .val (.int (Int32.ofNat ns.length)), .val (.int (0 : Int32)), .val (.int (1 : Int32)), .unset, .unset, .unset, .unset, .unset, .unset, .unset]) rfl ?_
                refine w_iloadN ok d7_133 rfl ?_
                refine w_iconst ok d7_134 (v := (2 : Int32)) rfl ?_
                refine w_icmp_le ok d7_135 (pc' := 149) (by decide) (fun hc41 => False.elim (by revert hc41; decide)) (fun hc41 => ?_)
                refine w_aloadN ok d7_138 rfl rfl ?_
                refine w_iconst ok d7_139 (v := (2 : Int32)) rfl ?_
                refine w_callS ok (y := mn_8) (argsL := [(.ref p), (.int (2 : Int32))]) (rest := []) d7_140 (hw _ (List.mem_of_getElem? (i := 34) rfl)) (hw _ (List.mem_of_getElem? (i := 35) rfl)) (hw _ (List.mem_of_getElem? (i := 4) rfl)) (hw _ (List.mem_of_getElem? (i := 36) rfl)) (by decide) pd_285bBI29Z rfl rfl (by decide) (Nat.le_of_ble_eq_true rfl) (by decide) (by decide) (fun z0 => rm_star l Z a0 hw [] n0 h0 z0 p [x0, x1, x2, x3] A_p 2 (Nat.le_of_ble_eq_true rfl) (Nat.le_of_ble_eq_true rfl)) (fun v42 h43 qv42 => ?_)
                obtain ⟨⟨rfl, t44⟩ | ⟨rfl, t44⟩, rfl⟩ := qv42
                · skip
                  replace t44 : x2 = 42 := t44
                  show W K l _ n0 _ h0 0 0 143 #[.val (.ref p), .val (.ref n), .val (.int (4 : Int32)), .val (.int (Int32.ofNat ns.length)), .val (.int (0 : Int32)), .val (.int (1 : Int32)), .unset, .unset, .unset, .unset, .unset, .unset, .unset] [(.int (1 : Int32))]
                  refine w_if_eq ok d7_143 (pc' := 149) (by decide) (fun hc46 => False.elim (by revert hc46; decide)) (fun hc46 => ?_)
                  refine w_iconst ok d7_146 (v := (2 : Int32)) rfl ?_
                  refine w_istore ok d7_147 (L' := #[.val (.ref p), .val (.ref n), .val (.int (4 : Int32)), .val (.int (Int32.ofNat ns.length)), .val (.int (0 : Int32)), .val (.int (2 : Int32)), .unset, .unset, .unset, .unset, .unset, .unset, .unset]) rfl ?_
                  refine w_iloadN ok d7_149 rfl ?_
                  refine w_iconst ok d7_150 (v := (3 : Int32)) rfl ?_
                  refine w_icmp_le ok d7_151 (pc' := 165) (by decide) (fun hc48 => False.elim (by revert hc48; decide)) (fun hc48 => ?_)
                  refine w_aloadN ok d7_154 rfl rfl ?_
                  refine w_iconst ok d7_155 (v := (3 : Int32)) rfl ?_
                  refine w_callS ok (y := mn_8) (argsL := [(.ref p), (.int (3 : Int32))]) (rest := []) d7_156 (hw _ (List.mem_of_getElem? (i := 34) rfl)) (hw _ (List.mem_of_getElem? (i := 35) rfl)) (hw _ (List.mem_of_getElem? (i := 4) rfl)) (hw _ (List.mem_of_getElem? (i := 36) rfl)) (by decide) pd_285bBI29Z rfl rfl (by decide) (Nat.le_of_ble_eq_true rfl) (by decide) (by decide) (fun z0 => rm_star l Z a0 hw [] n0 h0 z0 p [x0, x1, x2, x3] A_p 3 (Nat.le_of_ble_eq_true rfl) (Nat.le_of_ble_eq_true rfl)) (fun v49 h50 qv49 => ?_)
                  obtain ⟨⟨rfl, t51⟩ | ⟨rfl, t51⟩, rfl⟩ := qv49
                  · skip
                    replace t51 : x3 = 42 := t51
                    show W K l _ n0 _ h0 0 0 159 #[.val (.ref p), .val (.ref n), .val (.int (4 : Int32)), .val (.int (Int32.ofNat ns.length)), .val (.int (0 : Int32)), .val (.int (2 : Int32)), .unset, .unset, .unset, .unset, .unset, .unset, .unset] [(.int (1 : Int32))]
                    refine w_if_eq ok d7_159 (pc' := 165) (by decide) (fun hc53 => False.elim (by revert hc53; decide)) (fun hc53 => ?_)
                    refine w_iconst ok d7_162 (v := (3 : Int32)) rfl ?_
                    refine w_istore ok d7_163 (L' := #[.val (.ref p), .val (.ref n), .val (.int (4 : Int32)), .val (.int (Int32.ofNat ns.length)), .val (.int (0 : Int32)), .val (.int (3 : Int32)), .unset, .unset, .unset, .unset, .unset, .unset, .unset]) rfl ?_
                    refine w_iload ok d7_165 rfl ?_
                    refine w_istore ok d7_167 (L' := #[.val (.ref p), .val (.ref n), .val (.int (4 : Int32)), .val (.int (Int32.ofNat ns.length)), .val (.int (0 : Int32)), .val (.int (3 : Int32)), .val (.int (0 : Int32)), .unset, .unset, .unset, .unset, .unset, .unset]) rfl ?_
                    refine w_iloadN ok d7_169 rfl ?_
                    refine w_iconst ok d7_170 (v := (1 : Int32)) rfl ?_
                    refine w_isub ok d7_171 ?_
                    show W K l _ n0 _ h0 0 0 172 #[.val (.ref p), .val (.ref n), .val (.int (4 : Int32)), .val (.int (Int32.ofNat ns.length)), .val (.int (0 : Int32)), .val (.int (3 : Int32)), .val (.int (0 : Int32)), .unset, .unset, .unset, .unset, .unset, .unset] [(.int (3 : Int32))]
                    refine w_iload ok d7_172 rfl ?_
                    refine w_isub ok d7_174 ?_
                    show W K l _ n0 _ h0 0 0 175 #[.val (.ref p), .val (.ref n), .val (.int (4 : Int32)), .val (.int (Int32.ofNat ns.length)), .val (.int (0 : Int32)), .val (.int (3 : Int32)), .val (.int (0 : Int32)), .unset, .unset, .unset, .unset, .unset, .unset] [(.int (0 : Int32))]
                    refine w_istore ok d7_175 (L' := #[.val (.ref p), .val (.ref n), .val (.int (4 : Int32)), .val (.int (Int32.ofNat ns.length)), .val (.int (0 : Int32)), .val (.int (3 : Int32)), .val (.int (0 : Int32)), .val (.int (0 : Int32)), .unset, .unset, .unset, .unset, .unset]) rfl ?_
                    refine w_iloadN ok d7_177 rfl ?_
                    refine w_iload ok d7_178 rfl ?_
                    refine w_iload ok d7_180 rfl ?_
                    refine w_iadd ok d7_182 ?_
                    show W K l _ n0 _ h0 0 0 183 #[.val (.ref p), .val (.ref n), .val (.int (4 : Int32)), .val (.int (Int32.ofNat ns.length)), .val (.int (0 : Int32)), .val (.int (3 : Int32)), .val (.int (0 : Int32)), .val (.int (0 : Int32)), .unset, .unset, .unset, .unset, .unset] [(.int (0 : Int32)), (.int (Int32.ofNat ns.length))]
                    refine w_icmp_ge ok d7_183 (pc' := 188) (by decide) (fun hc55 => ?_) (fun hc55 => ?_)
                    · skip
                      have hge : 0 ≤ ns.length := by have q := hc55; rw [show (0 : Int32) = Int32.ofNat 0 from rfl, own_lt (by omega) (by omega)] at q; omega
                      refine w_aloadN ok d7_188 rfl rfl ?_
                      refine w_iconst ok d7_189 (v := (0 : Int32)) rfl ?_
                      refine w_iload ok d7_190 rfl ?_
                      refine w_aloadN ok d7_192 rfl rfl ?_
                      refine w_iconst ok d7_193 (v := (0 : Int32)) rfl ?_
                      refine w_callS ok (y := mn_9) (argsL := [(.ref p), (.int (0 : Int32)), (.int (0 : Int32)), (.ref n), (.int (0 : Int32))]) (rest := []) d7_194 (hw _ (List.mem_of_getElem? (i := 37) rfl)) (hw _ (List.mem_of_getElem? (i := 38) rfl)) (hw _ (List.mem_of_getElem? (i := 4) rfl)) (hw _ (List.mem_of_getElem? (i := 39) rfl)) (by decide) pd_285bBII5bBI29Z rfl rfl (by decide) (Nat.le_of_ble_eq_true rfl) (by decide) (by decide) (fun z0 => rm_seg l Z a0 hw [] n0 h0 z0 p n [x0, x1, x2, x3] ns A_p A_n 0 0 0 _ rfl (Nat.le_of_ble_eq_true rfl) (by decide) (by omega) (Nat.le_of_ble_eq_true rfl) ln) (fun v56 h57 qv56 => ?_)
                      obtain ⟨⟨rfl, sgp⟩ | ⟨rfl, sgp⟩, rfl⟩ := qv56
                      · skip
                        replace sgp : SGl [] ns 0 := sgp
                        show W K l _ n0 _ h0 0 0 197 #[.val (.ref p), .val (.ref n), .val (.int (4 : Int32)), .val (.int (Int32.ofNat ns.length)), .val (.int (0 : Int32)), .val (.int (3 : Int32)), .val (.int (0 : Int32)), .val (.int (0 : Int32)), .unset, .unset, .unset, .unset, .unset] [(.int (1 : Int32))]
                        refine w_if_ne ok d7_197 (pc' := 202) (by decide) (fun hc59 => ?_) (fun hc59 => False.elim (by revert hc59; decide))
                        refine w_aloadN ok d7_202 rfl rfl ?_
                        refine w_iload ok d7_203 rfl ?_
                        refine w_iconst ok d7_205 (v := (1 : Int32)) rfl ?_
                        refine w_iadd ok d7_206 ?_
                        show W K l _ n0 _ h0 0 0 207 #[.val (.ref p), .val (.ref n), .val (.int (4 : Int32)), .val (.int (Int32.ofNat ns.length)), .val (.int (0 : Int32)), .val (.int (3 : Int32)), .val (.int (0 : Int32)), .val (.int (0 : Int32)), .unset, .unset, .unset, .unset, .unset] [(.int (4 : Int32)), (.ref p)]
                        refine w_iload ok d7_207 rfl ?_
                        refine w_aloadN ok d7_209 rfl rfl ?_
                        refine w_iloadN ok d7_210 rfl ?_
                        refine w_iload ok d7_211 rfl ?_
                        refine w_isub ok d7_213 ?_
                        refine w_callS ok (y := mn_9) (argsL := [(.ref p), (.int (4 : Int32)), (.int (0 : Int32)), (.ref n), (.int ((Int32.ofNat ns.length) - (0 : Int32)))]) (rest := []) d7_214 (hw _ (List.mem_of_getElem? (i := 37) rfl)) (hw _ (List.mem_of_getElem? (i := 38) rfl)) (hw _ (List.mem_of_getElem? (i := 4) rfl)) (hw _ (List.mem_of_getElem? (i := 39) rfl)) (by decide) pd_285bBII5bBI29Z rfl rfl (by decide) (Nat.le_of_ble_eq_true rfl) (by decide) (by decide) (fun z0 => rm_seg l Z a0 hw [] n0 h0 z0 p n [x0, x1, x2, x3] ns A_p A_n 4 0 (ns.length - 0) _ (own_subk (k := 0) rfl (by omega) (by omega)) (Nat.le_of_ble_eq_true rfl) (by decide) (by omega) (Nat.le_of_ble_eq_true rfl) ln) (fun v60 h61 qv60 => ?_)
                        obtain ⟨⟨rfl, sgs⟩ | ⟨rfl, sgs⟩, rfl⟩ := qv60
                        · skip
                          replace sgs : SGl [] ns (ns.length - 0) := sgs
                          show W K l _ n0 _ h0 0 0 217 #[.val (.ref p), .val (.ref n), .val (.int (4 : Int32)), .val (.int (Int32.ofNat ns.length)), .val (.int (0 : Int32)), .val (.int (3 : Int32)), .val (.int (0 : Int32)), .val (.int (0 : Int32)), .unset, .unset, .unset, .unset, .unset] [(.int (1 : Int32))]
                          refine w_if_ne ok d7_217 (pc' := 222) (by decide) (fun hc63 => ?_) (fun hc63 => False.elim (by revert hc63; decide))
                          refine w_iload ok d7_222 rfl ?_
                          refine w_iload ok d7_224 rfl ?_
                          refine w_isub ok d7_226 ?_
                          show W K l _ n0 _ h0 0 0 227 #[.val (.ref p), .val (.ref n), .val (.int (4 : Int32)), .val (.int (Int32.ofNat ns.length)), .val (.int (0 : Int32)), .val (.int (3 : Int32)), .val (.int (0 : Int32)), .val (.int (0 : Int32)), .unset, .unset, .unset, .unset, .unset] [(.int (3 : Int32))]
                          refine w_iconst ok d7_227 (v := (1 : Int32)) rfl ?_
                          refine w_isub ok d7_228 ?_
                          show W K l _ n0 _ h0 0 0 229 #[.val (.ref p), .val (.ref n), .val (.int (4 : Int32)), .val (.int (Int32.ofNat ns.length)), .val (.int (0 : Int32)), .val (.int (3 : Int32)), .val (.int (0 : Int32)), .val (.int (0 : Int32)), .unset, .unset, .unset, .unset, .unset] [(.int (2 : Int32))]
                          refine w_istore ok d7_229 (L' := #[.val (.ref p), .val (.ref n), .val (.int (4 : Int32)), .val (.int (Int32.ofNat ns.length)), .val (.int (0 : Int32)), .val (.int (3 : Int32)), .val (.int (0 : Int32)), .val (.int (0 : Int32)), .val (.int (2 : Int32)), .unset, .unset, .unset, .unset]) rfl ?_
                          refine w_iload ok d7_231 rfl ?_
                          refine w_iconst ok d7_233 (v := (1 : Int32)) rfl ?_
                          refine w_iadd ok d7_234 ?_
                          show W K l _ n0 _ h0 0 0 235 #[.val (.ref p), .val (.ref n), .val (.int (4 : Int32)), .val (.int (Int32.ofNat ns.length)), .val (.int (0 : Int32)), .val (.int (3 : Int32)), .val (.int (0 : Int32)), .val (.int (0 : Int32)), .val (.int (2 : Int32)), .unset, .unset, .unset, .unset] [(.int (1 : Int32))]
                          refine w_istore ok d7_235 (L' := #[.val (.ref p), .val (.ref n), .val (.int (4 : Int32)), .val (.int (Int32.ofNat ns.length)), .val (.int (0 : Int32)), .val (.int (3 : Int32)), .val (.int (0 : Int32)), .val (.int (0 : Int32)), .val (.int (2 : Int32)), .val (.int (1 : Int32)), .unset, .unset, .unset]) rfl ?_
                          refine w_iconst ok d7_237 (v := (0 : Int32)) rfl ?_
                          refine w_istore ok d7_238 (L' := #[.val (.ref p), .val (.ref n), .val (.int (4 : Int32)), .val (.int (Int32.ofNat ns.length)), .val (.int (0 : Int32)), .val (.int (3 : Int32)), .val (.int (0 : Int32)), .val (.int (0 : Int32)), .val (.int (2 : Int32)), .val (.int (1 : Int32)), .val (.int (0 : Int32)), .unset, .unset]) rfl ?_
                          refine w_iload ok d7_240 rfl ?_
                          refine w_iconst ok d7_242 (v := (1 : Int32)) rfl ?_
                          refine w_icmp_ne ok d7_243 (pc' := 263) (by decide) (fun hc65 => ?_) (fun hc65 => False.elim (by revert hc65; decide))
                          refine w_iload ok d7_263 rfl ?_
                          refine w_iconst ok d7_265 (v := (2 : Int32)) rfl ?_
                          refine w_icmp_ne ok d7_266 (pc' := 340) (by decide) (fun hc67 => False.elim (by revert hc67; decide)) (fun hc67 => ?_)
                          refine w_aloadN ok d7_269 rfl rfl ?_
                          refine w_iload ok d7_270 rfl ?_
                          refine w_iconst ok d7_272 (v := (1 : Int32)) rfl ?_
                          refine w_iadd ok d7_273 ?_
                          show W K l _ n0 _ h0 0 0 274 #[.val (.ref p), .val (.ref n), .val (.int (4 : Int32)), .val (.int (Int32.ofNat ns.length)), .val (.int (0 : Int32)), .val (.int (3 : Int32)), .val (.int (0 : Int32)), .val (.int (0 : Int32)), .val (.int (2 : Int32)), .val (.int (1 : Int32)), .val (.int (0 : Int32)), .unset, .unset] [(.int (1 : Int32)), (.ref p)]
                          refine w_callS ok (y := mn_8) (argsL := [(.ref p), (.int (1 : Int32))]) (rest := []) d7_274 (hw _ (List.mem_of_getElem? (i := 34) rfl)) (hw _ (List.mem_of_getElem? (i := 35) rfl)) (hw _ (List.mem_of_getElem? (i := 4) rfl)) (hw _ (List.mem_of_getElem? (i := 36) rfl)) (by decide) pd_285bBI29Z rfl rfl (by decide) (Nat.le_of_ble_eq_true rfl) (by decide) (by decide) (fun z0 => rm_star l Z a0 hw [] n0 h0 z0 p [x0, x1, x2, x3] A_p 1 (Nat.le_of_ble_eq_true rfl) (Nat.le_of_ble_eq_true rfl)) (fun v68 h69 qv68 => ?_)
                          obtain ⟨⟨rfl, t70⟩ | ⟨rfl, t70⟩, rfl⟩ := qv68
                          · skip
                            replace t70 : x1 = 42 := t70
                            show W K l _ n0 _ h0 0 0 277 #[.val (.ref p), .val (.ref n), .val (.int (4 : Int32)), .val (.int (Int32.ofNat ns.length)), .val (.int (0 : Int32)), .val (.int (3 : Int32)), .val (.int (0 : Int32)), .val (.int (0 : Int32)), .val (.int (2 : Int32)), .val (.int (1 : Int32)), .val (.int (0 : Int32)), .unset, .unset] [(.int (1 : Int32))]
                            refine w_istore ok d7_277 (L' := #[.val (.ref p), .val (.ref n), .val (.int (4 : Int32)), .val (.int (Int32.ofNat ns.length)), .val (.int (0 : Int32)), .val (.int (3 : Int32)), .val (.int (0 : Int32)), .val (.int (0 : Int32)), .val (.int (2 : Int32)), .val (.int (1 : Int32)), .val (.int (0 : Int32)), .val (.int (1 : Int32)), .unset]) rfl ?_
                            refine w_aloadN ok d7_279 rfl rfl ?_
                            refine w_iload ok d7_280 rfl ?_
                            refine w_iconst ok d7_282 (v := (2 : Int32)) rfl ?_
                            refine w_iadd ok d7_283 ?_
                            show W K l _ n0 _ h0 0 0 284 #[.val (.ref p), .val (.ref n), .val (.int (4 : Int32)), .val (.int (Int32.ofNat ns.length)), .val (.int (0 : Int32)), .val (.int (3 : Int32)), .val (.int (0 : Int32)), .val (.int (0 : Int32)), .val (.int (2 : Int32)), .val (.int (1 : Int32)), .val (.int (0 : Int32)), .val (.int (1 : Int32)), .unset] [(.int (2 : Int32)), (.ref p)]
                            refine w_callS ok (y := mn_8) (argsL := [(.ref p), (.int (2 : Int32))]) (rest := []) d7_284 (hw _ (List.mem_of_getElem? (i := 34) rfl)) (hw _ (List.mem_of_getElem? (i := 35) rfl)) (hw _ (List.mem_of_getElem? (i := 4) rfl)) (hw _ (List.mem_of_getElem? (i := 36) rfl)) (by decide) pd_285bBI29Z rfl rfl (by decide) (Nat.le_of_ble_eq_true rfl) (by decide) (by decide) (fun z0 => rm_star l Z a0 hw [] n0 h0 z0 p [x0, x1, x2, x3] A_p 2 (Nat.le_of_ble_eq_true rfl) (Nat.le_of_ble_eq_true rfl)) (fun v71 h72 qv71 => ?_)
                            obtain ⟨⟨rfl, t73⟩ | ⟨rfl, t73⟩, rfl⟩ := qv71
                            · skip
                              replace t73 : x2 = 42 := t73
                              show W K l _ n0 _ h0 0 0 287 #[.val (.ref p), .val (.ref n), .val (.int (4 : Int32)), .val (.int (Int32.ofNat ns.length)), .val (.int (0 : Int32)), .val (.int (3 : Int32)), .val (.int (0 : Int32)), .val (.int (0 : Int32)), .val (.int (2 : Int32)), .val (.int (1 : Int32)), .val (.int (0 : Int32)), .val (.int (1 : Int32)), .unset] [(.int (1 : Int32))]
                              refine w_istore ok d7_287 (L' := #[.val (.ref p), .val (.ref n), .val (.int (4 : Int32)), .val (.int (Int32.ofNat ns.length)), .val (.int (0 : Int32)), .val (.int (3 : Int32)), .val (.int (0 : Int32)), .val (.int (0 : Int32)), .val (.int (2 : Int32)), .val (.int (1 : Int32)), .val (.int (0 : Int32)), .val (.int (1 : Int32)), .val (.int (1 : Int32))]) rfl ?_
                              refine w_iload ok d7_289 rfl ?_
                              refine w_if_ne ok d7_291 (pc' := 305) (by decide) (fun hc75 => ?_) (fun hc75 => False.elim (by revert hc75; decide))
                              refine w_iload ok d7_305 rfl ?_
                              refine w_if_eq ok d7_307 (pc' := 327) (by decide) (fun hc77 => False.elim (by revert hc77; decide)) (fun hc77 => ?_)
                              refine w_iload ok d7_310 rfl ?_
                              refine w_if_ne ok d7_312 (pc' := 327) (by decide) (fun hc79 => ?_) (fun hc79 => False.elim (by revert hc79; decide))
                              refine w_iload ok d7_327 rfl ?_
                              refine w_if_ne ok d7_329 (pc' := 340) (by decide) (fun hc81 => ?_) (fun hc81 => False.elim (by revert hc81; decide))
                              refine w_iload ok d7_340 rfl ?_
                              refine w_if_ne ok d7_342 (pc' := 347) (by decide) (fun hc83 => False.elim (by revert hc83; decide)) (fun hc83 => ?_)
                              refine w_iconst ok d7_345 (v := (1 : Int32)) rfl ?_
                              refine w_bret ok (by simp) d7_346 (by decide) (by decide) ?_
                              subst s0 s1 s2 s3
                              have key : Gi ns [42, 42, 42, 42] 0 ↔ _ := Iff.trans ((Gi_cc (ns := ns) (Q := [42, 42]) (i := 0)).trans (Gi_cc (ns := ns) (Q := [42]) (i := 0))) (own_two (ns := ns) (P := []) (R := []) (Q := []) NoS_nil NoS_nil NoS_nil)
                              exact ⟨Or.inl ⟨rfl, key.mpr ⟨hge, sgp, sgs, 0, Nat.le_refl _, (show 0 + 0 ≤ ns.length - 0 by omega), SGl_nil.mpr (by omega)⟩⟩, rfl⟩
                            · exact absurd s2 t73
                          · exact absurd s1 t70
                        · skip
                          replace sgs : ¬ (SGl [] ns (ns.length - 0)) := sgs
                          show W K l _ n0 _ h0 0 0 217 #[.val (.ref p), .val (.ref n), .val (.int (4 : Int32)), .val (.int (Int32.ofNat ns.length)), .val (.int (0 : Int32)), .val (.int (3 : Int32)), .val (.int (0 : Int32)), .val (.int (0 : Int32)), .unset, .unset, .unset, .unset, .unset] [(.int (0 : Int32))]
                          refine w_if_ne ok d7_217 (pc' := 222) (by decide) (fun hc85 => False.elim (by revert hc85; decide)) (fun hc85 => ?_)
                          refine w_iconst ok d7_220 (v := (0 : Int32)) rfl ?_
                          refine w_bret ok (by simp) d7_221 (by decide) (by decide) ?_
                          subst s0 s1 s2 s3
                          have key : Gi ns [42, 42, 42, 42] 0 ↔ _ := Iff.trans ((Gi_cc (ns := ns) (Q := [42, 42]) (i := 0)).trans (Gi_cc (ns := ns) (Q := [42]) (i := 0))) (own_two (ns := ns) (P := []) (R := []) (Q := []) NoS_nil NoS_nil NoS_nil)
                          exact ⟨Or.inr ⟨rfl, fun q => sgs (key.mp q).2.2.1⟩, rfl⟩
                      · skip
                        replace sgp : ¬ (SGl [] ns 0) := sgp
                        show W K l _ n0 _ h0 0 0 197 #[.val (.ref p), .val (.ref n), .val (.int (4 : Int32)), .val (.int (Int32.ofNat ns.length)), .val (.int (0 : Int32)), .val (.int (3 : Int32)), .val (.int (0 : Int32)), .val (.int (0 : Int32)), .unset, .unset, .unset, .unset, .unset] [(.int (0 : Int32))]
                        refine w_if_ne ok d7_197 (pc' := 202) (by decide) (fun hc87 => False.elim (by revert hc87; decide)) (fun hc87 => ?_)
                        refine w_iconst ok d7_200 (v := (0 : Int32)) rfl ?_
                        refine w_bret ok (by simp) d7_201 (by decide) (by decide) ?_
                        subst s0 s1 s2 s3
                        have key : Gi ns [42, 42, 42, 42] 0 ↔ _ := Iff.trans ((Gi_cc (ns := ns) (Q := [42, 42]) (i := 0)).trans (Gi_cc (ns := ns) (Q := [42]) (i := 0))) (own_two (ns := ns) (P := []) (R := []) (Q := []) NoS_nil NoS_nil NoS_nil)
                        exact ⟨Or.inr ⟨rfl, fun q => sgp (key.mp q).2.1⟩, rfl⟩
                    · skip
                      refine w_iconst ok d7_186 (v := (0 : Int32)) rfl ?_
                      refine w_bret ok (by simp) d7_187 (by decide) (by decide) ?_
                      subst s0 s1 s2 s3
                      have key : Gi ns [42, 42, 42, 42] 0 ↔ _ := Iff.trans ((Gi_cc (ns := ns) (Q := [42, 42]) (i := 0)).trans (Gi_cc (ns := ns) (Q := [42]) (i := 0))) (own_two (ns := ns) (P := []) (R := []) (Q := []) NoS_nil NoS_nil NoS_nil)
                      refine ⟨Or.inr ⟨rfl, fun q => ?_⟩, rfl⟩
                      have q1 : 0 + 0 ≤ ns.length := (key.mp q).1
                      have q2 := hc55; rw [show (0 : Int32) = Int32.ofNat 0 from rfl, own_lt (by omega) (by omega)] at q2; omega
                  · exact absurd s3 t51
                · exact absurd s2 t44
              · exact absurd s1 t37
            · exact absurd s0 t30
          · skip
            replace s0 : ¬ (x0 = 42) := s0
            show W K l _ n0 _ h0 0 0 66 #[.val (.ref p), .val (.ref n), .val (.int (4 : Int32)), .val (.int (Int32.ofNat ns.length)), .val (.int (1 : Int32)), .unset, .unset, .unset, .unset, .unset, .unset, .unset, .unset] [(.int (0 : Int32))]
            refine w_if_eq ok d7_66 (pc' := 72) (by decide) (fun hc89 => ?_) (fun hc89 => False.elim (by revert hc89; decide))
            refine w_iload ok d7_72 rfl ?_
            refine w_if_ge ok d7_74 (pc' := 99) (by decide) (fun hc91 => ?_) (fun hc91 => False.elim (by revert hc91; decide))
            refine w_iconst ok d7_99 (v := (-1 : Int32)) rfl ?_
            refine w_istore ok d7_100 (L' := #[.val (.ref p), .val (.ref n), .val (.int (4 : Int32)), .val (.int (Int32.ofNat ns.length)), .val (.int (1 : Int32)), .val (.int (-1 : Int32)), .unset, .unset, .unset, .unset, .unset, .unset, .unset]) rfl ?_
            refine w_iloadN ok d7_102 rfl ?_
            refine w_if_le ok d7_103 (pc' := 117) (by decide) (fun hc93 => False.elim (by revert hc93; decide)) (fun hc93 => ?_)
            refine w_aloadN ok d7_106 rfl rfl ?_
            refine w_iconst ok d7_107 (v := (0 : Int32)) rfl ?_
            refine w_callS ok (y := mn_8) (argsL := [(.ref p), (.int (0 : Int32))]) (rest := []) d7_108 (hw _ (List.mem_of_getElem? (i := 34) rfl)) (hw _ (List.mem_of_getElem? (i := 35) rfl)) (hw _ (List.mem_of_getElem? (i := 4) rfl)) (hw _ (List.mem_of_getElem? (i := 36) rfl)) (by decide) pd_285bBI29Z rfl rfl (by decide) (Nat.le_of_ble_eq_true rfl) (by decide) (by decide) (fun z0 => rm_star l Z a0 hw [] n0 h0 z0 p [x0, x1, x2, x3] A_p 0 (Nat.le_of_ble_eq_true rfl) (Nat.le_of_ble_eq_true rfl)) (fun v94 h95 qv94 => ?_)
            obtain ⟨⟨rfl, t96⟩ | ⟨rfl, t96⟩, rfl⟩ := qv94
            · exact absurd t96 s0
            · skip
              replace t96 : ¬ (x0 = 42) := t96
              show W K l _ n0 _ h0 0 0 111 #[.val (.ref p), .val (.ref n), .val (.int (4 : Int32)), .val (.int (Int32.ofNat ns.length)), .val (.int (1 : Int32)), .val (.int (-1 : Int32)), .unset, .unset, .unset, .unset, .unset, .unset, .unset] [(.int (0 : Int32))]
              refine w_if_eq ok d7_111 (pc' := 117) (by decide) (fun hc98 => ?_) (fun hc98 => False.elim (by revert hc98; decide))
              refine w_iloadN ok d7_117 rfl ?_
              refine w_iconst ok d7_118 (v := (1 : Int32)) rfl ?_
              refine w_icmp_le ok d7_119 (pc' := 133) (by decide) (fun hc100 => False.elim (by revert hc100; decide)) (fun hc100 => ?_)
              refine w_aloadN ok d7_122 rfl rfl ?_
              refine w_iconst ok d7_123 (v := (1 : Int32)) rfl ?_
              refine w_callS ok (y := mn_8) (argsL := [(.ref p), (.int (1 : Int32))]) (rest := []) d7_124 (hw _ (List.mem_of_getElem? (i := 34) rfl)) (hw _ (List.mem_of_getElem? (i := 35) rfl)) (hw _ (List.mem_of_getElem? (i := 4) rfl)) (hw _ (List.mem_of_getElem? (i := 36) rfl)) (by decide) pd_285bBI29Z rfl rfl (by decide) (Nat.le_of_ble_eq_true rfl) (by decide) (by decide) (fun z0 => rm_star l Z a0 hw [] n0 h0 z0 p [x0, x1, x2, x3] A_p 1 (Nat.le_of_ble_eq_true rfl) (Nat.le_of_ble_eq_true rfl)) (fun v101 h102 qv101 => ?_)
              obtain ⟨⟨rfl, t103⟩ | ⟨rfl, t103⟩, rfl⟩ := qv101
              · skip
                replace t103 : x1 = 42 := t103
                show W K l _ n0 _ h0 0 0 127 #[.val (.ref p), .val (.ref n), .val (.int (4 : Int32)), .val (.int (Int32.ofNat ns.length)), .val (.int (1 : Int32)), .val (.int (-1 : Int32)), .unset, .unset, .unset, .unset, .unset, .unset, .unset] [(.int (1 : Int32))]
                refine w_if_eq ok d7_127 (pc' := 133) (by decide) (fun hc105 => False.elim (by revert hc105; decide)) (fun hc105 => ?_)
                refine w_iconst ok d7_130 (v := (1 : Int32)) rfl ?_
                refine w_istore ok d7_131 (L' := #[.val (.ref p), .val (.ref n), .val (.int (4 : Int32)), .val (.int (Int32.ofNat ns.length)), .val (.int (1 : Int32)), .val (.int (1 : Int32)), .unset, .unset, .unset, .unset, .unset, .unset, .unset]) rfl ?_
                refine w_iloadN ok d7_133 rfl ?_
                refine w_iconst ok d7_134 (v := (2 : Int32)) rfl ?_
                refine w_icmp_le ok d7_135 (pc' := 149) (by decide) (fun hc107 => False.elim (by revert hc107; decide)) (fun hc107 => ?_)
                refine w_aloadN ok d7_138 rfl rfl ?_
                refine w_iconst ok d7_139 (v := (2 : Int32)) rfl ?_
                refine w_callS ok (y := mn_8) (argsL := [(.ref p), (.int (2 : Int32))]) (rest := []) d7_140 (hw _ (List.mem_of_getElem? (i := 34) rfl)) (hw _ (List.mem_of_getElem? (i := 35) rfl)) (hw _ (List.mem_of_getElem? (i := 4) rfl)) (hw _ (List.mem_of_getElem? (i := 36) rfl)) (by decide) pd_285bBI29Z rfl rfl (by decide) (Nat.le_of_ble_eq_true rfl) (by decide) (by decide) (fun z0 => rm_star l Z a0 hw [] n0 h0 z0 p [x0, x1, x2, x3] A_p 2 (Nat.le_of_ble_eq_true rfl) (Nat.le_of_ble_eq_true rfl)) (fun v108 h109 qv108 => ?_)
                obtain ⟨⟨rfl, t110⟩ | ⟨rfl, t110⟩, rfl⟩ := qv108
                · skip
                  replace t110 : x2 = 42 := t110
                  show W K l _ n0 _ h0 0 0 143 #[.val (.ref p), .val (.ref n), .val (.int (4 : Int32)), .val (.int (Int32.ofNat ns.length)), .val (.int (1 : Int32)), .val (.int (1 : Int32)), .unset, .unset, .unset, .unset, .unset, .unset, .unset] [(.int (1 : Int32))]
                  refine w_if_eq ok d7_143 (pc' := 149) (by decide) (fun hc112 => False.elim (by revert hc112; decide)) (fun hc112 => ?_)
                  refine w_iconst ok d7_146 (v := (2 : Int32)) rfl ?_
                  refine w_istore ok d7_147 (L' := #[.val (.ref p), .val (.ref n), .val (.int (4 : Int32)), .val (.int (Int32.ofNat ns.length)), .val (.int (1 : Int32)), .val (.int (2 : Int32)), .unset, .unset, .unset, .unset, .unset, .unset, .unset]) rfl ?_
                  refine w_iloadN ok d7_149 rfl ?_
                  refine w_iconst ok d7_150 (v := (3 : Int32)) rfl ?_
                  refine w_icmp_le ok d7_151 (pc' := 165) (by decide) (fun hc114 => False.elim (by revert hc114; decide)) (fun hc114 => ?_)
                  refine w_aloadN ok d7_154 rfl rfl ?_
                  refine w_iconst ok d7_155 (v := (3 : Int32)) rfl ?_
                  refine w_callS ok (y := mn_8) (argsL := [(.ref p), (.int (3 : Int32))]) (rest := []) d7_156 (hw _ (List.mem_of_getElem? (i := 34) rfl)) (hw _ (List.mem_of_getElem? (i := 35) rfl)) (hw _ (List.mem_of_getElem? (i := 4) rfl)) (hw _ (List.mem_of_getElem? (i := 36) rfl)) (by decide) pd_285bBI29Z rfl rfl (by decide) (Nat.le_of_ble_eq_true rfl) (by decide) (by decide) (fun z0 => rm_star l Z a0 hw [] n0 h0 z0 p [x0, x1, x2, x3] A_p 3 (Nat.le_of_ble_eq_true rfl) (Nat.le_of_ble_eq_true rfl)) (fun v115 h116 qv115 => ?_)
                  obtain ⟨⟨rfl, t117⟩ | ⟨rfl, t117⟩, rfl⟩ := qv115
                  · skip
                    replace t117 : x3 = 42 := t117
                    show W K l _ n0 _ h0 0 0 159 #[.val (.ref p), .val (.ref n), .val (.int (4 : Int32)), .val (.int (Int32.ofNat ns.length)), .val (.int (1 : Int32)), .val (.int (2 : Int32)), .unset, .unset, .unset, .unset, .unset, .unset, .unset] [(.int (1 : Int32))]
                    refine w_if_eq ok d7_159 (pc' := 165) (by decide) (fun hc119 => False.elim (by revert hc119; decide)) (fun hc119 => ?_)
                    refine w_iconst ok d7_162 (v := (3 : Int32)) rfl ?_
                    refine w_istore ok d7_163 (L' := #[.val (.ref p), .val (.ref n), .val (.int (4 : Int32)), .val (.int (Int32.ofNat ns.length)), .val (.int (1 : Int32)), .val (.int (3 : Int32)), .unset, .unset, .unset, .unset, .unset, .unset, .unset]) rfl ?_
                    refine w_iload ok d7_165 rfl ?_
                    refine w_istore ok d7_167 (L' := #[.val (.ref p), .val (.ref n), .val (.int (4 : Int32)), .val (.int (Int32.ofNat ns.length)), .val (.int (1 : Int32)), .val (.int (3 : Int32)), .val (.int (1 : Int32)), .unset, .unset, .unset, .unset, .unset, .unset]) rfl ?_
                    refine w_iloadN ok d7_169 rfl ?_
                    refine w_iconst ok d7_170 (v := (1 : Int32)) rfl ?_
                    refine w_isub ok d7_171 ?_
                    show W K l _ n0 _ h0 0 0 172 #[.val (.ref p), .val (.ref n), .val (.int (4 : Int32)), .val (.int (Int32.ofNat ns.length)), .val (.int (1 : Int32)), .val (.int (3 : Int32)), .val (.int (1 : Int32)), .unset, .unset, .unset, .unset, .unset, .unset] [(.int (3 : Int32))]
                    refine w_iload ok d7_172 rfl ?_
                    refine w_isub ok d7_174 ?_
                    show W K l _ n0 _ h0 0 0 175 #[.val (.ref p), .val (.ref n), .val (.int (4 : Int32)), .val (.int (Int32.ofNat ns.length)), .val (.int (1 : Int32)), .val (.int (3 : Int32)), .val (.int (1 : Int32)), .unset, .unset, .unset, .unset, .unset, .unset] [(.int (0 : Int32))]
                    refine w_istore ok d7_175 (L' := #[.val (.ref p), .val (.ref n), .val (.int (4 : Int32)), .val (.int (Int32.ofNat ns.length)), .val (.int (1 : Int32)), .val (.int (3 : Int32)), .val (.int (1 : Int32)), .val (.int (0 : Int32)), .unset, .unset, .unset, .unset, .unset]) rfl ?_
                    refine w_iloadN ok d7_177 rfl ?_
                    refine w_iload ok d7_178 rfl ?_
                    refine w_iload ok d7_180 rfl ?_
                    refine w_iadd ok d7_182 ?_
                    show W K l _ n0 _ h0 0 0 183 #[.val (.ref p), .val (.ref n), .val (.int (4 : Int32)), .val (.int (Int32.ofNat ns.length)), .val (.int (1 : Int32)), .val (.int (3 : Int32)), .val (.int (1 : Int32)), .val (.int (0 : Int32)), .unset, .unset, .unset, .unset, .unset] [(.int (1 : Int32)), (.int (Int32.ofNat ns.length))]
                    refine w_icmp_ge ok d7_183 (pc' := 188) (by decide) (fun hc121 => ?_) (fun hc121 => ?_)
                    · skip
                      have hge : 1 ≤ ns.length := by have q := hc121; rw [show (1 : Int32) = Int32.ofNat 1 from rfl, own_lt (by omega) (by omega)] at q; omega
                      refine w_aloadN ok d7_188 rfl rfl ?_
                      refine w_iconst ok d7_189 (v := (0 : Int32)) rfl ?_
                      refine w_iload ok d7_190 rfl ?_
                      refine w_aloadN ok d7_192 rfl rfl ?_
                      refine w_iconst ok d7_193 (v := (0 : Int32)) rfl ?_
                      refine w_callS ok (y := mn_9) (argsL := [(.ref p), (.int (0 : Int32)), (.int (1 : Int32)), (.ref n), (.int (0 : Int32))]) (rest := []) d7_194 (hw _ (List.mem_of_getElem? (i := 37) rfl)) (hw _ (List.mem_of_getElem? (i := 38) rfl)) (hw _ (List.mem_of_getElem? (i := 4) rfl)) (hw _ (List.mem_of_getElem? (i := 39) rfl)) (by decide) pd_285bBII5bBI29Z rfl rfl (by decide) (Nat.le_of_ble_eq_true rfl) (by decide) (by decide) (fun z0 => rm_seg l Z a0 hw [] n0 h0 z0 p n [x0, x1, x2, x3] ns A_p A_n 0 1 0 _ rfl (Nat.le_of_ble_eq_true rfl) (by decide) (by omega) (Nat.le_of_ble_eq_true rfl) ln) (fun v122 h123 qv122 => ?_)
                      obtain ⟨⟨rfl, sgp⟩ | ⟨rfl, sgp⟩, rfl⟩ := qv122
                      · skip
                        replace sgp : SGl [x0] ns 0 := sgp
                        show W K l _ n0 _ h0 0 0 197 #[.val (.ref p), .val (.ref n), .val (.int (4 : Int32)), .val (.int (Int32.ofNat ns.length)), .val (.int (1 : Int32)), .val (.int (3 : Int32)), .val (.int (1 : Int32)), .val (.int (0 : Int32)), .unset, .unset, .unset, .unset, .unset] [(.int (1 : Int32))]
                        refine w_if_ne ok d7_197 (pc' := 202) (by decide) (fun hc125 => ?_) (fun hc125 => False.elim (by revert hc125; decide))
                        refine w_aloadN ok d7_202 rfl rfl ?_
                        refine w_iload ok d7_203 rfl ?_
                        refine w_iconst ok d7_205 (v := (1 : Int32)) rfl ?_
                        refine w_iadd ok d7_206 ?_
                        show W K l _ n0 _ h0 0 0 207 #[.val (.ref p), .val (.ref n), .val (.int (4 : Int32)), .val (.int (Int32.ofNat ns.length)), .val (.int (1 : Int32)), .val (.int (3 : Int32)), .val (.int (1 : Int32)), .val (.int (0 : Int32)), .unset, .unset, .unset, .unset, .unset] [(.int (4 : Int32)), (.ref p)]
                        refine w_iload ok d7_207 rfl ?_
                        refine w_aloadN ok d7_209 rfl rfl ?_
                        refine w_iloadN ok d7_210 rfl ?_
                        refine w_iload ok d7_211 rfl ?_
                        refine w_isub ok d7_213 ?_
                        refine w_callS ok (y := mn_9) (argsL := [(.ref p), (.int (4 : Int32)), (.int (0 : Int32)), (.ref n), (.int ((Int32.ofNat ns.length) - (0 : Int32)))]) (rest := []) d7_214 (hw _ (List.mem_of_getElem? (i := 37) rfl)) (hw _ (List.mem_of_getElem? (i := 38) rfl)) (hw _ (List.mem_of_getElem? (i := 4) rfl)) (hw _ (List.mem_of_getElem? (i := 39) rfl)) (by decide) pd_285bBII5bBI29Z rfl rfl (by decide) (Nat.le_of_ble_eq_true rfl) (by decide) (by decide) (fun z0 => rm_seg l Z a0 hw [] n0 h0 z0 p n [x0, x1, x2, x3] ns A_p A_n 4 0 (ns.length - 0) _ (own_subk (k := 0) rfl (by omega) (by omega)) (Nat.le_of_ble_eq_true rfl) (by decide) (by omega) (Nat.le_of_ble_eq_true rfl) ln) (fun v126 h127 qv126 => ?_)
                        obtain ⟨⟨rfl, sgs⟩ | ⟨rfl, sgs⟩, rfl⟩ := qv126
                        · skip
                          replace sgs : SGl [] ns (ns.length - 0) := sgs
                          show W K l _ n0 _ h0 0 0 217 #[.val (.ref p), .val (.ref n), .val (.int (4 : Int32)), .val (.int (Int32.ofNat ns.length)), .val (.int (1 : Int32)), .val (.int (3 : Int32)), .val (.int (1 : Int32)), .val (.int (0 : Int32)), .unset, .unset, .unset, .unset, .unset] [(.int (1 : Int32))]
                          refine w_if_ne ok d7_217 (pc' := 222) (by decide) (fun hc129 => ?_) (fun hc129 => False.elim (by revert hc129; decide))
                          refine w_iload ok d7_222 rfl ?_
                          refine w_iload ok d7_224 rfl ?_
                          refine w_isub ok d7_226 ?_
                          show W K l _ n0 _ h0 0 0 227 #[.val (.ref p), .val (.ref n), .val (.int (4 : Int32)), .val (.int (Int32.ofNat ns.length)), .val (.int (1 : Int32)), .val (.int (3 : Int32)), .val (.int (1 : Int32)), .val (.int (0 : Int32)), .unset, .unset, .unset, .unset, .unset] [(.int (2 : Int32))]
                          refine w_iconst ok d7_227 (v := (1 : Int32)) rfl ?_
                          refine w_isub ok d7_228 ?_
                          show W K l _ n0 _ h0 0 0 229 #[.val (.ref p), .val (.ref n), .val (.int (4 : Int32)), .val (.int (Int32.ofNat ns.length)), .val (.int (1 : Int32)), .val (.int (3 : Int32)), .val (.int (1 : Int32)), .val (.int (0 : Int32)), .unset, .unset, .unset, .unset, .unset] [(.int (1 : Int32))]
                          refine w_istore ok d7_229 (L' := #[.val (.ref p), .val (.ref n), .val (.int (4 : Int32)), .val (.int (Int32.ofNat ns.length)), .val (.int (1 : Int32)), .val (.int (3 : Int32)), .val (.int (1 : Int32)), .val (.int (0 : Int32)), .val (.int (1 : Int32)), .unset, .unset, .unset, .unset]) rfl ?_
                          refine w_iload ok d7_231 rfl ?_
                          refine w_iconst ok d7_233 (v := (1 : Int32)) rfl ?_
                          refine w_iadd ok d7_234 ?_
                          show W K l _ n0 _ h0 0 0 235 #[.val (.ref p), .val (.ref n), .val (.int (4 : Int32)), .val (.int (Int32.ofNat ns.length)), .val (.int (1 : Int32)), .val (.int (3 : Int32)), .val (.int (1 : Int32)), .val (.int (0 : Int32)), .val (.int (1 : Int32)), .unset, .unset, .unset, .unset] [(.int (2 : Int32))]
                          refine w_istore ok d7_235 (L' := #[.val (.ref p), .val (.ref n), .val (.int (4 : Int32)), .val (.int (Int32.ofNat ns.length)), .val (.int (1 : Int32)), .val (.int (3 : Int32)), .val (.int (1 : Int32)), .val (.int (0 : Int32)), .val (.int (1 : Int32)), .val (.int (2 : Int32)), .unset, .unset, .unset]) rfl ?_
                          refine w_iconst ok d7_237 (v := (0 : Int32)) rfl ?_
                          refine w_istore ok d7_238 (L' := #[.val (.ref p), .val (.ref n), .val (.int (4 : Int32)), .val (.int (Int32.ofNat ns.length)), .val (.int (1 : Int32)), .val (.int (3 : Int32)), .val (.int (1 : Int32)), .val (.int (0 : Int32)), .val (.int (1 : Int32)), .val (.int (2 : Int32)), .val (.int (0 : Int32)), .unset, .unset]) rfl ?_
                          refine w_iload ok d7_240 rfl ?_
                          refine w_iconst ok d7_242 (v := (1 : Int32)) rfl ?_
                          refine w_icmp_ne ok d7_243 (pc' := 263) (by decide) (fun hc131 => False.elim (by revert hc131; decide)) (fun hc131 => ?_)
                          refine w_aloadN ok d7_246 rfl rfl ?_
                          refine w_iload ok d7_247 rfl ?_
                          refine w_iconst ok d7_249 (v := (1 : Int32)) rfl ?_
                          refine w_iadd ok d7_250 ?_
                          show W K l _ n0 _ h0 0 0 251 #[.val (.ref p), .val (.ref n), .val (.int (4 : Int32)), .val (.int (Int32.ofNat ns.length)), .val (.int (1 : Int32)), .val (.int (3 : Int32)), .val (.int (1 : Int32)), .val (.int (0 : Int32)), .val (.int (1 : Int32)), .val (.int (2 : Int32)), .val (.int (0 : Int32)), .unset, .unset] [(.int (2 : Int32)), (.ref p)]
                          refine w_callS ok (y := mn_8) (argsL := [(.ref p), (.int (2 : Int32))]) (rest := []) d7_251 (hw _ (List.mem_of_getElem? (i := 34) rfl)) (hw _ (List.mem_of_getElem? (i := 35) rfl)) (hw _ (List.mem_of_getElem? (i := 4) rfl)) (hw _ (List.mem_of_getElem? (i := 36) rfl)) (by decide) pd_285bBI29Z rfl rfl (by decide) (Nat.le_of_ble_eq_true rfl) (by decide) (by decide) (fun z0 => rm_star l Z a0 hw [] n0 h0 z0 p [x0, x1, x2, x3] A_p 2 (Nat.le_of_ble_eq_true rfl) (Nat.le_of_ble_eq_true rfl)) (fun v132 h133 qv132 => ?_)
                          obtain ⟨⟨rfl, t134⟩ | ⟨rfl, t134⟩, rfl⟩ := qv132
                          · skip
                            replace t134 : x2 = 42 := t134
                            show W K l _ n0 _ h0 0 0 254 #[.val (.ref p), .val (.ref n), .val (.int (4 : Int32)), .val (.int (Int32.ofNat ns.length)), .val (.int (1 : Int32)), .val (.int (3 : Int32)), .val (.int (1 : Int32)), .val (.int (0 : Int32)), .val (.int (1 : Int32)), .val (.int (2 : Int32)), .val (.int (0 : Int32)), .unset, .unset] [(.int (1 : Int32))]
                            refine w_if_ne ok d7_254 (pc' := 340) (by decide) (fun hc136 => ?_) (fun hc136 => False.elim (by revert hc136; decide))
                            refine w_iload ok d7_340 rfl ?_
                            refine w_if_ne ok d7_342 (pc' := 347) (by decide) (fun hc138 => False.elim (by revert hc138; decide)) (fun hc138 => ?_)
                            refine w_iconst ok d7_345 (v := (1 : Int32)) rfl ?_
                            refine w_bret ok (by simp) d7_346 (by decide) (by decide) ?_
                            subst s1 s2 s3
                            have key : Gi ns [x0, 42, 42, 42] 0 ↔ _ := Iff.trans (Gi_congr (fun i => Gi_cc (ns := ns) (Q := 42 :: []) (i := i)) [x0] 0) (own_two (ns := ns) (P := [x0]) (R := []) (Q := []) (NoS_cons s0 NoS_nil) NoS_nil NoS_nil)
                            exact ⟨Or.inl ⟨rfl, key.mpr ⟨hge, sgp, sgs, 1, Nat.le_refl _, (show 1 + 0 ≤ ns.length - 0 by omega), SGl_nil.mpr (by omega)⟩⟩, rfl⟩
                          · exact absurd s2 t134
                        · skip
                          replace sgs : ¬ (SGl [] ns (ns.length - 0)) := sgs
                          show W K l _ n0 _ h0 0 0 217 #[.val (.ref p), .val (.ref n), .val (.int (4 : Int32)), .val (.int (Int32.ofNat ns.length)), .val (.int (1 : Int32)), .val (.int (3 : Int32)), .val (.int (1 : Int32)), .val (.int (0 : Int32)), .unset, .unset, .unset, .unset, .unset] [(.int (0 : Int32))]
                          refine w_if_ne ok d7_217 (pc' := 222) (by decide) (fun hc140 => False.elim (by revert hc140; decide)) (fun hc140 => ?_)
                          refine w_iconst ok d7_220 (v := (0 : Int32)) rfl ?_
                          refine w_bret ok (by simp) d7_221 (by decide) (by decide) ?_
                          subst s1 s2 s3
                          have key : Gi ns [x0, 42, 42, 42] 0 ↔ _ := Iff.trans (Gi_congr (fun i => Gi_cc (ns := ns) (Q := 42 :: []) (i := i)) [x0] 0) (own_two (ns := ns) (P := [x0]) (R := []) (Q := []) (NoS_cons s0 NoS_nil) NoS_nil NoS_nil)
                          exact ⟨Or.inr ⟨rfl, fun q => sgs (key.mp q).2.2.1⟩, rfl⟩
                      · skip
                        replace sgp : ¬ (SGl [x0] ns 0) := sgp
                        show W K l _ n0 _ h0 0 0 197 #[.val (.ref p), .val (.ref n), .val (.int (4 : Int32)), .val (.int (Int32.ofNat ns.length)), .val (.int (1 : Int32)), .val (.int (3 : Int32)), .val (.int (1 : Int32)), .val (.int (0 : Int32)), .unset, .unset, .unset, .unset, .unset] [(.int (0 : Int32))]
                        refine w_if_ne ok d7_197 (pc' := 202) (by decide) (fun hc142 => False.elim (by revert hc142; decide)) (fun hc142 => ?_)
                        refine w_iconst ok d7_200 (v := (0 : Int32)) rfl ?_
                        refine w_bret ok (by simp) d7_201 (by decide) (by decide) ?_
                        subst s1 s2 s3
                        have key : Gi ns [x0, 42, 42, 42] 0 ↔ _ := Iff.trans (Gi_congr (fun i => Gi_cc (ns := ns) (Q := 42 :: []) (i := i)) [x0] 0) (own_two (ns := ns) (P := [x0]) (R := []) (Q := []) (NoS_cons s0 NoS_nil) NoS_nil NoS_nil)
                        exact ⟨Or.inr ⟨rfl, fun q => sgp (key.mp q).2.1⟩, rfl⟩
                    · skip
                      refine w_iconst ok d7_186 (v := (0 : Int32)) rfl ?_
                      refine w_bret ok (by simp) d7_187 (by decide) (by decide) ?_
                      subst s1 s2 s3
                      have key : Gi ns [x0, 42, 42, 42] 0 ↔ _ := Iff.trans (Gi_congr (fun i => Gi_cc (ns := ns) (Q := 42 :: []) (i := i)) [x0] 0) (own_two (ns := ns) (P := [x0]) (R := []) (Q := []) (NoS_cons s0 NoS_nil) NoS_nil NoS_nil)
                      refine ⟨Or.inr ⟨rfl, fun q => ?_⟩, rfl⟩
                      have q1 : 1 + 0 ≤ ns.length := (key.mp q).1
                      have q2 := hc121; rw [show (1 : Int32) = Int32.ofNat 1 from rfl, own_lt (by omega) (by omega)] at q2; omega
                  · exact absurd s3 t117
                · exact absurd s2 t110
              · exact absurd s1 t103
        · skip
          replace s1 : ¬ (x1 = 42) := s1
          show W K l _ n0 _ h0 0 0 51 #[.val (.ref p), .val (.ref n), .val (.int (4 : Int32)), .val (.int (Int32.ofNat ns.length)), .val (.int (2 : Int32)), .unset, .unset, .unset, .unset, .unset, .unset, .unset, .unset] [(.int (0 : Int32))]
          refine w_if_eq ok d7_51 (pc' := 57) (by decide) (fun hc144 => ?_) (fun hc144 => False.elim (by revert hc144; decide))
          refine w_iloadN ok d7_57 rfl ?_
          refine w_if_le ok d7_58 (pc' := 72) (by decide) (fun hc146 => False.elim (by revert hc146; decide)) (fun hc146 => ?_)
          refine w_aloadN ok d7_61 rfl rfl ?_
          refine w_iconst ok d7_62 (v := (0 : Int32)) rfl ?_
          refine w_callS ok (y := mn_8) (argsL := [(.ref p), (.int (0 : Int32))]) (rest := []) d7_63 (hw _ (List.mem_of_getElem? (i := 34) rfl)) (hw _ (List.mem_of_getElem? (i := 35) rfl)) (hw _ (List.mem_of_getElem? (i := 4) rfl)) (hw _ (List.mem_of_getElem? (i := 36) rfl)) (by decide) pd_285bBI29Z rfl rfl (by decide) (Nat.le_of_ble_eq_true rfl) (by decide) (by decide) (fun z0 => rm_star l Z a0 hw [] n0 h0 z0 p [x0, x1, x2, x3] A_p 0 (Nat.le_of_ble_eq_true rfl) (Nat.le_of_ble_eq_true rfl)) (fun v147 h148 qv147 => ?_)
          obtain ⟨⟨rfl, s0⟩ | ⟨rfl, s0⟩, rfl⟩ := qv147
          · skip
            replace s0 : x0 = 42 := s0
            show W K l _ n0 _ h0 0 0 66 #[.val (.ref p), .val (.ref n), .val (.int (4 : Int32)), .val (.int (Int32.ofNat ns.length)), .val (.int (2 : Int32)), .unset, .unset, .unset, .unset, .unset, .unset, .unset, .unset] [(.int (1 : Int32))]
            refine w_if_eq ok d7_66 (pc' := 72) (by decide) (fun hc150 => False.elim (by revert hc150; decide)) (fun hc150 => ?_)
            refine w_iconst ok d7_69 (v := (0 : Int32)) rfl ?_
            refine w_istore ok d7_70 (L' := #[.val (.ref p), .val (.ref n), .val (.int (4 : Int32)), .val (.int (Int32.ofNat ns.length)), .val (.int (0 : Int32)), .unset, .unset, .unset, .unset, .unset, .unset, .unset, .unset]) rfl ?_
            refine w_iload ok d7_72 rfl ?_
            refine w_if_ge ok d7_74 (pc' := 99) (by decide) (fun hc152 => ?_) (fun hc152 => False.elim (by revert hc152; decide))
            refine w_iconst ok d7_99 (v := (-1 : Int32)) rfl ?_
            refine w_istore ok d7_100 (L' := #[.val (.ref p), .val (.ref n), .val (.int (4 : Int32)), .val (.int (Int32.ofNat ns.length)), .val (.int (0 : Int32)), .val (.int (-1 : Int32)), .unset, .unset, .unset, .unset, .unset, .unset, .unset]) rfl ?_
            refine w_iloadN ok d7_102 rfl ?_
            refine w_if_le ok d7_103 (pc' := 117) (by decide) (fun hc154 => False.elim (by revert hc154; decide)) (fun hc154 => ?_)
            refine w_aloadN ok d7_106 rfl rfl ?_
            refine w_iconst ok d7_107 (v := (0 : Int32)) rfl ?_
            refine w_callS ok (y := mn_8) (argsL := [(.ref p), (.int (0 : Int32))]) (rest := []) d7_108 (hw _ (List.mem_of_getElem? (i := 34) rfl)) (hw _ (List.mem_of_getElem? (i := 35) rfl)) (hw _ (List.mem_of_getElem? (i := 4) rfl)) (hw _ (List.mem_of_getElem? (i := 36) rfl)) (by decide) pd_285bBI29Z rfl rfl (by decide) (Nat.le_of_ble_eq_true rfl) (by decide) (by decide) (fun z0 => rm_star l Z a0 hw [] n0 h0 z0 p [x0, x1, x2, x3] A_p 0 (Nat.le_of_ble_eq_true rfl) (Nat.le_of_ble_eq_true rfl)) (fun v155 h156 qv155 => ?_)
            obtain ⟨⟨rfl, t157⟩ | ⟨rfl, t157⟩, rfl⟩ := qv155
            · skip
              replace t157 : x0 = 42 := t157
              show W K l _ n0 _ h0 0 0 111 #[.val (.ref p), .val (.ref n), .val (.int (4 : Int32)), .val (.int (Int32.ofNat ns.length)), .val (.int (0 : Int32)), .val (.int (-1 : Int32)), .unset, .unset, .unset, .unset, .unset, .unset, .unset] [(.int (1 : Int32))]
              refine w_if_eq ok d7_111 (pc' := 117) (by decide) (fun hc159 => False.elim (by revert hc159; decide)) (fun hc159 => ?_)
              refine w_iconst ok d7_114 (v := (0 : Int32)) rfl ?_
              refine w_istore ok d7_115 (L' := #[.val (.ref p), .val (.ref n), .val (.int (4 : Int32)), .val (.int (Int32.ofNat ns.length)), .val (.int (0 : Int32)), .val (.int (0 : Int32)), .unset, .unset, .unset, .unset, .unset, .unset, .unset]) rfl ?_
              refine w_iloadN ok d7_117 rfl ?_
              refine w_iconst ok d7_118 (v := (1 : Int32)) rfl ?_
              refine w_icmp_le ok d7_119 (pc' := 133) (by decide) (fun hc161 => False.elim (by revert hc161; decide)) (fun hc161 => ?_)
              refine w_aloadN ok d7_122 rfl rfl ?_
              refine w_iconst ok d7_123 (v := (1 : Int32)) rfl ?_
              refine w_callS ok (y := mn_8) (argsL := [(.ref p), (.int (1 : Int32))]) (rest := []) d7_124 (hw _ (List.mem_of_getElem? (i := 34) rfl)) (hw _ (List.mem_of_getElem? (i := 35) rfl)) (hw _ (List.mem_of_getElem? (i := 4) rfl)) (hw _ (List.mem_of_getElem? (i := 36) rfl)) (by decide) pd_285bBI29Z rfl rfl (by decide) (Nat.le_of_ble_eq_true rfl) (by decide) (by decide) (fun z0 => rm_star l Z a0 hw [] n0 h0 z0 p [x0, x1, x2, x3] A_p 1 (Nat.le_of_ble_eq_true rfl) (Nat.le_of_ble_eq_true rfl)) (fun v162 h163 qv162 => ?_)
              obtain ⟨⟨rfl, t164⟩ | ⟨rfl, t164⟩, rfl⟩ := qv162
              · exact absurd t164 s1
              · skip
                replace t164 : ¬ (x1 = 42) := t164
                show W K l _ n0 _ h0 0 0 127 #[.val (.ref p), .val (.ref n), .val (.int (4 : Int32)), .val (.int (Int32.ofNat ns.length)), .val (.int (0 : Int32)), .val (.int (0 : Int32)), .unset, .unset, .unset, .unset, .unset, .unset, .unset] [(.int (0 : Int32))]
                refine w_if_eq ok d7_127 (pc' := 133) (by decide) (fun hc166 => ?_) (fun hc166 => False.elim (by revert hc166; decide))
                refine w_iloadN ok d7_133 rfl ?_
                refine w_iconst ok d7_134 (v := (2 : Int32)) rfl ?_
                refine w_icmp_le ok d7_135 (pc' := 149) (by decide) (fun hc168 => False.elim (by revert hc168; decide)) (fun hc168 => ?_)
                refine w_aloadN ok d7_138 rfl rfl ?_
                refine w_iconst ok d7_139 (v := (2 : Int32)) rfl ?_
                refine w_callS ok (y := mn_8) (argsL := [(.ref p), (.int (2 : Int32))]) (rest := []) d7_140 (hw _ (List.mem_of_getElem? (i := 34) rfl)) (hw _ (List.mem_of_getElem? (i := 35) rfl)) (hw _ (List.mem_of_getElem? (i := 4) rfl)) (hw _ (List.mem_of_getElem? (i := 36) rfl)) (by decide) pd_285bBI29Z rfl rfl (by decide) (Nat.le_of_ble_eq_true rfl) (by decide) (by decide) (fun z0 => rm_star l Z a0 hw [] n0 h0 z0 p [x0, x1, x2, x3] A_p 2 (Nat.le_of_ble_eq_true rfl) (Nat.le_of_ble_eq_true rfl)) (fun v169 h170 qv169 => ?_)
                obtain ⟨⟨rfl, t171⟩ | ⟨rfl, t171⟩, rfl⟩ := qv169
                · skip
                  replace t171 : x2 = 42 := t171
                  show W K l _ n0 _ h0 0 0 143 #[.val (.ref p), .val (.ref n), .val (.int (4 : Int32)), .val (.int (Int32.ofNat ns.length)), .val (.int (0 : Int32)), .val (.int (0 : Int32)), .unset, .unset, .unset, .unset, .unset, .unset, .unset] [(.int (1 : Int32))]
                  refine w_if_eq ok d7_143 (pc' := 149) (by decide) (fun hc173 => False.elim (by revert hc173; decide)) (fun hc173 => ?_)
                  refine w_iconst ok d7_146 (v := (2 : Int32)) rfl ?_
                  refine w_istore ok d7_147 (L' := #[.val (.ref p), .val (.ref n), .val (.int (4 : Int32)), .val (.int (Int32.ofNat ns.length)), .val (.int (0 : Int32)), .val (.int (2 : Int32)), .unset, .unset, .unset, .unset, .unset, .unset, .unset]) rfl ?_
                  refine w_iloadN ok d7_149 rfl ?_
                  refine w_iconst ok d7_150 (v := (3 : Int32)) rfl ?_
                  refine w_icmp_le ok d7_151 (pc' := 165) (by decide) (fun hc175 => False.elim (by revert hc175; decide)) (fun hc175 => ?_)
                  refine w_aloadN ok d7_154 rfl rfl ?_
                  refine w_iconst ok d7_155 (v := (3 : Int32)) rfl ?_
                  refine w_callS ok (y := mn_8) (argsL := [(.ref p), (.int (3 : Int32))]) (rest := []) d7_156 (hw _ (List.mem_of_getElem? (i := 34) rfl)) (hw _ (List.mem_of_getElem? (i := 35) rfl)) (hw _ (List.mem_of_getElem? (i := 4) rfl)) (hw _ (List.mem_of_getElem? (i := 36) rfl)) (by decide) pd_285bBI29Z rfl rfl (by decide) (Nat.le_of_ble_eq_true rfl) (by decide) (by decide) (fun z0 => rm_star l Z a0 hw [] n0 h0 z0 p [x0, x1, x2, x3] A_p 3 (Nat.le_of_ble_eq_true rfl) (Nat.le_of_ble_eq_true rfl)) (fun v176 h177 qv176 => ?_)
                  obtain ⟨⟨rfl, t178⟩ | ⟨rfl, t178⟩, rfl⟩ := qv176
                  · skip
                    replace t178 : x3 = 42 := t178
                    show W K l _ n0 _ h0 0 0 159 #[.val (.ref p), .val (.ref n), .val (.int (4 : Int32)), .val (.int (Int32.ofNat ns.length)), .val (.int (0 : Int32)), .val (.int (2 : Int32)), .unset, .unset, .unset, .unset, .unset, .unset, .unset] [(.int (1 : Int32))]
                    refine w_if_eq ok d7_159 (pc' := 165) (by decide) (fun hc180 => False.elim (by revert hc180; decide)) (fun hc180 => ?_)
                    refine w_iconst ok d7_162 (v := (3 : Int32)) rfl ?_
                    refine w_istore ok d7_163 (L' := #[.val (.ref p), .val (.ref n), .val (.int (4 : Int32)), .val (.int (Int32.ofNat ns.length)), .val (.int (0 : Int32)), .val (.int (3 : Int32)), .unset, .unset, .unset, .unset, .unset, .unset, .unset]) rfl ?_
                    refine w_iload ok d7_165 rfl ?_
                    refine w_istore ok d7_167 (L' := #[.val (.ref p), .val (.ref n), .val (.int (4 : Int32)), .val (.int (Int32.ofNat ns.length)), .val (.int (0 : Int32)), .val (.int (3 : Int32)), .val (.int (0 : Int32)), .unset, .unset, .unset, .unset, .unset, .unset]) rfl ?_
                    refine w_iloadN ok d7_169 rfl ?_
                    refine w_iconst ok d7_170 (v := (1 : Int32)) rfl ?_
                    refine w_isub ok d7_171 ?_
                    show W K l _ n0 _ h0 0 0 172 #[.val (.ref p), .val (.ref n), .val (.int (4 : Int32)), .val (.int (Int32.ofNat ns.length)), .val (.int (0 : Int32)), .val (.int (3 : Int32)), .val (.int (0 : Int32)), .unset, .unset, .unset, .unset, .unset, .unset] [(.int (3 : Int32))]
                    refine w_iload ok d7_172 rfl ?_
                    refine w_isub ok d7_174 ?_
                    show W K l _ n0 _ h0 0 0 175 #[.val (.ref p), .val (.ref n), .val (.int (4 : Int32)), .val (.int (Int32.ofNat ns.length)), .val (.int (0 : Int32)), .val (.int (3 : Int32)), .val (.int (0 : Int32)), .unset, .unset, .unset, .unset, .unset, .unset] [(.int (0 : Int32))]
                    refine w_istore ok d7_175 (L' := #[.val (.ref p), .val (.ref n), .val (.int (4 : Int32)), .val (.int (Int32.ofNat ns.length)), .val (.int (0 : Int32)), .val (.int (3 : Int32)), .val (.int (0 : Int32)), .val (.int (0 : Int32)), .unset, .unset, .unset, .unset, .unset]) rfl ?_
                    refine w_iloadN ok d7_177 rfl ?_
                    refine w_iload ok d7_178 rfl ?_
                    refine w_iload ok d7_180 rfl ?_
                    refine w_iadd ok d7_182 ?_
                    show W K l _ n0 _ h0 0 0 183 #[.val (.ref p), .val (.ref n), .val (.int (4 : Int32)), .val (.int (Int32.ofNat ns.length)), .val (.int (0 : Int32)), .val (.int (3 : Int32)), .val (.int (0 : Int32)), .val (.int (0 : Int32)), .unset, .unset, .unset, .unset, .unset] [(.int (0 : Int32)), (.int (Int32.ofNat ns.length))]
                    refine w_icmp_ge ok d7_183 (pc' := 188) (by decide) (fun hc182 => ?_) (fun hc182 => ?_)
                    · skip
                      have hge : 0 ≤ ns.length := by have q := hc182; rw [show (0 : Int32) = Int32.ofNat 0 from rfl, own_lt (by omega) (by omega)] at q; omega
                      refine w_aloadN ok d7_188 rfl rfl ?_
                      refine w_iconst ok d7_189 (v := (0 : Int32)) rfl ?_
                      refine w_iload ok d7_190 rfl ?_
                      refine w_aloadN ok d7_192 rfl rfl ?_
                      refine w_iconst ok d7_193 (v := (0 : Int32)) rfl ?_
                      refine w_callS ok (y := mn_9) (argsL := [(.ref p), (.int (0 : Int32)), (.int (0 : Int32)), (.ref n), (.int (0 : Int32))]) (rest := []) d7_194 (hw _ (List.mem_of_getElem? (i := 37) rfl)) (hw _ (List.mem_of_getElem? (i := 38) rfl)) (hw _ (List.mem_of_getElem? (i := 4) rfl)) (hw _ (List.mem_of_getElem? (i := 39) rfl)) (by decide) pd_285bBII5bBI29Z rfl rfl (by decide) (Nat.le_of_ble_eq_true rfl) (by decide) (by decide) (fun z0 => rm_seg l Z a0 hw [] n0 h0 z0 p n [x0, x1, x2, x3] ns A_p A_n 0 0 0 _ rfl (Nat.le_of_ble_eq_true rfl) (by decide) (by omega) (Nat.le_of_ble_eq_true rfl) ln) (fun v183 h184 qv183 => ?_)
                      obtain ⟨⟨rfl, sgp⟩ | ⟨rfl, sgp⟩, rfl⟩ := qv183
                      · skip
                        replace sgp : SGl [] ns 0 := sgp
                        show W K l _ n0 _ h0 0 0 197 #[.val (.ref p), .val (.ref n), .val (.int (4 : Int32)), .val (.int (Int32.ofNat ns.length)), .val (.int (0 : Int32)), .val (.int (3 : Int32)), .val (.int (0 : Int32)), .val (.int (0 : Int32)), .unset, .unset, .unset, .unset, .unset] [(.int (1 : Int32))]
                        refine w_if_ne ok d7_197 (pc' := 202) (by decide) (fun hc186 => ?_) (fun hc186 => False.elim (by revert hc186; decide))
                        refine w_aloadN ok d7_202 rfl rfl ?_
                        refine w_iload ok d7_203 rfl ?_
                        refine w_iconst ok d7_205 (v := (1 : Int32)) rfl ?_
                        refine w_iadd ok d7_206 ?_
                        show W K l _ n0 _ h0 0 0 207 #[.val (.ref p), .val (.ref n), .val (.int (4 : Int32)), .val (.int (Int32.ofNat ns.length)), .val (.int (0 : Int32)), .val (.int (3 : Int32)), .val (.int (0 : Int32)), .val (.int (0 : Int32)), .unset, .unset, .unset, .unset, .unset] [(.int (4 : Int32)), (.ref p)]
                        refine w_iload ok d7_207 rfl ?_
                        refine w_aloadN ok d7_209 rfl rfl ?_
                        refine w_iloadN ok d7_210 rfl ?_
                        refine w_iload ok d7_211 rfl ?_
                        refine w_isub ok d7_213 ?_
                        refine w_callS ok (y := mn_9) (argsL := [(.ref p), (.int (4 : Int32)), (.int (0 : Int32)), (.ref n), (.int ((Int32.ofNat ns.length) - (0 : Int32)))]) (rest := []) d7_214 (hw _ (List.mem_of_getElem? (i := 37) rfl)) (hw _ (List.mem_of_getElem? (i := 38) rfl)) (hw _ (List.mem_of_getElem? (i := 4) rfl)) (hw _ (List.mem_of_getElem? (i := 39) rfl)) (by decide) pd_285bBII5bBI29Z rfl rfl (by decide) (Nat.le_of_ble_eq_true rfl) (by decide) (by decide) (fun z0 => rm_seg l Z a0 hw [] n0 h0 z0 p n [x0, x1, x2, x3] ns A_p A_n 4 0 (ns.length - 0) _ (own_subk (k := 0) rfl (by omega) (by omega)) (Nat.le_of_ble_eq_true rfl) (by decide) (by omega) (Nat.le_of_ble_eq_true rfl) ln) (fun v187 h188 qv187 => ?_)
                        obtain ⟨⟨rfl, sgs⟩ | ⟨rfl, sgs⟩, rfl⟩ := qv187
                        · skip
                          replace sgs : SGl [] ns (ns.length - 0) := sgs
                          show W K l _ n0 _ h0 0 0 217 #[.val (.ref p), .val (.ref n), .val (.int (4 : Int32)), .val (.int (Int32.ofNat ns.length)), .val (.int (0 : Int32)), .val (.int (3 : Int32)), .val (.int (0 : Int32)), .val (.int (0 : Int32)), .unset, .unset, .unset, .unset, .unset] [(.int (1 : Int32))]
                          refine w_if_ne ok d7_217 (pc' := 222) (by decide) (fun hc190 => ?_) (fun hc190 => False.elim (by revert hc190; decide))
                          refine w_iload ok d7_222 rfl ?_
                          refine w_iload ok d7_224 rfl ?_
                          refine w_isub ok d7_226 ?_
                          show W K l _ n0 _ h0 0 0 227 #[.val (.ref p), .val (.ref n), .val (.int (4 : Int32)), .val (.int (Int32.ofNat ns.length)), .val (.int (0 : Int32)), .val (.int (3 : Int32)), .val (.int (0 : Int32)), .val (.int (0 : Int32)), .unset, .unset, .unset, .unset, .unset] [(.int (3 : Int32))]
                          refine w_iconst ok d7_227 (v := (1 : Int32)) rfl ?_
                          refine w_isub ok d7_228 ?_
                          show W K l _ n0 _ h0 0 0 229 #[.val (.ref p), .val (.ref n), .val (.int (4 : Int32)), .val (.int (Int32.ofNat ns.length)), .val (.int (0 : Int32)), .val (.int (3 : Int32)), .val (.int (0 : Int32)), .val (.int (0 : Int32)), .unset, .unset, .unset, .unset, .unset] [(.int (2 : Int32))]
                          refine w_istore ok d7_229 (L' := #[.val (.ref p), .val (.ref n), .val (.int (4 : Int32)), .val (.int (Int32.ofNat ns.length)), .val (.int (0 : Int32)), .val (.int (3 : Int32)), .val (.int (0 : Int32)), .val (.int (0 : Int32)), .val (.int (2 : Int32)), .unset, .unset, .unset, .unset]) rfl ?_
                          refine w_iload ok d7_231 rfl ?_
                          refine w_iconst ok d7_233 (v := (1 : Int32)) rfl ?_
                          refine w_iadd ok d7_234 ?_
                          show W K l _ n0 _ h0 0 0 235 #[.val (.ref p), .val (.ref n), .val (.int (4 : Int32)), .val (.int (Int32.ofNat ns.length)), .val (.int (0 : Int32)), .val (.int (3 : Int32)), .val (.int (0 : Int32)), .val (.int (0 : Int32)), .val (.int (2 : Int32)), .unset, .unset, .unset, .unset] [(.int (1 : Int32))]
                          refine w_istore ok d7_235 (L' := #[.val (.ref p), .val (.ref n), .val (.int (4 : Int32)), .val (.int (Int32.ofNat ns.length)), .val (.int (0 : Int32)), .val (.int (3 : Int32)), .val (.int (0 : Int32)), .val (.int (0 : Int32)), .val (.int (2 : Int32)), .val (.int (1 : Int32)), .unset, .unset, .unset]) rfl ?_
                          refine w_iconst ok d7_237 (v := (0 : Int32)) rfl ?_
                          refine w_istore ok d7_238 (L' := #[.val (.ref p), .val (.ref n), .val (.int (4 : Int32)), .val (.int (Int32.ofNat ns.length)), .val (.int (0 : Int32)), .val (.int (3 : Int32)), .val (.int (0 : Int32)), .val (.int (0 : Int32)), .val (.int (2 : Int32)), .val (.int (1 : Int32)), .val (.int (0 : Int32)), .unset, .unset]) rfl ?_
                          refine w_iload ok d7_240 rfl ?_
                          refine w_iconst ok d7_242 (v := (1 : Int32)) rfl ?_
                          refine w_icmp_ne ok d7_243 (pc' := 263) (by decide) (fun hc192 => ?_) (fun hc192 => False.elim (by revert hc192; decide))
                          refine w_iload ok d7_263 rfl ?_
                          refine w_iconst ok d7_265 (v := (2 : Int32)) rfl ?_
                          refine w_icmp_ne ok d7_266 (pc' := 340) (by decide) (fun hc194 => False.elim (by revert hc194; decide)) (fun hc194 => ?_)
                          refine w_aloadN ok d7_269 rfl rfl ?_
                          refine w_iload ok d7_270 rfl ?_
                          refine w_iconst ok d7_272 (v := (1 : Int32)) rfl ?_
                          refine w_iadd ok d7_273 ?_
                          show W K l _ n0 _ h0 0 0 274 #[.val (.ref p), .val (.ref n), .val (.int (4 : Int32)), .val (.int (Int32.ofNat ns.length)), .val (.int (0 : Int32)), .val (.int (3 : Int32)), .val (.int (0 : Int32)), .val (.int (0 : Int32)), .val (.int (2 : Int32)), .val (.int (1 : Int32)), .val (.int (0 : Int32)), .unset, .unset] [(.int (1 : Int32)), (.ref p)]
                          refine w_callS ok (y := mn_8) (argsL := [(.ref p), (.int (1 : Int32))]) (rest := []) d7_274 (hw _ (List.mem_of_getElem? (i := 34) rfl)) (hw _ (List.mem_of_getElem? (i := 35) rfl)) (hw _ (List.mem_of_getElem? (i := 4) rfl)) (hw _ (List.mem_of_getElem? (i := 36) rfl)) (by decide) pd_285bBI29Z rfl rfl (by decide) (Nat.le_of_ble_eq_true rfl) (by decide) (by decide) (fun z0 => rm_star l Z a0 hw [] n0 h0 z0 p [x0, x1, x2, x3] A_p 1 (Nat.le_of_ble_eq_true rfl) (Nat.le_of_ble_eq_true rfl)) (fun v195 h196 qv195 => ?_)
                          obtain ⟨⟨rfl, t197⟩ | ⟨rfl, t197⟩, rfl⟩ := qv195
                          · exact absurd t197 s1
                          · skip
                            replace t197 : ¬ (x1 = 42) := t197
                            show W K l _ n0 _ h0 0 0 277 #[.val (.ref p), .val (.ref n), .val (.int (4 : Int32)), .val (.int (Int32.ofNat ns.length)), .val (.int (0 : Int32)), .val (.int (3 : Int32)), .val (.int (0 : Int32)), .val (.int (0 : Int32)), .val (.int (2 : Int32)), .val (.int (1 : Int32)), .val (.int (0 : Int32)), .unset, .unset] [(.int (0 : Int32))]
                            refine w_istore ok d7_277 (L' := #[.val (.ref p), .val (.ref n), .val (.int (4 : Int32)), .val (.int (Int32.ofNat ns.length)), .val (.int (0 : Int32)), .val (.int (3 : Int32)), .val (.int (0 : Int32)), .val (.int (0 : Int32)), .val (.int (2 : Int32)), .val (.int (1 : Int32)), .val (.int (0 : Int32)), .val (.int (0 : Int32)), .unset]) rfl ?_
                            refine w_aloadN ok d7_279 rfl rfl ?_
                            refine w_iload ok d7_280 rfl ?_
                            refine w_iconst ok d7_282 (v := (2 : Int32)) rfl ?_
                            refine w_iadd ok d7_283 ?_
                            show W K l _ n0 _ h0 0 0 284 #[.val (.ref p), .val (.ref n), .val (.int (4 : Int32)), .val (.int (Int32.ofNat ns.length)), .val (.int (0 : Int32)), .val (.int (3 : Int32)), .val (.int (0 : Int32)), .val (.int (0 : Int32)), .val (.int (2 : Int32)), .val (.int (1 : Int32)), .val (.int (0 : Int32)), .val (.int (0 : Int32)), .unset] [(.int (2 : Int32)), (.ref p)]
                            refine w_callS ok (y := mn_8) (argsL := [(.ref p), (.int (2 : Int32))]) (rest := []) d7_284 (hw _ (List.mem_of_getElem? (i := 34) rfl)) (hw _ (List.mem_of_getElem? (i := 35) rfl)) (hw _ (List.mem_of_getElem? (i := 4) rfl)) (hw _ (List.mem_of_getElem? (i := 36) rfl)) (by decide) pd_285bBI29Z rfl rfl (by decide) (Nat.le_of_ble_eq_true rfl) (by decide) (by decide) (fun z0 => rm_star l Z a0 hw [] n0 h0 z0 p [x0, x1, x2, x3] A_p 2 (Nat.le_of_ble_eq_true rfl) (Nat.le_of_ble_eq_true rfl)) (fun v198 h199 qv198 => ?_)
                            obtain ⟨⟨rfl, t200⟩ | ⟨rfl, t200⟩, rfl⟩ := qv198
                            · skip
                              replace t200 : x2 = 42 := t200
                              show W K l _ n0 _ h0 0 0 287 #[.val (.ref p), .val (.ref n), .val (.int (4 : Int32)), .val (.int (Int32.ofNat ns.length)), .val (.int (0 : Int32)), .val (.int (3 : Int32)), .val (.int (0 : Int32)), .val (.int (0 : Int32)), .val (.int (2 : Int32)), .val (.int (1 : Int32)), .val (.int (0 : Int32)), .val (.int (0 : Int32)), .unset] [(.int (1 : Int32))]
                              refine w_istore ok d7_287 (L' := #[.val (.ref p), .val (.ref n), .val (.int (4 : Int32)), .val (.int (Int32.ofNat ns.length)), .val (.int (0 : Int32)), .val (.int (3 : Int32)), .val (.int (0 : Int32)), .val (.int (0 : Int32)), .val (.int (2 : Int32)), .val (.int (1 : Int32)), .val (.int (0 : Int32)), .val (.int (0 : Int32)), .val (.int (1 : Int32))]) rfl ?_
                              refine w_iload ok d7_289 rfl ?_
                              refine w_if_ne ok d7_291 (pc' := 305) (by decide) (fun hc202 => False.elim (by revert hc202; decide)) (fun hc202 => ?_)
                              refine w_iload ok d7_294 rfl ?_
                              refine w_if_ne ok d7_296 (pc' := 305) (by decide) (fun hc204 => ?_) (fun hc204 => False.elim (by revert hc204; decide))
                              refine w_iload ok d7_305 rfl ?_
                              refine w_if_eq ok d7_307 (pc' := 327) (by decide) (fun hc206 => ?_) (fun hc206 => False.elim (by revert hc206; decide))
                              refine w_iload ok d7_327 rfl ?_
                              refine w_if_ne ok d7_329 (pc' := 340) (by decide) (fun hc208 => False.elim (by revert hc208; decide)) (fun hc208 => ?_)
                              refine w_iload ok d7_332 rfl ?_
                              refine w_if_eq ok d7_334 (pc' := 340) (by decide) (fun hc210 => False.elim (by revert hc210; decide)) (fun hc210 => ?_)
                              refine w_iconst ok d7_337 (v := (1 : Int32)) rfl ?_
                              refine w_istore ok d7_338 (L' := #[.val (.ref p), .val (.ref n), .val (.int (4 : Int32)), .val (.int (Int32.ofNat ns.length)), .val (.int (0 : Int32)), .val (.int (3 : Int32)), .val (.int (0 : Int32)), .val (.int (0 : Int32)), .val (.int (2 : Int32)), .val (.int (1 : Int32)), .val (.int (1 : Int32)), .val (.int (0 : Int32)), .val (.int (1 : Int32))]) rfl ?_
                              refine w_iload ok d7_340 rfl ?_
                              refine w_if_ne ok d7_342 (pc' := 347) (by decide) (fun hc212 => ?_) (fun hc212 => False.elim (by revert hc212; decide))
                              refine w_aloadN ok d7_347 rfl rfl ?_
                              refine w_iload ok d7_348 rfl ?_
                              refine w_iload ok d7_350 rfl ?_
                              refine w_aloadN ok d7_352 rfl rfl ?_
                              refine w_iload ok d7_353 rfl ?_
                              refine w_iloadN ok d7_355 rfl ?_
                              refine w_iload ok d7_356 rfl ?_
                              refine w_isub ok d7_358 ?_
                              refine w_callS ok (y := mn_11) (argsL := [(.ref p), (.int (1 : Int32)), (.int (1 : Int32)), (.ref n), (.int (0 : Int32)), (.int ((Int32.ofNat ns.length) - (0 : Int32)))]) (rest := []) d7_359 (hw _ (List.mem_of_getElem? (i := 43) rfl)) (hw _ (List.mem_of_getElem? (i := 44) rfl)) (hw _ (List.mem_of_getElem? (i := 4) rfl)) (hw _ (List.mem_of_getElem? (i := 45) rfl)) (by decide) pd_285bBII5bBII29Z rfl rfl (by decide) (Nat.le_of_ble_eq_true rfl) (by decide) (by decide) (fun z0 => rm_found l Z a0 hw [] n0 h0 z0 p n [x0, x1, x2, x3] ns A_p A_n 1 1 0 (ns.length - 0) _ (own_subk (k := 0) rfl (by omega) (by omega)) (Nat.le_of_ble_eq_true rfl) (by decide) (Nat.le_of_ble_eq_true rfl) ln (by decide) (by omega)) (fun v213 h214 qv213 => ?_)
                              obtain ⟨⟨rfl, fo⟩ | ⟨rfl, fo⟩, rfl⟩ := qv213
                              · skip
                                replace fo : ∃ i, 0 ≤ i ∧ i + 1 ≤ ns.length - 0 ∧ SGl [x1] ns i := fo
                                show W K l _ n0 _ h0 0 0 362 #[.val (.ref p), .val (.ref n), .val (.int (4 : Int32)), .val (.int (Int32.ofNat ns.length)), .val (.int (0 : Int32)), .val (.int (3 : Int32)), .val (.int (0 : Int32)), .val (.int (0 : Int32)), .val (.int (2 : Int32)), .val (.int (1 : Int32)), .val (.int (1 : Int32)), .val (.int (0 : Int32)), .val (.int (1 : Int32))] [(.int (1 : Int32))]
                                refine w_bret ok (by simp) d7_362 (by decide) (by decide) ?_
                                subst s0 s2 s3
                                have key : Gi ns [42, x1, 42, 42] 0 ↔ _ := Iff.trans (Gi_congr (fun i => Gi_cc (ns := ns) (Q := []) (i := i)) [42, x1] 0) (own_two (ns := ns) (P := []) (R := [x1]) (Q := []) NoS_nil (NoS_cons s1 NoS_nil) NoS_nil)
                                exact ⟨Or.inl ⟨rfl, key.mpr ⟨hge, sgp, sgs, fo⟩⟩, rfl⟩
                              · skip
                                replace fo : ¬ (∃ i, 0 ≤ i ∧ i + 1 ≤ ns.length - 0 ∧ SGl [x1] ns i) := fo
                                show W K l _ n0 _ h0 0 0 362 #[.val (.ref p), .val (.ref n), .val (.int (4 : Int32)), .val (.int (Int32.ofNat ns.length)), .val (.int (0 : Int32)), .val (.int (3 : Int32)), .val (.int (0 : Int32)), .val (.int (0 : Int32)), .val (.int (2 : Int32)), .val (.int (1 : Int32)), .val (.int (1 : Int32)), .val (.int (0 : Int32)), .val (.int (1 : Int32))] [(.int (0 : Int32))]
                                refine w_bret ok (by simp) d7_362 (by decide) (by decide) ?_
                                subst s0 s2 s3
                                have key : Gi ns [42, x1, 42, 42] 0 ↔ _ := Iff.trans (Gi_congr (fun i => Gi_cc (ns := ns) (Q := []) (i := i)) [42, x1] 0) (own_two (ns := ns) (P := []) (R := [x1]) (Q := []) NoS_nil (NoS_cons s1 NoS_nil) NoS_nil)
                                exact ⟨Or.inr ⟨rfl, fun q => fo (key.mp q).2.2.2⟩, rfl⟩
                            · exact absurd s2 t200
                        · skip
                          replace sgs : ¬ (SGl [] ns (ns.length - 0)) := sgs
                          show W K l _ n0 _ h0 0 0 217 #[.val (.ref p), .val (.ref n), .val (.int (4 : Int32)), .val (.int (Int32.ofNat ns.length)), .val (.int (0 : Int32)), .val (.int (3 : Int32)), .val (.int (0 : Int32)), .val (.int (0 : Int32)), .unset, .unset, .unset, .unset, .unset] [(.int (0 : Int32))]
                          refine w_if_ne ok d7_217 (pc' := 222) (by decide) (fun hc216 => False.elim (by revert hc216; decide)) (fun hc216 => ?_)
                          refine w_iconst ok d7_220 (v := (0 : Int32)) rfl ?_
                          refine w_bret ok (by simp) d7_221 (by decide) (by decide) ?_
                          subst s0 s2 s3
                          have key : Gi ns [42, x1, 42, 42] 0 ↔ _ := Iff.trans (Gi_congr (fun i => Gi_cc (ns := ns) (Q := []) (i := i)) [42, x1] 0) (own_two (ns := ns) (P := []) (R := [x1]) (Q := []) NoS_nil (NoS_cons s1 NoS_nil) NoS_nil)
                          exact ⟨Or.inr ⟨rfl, fun q => sgs (key.mp q).2.2.1⟩, rfl⟩
                      · skip
                        replace sgp : ¬ (SGl [] ns 0) := sgp
                        show W K l _ n0 _ h0 0 0 197 #[.val (.ref p), .val (.ref n), .val (.int (4 : Int32)), .val (.int (Int32.ofNat ns.length)), .val (.int (0 : Int32)), .val (.int (3 : Int32)), .val (.int (0 : Int32)), .val (.int (0 : Int32)), .unset, .unset, .unset, .unset, .unset] [(.int (0 : Int32))]
                        refine w_if_ne ok d7_197 (pc' := 202) (by decide) (fun hc218 => False.elim (by revert hc218; decide)) (fun hc218 => ?_)
                        refine w_iconst ok d7_200 (v := (0 : Int32)) rfl ?_
                        refine w_bret ok (by simp) d7_201 (by decide) (by decide) ?_
                        subst s0 s2 s3
                        have key : Gi ns [42, x1, 42, 42] 0 ↔ _ := Iff.trans (Gi_congr (fun i => Gi_cc (ns := ns) (Q := []) (i := i)) [42, x1] 0) (own_two (ns := ns) (P := []) (R := [x1]) (Q := []) NoS_nil (NoS_cons s1 NoS_nil) NoS_nil)
                        exact ⟨Or.inr ⟨rfl, fun q => sgp (key.mp q).2.1⟩, rfl⟩
                    · skip
                      refine w_iconst ok d7_186 (v := (0 : Int32)) rfl ?_
                      refine w_bret ok (by simp) d7_187 (by decide) (by decide) ?_
                      subst s0 s2 s3
                      have key : Gi ns [42, x1, 42, 42] 0 ↔ _ := Iff.trans (Gi_congr (fun i => Gi_cc (ns := ns) (Q := []) (i := i)) [42, x1] 0) (own_two (ns := ns) (P := []) (R := [x1]) (Q := []) NoS_nil (NoS_cons s1 NoS_nil) NoS_nil)
                      refine ⟨Or.inr ⟨rfl, fun q => ?_⟩, rfl⟩
                      have q1 : 0 + 0 ≤ ns.length := (key.mp q).1
                      have q2 := hc182; rw [show (0 : Int32) = Int32.ofNat 0 from rfl, own_lt (by omega) (by omega)] at q2; omega
                  · exact absurd s3 t178
                · exact absurd s2 t171
            · exact absurd s0 t157
          · skip
            replace s0 : ¬ (x0 = 42) := s0
            show W K l _ n0 _ h0 0 0 66 #[.val (.ref p), .val (.ref n), .val (.int (4 : Int32)), .val (.int (Int32.ofNat ns.length)), .val (.int (2 : Int32)), .unset, .unset, .unset, .unset, .unset, .unset, .unset, .unset] [(.int (0 : Int32))]
            refine w_if_eq ok d7_66 (pc' := 72) (by decide) (fun hc220 => ?_) (fun hc220 => False.elim (by revert hc220; decide))
            refine w_iload ok d7_72 rfl ?_
            refine w_if_ge ok d7_74 (pc' := 99) (by decide) (fun hc222 => ?_) (fun hc222 => False.elim (by revert hc222; decide))
            refine w_iconst ok d7_99 (v := (-1 : Int32)) rfl ?_
            refine w_istore ok d7_100 (L' := #[.val (.ref p), .val (.ref n), .val (.int (4 : Int32)), .val (.int (Int32.ofNat ns.length)), .val (.int (2 : Int32)), .val (.int (-1 : Int32)), .unset, .unset, .unset, .unset, .unset, .unset, .unset]) rfl ?_
            refine w_iloadN ok d7_102 rfl ?_
            refine w_if_le ok d7_103 (pc' := 117) (by decide) (fun hc224 => False.elim (by revert hc224; decide)) (fun hc224 => ?_)
            refine w_aloadN ok d7_106 rfl rfl ?_
            refine w_iconst ok d7_107 (v := (0 : Int32)) rfl ?_
            refine w_callS ok (y := mn_8) (argsL := [(.ref p), (.int (0 : Int32))]) (rest := []) d7_108 (hw _ (List.mem_of_getElem? (i := 34) rfl)) (hw _ (List.mem_of_getElem? (i := 35) rfl)) (hw _ (List.mem_of_getElem? (i := 4) rfl)) (hw _ (List.mem_of_getElem? (i := 36) rfl)) (by decide) pd_285bBI29Z rfl rfl (by decide) (Nat.le_of_ble_eq_true rfl) (by decide) (by decide) (fun z0 => rm_star l Z a0 hw [] n0 h0 z0 p [x0, x1, x2, x3] A_p 0 (Nat.le_of_ble_eq_true rfl) (Nat.le_of_ble_eq_true rfl)) (fun v225 h226 qv225 => ?_)
            obtain ⟨⟨rfl, t227⟩ | ⟨rfl, t227⟩, rfl⟩ := qv225
            · exact absurd t227 s0
            · skip
              replace t227 : ¬ (x0 = 42) := t227
              show W K l _ n0 _ h0 0 0 111 #[.val (.ref p), .val (.ref n), .val (.int (4 : Int32)), .val (.int (Int32.ofNat ns.length)), .val (.int (2 : Int32)), .val (.int (-1 : Int32)), .unset, .unset, .unset, .unset, .unset, .unset, .unset] [(.int (0 : Int32))]
              refine w_if_eq ok d7_111 (pc' := 117) (by decide) (fun hc229 => ?_) (fun hc229 => False.elim (by revert hc229; decide))
              refine w_iloadN ok d7_117 rfl ?_
              refine w_iconst ok d7_118 (v := (1 : Int32)) rfl ?_
              refine w_icmp_le ok d7_119 (pc' := 133) (by decide) (fun hc231 => False.elim (by revert hc231; decide)) (fun hc231 => ?_)
              refine w_aloadN ok d7_122 rfl rfl ?_
              refine w_iconst ok d7_123 (v := (1 : Int32)) rfl ?_
              refine w_callS ok (y := mn_8) (argsL := [(.ref p), (.int (1 : Int32))]) (rest := []) d7_124 (hw _ (List.mem_of_getElem? (i := 34) rfl)) (hw _ (List.mem_of_getElem? (i := 35) rfl)) (hw _ (List.mem_of_getElem? (i := 4) rfl)) (hw _ (List.mem_of_getElem? (i := 36) rfl)) (by decide) pd_285bBI29Z rfl rfl (by decide) (Nat.le_of_ble_eq_true rfl) (by decide) (by decide) (fun z0 => rm_star l Z a0 hw [] n0 h0 z0 p [x0, x1, x2, x3] A_p 1 (Nat.le_of_ble_eq_true rfl) (Nat.le_of_ble_eq_true rfl)) (fun v232 h233 qv232 => ?_)
              obtain ⟨⟨rfl, t234⟩ | ⟨rfl, t234⟩, rfl⟩ := qv232
              · exact absurd t234 s1
              · skip
                replace t234 : ¬ (x1 = 42) := t234
                show W K l _ n0 _ h0 0 0 127 #[.val (.ref p), .val (.ref n), .val (.int (4 : Int32)), .val (.int (Int32.ofNat ns.length)), .val (.int (2 : Int32)), .val (.int (-1 : Int32)), .unset, .unset, .unset, .unset, .unset, .unset, .unset] [(.int (0 : Int32))]
                refine w_if_eq ok d7_127 (pc' := 133) (by decide) (fun hc236 => ?_) (fun hc236 => False.elim (by revert hc236; decide))
                refine w_iloadN ok d7_133 rfl ?_
                refine w_iconst ok d7_134 (v := (2 : Int32)) rfl ?_
                refine w_icmp_le ok d7_135 (pc' := 149) (by decide) (fun hc238 => False.elim (by revert hc238; decide)) (fun hc238 => ?_)
                refine w_aloadN ok d7_138 rfl rfl ?_
                refine w_iconst ok d7_139 (v := (2 : Int32)) rfl ?_
                refine w_callS ok (y := mn_8) (argsL := [(.ref p), (.int (2 : Int32))]) (rest := []) d7_140 (hw _ (List.mem_of_getElem? (i := 34) rfl)) (hw _ (List.mem_of_getElem? (i := 35) rfl)) (hw _ (List.mem_of_getElem? (i := 4) rfl)) (hw _ (List.mem_of_getElem? (i := 36) rfl)) (by decide) pd_285bBI29Z rfl rfl (by decide) (Nat.le_of_ble_eq_true rfl) (by decide) (by decide) (fun z0 => rm_star l Z a0 hw [] n0 h0 z0 p [x0, x1, x2, x3] A_p 2 (Nat.le_of_ble_eq_true rfl) (Nat.le_of_ble_eq_true rfl)) (fun v239 h240 qv239 => ?_)
                obtain ⟨⟨rfl, t241⟩ | ⟨rfl, t241⟩, rfl⟩ := qv239
                · skip
                  replace t241 : x2 = 42 := t241
                  show W K l _ n0 _ h0 0 0 143 #[.val (.ref p), .val (.ref n), .val (.int (4 : Int32)), .val (.int (Int32.ofNat ns.length)), .val (.int (2 : Int32)), .val (.int (-1 : Int32)), .unset, .unset, .unset, .unset, .unset, .unset, .unset] [(.int (1 : Int32))]
                  refine w_if_eq ok d7_143 (pc' := 149) (by decide) (fun hc243 => False.elim (by revert hc243; decide)) (fun hc243 => ?_)
                  refine w_iconst ok d7_146 (v := (2 : Int32)) rfl ?_
                  refine w_istore ok d7_147 (L' := #[.val (.ref p), .val (.ref n), .val (.int (4 : Int32)), .val (.int (Int32.ofNat ns.length)), .val (.int (2 : Int32)), .val (.int (2 : Int32)), .unset, .unset, .unset, .unset, .unset, .unset, .unset]) rfl ?_
                  refine w_iloadN ok d7_149 rfl ?_
                  refine w_iconst ok d7_150 (v := (3 : Int32)) rfl ?_
                  refine w_icmp_le ok d7_151 (pc' := 165) (by decide) (fun hc245 => False.elim (by revert hc245; decide)) (fun hc245 => ?_)
                  refine w_aloadN ok d7_154 rfl rfl ?_
                  refine w_iconst ok d7_155 (v := (3 : Int32)) rfl ?_
                  refine w_callS ok (y := mn_8) (argsL := [(.ref p), (.int (3 : Int32))]) (rest := []) d7_156 (hw _ (List.mem_of_getElem? (i := 34) rfl)) (hw _ (List.mem_of_getElem? (i := 35) rfl)) (hw _ (List.mem_of_getElem? (i := 4) rfl)) (hw _ (List.mem_of_getElem? (i := 36) rfl)) (by decide) pd_285bBI29Z rfl rfl (by decide) (Nat.le_of_ble_eq_true rfl) (by decide) (by decide) (fun z0 => rm_star l Z a0 hw [] n0 h0 z0 p [x0, x1, x2, x3] A_p 3 (Nat.le_of_ble_eq_true rfl) (Nat.le_of_ble_eq_true rfl)) (fun v246 h247 qv246 => ?_)
                  obtain ⟨⟨rfl, t248⟩ | ⟨rfl, t248⟩, rfl⟩ := qv246
                  · skip
                    replace t248 : x3 = 42 := t248
                    show W K l _ n0 _ h0 0 0 159 #[.val (.ref p), .val (.ref n), .val (.int (4 : Int32)), .val (.int (Int32.ofNat ns.length)), .val (.int (2 : Int32)), .val (.int (2 : Int32)), .unset, .unset, .unset, .unset, .unset, .unset, .unset] [(.int (1 : Int32))]
                    refine w_if_eq ok d7_159 (pc' := 165) (by decide) (fun hc250 => False.elim (by revert hc250; decide)) (fun hc250 => ?_)
                    refine w_iconst ok d7_162 (v := (3 : Int32)) rfl ?_
                    refine w_istore ok d7_163 (L' := #[.val (.ref p), .val (.ref n), .val (.int (4 : Int32)), .val (.int (Int32.ofNat ns.length)), .val (.int (2 : Int32)), .val (.int (3 : Int32)), .unset, .unset, .unset, .unset, .unset, .unset, .unset]) rfl ?_
                    refine w_iload ok d7_165 rfl ?_
                    refine w_istore ok d7_167 (L' := #[.val (.ref p), .val (.ref n), .val (.int (4 : Int32)), .val (.int (Int32.ofNat ns.length)), .val (.int (2 : Int32)), .val (.int (3 : Int32)), .val (.int (2 : Int32)), .unset, .unset, .unset, .unset, .unset, .unset]) rfl ?_
                    refine w_iloadN ok d7_169 rfl ?_
                    refine w_iconst ok d7_170 (v := (1 : Int32)) rfl ?_
                    refine w_isub ok d7_171 ?_
                    show W K l _ n0 _ h0 0 0 172 #[.val (.ref p), .val (.ref n), .val (.int (4 : Int32)), .val (.int (Int32.ofNat ns.length)), .val (.int (2 : Int32)), .val (.int (3 : Int32)), .val (.int (2 : Int32)), .unset, .unset, .unset, .unset, .unset, .unset] [(.int (3 : Int32))]
                    refine w_iload ok d7_172 rfl ?_
                    refine w_isub ok d7_174 ?_
                    show W K l _ n0 _ h0 0 0 175 #[.val (.ref p), .val (.ref n), .val (.int (4 : Int32)), .val (.int (Int32.ofNat ns.length)), .val (.int (2 : Int32)), .val (.int (3 : Int32)), .val (.int (2 : Int32)), .unset, .unset, .unset, .unset, .unset, .unset] [(.int (0 : Int32))]
                    refine w_istore ok d7_175 (L' := #[.val (.ref p), .val (.ref n), .val (.int (4 : Int32)), .val (.int (Int32.ofNat ns.length)), .val (.int (2 : Int32)), .val (.int (3 : Int32)), .val (.int (2 : Int32)), .val (.int (0 : Int32)), .unset, .unset, .unset, .unset, .unset]) rfl ?_
                    refine w_iloadN ok d7_177 rfl ?_
                    refine w_iload ok d7_178 rfl ?_
                    refine w_iload ok d7_180 rfl ?_
                    refine w_iadd ok d7_182 ?_
                    show W K l _ n0 _ h0 0 0 183 #[.val (.ref p), .val (.ref n), .val (.int (4 : Int32)), .val (.int (Int32.ofNat ns.length)), .val (.int (2 : Int32)), .val (.int (3 : Int32)), .val (.int (2 : Int32)), .val (.int (0 : Int32)), .unset, .unset, .unset, .unset, .unset] [(.int (2 : Int32)), (.int (Int32.ofNat ns.length))]
                    refine w_icmp_ge ok d7_183 (pc' := 188) (by decide) (fun hc252 => ?_) (fun hc252 => ?_)
                    · skip
                      have hge : 2 ≤ ns.length := by have q := hc252; rw [show (2 : Int32) = Int32.ofNat 2 from rfl, own_lt (by omega) (by omega)] at q; omega
                      refine w_aloadN ok d7_188 rfl rfl ?_
                      refine w_iconst ok d7_189 (v := (0 : Int32)) rfl ?_
                      refine w_iload ok d7_190 rfl ?_
                      refine w_aloadN ok d7_192 rfl rfl ?_
                      refine w_iconst ok d7_193 (v := (0 : Int32)) rfl ?_
                      refine w_callS ok (y := mn_9) (argsL := [(.ref p), (.int (0 : Int32)), (.int (2 : Int32)), (.ref n), (.int (0 : Int32))]) (rest := []) d7_194 (hw _ (List.mem_of_getElem? (i := 37) rfl)) (hw _ (List.mem_of_getElem? (i := 38) rfl)) (hw _ (List.mem_of_getElem? (i := 4) rfl)) (hw _ (List.mem_of_getElem? (i := 39) rfl)) (by decide) pd_285bBII5bBI29Z rfl rfl (by decide) (Nat.le_of_ble_eq_true rfl) (by decide) (by decide) (fun z0 => rm_seg l Z a0 hw [] n0 h0 z0 p n [x0, x1, x2, x3] ns A_p A_n 0 2 0 _ rfl (Nat.le_of_ble_eq_true rfl) (by decide) (by omega) (Nat.le_of_ble_eq_true rfl) ln) (fun v253 h254 qv253 => ?_)
                      obtain ⟨⟨rfl, sgp⟩ | ⟨rfl, sgp⟩, rfl⟩ := qv253
                      · skip
                        replace sgp : SGl [x0, x1] ns 0 := sgp
                        show W K l _ n0 _ h0 0 0 197 #[.val (.ref p), .val (.ref n), .val (.int (4 : Int32)), .val (.int (Int32.ofNat ns.length)), .val (.int (2 : Int32)), .val (.int (3 : Int32)), .val (.int (2 : Int32)), .val (.int (0 : Int32)), .unset, .unset, .unset, .unset, .unset] [(.int (1 : Int32))]
                        refine w_if_ne ok d7_197 (pc' := 202) (by decide) (fun hc256 => ?_) (fun hc256 => False.elim (by revert hc256; decide))
                        refine w_aloadN ok d7_202 rfl rfl ?_
                        refine w_iload ok d7_203 rfl ?_
                        refine w_iconst ok d7_205 (v := (1 : Int32)) rfl ?_
                        refine w_iadd ok d7_206 ?_
                        show W K l _ n0 _ h0 0 0 207 #[.val (.ref p), .val (.ref n), .val (.int (4 : Int32)), .val (.int (Int32.ofNat ns.length)), .val (.int (2 : Int32)), .val (.int (3 : Int32)), .val (.int (2 : Int32)), .val (.int (0 : Int32)), .unset, .unset, .unset, .unset, .unset] [(.int (4 : Int32)), (.ref p)]
                        refine w_iload ok d7_207 rfl ?_
                        refine w_aloadN ok d7_209 rfl rfl ?_
                        refine w_iloadN ok d7_210 rfl ?_
                        refine w_iload ok d7_211 rfl ?_
                        refine w_isub ok d7_213 ?_
                        refine w_callS ok (y := mn_9) (argsL := [(.ref p), (.int (4 : Int32)), (.int (0 : Int32)), (.ref n), (.int ((Int32.ofNat ns.length) - (0 : Int32)))]) (rest := []) d7_214 (hw _ (List.mem_of_getElem? (i := 37) rfl)) (hw _ (List.mem_of_getElem? (i := 38) rfl)) (hw _ (List.mem_of_getElem? (i := 4) rfl)) (hw _ (List.mem_of_getElem? (i := 39) rfl)) (by decide) pd_285bBII5bBI29Z rfl rfl (by decide) (Nat.le_of_ble_eq_true rfl) (by decide) (by decide) (fun z0 => rm_seg l Z a0 hw [] n0 h0 z0 p n [x0, x1, x2, x3] ns A_p A_n 4 0 (ns.length - 0) _ (own_subk (k := 0) rfl (by omega) (by omega)) (Nat.le_of_ble_eq_true rfl) (by decide) (by omega) (Nat.le_of_ble_eq_true rfl) ln) (fun v257 h258 qv257 => ?_)
                        obtain ⟨⟨rfl, sgs⟩ | ⟨rfl, sgs⟩, rfl⟩ := qv257
                        · skip
                          replace sgs : SGl [] ns (ns.length - 0) := sgs
                          show W K l _ n0 _ h0 0 0 217 #[.val (.ref p), .val (.ref n), .val (.int (4 : Int32)), .val (.int (Int32.ofNat ns.length)), .val (.int (2 : Int32)), .val (.int (3 : Int32)), .val (.int (2 : Int32)), .val (.int (0 : Int32)), .unset, .unset, .unset, .unset, .unset] [(.int (1 : Int32))]
                          refine w_if_ne ok d7_217 (pc' := 222) (by decide) (fun hc260 => ?_) (fun hc260 => False.elim (by revert hc260; decide))
                          refine w_iload ok d7_222 rfl ?_
                          refine w_iload ok d7_224 rfl ?_
                          refine w_isub ok d7_226 ?_
                          show W K l _ n0 _ h0 0 0 227 #[.val (.ref p), .val (.ref n), .val (.int (4 : Int32)), .val (.int (Int32.ofNat ns.length)), .val (.int (2 : Int32)), .val (.int (3 : Int32)), .val (.int (2 : Int32)), .val (.int (0 : Int32)), .unset, .unset, .unset, .unset, .unset] [(.int (1 : Int32))]
                          refine w_iconst ok d7_227 (v := (1 : Int32)) rfl ?_
                          refine w_isub ok d7_228 ?_
                          show W K l _ n0 _ h0 0 0 229 #[.val (.ref p), .val (.ref n), .val (.int (4 : Int32)), .val (.int (Int32.ofNat ns.length)), .val (.int (2 : Int32)), .val (.int (3 : Int32)), .val (.int (2 : Int32)), .val (.int (0 : Int32)), .unset, .unset, .unset, .unset, .unset] [(.int (0 : Int32))]
                          refine w_istore ok d7_229 (L' := #[.val (.ref p), .val (.ref n), .val (.int (4 : Int32)), .val (.int (Int32.ofNat ns.length)), .val (.int (2 : Int32)), .val (.int (3 : Int32)), .val (.int (2 : Int32)), .val (.int (0 : Int32)), .val (.int (0 : Int32)), .unset, .unset, .unset, .unset]) rfl ?_
                          refine w_iload ok d7_231 rfl ?_
                          refine w_iconst ok d7_233 (v := (1 : Int32)) rfl ?_
                          refine w_iadd ok d7_234 ?_
                          show W K l _ n0 _ h0 0 0 235 #[.val (.ref p), .val (.ref n), .val (.int (4 : Int32)), .val (.int (Int32.ofNat ns.length)), .val (.int (2 : Int32)), .val (.int (3 : Int32)), .val (.int (2 : Int32)), .val (.int (0 : Int32)), .val (.int (0 : Int32)), .unset, .unset, .unset, .unset] [(.int (3 : Int32))]
                          refine w_istore ok d7_235 (L' := #[.val (.ref p), .val (.ref n), .val (.int (4 : Int32)), .val (.int (Int32.ofNat ns.length)), .val (.int (2 : Int32)), .val (.int (3 : Int32)), .val (.int (2 : Int32)), .val (.int (0 : Int32)), .val (.int (0 : Int32)), .val (.int (3 : Int32)), .unset, .unset, .unset]) rfl ?_
                          refine w_iconst ok d7_237 (v := (0 : Int32)) rfl ?_
                          refine w_istore ok d7_238 (L' := #[.val (.ref p), .val (.ref n), .val (.int (4 : Int32)), .val (.int (Int32.ofNat ns.length)), .val (.int (2 : Int32)), .val (.int (3 : Int32)), .val (.int (2 : Int32)), .val (.int (0 : Int32)), .val (.int (0 : Int32)), .val (.int (3 : Int32)), .val (.int (0 : Int32)), .unset, .unset]) rfl ?_
                          refine w_iload ok d7_240 rfl ?_
                          refine w_iconst ok d7_242 (v := (1 : Int32)) rfl ?_
                          refine w_icmp_ne ok d7_243 (pc' := 263) (by decide) (fun hc262 => ?_) (fun hc262 => False.elim (by revert hc262; decide))
                          refine w_iload ok d7_263 rfl ?_
                          refine w_iconst ok d7_265 (v := (2 : Int32)) rfl ?_
                          refine w_icmp_ne ok d7_266 (pc' := 340) (by decide) (fun hc264 => ?_) (fun hc264 => False.elim (by revert hc264; decide))
                          refine w_iload ok d7_340 rfl ?_
                          refine w_if_ne ok d7_342 (pc' := 347) (by decide) (fun hc266 => False.elim (by revert hc266; decide)) (fun hc266 => ?_)
                          refine w_iconst ok d7_345 (v := (1 : Int32)) rfl ?_
                          refine w_bret ok (by simp) d7_346 (by decide) (by decide) ?_
                          subst s2 s3
                          have key : Gi ns [x0, x1, 42, 42] 0 ↔ _ := (own_two (ns := ns) (P := [x0, x1]) (R := []) (Q := []) (NoS_cons s0 (NoS_cons s1 NoS_nil)) NoS_nil NoS_nil)
                          exact ⟨Or.inl ⟨rfl, key.mpr ⟨hge, sgp, sgs, 2, Nat.le_refl _, (show 2 + 0 ≤ ns.length - 0 by omega), SGl_nil.mpr (by omega)⟩⟩, rfl⟩
                        · skip
                          replace sgs : ¬ (SGl [] ns (ns.length - 0)) := sgs
                          show W K l _ n0 _ h0 0 0 217 #[.val (.ref p), .val (.ref n), .val (.int (4 : Int32)), .val (.int (Int32.ofNat ns.length)), .val (.int (2 : Int32)), .val (.int (3 : Int32)), .val (.int (2 : Int32)), .val (.int (0 : Int32)), .unset, .unset, .unset, .unset, .unset] [(.int (0 : Int32))]
                          refine w_if_ne ok d7_217 (pc' := 222) (by decide) (fun hc268 => False.elim (by revert hc268; decide)) (fun hc268 => ?_)
                          refine w_iconst ok d7_220 (v := (0 : Int32)) rfl ?_
                          refine w_bret ok (by simp) d7_221 (by decide) (by decide) ?_
                          subst s2 s3
                          have key : Gi ns [x0, x1, 42, 42] 0 ↔ _ := (own_two (ns := ns) (P := [x0, x1]) (R := []) (Q := []) (NoS_cons s0 (NoS_cons s1 NoS_nil)) NoS_nil NoS_nil)
                          exact ⟨Or.inr ⟨rfl, fun q => sgs (key.mp q).2.2.1⟩, rfl⟩
                      · skip
                        replace sgp : ¬ (SGl [x0, x1] ns 0) := sgp
                        show W K l _ n0 _ h0 0 0 197 #[.val (.ref p), .val (.ref n), .val (.int (4 : Int32)), .val (.int (Int32.ofNat ns.length)), .val (.int (2 : Int32)), .val (.int (3 : Int32)), .val (.int (2 : Int32)), .val (.int (0 : Int32)), .unset, .unset, .unset, .unset, .unset] [(.int (0 : Int32))]
                        refine w_if_ne ok d7_197 (pc' := 202) (by decide) (fun hc270 => False.elim (by revert hc270; decide)) (fun hc270 => ?_)
                        refine w_iconst ok d7_200 (v := (0 : Int32)) rfl ?_
                        refine w_bret ok (by simp) d7_201 (by decide) (by decide) ?_
                        subst s2 s3
                        have key : Gi ns [x0, x1, 42, 42] 0 ↔ _ := (own_two (ns := ns) (P := [x0, x1]) (R := []) (Q := []) (NoS_cons s0 (NoS_cons s1 NoS_nil)) NoS_nil NoS_nil)
                        exact ⟨Or.inr ⟨rfl, fun q => sgp (key.mp q).2.1⟩, rfl⟩
                    · skip
                      refine w_iconst ok d7_186 (v := (0 : Int32)) rfl ?_
                      refine w_bret ok (by simp) d7_187 (by decide) (by decide) ?_
                      subst s2 s3
                      have key : Gi ns [x0, x1, 42, 42] 0 ↔ _ := (own_two (ns := ns) (P := [x0, x1]) (R := []) (Q := []) (NoS_cons s0 (NoS_cons s1 NoS_nil)) NoS_nil NoS_nil)
                      refine ⟨Or.inr ⟨rfl, fun q => ?_⟩, rfl⟩
                      have q1 : 2 + 0 ≤ ns.length := (key.mp q).1
                      have q2 := hc252; rw [show (2 : Int32) = Int32.ofNat 2 from rfl, own_lt (by omega) (by omega)] at q2; omega
                  · exact absurd s3 t248
                · exact absurd s2 t241
      · skip
        replace s2 : ¬ (x2 = 42) := s2
        show W K l _ n0 _ h0 0 0 35 #[.val (.ref p), .val (.ref n), .val (.int (4 : Int32)), .val (.int (Int32.ofNat ns.length)), .val (.int (3 : Int32)), .unset, .unset, .unset, .unset, .unset, .unset, .unset, .unset] [(.int (0 : Int32))]
        refine w_if_eq ok d7_35 (pc' := 41) (by decide) (fun hc272 => ?_) (fun hc272 => False.elim (by revert hc272; decide))
        refine w_iloadN ok d7_41 rfl ?_
        refine w_iconst ok d7_42 (v := (1 : Int32)) rfl ?_
        refine w_icmp_le ok d7_43 (pc' := 57) (by decide) (fun hc274 => False.elim (by revert hc274; decide)) (fun hc274 => ?_)
        refine w_aloadN ok d7_46 rfl rfl ?_
        refine w_iconst ok d7_47 (v := (1 : Int32)) rfl ?_
        refine w_callS ok (y := mn_8) (argsL := [(.ref p), (.int (1 : Int32))]) (rest := []) d7_48 (hw _ (List.mem_of_getElem? (i := 34) rfl)) (hw _ (List.mem_of_getElem? (i := 35) rfl)) (hw _ (List.mem_of_getElem? (i := 4) rfl)) (hw _ (List.mem_of_getElem? (i := 36) rfl)) (by decide) pd_285bBI29Z rfl rfl (by decide) (Nat.le_of_ble_eq_true rfl) (by decide) (by decide) (fun z0 => rm_star l Z a0 hw [] n0 h0 z0 p [x0, x1, x2, x3] A_p 1 (Nat.le_of_ble_eq_true rfl) (Nat.le_of_ble_eq_true rfl)) (fun v275 h276 qv275 => ?_)
        obtain ⟨⟨rfl, s1⟩ | ⟨rfl, s1⟩, rfl⟩ := qv275
        · skip
          replace s1 : x1 = 42 := s1
          show W K l _ n0 _ h0 0 0 51 #[.val (.ref p), .val (.ref n), .val (.int (4 : Int32)), .val (.int (Int32.ofNat ns.length)), .val (.int (3 : Int32)), .unset, .unset, .unset, .unset, .unset, .unset, .unset, .unset] [(.int (1 : Int32))]
          refine w_if_eq ok d7_51 (pc' := 57) (by decide) (fun hc278 => False.elim (by revert hc278; decide)) (fun hc278 => ?_)
          refine w_iconst ok d7_54 (v := (1 : Int32)) rfl ?_
          refine w_istore ok d7_55 (L' := #[.val (.ref p), .val (.ref n), .val (.int (4 : Int32)), .val (.int (Int32.ofNat ns.length)), .val (.int (1 : Int32)), .unset, .unset, .unset, .unset, .unset, .unset, .unset, .unset]) rfl ?_
          refine w_iloadN ok d7_57 rfl ?_
          refine w_if_le ok d7_58 (pc' := 72) (by decide) (fun hc280 => False.elim (by revert hc280; decide)) (fun hc280 => ?_)
          refine w_aloadN ok d7_61 rfl rfl ?_
          refine w_iconst ok d7_62 (v := (0 : Int32)) rfl ?_
          refine w_callS ok (y := mn_8) (argsL := [(.ref p), (.int (0 : Int32))]) (rest := []) d7_63 (hw _ (List.mem_of_getElem? (i := 34) rfl)) (hw _ (List.mem_of_getElem? (i := 35) rfl)) (hw _ (List.mem_of_getElem? (i := 4) rfl)) (hw _ (List.mem_of_getElem? (i := 36) rfl)) (by decide) pd_285bBI29Z rfl rfl (by decide) (Nat.le_of_ble_eq_true rfl) (by decide) (by decide) (fun z0 => rm_star l Z a0 hw [] n0 h0 z0 p [x0, x1, x2, x3] A_p 0 (Nat.le_of_ble_eq_true rfl) (Nat.le_of_ble_eq_true rfl)) (fun v281 h282 qv281 => ?_)
          obtain ⟨⟨rfl, s0⟩ | ⟨rfl, s0⟩, rfl⟩ := qv281
          · skip
            replace s0 : x0 = 42 := s0
            show W K l _ n0 _ h0 0 0 66 #[.val (.ref p), .val (.ref n), .val (.int (4 : Int32)), .val (.int (Int32.ofNat ns.length)), .val (.int (1 : Int32)), .unset, .unset, .unset, .unset, .unset, .unset, .unset, .unset] [(.int (1 : Int32))]
            refine w_if_eq ok d7_66 (pc' := 72) (by decide) (fun hc284 => False.elim (by revert hc284; decide)) (fun hc284 => ?_)
            refine w_iconst ok d7_69 (v := (0 : Int32)) rfl ?_
            refine w_istore ok d7_70 (L' := #[.val (.ref p), .val (.ref n), .val (.int (4 : Int32)), .val (.int (Int32.ofNat ns.length)), .val (.int (0 : Int32)), .unset, .unset, .unset, .unset, .unset, .unset, .unset, .unset]) rfl ?_
            refine w_iload ok d7_72 rfl ?_
            refine w_if_ge ok d7_74 (pc' := 99) (by decide) (fun hc286 => ?_) (fun hc286 => False.elim (by revert hc286; decide))
            refine w_iconst ok d7_99 (v := (-1 : Int32)) rfl ?_
            refine w_istore ok d7_100 (L' := #[.val (.ref p), .val (.ref n), .val (.int (4 : Int32)), .val (.int (Int32.ofNat ns.length)), .val (.int (0 : Int32)), .val (.int (-1 : Int32)), .unset, .unset, .unset, .unset, .unset, .unset, .unset]) rfl ?_
            refine w_iloadN ok d7_102 rfl ?_
            refine w_if_le ok d7_103 (pc' := 117) (by decide) (fun hc288 => False.elim (by revert hc288; decide)) (fun hc288 => ?_)
            refine w_aloadN ok d7_106 rfl rfl ?_
            refine w_iconst ok d7_107 (v := (0 : Int32)) rfl ?_
            refine w_callS ok (y := mn_8) (argsL := [(.ref p), (.int (0 : Int32))]) (rest := []) d7_108 (hw _ (List.mem_of_getElem? (i := 34) rfl)) (hw _ (List.mem_of_getElem? (i := 35) rfl)) (hw _ (List.mem_of_getElem? (i := 4) rfl)) (hw _ (List.mem_of_getElem? (i := 36) rfl)) (by decide) pd_285bBI29Z rfl rfl (by decide) (Nat.le_of_ble_eq_true rfl) (by decide) (by decide) (fun z0 => rm_star l Z a0 hw [] n0 h0 z0 p [x0, x1, x2, x3] A_p 0 (Nat.le_of_ble_eq_true rfl) (Nat.le_of_ble_eq_true rfl)) (fun v289 h290 qv289 => ?_)
            obtain ⟨⟨rfl, t291⟩ | ⟨rfl, t291⟩, rfl⟩ := qv289
            · skip
              replace t291 : x0 = 42 := t291
              show W K l _ n0 _ h0 0 0 111 #[.val (.ref p), .val (.ref n), .val (.int (4 : Int32)), .val (.int (Int32.ofNat ns.length)), .val (.int (0 : Int32)), .val (.int (-1 : Int32)), .unset, .unset, .unset, .unset, .unset, .unset, .unset] [(.int (1 : Int32))]
              refine w_if_eq ok d7_111 (pc' := 117) (by decide) (fun hc293 => False.elim (by revert hc293; decide)) (fun hc293 => ?_)
              refine w_iconst ok d7_114 (v := (0 : Int32)) rfl ?_
              refine w_istore ok d7_115 (L' := #[.val (.ref p), .val (.ref n), .val (.int (4 : Int32)), .val (.int (Int32.ofNat ns.length)), .val (.int (0 : Int32)), .val (.int (0 : Int32)), .unset, .unset, .unset, .unset, .unset, .unset, .unset]) rfl ?_
              refine w_iloadN ok d7_117 rfl ?_
              refine w_iconst ok d7_118 (v := (1 : Int32)) rfl ?_
              refine w_icmp_le ok d7_119 (pc' := 133) (by decide) (fun hc295 => False.elim (by revert hc295; decide)) (fun hc295 => ?_)
              refine w_aloadN ok d7_122 rfl rfl ?_
              refine w_iconst ok d7_123 (v := (1 : Int32)) rfl ?_
              refine w_callS ok (y := mn_8) (argsL := [(.ref p), (.int (1 : Int32))]) (rest := []) d7_124 (hw _ (List.mem_of_getElem? (i := 34) rfl)) (hw _ (List.mem_of_getElem? (i := 35) rfl)) (hw _ (List.mem_of_getElem? (i := 4) rfl)) (hw _ (List.mem_of_getElem? (i := 36) rfl)) (by decide) pd_285bBI29Z rfl rfl (by decide) (Nat.le_of_ble_eq_true rfl) (by decide) (by decide) (fun z0 => rm_star l Z a0 hw [] n0 h0 z0 p [x0, x1, x2, x3] A_p 1 (Nat.le_of_ble_eq_true rfl) (Nat.le_of_ble_eq_true rfl)) (fun v296 h297 qv296 => ?_)
              obtain ⟨⟨rfl, t298⟩ | ⟨rfl, t298⟩, rfl⟩ := qv296
              · skip
                replace t298 : x1 = 42 := t298
                show W K l _ n0 _ h0 0 0 127 #[.val (.ref p), .val (.ref n), .val (.int (4 : Int32)), .val (.int (Int32.ofNat ns.length)), .val (.int (0 : Int32)), .val (.int (0 : Int32)), .unset, .unset, .unset, .unset, .unset, .unset, .unset] [(.int (1 : Int32))]
                refine w_if_eq ok d7_127 (pc' := 133) (by decide) (fun hc300 => False.elim (by revert hc300; decide)) (fun hc300 => ?_)
                refine w_iconst ok d7_130 (v := (1 : Int32)) rfl ?_
                refine w_istore ok d7_131 (L' := #[.val (.ref p), .val (.ref n), .val (.int (4 : Int32)), .val (.int (Int32.ofNat ns.length)), .val (.int (0 : Int32)), .val (.int (1 : Int32)), .unset, .unset, .unset, .unset, .unset, .unset, .unset]) rfl ?_
                refine w_iloadN ok d7_133 rfl ?_
                refine w_iconst ok d7_134 (v := (2 : Int32)) rfl ?_
                refine w_icmp_le ok d7_135 (pc' := 149) (by decide) (fun hc302 => False.elim (by revert hc302; decide)) (fun hc302 => ?_)
                refine w_aloadN ok d7_138 rfl rfl ?_
                refine w_iconst ok d7_139 (v := (2 : Int32)) rfl ?_
                refine w_callS ok (y := mn_8) (argsL := [(.ref p), (.int (2 : Int32))]) (rest := []) d7_140 (hw _ (List.mem_of_getElem? (i := 34) rfl)) (hw _ (List.mem_of_getElem? (i := 35) rfl)) (hw _ (List.mem_of_getElem? (i := 4) rfl)) (hw _ (List.mem_of_getElem? (i := 36) rfl)) (by decide) pd_285bBI29Z rfl rfl (by decide) (Nat.le_of_ble_eq_true rfl) (by decide) (by decide) (fun z0 => rm_star l Z a0 hw [] n0 h0 z0 p [x0, x1, x2, x3] A_p 2 (Nat.le_of_ble_eq_true rfl) (Nat.le_of_ble_eq_true rfl)) (fun v303 h304 qv303 => ?_)
                obtain ⟨⟨rfl, t305⟩ | ⟨rfl, t305⟩, rfl⟩ := qv303
                · exact absurd t305 s2
                · skip
                  replace t305 : ¬ (x2 = 42) := t305
                  show W K l _ n0 _ h0 0 0 143 #[.val (.ref p), .val (.ref n), .val (.int (4 : Int32)), .val (.int (Int32.ofNat ns.length)), .val (.int (0 : Int32)), .val (.int (1 : Int32)), .unset, .unset, .unset, .unset, .unset, .unset, .unset] [(.int (0 : Int32))]
                  refine w_if_eq ok d7_143 (pc' := 149) (by decide) (fun hc307 => ?_) (fun hc307 => False.elim (by revert hc307; decide))
                  refine w_iloadN ok d7_149 rfl ?_
                  refine w_iconst ok d7_150 (v := (3 : Int32)) rfl ?_
                  refine w_icmp_le ok d7_151 (pc' := 165) (by decide) (fun hc309 => False.elim (by revert hc309; decide)) (fun hc309 => ?_)
                  refine w_aloadN ok d7_154 rfl rfl ?_
                  refine w_iconst ok d7_155 (v := (3 : Int32)) rfl ?_
                  refine w_callS ok (y := mn_8) (argsL := [(.ref p), (.int (3 : Int32))]) (rest := []) d7_156 (hw _ (List.mem_of_getElem? (i := 34) rfl)) (hw _ (List.mem_of_getElem? (i := 35) rfl)) (hw _ (List.mem_of_getElem? (i := 4) rfl)) (hw _ (List.mem_of_getElem? (i := 36) rfl)) (by decide) pd_285bBI29Z rfl rfl (by decide) (Nat.le_of_ble_eq_true rfl) (by decide) (by decide) (fun z0 => rm_star l Z a0 hw [] n0 h0 z0 p [x0, x1, x2, x3] A_p 3 (Nat.le_of_ble_eq_true rfl) (Nat.le_of_ble_eq_true rfl)) (fun v310 h311 qv310 => ?_)
                  obtain ⟨⟨rfl, t312⟩ | ⟨rfl, t312⟩, rfl⟩ := qv310
                  · skip
                    replace t312 : x3 = 42 := t312
                    show W K l _ n0 _ h0 0 0 159 #[.val (.ref p), .val (.ref n), .val (.int (4 : Int32)), .val (.int (Int32.ofNat ns.length)), .val (.int (0 : Int32)), .val (.int (1 : Int32)), .unset, .unset, .unset, .unset, .unset, .unset, .unset] [(.int (1 : Int32))]
                    refine w_if_eq ok d7_159 (pc' := 165) (by decide) (fun hc314 => False.elim (by revert hc314; decide)) (fun hc314 => ?_)
                    refine w_iconst ok d7_162 (v := (3 : Int32)) rfl ?_
                    refine w_istore ok d7_163 (L' := #[.val (.ref p), .val (.ref n), .val (.int (4 : Int32)), .val (.int (Int32.ofNat ns.length)), .val (.int (0 : Int32)), .val (.int (3 : Int32)), .unset, .unset, .unset, .unset, .unset, .unset, .unset]) rfl ?_
                    refine w_iload ok d7_165 rfl ?_
                    refine w_istore ok d7_167 (L' := #[.val (.ref p), .val (.ref n), .val (.int (4 : Int32)), .val (.int (Int32.ofNat ns.length)), .val (.int (0 : Int32)), .val (.int (3 : Int32)), .val (.int (0 : Int32)), .unset, .unset, .unset, .unset, .unset, .unset]) rfl ?_
                    refine w_iloadN ok d7_169 rfl ?_
                    refine w_iconst ok d7_170 (v := (1 : Int32)) rfl ?_
                    refine w_isub ok d7_171 ?_
                    show W K l _ n0 _ h0 0 0 172 #[.val (.ref p), .val (.ref n), .val (.int (4 : Int32)), .val (.int (Int32.ofNat ns.length)), .val (.int (0 : Int32)), .val (.int (3 : Int32)), .val (.int (0 : Int32)), .unset, .unset, .unset, .unset, .unset, .unset] [(.int (3 : Int32))]
                    refine w_iload ok d7_172 rfl ?_
                    refine w_isub ok d7_174 ?_
                    show W K l _ n0 _ h0 0 0 175 #[.val (.ref p), .val (.ref n), .val (.int (4 : Int32)), .val (.int (Int32.ofNat ns.length)), .val (.int (0 : Int32)), .val (.int (3 : Int32)), .val (.int (0 : Int32)), .unset, .unset, .unset, .unset, .unset, .unset] [(.int (0 : Int32))]
                    refine w_istore ok d7_175 (L' := #[.val (.ref p), .val (.ref n), .val (.int (4 : Int32)), .val (.int (Int32.ofNat ns.length)), .val (.int (0 : Int32)), .val (.int (3 : Int32)), .val (.int (0 : Int32)), .val (.int (0 : Int32)), .unset, .unset, .unset, .unset, .unset]) rfl ?_
                    refine w_iloadN ok d7_177 rfl ?_
                    refine w_iload ok d7_178 rfl ?_
                    refine w_iload ok d7_180 rfl ?_
                    refine w_iadd ok d7_182 ?_
                    show W K l _ n0 _ h0 0 0 183 #[.val (.ref p), .val (.ref n), .val (.int (4 : Int32)), .val (.int (Int32.ofNat ns.length)), .val (.int (0 : Int32)), .val (.int (3 : Int32)), .val (.int (0 : Int32)), .val (.int (0 : Int32)), .unset, .unset, .unset, .unset, .unset] [(.int (0 : Int32)), (.int (Int32.ofNat ns.length))]
                    refine w_icmp_ge ok d7_183 (pc' := 188) (by decide) (fun hc316 => ?_) (fun hc316 => ?_)
                    · skip
                      have hge : 0 ≤ ns.length := by have q := hc316; rw [show (0 : Int32) = Int32.ofNat 0 from rfl, own_lt (by omega) (by omega)] at q; omega
                      refine w_aloadN ok d7_188 rfl rfl ?_
                      refine w_iconst ok d7_189 (v := (0 : Int32)) rfl ?_
                      refine w_iload ok d7_190 rfl ?_
                      refine w_aloadN ok d7_192 rfl rfl ?_
                      refine w_iconst ok d7_193 (v := (0 : Int32)) rfl ?_
                      refine w_callS ok (y := mn_9) (argsL := [(.ref p), (.int (0 : Int32)), (.int (0 : Int32)), (.ref n), (.int (0 : Int32))]) (rest := []) d7_194 (hw _ (List.mem_of_getElem? (i := 37) rfl)) (hw _ (List.mem_of_getElem? (i := 38) rfl)) (hw _ (List.mem_of_getElem? (i := 4) rfl)) (hw _ (List.mem_of_getElem? (i := 39) rfl)) (by decide) pd_285bBII5bBI29Z rfl rfl (by decide) (Nat.le_of_ble_eq_true rfl) (by decide) (by decide) (fun z0 => rm_seg l Z a0 hw [] n0 h0 z0 p n [x0, x1, x2, x3] ns A_p A_n 0 0 0 _ rfl (Nat.le_of_ble_eq_true rfl) (by decide) (by omega) (Nat.le_of_ble_eq_true rfl) ln) (fun v317 h318 qv317 => ?_)
                      obtain ⟨⟨rfl, sgp⟩ | ⟨rfl, sgp⟩, rfl⟩ := qv317
                      · skip
                        replace sgp : SGl [] ns 0 := sgp
                        show W K l _ n0 _ h0 0 0 197 #[.val (.ref p), .val (.ref n), .val (.int (4 : Int32)), .val (.int (Int32.ofNat ns.length)), .val (.int (0 : Int32)), .val (.int (3 : Int32)), .val (.int (0 : Int32)), .val (.int (0 : Int32)), .unset, .unset, .unset, .unset, .unset] [(.int (1 : Int32))]
                        refine w_if_ne ok d7_197 (pc' := 202) (by decide) (fun hc320 => ?_) (fun hc320 => False.elim (by revert hc320; decide))
                        refine w_aloadN ok d7_202 rfl rfl ?_
                        refine w_iload ok d7_203 rfl ?_
                        refine w_iconst ok d7_205 (v := (1 : Int32)) rfl ?_
                        refine w_iadd ok d7_206 ?_
                        show W K l _ n0 _ h0 0 0 207 #[.val (.ref p), .val (.ref n), .val (.int (4 : Int32)), .val (.int (Int32.ofNat ns.length)), .val (.int (0 : Int32)), .val (.int (3 : Int32)), .val (.int (0 : Int32)), .val (.int (0 : Int32)), .unset, .unset, .unset, .unset, .unset] [(.int (4 : Int32)), (.ref p)]
                        refine w_iload ok d7_207 rfl ?_
                        refine w_aloadN ok d7_209 rfl rfl ?_
                        refine w_iloadN ok d7_210 rfl ?_
                        refine w_iload ok d7_211 rfl ?_
                        refine w_isub ok d7_213 ?_
                        refine w_callS ok (y := mn_9) (argsL := [(.ref p), (.int (4 : Int32)), (.int (0 : Int32)), (.ref n), (.int ((Int32.ofNat ns.length) - (0 : Int32)))]) (rest := []) d7_214 (hw _ (List.mem_of_getElem? (i := 37) rfl)) (hw _ (List.mem_of_getElem? (i := 38) rfl)) (hw _ (List.mem_of_getElem? (i := 4) rfl)) (hw _ (List.mem_of_getElem? (i := 39) rfl)) (by decide) pd_285bBII5bBI29Z rfl rfl (by decide) (Nat.le_of_ble_eq_true rfl) (by decide) (by decide) (fun z0 => rm_seg l Z a0 hw [] n0 h0 z0 p n [x0, x1, x2, x3] ns A_p A_n 4 0 (ns.length - 0) _ (own_subk (k := 0) rfl (by omega) (by omega)) (Nat.le_of_ble_eq_true rfl) (by decide) (by omega) (Nat.le_of_ble_eq_true rfl) ln) (fun v321 h322 qv321 => ?_)
                        obtain ⟨⟨rfl, sgs⟩ | ⟨rfl, sgs⟩, rfl⟩ := qv321
                        · skip
                          replace sgs : SGl [] ns (ns.length - 0) := sgs
                          show W K l _ n0 _ h0 0 0 217 #[.val (.ref p), .val (.ref n), .val (.int (4 : Int32)), .val (.int (Int32.ofNat ns.length)), .val (.int (0 : Int32)), .val (.int (3 : Int32)), .val (.int (0 : Int32)), .val (.int (0 : Int32)), .unset, .unset, .unset, .unset, .unset] [(.int (1 : Int32))]
                          refine w_if_ne ok d7_217 (pc' := 222) (by decide) (fun hc324 => ?_) (fun hc324 => False.elim (by revert hc324; decide))
                          refine w_iload ok d7_222 rfl ?_
                          refine w_iload ok d7_224 rfl ?_
                          refine w_isub ok d7_226 ?_
                          show W K l _ n0 _ h0 0 0 227 #[.val (.ref p), .val (.ref n), .val (.int (4 : Int32)), .val (.int (Int32.ofNat ns.length)), .val (.int (0 : Int32)), .val (.int (3 : Int32)), .val (.int (0 : Int32)), .val (.int (0 : Int32)), .unset, .unset, .unset, .unset, .unset] [(.int (3 : Int32))]
                          refine w_iconst ok d7_227 (v := (1 : Int32)) rfl ?_
                          refine w_isub ok d7_228 ?_
                          show W K l _ n0 _ h0 0 0 229 #[.val (.ref p), .val (.ref n), .val (.int (4 : Int32)), .val (.int (Int32.ofNat ns.length)), .val (.int (0 : Int32)), .val (.int (3 : Int32)), .val (.int (0 : Int32)), .val (.int (0 : Int32)), .unset, .unset, .unset, .unset, .unset] [(.int (2 : Int32))]
                          refine w_istore ok d7_229 (L' := #[.val (.ref p), .val (.ref n), .val (.int (4 : Int32)), .val (.int (Int32.ofNat ns.length)), .val (.int (0 : Int32)), .val (.int (3 : Int32)), .val (.int (0 : Int32)), .val (.int (0 : Int32)), .val (.int (2 : Int32)), .unset, .unset, .unset, .unset]) rfl ?_
                          refine w_iload ok d7_231 rfl ?_
                          refine w_iconst ok d7_233 (v := (1 : Int32)) rfl ?_
                          refine w_iadd ok d7_234 ?_
                          show W K l _ n0 _ h0 0 0 235 #[.val (.ref p), .val (.ref n), .val (.int (4 : Int32)), .val (.int (Int32.ofNat ns.length)), .val (.int (0 : Int32)), .val (.int (3 : Int32)), .val (.int (0 : Int32)), .val (.int (0 : Int32)), .val (.int (2 : Int32)), .unset, .unset, .unset, .unset] [(.int (1 : Int32))]
                          refine w_istore ok d7_235 (L' := #[.val (.ref p), .val (.ref n), .val (.int (4 : Int32)), .val (.int (Int32.ofNat ns.length)), .val (.int (0 : Int32)), .val (.int (3 : Int32)), .val (.int (0 : Int32)), .val (.int (0 : Int32)), .val (.int (2 : Int32)), .val (.int (1 : Int32)), .unset, .unset, .unset]) rfl ?_
                          refine w_iconst ok d7_237 (v := (0 : Int32)) rfl ?_
                          refine w_istore ok d7_238 (L' := #[.val (.ref p), .val (.ref n), .val (.int (4 : Int32)), .val (.int (Int32.ofNat ns.length)), .val (.int (0 : Int32)), .val (.int (3 : Int32)), .val (.int (0 : Int32)), .val (.int (0 : Int32)), .val (.int (2 : Int32)), .val (.int (1 : Int32)), .val (.int (0 : Int32)), .unset, .unset]) rfl ?_
                          refine w_iload ok d7_240 rfl ?_
                          refine w_iconst ok d7_242 (v := (1 : Int32)) rfl ?_
                          refine w_icmp_ne ok d7_243 (pc' := 263) (by decide) (fun hc326 => ?_) (fun hc326 => False.elim (by revert hc326; decide))
                          refine w_iload ok d7_263 rfl ?_
                          refine w_iconst ok d7_265 (v := (2 : Int32)) rfl ?_
                          refine w_icmp_ne ok d7_266 (pc' := 340) (by decide) (fun hc328 => False.elim (by revert hc328; decide)) (fun hc328 => ?_)
                          refine w_aloadN ok d7_269 rfl rfl ?_
                          refine w_iload ok d7_270 rfl ?_
                          refine w_iconst ok d7_272 (v := (1 : Int32)) rfl ?_
                          refine w_iadd ok d7_273 ?_
                          show W K l _ n0 _ h0 0 0 274 #[.val (.ref p), .val (.ref n), .val (.int (4 : Int32)), .val (.int (Int32.ofNat ns.length)), .val (.int (0 : Int32)), .val (.int (3 : Int32)), .val (.int (0 : Int32)), .val (.int (0 : Int32)), .val (.int (2 : Int32)), .val (.int (1 : Int32)), .val (.int (0 : Int32)), .unset, .unset] [(.int (1 : Int32)), (.ref p)]
                          refine w_callS ok (y := mn_8) (argsL := [(.ref p), (.int (1 : Int32))]) (rest := []) d7_274 (hw _ (List.mem_of_getElem? (i := 34) rfl)) (hw _ (List.mem_of_getElem? (i := 35) rfl)) (hw _ (List.mem_of_getElem? (i := 4) rfl)) (hw _ (List.mem_of_getElem? (i := 36) rfl)) (by decide) pd_285bBI29Z rfl rfl (by decide) (Nat.le_of_ble_eq_true rfl) (by decide) (by decide) (fun z0 => rm_star l Z a0 hw [] n0 h0 z0 p [x0, x1, x2, x3] A_p 1 (Nat.le_of_ble_eq_true rfl) (Nat.le_of_ble_eq_true rfl)) (fun v329 h330 qv329 => ?_)
                          obtain ⟨⟨rfl, t331⟩ | ⟨rfl, t331⟩, rfl⟩ := qv329
                          · skip
                            replace t331 : x1 = 42 := t331
                            show W K l _ n0 _ h0 0 0 277 #[.val (.ref p), .val (.ref n), .val (.int (4 : Int32)), .val (.int (Int32.ofNat ns.length)), .val (.int (0 : Int32)), .val (.int (3 : Int32)), .val (.int (0 : Int32)), .val (.int (0 : Int32)), .val (.int (2 : Int32)), .val (.int (1 : Int32)), .val (.int (0 : Int32)), .unset, .unset] [(.int (1 : Int32))]
                            refine w_istore ok d7_277 (L' := #[.val (.ref p), .val (.ref n), .val (.int (4 : Int32)), .val (.int (Int32.ofNat ns.length)), .val (.int (0 : Int32)), .val (.int (3 : Int32)), .val (.int (0 : Int32)), .val (.int (0 : Int32)), .val (.int (2 : Int32)), .val (.int (1 : Int32)), .val (.int (0 : Int32)), .val (.int (1 : Int32)), .unset]) rfl ?_
                            refine w_aloadN ok d7_279 rfl rfl ?_
                            refine w_iload ok d7_280 rfl ?_
                            refine w_iconst ok d7_282 (v := (2 : Int32)) rfl ?_
                            refine w_iadd ok d7_283 ?_
                            show W K l _ n0 _ h0 0 0 284 #[.val (.ref p), .val (.ref n), .val (.int (4 : Int32)), .val (.int (Int32.ofNat ns.length)), .val (.int (0 : Int32)), .val (.int (3 : Int32)), .val (.int (0 : Int32)), .val (.int (0 : Int32)), .val (.int (2 : Int32)), .val (.int (1 : Int32)), .val (.int (0 : Int32)), .val (.int (1 : Int32)), .unset] [(.int (2 : Int32)), (.ref p)]
                            refine w_callS ok (y := mn_8) (argsL := [(.ref p), (.int (2 : Int32))]) (rest := []) d7_284 (hw _ (List.mem_of_getElem? (i := 34) rfl)) (hw _ (List.mem_of_getElem? (i := 35) rfl)) (hw _ (List.mem_of_getElem? (i := 4) rfl)) (hw _ (List.mem_of_getElem? (i := 36) rfl)) (by decide) pd_285bBI29Z rfl rfl (by decide) (Nat.le_of_ble_eq_true rfl) (by decide) (by decide) (fun z0 => rm_star l Z a0 hw [] n0 h0 z0 p [x0, x1, x2, x3] A_p 2 (Nat.le_of_ble_eq_true rfl) (Nat.le_of_ble_eq_true rfl)) (fun v332 h333 qv332 => ?_)
                            obtain ⟨⟨rfl, t334⟩ | ⟨rfl, t334⟩, rfl⟩ := qv332
                            · exact absurd t334 s2
                            · skip
                              replace t334 : ¬ (x2 = 42) := t334
                              show W K l _ n0 _ h0 0 0 287 #[.val (.ref p), .val (.ref n), .val (.int (4 : Int32)), .val (.int (Int32.ofNat ns.length)), .val (.int (0 : Int32)), .val (.int (3 : Int32)), .val (.int (0 : Int32)), .val (.int (0 : Int32)), .val (.int (2 : Int32)), .val (.int (1 : Int32)), .val (.int (0 : Int32)), .val (.int (1 : Int32)), .unset] [(.int (0 : Int32))]
                              refine w_istore ok d7_287 (L' := #[.val (.ref p), .val (.ref n), .val (.int (4 : Int32)), .val (.int (Int32.ofNat ns.length)), .val (.int (0 : Int32)), .val (.int (3 : Int32)), .val (.int (0 : Int32)), .val (.int (0 : Int32)), .val (.int (2 : Int32)), .val (.int (1 : Int32)), .val (.int (0 : Int32)), .val (.int (1 : Int32)), .val (.int (0 : Int32))]) rfl ?_
                              refine w_iload ok d7_289 rfl ?_
                              refine w_if_ne ok d7_291 (pc' := 305) (by decide) (fun hc336 => ?_) (fun hc336 => False.elim (by revert hc336; decide))
                              refine w_iload ok d7_305 rfl ?_
                              refine w_if_eq ok d7_307 (pc' := 327) (by decide) (fun hc338 => False.elim (by revert hc338; decide)) (fun hc338 => ?_)
                              refine w_iload ok d7_310 rfl ?_
                              refine w_if_ne ok d7_312 (pc' := 327) (by decide) (fun hc340 => False.elim (by revert hc340; decide)) (fun hc340 => ?_)
                              refine w_iload ok d7_315 rfl ?_
                              refine w_iconst ok d7_317 (v := (2 : Int32)) rfl ?_
                              refine w_iadd ok d7_318 ?_
                              show W K l _ n0 _ h0 0 0 319 #[.val (.ref p), .val (.ref n), .val (.int (4 : Int32)), .val (.int (Int32.ofNat ns.length)), .val (.int (0 : Int32)), .val (.int (3 : Int32)), .val (.int (0 : Int32)), .val (.int (0 : Int32)), .val (.int (2 : Int32)), .val (.int (1 : Int32)), .val (.int (0 : Int32)), .val (.int (1 : Int32)), .val (.int (0 : Int32))] [(.int (2 : Int32))]
                              refine w_istore ok d7_319 (L' := #[.val (.ref p), .val (.ref n), .val (.int (4 : Int32)), .val (.int (Int32.ofNat ns.length)), .val (.int (0 : Int32)), .val (.int (3 : Int32)), .val (.int (0 : Int32)), .val (.int (0 : Int32)), .val (.int (2 : Int32)), .val (.int (2 : Int32)), .val (.int (0 : Int32)), .val (.int (1 : Int32)), .val (.int (0 : Int32))]) rfl ?_
                              refine w_iconst ok d7_321 (v := (1 : Int32)) rfl ?_
                              refine w_istore ok d7_322 (L' := #[.val (.ref p), .val (.ref n), .val (.int (4 : Int32)), .val (.int (Int32.ofNat ns.length)), .val (.int (0 : Int32)), .val (.int (3 : Int32)), .val (.int (0 : Int32)), .val (.int (0 : Int32)), .val (.int (2 : Int32)), .val (.int (2 : Int32)), .val (.int (1 : Int32)), .val (.int (1 : Int32)), .val (.int (0 : Int32))]) rfl ?_
                              refine w_goto ok d7_324 (pc' := 340) (by decide) ?_
                              refine w_iload ok d7_340 rfl ?_
                              refine w_if_ne ok d7_342 (pc' := 347) (by decide) (fun hc342 => ?_) (fun hc342 => False.elim (by revert hc342; decide))
                              refine w_aloadN ok d7_347 rfl rfl ?_
                              refine w_iload ok d7_348 rfl ?_
                              refine w_iload ok d7_350 rfl ?_
                              refine w_aloadN ok d7_352 rfl rfl ?_
                              refine w_iload ok d7_353 rfl ?_
                              refine w_iloadN ok d7_355 rfl ?_
                              refine w_iload ok d7_356 rfl ?_
                              refine w_isub ok d7_358 ?_
                              refine w_callS ok (y := mn_11) (argsL := [(.ref p), (.int (2 : Int32)), (.int (1 : Int32)), (.ref n), (.int (0 : Int32)), (.int ((Int32.ofNat ns.length) - (0 : Int32)))]) (rest := []) d7_359 (hw _ (List.mem_of_getElem? (i := 43) rfl)) (hw _ (List.mem_of_getElem? (i := 44) rfl)) (hw _ (List.mem_of_getElem? (i := 4) rfl)) (hw _ (List.mem_of_getElem? (i := 45) rfl)) (by decide) pd_285bBII5bBII29Z rfl rfl (by decide) (Nat.le_of_ble_eq_true rfl) (by decide) (by decide) (fun z0 => rm_found l Z a0 hw [] n0 h0 z0 p n [x0, x1, x2, x3] ns A_p A_n 2 1 0 (ns.length - 0) _ (own_subk (k := 0) rfl (by omega) (by omega)) (Nat.le_of_ble_eq_true rfl) (by decide) (Nat.le_of_ble_eq_true rfl) ln (by decide) (by omega)) (fun v343 h344 qv343 => ?_)
                              obtain ⟨⟨rfl, fo⟩ | ⟨rfl, fo⟩, rfl⟩ := qv343
                              · skip
                                replace fo : ∃ i, 0 ≤ i ∧ i + 1 ≤ ns.length - 0 ∧ SGl [x2] ns i := fo
                                show W K l _ n0 _ h0 0 0 362 #[.val (.ref p), .val (.ref n), .val (.int (4 : Int32)), .val (.int (Int32.ofNat ns.length)), .val (.int (0 : Int32)), .val (.int (3 : Int32)), .val (.int (0 : Int32)), .val (.int (0 : Int32)), .val (.int (2 : Int32)), .val (.int (2 : Int32)), .val (.int (1 : Int32)), .val (.int (1 : Int32)), .val (.int (0 : Int32))] [(.int (1 : Int32))]
                                refine w_bret ok (by simp) d7_362 (by decide) (by decide) ?_
                                subst s0 s1 s3
                                have key : Gi ns [42, 42, x2, 42] 0 ↔ _ := Iff.trans (Gi_cc (ns := ns) (Q := [x2, 42]) (i := 0)) (own_two (ns := ns) (P := []) (R := [x2]) (Q := []) NoS_nil (NoS_cons s2 NoS_nil) NoS_nil)
                                exact ⟨Or.inl ⟨rfl, key.mpr ⟨hge, sgp, sgs, fo⟩⟩, rfl⟩
                              · skip
                                replace fo : ¬ (∃ i, 0 ≤ i ∧ i + 1 ≤ ns.length - 0 ∧ SGl [x2] ns i) := fo
                                show W K l _ n0 _ h0 0 0 362 #[.val (.ref p), .val (.ref n), .val (.int (4 : Int32)), .val (.int (Int32.ofNat ns.length)), .val (.int (0 : Int32)), .val (.int (3 : Int32)), .val (.int (0 : Int32)), .val (.int (0 : Int32)), .val (.int (2 : Int32)), .val (.int (2 : Int32)), .val (.int (1 : Int32)), .val (.int (1 : Int32)), .val (.int (0 : Int32))] [(.int (0 : Int32))]
                                refine w_bret ok (by simp) d7_362 (by decide) (by decide) ?_
                                subst s0 s1 s3
                                have key : Gi ns [42, 42, x2, 42] 0 ↔ _ := Iff.trans (Gi_cc (ns := ns) (Q := [x2, 42]) (i := 0)) (own_two (ns := ns) (P := []) (R := [x2]) (Q := []) NoS_nil (NoS_cons s2 NoS_nil) NoS_nil)
                                exact ⟨Or.inr ⟨rfl, fun q => fo (key.mp q).2.2.2⟩, rfl⟩
                          · exact absurd s1 t331
                        · skip
                          replace sgs : ¬ (SGl [] ns (ns.length - 0)) := sgs
                          show W K l _ n0 _ h0 0 0 217 #[.val (.ref p), .val (.ref n), .val (.int (4 : Int32)), .val (.int (Int32.ofNat ns.length)), .val (.int (0 : Int32)), .val (.int (3 : Int32)), .val (.int (0 : Int32)), .val (.int (0 : Int32)), .unset, .unset, .unset, .unset, .unset] [(.int (0 : Int32))]
                          refine w_if_ne ok d7_217 (pc' := 222) (by decide) (fun hc346 => False.elim (by revert hc346; decide)) (fun hc346 => ?_)
                          refine w_iconst ok d7_220 (v := (0 : Int32)) rfl ?_
                          refine w_bret ok (by simp) d7_221 (by decide) (by decide) ?_
                          subst s0 s1 s3
                          have key : Gi ns [42, 42, x2, 42] 0 ↔ _ := Iff.trans (Gi_cc (ns := ns) (Q := [x2, 42]) (i := 0)) (own_two (ns := ns) (P := []) (R := [x2]) (Q := []) NoS_nil (NoS_cons s2 NoS_nil) NoS_nil)
                          exact ⟨Or.inr ⟨rfl, fun q => sgs (key.mp q).2.2.1⟩, rfl⟩
                      · skip
                        replace sgp : ¬ (SGl [] ns 0) := sgp
                        show W K l _ n0 _ h0 0 0 197 #[.val (.ref p), .val (.ref n), .val (.int (4 : Int32)), .val (.int (Int32.ofNat ns.length)), .val (.int (0 : Int32)), .val (.int (3 : Int32)), .val (.int (0 : Int32)), .val (.int (0 : Int32)), .unset, .unset, .unset, .unset, .unset] [(.int (0 : Int32))]
                        refine w_if_ne ok d7_197 (pc' := 202) (by decide) (fun hc348 => False.elim (by revert hc348; decide)) (fun hc348 => ?_)
                        refine w_iconst ok d7_200 (v := (0 : Int32)) rfl ?_
                        refine w_bret ok (by simp) d7_201 (by decide) (by decide) ?_
                        subst s0 s1 s3
                        have key : Gi ns [42, 42, x2, 42] 0 ↔ _ := Iff.trans (Gi_cc (ns := ns) (Q := [x2, 42]) (i := 0)) (own_two (ns := ns) (P := []) (R := [x2]) (Q := []) NoS_nil (NoS_cons s2 NoS_nil) NoS_nil)
                        exact ⟨Or.inr ⟨rfl, fun q => sgp (key.mp q).2.1⟩, rfl⟩
                    · skip
                      refine w_iconst ok d7_186 (v := (0 : Int32)) rfl ?_
                      refine w_bret ok (by simp) d7_187 (by decide) (by decide) ?_
                      subst s0 s1 s3
                      have key : Gi ns [42, 42, x2, 42] 0 ↔ _ := Iff.trans (Gi_cc (ns := ns) (Q := [x2, 42]) (i := 0)) (own_two (ns := ns) (P := []) (R := [x2]) (Q := []) NoS_nil (NoS_cons s2 NoS_nil) NoS_nil)
                      refine ⟨Or.inr ⟨rfl, fun q => ?_⟩, rfl⟩
                      have q1 : 0 + 0 ≤ ns.length := (key.mp q).1
                      have q2 := hc316; rw [show (0 : Int32) = Int32.ofNat 0 from rfl, own_lt (by omega) (by omega)] at q2; omega
                  · exact absurd s3 t312
              · exact absurd s1 t298
            · exact absurd s0 t291
          · skip
            replace s0 : ¬ (x0 = 42) := s0
            show W K l _ n0 _ h0 0 0 66 #[.val (.ref p), .val (.ref n), .val (.int (4 : Int32)), .val (.int (Int32.ofNat ns.length)), .val (.int (1 : Int32)), .unset, .unset, .unset, .unset, .unset, .unset, .unset, .unset] [(.int (0 : Int32))]
            refine w_if_eq ok d7_66 (pc' := 72) (by decide) (fun hc350 => ?_) (fun hc350 => False.elim (by revert hc350; decide))
            refine w_iload ok d7_72 rfl ?_
            refine w_if_ge ok d7_74 (pc' := 99) (by decide) (fun hc352 => ?_) (fun hc352 => False.elim (by revert hc352; decide))
            refine w_iconst ok d7_99 (v := (-1 : Int32)) rfl ?_
            refine w_istore ok d7_100 (L' := #[.val (.ref p), .val (.ref n), .val (.int (4 : Int32)), .val (.int (Int32.ofNat ns.length)), .val (.int (1 : Int32)), .val (.int (-1 : Int32)), .unset, .unset, .unset, .unset, .unset, .unset, .unset]) rfl ?_
            refine w_iloadN ok d7_102 rfl ?_
            refine w_if_le ok d7_103 (pc' := 117) (by decide) (fun hc354 => False.elim (by revert hc354; decide)) (fun hc354 => ?_)
            refine w_aloadN ok d7_106 rfl rfl ?_
            refine w_iconst ok d7_107 (v := (0 : Int32)) rfl ?_
            refine w_callS ok (y := mn_8) (argsL := [(.ref p), (.int (0 : Int32))]) (rest := []) d7_108 (hw _ (List.mem_of_getElem? (i := 34) rfl)) (hw _ (List.mem_of_getElem? (i := 35) rfl)) (hw _ (List.mem_of_getElem? (i := 4) rfl)) (hw _ (List.mem_of_getElem? (i := 36) rfl)) (by decide) pd_285bBI29Z rfl rfl (by decide) (Nat.le_of_ble_eq_true rfl) (by decide) (by decide) (fun z0 => rm_star l Z a0 hw [] n0 h0 z0 p [x0, x1, x2, x3] A_p 0 (Nat.le_of_ble_eq_true rfl) (Nat.le_of_ble_eq_true rfl)) (fun v355 h356 qv355 => ?_)
            obtain ⟨⟨rfl, t357⟩ | ⟨rfl, t357⟩, rfl⟩ := qv355
            · exact absurd t357 s0
            · skip
              replace t357 : ¬ (x0 = 42) := t357
              show W K l _ n0 _ h0 0 0 111 #[.val (.ref p), .val (.ref n), .val (.int (4 : Int32)), .val (.int (Int32.ofNat ns.length)), .val (.int (1 : Int32)), .val (.int (-1 : Int32)), .unset, .unset, .unset, .unset, .unset, .unset, .unset] [(.int (0 : Int32))]
              refine w_if_eq ok d7_111 (pc' := 117) (by decide) (fun hc359 => ?_) (fun hc359 => False.elim (by revert hc359; decide))
              refine w_iloadN ok d7_117 rfl ?_
              refine w_iconst ok d7_118 (v := (1 : Int32)) rfl ?_
              refine w_icmp_le ok d7_119 (pc' := 133) (by decide) (fun hc361 => False.elim (by revert hc361; decide)) (fun hc361 => ?_)
              refine w_aloadN ok d7_122 rfl rfl ?_
              refine w_iconst ok d7_123 (v := (1 : Int32)) rfl ?_
              refine w_callS ok (y := mn_8) (argsL := [(.ref p), (.int (1 : Int32))]) (rest := []) d7_124 (hw _ (List.mem_of_getElem? (i := 34) rfl)) (hw _ (List.mem_of_getElem? (i := 35) rfl)) (hw _ (List.mem_of_getElem? (i := 4) rfl)) (hw _ (List.mem_of_getElem? (i := 36) rfl)) (by decide) pd_285bBI29Z rfl rfl (by decide) (Nat.le_of_ble_eq_true rfl) (by decide) (by decide) (fun z0 => rm_star l Z a0 hw [] n0 h0 z0 p [x0, x1, x2, x3] A_p 1 (Nat.le_of_ble_eq_true rfl) (Nat.le_of_ble_eq_true rfl)) (fun v362 h363 qv362 => ?_)
              obtain ⟨⟨rfl, t364⟩ | ⟨rfl, t364⟩, rfl⟩ := qv362
              · skip
                replace t364 : x1 = 42 := t364
                show W K l _ n0 _ h0 0 0 127 #[.val (.ref p), .val (.ref n), .val (.int (4 : Int32)), .val (.int (Int32.ofNat ns.length)), .val (.int (1 : Int32)), .val (.int (-1 : Int32)), .unset, .unset, .unset, .unset, .unset, .unset, .unset] [(.int (1 : Int32))]
                refine w_if_eq ok d7_127 (pc' := 133) (by decide) (fun hc366 => False.elim (by revert hc366; decide)) (fun hc366 => ?_)
                refine w_iconst ok d7_130 (v := (1 : Int32)) rfl ?_
                refine w_istore ok d7_131 (L' := #[.val (.ref p), .val (.ref n), .val (.int (4 : Int32)), .val (.int (Int32.ofNat ns.length)), .val (.int (1 : Int32)), .val (.int (1 : Int32)), .unset, .unset, .unset, .unset, .unset, .unset, .unset]) rfl ?_
                refine w_iloadN ok d7_133 rfl ?_
                refine w_iconst ok d7_134 (v := (2 : Int32)) rfl ?_
                refine w_icmp_le ok d7_135 (pc' := 149) (by decide) (fun hc368 => False.elim (by revert hc368; decide)) (fun hc368 => ?_)
                refine w_aloadN ok d7_138 rfl rfl ?_
                refine w_iconst ok d7_139 (v := (2 : Int32)) rfl ?_
                refine w_callS ok (y := mn_8) (argsL := [(.ref p), (.int (2 : Int32))]) (rest := []) d7_140 (hw _ (List.mem_of_getElem? (i := 34) rfl)) (hw _ (List.mem_of_getElem? (i := 35) rfl)) (hw _ (List.mem_of_getElem? (i := 4) rfl)) (hw _ (List.mem_of_getElem? (i := 36) rfl)) (by decide) pd_285bBI29Z rfl rfl (by decide) (Nat.le_of_ble_eq_true rfl) (by decide) (by decide) (fun z0 => rm_star l Z a0 hw [] n0 h0 z0 p [x0, x1, x2, x3] A_p 2 (Nat.le_of_ble_eq_true rfl) (Nat.le_of_ble_eq_true rfl)) (fun v369 h370 qv369 => ?_)
                obtain ⟨⟨rfl, t371⟩ | ⟨rfl, t371⟩, rfl⟩ := qv369
                · exact absurd t371 s2
                · skip
                  replace t371 : ¬ (x2 = 42) := t371
                  show W K l _ n0 _ h0 0 0 143 #[.val (.ref p), .val (.ref n), .val (.int (4 : Int32)), .val (.int (Int32.ofNat ns.length)), .val (.int (1 : Int32)), .val (.int (1 : Int32)), .unset, .unset, .unset, .unset, .unset, .unset, .unset] [(.int (0 : Int32))]
                  refine w_if_eq ok d7_143 (pc' := 149) (by decide) (fun hc373 => ?_) (fun hc373 => False.elim (by revert hc373; decide))
                  refine w_iloadN ok d7_149 rfl ?_
                  refine w_iconst ok d7_150 (v := (3 : Int32)) rfl ?_
                  refine w_icmp_le ok d7_151 (pc' := 165) (by decide) (fun hc375 => False.elim (by revert hc375; decide)) (fun hc375 => ?_)
                  refine w_aloadN ok d7_154 rfl rfl ?_
                  refine w_iconst ok d7_155 (v := (3 : Int32)) rfl ?_
                  refine w_callS ok (y := mn_8) (argsL := [(.ref p), (.int (3 : Int32))]) (rest := []) d7_156 (hw _ (List.mem_of_getElem? (i := 34) rfl)) (hw _ (List.mem_of_getElem? (i := 35) rfl)) (hw _ (List.mem_of_getElem? (i := 4) rfl)) (hw _ (List.mem_of_getElem? (i := 36) rfl)) (by decide) pd_285bBI29Z rfl rfl (by decide) (Nat.le_of_ble_eq_true rfl) (by decide) (by decide) (fun z0 => rm_star l Z a0 hw [] n0 h0 z0 p [x0, x1, x2, x3] A_p 3 (Nat.le_of_ble_eq_true rfl) (Nat.le_of_ble_eq_true rfl)) (fun v376 h377 qv376 => ?_)
                  obtain ⟨⟨rfl, t378⟩ | ⟨rfl, t378⟩, rfl⟩ := qv376
                  · skip
                    replace t378 : x3 = 42 := t378
                    show W K l _ n0 _ h0 0 0 159 #[.val (.ref p), .val (.ref n), .val (.int (4 : Int32)), .val (.int (Int32.ofNat ns.length)), .val (.int (1 : Int32)), .val (.int (1 : Int32)), .unset, .unset, .unset, .unset, .unset, .unset, .unset] [(.int (1 : Int32))]
                    refine w_if_eq ok d7_159 (pc' := 165) (by decide) (fun hc380 => False.elim (by revert hc380; decide)) (fun hc380 => ?_)
                    refine w_iconst ok d7_162 (v := (3 : Int32)) rfl ?_
                    refine w_istore ok d7_163 (L' := #[.val (.ref p), .val (.ref n), .val (.int (4 : Int32)), .val (.int (Int32.ofNat ns.length)), .val (.int (1 : Int32)), .val (.int (3 : Int32)), .unset, .unset, .unset, .unset, .unset, .unset, .unset]) rfl ?_
                    refine w_iload ok d7_165 rfl ?_
                    refine w_istore ok d7_167 (L' := #[.val (.ref p), .val (.ref n), .val (.int (4 : Int32)), .val (.int (Int32.ofNat ns.length)), .val (.int (1 : Int32)), .val (.int (3 : Int32)), .val (.int (1 : Int32)), .unset, .unset, .unset, .unset, .unset, .unset]) rfl ?_
                    refine w_iloadN ok d7_169 rfl ?_
                    refine w_iconst ok d7_170 (v := (1 : Int32)) rfl ?_
                    refine w_isub ok d7_171 ?_
                    show W K l _ n0 _ h0 0 0 172 #[.val (.ref p), .val (.ref n), .val (.int (4 : Int32)), .val (.int (Int32.ofNat ns.length)), .val (.int (1 : Int32)), .val (.int (3 : Int32)), .val (.int (1 : Int32)), .unset, .unset, .unset, .unset, .unset, .unset] [(.int (3 : Int32))]
                    refine w_iload ok d7_172 rfl ?_
                    refine w_isub ok d7_174 ?_
                    show W K l _ n0 _ h0 0 0 175 #[.val (.ref p), .val (.ref n), .val (.int (4 : Int32)), .val (.int (Int32.ofNat ns.length)), .val (.int (1 : Int32)), .val (.int (3 : Int32)), .val (.int (1 : Int32)), .unset, .unset, .unset, .unset, .unset, .unset] [(.int (0 : Int32))]
                    refine w_istore ok d7_175 (L' := #[.val (.ref p), .val (.ref n), .val (.int (4 : Int32)), .val (.int (Int32.ofNat ns.length)), .val (.int (1 : Int32)), .val (.int (3 : Int32)), .val (.int (1 : Int32)), .val (.int (0 : Int32)), .unset, .unset, .unset, .unset, .unset]) rfl ?_
                    refine w_iloadN ok d7_177 rfl ?_
                    refine w_iload ok d7_178 rfl ?_
                    refine w_iload ok d7_180 rfl ?_
                    refine w_iadd ok d7_182 ?_
                    show W K l _ n0 _ h0 0 0 183 #[.val (.ref p), .val (.ref n), .val (.int (4 : Int32)), .val (.int (Int32.ofNat ns.length)), .val (.int (1 : Int32)), .val (.int (3 : Int32)), .val (.int (1 : Int32)), .val (.int (0 : Int32)), .unset, .unset, .unset, .unset, .unset] [(.int (1 : Int32)), (.int (Int32.ofNat ns.length))]
                    refine w_icmp_ge ok d7_183 (pc' := 188) (by decide) (fun hc382 => ?_) (fun hc382 => ?_)
                    · skip
                      have hge : 1 ≤ ns.length := by have q := hc382; rw [show (1 : Int32) = Int32.ofNat 1 from rfl, own_lt (by omega) (by omega)] at q; omega
                      refine w_aloadN ok d7_188 rfl rfl ?_
                      refine w_iconst ok d7_189 (v := (0 : Int32)) rfl ?_
                      refine w_iload ok d7_190 rfl ?_
                      refine w_aloadN ok d7_192 rfl rfl ?_
                      refine w_iconst ok d7_193 (v := (0 : Int32)) rfl ?_
                      refine w_callS ok (y := mn_9) (argsL := [(.ref p), (.int (0 : Int32)), (.int (1 : Int32)), (.ref n), (.int (0 : Int32))]) (rest := []) d7_194 (hw _ (List.mem_of_getElem? (i := 37) rfl)) (hw _ (List.mem_of_getElem? (i := 38) rfl)) (hw _ (List.mem_of_getElem? (i := 4) rfl)) (hw _ (List.mem_of_getElem? (i := 39) rfl)) (by decide) pd_285bBII5bBI29Z rfl rfl (by decide) (Nat.le_of_ble_eq_true rfl) (by decide) (by decide) (fun z0 => rm_seg l Z a0 hw [] n0 h0 z0 p n [x0, x1, x2, x3] ns A_p A_n 0 1 0 _ rfl (Nat.le_of_ble_eq_true rfl) (by decide) (by omega) (Nat.le_of_ble_eq_true rfl) ln) (fun v383 h384 qv383 => ?_)
                      obtain ⟨⟨rfl, sgp⟩ | ⟨rfl, sgp⟩, rfl⟩ := qv383
                      · skip
                        replace sgp : SGl [x0] ns 0 := sgp
                        show W K l _ n0 _ h0 0 0 197 #[.val (.ref p), .val (.ref n), .val (.int (4 : Int32)), .val (.int (Int32.ofNat ns.length)), .val (.int (1 : Int32)), .val (.int (3 : Int32)), .val (.int (1 : Int32)), .val (.int (0 : Int32)), .unset, .unset, .unset, .unset, .unset] [(.int (1 : Int32))]
                        refine w_if_ne ok d7_197 (pc' := 202) (by decide) (fun hc386 => ?_) (fun hc386 => False.elim (by revert hc386; decide))
                        refine w_aloadN ok d7_202 rfl rfl ?_
                        refine w_iload ok d7_203 rfl ?_
                        refine w_iconst ok d7_205 (v := (1 : Int32)) rfl ?_
                        refine w_iadd ok d7_206 ?_
                        show W K l _ n0 _ h0 0 0 207 #[.val (.ref p), .val (.ref n), .val (.int (4 : Int32)), .val (.int (Int32.ofNat ns.length)), .val (.int (1 : Int32)), .val (.int (3 : Int32)), .val (.int (1 : Int32)), .val (.int (0 : Int32)), .unset, .unset, .unset, .unset, .unset] [(.int (4 : Int32)), (.ref p)]
                        refine w_iload ok d7_207 rfl ?_
                        refine w_aloadN ok d7_209 rfl rfl ?_
                        refine w_iloadN ok d7_210 rfl ?_
                        refine w_iload ok d7_211 rfl ?_
                        refine w_isub ok d7_213 ?_
                        refine w_callS ok (y := mn_9) (argsL := [(.ref p), (.int (4 : Int32)), (.int (0 : Int32)), (.ref n), (.int ((Int32.ofNat ns.length) - (0 : Int32)))]) (rest := []) d7_214 (hw _ (List.mem_of_getElem? (i := 37) rfl)) (hw _ (List.mem_of_getElem? (i := 38) rfl)) (hw _ (List.mem_of_getElem? (i := 4) rfl)) (hw _ (List.mem_of_getElem? (i := 39) rfl)) (by decide) pd_285bBII5bBI29Z rfl rfl (by decide) (Nat.le_of_ble_eq_true rfl) (by decide) (by decide) (fun z0 => rm_seg l Z a0 hw [] n0 h0 z0 p n [x0, x1, x2, x3] ns A_p A_n 4 0 (ns.length - 0) _ (own_subk (k := 0) rfl (by omega) (by omega)) (Nat.le_of_ble_eq_true rfl) (by decide) (by omega) (Nat.le_of_ble_eq_true rfl) ln) (fun v387 h388 qv387 => ?_)
                        obtain ⟨⟨rfl, sgs⟩ | ⟨rfl, sgs⟩, rfl⟩ := qv387
                        · skip
                          replace sgs : SGl [] ns (ns.length - 0) := sgs
                          show W K l _ n0 _ h0 0 0 217 #[.val (.ref p), .val (.ref n), .val (.int (4 : Int32)), .val (.int (Int32.ofNat ns.length)), .val (.int (1 : Int32)), .val (.int (3 : Int32)), .val (.int (1 : Int32)), .val (.int (0 : Int32)), .unset, .unset, .unset, .unset, .unset] [(.int (1 : Int32))]
                          refine w_if_ne ok d7_217 (pc' := 222) (by decide) (fun hc390 => ?_) (fun hc390 => False.elim (by revert hc390; decide))
                          refine w_iload ok d7_222 rfl ?_
                          refine w_iload ok d7_224 rfl ?_
                          refine w_isub ok d7_226 ?_
                          show W K l _ n0 _ h0 0 0 227 #[.val (.ref p), .val (.ref n), .val (.int (4 : Int32)), .val (.int (Int32.ofNat ns.length)), .val (.int (1 : Int32)), .val (.int (3 : Int32)), .val (.int (1 : Int32)), .val (.int (0 : Int32)), .unset, .unset, .unset, .unset, .unset] [(.int (2 : Int32))]
                          refine w_iconst ok d7_227 (v := (1 : Int32)) rfl ?_
                          refine w_isub ok d7_228 ?_
                          show W K l _ n0 _ h0 0 0 229 #[.val (.ref p), .val (.ref n), .val (.int (4 : Int32)), .val (.int (Int32.ofNat ns.length)), .val (.int (1 : Int32)), .val (.int (3 : Int32)), .val (.int (1 : Int32)), .val (.int (0 : Int32)), .unset, .unset, .unset, .unset, .unset] [(.int (1 : Int32))]
                          refine w_istore ok d7_229 (L' := #[.val (.ref p), .val (.ref n), .val (.int (4 : Int32)), .val (.int (Int32.ofNat ns.length)), .val (.int (1 : Int32)), .val (.int (3 : Int32)), .val (.int (1 : Int32)), .val (.int (0 : Int32)), .val (.int (1 : Int32)), .unset, .unset, .unset, .unset]) rfl ?_
                          refine w_iload ok d7_231 rfl ?_
                          refine w_iconst ok d7_233 (v := (1 : Int32)) rfl ?_
                          refine w_iadd ok d7_234 ?_
                          show W K l _ n0 _ h0 0 0 235 #[.val (.ref p), .val (.ref n), .val (.int (4 : Int32)), .val (.int (Int32.ofNat ns.length)), .val (.int (1 : Int32)), .val (.int (3 : Int32)), .val (.int (1 : Int32)), .val (.int (0 : Int32)), .val (.int (1 : Int32)), .unset, .unset, .unset, .unset] [(.int (2 : Int32))]
                          refine w_istore ok d7_235 (L' := #[.val (.ref p), .val (.ref n), .val (.int (4 : Int32)), .val (.int (Int32.ofNat ns.length)), .val (.int (1 : Int32)), .val (.int (3 : Int32)), .val (.int (1 : Int32)), .val (.int (0 : Int32)), .val (.int (1 : Int32)), .val (.int (2 : Int32)), .unset, .unset, .unset]) rfl ?_
                          refine w_iconst ok d7_237 (v := (0 : Int32)) rfl ?_
                          refine w_istore ok d7_238 (L' := #[.val (.ref p), .val (.ref n), .val (.int (4 : Int32)), .val (.int (Int32.ofNat ns.length)), .val (.int (1 : Int32)), .val (.int (3 : Int32)), .val (.int (1 : Int32)), .val (.int (0 : Int32)), .val (.int (1 : Int32)), .val (.int (2 : Int32)), .val (.int (0 : Int32)), .unset, .unset]) rfl ?_
                          refine w_iload ok d7_240 rfl ?_
                          refine w_iconst ok d7_242 (v := (1 : Int32)) rfl ?_
                          refine w_icmp_ne ok d7_243 (pc' := 263) (by decide) (fun hc392 => False.elim (by revert hc392; decide)) (fun hc392 => ?_)
                          refine w_aloadN ok d7_246 rfl rfl ?_
                          refine w_iload ok d7_247 rfl ?_
                          refine w_iconst ok d7_249 (v := (1 : Int32)) rfl ?_
                          refine w_iadd ok d7_250 ?_
                          show W K l _ n0 _ h0 0 0 251 #[.val (.ref p), .val (.ref n), .val (.int (4 : Int32)), .val (.int (Int32.ofNat ns.length)), .val (.int (1 : Int32)), .val (.int (3 : Int32)), .val (.int (1 : Int32)), .val (.int (0 : Int32)), .val (.int (1 : Int32)), .val (.int (2 : Int32)), .val (.int (0 : Int32)), .unset, .unset] [(.int (2 : Int32)), (.ref p)]
                          refine w_callS ok (y := mn_8) (argsL := [(.ref p), (.int (2 : Int32))]) (rest := []) d7_251 (hw _ (List.mem_of_getElem? (i := 34) rfl)) (hw _ (List.mem_of_getElem? (i := 35) rfl)) (hw _ (List.mem_of_getElem? (i := 4) rfl)) (hw _ (List.mem_of_getElem? (i := 36) rfl)) (by decide) pd_285bBI29Z rfl rfl (by decide) (Nat.le_of_ble_eq_true rfl) (by decide) (by decide) (fun z0 => rm_star l Z a0 hw [] n0 h0 z0 p [x0, x1, x2, x3] A_p 2 (Nat.le_of_ble_eq_true rfl) (Nat.le_of_ble_eq_true rfl)) (fun v393 h394 qv393 => ?_)
                          obtain ⟨⟨rfl, t395⟩ | ⟨rfl, t395⟩, rfl⟩ := qv393
                          · exact absurd t395 s2
                          · skip
                            replace t395 : ¬ (x2 = 42) := t395
                            show W K l _ n0 _ h0 0 0 254 #[.val (.ref p), .val (.ref n), .val (.int (4 : Int32)), .val (.int (Int32.ofNat ns.length)), .val (.int (1 : Int32)), .val (.int (3 : Int32)), .val (.int (1 : Int32)), .val (.int (0 : Int32)), .val (.int (1 : Int32)), .val (.int (2 : Int32)), .val (.int (0 : Int32)), .unset, .unset] [(.int (0 : Int32))]
                            refine w_if_ne ok d7_254 (pc' := 340) (by decide) (fun hc397 => False.elim (by revert hc397; decide)) (fun hc397 => ?_)
                            refine w_iconst ok d7_257 (v := (1 : Int32)) rfl ?_
                            refine w_istore ok d7_258 (L' := #[.val (.ref p), .val (.ref n), .val (.int (4 : Int32)), .val (.int (Int32.ofNat ns.length)), .val (.int (1 : Int32)), .val (.int (3 : Int32)), .val (.int (1 : Int32)), .val (.int (0 : Int32)), .val (.int (1 : Int32)), .val (.int (2 : Int32)), .val (.int (1 : Int32)), .unset, .unset]) rfl ?_
                            refine w_goto ok d7_260 (pc' := 340) (by decide) ?_
                            refine w_iload ok d7_340 rfl ?_
                            refine w_if_ne ok d7_342 (pc' := 347) (by decide) (fun hc399 => ?_) (fun hc399 => False.elim (by revert hc399; decide))
                            refine w_aloadN ok d7_347 rfl rfl ?_
                            refine w_iload ok d7_348 rfl ?_
                            refine w_iload ok d7_350 rfl ?_
                            refine w_aloadN ok d7_352 rfl rfl ?_
                            refine w_iload ok d7_353 rfl ?_
                            refine w_iloadN ok d7_355 rfl ?_
                            refine w_iload ok d7_356 rfl ?_
                            refine w_isub ok d7_358 ?_
                            refine w_callS ok (y := mn_11) (argsL := [(.ref p), (.int (2 : Int32)), (.int (1 : Int32)), (.ref n), (.int (1 : Int32)), (.int ((Int32.ofNat ns.length) - (0 : Int32)))]) (rest := []) d7_359 (hw _ (List.mem_of_getElem? (i := 43) rfl)) (hw _ (List.mem_of_getElem? (i := 44) rfl)) (hw _ (List.mem_of_getElem? (i := 4) rfl)) (hw _ (List.mem_of_getElem? (i := 45) rfl)) (by decide) pd_285bBII5bBII29Z rfl rfl (by decide) (Nat.le_of_ble_eq_true rfl) (by decide) (by decide) (fun z0 => rm_found l Z a0 hw [] n0 h0 z0 p n [x0, x1, x2, x3] ns A_p A_n 2 1 1 (ns.length - 0) _ (own_subk (k := 0) rfl (by omega) (by omega)) (Nat.le_of_ble_eq_true rfl) (by decide) (Nat.le_of_ble_eq_true rfl) ln (by decide) (by omega)) (fun v400 h401 qv400 => ?_)
                            obtain ⟨⟨rfl, fo⟩ | ⟨rfl, fo⟩, rfl⟩ := qv400
                            · skip
                              replace fo : ∃ i, 1 ≤ i ∧ i + 1 ≤ ns.length - 0 ∧ SGl [x2] ns i := fo
                              show W K l _ n0 _ h0 0 0 362 #[.val (.ref p), .val (.ref n), .val (.int (4 : Int32)), .val (.int (Int32.ofNat ns.length)), .val (.int (1 : Int32)), .val (.int (3 : Int32)), .val (.int (1 : Int32)), .val (.int (0 : Int32)), .val (.int (1 : Int32)), .val (.int (2 : Int32)), .val (.int (1 : Int32)), .unset, .unset] [(.int (1 : Int32))]
                              refine w_bret ok (by simp) d7_362 (by decide) (by decide) ?_
                              subst s1 s3
                              have key : Gi ns [x0, 42, x2, 42] 0 ↔ _ := (own_two (ns := ns) (P := [x0]) (R := [x2]) (Q := []) (NoS_cons s0 NoS_nil) (NoS_cons s2 NoS_nil) NoS_nil)
                              exact ⟨Or.inl ⟨rfl, key.mpr ⟨hge, sgp, sgs, fo⟩⟩, rfl⟩
                            · skip
                              replace fo : ¬ (∃ i, 1 ≤ i ∧ i + 1 ≤ ns.length - 0 ∧ SGl [x2] ns i) := fo
                              show W K l _ n0 _ h0 0 0 362 #[.val (.ref p), .val (.ref n), .val (.int (4 : Int32)), .val (.int (Int32.ofNat ns.length)), .val (.int (1 : Int32)), .val (.int (3 : Int32)), .val (.int (1 : Int32)), .val (.int (0 : Int32)), .val (.int (1 : Int32)), .val (.int (2 : Int32)), .val (.int (1 : Int32)), .unset, .unset] [(.int (0 : Int32))]
                              refine w_bret ok (by simp) d7_362 (by decide) (by decide) ?_
                              subst s1 s3
                              have key : Gi ns [x0, 42, x2, 42] 0 ↔ _ := (own_two (ns := ns) (P := [x0]) (R := [x2]) (Q := []) (NoS_cons s0 NoS_nil) (NoS_cons s2 NoS_nil) NoS_nil)
                              exact ⟨Or.inr ⟨rfl, fun q => fo (key.mp q).2.2.2⟩, rfl⟩
                        · skip
                          replace sgs : ¬ (SGl [] ns (ns.length - 0)) := sgs
                          show W K l _ n0 _ h0 0 0 217 #[.val (.ref p), .val (.ref n), .val (.int (4 : Int32)), .val (.int (Int32.ofNat ns.length)), .val (.int (1 : Int32)), .val (.int (3 : Int32)), .val (.int (1 : Int32)), .val (.int (0 : Int32)), .unset, .unset, .unset, .unset, .unset] [(.int (0 : Int32))]
                          refine w_if_ne ok d7_217 (pc' := 222) (by decide) (fun hc403 => False.elim (by revert hc403; decide)) (fun hc403 => ?_)
                          refine w_iconst ok d7_220 (v := (0 : Int32)) rfl ?_
                          refine w_bret ok (by simp) d7_221 (by decide) (by decide) ?_
                          subst s1 s3
                          have key : Gi ns [x0, 42, x2, 42] 0 ↔ _ := (own_two (ns := ns) (P := [x0]) (R := [x2]) (Q := []) (NoS_cons s0 NoS_nil) (NoS_cons s2 NoS_nil) NoS_nil)
                          exact ⟨Or.inr ⟨rfl, fun q => sgs (key.mp q).2.2.1⟩, rfl⟩
                      · skip
                        replace sgp : ¬ (SGl [x0] ns 0) := sgp
                        show W K l _ n0 _ h0 0 0 197 #[.val (.ref p), .val (.ref n), .val (.int (4 : Int32)), .val (.int (Int32.ofNat ns.length)), .val (.int (1 : Int32)), .val (.int (3 : Int32)), .val (.int (1 : Int32)), .val (.int (0 : Int32)), .unset, .unset, .unset, .unset, .unset] [(.int (0 : Int32))]
                        refine w_if_ne ok d7_197 (pc' := 202) (by decide) (fun hc405 => False.elim (by revert hc405; decide)) (fun hc405 => ?_)
                        refine w_iconst ok d7_200 (v := (0 : Int32)) rfl ?_
                        refine w_bret ok (by simp) d7_201 (by decide) (by decide) ?_
                        subst s1 s3
                        have key : Gi ns [x0, 42, x2, 42] 0 ↔ _ := (own_two (ns := ns) (P := [x0]) (R := [x2]) (Q := []) (NoS_cons s0 NoS_nil) (NoS_cons s2 NoS_nil) NoS_nil)
                        exact ⟨Or.inr ⟨rfl, fun q => sgp (key.mp q).2.1⟩, rfl⟩
                    · skip
                      refine w_iconst ok d7_186 (v := (0 : Int32)) rfl ?_
                      refine w_bret ok (by simp) d7_187 (by decide) (by decide) ?_
                      subst s1 s3
                      have key : Gi ns [x0, 42, x2, 42] 0 ↔ _ := (own_two (ns := ns) (P := [x0]) (R := [x2]) (Q := []) (NoS_cons s0 NoS_nil) (NoS_cons s2 NoS_nil) NoS_nil)
                      refine ⟨Or.inr ⟨rfl, fun q => ?_⟩, rfl⟩
                      have q1 : 1 + 0 ≤ ns.length := (key.mp q).1
                      have q2 := hc382; rw [show (1 : Int32) = Int32.ofNat 1 from rfl, own_lt (by omega) (by omega)] at q2; omega
                  · exact absurd s3 t378
              · exact absurd s1 t364
        · skip
          replace s1 : ¬ (x1 = 42) := s1
          show W K l _ n0 _ h0 0 0 51 #[.val (.ref p), .val (.ref n), .val (.int (4 : Int32)), .val (.int (Int32.ofNat ns.length)), .val (.int (3 : Int32)), .unset, .unset, .unset, .unset, .unset, .unset, .unset, .unset] [(.int (0 : Int32))]
          refine w_if_eq ok d7_51 (pc' := 57) (by decide) (fun hc407 => ?_) (fun hc407 => False.elim (by revert hc407; decide))
          refine w_iloadN ok d7_57 rfl ?_
          refine w_if_le ok d7_58 (pc' := 72) (by decide) (fun hc409 => False.elim (by revert hc409; decide)) (fun hc409 => ?_)
          refine w_aloadN ok d7_61 rfl rfl ?_
          refine w_iconst ok d7_62 (v := (0 : Int32)) rfl ?_
          refine w_callS ok (y := mn_8) (argsL := [(.ref p), (.int (0 : Int32))]) (rest := []) d7_63 (hw _ (List.mem_of_getElem? (i := 34) rfl)) (hw _ (List.mem_of_getElem? (i := 35) rfl)) (hw _ (List.mem_of_getElem? (i := 4) rfl)) (hw _ (List.mem_of_getElem? (i := 36) rfl)) (by decide) pd_285bBI29Z rfl rfl (by decide) (Nat.le_of_ble_eq_true rfl) (by decide) (by decide) (fun z0 => rm_star l Z a0 hw [] n0 h0 z0 p [x0, x1, x2, x3] A_p 0 (Nat.le_of_ble_eq_true rfl) (Nat.le_of_ble_eq_true rfl)) (fun v410 h411 qv410 => ?_)
          obtain ⟨⟨rfl, s0⟩ | ⟨rfl, s0⟩, rfl⟩ := qv410
          · skip
            replace s0 : x0 = 42 := s0
            show W K l _ n0 _ h0 0 0 66 #[.val (.ref p), .val (.ref n), .val (.int (4 : Int32)), .val (.int (Int32.ofNat ns.length)), .val (.int (3 : Int32)), .unset, .unset, .unset, .unset, .unset, .unset, .unset, .unset] [(.int (1 : Int32))]
            refine w_if_eq ok d7_66 (pc' := 72) (by decide) (fun hc413 => False.elim (by revert hc413; decide)) (fun hc413 => ?_)
            refine w_iconst ok d7_69 (v := (0 : Int32)) rfl ?_
            refine w_istore ok d7_70 (L' := #[.val (.ref p), .val (.ref n), .val (.int (4 : Int32)), .val (.int (Int32.ofNat ns.length)), .val (.int (0 : Int32)), .unset, .unset, .unset, .unset, .unset, .unset, .unset, .unset]) rfl ?_
            refine w_iload ok d7_72 rfl ?_
            refine w_if_ge ok d7_74 (pc' := 99) (by decide) (fun hc415 => ?_) (fun hc415 => False.elim (by revert hc415; decide))
            refine w_iconst ok d7_99 (v := (-1 : Int32)) rfl ?_
            refine w_istore ok d7_100 (L' := #[.val (.ref p), .val (.ref n), .val (.int (4 : Int32)), .val (.int (Int32.ofNat ns.length)), .val (.int (0 : Int32)), .val (.int (-1 : Int32)), .unset, .unset, .unset, .unset, .unset, .unset, .unset]) rfl ?_
            refine w_iloadN ok d7_102 rfl ?_
            refine w_if_le ok d7_103 (pc' := 117) (by decide) (fun hc417 => False.elim (by revert hc417; decide)) (fun hc417 => ?_)
            refine w_aloadN ok d7_106 rfl rfl ?_
            refine w_iconst ok d7_107 (v := (0 : Int32)) rfl ?_
            refine w_callS ok (y := mn_8) (argsL := [(.ref p), (.int (0 : Int32))]) (rest := []) d7_108 (hw _ (List.mem_of_getElem? (i := 34) rfl)) (hw _ (List.mem_of_getElem? (i := 35) rfl)) (hw _ (List.mem_of_getElem? (i := 4) rfl)) (hw _ (List.mem_of_getElem? (i := 36) rfl)) (by decide) pd_285bBI29Z rfl rfl (by decide) (Nat.le_of_ble_eq_true rfl) (by decide) (by decide) (fun z0 => rm_star l Z a0 hw [] n0 h0 z0 p [x0, x1, x2, x3] A_p 0 (Nat.le_of_ble_eq_true rfl) (Nat.le_of_ble_eq_true rfl)) (fun v418 h419 qv418 => ?_)
            obtain ⟨⟨rfl, t420⟩ | ⟨rfl, t420⟩, rfl⟩ := qv418
            · skip
              replace t420 : x0 = 42 := t420
              show W K l _ n0 _ h0 0 0 111 #[.val (.ref p), .val (.ref n), .val (.int (4 : Int32)), .val (.int (Int32.ofNat ns.length)), .val (.int (0 : Int32)), .val (.int (-1 : Int32)), .unset, .unset, .unset, .unset, .unset, .unset, .unset] [(.int (1 : Int32))]
              refine w_if_eq ok d7_111 (pc' := 117) (by decide) (fun hc422 => False.elim (by revert hc422; decide)) (fun hc422 => ?_)
              refine w_iconst ok d7_114 (v := (0 : Int32)) rfl ?_
              refine w_istore ok d7_115 (L' := #[.val (.ref p), .val (.ref n), .val (.int (4 : Int32)), .val (.int (Int32.ofNat ns.length)), .val (.int (0 : Int32)), .val (.int (0 : Int32)), .unset, .unset, .unset, .unset, .unset, .unset, .unset]) rfl ?_
              refine w_iloadN ok d7_117 rfl ?_
              refine w_iconst ok d7_118 (v := (1 : Int32)) rfl ?_
              refine w_icmp_le ok d7_119 (pc' := 133) (by decide) (fun hc424 => False.elim (by revert hc424; decide)) (fun hc424 => ?_)
              refine w_aloadN ok d7_122 rfl rfl ?_
              refine w_iconst ok d7_123 (v := (1 : Int32)) rfl ?_
              refine w_callS ok (y := mn_8) (argsL := [(.ref p), (.int (1 : Int32))]) (rest := []) d7_124 (hw _ (List.mem_of_getElem? (i := 34) rfl)) (hw _ (List.mem_of_getElem? (i := 35) rfl)) (hw _ (List.mem_of_getElem? (i := 4) rfl)) (hw _ (List.mem_of_getElem? (i := 36) rfl)) (by decide) pd_285bBI29Z rfl rfl (by decide) (Nat.le_of_ble_eq_true rfl) (by decide) (by decide) (fun z0 => rm_star l Z a0 hw [] n0 h0 z0 p [x0, x1, x2, x3] A_p 1 (Nat.le_of_ble_eq_true rfl) (Nat.le_of_ble_eq_true rfl)) (fun v425 h426 qv425 => ?_)
              obtain ⟨⟨rfl, t427⟩ | ⟨rfl, t427⟩, rfl⟩ := qv425
              · exact absurd t427 s1
              · skip
                replace t427 : ¬ (x1 = 42) := t427
                show W K l _ n0 _ h0 0 0 127 #[.val (.ref p), .val (.ref n), .val (.int (4 : Int32)), .val (.int (Int32.ofNat ns.length)), .val (.int (0 : Int32)), .val (.int (0 : Int32)), .unset, .unset, .unset, .unset, .unset, .unset, .unset] [(.int (0 : Int32))]
                refine w_if_eq ok d7_127 (pc' := 133) (by decide) (fun hc429 => ?_) (fun hc429 => False.elim (by revert hc429; decide))
                refine w_iloadN ok d7_133 rfl ?_
                refine w_iconst ok d7_134 (v := (2 : Int32)) rfl ?_
                refine w_icmp_le ok d7_135 (pc' := 149) (by decide) (fun hc431 => False.elim (by revert hc431; decide)) (fun hc431 => ?_)
                refine w_aloadN ok d7_138 rfl rfl ?_
                refine w_iconst ok d7_139 (v := (2 : Int32)) rfl ?_
                refine w_callS ok (y := mn_8) (argsL := [(.ref p), (.int (2 : Int32))]) (rest := []) d7_140 (hw _ (List.mem_of_getElem? (i := 34) rfl)) (hw _ (List.mem_of_getElem? (i := 35) rfl)) (hw _ (List.mem_of_getElem? (i := 4) rfl)) (hw _ (List.mem_of_getElem? (i := 36) rfl)) (by decide) pd_285bBI29Z rfl rfl (by decide) (Nat.le_of_ble_eq_true rfl) (by decide) (by decide) (fun z0 => rm_star l Z a0 hw [] n0 h0 z0 p [x0, x1, x2, x3] A_p 2 (Nat.le_of_ble_eq_true rfl) (Nat.le_of_ble_eq_true rfl)) (fun v432 h433 qv432 => ?_)
                obtain ⟨⟨rfl, t434⟩ | ⟨rfl, t434⟩, rfl⟩ := qv432
                · exact absurd t434 s2
                · skip
                  replace t434 : ¬ (x2 = 42) := t434
                  show W K l _ n0 _ h0 0 0 143 #[.val (.ref p), .val (.ref n), .val (.int (4 : Int32)), .val (.int (Int32.ofNat ns.length)), .val (.int (0 : Int32)), .val (.int (0 : Int32)), .unset, .unset, .unset, .unset, .unset, .unset, .unset] [(.int (0 : Int32))]
                  refine w_if_eq ok d7_143 (pc' := 149) (by decide) (fun hc436 => ?_) (fun hc436 => False.elim (by revert hc436; decide))
                  refine w_iloadN ok d7_149 rfl ?_
                  refine w_iconst ok d7_150 (v := (3 : Int32)) rfl ?_
                  refine w_icmp_le ok d7_151 (pc' := 165) (by decide) (fun hc438 => False.elim (by revert hc438; decide)) (fun hc438 => ?_)
                  refine w_aloadN ok d7_154 rfl rfl ?_
                  refine w_iconst ok d7_155 (v := (3 : Int32)) rfl ?_
                  refine w_callS ok (y := mn_8) (argsL := [(.ref p), (.int (3 : Int32))]) (rest := []) d7_156 (hw _ (List.mem_of_getElem? (i := 34) rfl)) (hw _ (List.mem_of_getElem? (i := 35) rfl)) (hw _ (List.mem_of_getElem? (i := 4) rfl)) (hw _ (List.mem_of_getElem? (i := 36) rfl)) (by decide) pd_285bBI29Z rfl rfl (by decide) (Nat.le_of_ble_eq_true rfl) (by decide) (by decide) (fun z0 => rm_star l Z a0 hw [] n0 h0 z0 p [x0, x1, x2, x3] A_p 3 (Nat.le_of_ble_eq_true rfl) (Nat.le_of_ble_eq_true rfl)) (fun v439 h440 qv439 => ?_)
                  obtain ⟨⟨rfl, t441⟩ | ⟨rfl, t441⟩, rfl⟩ := qv439
                  · skip
                    replace t441 : x3 = 42 := t441
                    show W K l _ n0 _ h0 0 0 159 #[.val (.ref p), .val (.ref n), .val (.int (4 : Int32)), .val (.int (Int32.ofNat ns.length)), .val (.int (0 : Int32)), .val (.int (0 : Int32)), .unset, .unset, .unset, .unset, .unset, .unset, .unset] [(.int (1 : Int32))]
                    refine w_if_eq ok d7_159 (pc' := 165) (by decide) (fun hc443 => False.elim (by revert hc443; decide)) (fun hc443 => ?_)
                    refine w_iconst ok d7_162 (v := (3 : Int32)) rfl ?_
                    refine w_istore ok d7_163 (L' := #[.val (.ref p), .val (.ref n), .val (.int (4 : Int32)), .val (.int (Int32.ofNat ns.length)), .val (.int (0 : Int32)), .val (.int (3 : Int32)), .unset, .unset, .unset, .unset, .unset, .unset, .unset]) rfl ?_
                    refine w_iload ok d7_165 rfl ?_
                    refine w_istore ok d7_167 (L' := #[.val (.ref p), .val (.ref n), .val (.int (4 : Int32)), .val (.int (Int32.ofNat ns.length)), .val (.int (0 : Int32)), .val (.int (3 : Int32)), .val (.int (0 : Int32)), .unset, .unset, .unset, .unset, .unset, .unset]) rfl ?_
                    refine w_iloadN ok d7_169 rfl ?_
                    refine w_iconst ok d7_170 (v := (1 : Int32)) rfl ?_
                    refine w_isub ok d7_171 ?_
                    show W K l _ n0 _ h0 0 0 172 #[.val (.ref p), .val (.ref n), .val (.int (4 : Int32)), .val (.int (Int32.ofNat ns.length)), .val (.int (0 : Int32)), .val (.int (3 : Int32)), .val (.int (0 : Int32)), .unset, .unset, .unset, .unset, .unset, .unset] [(.int (3 : Int32))]
                    refine w_iload ok d7_172 rfl ?_
                    refine w_isub ok d7_174 ?_
                    show W K l _ n0 _ h0 0 0 175 #[.val (.ref p), .val (.ref n), .val (.int (4 : Int32)), .val (.int (Int32.ofNat ns.length)), .val (.int (0 : Int32)), .val (.int (3 : Int32)), .val (.int (0 : Int32)), .unset, .unset, .unset, .unset, .unset, .unset] [(.int (0 : Int32))]
                    refine w_istore ok d7_175 (L' := #[.val (.ref p), .val (.ref n), .val (.int (4 : Int32)), .val (.int (Int32.ofNat ns.length)), .val (.int (0 : Int32)), .val (.int (3 : Int32)), .val (.int (0 : Int32)), .val (.int (0 : Int32)), .unset, .unset, .unset, .unset, .unset]) rfl ?_
                    refine w_iloadN ok d7_177 rfl ?_
                    refine w_iload ok d7_178 rfl ?_
                    refine w_iload ok d7_180 rfl ?_
                    refine w_iadd ok d7_182 ?_
                    show W K l _ n0 _ h0 0 0 183 #[.val (.ref p), .val (.ref n), .val (.int (4 : Int32)), .val (.int (Int32.ofNat ns.length)), .val (.int (0 : Int32)), .val (.int (3 : Int32)), .val (.int (0 : Int32)), .val (.int (0 : Int32)), .unset, .unset, .unset, .unset, .unset] [(.int (0 : Int32)), (.int (Int32.ofNat ns.length))]
                    refine w_icmp_ge ok d7_183 (pc' := 188) (by decide) (fun hc445 => ?_) (fun hc445 => ?_)
                    · skip
                      have hge : 0 ≤ ns.length := by have q := hc445; rw [show (0 : Int32) = Int32.ofNat 0 from rfl, own_lt (by omega) (by omega)] at q; omega
                      refine w_aloadN ok d7_188 rfl rfl ?_
                      refine w_iconst ok d7_189 (v := (0 : Int32)) rfl ?_
                      refine w_iload ok d7_190 rfl ?_
                      refine w_aloadN ok d7_192 rfl rfl ?_
                      refine w_iconst ok d7_193 (v := (0 : Int32)) rfl ?_
                      refine w_callS ok (y := mn_9) (argsL := [(.ref p), (.int (0 : Int32)), (.int (0 : Int32)), (.ref n), (.int (0 : Int32))]) (rest := []) d7_194 (hw _ (List.mem_of_getElem? (i := 37) rfl)) (hw _ (List.mem_of_getElem? (i := 38) rfl)) (hw _ (List.mem_of_getElem? (i := 4) rfl)) (hw _ (List.mem_of_getElem? (i := 39) rfl)) (by decide) pd_285bBII5bBI29Z rfl rfl (by decide) (Nat.le_of_ble_eq_true rfl) (by decide) (by decide) (fun z0 => rm_seg l Z a0 hw [] n0 h0 z0 p n [x0, x1, x2, x3] ns A_p A_n 0 0 0 _ rfl (Nat.le_of_ble_eq_true rfl) (by decide) (by omega) (Nat.le_of_ble_eq_true rfl) ln) (fun v446 h447 qv446 => ?_)
                      obtain ⟨⟨rfl, sgp⟩ | ⟨rfl, sgp⟩, rfl⟩ := qv446
                      · skip
                        replace sgp : SGl [] ns 0 := sgp
                        show W K l _ n0 _ h0 0 0 197 #[.val (.ref p), .val (.ref n), .val (.int (4 : Int32)), .val (.int (Int32.ofNat ns.length)), .val (.int (0 : Int32)), .val (.int (3 : Int32)), .val (.int (0 : Int32)), .val (.int (0 : Int32)), .unset, .unset, .unset, .unset, .unset] [(.int (1 : Int32))]
                        refine w_if_ne ok d7_197 (pc' := 202) (by decide) (fun hc449 => ?_) (fun hc449 => False.elim (by revert hc449; decide))
                        refine w_aloadN ok d7_202 rfl rfl ?_
                        refine w_iload ok d7_203 rfl ?_
                        refine w_iconst ok d7_205 (v := (1 : Int32)) rfl ?_
                        refine w_iadd ok d7_206 ?_
                        show W K l _ n0 _ h0 0 0 207 #[.val (.ref p), .val (.ref n), .val (.int (4 : Int32)), .val (.int (Int32.ofNat ns.length)), .val (.int (0 : Int32)), .val (.int (3 : Int32)), .val (.int (0 : Int32)), .val (.int (0 : Int32)), .unset, .unset, .unset, .unset, .unset] [(.int (4 : Int32)), (.ref p)]
                        refine w_iload ok d7_207 rfl ?_
                        refine w_aloadN ok d7_209 rfl rfl ?_
                        refine w_iloadN ok d7_210 rfl ?_
                        refine w_iload ok d7_211 rfl ?_
                        refine w_isub ok d7_213 ?_
                        refine w_callS ok (y := mn_9) (argsL := [(.ref p), (.int (4 : Int32)), (.int (0 : Int32)), (.ref n), (.int ((Int32.ofNat ns.length) - (0 : Int32)))]) (rest := []) d7_214 (hw _ (List.mem_of_getElem? (i := 37) rfl)) (hw _ (List.mem_of_getElem? (i := 38) rfl)) (hw _ (List.mem_of_getElem? (i := 4) rfl)) (hw _ (List.mem_of_getElem? (i := 39) rfl)) (by decide) pd_285bBII5bBI29Z rfl rfl (by decide) (Nat.le_of_ble_eq_true rfl) (by decide) (by decide) (fun z0 => rm_seg l Z a0 hw [] n0 h0 z0 p n [x0, x1, x2, x3] ns A_p A_n 4 0 (ns.length - 0) _ (own_subk (k := 0) rfl (by omega) (by omega)) (Nat.le_of_ble_eq_true rfl) (by decide) (by omega) (Nat.le_of_ble_eq_true rfl) ln) (fun v450 h451 qv450 => ?_)
                        obtain ⟨⟨rfl, sgs⟩ | ⟨rfl, sgs⟩, rfl⟩ := qv450
                        · skip
                          replace sgs : SGl [] ns (ns.length - 0) := sgs
                          show W K l _ n0 _ h0 0 0 217 #[.val (.ref p), .val (.ref n), .val (.int (4 : Int32)), .val (.int (Int32.ofNat ns.length)), .val (.int (0 : Int32)), .val (.int (3 : Int32)), .val (.int (0 : Int32)), .val (.int (0 : Int32)), .unset, .unset, .unset, .unset, .unset] [(.int (1 : Int32))]
                          refine w_if_ne ok d7_217 (pc' := 222) (by decide) (fun hc453 => ?_) (fun hc453 => False.elim (by revert hc453; decide))
                          refine w_iload ok d7_222 rfl ?_
                          refine w_iload ok d7_224 rfl ?_
                          refine w_isub ok d7_226 ?_
                          show W K l _ n0 _ h0 0 0 227 #[.val (.ref p), .val (.ref n), .val (.int (4 : Int32)), .val (.int (Int32.ofNat ns.length)), .val (.int (0 : Int32)), .val (.int (3 : Int32)), .val (.int (0 : Int32)), .val (.int (0 : Int32)), .unset, .unset, .unset, .unset, .unset] [(.int (3 : Int32))]
                          refine w_iconst ok d7_227 (v := (1 : Int32)) rfl ?_
                          refine w_isub ok d7_228 ?_
                          show W K l _ n0 _ h0 0 0 229 #[.val (.ref p), .val (.ref n), .val (.int (4 : Int32)), .val (.int (Int32.ofNat ns.length)), .val (.int (0 : Int32)), .val (.int (3 : Int32)), .val (.int (0 : Int32)), .val (.int (0 : Int32)), .unset, .unset, .unset, .unset, .unset] [(.int (2 : Int32))]
                          refine w_istore ok d7_229 (L' := #[.val (.ref p), .val (.ref n), .val (.int (4 : Int32)), .val (.int (Int32.ofNat ns.length)), .val (.int (0 : Int32)), .val (.int (3 : Int32)), .val (.int (0 : Int32)), .val (.int (0 : Int32)), .val (.int (2 : Int32)), .unset, .unset, .unset, .unset]) rfl ?_
                          refine w_iload ok d7_231 rfl ?_
                          refine w_iconst ok d7_233 (v := (1 : Int32)) rfl ?_
                          refine w_iadd ok d7_234 ?_
                          show W K l _ n0 _ h0 0 0 235 #[.val (.ref p), .val (.ref n), .val (.int (4 : Int32)), .val (.int (Int32.ofNat ns.length)), .val (.int (0 : Int32)), .val (.int (3 : Int32)), .val (.int (0 : Int32)), .val (.int (0 : Int32)), .val (.int (2 : Int32)), .unset, .unset, .unset, .unset] [(.int (1 : Int32))]
                          refine w_istore ok d7_235 (L' := #[.val (.ref p), .val (.ref n), .val (.int (4 : Int32)), .val (.int (Int32.ofNat ns.length)), .val (.int (0 : Int32)), .val (.int (3 : Int32)), .val (.int (0 : Int32)), .val (.int (0 : Int32)), .val (.int (2 : Int32)), .val (.int (1 : Int32)), .unset, .unset, .unset]) rfl ?_
                          refine w_iconst ok d7_237 (v := (0 : Int32)) rfl ?_
                          refine w_istore ok d7_238 (L' := #[.val (.ref p), .val (.ref n), .val (.int (4 : Int32)), .val (.int (Int32.ofNat ns.length)), .val (.int (0 : Int32)), .val (.int (3 : Int32)), .val (.int (0 : Int32)), .val (.int (0 : Int32)), .val (.int (2 : Int32)), .val (.int (1 : Int32)), .val (.int (0 : Int32)), .unset, .unset]) rfl ?_
                          refine w_iload ok d7_240 rfl ?_
                          refine w_iconst ok d7_242 (v := (1 : Int32)) rfl ?_
                          refine w_icmp_ne ok d7_243 (pc' := 263) (by decide) (fun hc455 => ?_) (fun hc455 => False.elim (by revert hc455; decide))
                          refine w_iload ok d7_263 rfl ?_
                          refine w_iconst ok d7_265 (v := (2 : Int32)) rfl ?_
                          refine w_icmp_ne ok d7_266 (pc' := 340) (by decide) (fun hc457 => False.elim (by revert hc457; decide)) (fun hc457 => ?_)
                          refine w_aloadN ok d7_269 rfl rfl ?_
                          refine w_iload ok d7_270 rfl ?_
                          refine w_iconst ok d7_272 (v := (1 : Int32)) rfl ?_
                          refine w_iadd ok d7_273 ?_
                          show W K l _ n0 _ h0 0 0 274 #[.val (.ref p), .val (.ref n), .val (.int (4 : Int32)), .val (.int (Int32.ofNat ns.length)), .val (.int (0 : Int32)), .val (.int (3 : Int32)), .val (.int (0 : Int32)), .val (.int (0 : Int32)), .val (.int (2 : Int32)), .val (.int (1 : Int32)), .val (.int (0 : Int32)), .unset, .unset] [(.int (1 : Int32)), (.ref p)]
                          refine w_callS ok (y := mn_8) (argsL := [(.ref p), (.int (1 : Int32))]) (rest := []) d7_274 (hw _ (List.mem_of_getElem? (i := 34) rfl)) (hw _ (List.mem_of_getElem? (i := 35) rfl)) (hw _ (List.mem_of_getElem? (i := 4) rfl)) (hw _ (List.mem_of_getElem? (i := 36) rfl)) (by decide) pd_285bBI29Z rfl rfl (by decide) (Nat.le_of_ble_eq_true rfl) (by decide) (by decide) (fun z0 => rm_star l Z a0 hw [] n0 h0 z0 p [x0, x1, x2, x3] A_p 1 (Nat.le_of_ble_eq_true rfl) (Nat.le_of_ble_eq_true rfl)) (fun v458 h459 qv458 => ?_)
                          obtain ⟨⟨rfl, t460⟩ | ⟨rfl, t460⟩, rfl⟩ := qv458
                          · exact absurd t460 s1
                          · skip
                            replace t460 : ¬ (x1 = 42) := t460
                            show W K l _ n0 _ h0 0 0 277 #[.val (.ref p), .val (.ref n), .val (.int (4 : Int32)), .val (.int (Int32.ofNat ns.length)), .val (.int (0 : Int32)), .val (.int (3 : Int32)), .val (.int (0 : Int32)), .val (.int (0 : Int32)), .val (.int (2 : Int32)), .val (.int (1 : Int32)), .val (.int (0 : Int32)), .unset, .unset] [(.int (0 : Int32))]
                            refine w_istore ok d7_277 (L' := #[.val (.ref p), .val (.ref n), .val (.int (4 : Int32)), .val (.int (Int32.ofNat ns.length)), .val (.int (0 : Int32)), .val (.int (3 : Int32)), .val (.int (0 : Int32)), .val (.int (0 : Int32)), .val (.int (2 : Int32)), .val (.int (1 : Int32)), .val (.int (0 : Int32)), .val (.int (0 : Int32)), .unset]) rfl ?_
                            refine w_aloadN ok d7_279 rfl rfl ?_
                            refine w_iload ok d7_280 rfl ?_
                            refine w_iconst ok d7_282 (v := (2 : Int32)) rfl ?_
                            refine w_iadd ok d7_283 ?_
                            show W K l _ n0 _ h0 0 0 284 #[.val (.ref p), .val (.ref n), .val (.int (4 : Int32)), .val (.int (Int32.ofNat ns.length)), .val (.int (0 : Int32)), .val (.int (3 : Int32)), .val (.int (0 : Int32)), .val (.int (0 : Int32)), .val (.int (2 : Int32)), .val (.int (1 : Int32)), .val (.int (0 : Int32)), .val (.int (0 : Int32)), .unset] [(.int (2 : Int32)), (.ref p)]
                            refine w_callS ok (y := mn_8) (argsL := [(.ref p), (.int (2 : Int32))]) (rest := []) d7_284 (hw _ (List.mem_of_getElem? (i := 34) rfl)) (hw _ (List.mem_of_getElem? (i := 35) rfl)) (hw _ (List.mem_of_getElem? (i := 4) rfl)) (hw _ (List.mem_of_getElem? (i := 36) rfl)) (by decide) pd_285bBI29Z rfl rfl (by decide) (Nat.le_of_ble_eq_true rfl) (by decide) (by decide) (fun z0 => rm_star l Z a0 hw [] n0 h0 z0 p [x0, x1, x2, x3] A_p 2 (Nat.le_of_ble_eq_true rfl) (Nat.le_of_ble_eq_true rfl)) (fun v461 h462 qv461 => ?_)
                            obtain ⟨⟨rfl, t463⟩ | ⟨rfl, t463⟩, rfl⟩ := qv461
                            · exact absurd t463 s2
                            · skip
                              replace t463 : ¬ (x2 = 42) := t463
                              show W K l _ n0 _ h0 0 0 287 #[.val (.ref p), .val (.ref n), .val (.int (4 : Int32)), .val (.int (Int32.ofNat ns.length)), .val (.int (0 : Int32)), .val (.int (3 : Int32)), .val (.int (0 : Int32)), .val (.int (0 : Int32)), .val (.int (2 : Int32)), .val (.int (1 : Int32)), .val (.int (0 : Int32)), .val (.int (0 : Int32)), .unset] [(.int (0 : Int32))]
                              refine w_istore ok d7_287 (L' := #[.val (.ref p), .val (.ref n), .val (.int (4 : Int32)), .val (.int (Int32.ofNat ns.length)), .val (.int (0 : Int32)), .val (.int (3 : Int32)), .val (.int (0 : Int32)), .val (.int (0 : Int32)), .val (.int (2 : Int32)), .val (.int (1 : Int32)), .val (.int (0 : Int32)), .val (.int (0 : Int32)), .val (.int (0 : Int32))]) rfl ?_
                              refine w_iload ok d7_289 rfl ?_
                              refine w_if_ne ok d7_291 (pc' := 305) (by decide) (fun hc465 => False.elim (by revert hc465; decide)) (fun hc465 => ?_)
                              refine w_iload ok d7_294 rfl ?_
                              refine w_if_ne ok d7_296 (pc' := 305) (by decide) (fun hc467 => False.elim (by revert hc467; decide)) (fun hc467 => ?_)
                              refine w_iconst ok d7_299 (v := (2 : Int32)) rfl ?_
                              refine w_istore ok d7_300 (L' := #[.val (.ref p), .val (.ref n), .val (.int (4 : Int32)), .val (.int (Int32.ofNat ns.length)), .val (.int (0 : Int32)), .val (.int (3 : Int32)), .val (.int (0 : Int32)), .val (.int (0 : Int32)), .val (.int (2 : Int32)), .val (.int (1 : Int32)), .val (.int (2 : Int32)), .val (.int (0 : Int32)), .val (.int (0 : Int32))]) rfl ?_
                              refine w_goto ok d7_302 (pc' := 340) (by decide) ?_
                              refine w_iload ok d7_340 rfl ?_
                              refine w_if_ne ok d7_342 (pc' := 347) (by decide) (fun hc469 => ?_) (fun hc469 => False.elim (by revert hc469; decide))
                              refine w_aloadN ok d7_347 rfl rfl ?_
                              refine w_iload ok d7_348 rfl ?_
                              refine w_iload ok d7_350 rfl ?_
                              refine w_aloadN ok d7_352 rfl rfl ?_
                              refine w_iload ok d7_353 rfl ?_
                              refine w_iloadN ok d7_355 rfl ?_
                              refine w_iload ok d7_356 rfl ?_
                              refine w_isub ok d7_358 ?_
                              refine w_callS ok (y := mn_11) (argsL := [(.ref p), (.int (1 : Int32)), (.int (2 : Int32)), (.ref n), (.int (0 : Int32)), (.int ((Int32.ofNat ns.length) - (0 : Int32)))]) (rest := []) d7_359 (hw _ (List.mem_of_getElem? (i := 43) rfl)) (hw _ (List.mem_of_getElem? (i := 44) rfl)) (hw _ (List.mem_of_getElem? (i := 4) rfl)) (hw _ (List.mem_of_getElem? (i := 45) rfl)) (by decide) pd_285bBII5bBII29Z rfl rfl (by decide) (Nat.le_of_ble_eq_true rfl) (by decide) (by decide) (fun z0 => rm_found l Z a0 hw [] n0 h0 z0 p n [x0, x1, x2, x3] ns A_p A_n 1 2 0 (ns.length - 0) _ (own_subk (k := 0) rfl (by omega) (by omega)) (Nat.le_of_ble_eq_true rfl) (by decide) (Nat.le_of_ble_eq_true rfl) ln (by decide) (by omega)) (fun v470 h471 qv470 => ?_)
                              obtain ⟨⟨rfl, fo⟩ | ⟨rfl, fo⟩, rfl⟩ := qv470
                              · skip
                                replace fo : ∃ i, 0 ≤ i ∧ i + 2 ≤ ns.length - 0 ∧ SGl [x1, x2] ns i := fo
                                show W K l _ n0 _ h0 0 0 362 #[.val (.ref p), .val (.ref n), .val (.int (4 : Int32)), .val (.int (Int32.ofNat ns.length)), .val (.int (0 : Int32)), .val (.int (3 : Int32)), .val (.int (0 : Int32)), .val (.int (0 : Int32)), .val (.int (2 : Int32)), .val (.int (1 : Int32)), .val (.int (2 : Int32)), .val (.int (0 : Int32)), .val (.int (0 : Int32))] [(.int (1 : Int32))]
                                refine w_bret ok (by simp) d7_362 (by decide) (by decide) ?_
                                subst s0 s3
                                have key : Gi ns [42, x1, x2, 42] 0 ↔ _ := (own_two (ns := ns) (P := []) (R := [x1, x2]) (Q := []) NoS_nil (NoS_cons s1 (NoS_cons s2 NoS_nil)) NoS_nil)
                                exact ⟨Or.inl ⟨rfl, key.mpr ⟨hge, sgp, sgs, fo⟩⟩, rfl⟩
                              · skip
                                replace fo : ¬ (∃ i, 0 ≤ i ∧ i + 2 ≤ ns.length - 0 ∧ SGl [x1, x2] ns i) := fo
                                show W K l _ n0 _ h0 0 0 362 #[.val (.ref p), .val (.ref n), .val (.int (4 : Int32)), .val (.int (Int32.ofNat ns.length)), .val (.int (0 : Int32)), .val (.int (3 : Int32)), .val (.int (0 : Int32)), .val (.int (0 : Int32)), .val (.int (2 : Int32)), .val (.int (1 : Int32)), .val (.int (2 : Int32)), .val (.int (0 : Int32)), .val (.int (0 : Int32))] [(.int (0 : Int32))]
                                refine w_bret ok (by simp) d7_362 (by decide) (by decide) ?_
                                subst s0 s3
                                have key : Gi ns [42, x1, x2, 42] 0 ↔ _ := (own_two (ns := ns) (P := []) (R := [x1, x2]) (Q := []) NoS_nil (NoS_cons s1 (NoS_cons s2 NoS_nil)) NoS_nil)
                                exact ⟨Or.inr ⟨rfl, fun q => fo (key.mp q).2.2.2⟩, rfl⟩
                        · skip
                          replace sgs : ¬ (SGl [] ns (ns.length - 0)) := sgs
                          show W K l _ n0 _ h0 0 0 217 #[.val (.ref p), .val (.ref n), .val (.int (4 : Int32)), .val (.int (Int32.ofNat ns.length)), .val (.int (0 : Int32)), .val (.int (3 : Int32)), .val (.int (0 : Int32)), .val (.int (0 : Int32)), .unset, .unset, .unset, .unset, .unset] [(.int (0 : Int32))]
                          refine w_if_ne ok d7_217 (pc' := 222) (by decide) (fun hc473 => False.elim (by revert hc473; decide)) (fun hc473 => ?_)
                          refine w_iconst ok d7_220 (v := (0 : Int32)) rfl ?_
                          refine w_bret ok (by simp) d7_221 (by decide) (by decide) ?_
                          subst s0 s3
                          have key : Gi ns [42, x1, x2, 42] 0 ↔ _ := (own_two (ns := ns) (P := []) (R := [x1, x2]) (Q := []) NoS_nil (NoS_cons s1 (NoS_cons s2 NoS_nil)) NoS_nil)
                          exact ⟨Or.inr ⟨rfl, fun q => sgs (key.mp q).2.2.1⟩, rfl⟩
                      · skip
                        replace sgp : ¬ (SGl [] ns 0) := sgp
                        show W K l _ n0 _ h0 0 0 197 #[.val (.ref p), .val (.ref n), .val (.int (4 : Int32)), .val (.int (Int32.ofNat ns.length)), .val (.int (0 : Int32)), .val (.int (3 : Int32)), .val (.int (0 : Int32)), .val (.int (0 : Int32)), .unset, .unset, .unset, .unset, .unset] [(.int (0 : Int32))]
                        refine w_if_ne ok d7_197 (pc' := 202) (by decide) (fun hc475 => False.elim (by revert hc475; decide)) (fun hc475 => ?_)
                        refine w_iconst ok d7_200 (v := (0 : Int32)) rfl ?_
                        refine w_bret ok (by simp) d7_201 (by decide) (by decide) ?_
                        subst s0 s3
                        have key : Gi ns [42, x1, x2, 42] 0 ↔ _ := (own_two (ns := ns) (P := []) (R := [x1, x2]) (Q := []) NoS_nil (NoS_cons s1 (NoS_cons s2 NoS_nil)) NoS_nil)
                        exact ⟨Or.inr ⟨rfl, fun q => sgp (key.mp q).2.1⟩, rfl⟩
                    · skip
                      refine w_iconst ok d7_186 (v := (0 : Int32)) rfl ?_
                      refine w_bret ok (by simp) d7_187 (by decide) (by decide) ?_
                      subst s0 s3
                      have key : Gi ns [42, x1, x2, 42] 0 ↔ _ := (own_two (ns := ns) (P := []) (R := [x1, x2]) (Q := []) NoS_nil (NoS_cons s1 (NoS_cons s2 NoS_nil)) NoS_nil)
                      refine ⟨Or.inr ⟨rfl, fun q => ?_⟩, rfl⟩
                      have q1 : 0 + 0 ≤ ns.length := (key.mp q).1
                      have q2 := hc445; rw [show (0 : Int32) = Int32.ofNat 0 from rfl, own_lt (by omega) (by omega)] at q2; omega
                  · exact absurd s3 t441
            · exact absurd s0 t420
          · skip
            replace s0 : ¬ (x0 = 42) := s0
            show W K l _ n0 _ h0 0 0 66 #[.val (.ref p), .val (.ref n), .val (.int (4 : Int32)), .val (.int (Int32.ofNat ns.length)), .val (.int (3 : Int32)), .unset, .unset, .unset, .unset, .unset, .unset, .unset, .unset] [(.int (0 : Int32))]
            refine w_if_eq ok d7_66 (pc' := 72) (by decide) (fun hc477 => ?_) (fun hc477 => False.elim (by revert hc477; decide))
            refine w_iload ok d7_72 rfl ?_
            refine w_if_ge ok d7_74 (pc' := 99) (by decide) (fun hc479 => ?_) (fun hc479 => False.elim (by revert hc479; decide))
            refine w_iconst ok d7_99 (v := (-1 : Int32)) rfl ?_
            refine w_istore ok d7_100 (L' := #[.val (.ref p), .val (.ref n), .val (.int (4 : Int32)), .val (.int (Int32.ofNat ns.length)), .val (.int (3 : Int32)), .val (.int (-1 : Int32)), .unset, .unset, .unset, .unset, .unset, .unset, .unset]) rfl ?_
            refine w_iloadN ok d7_102 rfl ?_
            refine w_if_le ok d7_103 (pc' := 117) (by decide) (fun hc481 => False.elim (by revert hc481; decide)) (fun hc481 => ?_)
            refine w_aloadN ok d7_106 rfl rfl ?_
            refine w_iconst ok d7_107 (v := (0 : Int32)) rfl ?_
            refine w_callS ok (y := mn_8) (argsL := [(.ref p), (.int (0 : Int32))]) (rest := []) d7_108 (hw _ (List.mem_of_getElem? (i := 34) rfl)) (hw _ (List.mem_of_getElem? (i := 35) rfl)) (hw _ (List.mem_of_getElem? (i := 4) rfl)) (hw _ (List.mem_of_getElem? (i := 36) rfl)) (by decide) pd_285bBI29Z rfl rfl (by decide) (Nat.le_of_ble_eq_true rfl) (by decide) (by decide) (fun z0 => rm_star l Z a0 hw [] n0 h0 z0 p [x0, x1, x2, x3] A_p 0 (Nat.le_of_ble_eq_true rfl) (Nat.le_of_ble_eq_true rfl)) (fun v482 h483 qv482 => ?_)
            obtain ⟨⟨rfl, t484⟩ | ⟨rfl, t484⟩, rfl⟩ := qv482
            · exact absurd t484 s0
            · skip
              replace t484 : ¬ (x0 = 42) := t484
              show W K l _ n0 _ h0 0 0 111 #[.val (.ref p), .val (.ref n), .val (.int (4 : Int32)), .val (.int (Int32.ofNat ns.length)), .val (.int (3 : Int32)), .val (.int (-1 : Int32)), .unset, .unset, .unset, .unset, .unset, .unset, .unset] [(.int (0 : Int32))]
              refine w_if_eq ok d7_111 (pc' := 117) (by decide) (fun hc486 => ?_) (fun hc486 => False.elim (by revert hc486; decide))
              refine w_iloadN ok d7_117 rfl ?_
              refine w_iconst ok d7_118 (v := (1 : Int32)) rfl ?_
              refine w_icmp_le ok d7_119 (pc' := 133) (by decide) (fun hc488 => False.elim (by revert hc488; decide)) (fun hc488 => ?_)
              refine w_aloadN ok d7_122 rfl rfl ?_
              refine w_iconst ok d7_123 (v := (1 : Int32)) rfl ?_
              refine w_callS ok (y := mn_8) (argsL := [(.ref p), (.int (1 : Int32))]) (rest := []) d7_124 (hw _ (List.mem_of_getElem? (i := 34) rfl)) (hw _ (List.mem_of_getElem? (i := 35) rfl)) (hw _ (List.mem_of_getElem? (i := 4) rfl)) (hw _ (List.mem_of_getElem? (i := 36) rfl)) (by decide) pd_285bBI29Z rfl rfl (by decide) (Nat.le_of_ble_eq_true rfl) (by decide) (by decide) (fun z0 => rm_star l Z a0 hw [] n0 h0 z0 p [x0, x1, x2, x3] A_p 1 (Nat.le_of_ble_eq_true rfl) (Nat.le_of_ble_eq_true rfl)) (fun v489 h490 qv489 => ?_)
              obtain ⟨⟨rfl, t491⟩ | ⟨rfl, t491⟩, rfl⟩ := qv489
              · exact absurd t491 s1
              · skip
                replace t491 : ¬ (x1 = 42) := t491
                show W K l _ n0 _ h0 0 0 127 #[.val (.ref p), .val (.ref n), .val (.int (4 : Int32)), .val (.int (Int32.ofNat ns.length)), .val (.int (3 : Int32)), .val (.int (-1 : Int32)), .unset, .unset, .unset, .unset, .unset, .unset, .unset] [(.int (0 : Int32))]
                refine w_if_eq ok d7_127 (pc' := 133) (by decide) (fun hc493 => ?_) (fun hc493 => False.elim (by revert hc493; decide))
                refine w_iloadN ok d7_133 rfl ?_
                refine w_iconst ok d7_134 (v := (2 : Int32)) rfl ?_
                refine w_icmp_le ok d7_135 (pc' := 149) (by decide) (fun hc495 => False.elim (by revert hc495; decide)) (fun hc495 => ?_)
                refine w_aloadN ok d7_138 rfl rfl ?_
                refine w_iconst ok d7_139 (v := (2 : Int32)) rfl ?_
                refine w_callS ok (y := mn_8) (argsL := [(.ref p), (.int (2 : Int32))]) (rest := []) d7_140 (hw _ (List.mem_of_getElem? (i := 34) rfl)) (hw _ (List.mem_of_getElem? (i := 35) rfl)) (hw _ (List.mem_of_getElem? (i := 4) rfl)) (hw _ (List.mem_of_getElem? (i := 36) rfl)) (by decide) pd_285bBI29Z rfl rfl (by decide) (Nat.le_of_ble_eq_true rfl) (by decide) (by decide) (fun z0 => rm_star l Z a0 hw [] n0 h0 z0 p [x0, x1, x2, x3] A_p 2 (Nat.le_of_ble_eq_true rfl) (Nat.le_of_ble_eq_true rfl)) (fun v496 h497 qv496 => ?_)
                obtain ⟨⟨rfl, t498⟩ | ⟨rfl, t498⟩, rfl⟩ := qv496
                · exact absurd t498 s2
                · skip
                  replace t498 : ¬ (x2 = 42) := t498
                  show W K l _ n0 _ h0 0 0 143 #[.val (.ref p), .val (.ref n), .val (.int (4 : Int32)), .val (.int (Int32.ofNat ns.length)), .val (.int (3 : Int32)), .val (.int (-1 : Int32)), .unset, .unset, .unset, .unset, .unset, .unset, .unset] [(.int (0 : Int32))]
                  refine w_if_eq ok d7_143 (pc' := 149) (by decide) (fun hc500 => ?_) (fun hc500 => False.elim (by revert hc500; decide))
                  refine w_iloadN ok d7_149 rfl ?_
                  refine w_iconst ok d7_150 (v := (3 : Int32)) rfl ?_
                  refine w_icmp_le ok d7_151 (pc' := 165) (by decide) (fun hc502 => False.elim (by revert hc502; decide)) (fun hc502 => ?_)
                  refine w_aloadN ok d7_154 rfl rfl ?_
                  refine w_iconst ok d7_155 (v := (3 : Int32)) rfl ?_
                  refine w_callS ok (y := mn_8) (argsL := [(.ref p), (.int (3 : Int32))]) (rest := []) d7_156 (hw _ (List.mem_of_getElem? (i := 34) rfl)) (hw _ (List.mem_of_getElem? (i := 35) rfl)) (hw _ (List.mem_of_getElem? (i := 4) rfl)) (hw _ (List.mem_of_getElem? (i := 36) rfl)) (by decide) pd_285bBI29Z rfl rfl (by decide) (Nat.le_of_ble_eq_true rfl) (by decide) (by decide) (fun z0 => rm_star l Z a0 hw [] n0 h0 z0 p [x0, x1, x2, x3] A_p 3 (Nat.le_of_ble_eq_true rfl) (Nat.le_of_ble_eq_true rfl)) (fun v503 h504 qv503 => ?_)
                  obtain ⟨⟨rfl, t505⟩ | ⟨rfl, t505⟩, rfl⟩ := qv503
                  · skip
                    replace t505 : x3 = 42 := t505
                    show W K l _ n0 _ h0 0 0 159 #[.val (.ref p), .val (.ref n), .val (.int (4 : Int32)), .val (.int (Int32.ofNat ns.length)), .val (.int (3 : Int32)), .val (.int (-1 : Int32)), .unset, .unset, .unset, .unset, .unset, .unset, .unset] [(.int (1 : Int32))]
                    refine w_if_eq ok d7_159 (pc' := 165) (by decide) (fun hc507 => False.elim (by revert hc507; decide)) (fun hc507 => ?_)
                    refine w_iconst ok d7_162 (v := (3 : Int32)) rfl ?_
                    refine w_istore ok d7_163 (L' := #[.val (.ref p), .val (.ref n), .val (.int (4 : Int32)), .val (.int (Int32.ofNat ns.length)), .val (.int (3 : Int32)), .val (.int (3 : Int32)), .unset, .unset, .unset, .unset, .unset, .unset, .unset]) rfl ?_
                    refine w_iload ok d7_165 rfl ?_
                    refine w_istore ok d7_167 (L' := #[.val (.ref p), .val (.ref n), .val (.int (4 : Int32)), .val (.int (Int32.ofNat ns.length)), .val (.int (3 : Int32)), .val (.int (3 : Int32)), .val (.int (3 : Int32)), .unset, .unset, .unset, .unset, .unset, .unset]) rfl ?_
                    refine w_iloadN ok d7_169 rfl ?_
                    refine w_iconst ok d7_170 (v := (1 : Int32)) rfl ?_
                    refine w_isub ok d7_171 ?_
                    show W K l _ n0 _ h0 0 0 172 #[.val (.ref p), .val (.ref n), .val (.int (4 : Int32)), .val (.int (Int32.ofNat ns.length)), .val (.int (3 : Int32)), .val (.int (3 : Int32)), .val (.int (3 : Int32)), .unset, .unset, .unset, .unset, .unset, .unset] [(.int (3 : Int32))]
                    refine w_iload ok d7_172 rfl ?_
                    refine w_isub ok d7_174 ?_
                    show W K l _ n0 _ h0 0 0 175 #[.val (.ref p), .val (.ref n), .val (.int (4 : Int32)), .val (.int (Int32.ofNat ns.length)), .val (.int (3 : Int32)), .val (.int (3 : Int32)), .val (.int (3 : Int32)), .unset, .unset, .unset, .unset, .unset, .unset] [(.int (0 : Int32))]
                    refine w_istore ok d7_175 (L' := #[.val (.ref p), .val (.ref n), .val (.int (4 : Int32)), .val (.int (Int32.ofNat ns.length)), .val (.int (3 : Int32)), .val (.int (3 : Int32)), .val (.int (3 : Int32)), .val (.int (0 : Int32)), .unset, .unset, .unset, .unset, .unset]) rfl ?_
                    refine w_iloadN ok d7_177 rfl ?_
                    refine w_iload ok d7_178 rfl ?_
                    refine w_iload ok d7_180 rfl ?_
                    refine w_iadd ok d7_182 ?_
                    show W K l _ n0 _ h0 0 0 183 #[.val (.ref p), .val (.ref n), .val (.int (4 : Int32)), .val (.int (Int32.ofNat ns.length)), .val (.int (3 : Int32)), .val (.int (3 : Int32)), .val (.int (3 : Int32)), .val (.int (0 : Int32)), .unset, .unset, .unset, .unset, .unset] [(.int (3 : Int32)), (.int (Int32.ofNat ns.length))]
                    refine w_icmp_ge ok d7_183 (pc' := 188) (by decide) (fun hc509 => ?_) (fun hc509 => ?_)
                    · skip
                      have hge : 3 ≤ ns.length := by have q := hc509; rw [show (3 : Int32) = Int32.ofNat 3 from rfl, own_lt (by omega) (by omega)] at q; omega
                      refine w_aloadN ok d7_188 rfl rfl ?_
                      refine w_iconst ok d7_189 (v := (0 : Int32)) rfl ?_
                      refine w_iload ok d7_190 rfl ?_
                      refine w_aloadN ok d7_192 rfl rfl ?_
                      refine w_iconst ok d7_193 (v := (0 : Int32)) rfl ?_
                      refine w_callS ok (y := mn_9) (argsL := [(.ref p), (.int (0 : Int32)), (.int (3 : Int32)), (.ref n), (.int (0 : Int32))]) (rest := []) d7_194 (hw _ (List.mem_of_getElem? (i := 37) rfl)) (hw _ (List.mem_of_getElem? (i := 38) rfl)) (hw _ (List.mem_of_getElem? (i := 4) rfl)) (hw _ (List.mem_of_getElem? (i := 39) rfl)) (by decide) pd_285bBII5bBI29Z rfl rfl (by decide) (Nat.le_of_ble_eq_true rfl) (by decide) (by decide) (fun z0 => rm_seg l Z a0 hw [] n0 h0 z0 p n [x0, x1, x2, x3] ns A_p A_n 0 3 0 _ rfl (Nat.le_of_ble_eq_true rfl) (by decide) (by omega) (Nat.le_of_ble_eq_true rfl) ln) (fun v510 h511 qv510 => ?_)
                      obtain ⟨⟨rfl, sgp⟩ | ⟨rfl, sgp⟩, rfl⟩ := qv510
                      · skip
                        replace sgp : SGl [x0, x1, x2] ns 0 := sgp
                        show W K l _ n0 _ h0 0 0 197 #[.val (.ref p), .val (.ref n), .val (.int (4 : Int32)), .val (.int (Int32.ofNat ns.length)), .val (.int (3 : Int32)), .val (.int (3 : Int32)), .val (.int (3 : Int32)), .val (.int (0 : Int32)), .unset, .unset, .unset, .unset, .unset] [(.int (1 : Int32))]
                        refine w_if_ne ok d7_197 (pc' := 202) (by decide) (fun hc513 => ?_) (fun hc513 => False.elim (by revert hc513; decide))
                        refine w_aloadN ok d7_202 rfl rfl ?_
                        refine w_iload ok d7_203 rfl ?_
                        refine w_iconst ok d7_205 (v := (1 : Int32)) rfl ?_
                        refine w_iadd ok d7_206 ?_
                        show W K l _ n0 _ h0 0 0 207 #[.val (.ref p), .val (.ref n), .val (.int (4 : Int32)), .val (.int (Int32.ofNat ns.length)), .val (.int (3 : Int32)), .val (.int (3 : Int32)), .val (.int (3 : Int32)), .val (.int (0 : Int32)), .unset, .unset, .unset, .unset, .unset] [(.int (4 : Int32)), (.ref p)]
                        refine w_iload ok d7_207 rfl ?_
                        refine w_aloadN ok d7_209 rfl rfl ?_
                        refine w_iloadN ok d7_210 rfl ?_
                        refine w_iload ok d7_211 rfl ?_
                        refine w_isub ok d7_213 ?_
                        refine w_callS ok (y := mn_9) (argsL := [(.ref p), (.int (4 : Int32)), (.int (0 : Int32)), (.ref n), (.int ((Int32.ofNat ns.length) - (0 : Int32)))]) (rest := []) d7_214 (hw _ (List.mem_of_getElem? (i := 37) rfl)) (hw _ (List.mem_of_getElem? (i := 38) rfl)) (hw _ (List.mem_of_getElem? (i := 4) rfl)) (hw _ (List.mem_of_getElem? (i := 39) rfl)) (by decide) pd_285bBII5bBI29Z rfl rfl (by decide) (Nat.le_of_ble_eq_true rfl) (by decide) (by decide) (fun z0 => rm_seg l Z a0 hw [] n0 h0 z0 p n [x0, x1, x2, x3] ns A_p A_n 4 0 (ns.length - 0) _ (own_subk (k := 0) rfl (by omega) (by omega)) (Nat.le_of_ble_eq_true rfl) (by decide) (by omega) (Nat.le_of_ble_eq_true rfl) ln) (fun v514 h515 qv514 => ?_)
                        obtain ⟨⟨rfl, sgs⟩ | ⟨rfl, sgs⟩, rfl⟩ := qv514
                        · skip
                          replace sgs : SGl [] ns (ns.length - 0) := sgs
                          show W K l _ n0 _ h0 0 0 217 #[.val (.ref p), .val (.ref n), .val (.int (4 : Int32)), .val (.int (Int32.ofNat ns.length)), .val (.int (3 : Int32)), .val (.int (3 : Int32)), .val (.int (3 : Int32)), .val (.int (0 : Int32)), .unset, .unset, .unset, .unset, .unset] [(.int (1 : Int32))]
                          refine w_if_ne ok d7_217 (pc' := 222) (by decide) (fun hc517 => ?_) (fun hc517 => False.elim (by revert hc517; decide))
                          refine w_iload ok d7_222 rfl ?_
                          refine w_iload ok d7_224 rfl ?_
                          refine w_isub ok d7_226 ?_
                          show W K l _ n0 _ h0 0 0 227 #[.val (.ref p), .val (.ref n), .val (.int (4 : Int32)), .val (.int (Int32.ofNat ns.length)), .val (.int (3 : Int32)), .val (.int (3 : Int32)), .val (.int (3 : Int32)), .val (.int (0 : Int32)), .unset, .unset, .unset, .unset, .unset] [(.int (0 : Int32))]
                          refine w_iconst ok d7_227 (v := (1 : Int32)) rfl ?_
                          refine w_isub ok d7_228 ?_
                          show W K l _ n0 _ h0 0 0 229 #[.val (.ref p), .val (.ref n), .val (.int (4 : Int32)), .val (.int (Int32.ofNat ns.length)), .val (.int (3 : Int32)), .val (.int (3 : Int32)), .val (.int (3 : Int32)), .val (.int (0 : Int32)), .unset, .unset, .unset, .unset, .unset] [(.int (-1 : Int32))]
                          refine w_istore ok d7_229 (L' := #[.val (.ref p), .val (.ref n), .val (.int (4 : Int32)), .val (.int (Int32.ofNat ns.length)), .val (.int (3 : Int32)), .val (.int (3 : Int32)), .val (.int (3 : Int32)), .val (.int (0 : Int32)), .val (.int (-1 : Int32)), .unset, .unset, .unset, .unset]) rfl ?_
                          refine w_iload ok d7_231 rfl ?_
                          refine w_iconst ok d7_233 (v := (1 : Int32)) rfl ?_
                          refine w_iadd ok d7_234 ?_
                          show W K l _ n0 _ h0 0 0 235 #[.val (.ref p), .val (.ref n), .val (.int (4 : Int32)), .val (.int (Int32.ofNat ns.length)), .val (.int (3 : Int32)), .val (.int (3 : Int32)), .val (.int (3 : Int32)), .val (.int (0 : Int32)), .val (.int (-1 : Int32)), .unset, .unset, .unset, .unset] [(.int (4 : Int32))]
                          refine w_istore ok d7_235 (L' := #[.val (.ref p), .val (.ref n), .val (.int (4 : Int32)), .val (.int (Int32.ofNat ns.length)), .val (.int (3 : Int32)), .val (.int (3 : Int32)), .val (.int (3 : Int32)), .val (.int (0 : Int32)), .val (.int (-1 : Int32)), .val (.int (4 : Int32)), .unset, .unset, .unset]) rfl ?_
                          refine w_iconst ok d7_237 (v := (0 : Int32)) rfl ?_
                          refine w_istore ok d7_238 (L' := #[.val (.ref p), .val (.ref n), .val (.int (4 : Int32)), .val (.int (Int32.ofNat ns.length)), .val (.int (3 : Int32)), .val (.int (3 : Int32)), .val (.int (3 : Int32)), .val (.int (0 : Int32)), .val (.int (-1 : Int32)), .val (.int (4 : Int32)), .val (.int (0 : Int32)), .unset, .unset]) rfl ?_
                          refine w_iload ok d7_240 rfl ?_
                          refine w_iconst ok d7_242 (v := (1 : Int32)) rfl ?_
                          refine w_icmp_ne ok d7_243 (pc' := 263) (by decide) (fun hc519 => ?_) (fun hc519 => False.elim (by revert hc519; decide))
                          refine w_iload ok d7_263 rfl ?_
                          refine w_iconst ok d7_265 (v := (2 : Int32)) rfl ?_
                          refine w_icmp_ne ok d7_266 (pc' := 340) (by decide) (fun hc521 => ?_) (fun hc521 => False.elim (by revert hc521; decide))
                          refine w_iload ok d7_340 rfl ?_
                          refine w_if_ne ok d7_342 (pc' := 347) (by decide) (fun hc523 => False.elim (by revert hc523; decide)) (fun hc523 => ?_)
                          refine w_iconst ok d7_345 (v := (1 : Int32)) rfl ?_
                          refine w_bret ok (by simp) d7_346 (by decide) (by decide) ?_
                          subst s3
                          have key : Gi ns [x0, x1, x2, 42] 0 ↔ _ := own_one (ns := ns) (P := [x0, x1, x2]) (Q := []) (NoS_cons s0 (NoS_cons s1 (NoS_cons s2 NoS_nil))) NoS_nil
                          exact ⟨Or.inl ⟨rfl, key.mpr ⟨hge, sgp, sgs⟩⟩, rfl⟩
                        · skip
                          replace sgs : ¬ (SGl [] ns (ns.length - 0)) := sgs
                          show W K l _ n0 _ h0 0 0 217 #[.val (.ref p), .val (.ref n), .val (.int (4 : Int32)), .val (.int (Int32.ofNat ns.length)), .val (.int (3 : Int32)), .val (.int (3 : Int32)), .val (.int (3 : Int32)), .val (.int (0 : Int32)), .unset, .unset, .unset, .unset, .unset] [(.int (0 : Int32))]
                          refine w_if_ne ok d7_217 (pc' := 222) (by decide) (fun hc525 => False.elim (by revert hc525; decide)) (fun hc525 => ?_)
                          refine w_iconst ok d7_220 (v := (0 : Int32)) rfl ?_
                          refine w_bret ok (by simp) d7_221 (by decide) (by decide) ?_
                          subst s3
                          have key : Gi ns [x0, x1, x2, 42] 0 ↔ _ := own_one (ns := ns) (P := [x0, x1, x2]) (Q := []) (NoS_cons s0 (NoS_cons s1 (NoS_cons s2 NoS_nil))) NoS_nil
                          exact ⟨Or.inr ⟨rfl, fun q => sgs (key.mp q).2.2⟩, rfl⟩
                      · skip
                        replace sgp : ¬ (SGl [x0, x1, x2] ns 0) := sgp
                        show W K l _ n0 _ h0 0 0 197 #[.val (.ref p), .val (.ref n), .val (.int (4 : Int32)), .val (.int (Int32.ofNat ns.length)), .val (.int (3 : Int32)), .val (.int (3 : Int32)), .val (.int (3 : Int32)), .val (.int (0 : Int32)), .unset, .unset, .unset, .unset, .unset] [(.int (0 : Int32))]
                        refine w_if_ne ok d7_197 (pc' := 202) (by decide) (fun hc527 => False.elim (by revert hc527; decide)) (fun hc527 => ?_)
                        refine w_iconst ok d7_200 (v := (0 : Int32)) rfl ?_
                        refine w_bret ok (by simp) d7_201 (by decide) (by decide) ?_
                        subst s3
                        have key : Gi ns [x0, x1, x2, 42] 0 ↔ _ := own_one (ns := ns) (P := [x0, x1, x2]) (Q := []) (NoS_cons s0 (NoS_cons s1 (NoS_cons s2 NoS_nil))) NoS_nil
                        exact ⟨Or.inr ⟨rfl, fun q => sgp (key.mp q).2.1⟩, rfl⟩
                    · skip
                      refine w_iconst ok d7_186 (v := (0 : Int32)) rfl ?_
                      refine w_bret ok (by simp) d7_187 (by decide) (by decide) ?_
                      subst s3
                      have key : Gi ns [x0, x1, x2, 42] 0 ↔ _ := own_one (ns := ns) (P := [x0, x1, x2]) (Q := []) (NoS_cons s0 (NoS_cons s1 (NoS_cons s2 NoS_nil))) NoS_nil
                      refine ⟨Or.inr ⟨rfl, fun q => ?_⟩, rfl⟩
                      have q1 : 3 + 0 ≤ ns.length := (key.mp q).1
                      have q2 := hc509; rw [show (3 : Int32) = Int32.ofNat 3 from rfl, own_lt (by omega) (by omega)] at q2; omega
                  · exact absurd s3 t505
    · skip
      replace s3 : ¬ (x3 = 42) := s3
      show W K l _ n0 _ h0 0 0 19 #[.val (.ref p), .val (.ref n), .val (.int (4 : Int32)), .val (.int (Int32.ofNat ns.length)), .val (.int (-1 : Int32)), .unset, .unset, .unset, .unset, .unset, .unset, .unset, .unset] [(.int (0 : Int32))]
      refine w_if_eq ok d7_19 (pc' := 25) (by decide) (fun hc529 => ?_) (fun hc529 => False.elim (by revert hc529; decide))
      refine w_iloadN ok d7_25 rfl ?_
      refine w_iconst ok d7_26 (v := (2 : Int32)) rfl ?_
      refine w_icmp_le ok d7_27 (pc' := 41) (by decide) (fun hc531 => False.elim (by revert hc531; decide)) (fun hc531 => ?_)
      refine w_aloadN ok d7_30 rfl rfl ?_
      refine w_iconst ok d7_31 (v := (2 : Int32)) rfl ?_
      refine w_callS ok (y := mn_8) (argsL := [(.ref p), (.int (2 : Int32))]) (rest := []) d7_32 (hw _ (List.mem_of_getElem? (i := 34) rfl)) (hw _ (List.mem_of_getElem? (i := 35) rfl)) (hw _ (List.mem_of_getElem? (i := 4) rfl)) (hw _ (List.mem_of_getElem? (i := 36) rfl)) (by decide) pd_285bBI29Z rfl rfl (by decide) (Nat.le_of_ble_eq_true rfl) (by decide) (by decide) (fun z0 => rm_star l Z a0 hw [] n0 h0 z0 p [x0, x1, x2, x3] A_p 2 (Nat.le_of_ble_eq_true rfl) (Nat.le_of_ble_eq_true rfl)) (fun v532 h533 qv532 => ?_)
      obtain ⟨⟨rfl, s2⟩ | ⟨rfl, s2⟩, rfl⟩ := qv532
      · skip
        replace s2 : x2 = 42 := s2
        show W K l _ n0 _ h0 0 0 35 #[.val (.ref p), .val (.ref n), .val (.int (4 : Int32)), .val (.int (Int32.ofNat ns.length)), .val (.int (-1 : Int32)), .unset, .unset, .unset, .unset, .unset, .unset, .unset, .unset] [(.int (1 : Int32))]
        refine w_if_eq ok d7_35 (pc' := 41) (by decide) (fun hc535 => False.elim (by revert hc535; decide)) (fun hc535 => ?_)
        refine w_iconst ok d7_38 (v := (2 : Int32)) rfl ?_
        refine w_istore ok d7_39 (L' := #[.val (.ref p), .val (.ref n), .val (.int (4 : Int32)), .val (.int (Int32.ofNat ns.length)), .val (.int (2 : Int32)), .unset, .unset, .unset, .unset, .unset, .unset, .unset, .unset]) rfl ?_
        refine w_iloadN ok d7_41 rfl ?_
        refine w_iconst ok d7_42 (v := (1 : Int32)) rfl ?_
        refine w_icmp_le ok d7_43 (pc' := 57) (by decide) (fun hc537 => False.elim (by revert hc537; decide)) (fun hc537 => ?_)
        refine w_aloadN ok d7_46 rfl rfl ?_
        refine w_iconst ok d7_47 (v := (1 : Int32)) rfl ?_
        refine w_callS ok (y := mn_8) (argsL := [(.ref p), (.int (1 : Int32))]) (rest := []) d7_48 (hw _ (List.mem_of_getElem? (i := 34) rfl)) (hw _ (List.mem_of_getElem? (i := 35) rfl)) (hw _ (List.mem_of_getElem? (i := 4) rfl)) (hw _ (List.mem_of_getElem? (i := 36) rfl)) (by decide) pd_285bBI29Z rfl rfl (by decide) (Nat.le_of_ble_eq_true rfl) (by decide) (by decide) (fun z0 => rm_star l Z a0 hw [] n0 h0 z0 p [x0, x1, x2, x3] A_p 1 (Nat.le_of_ble_eq_true rfl) (Nat.le_of_ble_eq_true rfl)) (fun v538 h539 qv538 => ?_)
        obtain ⟨⟨rfl, s1⟩ | ⟨rfl, s1⟩, rfl⟩ := qv538
        · skip
          replace s1 : x1 = 42 := s1
          show W K l _ n0 _ h0 0 0 51 #[.val (.ref p), .val (.ref n), .val (.int (4 : Int32)), .val (.int (Int32.ofNat ns.length)), .val (.int (2 : Int32)), .unset, .unset, .unset, .unset, .unset, .unset, .unset, .unset] [(.int (1 : Int32))]
          refine w_if_eq ok d7_51 (pc' := 57) (by decide) (fun hc541 => False.elim (by revert hc541; decide)) (fun hc541 => ?_)
          refine w_iconst ok d7_54 (v := (1 : Int32)) rfl ?_
          refine w_istore ok d7_55 (L' := #[.val (.ref p), .val (.ref n), .val (.int (4 : Int32)), .val (.int (Int32.ofNat ns.length)), .val (.int (1 : Int32)), .unset, .unset, .unset, .unset, .unset, .unset, .unset, .unset]) rfl ?_
          refine w_iloadN ok d7_57 rfl ?_
          refine w_if_le ok d7_58 (pc' := 72) (by decide) (fun hc543 => False.elim (by revert hc543; decide)) (fun hc543 => ?_)
          refine w_aloadN ok d7_61 rfl rfl ?_
          refine w_iconst ok d7_62 (v := (0 : Int32)) rfl ?_
          refine w_callS ok (y := mn_8) (argsL := [(.ref p), (.int (0 : Int32))]) (rest := []) d7_63 (hw _ (List.mem_of_getElem? (i := 34) rfl)) (hw _ (List.mem_of_getElem? (i := 35) rfl)) (hw _ (List.mem_of_getElem? (i := 4) rfl)) (hw _ (List.mem_of_getElem? (i := 36) rfl)) (by decide) pd_285bBI29Z rfl rfl (by decide) (Nat.le_of_ble_eq_true rfl) (by decide) (by decide) (fun z0 => rm_star l Z a0 hw [] n0 h0 z0 p [x0, x1, x2, x3] A_p 0 (Nat.le_of_ble_eq_true rfl) (Nat.le_of_ble_eq_true rfl)) (fun v544 h545 qv544 => ?_)
          obtain ⟨⟨rfl, s0⟩ | ⟨rfl, s0⟩, rfl⟩ := qv544
          · skip
            replace s0 : x0 = 42 := s0
            show W K l _ n0 _ h0 0 0 66 #[.val (.ref p), .val (.ref n), .val (.int (4 : Int32)), .val (.int (Int32.ofNat ns.length)), .val (.int (1 : Int32)), .unset, .unset, .unset, .unset, .unset, .unset, .unset, .unset] [(.int (1 : Int32))]
            refine w_if_eq ok d7_66 (pc' := 72) (by decide) (fun hc547 => False.elim (by revert hc547; decide)) (fun hc547 => ?_)
            refine w_iconst ok d7_69 (v := (0 : Int32)) rfl ?_
            refine w_istore ok d7_70 (L' := #[.val (.ref p), .val (.ref n), .val (.int (4 : Int32)), .val (.int (Int32.ofNat ns.length)), .val (.int (0 : Int32)), .unset, .unset, .unset, .unset, .unset, .unset, .unset, .unset]) rfl ?_
            refine w_iload ok d7_72 rfl ?_
            refine w_if_ge ok d7_74 (pc' := 99) (by decide) (fun hc549 => ?_) (fun hc549 => False.elim (by revert hc549; decide))
            refine w_iconst ok d7_99 (v := (-1 : Int32)) rfl ?_
            refine w_istore ok d7_100 (L' := #[.val (.ref p), .val (.ref n), .val (.int (4 : Int32)), .val (.int (Int32.ofNat ns.length)), .val (.int (0 : Int32)), .val (.int (-1 : Int32)), .unset, .unset, .unset, .unset, .unset, .unset, .unset]) rfl ?_
            refine w_iloadN ok d7_102 rfl ?_
            refine w_if_le ok d7_103 (pc' := 117) (by decide) (fun hc551 => False.elim (by revert hc551; decide)) (fun hc551 => ?_)
            refine w_aloadN ok d7_106 rfl rfl ?_
            refine w_iconst ok d7_107 (v := (0 : Int32)) rfl ?_
            refine w_callS ok (y := mn_8) (argsL := [(.ref p), (.int (0 : Int32))]) (rest := []) d7_108 (hw _ (List.mem_of_getElem? (i := 34) rfl)) (hw _ (List.mem_of_getElem? (i := 35) rfl)) (hw _ (List.mem_of_getElem? (i := 4) rfl)) (hw _ (List.mem_of_getElem? (i := 36) rfl)) (by decide) pd_285bBI29Z rfl rfl (by decide) (Nat.le_of_ble_eq_true rfl) (by decide) (by decide) (fun z0 => rm_star l Z a0 hw [] n0 h0 z0 p [x0, x1, x2, x3] A_p 0 (Nat.le_of_ble_eq_true rfl) (Nat.le_of_ble_eq_true rfl)) (fun v552 h553 qv552 => ?_)
            obtain ⟨⟨rfl, t554⟩ | ⟨rfl, t554⟩, rfl⟩ := qv552
            · skip
              replace t554 : x0 = 42 := t554
              show W K l _ n0 _ h0 0 0 111 #[.val (.ref p), .val (.ref n), .val (.int (4 : Int32)), .val (.int (Int32.ofNat ns.length)), .val (.int (0 : Int32)), .val (.int (-1 : Int32)), .unset, .unset, .unset, .unset, .unset, .unset, .unset] [(.int (1 : Int32))]
              refine w_if_eq ok d7_111 (pc' := 117) (by decide) (fun hc556 => False.elim (by revert hc556; decide)) (fun hc556 => ?_)
              refine w_iconst ok d7_114 (v := (0 : Int32)) rfl ?_
              refine w_istore ok d7_115 (L' := #[.val (.ref p), .val (.ref n), .val (.int (4 : Int32)), .val (.int (Int32.ofNat ns.length)), .val (.int (0 : Int32)), .val (.int (0 : Int32)), .unset, .unset, .unset, .unset, .unset, .unset, .unset]) rfl ?_
              refine w_iloadN ok d7_117 rfl ?_
              refine w_iconst ok d7_118 (v := (1 : Int32)) rfl ?_
              refine w_icmp_le ok d7_119 (pc' := 133) (by decide) (fun hc558 => False.elim (by revert hc558; decide)) (fun hc558 => ?_)
              refine w_aloadN ok d7_122 rfl rfl ?_
              refine w_iconst ok d7_123 (v := (1 : Int32)) rfl ?_
              refine w_callS ok (y := mn_8) (argsL := [(.ref p), (.int (1 : Int32))]) (rest := []) d7_124 (hw _ (List.mem_of_getElem? (i := 34) rfl)) (hw _ (List.mem_of_getElem? (i := 35) rfl)) (hw _ (List.mem_of_getElem? (i := 4) rfl)) (hw _ (List.mem_of_getElem? (i := 36) rfl)) (by decide) pd_285bBI29Z rfl rfl (by decide) (Nat.le_of_ble_eq_true rfl) (by decide) (by decide) (fun z0 => rm_star l Z a0 hw [] n0 h0 z0 p [x0, x1, x2, x3] A_p 1 (Nat.le_of_ble_eq_true rfl) (Nat.le_of_ble_eq_true rfl)) (fun v559 h560 qv559 => ?_)
              obtain ⟨⟨rfl, t561⟩ | ⟨rfl, t561⟩, rfl⟩ := qv559
              · skip
                replace t561 : x1 = 42 := t561
                show W K l _ n0 _ h0 0 0 127 #[.val (.ref p), .val (.ref n), .val (.int (4 : Int32)), .val (.int (Int32.ofNat ns.length)), .val (.int (0 : Int32)), .val (.int (0 : Int32)), .unset, .unset, .unset, .unset, .unset, .unset, .unset] [(.int (1 : Int32))]
                refine w_if_eq ok d7_127 (pc' := 133) (by decide) (fun hc563 => False.elim (by revert hc563; decide)) (fun hc563 => ?_)
                refine w_iconst ok d7_130 (v := (1 : Int32)) rfl ?_
                refine w_istore ok d7_131 (L' := #[.val (.ref p), .val (.ref n), .val (.int (4 : Int32)), .val (.int (Int32.ofNat ns.length)), .val (.int (0 : Int32)), .val (.int (1 : Int32)), .unset, .unset, .unset, .unset, .unset, .unset, .unset]) rfl ?_
                refine w_iloadN ok d7_133 rfl ?_
                refine w_iconst ok d7_134 (v := (2 : Int32)) rfl ?_
                refine w_icmp_le ok d7_135 (pc' := 149) (by decide) (fun hc565 => False.elim (by revert hc565; decide)) (fun hc565 => ?_)
                refine w_aloadN ok d7_138 rfl rfl ?_
                refine w_iconst ok d7_139 (v := (2 : Int32)) rfl ?_
                refine w_callS ok (y := mn_8) (argsL := [(.ref p), (.int (2 : Int32))]) (rest := []) d7_140 (hw _ (List.mem_of_getElem? (i := 34) rfl)) (hw _ (List.mem_of_getElem? (i := 35) rfl)) (hw _ (List.mem_of_getElem? (i := 4) rfl)) (hw _ (List.mem_of_getElem? (i := 36) rfl)) (by decide) pd_285bBI29Z rfl rfl (by decide) (Nat.le_of_ble_eq_true rfl) (by decide) (by decide) (fun z0 => rm_star l Z a0 hw [] n0 h0 z0 p [x0, x1, x2, x3] A_p 2 (Nat.le_of_ble_eq_true rfl) (Nat.le_of_ble_eq_true rfl)) (fun v566 h567 qv566 => ?_)
                obtain ⟨⟨rfl, t568⟩ | ⟨rfl, t568⟩, rfl⟩ := qv566
                · skip
                  replace t568 : x2 = 42 := t568
                  show W K l _ n0 _ h0 0 0 143 #[.val (.ref p), .val (.ref n), .val (.int (4 : Int32)), .val (.int (Int32.ofNat ns.length)), .val (.int (0 : Int32)), .val (.int (1 : Int32)), .unset, .unset, .unset, .unset, .unset, .unset, .unset] [(.int (1 : Int32))]
                  refine w_if_eq ok d7_143 (pc' := 149) (by decide) (fun hc570 => False.elim (by revert hc570; decide)) (fun hc570 => ?_)
                  refine w_iconst ok d7_146 (v := (2 : Int32)) rfl ?_
                  refine w_istore ok d7_147 (L' := #[.val (.ref p), .val (.ref n), .val (.int (4 : Int32)), .val (.int (Int32.ofNat ns.length)), .val (.int (0 : Int32)), .val (.int (2 : Int32)), .unset, .unset, .unset, .unset, .unset, .unset, .unset]) rfl ?_
                  refine w_iloadN ok d7_149 rfl ?_
                  refine w_iconst ok d7_150 (v := (3 : Int32)) rfl ?_
                  refine w_icmp_le ok d7_151 (pc' := 165) (by decide) (fun hc572 => False.elim (by revert hc572; decide)) (fun hc572 => ?_)
                  refine w_aloadN ok d7_154 rfl rfl ?_
                  refine w_iconst ok d7_155 (v := (3 : Int32)) rfl ?_
                  refine w_callS ok (y := mn_8) (argsL := [(.ref p), (.int (3 : Int32))]) (rest := []) d7_156 (hw _ (List.mem_of_getElem? (i := 34) rfl)) (hw _ (List.mem_of_getElem? (i := 35) rfl)) (hw _ (List.mem_of_getElem? (i := 4) rfl)) (hw _ (List.mem_of_getElem? (i := 36) rfl)) (by decide) pd_285bBI29Z rfl rfl (by decide) (Nat.le_of_ble_eq_true rfl) (by decide) (by decide) (fun z0 => rm_star l Z a0 hw [] n0 h0 z0 p [x0, x1, x2, x3] A_p 3 (Nat.le_of_ble_eq_true rfl) (Nat.le_of_ble_eq_true rfl)) (fun v573 h574 qv573 => ?_)
                  obtain ⟨⟨rfl, t575⟩ | ⟨rfl, t575⟩, rfl⟩ := qv573
                  · exact absurd t575 s3
                  · skip
                    replace t575 : ¬ (x3 = 42) := t575
                    show W K l _ n0 _ h0 0 0 159 #[.val (.ref p), .val (.ref n), .val (.int (4 : Int32)), .val (.int (Int32.ofNat ns.length)), .val (.int (0 : Int32)), .val (.int (2 : Int32)), .unset, .unset, .unset, .unset, .unset, .unset, .unset] [(.int (0 : Int32))]
                    refine w_if_eq ok d7_159 (pc' := 165) (by decide) (fun hc577 => ?_) (fun hc577 => False.elim (by revert hc577; decide))
                    refine w_iload ok d7_165 rfl ?_
                    refine w_istore ok d7_167 (L' := #[.val (.ref p), .val (.ref n), .val (.int (4 : Int32)), .val (.int (Int32.ofNat ns.length)), .val (.int (0 : Int32)), .val (.int (2 : Int32)), .val (.int (0 : Int32)), .unset, .unset, .unset, .unset, .unset, .unset]) rfl ?_
                    refine w_iloadN ok d7_169 rfl ?_
                    refine w_iconst ok d7_170 (v := (1 : Int32)) rfl ?_
                    refine w_isub ok d7_171 ?_
                    show W K l _ n0 _ h0 0 0 172 #[.val (.ref p), .val (.ref n), .val (.int (4 : Int32)), .val (.int (Int32.ofNat ns.length)), .val (.int (0 : Int32)), .val (.int (2 : Int32)), .val (.int (0 : Int32)), .unset, .unset, .unset, .unset, .unset, .unset] [(.int (3 : Int32))]
                    refine w_iload ok d7_172 rfl ?_
                    refine w_isub ok d7_174 ?_
                    show W K l _ n0 _ h0 0 0 175 #[.val (.ref p), .val (.ref n), .val (.int (4 : Int32)), .val (.int (Int32.ofNat ns.length)), .val (.int (0 : Int32)), .val (.int (2 : Int32)), .val (.int (0 : Int32)), .unset, .unset, .unset, .unset, .unset, .unset] [(.int (1 : Int32))]
                    refine w_istore ok d7_175 (L' := #[.val (.ref p), .val (.ref n), .val (.int (4 : Int32)), .val (.int (Int32.ofNat ns.length)), .val (.int (0 : Int32)), .val (.int (2 : Int32)), .val (.int (0 : Int32)), .val (.int (1 : Int32)), .unset, .unset, .unset, .unset, .unset]) rfl ?_
                    refine w_iloadN ok d7_177 rfl ?_
                    refine w_iload ok d7_178 rfl ?_
                    refine w_iload ok d7_180 rfl ?_
                    refine w_iadd ok d7_182 ?_
                    show W K l _ n0 _ h0 0 0 183 #[.val (.ref p), .val (.ref n), .val (.int (4 : Int32)), .val (.int (Int32.ofNat ns.length)), .val (.int (0 : Int32)), .val (.int (2 : Int32)), .val (.int (0 : Int32)), .val (.int (1 : Int32)), .unset, .unset, .unset, .unset, .unset] [(.int (1 : Int32)), (.int (Int32.ofNat ns.length))]
                    refine w_icmp_ge ok d7_183 (pc' := 188) (by decide) (fun hc579 => ?_) (fun hc579 => ?_)
                    · skip
                      have hge : 1 ≤ ns.length := by have q := hc579; rw [show (1 : Int32) = Int32.ofNat 1 from rfl, own_lt (by omega) (by omega)] at q; omega
                      refine w_aloadN ok d7_188 rfl rfl ?_
                      refine w_iconst ok d7_189 (v := (0 : Int32)) rfl ?_
                      refine w_iload ok d7_190 rfl ?_
                      refine w_aloadN ok d7_192 rfl rfl ?_
                      refine w_iconst ok d7_193 (v := (0 : Int32)) rfl ?_
                      refine w_callS ok (y := mn_9) (argsL := [(.ref p), (.int (0 : Int32)), (.int (0 : Int32)), (.ref n), (.int (0 : Int32))]) (rest := []) d7_194 (hw _ (List.mem_of_getElem? (i := 37) rfl)) (hw _ (List.mem_of_getElem? (i := 38) rfl)) (hw _ (List.mem_of_getElem? (i := 4) rfl)) (hw _ (List.mem_of_getElem? (i := 39) rfl)) (by decide) pd_285bBII5bBI29Z rfl rfl (by decide) (Nat.le_of_ble_eq_true rfl) (by decide) (by decide) (fun z0 => rm_seg l Z a0 hw [] n0 h0 z0 p n [x0, x1, x2, x3] ns A_p A_n 0 0 0 _ rfl (Nat.le_of_ble_eq_true rfl) (by decide) (by omega) (Nat.le_of_ble_eq_true rfl) ln) (fun v580 h581 qv580 => ?_)
                      obtain ⟨⟨rfl, sgp⟩ | ⟨rfl, sgp⟩, rfl⟩ := qv580
                      · skip
                        replace sgp : SGl [] ns 0 := sgp
                        show W K l _ n0 _ h0 0 0 197 #[.val (.ref p), .val (.ref n), .val (.int (4 : Int32)), .val (.int (Int32.ofNat ns.length)), .val (.int (0 : Int32)), .val (.int (2 : Int32)), .val (.int (0 : Int32)), .val (.int (1 : Int32)), .unset, .unset, .unset, .unset, .unset] [(.int (1 : Int32))]
                        refine w_if_ne ok d7_197 (pc' := 202) (by decide) (fun hc583 => ?_) (fun hc583 => False.elim (by revert hc583; decide))
                        refine w_aloadN ok d7_202 rfl rfl ?_
                        refine w_iload ok d7_203 rfl ?_
                        refine w_iconst ok d7_205 (v := (1 : Int32)) rfl ?_
                        refine w_iadd ok d7_206 ?_
                        show W K l _ n0 _ h0 0 0 207 #[.val (.ref p), .val (.ref n), .val (.int (4 : Int32)), .val (.int (Int32.ofNat ns.length)), .val (.int (0 : Int32)), .val (.int (2 : Int32)), .val (.int (0 : Int32)), .val (.int (1 : Int32)), .unset, .unset, .unset, .unset, .unset] [(.int (3 : Int32)), (.ref p)]
                        refine w_iload ok d7_207 rfl ?_
                        refine w_aloadN ok d7_209 rfl rfl ?_
                        refine w_iloadN ok d7_210 rfl ?_
                        refine w_iload ok d7_211 rfl ?_
                        refine w_isub ok d7_213 ?_
                        refine w_callS ok (y := mn_9) (argsL := [(.ref p), (.int (3 : Int32)), (.int (1 : Int32)), (.ref n), (.int ((Int32.ofNat ns.length) - (1 : Int32)))]) (rest := []) d7_214 (hw _ (List.mem_of_getElem? (i := 37) rfl)) (hw _ (List.mem_of_getElem? (i := 38) rfl)) (hw _ (List.mem_of_getElem? (i := 4) rfl)) (hw _ (List.mem_of_getElem? (i := 39) rfl)) (by decide) pd_285bBII5bBI29Z rfl rfl (by decide) (Nat.le_of_ble_eq_true rfl) (by decide) (by decide) (fun z0 => rm_seg l Z a0 hw [] n0 h0 z0 p n [x0, x1, x2, x3] ns A_p A_n 3 1 (ns.length - 1) _ (own_subk (k := 1) rfl (by omega) (by omega)) (Nat.le_of_ble_eq_true rfl) (by decide) (by omega) (Nat.le_of_ble_eq_true rfl) ln) (fun v584 h585 qv584 => ?_)
                        obtain ⟨⟨rfl, sgs⟩ | ⟨rfl, sgs⟩, rfl⟩ := qv584
                        · skip
                          replace sgs : SGl [x3] ns (ns.length - 1) := sgs
                          show W K l _ n0 _ h0 0 0 217 #[.val (.ref p), .val (.ref n), .val (.int (4 : Int32)), .val (.int (Int32.ofNat ns.length)), .val (.int (0 : Int32)), .val (.int (2 : Int32)), .val (.int (0 : Int32)), .val (.int (1 : Int32)), .unset, .unset, .unset, .unset, .unset] [(.int (1 : Int32))]
                          refine w_if_ne ok d7_217 (pc' := 222) (by decide) (fun hc587 => ?_) (fun hc587 => False.elim (by revert hc587; decide))
                          refine w_iload ok d7_222 rfl ?_
                          refine w_iload ok d7_224 rfl ?_
                          refine w_isub ok d7_226 ?_
                          show W K l _ n0 _ h0 0 0 227 #[.val (.ref p), .val (.ref n), .val (.int (4 : Int32)), .val (.int (Int32.ofNat ns.length)), .val (.int (0 : Int32)), .val (.int (2 : Int32)), .val (.int (0 : Int32)), .val (.int (1 : Int32)), .unset, .unset, .unset, .unset, .unset] [(.int (2 : Int32))]
                          refine w_iconst ok d7_227 (v := (1 : Int32)) rfl ?_
                          refine w_isub ok d7_228 ?_
                          show W K l _ n0 _ h0 0 0 229 #[.val (.ref p), .val (.ref n), .val (.int (4 : Int32)), .val (.int (Int32.ofNat ns.length)), .val (.int (0 : Int32)), .val (.int (2 : Int32)), .val (.int (0 : Int32)), .val (.int (1 : Int32)), .unset, .unset, .unset, .unset, .unset] [(.int (1 : Int32))]
                          refine w_istore ok d7_229 (L' := #[.val (.ref p), .val (.ref n), .val (.int (4 : Int32)), .val (.int (Int32.ofNat ns.length)), .val (.int (0 : Int32)), .val (.int (2 : Int32)), .val (.int (0 : Int32)), .val (.int (1 : Int32)), .val (.int (1 : Int32)), .unset, .unset, .unset, .unset]) rfl ?_
                          refine w_iload ok d7_231 rfl ?_
                          refine w_iconst ok d7_233 (v := (1 : Int32)) rfl ?_
                          refine w_iadd ok d7_234 ?_
                          show W K l _ n0 _ h0 0 0 235 #[.val (.ref p), .val (.ref n), .val (.int (4 : Int32)), .val (.int (Int32.ofNat ns.length)), .val (.int (0 : Int32)), .val (.int (2 : Int32)), .val (.int (0 : Int32)), .val (.int (1 : Int32)), .val (.int (1 : Int32)), .unset, .unset, .unset, .unset] [(.int (1 : Int32))]
                          refine w_istore ok d7_235 (L' := #[.val (.ref p), .val (.ref n), .val (.int (4 : Int32)), .val (.int (Int32.ofNat ns.length)), .val (.int (0 : Int32)), .val (.int (2 : Int32)), .val (.int (0 : Int32)), .val (.int (1 : Int32)), .val (.int (1 : Int32)), .val (.int (1 : Int32)), .unset, .unset, .unset]) rfl ?_
                          refine w_iconst ok d7_237 (v := (0 : Int32)) rfl ?_
                          refine w_istore ok d7_238 (L' := #[.val (.ref p), .val (.ref n), .val (.int (4 : Int32)), .val (.int (Int32.ofNat ns.length)), .val (.int (0 : Int32)), .val (.int (2 : Int32)), .val (.int (0 : Int32)), .val (.int (1 : Int32)), .val (.int (1 : Int32)), .val (.int (1 : Int32)), .val (.int (0 : Int32)), .unset, .unset]) rfl ?_
                          refine w_iload ok d7_240 rfl ?_
                          refine w_iconst ok d7_242 (v := (1 : Int32)) rfl ?_
                          refine w_icmp_ne ok d7_243 (pc' := 263) (by decide) (fun hc589 => False.elim (by revert hc589; decide)) (fun hc589 => ?_)
                          refine w_aloadN ok d7_246 rfl rfl ?_
                          refine w_iload ok d7_247 rfl ?_
                          refine w_iconst ok d7_249 (v := (1 : Int32)) rfl ?_
                          refine w_iadd ok d7_250 ?_
                          show W K l _ n0 _ h0 0 0 251 #[.val (.ref p), .val (.ref n), .val (.int (4 : Int32)), .val (.int (Int32.ofNat ns.length)), .val (.int (0 : Int32)), .val (.int (2 : Int32)), .val (.int (0 : Int32)), .val (.int (1 : Int32)), .val (.int (1 : Int32)), .val (.int (1 : Int32)), .val (.int (0 : Int32)), .unset, .unset] [(.int (1 : Int32)), (.ref p)]
                          refine w_callS ok (y := mn_8) (argsL := [(.ref p), (.int (1 : Int32))]) (rest := []) d7_251 (hw _ (List.mem_of_getElem? (i := 34) rfl)) (hw _ (List.mem_of_getElem? (i := 35) rfl)) (hw _ (List.mem_of_getElem? (i := 4) rfl)) (hw _ (List.mem_of_getElem? (i := 36) rfl)) (by decide) pd_285bBI29Z rfl rfl (by decide) (Nat.le_of_ble_eq_true rfl) (by decide) (by decide) (fun z0 => rm_star l Z a0 hw [] n0 h0 z0 p [x0, x1, x2, x3] A_p 1 (Nat.le_of_ble_eq_true rfl) (Nat.le_of_ble_eq_true rfl)) (fun v590 h591 qv590 => ?_)
                          obtain ⟨⟨rfl, t592⟩ | ⟨rfl, t592⟩, rfl⟩ := qv590
                          · skip
                            replace t592 : x1 = 42 := t592
                            show W K l _ n0 _ h0 0 0 254 #[.val (.ref p), .val (.ref n), .val (.int (4 : Int32)), .val (.int (Int32.ofNat ns.length)), .val (.int (0 : Int32)), .val (.int (2 : Int32)), .val (.int (0 : Int32)), .val (.int (1 : Int32)), .val (.int (1 : Int32)), .val (.int (1 : Int32)), .val (.int (0 : Int32)), .unset, .unset] [(.int (1 : Int32))]
                            refine w_if_ne ok d7_254 (pc' := 340) (by decide) (fun hc594 => ?_) (fun hc594 => False.elim (by revert hc594; decide))
                            refine w_iload ok d7_340 rfl ?_
                            refine w_if_ne ok d7_342 (pc' := 347) (by decide) (fun hc596 => False.elim (by revert hc596; decide)) (fun hc596 => ?_)
                            refine w_iconst ok d7_345 (v := (1 : Int32)) rfl ?_
                            refine w_bret ok (by simp) d7_346 (by decide) (by decide) ?_
                            subst s0 s1 s2
                            have key : Gi ns [42, 42, 42, x3] 0 ↔ _ := Iff.trans (Gi_congr (fun i => Gi_cc (ns := ns) (Q := 42 :: [x3]) (i := i)) [] 0) (own_two (ns := ns) (P := []) (R := []) (Q := [x3]) NoS_nil NoS_nil (NoS_cons s3 NoS_nil))
                            exact ⟨Or.inl ⟨rfl, key.mpr ⟨hge, sgp, sgs, 0, Nat.le_refl _, (show 0 + 0 ≤ ns.length - 1 by omega), SGl_nil.mpr (by omega)⟩⟩, rfl⟩
                          · exact absurd s1 t592
                        · skip
                          replace sgs : ¬ (SGl [x3] ns (ns.length - 1)) := sgs
                          show W K l _ n0 _ h0 0 0 217 #[.val (.ref p), .val (.ref n), .val (.int (4 : Int32)), .val (.int (Int32.ofNat ns.length)), .val (.int (0 : Int32)), .val (.int (2 : Int32)), .val (.int (0 : Int32)), .val (.int (1 : Int32)), .unset, .unset, .unset, .unset, .unset] [(.int (0 : Int32))]
                          refine w_if_ne ok d7_217 (pc' := 222) (by decide) (fun hc598 => False.elim (by revert hc598; decide)) (fun hc598 => ?_)
                          refine w_iconst ok d7_220 (v := (0 : Int32)) rfl ?_
                          refine w_bret ok (by simp) d7_221 (by decide) (by decide) ?_
                          subst s0 s1 s2
                          have key : Gi ns [42, 42, 42, x3] 0 ↔ _ := Iff.trans (Gi_congr (fun i => Gi_cc (ns := ns) (Q := 42 :: [x3]) (i := i)) [] 0) (own_two (ns := ns) (P := []) (R := []) (Q := [x3]) NoS_nil NoS_nil (NoS_cons s3 NoS_nil))
                          exact ⟨Or.inr ⟨rfl, fun q => sgs (key.mp q).2.2.1⟩, rfl⟩
                      · skip
                        replace sgp : ¬ (SGl [] ns 0) := sgp
                        show W K l _ n0 _ h0 0 0 197 #[.val (.ref p), .val (.ref n), .val (.int (4 : Int32)), .val (.int (Int32.ofNat ns.length)), .val (.int (0 : Int32)), .val (.int (2 : Int32)), .val (.int (0 : Int32)), .val (.int (1 : Int32)), .unset, .unset, .unset, .unset, .unset] [(.int (0 : Int32))]
                        refine w_if_ne ok d7_197 (pc' := 202) (by decide) (fun hc600 => False.elim (by revert hc600; decide)) (fun hc600 => ?_)
                        refine w_iconst ok d7_200 (v := (0 : Int32)) rfl ?_
                        refine w_bret ok (by simp) d7_201 (by decide) (by decide) ?_
                        subst s0 s1 s2
                        have key : Gi ns [42, 42, 42, x3] 0 ↔ _ := Iff.trans (Gi_congr (fun i => Gi_cc (ns := ns) (Q := 42 :: [x3]) (i := i)) [] 0) (own_two (ns := ns) (P := []) (R := []) (Q := [x3]) NoS_nil NoS_nil (NoS_cons s3 NoS_nil))
                        exact ⟨Or.inr ⟨rfl, fun q => sgp (key.mp q).2.1⟩, rfl⟩
                    · skip
                      refine w_iconst ok d7_186 (v := (0 : Int32)) rfl ?_
                      refine w_bret ok (by simp) d7_187 (by decide) (by decide) ?_
                      subst s0 s1 s2
                      have key : Gi ns [42, 42, 42, x3] 0 ↔ _ := Iff.trans (Gi_congr (fun i => Gi_cc (ns := ns) (Q := 42 :: [x3]) (i := i)) [] 0) (own_two (ns := ns) (P := []) (R := []) (Q := [x3]) NoS_nil NoS_nil (NoS_cons s3 NoS_nil))
                      refine ⟨Or.inr ⟨rfl, fun q => ?_⟩, rfl⟩
                      have q1 : 0 + 1 ≤ ns.length := (key.mp q).1
                      have q2 := hc579; rw [show (1 : Int32) = Int32.ofNat 1 from rfl, own_lt (by omega) (by omega)] at q2; omega
                · exact absurd s2 t568
              · exact absurd s1 t561
            · exact absurd s0 t554
          · skip
            replace s0 : ¬ (x0 = 42) := s0
            show W K l _ n0 _ h0 0 0 66 #[.val (.ref p), .val (.ref n), .val (.int (4 : Int32)), .val (.int (Int32.ofNat ns.length)), .val (.int (1 : Int32)), .unset, .unset, .unset, .unset, .unset, .unset, .unset, .unset] [(.int (0 : Int32))]
            refine w_if_eq ok d7_66 (pc' := 72) (by decide) (fun hc602 => ?_) (fun hc602 => False.elim (by revert hc602; decide))
            refine w_iload ok d7_72 rfl ?_
            refine w_if_ge ok d7_74 (pc' := 99) (by decide) (fun hc604 => ?_) (fun hc604 => False.elim (by revert hc604; decide))
            refine w_iconst ok d7_99 (v := (-1 : Int32)) rfl ?_
            refine w_istore ok d7_100 (L' := #[.val (.ref p), .val (.ref n), .val (.int (4 : Int32)), .val (.int (Int32.ofNat ns.length)), .val (.int (1 : Int32)), .val (.int (-1 : Int32)), .unset, .unset, .unset, .unset, .unset, .unset, .unset]) rfl ?_
            refine w_iloadN ok d7_102 rfl ?_
            refine w_if_le ok d7_103 (pc' := 117) (by decide) (fun hc606 => False.elim (by revert hc606; decide)) (fun hc606 => ?_)
            refine w_aloadN ok d7_106 rfl rfl ?_
            refine w_iconst ok d7_107 (v := (0 : Int32)) rfl ?_
            refine w_callS ok (y := mn_8) (argsL := [(.ref p), (.int (0 : Int32))]) (rest := []) d7_108 (hw _ (List.mem_of_getElem? (i := 34) rfl)) (hw _ (List.mem_of_getElem? (i := 35) rfl)) (hw _ (List.mem_of_getElem? (i := 4) rfl)) (hw _ (List.mem_of_getElem? (i := 36) rfl)) (by decide) pd_285bBI29Z rfl rfl (by decide) (Nat.le_of_ble_eq_true rfl) (by decide) (by decide) (fun z0 => rm_star l Z a0 hw [] n0 h0 z0 p [x0, x1, x2, x3] A_p 0 (Nat.le_of_ble_eq_true rfl) (Nat.le_of_ble_eq_true rfl)) (fun v607 h608 qv607 => ?_)
            obtain ⟨⟨rfl, t609⟩ | ⟨rfl, t609⟩, rfl⟩ := qv607
            · exact absurd t609 s0
            · skip
              replace t609 : ¬ (x0 = 42) := t609
              show W K l _ n0 _ h0 0 0 111 #[.val (.ref p), .val (.ref n), .val (.int (4 : Int32)), .val (.int (Int32.ofNat ns.length)), .val (.int (1 : Int32)), .val (.int (-1 : Int32)), .unset, .unset, .unset, .unset, .unset, .unset, .unset] [(.int (0 : Int32))]
              refine w_if_eq ok d7_111 (pc' := 117) (by decide) (fun hc611 => ?_) (fun hc611 => False.elim (by revert hc611; decide))
              refine w_iloadN ok d7_117 rfl ?_
              refine w_iconst ok d7_118 (v := (1 : Int32)) rfl ?_
              refine w_icmp_le ok d7_119 (pc' := 133) (by decide) (fun hc613 => False.elim (by revert hc613; decide)) (fun hc613 => ?_)
              refine w_aloadN ok d7_122 rfl rfl ?_
              refine w_iconst ok d7_123 (v := (1 : Int32)) rfl ?_
              refine w_callS ok (y := mn_8) (argsL := [(.ref p), (.int (1 : Int32))]) (rest := []) d7_124 (hw _ (List.mem_of_getElem? (i := 34) rfl)) (hw _ (List.mem_of_getElem? (i := 35) rfl)) (hw _ (List.mem_of_getElem? (i := 4) rfl)) (hw _ (List.mem_of_getElem? (i := 36) rfl)) (by decide) pd_285bBI29Z rfl rfl (by decide) (Nat.le_of_ble_eq_true rfl) (by decide) (by decide) (fun z0 => rm_star l Z a0 hw [] n0 h0 z0 p [x0, x1, x2, x3] A_p 1 (Nat.le_of_ble_eq_true rfl) (Nat.le_of_ble_eq_true rfl)) (fun v614 h615 qv614 => ?_)
              obtain ⟨⟨rfl, t616⟩ | ⟨rfl, t616⟩, rfl⟩ := qv614
              · skip
                replace t616 : x1 = 42 := t616
                show W K l _ n0 _ h0 0 0 127 #[.val (.ref p), .val (.ref n), .val (.int (4 : Int32)), .val (.int (Int32.ofNat ns.length)), .val (.int (1 : Int32)), .val (.int (-1 : Int32)), .unset, .unset, .unset, .unset, .unset, .unset, .unset] [(.int (1 : Int32))]
                refine w_if_eq ok d7_127 (pc' := 133) (by decide) (fun hc618 => False.elim (by revert hc618; decide)) (fun hc618 => ?_)
                refine w_iconst ok d7_130 (v := (1 : Int32)) rfl ?_
                refine w_istore ok d7_131 (L' := #[.val (.ref p), .val (.ref n), .val (.int (4 : Int32)), .val (.int (Int32.ofNat ns.length)), .val (.int (1 : Int32)), .val (.int (1 : Int32)), .unset, .unset, .unset, .unset, .unset, .unset, .unset]) rfl ?_
                refine w_iloadN ok d7_133 rfl ?_
                refine w_iconst ok d7_134 (v := (2 : Int32)) rfl ?_
                refine w_icmp_le ok d7_135 (pc' := 149) (by decide) (fun hc620 => False.elim (by revert hc620; decide)) (fun hc620 => ?_)
                refine w_aloadN ok d7_138 rfl rfl ?_
                refine w_iconst ok d7_139 (v := (2 : Int32)) rfl ?_
                refine w_callS ok (y := mn_8) (argsL := [(.ref p), (.int (2 : Int32))]) (rest := []) d7_140 (hw _ (List.mem_of_getElem? (i := 34) rfl)) (hw _ (List.mem_of_getElem? (i := 35) rfl)) (hw _ (List.mem_of_getElem? (i := 4) rfl)) (hw _ (List.mem_of_getElem? (i := 36) rfl)) (by decide) pd_285bBI29Z rfl rfl (by decide) (Nat.le_of_ble_eq_true rfl) (by decide) (by decide) (fun z0 => rm_star l Z a0 hw [] n0 h0 z0 p [x0, x1, x2, x3] A_p 2 (Nat.le_of_ble_eq_true rfl) (Nat.le_of_ble_eq_true rfl)) (fun v621 h622 qv621 => ?_)
                obtain ⟨⟨rfl, t623⟩ | ⟨rfl, t623⟩, rfl⟩ := qv621
                · skip
                  replace t623 : x2 = 42 := t623
                  show W K l _ n0 _ h0 0 0 143 #[.val (.ref p), .val (.ref n), .val (.int (4 : Int32)), .val (.int (Int32.ofNat ns.length)), .val (.int (1 : Int32)), .val (.int (1 : Int32)), .unset, .unset, .unset, .unset, .unset, .unset, .unset] [(.int (1 : Int32))]
                  refine w_if_eq ok d7_143 (pc' := 149) (by decide) (fun hc625 => False.elim (by revert hc625; decide)) (fun hc625 => ?_)
                  refine w_iconst ok d7_146 (v := (2 : Int32)) rfl ?_
                  refine w_istore ok d7_147 (L' := #[.val (.ref p), .val (.ref n), .val (.int (4 : Int32)), .val (.int (Int32.ofNat ns.length)), .val (.int (1 : Int32)), .val (.int (2 : Int32)), .unset, .unset, .unset, .unset, .unset, .unset, .unset]) rfl ?_
                  refine w_iloadN ok d7_149 rfl ?_
                  refine w_iconst ok d7_150 (v := (3 : Int32)) rfl ?_
                  refine w_icmp_le ok d7_151 (pc' := 165) (by decide) (fun hc627 => False.elim (by revert hc627; decide)) (fun hc627 => ?_)
                  refine w_aloadN ok d7_154 rfl rfl ?_
                  refine w_iconst ok d7_155 (v := (3 : Int32)) rfl ?_
                  refine w_callS ok (y := mn_8) (argsL := [(.ref p), (.int (3 : Int32))]) (rest := []) d7_156 (hw _ (List.mem_of_getElem? (i := 34) rfl)) (hw _ (List.mem_of_getElem? (i := 35) rfl)) (hw _ (List.mem_of_getElem? (i := 4) rfl)) (hw _ (List.mem_of_getElem? (i := 36) rfl)) (by decide) pd_285bBI29Z rfl rfl (by decide) (Nat.le_of_ble_eq_true rfl) (by decide) (by decide) (fun z0 => rm_star l Z a0 hw [] n0 h0 z0 p [x0, x1, x2, x3] A_p 3 (Nat.le_of_ble_eq_true rfl) (Nat.le_of_ble_eq_true rfl)) (fun v628 h629 qv628 => ?_)
                  obtain ⟨⟨rfl, t630⟩ | ⟨rfl, t630⟩, rfl⟩ := qv628
                  · exact absurd t630 s3
                  · skip
                    replace t630 : ¬ (x3 = 42) := t630
                    show W K l _ n0 _ h0 0 0 159 #[.val (.ref p), .val (.ref n), .val (.int (4 : Int32)), .val (.int (Int32.ofNat ns.length)), .val (.int (1 : Int32)), .val (.int (2 : Int32)), .unset, .unset, .unset, .unset, .unset, .unset, .unset] [(.int (0 : Int32))]
                    refine w_if_eq ok d7_159 (pc' := 165) (by decide) (fun hc632 => ?_) (fun hc632 => False.elim (by revert hc632; decide))
                    refine w_iload ok d7_165 rfl ?_
                    refine w_istore ok d7_167 (L' := #[.val (.ref p), .val (.ref n), .val (.int (4 : Int32)), .val (.int (Int32.ofNat ns.length)), .val (.int (1 : Int32)), .val (.int (2 : Int32)), .val (.int (1 : Int32)), .unset, .unset, .unset, .unset, .unset, .unset]) rfl ?_
                    refine w_iloadN ok d7_169 rfl ?_
                    refine w_iconst ok d7_170 (v := (1 : Int32)) rfl ?_
                    refine w_isub ok d7_171 ?_
                    show W K l _ n0 _ h0 0 0 172 #[.val (.ref p), .val (.ref n), .val (.int (4 : Int32)), .val (.int (Int32.ofNat ns.length)), .val (.int (1 : Int32)), .val (.int (2 : Int32)), .val (.int (1 : Int32)), .unset, .unset, .unset, .unset, .unset, .unset] [(.int (3 : Int32))]
                    refine w_iload ok d7_172 rfl ?_
                    refine w_isub ok d7_174 ?_
                    show W K l _ n0 _ h0 0 0 175 #[.val (.ref p), .val (.ref n), .val (.int (4 : Int32)), .val (.int (Int32.ofNat ns.length)), .val (.int (1 : Int32)), .val (.int (2 : Int32)), .val (.int (1 : Int32)), .unset, .unset, .unset, .unset, .unset, .unset] [(.int (1 : Int32))]
                    refine w_istore ok d7_175 (L' := #[.val (.ref p), .val (.ref n), .val (.int (4 : Int32)), .val (.int (Int32.ofNat ns.length)), .val (.int (1 : Int32)), .val (.int (2 : Int32)), .val (.int (1 : Int32)), .val (.int (1 : Int32)), .unset, .unset, .unset, .unset, .unset]) rfl ?_
                    refine w_iloadN ok d7_177 rfl ?_
                    refine w_iload ok d7_178 rfl ?_
                    refine w_iload ok d7_180 rfl ?_
                    refine w_iadd ok d7_182 ?_
                    show W K l _ n0 _ h0 0 0 183 #[.val (.ref p), .val (.ref n), .val (.int (4 : Int32)), .val (.int (Int32.ofNat ns.length)), .val (.int (1 : Int32)), .val (.int (2 : Int32)), .val (.int (1 : Int32)), .val (.int (1 : Int32)), .unset, .unset, .unset, .unset, .unset] [(.int (2 : Int32)), (.int (Int32.ofNat ns.length))]
                    refine w_icmp_ge ok d7_183 (pc' := 188) (by decide) (fun hc634 => ?_) (fun hc634 => ?_)
                    · skip
                      have hge : 2 ≤ ns.length := by have q := hc634; rw [show (2 : Int32) = Int32.ofNat 2 from rfl, own_lt (by omega) (by omega)] at q; omega
                      refine w_aloadN ok d7_188 rfl rfl ?_
                      refine w_iconst ok d7_189 (v := (0 : Int32)) rfl ?_
                      refine w_iload ok d7_190 rfl ?_
                      refine w_aloadN ok d7_192 rfl rfl ?_
                      refine w_iconst ok d7_193 (v := (0 : Int32)) rfl ?_
                      refine w_callS ok (y := mn_9) (argsL := [(.ref p), (.int (0 : Int32)), (.int (1 : Int32)), (.ref n), (.int (0 : Int32))]) (rest := []) d7_194 (hw _ (List.mem_of_getElem? (i := 37) rfl)) (hw _ (List.mem_of_getElem? (i := 38) rfl)) (hw _ (List.mem_of_getElem? (i := 4) rfl)) (hw _ (List.mem_of_getElem? (i := 39) rfl)) (by decide) pd_285bBII5bBI29Z rfl rfl (by decide) (Nat.le_of_ble_eq_true rfl) (by decide) (by decide) (fun z0 => rm_seg l Z a0 hw [] n0 h0 z0 p n [x0, x1, x2, x3] ns A_p A_n 0 1 0 _ rfl (Nat.le_of_ble_eq_true rfl) (by decide) (by omega) (Nat.le_of_ble_eq_true rfl) ln) (fun v635 h636 qv635 => ?_)
                      obtain ⟨⟨rfl, sgp⟩ | ⟨rfl, sgp⟩, rfl⟩ := qv635
                      · skip
                        replace sgp : SGl [x0] ns 0 := sgp
                        show W K l _ n0 _ h0 0 0 197 #[.val (.ref p), .val (.ref n), .val (.int (4 : Int32)), .val (.int (Int32.ofNat ns.length)), .val (.int (1 : Int32)), .val (.int (2 : Int32)), .val (.int (1 : Int32)), .val (.int (1 : Int32)), .unset, .unset, .unset, .unset, .unset] [(.int (1 : Int32))]
                        refine w_if_ne ok d7_197 (pc' := 202) (by decide) (fun hc638 => ?_) (fun hc638 => False.elim (by revert hc638; decide))
                        refine w_aloadN ok d7_202 rfl rfl ?_
                        refine w_iload ok d7_203 rfl ?_
                        refine w_iconst ok d7_205 (v := (1 : Int32)) rfl ?_
                        refine w_iadd ok d7_206 ?_
                        show W K l _ n0 _ h0 0 0 207 #[.val (.ref p), .val (.ref n), .val (.int (4 : Int32)), .val (.int (Int32.ofNat ns.length)), .val (.int (1 : Int32)), .val (.int (2 : Int32)), .val (.int (1 : Int32)), .val (.int (1 : Int32)), .unset, .unset, .unset, .unset, .unset] [(.int (3 : Int32)), (.ref p)]
                        refine w_iload ok d7_207 rfl ?_
                        refine w_aloadN ok d7_209 rfl rfl ?_
                        refine w_iloadN ok d7_210 rfl ?_
                        refine w_iload ok d7_211 rfl ?_
                        refine w_isub ok d7_213 ?_
                        refine w_callS ok (y := mn_9) (argsL := [(.ref p), (.int (3 : Int32)), (.int (1 : Int32)), (.ref n), (.int ((Int32.ofNat ns.length) - (1 : Int32)))]) (rest := []) d7_214 (hw _ (List.mem_of_getElem? (i := 37) rfl)) (hw _ (List.mem_of_getElem? (i := 38) rfl)) (hw _ (List.mem_of_getElem? (i := 4) rfl)) (hw _ (List.mem_of_getElem? (i := 39) rfl)) (by decide) pd_285bBII5bBI29Z rfl rfl (by decide) (Nat.le_of_ble_eq_true rfl) (by decide) (by decide) (fun z0 => rm_seg l Z a0 hw [] n0 h0 z0 p n [x0, x1, x2, x3] ns A_p A_n 3 1 (ns.length - 1) _ (own_subk (k := 1) rfl (by omega) (by omega)) (Nat.le_of_ble_eq_true rfl) (by decide) (by omega) (Nat.le_of_ble_eq_true rfl) ln) (fun v639 h640 qv639 => ?_)
                        obtain ⟨⟨rfl, sgs⟩ | ⟨rfl, sgs⟩, rfl⟩ := qv639
                        · skip
                          replace sgs : SGl [x3] ns (ns.length - 1) := sgs
                          show W K l _ n0 _ h0 0 0 217 #[.val (.ref p), .val (.ref n), .val (.int (4 : Int32)), .val (.int (Int32.ofNat ns.length)), .val (.int (1 : Int32)), .val (.int (2 : Int32)), .val (.int (1 : Int32)), .val (.int (1 : Int32)), .unset, .unset, .unset, .unset, .unset] [(.int (1 : Int32))]
                          refine w_if_ne ok d7_217 (pc' := 222) (by decide) (fun hc642 => ?_) (fun hc642 => False.elim (by revert hc642; decide))
                          refine w_iload ok d7_222 rfl ?_
                          refine w_iload ok d7_224 rfl ?_
                          refine w_isub ok d7_226 ?_
                          show W K l _ n0 _ h0 0 0 227 #[.val (.ref p), .val (.ref n), .val (.int (4 : Int32)), .val (.int (Int32.ofNat ns.length)), .val (.int (1 : Int32)), .val (.int (2 : Int32)), .val (.int (1 : Int32)), .val (.int (1 : Int32)), .unset, .unset, .unset, .unset, .unset] [(.int (1 : Int32))]
                          refine w_iconst ok d7_227 (v := (1 : Int32)) rfl ?_
                          refine w_isub ok d7_228 ?_
                          show W K l _ n0 _ h0 0 0 229 #[.val (.ref p), .val (.ref n), .val (.int (4 : Int32)), .val (.int (Int32.ofNat ns.length)), .val (.int (1 : Int32)), .val (.int (2 : Int32)), .val (.int (1 : Int32)), .val (.int (1 : Int32)), .unset, .unset, .unset, .unset, .unset] [(.int (0 : Int32))]
                          refine w_istore ok d7_229 (L' := #[.val (.ref p), .val (.ref n), .val (.int (4 : Int32)), .val (.int (Int32.ofNat ns.length)), .val (.int (1 : Int32)), .val (.int (2 : Int32)), .val (.int (1 : Int32)), .val (.int (1 : Int32)), .val (.int (0 : Int32)), .unset, .unset, .unset, .unset]) rfl ?_
                          refine w_iload ok d7_231 rfl ?_
                          refine w_iconst ok d7_233 (v := (1 : Int32)) rfl ?_
                          refine w_iadd ok d7_234 ?_
                          show W K l _ n0 _ h0 0 0 235 #[.val (.ref p), .val (.ref n), .val (.int (4 : Int32)), .val (.int (Int32.ofNat ns.length)), .val (.int (1 : Int32)), .val (.int (2 : Int32)), .val (.int (1 : Int32)), .val (.int (1 : Int32)), .val (.int (0 : Int32)), .unset, .unset, .unset, .unset] [(.int (2 : Int32))]
                          refine w_istore ok d7_235 (L' := #[.val (.ref p), .val (.ref n), .val (.int (4 : Int32)), .val (.int (Int32.ofNat ns.length)), .val (.int (1 : Int32)), .val (.int (2 : Int32)), .val (.int (1 : Int32)), .val (.int (1 : Int32)), .val (.int (0 : Int32)), .val (.int (2 : Int32)), .unset, .unset, .unset]) rfl ?_
                          refine w_iconst ok d7_237 (v := (0 : Int32)) rfl ?_
                          refine w_istore ok d7_238 (L' := #[.val (.ref p), .val (.ref n), .val (.int (4 : Int32)), .val (.int (Int32.ofNat ns.length)), .val (.int (1 : Int32)), .val (.int (2 : Int32)), .val (.int (1 : Int32)), .val (.int (1 : Int32)), .val (.int (0 : Int32)), .val (.int (2 : Int32)), .val (.int (0 : Int32)), .unset, .unset]) rfl ?_
                          refine w_iload ok d7_240 rfl ?_
                          refine w_iconst ok d7_242 (v := (1 : Int32)) rfl ?_
                          refine w_icmp_ne ok d7_243 (pc' := 263) (by decide) (fun hc644 => ?_) (fun hc644 => False.elim (by revert hc644; decide))
                          refine w_iload ok d7_263 rfl ?_
                          refine w_iconst ok d7_265 (v := (2 : Int32)) rfl ?_
                          refine w_icmp_ne ok d7_266 (pc' := 340) (by decide) (fun hc646 => ?_) (fun hc646 => False.elim (by revert hc646; decide))
                          refine w_iload ok d7_340 rfl ?_
                          refine w_if_ne ok d7_342 (pc' := 347) (by decide) (fun hc648 => False.elim (by revert hc648; decide)) (fun hc648 => ?_)
                          refine w_iconst ok d7_345 (v := (1 : Int32)) rfl ?_
                          refine w_bret ok (by simp) d7_346 (by decide) (by decide) ?_
                          subst s1 s2
                          have key : Gi ns [x0, 42, 42, x3] 0 ↔ _ := (own_two (ns := ns) (P := [x0]) (R := []) (Q := [x3]) (NoS_cons s0 NoS_nil) NoS_nil (NoS_cons s3 NoS_nil))
                          exact ⟨Or.inl ⟨rfl, key.mpr ⟨hge, sgp, sgs, 1, Nat.le_refl _, (show 1 + 0 ≤ ns.length - 1 by omega), SGl_nil.mpr (by omega)⟩⟩, rfl⟩
                        · skip
                          replace sgs : ¬ (SGl [x3] ns (ns.length - 1)) := sgs
                          show W K l _ n0 _ h0 0 0 217 #[.val (.ref p), .val (.ref n), .val (.int (4 : Int32)), .val (.int (Int32.ofNat ns.length)), .val (.int (1 : Int32)), .val (.int (2 : Int32)), .val (.int (1 : Int32)), .val (.int (1 : Int32)), .unset, .unset, .unset, .unset, .unset] [(.int (0 : Int32))]
                          refine w_if_ne ok d7_217 (pc' := 222) (by decide) (fun hc650 => False.elim (by revert hc650; decide)) (fun hc650 => ?_)
                          refine w_iconst ok d7_220 (v := (0 : Int32)) rfl ?_
                          refine w_bret ok (by simp) d7_221 (by decide) (by decide) ?_
                          subst s1 s2
                          have key : Gi ns [x0, 42, 42, x3] 0 ↔ _ := (own_two (ns := ns) (P := [x0]) (R := []) (Q := [x3]) (NoS_cons s0 NoS_nil) NoS_nil (NoS_cons s3 NoS_nil))
                          exact ⟨Or.inr ⟨rfl, fun q => sgs (key.mp q).2.2.1⟩, rfl⟩
                      · skip
                        replace sgp : ¬ (SGl [x0] ns 0) := sgp
                        show W K l _ n0 _ h0 0 0 197 #[.val (.ref p), .val (.ref n), .val (.int (4 : Int32)), .val (.int (Int32.ofNat ns.length)), .val (.int (1 : Int32)), .val (.int (2 : Int32)), .val (.int (1 : Int32)), .val (.int (1 : Int32)), .unset, .unset, .unset, .unset, .unset] [(.int (0 : Int32))]
                        refine w_if_ne ok d7_197 (pc' := 202) (by decide) (fun hc652 => False.elim (by revert hc652; decide)) (fun hc652 => ?_)
                        refine w_iconst ok d7_200 (v := (0 : Int32)) rfl ?_
                        refine w_bret ok (by simp) d7_201 (by decide) (by decide) ?_
                        subst s1 s2
                        have key : Gi ns [x0, 42, 42, x3] 0 ↔ _ := (own_two (ns := ns) (P := [x0]) (R := []) (Q := [x3]) (NoS_cons s0 NoS_nil) NoS_nil (NoS_cons s3 NoS_nil))
                        exact ⟨Or.inr ⟨rfl, fun q => sgp (key.mp q).2.1⟩, rfl⟩
                    · skip
                      refine w_iconst ok d7_186 (v := (0 : Int32)) rfl ?_
                      refine w_bret ok (by simp) d7_187 (by decide) (by decide) ?_
                      subst s1 s2
                      have key : Gi ns [x0, 42, 42, x3] 0 ↔ _ := (own_two (ns := ns) (P := [x0]) (R := []) (Q := [x3]) (NoS_cons s0 NoS_nil) NoS_nil (NoS_cons s3 NoS_nil))
                      refine ⟨Or.inr ⟨rfl, fun q => ?_⟩, rfl⟩
                      have q1 : 1 + 1 ≤ ns.length := (key.mp q).1
                      have q2 := hc634; rw [show (2 : Int32) = Int32.ofNat 2 from rfl, own_lt (by omega) (by omega)] at q2; omega
                · exact absurd s2 t623
              · exact absurd s1 t616
        · skip
          replace s1 : ¬ (x1 = 42) := s1
          show W K l _ n0 _ h0 0 0 51 #[.val (.ref p), .val (.ref n), .val (.int (4 : Int32)), .val (.int (Int32.ofNat ns.length)), .val (.int (2 : Int32)), .unset, .unset, .unset, .unset, .unset, .unset, .unset, .unset] [(.int (0 : Int32))]
          refine w_if_eq ok d7_51 (pc' := 57) (by decide) (fun hc654 => ?_) (fun hc654 => False.elim (by revert hc654; decide))
          refine w_iloadN ok d7_57 rfl ?_
          refine w_if_le ok d7_58 (pc' := 72) (by decide) (fun hc656 => False.elim (by revert hc656; decide)) (fun hc656 => ?_)
          refine w_aloadN ok d7_61 rfl rfl ?_
          refine w_iconst ok d7_62 (v := (0 : Int32)) rfl ?_
          refine w_callS ok (y := mn_8) (argsL := [(.ref p), (.int (0 : Int32))]) (rest := []) d7_63 (hw _ (List.mem_of_getElem? (i := 34) rfl)) (hw _ (List.mem_of_getElem? (i := 35) rfl)) (hw _ (List.mem_of_getElem? (i := 4) rfl)) (hw _ (List.mem_of_getElem? (i := 36) rfl)) (by decide) pd_285bBI29Z rfl rfl (by decide) (Nat.le_of_ble_eq_true rfl) (by decide) (by decide) (fun z0 => rm_star l Z a0 hw [] n0 h0 z0 p [x0, x1, x2, x3] A_p 0 (Nat.le_of_ble_eq_true rfl) (Nat.le_of_ble_eq_true rfl)) (fun v657 h658 qv657 => ?_)
          obtain ⟨⟨rfl, s0⟩ | ⟨rfl, s0⟩, rfl⟩ := qv657
          · skip
            replace s0 : x0 = 42 := s0
            show W K l _ n0 _ h0 0 0 66 #[.val (.ref p), .val (.ref n), .val (.int (4 : Int32)), .val (.int (Int32.ofNat ns.length)), .val (.int (2 : Int32)), .unset, .unset, .unset, .unset, .unset, .unset, .unset, .unset] [(.int (1 : Int32))]
            refine w_if_eq ok d7_66 (pc' := 72) (by decide) (fun hc660 => False.elim (by revert hc660; decide)) (fun hc660 => ?_)
            refine w_iconst ok d7_69 (v := (0 : Int32)) rfl ?_
            refine w_istore ok d7_70 (L' := #[.val (.ref p), .val (.ref n), .val (.int (4 : Int32)), .val (.int (Int32.ofNat ns.length)), .val (.int (0 : Int32)), .unset, .unset, .unset, .unset, .unset, .unset, .unset, .unset]) rfl ?_
            refine w_iload ok d7_72 rfl ?_
            refine w_if_ge ok d7_74 (pc' := 99) (by decide) (fun hc662 => ?_) (fun hc662 => False.elim (by revert hc662; decide))
            refine w_iconst ok d7_99 (v := (-1 : Int32)) rfl ?_
            refine w_istore ok d7_100 (L' := #[.val (.ref p), .val (.ref n), .val (.int (4 : Int32)), .val (.int (Int32.ofNat ns.length)), .val (.int (0 : Int32)), .val (.int (-1 : Int32)), .unset, .unset, .unset, .unset, .unset, .unset, .unset]) rfl ?_
            refine w_iloadN ok d7_102 rfl ?_
            refine w_if_le ok d7_103 (pc' := 117) (by decide) (fun hc664 => False.elim (by revert hc664; decide)) (fun hc664 => ?_)
            refine w_aloadN ok d7_106 rfl rfl ?_
            refine w_iconst ok d7_107 (v := (0 : Int32)) rfl ?_
            refine w_callS ok (y := mn_8) (argsL := [(.ref p), (.int (0 : Int32))]) (rest := []) d7_108 (hw _ (List.mem_of_getElem? (i := 34) rfl)) (hw _ (List.mem_of_getElem? (i := 35) rfl)) (hw _ (List.mem_of_getElem? (i := 4) rfl)) (hw _ (List.mem_of_getElem? (i := 36) rfl)) (by decide) pd_285bBI29Z rfl rfl (by decide) (Nat.le_of_ble_eq_true rfl) (by decide) (by decide) (fun z0 => rm_star l Z a0 hw [] n0 h0 z0 p [x0, x1, x2, x3] A_p 0 (Nat.le_of_ble_eq_true rfl) (Nat.le_of_ble_eq_true rfl)) (fun v665 h666 qv665 => ?_)
            obtain ⟨⟨rfl, t667⟩ | ⟨rfl, t667⟩, rfl⟩ := qv665
            · skip
              replace t667 : x0 = 42 := t667
              show W K l _ n0 _ h0 0 0 111 #[.val (.ref p), .val (.ref n), .val (.int (4 : Int32)), .val (.int (Int32.ofNat ns.length)), .val (.int (0 : Int32)), .val (.int (-1 : Int32)), .unset, .unset, .unset, .unset, .unset, .unset, .unset] [(.int (1 : Int32))]
              refine w_if_eq ok d7_111 (pc' := 117) (by decide) (fun hc669 => False.elim (by revert hc669; decide)) (fun hc669 => ?_)
              refine w_iconst ok d7_114 (v := (0 : Int32)) rfl ?_
              refine w_istore ok d7_115 (L' := #[.val (.ref p), .val (.ref n), .val (.int (4 : Int32)), .val (.int (Int32.ofNat ns.length)), .val (.int (0 : Int32)), .val (.int (0 : Int32)), .unset, .unset, .unset, .unset, .unset, .unset, .unset]) rfl ?_
              refine w_iloadN ok d7_117 rfl ?_
              refine w_iconst ok d7_118 (v := (1 : Int32)) rfl ?_
              refine w_icmp_le ok d7_119 (pc' := 133) (by decide) (fun hc671 => False.elim (by revert hc671; decide)) (fun hc671 => ?_)
              refine w_aloadN ok d7_122 rfl rfl ?_
              refine w_iconst ok d7_123 (v := (1 : Int32)) rfl ?_
              refine w_callS ok (y := mn_8) (argsL := [(.ref p), (.int (1 : Int32))]) (rest := []) d7_124 (hw _ (List.mem_of_getElem? (i := 34) rfl)) (hw _ (List.mem_of_getElem? (i := 35) rfl)) (hw _ (List.mem_of_getElem? (i := 4) rfl)) (hw _ (List.mem_of_getElem? (i := 36) rfl)) (by decide) pd_285bBI29Z rfl rfl (by decide) (Nat.le_of_ble_eq_true rfl) (by decide) (by decide) (fun z0 => rm_star l Z a0 hw [] n0 h0 z0 p [x0, x1, x2, x3] A_p 1 (Nat.le_of_ble_eq_true rfl) (Nat.le_of_ble_eq_true rfl)) (fun v672 h673 qv672 => ?_)
              obtain ⟨⟨rfl, t674⟩ | ⟨rfl, t674⟩, rfl⟩ := qv672
              · exact absurd t674 s1
              · skip
                replace t674 : ¬ (x1 = 42) := t674
                show W K l _ n0 _ h0 0 0 127 #[.val (.ref p), .val (.ref n), .val (.int (4 : Int32)), .val (.int (Int32.ofNat ns.length)), .val (.int (0 : Int32)), .val (.int (0 : Int32)), .unset, .unset, .unset, .unset, .unset, .unset, .unset] [(.int (0 : Int32))]
                refine w_if_eq ok d7_127 (pc' := 133) (by decide) (fun hc676 => ?_) (fun hc676 => False.elim (by revert hc676; decide))
                refine w_iloadN ok d7_133 rfl ?_
                refine w_iconst ok d7_134 (v := (2 : Int32)) rfl ?_
                refine w_icmp_le ok d7_135 (pc' := 149) (by decide) (fun hc678 => False.elim (by revert hc678; decide)) (fun hc678 => ?_)
                refine w_aloadN ok d7_138 rfl rfl ?_
                refine w_iconst ok d7_139 (v := (2 : Int32)) rfl ?_
                refine w_callS ok (y := mn_8) (argsL := [(.ref p), (.int (2 : Int32))]) (rest := []) d7_140 (hw _ (List.mem_of_getElem? (i := 34) rfl)) (hw _ (List.mem_of_getElem? (i := 35) rfl)) (hw _ (List.mem_of_getElem? (i := 4) rfl)) (hw _ (List.mem_of_getElem? (i := 36) rfl)) (by decide) pd_285bBI29Z rfl rfl (by decide) (Nat.le_of_ble_eq_true rfl) (by decide) (by decide) (fun z0 => rm_star l Z a0 hw [] n0 h0 z0 p [x0, x1, x2, x3] A_p 2 (Nat.le_of_ble_eq_true rfl) (Nat.le_of_ble_eq_true rfl)) (fun v679 h680 qv679 => ?_)
                obtain ⟨⟨rfl, t681⟩ | ⟨rfl, t681⟩, rfl⟩ := qv679
                · skip
                  replace t681 : x2 = 42 := t681
                  show W K l _ n0 _ h0 0 0 143 #[.val (.ref p), .val (.ref n), .val (.int (4 : Int32)), .val (.int (Int32.ofNat ns.length)), .val (.int (0 : Int32)), .val (.int (0 : Int32)), .unset, .unset, .unset, .unset, .unset, .unset, .unset] [(.int (1 : Int32))]
                  refine w_if_eq ok d7_143 (pc' := 149) (by decide) (fun hc683 => False.elim (by revert hc683; decide)) (fun hc683 => ?_)
                  refine w_iconst ok d7_146 (v := (2 : Int32)) rfl ?_
                  refine w_istore ok d7_147 (L' := #[.val (.ref p), .val (.ref n), .val (.int (4 : Int32)), .val (.int (Int32.ofNat ns.length)), .val (.int (0 : Int32)), .val (.int (2 : Int32)), .unset, .unset, .unset, .unset, .unset, .unset, .unset]) rfl ?_
                  refine w_iloadN ok d7_149 rfl ?_
                  refine w_iconst ok d7_150 (v := (3 : Int32)) rfl ?_
                  refine w_icmp_le ok d7_151 (pc' := 165) (by decide) (fun hc685 => False.elim (by revert hc685; decide)) (fun hc685 => ?_)
                  refine w_aloadN ok d7_154 rfl rfl ?_
                  refine w_iconst ok d7_155 (v := (3 : Int32)) rfl ?_
                  refine w_callS ok (y := mn_8) (argsL := [(.ref p), (.int (3 : Int32))]) (rest := []) d7_156 (hw _ (List.mem_of_getElem? (i := 34) rfl)) (hw _ (List.mem_of_getElem? (i := 35) rfl)) (hw _ (List.mem_of_getElem? (i := 4) rfl)) (hw _ (List.mem_of_getElem? (i := 36) rfl)) (by decide) pd_285bBI29Z rfl rfl (by decide) (Nat.le_of_ble_eq_true rfl) (by decide) (by decide) (fun z0 => rm_star l Z a0 hw [] n0 h0 z0 p [x0, x1, x2, x3] A_p 3 (Nat.le_of_ble_eq_true rfl) (Nat.le_of_ble_eq_true rfl)) (fun v686 h687 qv686 => ?_)
                  obtain ⟨⟨rfl, t688⟩ | ⟨rfl, t688⟩, rfl⟩ := qv686
                  · exact absurd t688 s3
                  · skip
                    replace t688 : ¬ (x3 = 42) := t688
                    show W K l _ n0 _ h0 0 0 159 #[.val (.ref p), .val (.ref n), .val (.int (4 : Int32)), .val (.int (Int32.ofNat ns.length)), .val (.int (0 : Int32)), .val (.int (2 : Int32)), .unset, .unset, .unset, .unset, .unset, .unset, .unset] [(.int (0 : Int32))]
                    refine w_if_eq ok d7_159 (pc' := 165) (by decide) (fun hc690 => ?_) (fun hc690 => False.elim (by revert hc690; decide))
                    refine w_iload ok d7_165 rfl ?_
                    refine w_istore ok d7_167 (L' := #[.val (.ref p), .val (.ref n), .val (.int (4 : Int32)), .val (.int (Int32.ofNat ns.length)), .val (.int (0 : Int32)), .val (.int (2 : Int32)), .val (.int (0 : Int32)), .unset, .unset, .unset, .unset, .unset, .unset]) rfl ?_
                    refine w_iloadN ok d7_169 rfl ?_
                    refine w_iconst ok d7_170 (v := (1 : Int32)) rfl ?_
                    refine w_isub ok d7_171 ?_
                    show W K l _ n0 _ h0 0 0 172 #[.val (.ref p), .val (.ref n), .val (.int (4 : Int32)), .val (.int (Int32.ofNat ns.length)), .val (.int (0 : Int32)), .val (.int (2 : Int32)), .val (.int (0 : Int32)), .unset, .unset, .unset, .unset, .unset, .unset] [(.int (3 : Int32))]
                    refine w_iload ok d7_172 rfl ?_
                    refine w_isub ok d7_174 ?_
                    show W K l _ n0 _ h0 0 0 175 #[.val (.ref p), .val (.ref n), .val (.int (4 : Int32)), .val (.int (Int32.ofNat ns.length)), .val (.int (0 : Int32)), .val (.int (2 : Int32)), .val (.int (0 : Int32)), .unset, .unset, .unset, .unset, .unset, .unset] [(.int (1 : Int32))]
                    refine w_istore ok d7_175 (L' := #[.val (.ref p), .val (.ref n), .val (.int (4 : Int32)), .val (.int (Int32.ofNat ns.length)), .val (.int (0 : Int32)), .val (.int (2 : Int32)), .val (.int (0 : Int32)), .val (.int (1 : Int32)), .unset, .unset, .unset, .unset, .unset]) rfl ?_
                    refine w_iloadN ok d7_177 rfl ?_
                    refine w_iload ok d7_178 rfl ?_
                    refine w_iload ok d7_180 rfl ?_
                    refine w_iadd ok d7_182 ?_
                    show W K l _ n0 _ h0 0 0 183 #[.val (.ref p), .val (.ref n), .val (.int (4 : Int32)), .val (.int (Int32.ofNat ns.length)), .val (.int (0 : Int32)), .val (.int (2 : Int32)), .val (.int (0 : Int32)), .val (.int (1 : Int32)), .unset, .unset, .unset, .unset, .unset] [(.int (1 : Int32)), (.int (Int32.ofNat ns.length))]
                    refine w_icmp_ge ok d7_183 (pc' := 188) (by decide) (fun hc692 => ?_) (fun hc692 => ?_)
                    · skip
                      have hge : 1 ≤ ns.length := by have q := hc692; rw [show (1 : Int32) = Int32.ofNat 1 from rfl, own_lt (by omega) (by omega)] at q; omega
                      refine w_aloadN ok d7_188 rfl rfl ?_
                      refine w_iconst ok d7_189 (v := (0 : Int32)) rfl ?_
                      refine w_iload ok d7_190 rfl ?_
                      refine w_aloadN ok d7_192 rfl rfl ?_
                      refine w_iconst ok d7_193 (v := (0 : Int32)) rfl ?_
                      refine w_callS ok (y := mn_9) (argsL := [(.ref p), (.int (0 : Int32)), (.int (0 : Int32)), (.ref n), (.int (0 : Int32))]) (rest := []) d7_194 (hw _ (List.mem_of_getElem? (i := 37) rfl)) (hw _ (List.mem_of_getElem? (i := 38) rfl)) (hw _ (List.mem_of_getElem? (i := 4) rfl)) (hw _ (List.mem_of_getElem? (i := 39) rfl)) (by decide) pd_285bBII5bBI29Z rfl rfl (by decide) (Nat.le_of_ble_eq_true rfl) (by decide) (by decide) (fun z0 => rm_seg l Z a0 hw [] n0 h0 z0 p n [x0, x1, x2, x3] ns A_p A_n 0 0 0 _ rfl (Nat.le_of_ble_eq_true rfl) (by decide) (by omega) (Nat.le_of_ble_eq_true rfl) ln) (fun v693 h694 qv693 => ?_)
                      obtain ⟨⟨rfl, sgp⟩ | ⟨rfl, sgp⟩, rfl⟩ := qv693
                      · skip
                        replace sgp : SGl [] ns 0 := sgp
                        show W K l _ n0 _ h0 0 0 197 #[.val (.ref p), .val (.ref n), .val (.int (4 : Int32)), .val (.int (Int32.ofNat ns.length)), .val (.int (0 : Int32)), .val (.int (2 : Int32)), .val (.int (0 : Int32)), .val (.int (1 : Int32)), .unset, .unset, .unset, .unset, .unset] [(.int (1 : Int32))]
                        refine w_if_ne ok d7_197 (pc' := 202) (by decide) (fun hc696 => ?_) (fun hc696 => False.elim (by revert hc696; decide))
                        refine w_aloadN ok d7_202 rfl rfl ?_
                        refine w_iload ok d7_203 rfl ?_
                        refine w_iconst ok d7_205 (v := (1 : Int32)) rfl ?_
                        refine w_iadd ok d7_206 ?_
                        show W K l _ n0 _ h0 0 0 207 #[.val (.ref p), .val (.ref n), .val (.int (4 : Int32)), .val (.int (Int32.ofNat ns.length)), .val (.int (0 : Int32)), .val (.int (2 : Int32)), .val (.int (0 : Int32)), .val (.int (1 : Int32)), .unset, .unset, .unset, .unset, .unset] [(.int (3 : Int32)), (.ref p)]
                        refine w_iload ok d7_207 rfl ?_
                        refine w_aloadN ok d7_209 rfl rfl ?_
                        refine w_iloadN ok d7_210 rfl ?_
                        refine w_iload ok d7_211 rfl ?_
                        refine w_isub ok d7_213 ?_
                        refine w_callS ok (y := mn_9) (argsL := [(.ref p), (.int (3 : Int32)), (.int (1 : Int32)), (.ref n), (.int ((Int32.ofNat ns.length) - (1 : Int32)))]) (rest := []) d7_214 (hw _ (List.mem_of_getElem? (i := 37) rfl)) (hw _ (List.mem_of_getElem? (i := 38) rfl)) (hw _ (List.mem_of_getElem? (i := 4) rfl)) (hw _ (List.mem_of_getElem? (i := 39) rfl)) (by decide) pd_285bBII5bBI29Z rfl rfl (by decide) (Nat.le_of_ble_eq_true rfl) (by decide) (by decide) (fun z0 => rm_seg l Z a0 hw [] n0 h0 z0 p n [x0, x1, x2, x3] ns A_p A_n 3 1 (ns.length - 1) _ (own_subk (k := 1) rfl (by omega) (by omega)) (Nat.le_of_ble_eq_true rfl) (by decide) (by omega) (Nat.le_of_ble_eq_true rfl) ln) (fun v697 h698 qv697 => ?_)
                        obtain ⟨⟨rfl, sgs⟩ | ⟨rfl, sgs⟩, rfl⟩ := qv697
                        · skip
                          replace sgs : SGl [x3] ns (ns.length - 1) := sgs
                          show W K l _ n0 _ h0 0 0 217 #[.val (.ref p), .val (.ref n), .val (.int (4 : Int32)), .val (.int (Int32.ofNat ns.length)), .val (.int (0 : Int32)), .val (.int (2 : Int32)), .val (.int (0 : Int32)), .val (.int (1 : Int32)), .unset, .unset, .unset, .unset, .unset] [(.int (1 : Int32))]
                          refine w_if_ne ok d7_217 (pc' := 222) (by decide) (fun hc700 => ?_) (fun hc700 => False.elim (by revert hc700; decide))
                          refine w_iload ok d7_222 rfl ?_
                          refine w_iload ok d7_224 rfl ?_
                          refine w_isub ok d7_226 ?_
                          show W K l _ n0 _ h0 0 0 227 #[.val (.ref p), .val (.ref n), .val (.int (4 : Int32)), .val (.int (Int32.ofNat ns.length)), .val (.int (0 : Int32)), .val (.int (2 : Int32)), .val (.int (0 : Int32)), .val (.int (1 : Int32)), .unset, .unset, .unset, .unset, .unset] [(.int (2 : Int32))]
                          refine w_iconst ok d7_227 (v := (1 : Int32)) rfl ?_
                          refine w_isub ok d7_228 ?_
                          show W K l _ n0 _ h0 0 0 229 #[.val (.ref p), .val (.ref n), .val (.int (4 : Int32)), .val (.int (Int32.ofNat ns.length)), .val (.int (0 : Int32)), .val (.int (2 : Int32)), .val (.int (0 : Int32)), .val (.int (1 : Int32)), .unset, .unset, .unset, .unset, .unset] [(.int (1 : Int32))]
                          refine w_istore ok d7_229 (L' := #[.val (.ref p), .val (.ref n), .val (.int (4 : Int32)), .val (.int (Int32.ofNat ns.length)), .val (.int (0 : Int32)), .val (.int (2 : Int32)), .val (.int (0 : Int32)), .val (.int (1 : Int32)), .val (.int (1 : Int32)), .unset, .unset, .unset, .unset]) rfl ?_
                          refine w_iload ok d7_231 rfl ?_
                          refine w_iconst ok d7_233 (v := (1 : Int32)) rfl ?_
                          refine w_iadd ok d7_234 ?_
                          show W K l _ n0 _ h0 0 0 235 #[.val (.ref p), .val (.ref n), .val (.int (4 : Int32)), .val (.int (Int32.ofNat ns.length)), .val (.int (0 : Int32)), .val (.int (2 : Int32)), .val (.int (0 : Int32)), .val (.int (1 : Int32)), .val (.int (1 : Int32)), .unset, .unset, .unset, .unset] [(.int (1 : Int32))]
                          refine w_istore ok d7_235 (L' := #[.val (.ref p), .val (.ref n), .val (.int (4 : Int32)), .val (.int (Int32.ofNat ns.length)), .val (.int (0 : Int32)), .val (.int (2 : Int32)), .val (.int (0 : Int32)), .val (.int (1 : Int32)), .val (.int (1 : Int32)), .val (.int (1 : Int32)), .unset, .unset, .unset]) rfl ?_
                          refine w_iconst ok d7_237 (v := (0 : Int32)) rfl ?_
                          refine w_istore ok d7_238 (L' := #[.val (.ref p), .val (.ref n), .val (.int (4 : Int32)), .val (.int (Int32.ofNat ns.length)), .val (.int (0 : Int32)), .val (.int (2 : Int32)), .val (.int (0 : Int32)), .val (.int (1 : Int32)), .val (.int (1 : Int32)), .val (.int (1 : Int32)), .val (.int (0 : Int32)), .unset, .unset]) rfl ?_
                          refine w_iload ok d7_240 rfl ?_
                          refine w_iconst ok d7_242 (v := (1 : Int32)) rfl ?_
                          refine w_icmp_ne ok d7_243 (pc' := 263) (by decide) (fun hc702 => False.elim (by revert hc702; decide)) (fun hc702 => ?_)
                          refine w_aloadN ok d7_246 rfl rfl ?_
                          refine w_iload ok d7_247 rfl ?_
                          refine w_iconst ok d7_249 (v := (1 : Int32)) rfl ?_
                          refine w_iadd ok d7_250 ?_
                          show W K l _ n0 _ h0 0 0 251 #[.val (.ref p), .val (.ref n), .val (.int (4 : Int32)), .val (.int (Int32.ofNat ns.length)), .val (.int (0 : Int32)), .val (.int (2 : Int32)), .val (.int (0 : Int32)), .val (.int (1 : Int32)), .val (.int (1 : Int32)), .val (.int (1 : Int32)), .val (.int (0 : Int32)), .unset, .unset] [(.int (1 : Int32)), (.ref p)]
                          refine w_callS ok (y := mn_8) (argsL := [(.ref p), (.int (1 : Int32))]) (rest := []) d7_251 (hw _ (List.mem_of_getElem? (i := 34) rfl)) (hw _ (List.mem_of_getElem? (i := 35) rfl)) (hw _ (List.mem_of_getElem? (i := 4) rfl)) (hw _ (List.mem_of_getElem? (i := 36) rfl)) (by decide) pd_285bBI29Z rfl rfl (by decide) (Nat.le_of_ble_eq_true rfl) (by decide) (by decide) (fun z0 => rm_star l Z a0 hw [] n0 h0 z0 p [x0, x1, x2, x3] A_p 1 (Nat.le_of_ble_eq_true rfl) (Nat.le_of_ble_eq_true rfl)) (fun v703 h704 qv703 => ?_)
                          obtain ⟨⟨rfl, t705⟩ | ⟨rfl, t705⟩, rfl⟩ := qv703
                          · exact absurd t705 s1
                          · skip
                            replace t705 : ¬ (x1 = 42) := t705
                            show W K l _ n0 _ h0 0 0 254 #[.val (.ref p), .val (.ref n), .val (.int (4 : Int32)), .val (.int (Int32.ofNat ns.length)), .val (.int (0 : Int32)), .val (.int (2 : Int32)), .val (.int (0 : Int32)), .val (.int (1 : Int32)), .val (.int (1 : Int32)), .val (.int (1 : Int32)), .val (.int (0 : Int32)), .unset, .unset] [(.int (0 : Int32))]
                            refine w_if_ne ok d7_254 (pc' := 340) (by decide) (fun hc707 => False.elim (by revert hc707; decide)) (fun hc707 => ?_)
                            refine w_iconst ok d7_257 (v := (1 : Int32)) rfl ?_
                            refine w_istore ok d7_258 (L' := #[.val (.ref p), .val (.ref n), .val (.int (4 : Int32)), .val (.int (Int32.ofNat ns.length)), .val (.int (0 : Int32)), .val (.int (2 : Int32)), .val (.int (0 : Int32)), .val (.int (1 : Int32)), .val (.int (1 : Int32)), .val (.int (1 : Int32)), .val (.int (1 : Int32)), .unset, .unset]) rfl ?_
                            refine w_goto ok d7_260 (pc' := 340) (by decide) ?_
                            refine w_iload ok d7_340 rfl ?_
                            refine w_if_ne ok d7_342 (pc' := 347) (by decide) (fun hc709 => ?_) (fun hc709 => False.elim (by revert hc709; decide))
                            refine w_aloadN ok d7_347 rfl rfl ?_
                            refine w_iload ok d7_348 rfl ?_
                            refine w_iload ok d7_350 rfl ?_
                            refine w_aloadN ok d7_352 rfl rfl ?_
                            refine w_iload ok d7_353 rfl ?_
                            refine w_iloadN ok d7_355 rfl ?_
                            refine w_iload ok d7_356 rfl ?_
                            refine w_isub ok d7_358 ?_
                            refine w_callS ok (y := mn_11) (argsL := [(.ref p), (.int (1 : Int32)), (.int (1 : Int32)), (.ref n), (.int (0 : Int32)), (.int ((Int32.ofNat ns.length) - (1 : Int32)))]) (rest := []) d7_359 (hw _ (List.mem_of_getElem? (i := 43) rfl)) (hw _ (List.mem_of_getElem? (i := 44) rfl)) (hw _ (List.mem_of_getElem? (i := 4) rfl)) (hw _ (List.mem_of_getElem? (i := 45) rfl)) (by decide) pd_285bBII5bBII29Z rfl rfl (by decide) (Nat.le_of_ble_eq_true rfl) (by decide) (by decide) (fun z0 => rm_found l Z a0 hw [] n0 h0 z0 p n [x0, x1, x2, x3] ns A_p A_n 1 1 0 (ns.length - 1) _ (own_subk (k := 1) rfl (by omega) (by omega)) (Nat.le_of_ble_eq_true rfl) (by decide) (Nat.le_of_ble_eq_true rfl) ln (by decide) (by omega)) (fun v710 h711 qv710 => ?_)
                            obtain ⟨⟨rfl, fo⟩ | ⟨rfl, fo⟩, rfl⟩ := qv710
                            · skip
                              replace fo : ∃ i, 0 ≤ i ∧ i + 1 ≤ ns.length - 1 ∧ SGl [x1] ns i := fo
                              show W K l _ n0 _ h0 0 0 362 #[.val (.ref p), .val (.ref n), .val (.int (4 : Int32)), .val (.int (Int32.ofNat ns.length)), .val (.int (0 : Int32)), .val (.int (2 : Int32)), .val (.int (0 : Int32)), .val (.int (1 : Int32)), .val (.int (1 : Int32)), .val (.int (1 : Int32)), .val (.int (1 : Int32)), .unset, .unset] [(.int (1 : Int32))]
                              refine w_bret ok (by simp) d7_362 (by decide) (by decide) ?_
                              subst s0 s2
                              have key : Gi ns [42, x1, 42, x3] 0 ↔ _ := (own_two (ns := ns) (P := []) (R := [x1]) (Q := [x3]) NoS_nil (NoS_cons s1 NoS_nil) (NoS_cons s3 NoS_nil))
                              exact ⟨Or.inl ⟨rfl, key.mpr ⟨hge, sgp, sgs, fo⟩⟩, rfl⟩
                            · skip
                              replace fo : ¬ (∃ i, 0 ≤ i ∧ i + 1 ≤ ns.length - 1 ∧ SGl [x1] ns i) := fo
                              show W K l _ n0 _ h0 0 0 362 #[.val (.ref p), .val (.ref n), .val (.int (4 : Int32)), .val (.int (Int32.ofNat ns.length)), .val (.int (0 : Int32)), .val (.int (2 : Int32)), .val (.int (0 : Int32)), .val (.int (1 : Int32)), .val (.int (1 : Int32)), .val (.int (1 : Int32)), .val (.int (1 : Int32)), .unset, .unset] [(.int (0 : Int32))]
                              refine w_bret ok (by simp) d7_362 (by decide) (by decide) ?_
                              subst s0 s2
                              have key : Gi ns [42, x1, 42, x3] 0 ↔ _ := (own_two (ns := ns) (P := []) (R := [x1]) (Q := [x3]) NoS_nil (NoS_cons s1 NoS_nil) (NoS_cons s3 NoS_nil))
                              exact ⟨Or.inr ⟨rfl, fun q => fo (key.mp q).2.2.2⟩, rfl⟩
                        · skip
                          replace sgs : ¬ (SGl [x3] ns (ns.length - 1)) := sgs
                          show W K l _ n0 _ h0 0 0 217 #[.val (.ref p), .val (.ref n), .val (.int (4 : Int32)), .val (.int (Int32.ofNat ns.length)), .val (.int (0 : Int32)), .val (.int (2 : Int32)), .val (.int (0 : Int32)), .val (.int (1 : Int32)), .unset, .unset, .unset, .unset, .unset] [(.int (0 : Int32))]
                          refine w_if_ne ok d7_217 (pc' := 222) (by decide) (fun hc713 => False.elim (by revert hc713; decide)) (fun hc713 => ?_)
                          refine w_iconst ok d7_220 (v := (0 : Int32)) rfl ?_
                          refine w_bret ok (by simp) d7_221 (by decide) (by decide) ?_
                          subst s0 s2
                          have key : Gi ns [42, x1, 42, x3] 0 ↔ _ := (own_two (ns := ns) (P := []) (R := [x1]) (Q := [x3]) NoS_nil (NoS_cons s1 NoS_nil) (NoS_cons s3 NoS_nil))
                          exact ⟨Or.inr ⟨rfl, fun q => sgs (key.mp q).2.2.1⟩, rfl⟩
                      · skip
                        replace sgp : ¬ (SGl [] ns 0) := sgp
                        show W K l _ n0 _ h0 0 0 197 #[.val (.ref p), .val (.ref n), .val (.int (4 : Int32)), .val (.int (Int32.ofNat ns.length)), .val (.int (0 : Int32)), .val (.int (2 : Int32)), .val (.int (0 : Int32)), .val (.int (1 : Int32)), .unset, .unset, .unset, .unset, .unset] [(.int (0 : Int32))]
                        refine w_if_ne ok d7_197 (pc' := 202) (by decide) (fun hc715 => False.elim (by revert hc715; decide)) (fun hc715 => ?_)
                        refine w_iconst ok d7_200 (v := (0 : Int32)) rfl ?_
                        refine w_bret ok (by simp) d7_201 (by decide) (by decide) ?_
                        subst s0 s2
                        have key : Gi ns [42, x1, 42, x3] 0 ↔ _ := (own_two (ns := ns) (P := []) (R := [x1]) (Q := [x3]) NoS_nil (NoS_cons s1 NoS_nil) (NoS_cons s3 NoS_nil))
                        exact ⟨Or.inr ⟨rfl, fun q => sgp (key.mp q).2.1⟩, rfl⟩
                    · skip
                      refine w_iconst ok d7_186 (v := (0 : Int32)) rfl ?_
                      refine w_bret ok (by simp) d7_187 (by decide) (by decide) ?_
                      subst s0 s2
                      have key : Gi ns [42, x1, 42, x3] 0 ↔ _ := (own_two (ns := ns) (P := []) (R := [x1]) (Q := [x3]) NoS_nil (NoS_cons s1 NoS_nil) (NoS_cons s3 NoS_nil))
                      refine ⟨Or.inr ⟨rfl, fun q => ?_⟩, rfl⟩
                      have q1 : 0 + 1 ≤ ns.length := (key.mp q).1
                      have q2 := hc692; rw [show (1 : Int32) = Int32.ofNat 1 from rfl, own_lt (by omega) (by omega)] at q2; omega
                · exact absurd s2 t681
            · exact absurd s0 t667
          · skip
            replace s0 : ¬ (x0 = 42) := s0
            show W K l _ n0 _ h0 0 0 66 #[.val (.ref p), .val (.ref n), .val (.int (4 : Int32)), .val (.int (Int32.ofNat ns.length)), .val (.int (2 : Int32)), .unset, .unset, .unset, .unset, .unset, .unset, .unset, .unset] [(.int (0 : Int32))]
            refine w_if_eq ok d7_66 (pc' := 72) (by decide) (fun hc717 => ?_) (fun hc717 => False.elim (by revert hc717; decide))
            refine w_iload ok d7_72 rfl ?_
            refine w_if_ge ok d7_74 (pc' := 99) (by decide) (fun hc719 => ?_) (fun hc719 => False.elim (by revert hc719; decide))
            refine w_iconst ok d7_99 (v := (-1 : Int32)) rfl ?_
            refine w_istore ok d7_100 (L' := #[.val (.ref p), .val (.ref n), .val (.int (4 : Int32)), .val (.int (Int32.ofNat ns.length)), .val (.int (2 : Int32)), .val (.int (-1 : Int32)), .unset, .unset, .unset, .unset, .unset, .unset, .unset]) rfl ?_
            refine w_iloadN ok d7_102 rfl ?_
            refine w_if_le ok d7_103 (pc' := 117) (by decide) (fun hc721 => False.elim (by revert hc721; decide)) (fun hc721 => ?_)
            refine w_aloadN ok d7_106 rfl rfl ?_
            refine w_iconst ok d7_107 (v := (0 : Int32)) rfl ?_
            refine w_callS ok (y := mn_8) (argsL := [(.ref p), (.int (0 : Int32))]) (rest := []) d7_108 (hw _ (List.mem_of_getElem? (i := 34) rfl)) (hw _ (List.mem_of_getElem? (i := 35) rfl)) (hw _ (List.mem_of_getElem? (i := 4) rfl)) (hw _ (List.mem_of_getElem? (i := 36) rfl)) (by decide) pd_285bBI29Z rfl rfl (by decide) (Nat.le_of_ble_eq_true rfl) (by decide) (by decide) (fun z0 => rm_star l Z a0 hw [] n0 h0 z0 p [x0, x1, x2, x3] A_p 0 (Nat.le_of_ble_eq_true rfl) (Nat.le_of_ble_eq_true rfl)) (fun v722 h723 qv722 => ?_)
            obtain ⟨⟨rfl, t724⟩ | ⟨rfl, t724⟩, rfl⟩ := qv722
            · exact absurd t724 s0
            · skip
              replace t724 : ¬ (x0 = 42) := t724
              show W K l _ n0 _ h0 0 0 111 #[.val (.ref p), .val (.ref n), .val (.int (4 : Int32)), .val (.int (Int32.ofNat ns.length)), .val (.int (2 : Int32)), .val (.int (-1 : Int32)), .unset, .unset, .unset, .unset, .unset, .unset, .unset] [(.int (0 : Int32))]
              refine w_if_eq ok d7_111 (pc' := 117) (by decide) (fun hc726 => ?_) (fun hc726 => False.elim (by revert hc726; decide))
              refine w_iloadN ok d7_117 rfl ?_
              refine w_iconst ok d7_118 (v := (1 : Int32)) rfl ?_
              refine w_icmp_le ok d7_119 (pc' := 133) (by decide) (fun hc728 => False.elim (by revert hc728; decide)) (fun hc728 => ?_)
              refine w_aloadN ok d7_122 rfl rfl ?_
              refine w_iconst ok d7_123 (v := (1 : Int32)) rfl ?_
              refine w_callS ok (y := mn_8) (argsL := [(.ref p), (.int (1 : Int32))]) (rest := []) d7_124 (hw _ (List.mem_of_getElem? (i := 34) rfl)) (hw _ (List.mem_of_getElem? (i := 35) rfl)) (hw _ (List.mem_of_getElem? (i := 4) rfl)) (hw _ (List.mem_of_getElem? (i := 36) rfl)) (by decide) pd_285bBI29Z rfl rfl (by decide) (Nat.le_of_ble_eq_true rfl) (by decide) (by decide) (fun z0 => rm_star l Z a0 hw [] n0 h0 z0 p [x0, x1, x2, x3] A_p 1 (Nat.le_of_ble_eq_true rfl) (Nat.le_of_ble_eq_true rfl)) (fun v729 h730 qv729 => ?_)
              obtain ⟨⟨rfl, t731⟩ | ⟨rfl, t731⟩, rfl⟩ := qv729
              · exact absurd t731 s1
              · skip
                replace t731 : ¬ (x1 = 42) := t731
                show W K l _ n0 _ h0 0 0 127 #[.val (.ref p), .val (.ref n), .val (.int (4 : Int32)), .val (.int (Int32.ofNat ns.length)), .val (.int (2 : Int32)), .val (.int (-1 : Int32)), .unset, .unset, .unset, .unset, .unset, .unset, .unset] [(.int (0 : Int32))]
                refine w_if_eq ok d7_127 (pc' := 133) (by decide) (fun hc733 => ?_) (fun hc733 => False.elim (by revert hc733; decide))
                refine w_iloadN ok d7_133 rfl ?_
                refine w_iconst ok d7_134 (v := (2 : Int32)) rfl ?_
                refine w_icmp_le ok d7_135 (pc' := 149) (by decide) (fun hc735 => False.elim (by revert hc735; decide)) (fun hc735 => ?_)
                refine w_aloadN ok d7_138 rfl rfl ?_
                refine w_iconst ok d7_139 (v := (2 : Int32)) rfl ?_
                refine w_callS ok (y := mn_8) (argsL := [(.ref p), (.int (2 : Int32))]) (rest := []) d7_140 (hw _ (List.mem_of_getElem? (i := 34) rfl)) (hw _ (List.mem_of_getElem? (i := 35) rfl)) (hw _ (List.mem_of_getElem? (i := 4) rfl)) (hw _ (List.mem_of_getElem? (i := 36) rfl)) (by decide) pd_285bBI29Z rfl rfl (by decide) (Nat.le_of_ble_eq_true rfl) (by decide) (by decide) (fun z0 => rm_star l Z a0 hw [] n0 h0 z0 p [x0, x1, x2, x3] A_p 2 (Nat.le_of_ble_eq_true rfl) (Nat.le_of_ble_eq_true rfl)) (fun v736 h737 qv736 => ?_)
                obtain ⟨⟨rfl, t738⟩ | ⟨rfl, t738⟩, rfl⟩ := qv736
                · skip
                  replace t738 : x2 = 42 := t738
                  show W K l _ n0 _ h0 0 0 143 #[.val (.ref p), .val (.ref n), .val (.int (4 : Int32)), .val (.int (Int32.ofNat ns.length)), .val (.int (2 : Int32)), .val (.int (-1 : Int32)), .unset, .unset, .unset, .unset, .unset, .unset, .unset] [(.int (1 : Int32))]
                  refine w_if_eq ok d7_143 (pc' := 149) (by decide) (fun hc740 => False.elim (by revert hc740; decide)) (fun hc740 => ?_)
                  refine w_iconst ok d7_146 (v := (2 : Int32)) rfl ?_
                  refine w_istore ok d7_147 (L' := #[.val (.ref p), .val (.ref n), .val (.int (4 : Int32)), .val (.int (Int32.ofNat ns.length)), .val (.int (2 : Int32)), .val (.int (2 : Int32)), .unset, .unset, .unset, .unset, .unset, .unset, .unset]) rfl ?_
                  refine w_iloadN ok d7_149 rfl ?_
                  refine w_iconst ok d7_150 (v := (3 : Int32)) rfl ?_
                  refine w_icmp_le ok d7_151 (pc' := 165) (by decide) (fun hc742 => False.elim (by revert hc742; decide)) (fun hc742 => ?_)
                  refine w_aloadN ok d7_154 rfl rfl ?_
                  refine w_iconst ok d7_155 (v := (3 : Int32)) rfl ?_
                  refine w_callS ok (y := mn_8) (argsL := [(.ref p), (.int (3 : Int32))]) (rest := []) d7_156 (hw _ (List.mem_of_getElem? (i := 34) rfl)) (hw _ (List.mem_of_getElem? (i := 35) rfl)) (hw _ (List.mem_of_getElem? (i := 4) rfl)) (hw _ (List.mem_of_getElem? (i := 36) rfl)) (by decide) pd_285bBI29Z rfl rfl (by decide) (Nat.le_of_ble_eq_true rfl) (by decide) (by decide) (fun z0 => rm_star l Z a0 hw [] n0 h0 z0 p [x0, x1, x2, x3] A_p 3 (Nat.le_of_ble_eq_true rfl) (Nat.le_of_ble_eq_true rfl)) (fun v743 h744 qv743 => ?_)
                  obtain ⟨⟨rfl, t745⟩ | ⟨rfl, t745⟩, rfl⟩ := qv743
                  · exact absurd t745 s3
                  · skip
                    replace t745 : ¬ (x3 = 42) := t745
                    show W K l _ n0 _ h0 0 0 159 #[.val (.ref p), .val (.ref n), .val (.int (4 : Int32)), .val (.int (Int32.ofNat ns.length)), .val (.int (2 : Int32)), .val (.int (2 : Int32)), .unset, .unset, .unset, .unset, .unset, .unset, .unset] [(.int (0 : Int32))]
                    refine w_if_eq ok d7_159 (pc' := 165) (by decide) (fun hc747 => ?_) (fun hc747 => False.elim (by revert hc747; decide))
                    refine w_iload ok d7_165 rfl ?_
                    refine w_istore ok d7_167 (L' := #[.val (.ref p), .val (.ref n), .val (.int (4 : Int32)), .val (.int (Int32.ofNat ns.length)), .val (.int (2 : Int32)), .val (.int (2 : Int32)), .val (.int (2 : Int32)), .unset, .unset, .unset, .unset, .unset, .unset]) rfl ?_
                    refine w_iloadN ok d7_169 rfl ?_
                    refine w_iconst ok d7_170 (v := (1 : Int32)) rfl ?_
                    refine w_isub ok d7_171 ?_
                    show W K l _ n0 _ h0 0 0 172 #[.val (.ref p), .val (.ref n), .val (.int (4 : Int32)), .val (.int (Int32.ofNat ns.length)), .val (.int (2 : Int32)), .val (.int (2 : Int32)), .val (.int (2 : Int32)), .unset, .unset, .unset, .unset, .unset, .unset] [(.int (3 : Int32))]
                    refine w_iload ok d7_172 rfl ?_
                    refine w_isub ok d7_174 ?_
                    show W K l _ n0 _ h0 0 0 175 #[.val (.ref p), .val (.ref n), .val (.int (4 : Int32)), .val (.int (Int32.ofNat ns.length)), .val (.int (2 : Int32)), .val (.int (2 : Int32)), .val (.int (2 : Int32)), .unset, .unset, .unset, .unset, .unset, .unset] [(.int (1 : Int32))]
                    refine w_istore ok d7_175 (L' := #[.val (.ref p), .val (.ref n), .val (.int (4 : Int32)), .val (.int (Int32.ofNat ns.length)), .val (.int (2 : Int32)), .val (.int (2 : Int32)), .val (.int (2 : Int32)), .val (.int (1 : Int32)), .unset, .unset, .unset, .unset, .unset]) rfl ?_
                    refine w_iloadN ok d7_177 rfl ?_
                    refine w_iload ok d7_178 rfl ?_
                    refine w_iload ok d7_180 rfl ?_
                    refine w_iadd ok d7_182 ?_
                    show W K l _ n0 _ h0 0 0 183 #[.val (.ref p), .val (.ref n), .val (.int (4 : Int32)), .val (.int (Int32.ofNat ns.length)), .val (.int (2 : Int32)), .val (.int (2 : Int32)), .val (.int (2 : Int32)), .val (.int (1 : Int32)), .unset, .unset, .unset, .unset, .unset] [(.int (3 : Int32)), (.int (Int32.ofNat ns.length))]
                    refine w_icmp_ge ok d7_183 (pc' := 188) (by decide) (fun hc749 => ?_) (fun hc749 => ?_)
                    · skip
                      have hge : 3 ≤ ns.length := by have q := hc749; rw [show (3 : Int32) = Int32.ofNat 3 from rfl, own_lt (by omega) (by omega)] at q; omega
                      refine w_aloadN ok d7_188 rfl rfl ?_
                      refine w_iconst ok d7_189 (v := (0 : Int32)) rfl ?_
                      refine w_iload ok d7_190 rfl ?_
                      refine w_aloadN ok d7_192 rfl rfl ?_
                      refine w_iconst ok d7_193 (v := (0 : Int32)) rfl ?_
                      refine w_callS ok (y := mn_9) (argsL := [(.ref p), (.int (0 : Int32)), (.int (2 : Int32)), (.ref n), (.int (0 : Int32))]) (rest := []) d7_194 (hw _ (List.mem_of_getElem? (i := 37) rfl)) (hw _ (List.mem_of_getElem? (i := 38) rfl)) (hw _ (List.mem_of_getElem? (i := 4) rfl)) (hw _ (List.mem_of_getElem? (i := 39) rfl)) (by decide) pd_285bBII5bBI29Z rfl rfl (by decide) (Nat.le_of_ble_eq_true rfl) (by decide) (by decide) (fun z0 => rm_seg l Z a0 hw [] n0 h0 z0 p n [x0, x1, x2, x3] ns A_p A_n 0 2 0 _ rfl (Nat.le_of_ble_eq_true rfl) (by decide) (by omega) (Nat.le_of_ble_eq_true rfl) ln) (fun v750 h751 qv750 => ?_)
                      obtain ⟨⟨rfl, sgp⟩ | ⟨rfl, sgp⟩, rfl⟩ := qv750
                      · skip
                        replace sgp : SGl [x0, x1] ns 0 := sgp
                        show W K l _ n0 _ h0 0 0 197 #[.val (.ref p), .val (.ref n), .val (.int (4 : Int32)), .val (.int (Int32.ofNat ns.length)), .val (.int (2 : Int32)), .val (.int (2 : Int32)), .val (.int (2 : Int32)), .val (.int (1 : Int32)), .unset, .unset, .unset, .unset, .unset] [(.int (1 : Int32))]
                        refine w_if_ne ok d7_197 (pc' := 202) (by decide) (fun hc753 => ?_) (fun hc753 => False.elim (by revert hc753; decide))
                        refine w_aloadN ok d7_202 rfl rfl ?_
                        refine w_iload ok d7_203 rfl ?_
                        refine w_iconst ok d7_205 (v := (1 : Int32)) rfl ?_
                        refine w_iadd ok d7_206 ?_
                        show W K l _ n0 _ h0 0 0 207 #[.val (.ref p), .val (.ref n), .val (.int (4 : Int32)), .val (.int (Int32.ofNat ns.length)), .val (.int (2 : Int32)), .val (.int (2 : Int32)), .val (.int (2 : Int32)), .val (.int (1 : Int32)), .unset, .unset, .unset, .unset, .unset] [(.int (3 : Int32)), (.ref p)]
                        refine w_iload ok d7_207 rfl ?_
                        refine w_aloadN ok d7_209 rfl rfl ?_
                        refine w_iloadN ok d7_210 rfl ?_
                        refine w_iload ok d7_211 rfl ?_
                        refine w_isub ok d7_213 ?_
                        refine w_callS ok (y := mn_9) (argsL := [(.ref p), (.int (3 : Int32)), (.int (1 : Int32)), (.ref n), (.int ((Int32.ofNat ns.length) - (1 : Int32)))]) (rest := []) d7_214 (hw _ (List.mem_of_getElem? (i := 37) rfl)) (hw _ (List.mem_of_getElem? (i := 38) rfl)) (hw _ (List.mem_of_getElem? (i := 4) rfl)) (hw _ (List.mem_of_getElem? (i := 39) rfl)) (by decide) pd_285bBII5bBI29Z rfl rfl (by decide) (Nat.le_of_ble_eq_true rfl) (by decide) (by decide) (fun z0 => rm_seg l Z a0 hw [] n0 h0 z0 p n [x0, x1, x2, x3] ns A_p A_n 3 1 (ns.length - 1) _ (own_subk (k := 1) rfl (by omega) (by omega)) (Nat.le_of_ble_eq_true rfl) (by decide) (by omega) (Nat.le_of_ble_eq_true rfl) ln) (fun v754 h755 qv754 => ?_)
                        obtain ⟨⟨rfl, sgs⟩ | ⟨rfl, sgs⟩, rfl⟩ := qv754
                        · skip
                          replace sgs : SGl [x3] ns (ns.length - 1) := sgs
                          show W K l _ n0 _ h0 0 0 217 #[.val (.ref p), .val (.ref n), .val (.int (4 : Int32)), .val (.int (Int32.ofNat ns.length)), .val (.int (2 : Int32)), .val (.int (2 : Int32)), .val (.int (2 : Int32)), .val (.int (1 : Int32)), .unset, .unset, .unset, .unset, .unset] [(.int (1 : Int32))]
                          refine w_if_ne ok d7_217 (pc' := 222) (by decide) (fun hc757 => ?_) (fun hc757 => False.elim (by revert hc757; decide))
                          refine w_iload ok d7_222 rfl ?_
                          refine w_iload ok d7_224 rfl ?_
                          refine w_isub ok d7_226 ?_
                          show W K l _ n0 _ h0 0 0 227 #[.val (.ref p), .val (.ref n), .val (.int (4 : Int32)), .val (.int (Int32.ofNat ns.length)), .val (.int (2 : Int32)), .val (.int (2 : Int32)), .val (.int (2 : Int32)), .val (.int (1 : Int32)), .unset, .unset, .unset, .unset, .unset] [(.int (0 : Int32))]
                          refine w_iconst ok d7_227 (v := (1 : Int32)) rfl ?_
                          refine w_isub ok d7_228 ?_
                          show W K l _ n0 _ h0 0 0 229 #[.val (.ref p), .val (.ref n), .val (.int (4 : Int32)), .val (.int (Int32.ofNat ns.length)), .val (.int (2 : Int32)), .val (.int (2 : Int32)), .val (.int (2 : Int32)), .val (.int (1 : Int32)), .unset, .unset, .unset, .unset, .unset] [(.int (-1 : Int32))]
                          refine w_istore ok d7_229 (L' := #[.val (.ref p), .val (.ref n), .val (.int (4 : Int32)), .val (.int (Int32.ofNat ns.length)), .val (.int (2 : Int32)), .val (.int (2 : Int32)), .val (.int (2 : Int32)), .val (.int (1 : Int32)), .val (.int (-1 : Int32)), .unset, .unset, .unset, .unset]) rfl ?_
                          refine w_iload ok d7_231 rfl ?_
                          refine w_iconst ok d7_233 (v := (1 : Int32)) rfl ?_
                          refine w_iadd ok d7_234 ?_
                          show W K l _ n0 _ h0 0 0 235 #[.val (.ref p), .val (.ref n), .val (.int (4 : Int32)), .val (.int (Int32.ofNat ns.length)), .val (.int (2 : Int32)), .val (.int (2 : Int32)), .val (.int (2 : Int32)), .val (.int (1 : Int32)), .val (.int (-1 : Int32)), .unset, .unset, .unset, .unset] [(.int (3 : Int32))]
                          refine w_istore ok d7_235 (L' := #[.val (.ref p), .val (.ref n), .val (.int (4 : Int32)), .val (.int (Int32.ofNat ns.length)), .val (.int (2 : Int32)), .val (.int (2 : Int32)), .val (.int (2 : Int32)), .val (.int (1 : Int32)), .val (.int (-1 : Int32)), .val (.int (3 : Int32)), .unset, .unset, .unset]) rfl ?_
                          refine w_iconst ok d7_237 (v := (0 : Int32)) rfl ?_
                          refine w_istore ok d7_238 (L' := #[.val (.ref p), .val (.ref n), .val (.int (4 : Int32)), .val (.int (Int32.ofNat ns.length)), .val (.int (2 : Int32)), .val (.int (2 : Int32)), .val (.int (2 : Int32)), .val (.int (1 : Int32)), .val (.int (-1 : Int32)), .val (.int (3 : Int32)), .val (.int (0 : Int32)), .unset, .unset]) rfl ?_
                          refine w_iload ok d7_240 rfl ?_
                          refine w_iconst ok d7_242 (v := (1 : Int32)) rfl ?_
                          refine w_icmp_ne ok d7_243 (pc' := 263) (by decide) (fun hc759 => ?_) (fun hc759 => False.elim (by revert hc759; decide))
                          refine w_iload ok d7_263 rfl ?_
                          refine w_iconst ok d7_265 (v := (2 : Int32)) rfl ?_
                          refine w_icmp_ne ok d7_266 (pc' := 340) (by decide) (fun hc761 => ?_) (fun hc761 => False.elim (by revert hc761; decide))
                          refine w_iload ok d7_340 rfl ?_
                          refine w_if_ne ok d7_342 (pc' := 347) (by decide) (fun hc763 => False.elim (by revert hc763; decide)) (fun hc763 => ?_)
                          refine w_iconst ok d7_345 (v := (1 : Int32)) rfl ?_
                          refine w_bret ok (by simp) d7_346 (by decide) (by decide) ?_
                          subst s2
                          have key : Gi ns [x0, x1, 42, x3] 0 ↔ _ := own_one (ns := ns) (P := [x0, x1]) (Q := [x3]) (NoS_cons s0 (NoS_cons s1 NoS_nil)) (NoS_cons s3 NoS_nil)
                          exact ⟨Or.inl ⟨rfl, key.mpr ⟨hge, sgp, sgs⟩⟩, rfl⟩
                        · skip
                          replace sgs : ¬ (SGl [x3] ns (ns.length - 1)) := sgs
                          show W K l _ n0 _ h0 0 0 217 #[.val (.ref p), .val (.ref n), .val (.int (4 : Int32)), .val (.int (Int32.ofNat ns.length)), .val (.int (2 : Int32)), .val (.int (2 : Int32)), .val (.int (2 : Int32)), .val (.int (1 : Int32)), .unset, .unset, .unset, .unset, .unset] [(.int (0 : Int32))]
                          refine w_if_ne ok d7_217 (pc' := 222) (by decide) (fun hc765 => False.elim (by revert hc765; decide)) (fun hc765 => ?_)
                          refine w_iconst ok d7_220 (v := (0 : Int32)) rfl ?_
                          refine w_bret ok (by simp) d7_221 (by decide) (by decide) ?_
                          subst s2
                          have key : Gi ns [x0, x1, 42, x3] 0 ↔ _ := own_one (ns := ns) (P := [x0, x1]) (Q := [x3]) (NoS_cons s0 (NoS_cons s1 NoS_nil)) (NoS_cons s3 NoS_nil)
                          exact ⟨Or.inr ⟨rfl, fun q => sgs (key.mp q).2.2⟩, rfl⟩
                      · skip
                        replace sgp : ¬ (SGl [x0, x1] ns 0) := sgp
                        show W K l _ n0 _ h0 0 0 197 #[.val (.ref p), .val (.ref n), .val (.int (4 : Int32)), .val (.int (Int32.ofNat ns.length)), .val (.int (2 : Int32)), .val (.int (2 : Int32)), .val (.int (2 : Int32)), .val (.int (1 : Int32)), .unset, .unset, .unset, .unset, .unset] [(.int (0 : Int32))]
                        refine w_if_ne ok d7_197 (pc' := 202) (by decide) (fun hc767 => False.elim (by revert hc767; decide)) (fun hc767 => ?_)
                        refine w_iconst ok d7_200 (v := (0 : Int32)) rfl ?_
                        refine w_bret ok (by simp) d7_201 (by decide) (by decide) ?_
                        subst s2
                        have key : Gi ns [x0, x1, 42, x3] 0 ↔ _ := own_one (ns := ns) (P := [x0, x1]) (Q := [x3]) (NoS_cons s0 (NoS_cons s1 NoS_nil)) (NoS_cons s3 NoS_nil)
                        exact ⟨Or.inr ⟨rfl, fun q => sgp (key.mp q).2.1⟩, rfl⟩
                    · skip
                      refine w_iconst ok d7_186 (v := (0 : Int32)) rfl ?_
                      refine w_bret ok (by simp) d7_187 (by decide) (by decide) ?_
                      subst s2
                      have key : Gi ns [x0, x1, 42, x3] 0 ↔ _ := own_one (ns := ns) (P := [x0, x1]) (Q := [x3]) (NoS_cons s0 (NoS_cons s1 NoS_nil)) (NoS_cons s3 NoS_nil)
                      refine ⟨Or.inr ⟨rfl, fun q => ?_⟩, rfl⟩
                      have q1 : 2 + 1 ≤ ns.length := (key.mp q).1
                      have q2 := hc749; rw [show (3 : Int32) = Int32.ofNat 3 from rfl, own_lt (by omega) (by omega)] at q2; omega
                · exact absurd s2 t738
      · skip
        replace s2 : ¬ (x2 = 42) := s2
        show W K l _ n0 _ h0 0 0 35 #[.val (.ref p), .val (.ref n), .val (.int (4 : Int32)), .val (.int (Int32.ofNat ns.length)), .val (.int (-1 : Int32)), .unset, .unset, .unset, .unset, .unset, .unset, .unset, .unset] [(.int (0 : Int32))]
        refine w_if_eq ok d7_35 (pc' := 41) (by decide) (fun hc769 => ?_) (fun hc769 => False.elim (by revert hc769; decide))
        refine w_iloadN ok d7_41 rfl ?_
        refine w_iconst ok d7_42 (v := (1 : Int32)) rfl ?_
        refine w_icmp_le ok d7_43 (pc' := 57) (by decide) (fun hc771 => False.elim (by revert hc771; decide)) (fun hc771 => ?_)
        refine w_aloadN ok d7_46 rfl rfl ?_
        refine w_iconst ok d7_47 (v := (1 : Int32)) rfl ?_
        refine w_callS ok (y := mn_8) (argsL := [(.ref p), (.int (1 : Int32))]) (rest := []) d7_48 (hw _ (List.mem_of_getElem? (i := 34) rfl)) (hw _ (List.mem_of_getElem? (i := 35) rfl)) (hw _ (List.mem_of_getElem? (i := 4) rfl)) (hw _ (List.mem_of_getElem? (i := 36) rfl)) (by decide) pd_285bBI29Z rfl rfl (by decide) (Nat.le_of_ble_eq_true rfl) (by decide) (by decide) (fun z0 => rm_star l Z a0 hw [] n0 h0 z0 p [x0, x1, x2, x3] A_p 1 (Nat.le_of_ble_eq_true rfl) (Nat.le_of_ble_eq_true rfl)) (fun v772 h773 qv772 => ?_)
        obtain ⟨⟨rfl, s1⟩ | ⟨rfl, s1⟩, rfl⟩ := qv772
        · skip
          replace s1 : x1 = 42 := s1
          show W K l _ n0 _ h0 0 0 51 #[.val (.ref p), .val (.ref n), .val (.int (4 : Int32)), .val (.int (Int32.ofNat ns.length)), .val (.int (-1 : Int32)), .unset, .unset, .unset, .unset, .unset, .unset, .unset, .unset] [(.int (1 : Int32))]
          refine w_if_eq ok d7_51 (pc' := 57) (by decide) (fun hc775 => False.elim (by revert hc775; decide)) (fun hc775 => ?_)
          refine w_iconst ok d7_54 (v := (1 : Int32)) rfl ?_
          refine w_istore ok d7_55 (L' := #[.val (.ref p), .val (.ref n), .val (.int (4 : Int32)), .val (.int (Int32.ofNat ns.length)), .val (.int (1 : Int32)), .unset, .unset, .unset, .unset, .unset, .unset, .unset, .unset]) rfl ?_
          refine w_iloadN ok d7_57 rfl ?_
          refine w_if_le ok d7_58 (pc' := 72) (by decide) (fun hc777 => False.elim (by revert hc777; decide)) (fun hc777 => ?_)
          refine w_aloadN ok d7_61 rfl rfl ?_
          refine w_iconst ok d7_62 (v := (0 : Int32)) rfl ?_
          refine w_callS ok (y := mn_8) (argsL := [(.ref p), (.int (0 : Int32))]) (rest := []) d7_63 (hw _ (List.mem_of_getElem? (i := 34) rfl)) (hw _ (List.mem_of_getElem? (i := 35) rfl)) (hw _ (List.mem_of_getElem? (i := 4) rfl)) (hw _ (List.mem_of_getElem? (i := 36) rfl)) (by decide) pd_285bBI29Z rfl rfl (by decide) (Nat.le_of_ble_eq_true rfl) (by decide) (by decide) (fun z0 => rm_star l Z a0 hw [] n0 h0 z0 p [x0, x1, x2, x3] A_p 0 (Nat.le_of_ble_eq_true rfl) (Nat.le_of_ble_eq_true rfl)) (fun v778 h779 qv778 => ?_)
          obtain ⟨⟨rfl, s0⟩ | ⟨rfl, s0⟩, rfl⟩ := qv778
          · skip
            replace s0 : x0 = 42 := s0
            show W K l _ n0 _ h0 0 0 66 #[.val (.ref p), .val (.ref n), .val (.int (4 : Int32)), .val (.int (Int32.ofNat ns.length)), .val (.int (1 : Int32)), .unset, .unset, .unset, .unset, .unset, .unset, .unset, .unset] [(.int (1 : Int32))]
            refine w_if_eq ok d7_66 (pc' := 72) (by decide) (fun hc781 => False.elim (by revert hc781; decide)) (fun hc781 => ?_)
            refine w_iconst ok d7_69 (v := (0 : Int32)) rfl ?_
            refine w_istore ok d7_70 (L' := #[.val (.ref p), .val (.ref n), .val (.int (4 : Int32)), .val (.int (Int32.ofNat ns.length)), .val (.int (0 : Int32)), .unset, .unset, .unset, .unset, .unset, .unset, .unset, .unset]) rfl ?_
            refine w_iload ok d7_72 rfl ?_
            refine w_if_ge ok d7_74 (pc' := 99) (by decide) (fun hc783 => ?_) (fun hc783 => False.elim (by revert hc783; decide))
            refine w_iconst ok d7_99 (v := (-1 : Int32)) rfl ?_
            refine w_istore ok d7_100 (L' := #[.val (.ref p), .val (.ref n), .val (.int (4 : Int32)), .val (.int (Int32.ofNat ns.length)), .val (.int (0 : Int32)), .val (.int (-1 : Int32)), .unset, .unset, .unset, .unset, .unset, .unset, .unset]) rfl ?_
            refine w_iloadN ok d7_102 rfl ?_
            refine w_if_le ok d7_103 (pc' := 117) (by decide) (fun hc785 => False.elim (by revert hc785; decide)) (fun hc785 => ?_)
            refine w_aloadN ok d7_106 rfl rfl ?_
            refine w_iconst ok d7_107 (v := (0 : Int32)) rfl ?_
            refine w_callS ok (y := mn_8) (argsL := [(.ref p), (.int (0 : Int32))]) (rest := []) d7_108 (hw _ (List.mem_of_getElem? (i := 34) rfl)) (hw _ (List.mem_of_getElem? (i := 35) rfl)) (hw _ (List.mem_of_getElem? (i := 4) rfl)) (hw _ (List.mem_of_getElem? (i := 36) rfl)) (by decide) pd_285bBI29Z rfl rfl (by decide) (Nat.le_of_ble_eq_true rfl) (by decide) (by decide) (fun z0 => rm_star l Z a0 hw [] n0 h0 z0 p [x0, x1, x2, x3] A_p 0 (Nat.le_of_ble_eq_true rfl) (Nat.le_of_ble_eq_true rfl)) (fun v786 h787 qv786 => ?_)
            obtain ⟨⟨rfl, t788⟩ | ⟨rfl, t788⟩, rfl⟩ := qv786
            · skip
              replace t788 : x0 = 42 := t788
              show W K l _ n0 _ h0 0 0 111 #[.val (.ref p), .val (.ref n), .val (.int (4 : Int32)), .val (.int (Int32.ofNat ns.length)), .val (.int (0 : Int32)), .val (.int (-1 : Int32)), .unset, .unset, .unset, .unset, .unset, .unset, .unset] [(.int (1 : Int32))]
              refine w_if_eq ok d7_111 (pc' := 117) (by decide) (fun hc790 => False.elim (by revert hc790; decide)) (fun hc790 => ?_)
              refine w_iconst ok d7_114 (v := (0 : Int32)) rfl ?_
              refine w_istore ok d7_115 (L' := #[.val (.ref p), .val (.ref n), .val (.int (4 : Int32)), .val (.int (Int32.ofNat ns.length)), .val (.int (0 : Int32)), .val (.int (0 : Int32)), .unset, .unset, .unset, .unset, .unset, .unset, .unset]) rfl ?_
              refine w_iloadN ok d7_117 rfl ?_
              refine w_iconst ok d7_118 (v := (1 : Int32)) rfl ?_
              refine w_icmp_le ok d7_119 (pc' := 133) (by decide) (fun hc792 => False.elim (by revert hc792; decide)) (fun hc792 => ?_)
              refine w_aloadN ok d7_122 rfl rfl ?_
              refine w_iconst ok d7_123 (v := (1 : Int32)) rfl ?_
              refine w_callS ok (y := mn_8) (argsL := [(.ref p), (.int (1 : Int32))]) (rest := []) d7_124 (hw _ (List.mem_of_getElem? (i := 34) rfl)) (hw _ (List.mem_of_getElem? (i := 35) rfl)) (hw _ (List.mem_of_getElem? (i := 4) rfl)) (hw _ (List.mem_of_getElem? (i := 36) rfl)) (by decide) pd_285bBI29Z rfl rfl (by decide) (Nat.le_of_ble_eq_true rfl) (by decide) (by decide) (fun z0 => rm_star l Z a0 hw [] n0 h0 z0 p [x0, x1, x2, x3] A_p 1 (Nat.le_of_ble_eq_true rfl) (Nat.le_of_ble_eq_true rfl)) (fun v793 h794 qv793 => ?_)
              obtain ⟨⟨rfl, t795⟩ | ⟨rfl, t795⟩, rfl⟩ := qv793
              · skip
                replace t795 : x1 = 42 := t795
                show W K l _ n0 _ h0 0 0 127 #[.val (.ref p), .val (.ref n), .val (.int (4 : Int32)), .val (.int (Int32.ofNat ns.length)), .val (.int (0 : Int32)), .val (.int (0 : Int32)), .unset, .unset, .unset, .unset, .unset, .unset, .unset] [(.int (1 : Int32))]
                refine w_if_eq ok d7_127 (pc' := 133) (by decide) (fun hc797 => False.elim (by revert hc797; decide)) (fun hc797 => ?_)
                refine w_iconst ok d7_130 (v := (1 : Int32)) rfl ?_
                refine w_istore ok d7_131 (L' := #[.val (.ref p), .val (.ref n), .val (.int (4 : Int32)), .val (.int (Int32.ofNat ns.length)), .val (.int (0 : Int32)), .val (.int (1 : Int32)), .unset, .unset, .unset, .unset, .unset, .unset, .unset]) rfl ?_
                refine w_iloadN ok d7_133 rfl ?_
                refine w_iconst ok d7_134 (v := (2 : Int32)) rfl ?_
                refine w_icmp_le ok d7_135 (pc' := 149) (by decide) (fun hc799 => False.elim (by revert hc799; decide)) (fun hc799 => ?_)
                refine w_aloadN ok d7_138 rfl rfl ?_
                refine w_iconst ok d7_139 (v := (2 : Int32)) rfl ?_
                refine w_callS ok (y := mn_8) (argsL := [(.ref p), (.int (2 : Int32))]) (rest := []) d7_140 (hw _ (List.mem_of_getElem? (i := 34) rfl)) (hw _ (List.mem_of_getElem? (i := 35) rfl)) (hw _ (List.mem_of_getElem? (i := 4) rfl)) (hw _ (List.mem_of_getElem? (i := 36) rfl)) (by decide) pd_285bBI29Z rfl rfl (by decide) (Nat.le_of_ble_eq_true rfl) (by decide) (by decide) (fun z0 => rm_star l Z a0 hw [] n0 h0 z0 p [x0, x1, x2, x3] A_p 2 (Nat.le_of_ble_eq_true rfl) (Nat.le_of_ble_eq_true rfl)) (fun v800 h801 qv800 => ?_)
                obtain ⟨⟨rfl, t802⟩ | ⟨rfl, t802⟩, rfl⟩ := qv800
                · exact absurd t802 s2
                · skip
                  replace t802 : ¬ (x2 = 42) := t802
                  show W K l _ n0 _ h0 0 0 143 #[.val (.ref p), .val (.ref n), .val (.int (4 : Int32)), .val (.int (Int32.ofNat ns.length)), .val (.int (0 : Int32)), .val (.int (1 : Int32)), .unset, .unset, .unset, .unset, .unset, .unset, .unset] [(.int (0 : Int32))]
                  refine w_if_eq ok d7_143 (pc' := 149) (by decide) (fun hc804 => ?_) (fun hc804 => False.elim (by revert hc804; decide))
                  refine w_iloadN ok d7_149 rfl ?_
                  refine w_iconst ok d7_150 (v := (3 : Int32)) rfl ?_
                  refine w_icmp_le ok d7_151 (pc' := 165) (by decide) (fun hc806 => False.elim (by revert hc806; decide)) (fun hc806 => ?_)
                  refine w_aloadN ok d7_154 rfl rfl ?_
                  refine w_iconst ok d7_155 (v := (3 : Int32)) rfl ?_
                  refine w_callS ok (y := mn_8) (argsL := [(.ref p), (.int (3 : Int32))]) (rest := []) d7_156 (hw _ (List.mem_of_getElem? (i := 34) rfl)) (hw _ (List.mem_of_getElem? (i := 35) rfl)) (hw _ (List.mem_of_getElem? (i := 4) rfl)) (hw _ (List.mem_of_getElem? (i := 36) rfl)) (by decide) pd_285bBI29Z rfl rfl (by decide) (Nat.le_of_ble_eq_true rfl) (by decide) (by decide) (fun z0 => rm_star l Z a0 hw [] n0 h0 z0 p [x0, x1, x2, x3] A_p 3 (Nat.le_of_ble_eq_true rfl) (Nat.le_of_ble_eq_true rfl)) (fun v807 h808 qv807 => ?_)
                  obtain ⟨⟨rfl, t809⟩ | ⟨rfl, t809⟩, rfl⟩ := qv807
                  · exact absurd t809 s3
                  · skip
                    replace t809 : ¬ (x3 = 42) := t809
                    show W K l _ n0 _ h0 0 0 159 #[.val (.ref p), .val (.ref n), .val (.int (4 : Int32)), .val (.int (Int32.ofNat ns.length)), .val (.int (0 : Int32)), .val (.int (1 : Int32)), .unset, .unset, .unset, .unset, .unset, .unset, .unset] [(.int (0 : Int32))]
                    refine w_if_eq ok d7_159 (pc' := 165) (by decide) (fun hc811 => ?_) (fun hc811 => False.elim (by revert hc811; decide))
                    refine w_iload ok d7_165 rfl ?_
                    refine w_istore ok d7_167 (L' := #[.val (.ref p), .val (.ref n), .val (.int (4 : Int32)), .val (.int (Int32.ofNat ns.length)), .val (.int (0 : Int32)), .val (.int (1 : Int32)), .val (.int (0 : Int32)), .unset, .unset, .unset, .unset, .unset, .unset]) rfl ?_
                    refine w_iloadN ok d7_169 rfl ?_
                    refine w_iconst ok d7_170 (v := (1 : Int32)) rfl ?_
                    refine w_isub ok d7_171 ?_
                    show W K l _ n0 _ h0 0 0 172 #[.val (.ref p), .val (.ref n), .val (.int (4 : Int32)), .val (.int (Int32.ofNat ns.length)), .val (.int (0 : Int32)), .val (.int (1 : Int32)), .val (.int (0 : Int32)), .unset, .unset, .unset, .unset, .unset, .unset] [(.int (3 : Int32))]
                    refine w_iload ok d7_172 rfl ?_
                    refine w_isub ok d7_174 ?_
                    show W K l _ n0 _ h0 0 0 175 #[.val (.ref p), .val (.ref n), .val (.int (4 : Int32)), .val (.int (Int32.ofNat ns.length)), .val (.int (0 : Int32)), .val (.int (1 : Int32)), .val (.int (0 : Int32)), .unset, .unset, .unset, .unset, .unset, .unset] [(.int (2 : Int32))]
                    refine w_istore ok d7_175 (L' := #[.val (.ref p), .val (.ref n), .val (.int (4 : Int32)), .val (.int (Int32.ofNat ns.length)), .val (.int (0 : Int32)), .val (.int (1 : Int32)), .val (.int (0 : Int32)), .val (.int (2 : Int32)), .unset, .unset, .unset, .unset, .unset]) rfl ?_
                    refine w_iloadN ok d7_177 rfl ?_
                    refine w_iload ok d7_178 rfl ?_
                    refine w_iload ok d7_180 rfl ?_
                    refine w_iadd ok d7_182 ?_
                    show W K l _ n0 _ h0 0 0 183 #[.val (.ref p), .val (.ref n), .val (.int (4 : Int32)), .val (.int (Int32.ofNat ns.length)), .val (.int (0 : Int32)), .val (.int (1 : Int32)), .val (.int (0 : Int32)), .val (.int (2 : Int32)), .unset, .unset, .unset, .unset, .unset] [(.int (2 : Int32)), (.int (Int32.ofNat ns.length))]
                    refine w_icmp_ge ok d7_183 (pc' := 188) (by decide) (fun hc813 => ?_) (fun hc813 => ?_)
                    · skip
                      have hge : 2 ≤ ns.length := by have q := hc813; rw [show (2 : Int32) = Int32.ofNat 2 from rfl, own_lt (by omega) (by omega)] at q; omega
                      refine w_aloadN ok d7_188 rfl rfl ?_
                      refine w_iconst ok d7_189 (v := (0 : Int32)) rfl ?_
                      refine w_iload ok d7_190 rfl ?_
                      refine w_aloadN ok d7_192 rfl rfl ?_
                      refine w_iconst ok d7_193 (v := (0 : Int32)) rfl ?_
                      refine w_callS ok (y := mn_9) (argsL := [(.ref p), (.int (0 : Int32)), (.int (0 : Int32)), (.ref n), (.int (0 : Int32))]) (rest := []) d7_194 (hw _ (List.mem_of_getElem? (i := 37) rfl)) (hw _ (List.mem_of_getElem? (i := 38) rfl)) (hw _ (List.mem_of_getElem? (i := 4) rfl)) (hw _ (List.mem_of_getElem? (i := 39) rfl)) (by decide) pd_285bBII5bBI29Z rfl rfl (by decide) (Nat.le_of_ble_eq_true rfl) (by decide) (by decide) (fun z0 => rm_seg l Z a0 hw [] n0 h0 z0 p n [x0, x1, x2, x3] ns A_p A_n 0 0 0 _ rfl (Nat.le_of_ble_eq_true rfl) (by decide) (by omega) (Nat.le_of_ble_eq_true rfl) ln) (fun v814 h815 qv814 => ?_)
                      obtain ⟨⟨rfl, sgp⟩ | ⟨rfl, sgp⟩, rfl⟩ := qv814
                      · skip
                        replace sgp : SGl [] ns 0 := sgp
                        show W K l _ n0 _ h0 0 0 197 #[.val (.ref p), .val (.ref n), .val (.int (4 : Int32)), .val (.int (Int32.ofNat ns.length)), .val (.int (0 : Int32)), .val (.int (1 : Int32)), .val (.int (0 : Int32)), .val (.int (2 : Int32)), .unset, .unset, .unset, .unset, .unset] [(.int (1 : Int32))]
                        refine w_if_ne ok d7_197 (pc' := 202) (by decide) (fun hc817 => ?_) (fun hc817 => False.elim (by revert hc817; decide))
                        refine w_aloadN ok d7_202 rfl rfl ?_
                        refine w_iload ok d7_203 rfl ?_
                        refine w_iconst ok d7_205 (v := (1 : Int32)) rfl ?_
                        refine w_iadd ok d7_206 ?_
                        show W K l _ n0 _ h0 0 0 207 #[.val (.ref p), .val (.ref n), .val (.int (4 : Int32)), .val (.int (Int32.ofNat ns.length)), .val (.int (0 : Int32)), .val (.int (1 : Int32)), .val (.int (0 : Int32)), .val (.int (2 : Int32)), .unset, .unset, .unset, .unset, .unset] [(.int (2 : Int32)), (.ref p)]
                        refine w_iload ok d7_207 rfl ?_
                        refine w_aloadN ok d7_209 rfl rfl ?_
                        refine w_iloadN ok d7_210 rfl ?_
                        refine w_iload ok d7_211 rfl ?_
                        refine w_isub ok d7_213 ?_
                        refine w_callS ok (y := mn_9) (argsL := [(.ref p), (.int (2 : Int32)), (.int (2 : Int32)), (.ref n), (.int ((Int32.ofNat ns.length) - (2 : Int32)))]) (rest := []) d7_214 (hw _ (List.mem_of_getElem? (i := 37) rfl)) (hw _ (List.mem_of_getElem? (i := 38) rfl)) (hw _ (List.mem_of_getElem? (i := 4) rfl)) (hw _ (List.mem_of_getElem? (i := 39) rfl)) (by decide) pd_285bBII5bBI29Z rfl rfl (by decide) (Nat.le_of_ble_eq_true rfl) (by decide) (by decide) (fun z0 => rm_seg l Z a0 hw [] n0 h0 z0 p n [x0, x1, x2, x3] ns A_p A_n 2 2 (ns.length - 2) _ (own_subk (k := 2) rfl (by omega) (by omega)) (Nat.le_of_ble_eq_true rfl) (by decide) (by omega) (Nat.le_of_ble_eq_true rfl) ln) (fun v818 h819 qv818 => ?_)
                        obtain ⟨⟨rfl, sgs⟩ | ⟨rfl, sgs⟩, rfl⟩ := qv818
                        · skip
                          replace sgs : SGl [x2, x3] ns (ns.length - 2) := sgs
                          show W K l _ n0 _ h0 0 0 217 #[.val (.ref p), .val (.ref n), .val (.int (4 : Int32)), .val (.int (Int32.ofNat ns.length)), .val (.int (0 : Int32)), .val (.int (1 : Int32)), .val (.int (0 : Int32)), .val (.int (2 : Int32)), .unset, .unset, .unset, .unset, .unset] [(.int (1 : Int32))]
                          refine w_if_ne ok d7_217 (pc' := 222) (by decide) (fun hc821 => ?_) (fun hc821 => False.elim (by revert hc821; decide))
                          refine w_iload ok d7_222 rfl ?_
                          refine w_iload ok d7_224 rfl ?_
                          refine w_isub ok d7_226 ?_
                          show W K l _ n0 _ h0 0 0 227 #[.val (.ref p), .val (.ref n), .val (.int (4 : Int32)), .val (.int (Int32.ofNat ns.length)), .val (.int (0 : Int32)), .val (.int (1 : Int32)), .val (.int (0 : Int32)), .val (.int (2 : Int32)), .unset, .unset, .unset, .unset, .unset] [(.int (1 : Int32))]
                          refine w_iconst ok d7_227 (v := (1 : Int32)) rfl ?_
                          refine w_isub ok d7_228 ?_
                          show W K l _ n0 _ h0 0 0 229 #[.val (.ref p), .val (.ref n), .val (.int (4 : Int32)), .val (.int (Int32.ofNat ns.length)), .val (.int (0 : Int32)), .val (.int (1 : Int32)), .val (.int (0 : Int32)), .val (.int (2 : Int32)), .unset, .unset, .unset, .unset, .unset] [(.int (0 : Int32))]
                          refine w_istore ok d7_229 (L' := #[.val (.ref p), .val (.ref n), .val (.int (4 : Int32)), .val (.int (Int32.ofNat ns.length)), .val (.int (0 : Int32)), .val (.int (1 : Int32)), .val (.int (0 : Int32)), .val (.int (2 : Int32)), .val (.int (0 : Int32)), .unset, .unset, .unset, .unset]) rfl ?_
                          refine w_iload ok d7_231 rfl ?_
                          refine w_iconst ok d7_233 (v := (1 : Int32)) rfl ?_
                          refine w_iadd ok d7_234 ?_
                          show W K l _ n0 _ h0 0 0 235 #[.val (.ref p), .val (.ref n), .val (.int (4 : Int32)), .val (.int (Int32.ofNat ns.length)), .val (.int (0 : Int32)), .val (.int (1 : Int32)), .val (.int (0 : Int32)), .val (.int (2 : Int32)), .val (.int (0 : Int32)), .unset, .unset, .unset, .unset] [(.int (1 : Int32))]
                          refine w_istore ok d7_235 (L' := #[.val (.ref p), .val (.ref n), .val (.int (4 : Int32)), .val (.int (Int32.ofNat ns.length)), .val (.int (0 : Int32)), .val (.int (1 : Int32)), .val (.int (0 : Int32)), .val (.int (2 : Int32)), .val (.int (0 : Int32)), .val (.int (1 : Int32)), .unset, .unset, .unset]) rfl ?_
                          refine w_iconst ok d7_237 (v := (0 : Int32)) rfl ?_
                          refine w_istore ok d7_238 (L' := #[.val (.ref p), .val (.ref n), .val (.int (4 : Int32)), .val (.int (Int32.ofNat ns.length)), .val (.int (0 : Int32)), .val (.int (1 : Int32)), .val (.int (0 : Int32)), .val (.int (2 : Int32)), .val (.int (0 : Int32)), .val (.int (1 : Int32)), .val (.int (0 : Int32)), .unset, .unset]) rfl ?_
                          refine w_iload ok d7_240 rfl ?_
                          refine w_iconst ok d7_242 (v := (1 : Int32)) rfl ?_
                          refine w_icmp_ne ok d7_243 (pc' := 263) (by decide) (fun hc823 => ?_) (fun hc823 => False.elim (by revert hc823; decide))
                          refine w_iload ok d7_263 rfl ?_
                          refine w_iconst ok d7_265 (v := (2 : Int32)) rfl ?_
                          refine w_icmp_ne ok d7_266 (pc' := 340) (by decide) (fun hc825 => ?_) (fun hc825 => False.elim (by revert hc825; decide))
                          refine w_iload ok d7_340 rfl ?_
                          refine w_if_ne ok d7_342 (pc' := 347) (by decide) (fun hc827 => False.elim (by revert hc827; decide)) (fun hc827 => ?_)
                          refine w_iconst ok d7_345 (v := (1 : Int32)) rfl ?_
                          refine w_bret ok (by simp) d7_346 (by decide) (by decide) ?_
                          subst s0 s1
                          have key : Gi ns [42, 42, x2, x3] 0 ↔ _ := (own_two (ns := ns) (P := []) (R := []) (Q := [x2, x3]) NoS_nil NoS_nil (NoS_cons s2 (NoS_cons s3 NoS_nil)))
                          exact ⟨Or.inl ⟨rfl, key.mpr ⟨hge, sgp, sgs, 0, Nat.le_refl _, (show 0 + 0 ≤ ns.length - 2 by omega), SGl_nil.mpr (by omega)⟩⟩, rfl⟩
                        · skip
                          replace sgs : ¬ (SGl [x2, x3] ns (ns.length - 2)) := sgs
                          show W K l _ n0 _ h0 0 0 217 #[.val (.ref p), .val (.ref n), .val (.int (4 : Int32)), .val (.int (Int32.ofNat ns.length)), .val (.int (0 : Int32)), .val (.int (1 : Int32)), .val (.int (0 : Int32)), .val (.int (2 : Int32)), .unset, .unset, .unset, .unset, .unset] [(.int (0 : Int32))]
                          refine w_if_ne ok d7_217 (pc' := 222) (by decide) (fun hc829 => False.elim (by revert hc829; decide)) (fun hc829 => ?_)
                          refine w_iconst ok d7_220 (v := (0 : Int32)) rfl ?_
                          refine w_bret ok (by simp) d7_221 (by decide) (by decide) ?_
                          subst s0 s1
                          have key : Gi ns [42, 42, x2, x3] 0 ↔ _ := (own_two (ns := ns) (P := []) (R := []) (Q := [x2, x3]) NoS_nil NoS_nil (NoS_cons s2 (NoS_cons s3 NoS_nil)))
                          exact ⟨Or.inr ⟨rfl, fun q => sgs (key.mp q).2.2.1⟩, rfl⟩
                      · skip
                        replace sgp : ¬ (SGl [] ns 0) := sgp
                        show W K l _ n0 _ h0 0 0 197 #[.val (.ref p), .val (.ref n), .val (.int (4 : Int32)), .val (.int (Int32.ofNat ns.length)), .val (.int (0 : Int32)), .val (.int (1 : Int32)), .val (.int (0 : Int32)), .val (.int (2 : Int32)), .unset, .unset, .unset, .unset, .unset] [(.int (0 : Int32))]
                        refine w_if_ne ok d7_197 (pc' := 202) (by decide) (fun hc831 => False.elim (by revert hc831; decide)) (fun hc831 => ?_)
                        refine w_iconst ok d7_200 (v := (0 : Int32)) rfl ?_
                        refine w_bret ok (by simp) d7_201 (by decide) (by decide) ?_
                        subst s0 s1
                        have key : Gi ns [42, 42, x2, x3] 0 ↔ _ := (own_two (ns := ns) (P := []) (R := []) (Q := [x2, x3]) NoS_nil NoS_nil (NoS_cons s2 (NoS_cons s3 NoS_nil)))
                        exact ⟨Or.inr ⟨rfl, fun q => sgp (key.mp q).2.1⟩, rfl⟩
                    · skip
                      refine w_iconst ok d7_186 (v := (0 : Int32)) rfl ?_
                      refine w_bret ok (by simp) d7_187 (by decide) (by decide) ?_
                      subst s0 s1
                      have key : Gi ns [42, 42, x2, x3] 0 ↔ _ := (own_two (ns := ns) (P := []) (R := []) (Q := [x2, x3]) NoS_nil NoS_nil (NoS_cons s2 (NoS_cons s3 NoS_nil)))
                      refine ⟨Or.inr ⟨rfl, fun q => ?_⟩, rfl⟩
                      have q1 : 0 + 2 ≤ ns.length := (key.mp q).1
                      have q2 := hc813; rw [show (2 : Int32) = Int32.ofNat 2 from rfl, own_lt (by omega) (by omega)] at q2; omega
              · exact absurd s1 t795
            · exact absurd s0 t788
          · skip
            replace s0 : ¬ (x0 = 42) := s0
            show W K l _ n0 _ h0 0 0 66 #[.val (.ref p), .val (.ref n), .val (.int (4 : Int32)), .val (.int (Int32.ofNat ns.length)), .val (.int (1 : Int32)), .unset, .unset, .unset, .unset, .unset, .unset, .unset, .unset] [(.int (0 : Int32))]
            refine w_if_eq ok d7_66 (pc' := 72) (by decide) (fun hc833 => ?_) (fun hc833 => False.elim (by revert hc833; decide))
            refine w_iload ok d7_72 rfl ?_
            refine w_if_ge ok d7_74 (pc' := 99) (by decide) (fun hc835 => ?_) (fun hc835 => False.elim (by revert hc835; decide))
            refine w_iconst ok d7_99 (v := (-1 : Int32)) rfl ?_
            refine w_istore ok d7_100 (L' := #[.val (.ref p), .val (.ref n), .val (.int (4 : Int32)), .val (.int (Int32.ofNat ns.length)), .val (.int (1 : Int32)), .val (.int (-1 : Int32)), .unset, .unset, .unset, .unset, .unset, .unset, .unset]) rfl ?_
            refine w_iloadN ok d7_102 rfl ?_
            refine w_if_le ok d7_103 (pc' := 117) (by decide) (fun hc837 => False.elim (by revert hc837; decide)) (fun hc837 => ?_)
            refine w_aloadN ok d7_106 rfl rfl ?_
            refine w_iconst ok d7_107 (v := (0 : Int32)) rfl ?_
            refine w_callS ok (y := mn_8) (argsL := [(.ref p), (.int (0 : Int32))]) (rest := []) d7_108 (hw _ (List.mem_of_getElem? (i := 34) rfl)) (hw _ (List.mem_of_getElem? (i := 35) rfl)) (hw _ (List.mem_of_getElem? (i := 4) rfl)) (hw _ (List.mem_of_getElem? (i := 36) rfl)) (by decide) pd_285bBI29Z rfl rfl (by decide) (Nat.le_of_ble_eq_true rfl) (by decide) (by decide) (fun z0 => rm_star l Z a0 hw [] n0 h0 z0 p [x0, x1, x2, x3] A_p 0 (Nat.le_of_ble_eq_true rfl) (Nat.le_of_ble_eq_true rfl)) (fun v838 h839 qv838 => ?_)
            obtain ⟨⟨rfl, t840⟩ | ⟨rfl, t840⟩, rfl⟩ := qv838
            · exact absurd t840 s0
            · skip
              replace t840 : ¬ (x0 = 42) := t840
              show W K l _ n0 _ h0 0 0 111 #[.val (.ref p), .val (.ref n), .val (.int (4 : Int32)), .val (.int (Int32.ofNat ns.length)), .val (.int (1 : Int32)), .val (.int (-1 : Int32)), .unset, .unset, .unset, .unset, .unset, .unset, .unset] [(.int (0 : Int32))]
              refine w_if_eq ok d7_111 (pc' := 117) (by decide) (fun hc842 => ?_) (fun hc842 => False.elim (by revert hc842; decide))
              refine w_iloadN ok d7_117 rfl ?_
              refine w_iconst ok d7_118 (v := (1 : Int32)) rfl ?_
              refine w_icmp_le ok d7_119 (pc' := 133) (by decide) (fun hc844 => False.elim (by revert hc844; decide)) (fun hc844 => ?_)
              refine w_aloadN ok d7_122 rfl rfl ?_
              refine w_iconst ok d7_123 (v := (1 : Int32)) rfl ?_
              refine w_callS ok (y := mn_8) (argsL := [(.ref p), (.int (1 : Int32))]) (rest := []) d7_124 (hw _ (List.mem_of_getElem? (i := 34) rfl)) (hw _ (List.mem_of_getElem? (i := 35) rfl)) (hw _ (List.mem_of_getElem? (i := 4) rfl)) (hw _ (List.mem_of_getElem? (i := 36) rfl)) (by decide) pd_285bBI29Z rfl rfl (by decide) (Nat.le_of_ble_eq_true rfl) (by decide) (by decide) (fun z0 => rm_star l Z a0 hw [] n0 h0 z0 p [x0, x1, x2, x3] A_p 1 (Nat.le_of_ble_eq_true rfl) (Nat.le_of_ble_eq_true rfl)) (fun v845 h846 qv845 => ?_)
              obtain ⟨⟨rfl, t847⟩ | ⟨rfl, t847⟩, rfl⟩ := qv845
              · skip
                replace t847 : x1 = 42 := t847
                show W K l _ n0 _ h0 0 0 127 #[.val (.ref p), .val (.ref n), .val (.int (4 : Int32)), .val (.int (Int32.ofNat ns.length)), .val (.int (1 : Int32)), .val (.int (-1 : Int32)), .unset, .unset, .unset, .unset, .unset, .unset, .unset] [(.int (1 : Int32))]
                refine w_if_eq ok d7_127 (pc' := 133) (by decide) (fun hc849 => False.elim (by revert hc849; decide)) (fun hc849 => ?_)
                refine w_iconst ok d7_130 (v := (1 : Int32)) rfl ?_
                refine w_istore ok d7_131 (L' := #[.val (.ref p), .val (.ref n), .val (.int (4 : Int32)), .val (.int (Int32.ofNat ns.length)), .val (.int (1 : Int32)), .val (.int (1 : Int32)), .unset, .unset, .unset, .unset, .unset, .unset, .unset]) rfl ?_
                refine w_iloadN ok d7_133 rfl ?_
                refine w_iconst ok d7_134 (v := (2 : Int32)) rfl ?_
                refine w_icmp_le ok d7_135 (pc' := 149) (by decide) (fun hc851 => False.elim (by revert hc851; decide)) (fun hc851 => ?_)
                refine w_aloadN ok d7_138 rfl rfl ?_
                refine w_iconst ok d7_139 (v := (2 : Int32)) rfl ?_
                refine w_callS ok (y := mn_8) (argsL := [(.ref p), (.int (2 : Int32))]) (rest := []) d7_140 (hw _ (List.mem_of_getElem? (i := 34) rfl)) (hw _ (List.mem_of_getElem? (i := 35) rfl)) (hw _ (List.mem_of_getElem? (i := 4) rfl)) (hw _ (List.mem_of_getElem? (i := 36) rfl)) (by decide) pd_285bBI29Z rfl rfl (by decide) (Nat.le_of_ble_eq_true rfl) (by decide) (by decide) (fun z0 => rm_star l Z a0 hw [] n0 h0 z0 p [x0, x1, x2, x3] A_p 2 (Nat.le_of_ble_eq_true rfl) (Nat.le_of_ble_eq_true rfl)) (fun v852 h853 qv852 => ?_)
                obtain ⟨⟨rfl, t854⟩ | ⟨rfl, t854⟩, rfl⟩ := qv852
                · exact absurd t854 s2
                · skip
                  replace t854 : ¬ (x2 = 42) := t854
                  show W K l _ n0 _ h0 0 0 143 #[.val (.ref p), .val (.ref n), .val (.int (4 : Int32)), .val (.int (Int32.ofNat ns.length)), .val (.int (1 : Int32)), .val (.int (1 : Int32)), .unset, .unset, .unset, .unset, .unset, .unset, .unset] [(.int (0 : Int32))]
                  refine w_if_eq ok d7_143 (pc' := 149) (by decide) (fun hc856 => ?_) (fun hc856 => False.elim (by revert hc856; decide))
                  refine w_iloadN ok d7_149 rfl ?_
                  refine w_iconst ok d7_150 (v := (3 : Int32)) rfl ?_
                  refine w_icmp_le ok d7_151 (pc' := 165) (by decide) (fun hc858 => False.elim (by revert hc858; decide)) (fun hc858 => ?_)
                  refine w_aloadN ok d7_154 rfl rfl ?_
                  refine w_iconst ok d7_155 (v := (3 : Int32)) rfl ?_
                  refine w_callS ok (y := mn_8) (argsL := [(.ref p), (.int (3 : Int32))]) (rest := []) d7_156 (hw _ (List.mem_of_getElem? (i := 34) rfl)) (hw _ (List.mem_of_getElem? (i := 35) rfl)) (hw _ (List.mem_of_getElem? (i := 4) rfl)) (hw _ (List.mem_of_getElem? (i := 36) rfl)) (by decide) pd_285bBI29Z rfl rfl (by decide) (Nat.le_of_ble_eq_true rfl) (by decide) (by decide) (fun z0 => rm_star l Z a0 hw [] n0 h0 z0 p [x0, x1, x2, x3] A_p 3 (Nat.le_of_ble_eq_true rfl) (Nat.le_of_ble_eq_true rfl)) (fun v859 h860 qv859 => ?_)
                  obtain ⟨⟨rfl, t861⟩ | ⟨rfl, t861⟩, rfl⟩ := qv859
                  · exact absurd t861 s3
                  · skip
                    replace t861 : ¬ (x3 = 42) := t861
                    show W K l _ n0 _ h0 0 0 159 #[.val (.ref p), .val (.ref n), .val (.int (4 : Int32)), .val (.int (Int32.ofNat ns.length)), .val (.int (1 : Int32)), .val (.int (1 : Int32)), .unset, .unset, .unset, .unset, .unset, .unset, .unset] [(.int (0 : Int32))]
                    refine w_if_eq ok d7_159 (pc' := 165) (by decide) (fun hc863 => ?_) (fun hc863 => False.elim (by revert hc863; decide))
                    refine w_iload ok d7_165 rfl ?_
                    refine w_istore ok d7_167 (L' := #[.val (.ref p), .val (.ref n), .val (.int (4 : Int32)), .val (.int (Int32.ofNat ns.length)), .val (.int (1 : Int32)), .val (.int (1 : Int32)), .val (.int (1 : Int32)), .unset, .unset, .unset, .unset, .unset, .unset]) rfl ?_
                    refine w_iloadN ok d7_169 rfl ?_
                    refine w_iconst ok d7_170 (v := (1 : Int32)) rfl ?_
                    refine w_isub ok d7_171 ?_
                    show W K l _ n0 _ h0 0 0 172 #[.val (.ref p), .val (.ref n), .val (.int (4 : Int32)), .val (.int (Int32.ofNat ns.length)), .val (.int (1 : Int32)), .val (.int (1 : Int32)), .val (.int (1 : Int32)), .unset, .unset, .unset, .unset, .unset, .unset] [(.int (3 : Int32))]
                    refine w_iload ok d7_172 rfl ?_
                    refine w_isub ok d7_174 ?_
                    show W K l _ n0 _ h0 0 0 175 #[.val (.ref p), .val (.ref n), .val (.int (4 : Int32)), .val (.int (Int32.ofNat ns.length)), .val (.int (1 : Int32)), .val (.int (1 : Int32)), .val (.int (1 : Int32)), .unset, .unset, .unset, .unset, .unset, .unset] [(.int (2 : Int32))]
                    refine w_istore ok d7_175 (L' := #[.val (.ref p), .val (.ref n), .val (.int (4 : Int32)), .val (.int (Int32.ofNat ns.length)), .val (.int (1 : Int32)), .val (.int (1 : Int32)), .val (.int (1 : Int32)), .val (.int (2 : Int32)), .unset, .unset, .unset, .unset, .unset]) rfl ?_
                    refine w_iloadN ok d7_177 rfl ?_
                    refine w_iload ok d7_178 rfl ?_
                    refine w_iload ok d7_180 rfl ?_
                    refine w_iadd ok d7_182 ?_
                    show W K l _ n0 _ h0 0 0 183 #[.val (.ref p), .val (.ref n), .val (.int (4 : Int32)), .val (.int (Int32.ofNat ns.length)), .val (.int (1 : Int32)), .val (.int (1 : Int32)), .val (.int (1 : Int32)), .val (.int (2 : Int32)), .unset, .unset, .unset, .unset, .unset] [(.int (3 : Int32)), (.int (Int32.ofNat ns.length))]
                    refine w_icmp_ge ok d7_183 (pc' := 188) (by decide) (fun hc865 => ?_) (fun hc865 => ?_)
                    · skip
                      have hge : 3 ≤ ns.length := by have q := hc865; rw [show (3 : Int32) = Int32.ofNat 3 from rfl, own_lt (by omega) (by omega)] at q; omega
                      refine w_aloadN ok d7_188 rfl rfl ?_
                      refine w_iconst ok d7_189 (v := (0 : Int32)) rfl ?_
                      refine w_iload ok d7_190 rfl ?_
                      refine w_aloadN ok d7_192 rfl rfl ?_
                      refine w_iconst ok d7_193 (v := (0 : Int32)) rfl ?_
                      refine w_callS ok (y := mn_9) (argsL := [(.ref p), (.int (0 : Int32)), (.int (1 : Int32)), (.ref n), (.int (0 : Int32))]) (rest := []) d7_194 (hw _ (List.mem_of_getElem? (i := 37) rfl)) (hw _ (List.mem_of_getElem? (i := 38) rfl)) (hw _ (List.mem_of_getElem? (i := 4) rfl)) (hw _ (List.mem_of_getElem? (i := 39) rfl)) (by decide) pd_285bBII5bBI29Z rfl rfl (by decide) (Nat.le_of_ble_eq_true rfl) (by decide) (by decide) (fun z0 => rm_seg l Z a0 hw [] n0 h0 z0 p n [x0, x1, x2, x3] ns A_p A_n 0 1 0 _ rfl (Nat.le_of_ble_eq_true rfl) (by decide) (by omega) (Nat.le_of_ble_eq_true rfl) ln) (fun v866 h867 qv866 => ?_)
                      obtain ⟨⟨rfl, sgp⟩ | ⟨rfl, sgp⟩, rfl⟩ := qv866
                      · skip
                        replace sgp : SGl [x0] ns 0 := sgp
                        show W K l _ n0 _ h0 0 0 197 #[.val (.ref p), .val (.ref n), .val (.int (4 : Int32)), .val (.int (Int32.ofNat ns.length)), .val (.int (1 : Int32)), .val (.int (1 : Int32)), .val (.int (1 : Int32)), .val (.int (2 : Int32)), .unset, .unset, .unset, .unset, .unset] [(.int (1 : Int32))]
                        refine w_if_ne ok d7_197 (pc' := 202) (by decide) (fun hc869 => ?_) (fun hc869 => False.elim (by revert hc869; decide))
                        refine w_aloadN ok d7_202 rfl rfl ?_
                        refine w_iload ok d7_203 rfl ?_
                        refine w_iconst ok d7_205 (v := (1 : Int32)) rfl ?_
                        refine w_iadd ok d7_206 ?_
                        show W K l _ n0 _ h0 0 0 207 #[.val (.ref p), .val (.ref n), .val (.int (4 : Int32)), .val (.int (Int32.ofNat ns.length)), .val (.int (1 : Int32)), .val (.int (1 : Int32)), .val (.int (1 : Int32)), .val (.int (2 : Int32)), .unset, .unset, .unset, .unset, .unset] [(.int (2 : Int32)), (.ref p)]
                        refine w_iload ok d7_207 rfl ?_
                        refine w_aloadN ok d7_209 rfl rfl ?_
                        refine w_iloadN ok d7_210 rfl ?_
                        refine w_iload ok d7_211 rfl ?_
                        refine w_isub ok d7_213 ?_
                        refine w_callS ok (y := mn_9) (argsL := [(.ref p), (.int (2 : Int32)), (.int (2 : Int32)), (.ref n), (.int ((Int32.ofNat ns.length) - (2 : Int32)))]) (rest := []) d7_214 (hw _ (List.mem_of_getElem? (i := 37) rfl)) (hw _ (List.mem_of_getElem? (i := 38) rfl)) (hw _ (List.mem_of_getElem? (i := 4) rfl)) (hw _ (List.mem_of_getElem? (i := 39) rfl)) (by decide) pd_285bBII5bBI29Z rfl rfl (by decide) (Nat.le_of_ble_eq_true rfl) (by decide) (by decide) (fun z0 => rm_seg l Z a0 hw [] n0 h0 z0 p n [x0, x1, x2, x3] ns A_p A_n 2 2 (ns.length - 2) _ (own_subk (k := 2) rfl (by omega) (by omega)) (Nat.le_of_ble_eq_true rfl) (by decide) (by omega) (Nat.le_of_ble_eq_true rfl) ln) (fun v870 h871 qv870 => ?_)
                        obtain ⟨⟨rfl, sgs⟩ | ⟨rfl, sgs⟩, rfl⟩ := qv870
                        · skip
                          replace sgs : SGl [x2, x3] ns (ns.length - 2) := sgs
                          show W K l _ n0 _ h0 0 0 217 #[.val (.ref p), .val (.ref n), .val (.int (4 : Int32)), .val (.int (Int32.ofNat ns.length)), .val (.int (1 : Int32)), .val (.int (1 : Int32)), .val (.int (1 : Int32)), .val (.int (2 : Int32)), .unset, .unset, .unset, .unset, .unset] [(.int (1 : Int32))]
                          refine w_if_ne ok d7_217 (pc' := 222) (by decide) (fun hc873 => ?_) (fun hc873 => False.elim (by revert hc873; decide))
                          refine w_iload ok d7_222 rfl ?_
                          refine w_iload ok d7_224 rfl ?_
                          refine w_isub ok d7_226 ?_
                          show W K l _ n0 _ h0 0 0 227 #[.val (.ref p), .val (.ref n), .val (.int (4 : Int32)), .val (.int (Int32.ofNat ns.length)), .val (.int (1 : Int32)), .val (.int (1 : Int32)), .val (.int (1 : Int32)), .val (.int (2 : Int32)), .unset, .unset, .unset, .unset, .unset] [(.int (0 : Int32))]
                          refine w_iconst ok d7_227 (v := (1 : Int32)) rfl ?_
                          refine w_isub ok d7_228 ?_
                          show W K l _ n0 _ h0 0 0 229 #[.val (.ref p), .val (.ref n), .val (.int (4 : Int32)), .val (.int (Int32.ofNat ns.length)), .val (.int (1 : Int32)), .val (.int (1 : Int32)), .val (.int (1 : Int32)), .val (.int (2 : Int32)), .unset, .unset, .unset, .unset, .unset] [(.int (-1 : Int32))]
                          refine w_istore ok d7_229 (L' := #[.val (.ref p), .val (.ref n), .val (.int (4 : Int32)), .val (.int (Int32.ofNat ns.length)), .val (.int (1 : Int32)), .val (.int (1 : Int32)), .val (.int (1 : Int32)), .val (.int (2 : Int32)), .val (.int (-1 : Int32)), .unset, .unset, .unset, .unset]) rfl ?_
                          refine w_iload ok d7_231 rfl ?_
                          refine w_iconst ok d7_233 (v := (1 : Int32)) rfl ?_
                          refine w_iadd ok d7_234 ?_
                          show W K l _ n0 _ h0 0 0 235 #[.val (.ref p), .val (.ref n), .val (.int (4 : Int32)), .val (.int (Int32.ofNat ns.length)), .val (.int (1 : Int32)), .val (.int (1 : Int32)), .val (.int (1 : Int32)), .val (.int (2 : Int32)), .val (.int (-1 : Int32)), .unset, .unset, .unset, .unset] [(.int (2 : Int32))]
                          refine w_istore ok d7_235 (L' := #[.val (.ref p), .val (.ref n), .val (.int (4 : Int32)), .val (.int (Int32.ofNat ns.length)), .val (.int (1 : Int32)), .val (.int (1 : Int32)), .val (.int (1 : Int32)), .val (.int (2 : Int32)), .val (.int (-1 : Int32)), .val (.int (2 : Int32)), .unset, .unset, .unset]) rfl ?_
                          refine w_iconst ok d7_237 (v := (0 : Int32)) rfl ?_
                          refine w_istore ok d7_238 (L' := #[.val (.ref p), .val (.ref n), .val (.int (4 : Int32)), .val (.int (Int32.ofNat ns.length)), .val (.int (1 : Int32)), .val (.int (1 : Int32)), .val (.int (1 : Int32)), .val (.int (2 : Int32)), .val (.int (-1 : Int32)), .val (.int (2 : Int32)), .val (.int (0 : Int32)), .unset, .unset]) rfl ?_
                          refine w_iload ok d7_240 rfl ?_
                          refine w_iconst ok d7_242 (v := (1 : Int32)) rfl ?_
                          refine w_icmp_ne ok d7_243 (pc' := 263) (by decide) (fun hc875 => ?_) (fun hc875 => False.elim (by revert hc875; decide))
                          refine w_iload ok d7_263 rfl ?_
                          refine w_iconst ok d7_265 (v := (2 : Int32)) rfl ?_
                          refine w_icmp_ne ok d7_266 (pc' := 340) (by decide) (fun hc877 => ?_) (fun hc877 => False.elim (by revert hc877; decide))
                          refine w_iload ok d7_340 rfl ?_
                          refine w_if_ne ok d7_342 (pc' := 347) (by decide) (fun hc879 => False.elim (by revert hc879; decide)) (fun hc879 => ?_)
                          refine w_iconst ok d7_345 (v := (1 : Int32)) rfl ?_
                          refine w_bret ok (by simp) d7_346 (by decide) (by decide) ?_
                          subst s1
                          have key : Gi ns [x0, 42, x2, x3] 0 ↔ _ := own_one (ns := ns) (P := [x0]) (Q := [x2, x3]) (NoS_cons s0 NoS_nil) (NoS_cons s2 (NoS_cons s3 NoS_nil))
                          exact ⟨Or.inl ⟨rfl, key.mpr ⟨hge, sgp, sgs⟩⟩, rfl⟩
                        · skip
                          replace sgs : ¬ (SGl [x2, x3] ns (ns.length - 2)) := sgs
                          show W K l _ n0 _ h0 0 0 217 #[.val (.ref p), .val (.ref n), .val (.int (4 : Int32)), .val (.int (Int32.ofNat ns.length)), .val (.int (1 : Int32)), .val (.int (1 : Int32)), .val (.int (1 : Int32)), .val (.int (2 : Int32)), .unset, .unset, .unset, .unset, .unset] [(.int (0 : Int32))]
                          refine w_if_ne ok d7_217 (pc' := 222) (by decide) (fun hc881 => False.elim (by revert hc881; decide)) (fun hc881 => ?_)
                          refine w_iconst ok d7_220 (v := (0 : Int32)) rfl ?_
                          refine w_bret ok (by simp) d7_221 (by decide) (by decide) ?_
                          subst s1
                          have key : Gi ns [x0, 42, x2, x3] 0 ↔ _ := own_one (ns := ns) (P := [x0]) (Q := [x2, x3]) (NoS_cons s0 NoS_nil) (NoS_cons s2 (NoS_cons s3 NoS_nil))
                          exact ⟨Or.inr ⟨rfl, fun q => sgs (key.mp q).2.2⟩, rfl⟩
                      · skip
                        replace sgp : ¬ (SGl [x0] ns 0) := sgp
                        show W K l _ n0 _ h0 0 0 197 #[.val (.ref p), .val (.ref n), .val (.int (4 : Int32)), .val (.int (Int32.ofNat ns.length)), .val (.int (1 : Int32)), .val (.int (1 : Int32)), .val (.int (1 : Int32)), .val (.int (2 : Int32)), .unset, .unset, .unset, .unset, .unset] [(.int (0 : Int32))]
                        refine w_if_ne ok d7_197 (pc' := 202) (by decide) (fun hc883 => False.elim (by revert hc883; decide)) (fun hc883 => ?_)
                        refine w_iconst ok d7_200 (v := (0 : Int32)) rfl ?_
                        refine w_bret ok (by simp) d7_201 (by decide) (by decide) ?_
                        subst s1
                        have key : Gi ns [x0, 42, x2, x3] 0 ↔ _ := own_one (ns := ns) (P := [x0]) (Q := [x2, x3]) (NoS_cons s0 NoS_nil) (NoS_cons s2 (NoS_cons s3 NoS_nil))
                        exact ⟨Or.inr ⟨rfl, fun q => sgp (key.mp q).2.1⟩, rfl⟩
                    · skip
                      refine w_iconst ok d7_186 (v := (0 : Int32)) rfl ?_
                      refine w_bret ok (by simp) d7_187 (by decide) (by decide) ?_
                      subst s1
                      have key : Gi ns [x0, 42, x2, x3] 0 ↔ _ := own_one (ns := ns) (P := [x0]) (Q := [x2, x3]) (NoS_cons s0 NoS_nil) (NoS_cons s2 (NoS_cons s3 NoS_nil))
                      refine ⟨Or.inr ⟨rfl, fun q => ?_⟩, rfl⟩
                      have q1 : 1 + 2 ≤ ns.length := (key.mp q).1
                      have q2 := hc865; rw [show (3 : Int32) = Int32.ofNat 3 from rfl, own_lt (by omega) (by omega)] at q2; omega
              · exact absurd s1 t847
        · skip
          replace s1 : ¬ (x1 = 42) := s1
          show W K l _ n0 _ h0 0 0 51 #[.val (.ref p), .val (.ref n), .val (.int (4 : Int32)), .val (.int (Int32.ofNat ns.length)), .val (.int (-1 : Int32)), .unset, .unset, .unset, .unset, .unset, .unset, .unset, .unset] [(.int (0 : Int32))]
          refine w_if_eq ok d7_51 (pc' := 57) (by decide) (fun hc885 => ?_) (fun hc885 => False.elim (by revert hc885; decide))
          refine w_iloadN ok d7_57 rfl ?_
          refine w_if_le ok d7_58 (pc' := 72) (by decide) (fun hc887 => False.elim (by revert hc887; decide)) (fun hc887 => ?_)
          refine w_aloadN ok d7_61 rfl rfl ?_
          refine w_iconst ok d7_62 (v := (0 : Int32)) rfl ?_
          refine w_callS ok (y := mn_8) (argsL := [(.ref p), (.int (0 : Int32))]) (rest := []) d7_63 (hw _ (List.mem_of_getElem? (i := 34) rfl)) (hw _ (List.mem_of_getElem? (i := 35) rfl)) (hw _ (List.mem_of_getElem? (i := 4) rfl)) (hw _ (List.mem_of_getElem? (i := 36) rfl)) (by decide) pd_285bBI29Z rfl rfl (by decide) (Nat.le_of_ble_eq_true rfl) (by decide) (by decide) (fun z0 => rm_star l Z a0 hw [] n0 h0 z0 p [x0, x1, x2, x3] A_p 0 (Nat.le_of_ble_eq_true rfl) (Nat.le_of_ble_eq_true rfl)) (fun v888 h889 qv888 => ?_)
          obtain ⟨⟨rfl, s0⟩ | ⟨rfl, s0⟩, rfl⟩ := qv888
          · skip
            replace s0 : x0 = 42 := s0
            show W K l _ n0 _ h0 0 0 66 #[.val (.ref p), .val (.ref n), .val (.int (4 : Int32)), .val (.int (Int32.ofNat ns.length)), .val (.int (-1 : Int32)), .unset, .unset, .unset, .unset, .unset, .unset, .unset, .unset] [(.int (1 : Int32))]
            refine w_if_eq ok d7_66 (pc' := 72) (by decide) (fun hc891 => False.elim (by revert hc891; decide)) (fun hc891 => ?_)
            refine w_iconst ok d7_69 (v := (0 : Int32)) rfl ?_
            refine w_istore ok d7_70 (L' := #[.val (.ref p), .val (.ref n), .val (.int (4 : Int32)), .val (.int (Int32.ofNat ns.length)), .val (.int (0 : Int32)), .unset, .unset, .unset, .unset, .unset, .unset, .unset, .unset]) rfl ?_
            refine w_iload ok d7_72 rfl ?_
            refine w_if_ge ok d7_74 (pc' := 99) (by decide) (fun hc893 => ?_) (fun hc893 => False.elim (by revert hc893; decide))
            refine w_iconst ok d7_99 (v := (-1 : Int32)) rfl ?_
            refine w_istore ok d7_100 (L' := #[.val (.ref p), .val (.ref n), .val (.int (4 : Int32)), .val (.int (Int32.ofNat ns.length)), .val (.int (0 : Int32)), .val (.int (-1 : Int32)), .unset, .unset, .unset, .unset, .unset, .unset, .unset]) rfl ?_
            refine w_iloadN ok d7_102 rfl ?_
            refine w_if_le ok d7_103 (pc' := 117) (by decide) (fun hc895 => False.elim (by revert hc895; decide)) (fun hc895 => ?_)
            refine w_aloadN ok d7_106 rfl rfl ?_
            refine w_iconst ok d7_107 (v := (0 : Int32)) rfl ?_
            refine w_callS ok (y := mn_8) (argsL := [(.ref p), (.int (0 : Int32))]) (rest := []) d7_108 (hw _ (List.mem_of_getElem? (i := 34) rfl)) (hw _ (List.mem_of_getElem? (i := 35) rfl)) (hw _ (List.mem_of_getElem? (i := 4) rfl)) (hw _ (List.mem_of_getElem? (i := 36) rfl)) (by decide) pd_285bBI29Z rfl rfl (by decide) (Nat.le_of_ble_eq_true rfl) (by decide) (by decide) (fun z0 => rm_star l Z a0 hw [] n0 h0 z0 p [x0, x1, x2, x3] A_p 0 (Nat.le_of_ble_eq_true rfl) (Nat.le_of_ble_eq_true rfl)) (fun v896 h897 qv896 => ?_)
            obtain ⟨⟨rfl, t898⟩ | ⟨rfl, t898⟩, rfl⟩ := qv896
            · skip
              replace t898 : x0 = 42 := t898
              show W K l _ n0 _ h0 0 0 111 #[.val (.ref p), .val (.ref n), .val (.int (4 : Int32)), .val (.int (Int32.ofNat ns.length)), .val (.int (0 : Int32)), .val (.int (-1 : Int32)), .unset, .unset, .unset, .unset, .unset, .unset, .unset] [(.int (1 : Int32))]
              refine w_if_eq ok d7_111 (pc' := 117) (by decide) (fun hc900 => False.elim (by revert hc900; decide)) (fun hc900 => ?_)
              refine w_iconst ok d7_114 (v := (0 : Int32)) rfl ?_
              refine w_istore ok d7_115 (L' := #[.val (.ref p), .val (.ref n), .val (.int (4 : Int32)), .val (.int (Int32.ofNat ns.length)), .val (.int (0 : Int32)), .val (.int (0 : Int32)), .unset, .unset, .unset, .unset, .unset, .unset, .unset]) rfl ?_
              refine w_iloadN ok d7_117 rfl ?_
              refine w_iconst ok d7_118 (v := (1 : Int32)) rfl ?_
              refine w_icmp_le ok d7_119 (pc' := 133) (by decide) (fun hc902 => False.elim (by revert hc902; decide)) (fun hc902 => ?_)
              refine w_aloadN ok d7_122 rfl rfl ?_
              refine w_iconst ok d7_123 (v := (1 : Int32)) rfl ?_
              refine w_callS ok (y := mn_8) (argsL := [(.ref p), (.int (1 : Int32))]) (rest := []) d7_124 (hw _ (List.mem_of_getElem? (i := 34) rfl)) (hw _ (List.mem_of_getElem? (i := 35) rfl)) (hw _ (List.mem_of_getElem? (i := 4) rfl)) (hw _ (List.mem_of_getElem? (i := 36) rfl)) (by decide) pd_285bBI29Z rfl rfl (by decide) (Nat.le_of_ble_eq_true rfl) (by decide) (by decide) (fun z0 => rm_star l Z a0 hw [] n0 h0 z0 p [x0, x1, x2, x3] A_p 1 (Nat.le_of_ble_eq_true rfl) (Nat.le_of_ble_eq_true rfl)) (fun v903 h904 qv903 => ?_)
              obtain ⟨⟨rfl, t905⟩ | ⟨rfl, t905⟩, rfl⟩ := qv903
              · exact absurd t905 s1
              · skip
                replace t905 : ¬ (x1 = 42) := t905
                show W K l _ n0 _ h0 0 0 127 #[.val (.ref p), .val (.ref n), .val (.int (4 : Int32)), .val (.int (Int32.ofNat ns.length)), .val (.int (0 : Int32)), .val (.int (0 : Int32)), .unset, .unset, .unset, .unset, .unset, .unset, .unset] [(.int (0 : Int32))]
                refine w_if_eq ok d7_127 (pc' := 133) (by decide) (fun hc907 => ?_) (fun hc907 => False.elim (by revert hc907; decide))
                refine w_iloadN ok d7_133 rfl ?_
                refine w_iconst ok d7_134 (v := (2 : Int32)) rfl ?_
                refine w_icmp_le ok d7_135 (pc' := 149) (by decide) (fun hc909 => False.elim (by revert hc909; decide)) (fun hc909 => ?_)
                refine w_aloadN ok d7_138 rfl rfl ?_
                refine w_iconst ok d7_139 (v := (2 : Int32)) rfl ?_
                refine w_callS ok (y := mn_8) (argsL := [(.ref p), (.int (2 : Int32))]) (rest := []) d7_140 (hw _ (List.mem_of_getElem? (i := 34) rfl)) (hw _ (List.mem_of_getElem? (i := 35) rfl)) (hw _ (List.mem_of_getElem? (i := 4) rfl)) (hw _ (List.mem_of_getElem? (i := 36) rfl)) (by decide) pd_285bBI29Z rfl rfl (by decide) (Nat.le_of_ble_eq_true rfl) (by decide) (by decide) (fun z0 => rm_star l Z a0 hw [] n0 h0 z0 p [x0, x1, x2, x3] A_p 2 (Nat.le_of_ble_eq_true rfl) (Nat.le_of_ble_eq_true rfl)) (fun v910 h911 qv910 => ?_)
                obtain ⟨⟨rfl, t912⟩ | ⟨rfl, t912⟩, rfl⟩ := qv910
                · exact absurd t912 s2
                · skip
                  replace t912 : ¬ (x2 = 42) := t912
                  show W K l _ n0 _ h0 0 0 143 #[.val (.ref p), .val (.ref n), .val (.int (4 : Int32)), .val (.int (Int32.ofNat ns.length)), .val (.int (0 : Int32)), .val (.int (0 : Int32)), .unset, .unset, .unset, .unset, .unset, .unset, .unset] [(.int (0 : Int32))]
                  refine w_if_eq ok d7_143 (pc' := 149) (by decide) (fun hc914 => ?_) (fun hc914 => False.elim (by revert hc914; decide))
                  refine w_iloadN ok d7_149 rfl ?_
                  refine w_iconst ok d7_150 (v := (3 : Int32)) rfl ?_
                  refine w_icmp_le ok d7_151 (pc' := 165) (by decide) (fun hc916 => False.elim (by revert hc916; decide)) (fun hc916 => ?_)
                  refine w_aloadN ok d7_154 rfl rfl ?_
                  refine w_iconst ok d7_155 (v := (3 : Int32)) rfl ?_
                  refine w_callS ok (y := mn_8) (argsL := [(.ref p), (.int (3 : Int32))]) (rest := []) d7_156 (hw _ (List.mem_of_getElem? (i := 34) rfl)) (hw _ (List.mem_of_getElem? (i := 35) rfl)) (hw _ (List.mem_of_getElem? (i := 4) rfl)) (hw _ (List.mem_of_getElem? (i := 36) rfl)) (by decide) pd_285bBI29Z rfl rfl (by decide) (Nat.le_of_ble_eq_true rfl) (by decide) (by decide) (fun z0 => rm_star l Z a0 hw [] n0 h0 z0 p [x0, x1, x2, x3] A_p 3 (Nat.le_of_ble_eq_true rfl) (Nat.le_of_ble_eq_true rfl)) (fun v917 h918 qv917 => ?_)
                  obtain ⟨⟨rfl, t919⟩ | ⟨rfl, t919⟩, rfl⟩ := qv917
                  · exact absurd t919 s3
                  · skip
                    replace t919 : ¬ (x3 = 42) := t919
                    show W K l _ n0 _ h0 0 0 159 #[.val (.ref p), .val (.ref n), .val (.int (4 : Int32)), .val (.int (Int32.ofNat ns.length)), .val (.int (0 : Int32)), .val (.int (0 : Int32)), .unset, .unset, .unset, .unset, .unset, .unset, .unset] [(.int (0 : Int32))]
                    refine w_if_eq ok d7_159 (pc' := 165) (by decide) (fun hc921 => ?_) (fun hc921 => False.elim (by revert hc921; decide))
                    refine w_iload ok d7_165 rfl ?_
                    refine w_istore ok d7_167 (L' := #[.val (.ref p), .val (.ref n), .val (.int (4 : Int32)), .val (.int (Int32.ofNat ns.length)), .val (.int (0 : Int32)), .val (.int (0 : Int32)), .val (.int (0 : Int32)), .unset, .unset, .unset, .unset, .unset, .unset]) rfl ?_
                    refine w_iloadN ok d7_169 rfl ?_
                    refine w_iconst ok d7_170 (v := (1 : Int32)) rfl ?_
                    refine w_isub ok d7_171 ?_
                    show W K l _ n0 _ h0 0 0 172 #[.val (.ref p), .val (.ref n), .val (.int (4 : Int32)), .val (.int (Int32.ofNat ns.length)), .val (.int (0 : Int32)), .val (.int (0 : Int32)), .val (.int (0 : Int32)), .unset, .unset, .unset, .unset, .unset, .unset] [(.int (3 : Int32))]
                    refine w_iload ok d7_172 rfl ?_
                    refine w_isub ok d7_174 ?_
                    show W K l _ n0 _ h0 0 0 175 #[.val (.ref p), .val (.ref n), .val (.int (4 : Int32)), .val (.int (Int32.ofNat ns.length)), .val (.int (0 : Int32)), .val (.int (0 : Int32)), .val (.int (0 : Int32)), .unset, .unset, .unset, .unset, .unset, .unset] [(.int (3 : Int32))]
                    refine w_istore ok d7_175 (L' := #[.val (.ref p), .val (.ref n), .val (.int (4 : Int32)), .val (.int (Int32.ofNat ns.length)), .val (.int (0 : Int32)), .val (.int (0 : Int32)), .val (.int (0 : Int32)), .val (.int (3 : Int32)), .unset, .unset, .unset, .unset, .unset]) rfl ?_
                    refine w_iloadN ok d7_177 rfl ?_
                    refine w_iload ok d7_178 rfl ?_
                    refine w_iload ok d7_180 rfl ?_
                    refine w_iadd ok d7_182 ?_
                    show W K l _ n0 _ h0 0 0 183 #[.val (.ref p), .val (.ref n), .val (.int (4 : Int32)), .val (.int (Int32.ofNat ns.length)), .val (.int (0 : Int32)), .val (.int (0 : Int32)), .val (.int (0 : Int32)), .val (.int (3 : Int32)), .unset, .unset, .unset, .unset, .unset] [(.int (3 : Int32)), (.int (Int32.ofNat ns.length))]
                    refine w_icmp_ge ok d7_183 (pc' := 188) (by decide) (fun hc923 => ?_) (fun hc923 => ?_)
                    · skip
                      have hge : 3 ≤ ns.length := by have q := hc923; rw [show (3 : Int32) = Int32.ofNat 3 from rfl, own_lt (by omega) (by omega)] at q; omega
                      refine w_aloadN ok d7_188 rfl rfl ?_
                      refine w_iconst ok d7_189 (v := (0 : Int32)) rfl ?_
                      refine w_iload ok d7_190 rfl ?_
                      refine w_aloadN ok d7_192 rfl rfl ?_
                      refine w_iconst ok d7_193 (v := (0 : Int32)) rfl ?_
                      refine w_callS ok (y := mn_9) (argsL := [(.ref p), (.int (0 : Int32)), (.int (0 : Int32)), (.ref n), (.int (0 : Int32))]) (rest := []) d7_194 (hw _ (List.mem_of_getElem? (i := 37) rfl)) (hw _ (List.mem_of_getElem? (i := 38) rfl)) (hw _ (List.mem_of_getElem? (i := 4) rfl)) (hw _ (List.mem_of_getElem? (i := 39) rfl)) (by decide) pd_285bBII5bBI29Z rfl rfl (by decide) (Nat.le_of_ble_eq_true rfl) (by decide) (by decide) (fun z0 => rm_seg l Z a0 hw [] n0 h0 z0 p n [x0, x1, x2, x3] ns A_p A_n 0 0 0 _ rfl (Nat.le_of_ble_eq_true rfl) (by decide) (by omega) (Nat.le_of_ble_eq_true rfl) ln) (fun v924 h925 qv924 => ?_)
                      obtain ⟨⟨rfl, sgp⟩ | ⟨rfl, sgp⟩, rfl⟩ := qv924
                      · skip
                        replace sgp : SGl [] ns 0 := sgp
                        show W K l _ n0 _ h0 0 0 197 #[.val (.ref p), .val (.ref n), .val (.int (4 : Int32)), .val (.int (Int32.ofNat ns.length)), .val (.int (0 : Int32)), .val (.int (0 : Int32)), .val (.int (0 : Int32)), .val (.int (3 : Int32)), .unset, .unset, .unset, .unset, .unset] [(.int (1 : Int32))]
                        refine w_if_ne ok d7_197 (pc' := 202) (by decide) (fun hc927 => ?_) (fun hc927 => False.elim (by revert hc927; decide))
                        refine w_aloadN ok d7_202 rfl rfl ?_
                        refine w_iload ok d7_203 rfl ?_
                        refine w_iconst ok d7_205 (v := (1 : Int32)) rfl ?_
                        refine w_iadd ok d7_206 ?_
                        show W K l _ n0 _ h0 0 0 207 #[.val (.ref p), .val (.ref n), .val (.int (4 : Int32)), .val (.int (Int32.ofNat ns.length)), .val (.int (0 : Int32)), .val (.int (0 : Int32)), .val (.int (0 : Int32)), .val (.int (3 : Int32)), .unset, .unset, .unset, .unset, .unset] [(.int (1 : Int32)), (.ref p)]
                        refine w_iload ok d7_207 rfl ?_
                        refine w_aloadN ok d7_209 rfl rfl ?_
                        refine w_iloadN ok d7_210 rfl ?_
                        refine w_iload ok d7_211 rfl ?_
                        refine w_isub ok d7_213 ?_
                        refine w_callS ok (y := mn_9) (argsL := [(.ref p), (.int (1 : Int32)), (.int (3 : Int32)), (.ref n), (.int ((Int32.ofNat ns.length) - (3 : Int32)))]) (rest := []) d7_214 (hw _ (List.mem_of_getElem? (i := 37) rfl)) (hw _ (List.mem_of_getElem? (i := 38) rfl)) (hw _ (List.mem_of_getElem? (i := 4) rfl)) (hw _ (List.mem_of_getElem? (i := 39) rfl)) (by decide) pd_285bBII5bBI29Z rfl rfl (by decide) (Nat.le_of_ble_eq_true rfl) (by decide) (by decide) (fun z0 => rm_seg l Z a0 hw [] n0 h0 z0 p n [x0, x1, x2, x3] ns A_p A_n 1 3 (ns.length - 3) _ (own_subk (k := 3) rfl (by omega) (by omega)) (Nat.le_of_ble_eq_true rfl) (by decide) (by omega) (Nat.le_of_ble_eq_true rfl) ln) (fun v928 h929 qv928 => ?_)
                        obtain ⟨⟨rfl, sgs⟩ | ⟨rfl, sgs⟩, rfl⟩ := qv928
                        · skip
                          replace sgs : SGl [x1, x2, x3] ns (ns.length - 3) := sgs
                          show W K l _ n0 _ h0 0 0 217 #[.val (.ref p), .val (.ref n), .val (.int (4 : Int32)), .val (.int (Int32.ofNat ns.length)), .val (.int (0 : Int32)), .val (.int (0 : Int32)), .val (.int (0 : Int32)), .val (.int (3 : Int32)), .unset, .unset, .unset, .unset, .unset] [(.int (1 : Int32))]
                          refine w_if_ne ok d7_217 (pc' := 222) (by decide) (fun hc931 => ?_) (fun hc931 => False.elim (by revert hc931; decide))
                          refine w_iload ok d7_222 rfl ?_
                          refine w_iload ok d7_224 rfl ?_
                          refine w_isub ok d7_226 ?_
                          show W K l _ n0 _ h0 0 0 227 #[.val (.ref p), .val (.ref n), .val (.int (4 : Int32)), .val (.int (Int32.ofNat ns.length)), .val (.int (0 : Int32)), .val (.int (0 : Int32)), .val (.int (0 : Int32)), .val (.int (3 : Int32)), .unset, .unset, .unset, .unset, .unset] [(.int (0 : Int32))]
                          refine w_iconst ok d7_227 (v := (1 : Int32)) rfl ?_
                          refine w_isub ok d7_228 ?_
                          show W K l _ n0 _ h0 0 0 229 #[.val (.ref p), .val (.ref n), .val (.int (4 : Int32)), .val (.int (Int32.ofNat ns.length)), .val (.int (0 : Int32)), .val (.int (0 : Int32)), .val (.int (0 : Int32)), .val (.int (3 : Int32)), .unset, .unset, .unset, .unset, .unset] [(.int (-1 : Int32))]
                          refine w_istore ok d7_229 (L' := #[.val (.ref p), .val (.ref n), .val (.int (4 : Int32)), .val (.int (Int32.ofNat ns.length)), .val (.int (0 : Int32)), .val (.int (0 : Int32)), .val (.int (0 : Int32)), .val (.int (3 : Int32)), .val (.int (-1 : Int32)), .unset, .unset, .unset, .unset]) rfl ?_
                          refine w_iload ok d7_231 rfl ?_
                          refine w_iconst ok d7_233 (v := (1 : Int32)) rfl ?_
                          refine w_iadd ok d7_234 ?_
                          show W K l _ n0 _ h0 0 0 235 #[.val (.ref p), .val (.ref n), .val (.int (4 : Int32)), .val (.int (Int32.ofNat ns.length)), .val (.int (0 : Int32)), .val (.int (0 : Int32)), .val (.int (0 : Int32)), .val (.int (3 : Int32)), .val (.int (-1 : Int32)), .unset, .unset, .unset, .unset] [(.int (1 : Int32))]
                          refine w_istore ok d7_235 (L' := #[.val (.ref p), .val (.ref n), .val (.int (4 : Int32)), .val (.int (Int32.ofNat ns.length)), .val (.int (0 : Int32)), .val (.int (0 : Int32)), .val (.int (0 : Int32)), .val (.int (3 : Int32)), .val (.int (-1 : Int32)), .val (.int (1 : Int32)), .unset, .unset, .unset]) rfl ?_
                          refine w_iconst ok d7_237 (v := (0 : Int32)) rfl ?_
                          refine w_istore ok d7_238 (L' := #[.val (.ref p), .val (.ref n), .val (.int (4 : Int32)), .val (.int (Int32.ofNat ns.length)), .val (.int (0 : Int32)), .val (.int (0 : Int32)), .val (.int (0 : Int32)), .val (.int (3 : Int32)), .val (.int (-1 : Int32)), .val (.int (1 : Int32)), .val (.int (0 : Int32)), .unset, .unset]) rfl ?_
                          refine w_iload ok d7_240 rfl ?_
                          refine w_iconst ok d7_242 (v := (1 : Int32)) rfl ?_
                          refine w_icmp_ne ok d7_243 (pc' := 263) (by decide) (fun hc933 => ?_) (fun hc933 => False.elim (by revert hc933; decide))
                          refine w_iload ok d7_263 rfl ?_
                          refine w_iconst ok d7_265 (v := (2 : Int32)) rfl ?_
                          refine w_icmp_ne ok d7_266 (pc' := 340) (by decide) (fun hc935 => ?_) (fun hc935 => False.elim (by revert hc935; decide))
                          refine w_iload ok d7_340 rfl ?_
                          refine w_if_ne ok d7_342 (pc' := 347) (by decide) (fun hc937 => False.elim (by revert hc937; decide)) (fun hc937 => ?_)
                          refine w_iconst ok d7_345 (v := (1 : Int32)) rfl ?_
                          refine w_bret ok (by simp) d7_346 (by decide) (by decide) ?_
                          subst s0
                          have key : Gi ns [42, x1, x2, x3] 0 ↔ _ := own_one (ns := ns) (P := []) (Q := [x1, x2, x3]) NoS_nil (NoS_cons s1 (NoS_cons s2 (NoS_cons s3 NoS_nil)))
                          exact ⟨Or.inl ⟨rfl, key.mpr ⟨hge, sgp, sgs⟩⟩, rfl⟩
                        · skip
                          replace sgs : ¬ (SGl [x1, x2, x3] ns (ns.length - 3)) := sgs
                          show W K l _ n0 _ h0 0 0 217 #[.val (.ref p), .val (.ref n), .val (.int (4 : Int32)), .val (.int (Int32.ofNat ns.length)), .val (.int (0 : Int32)), .val (.int (0 : Int32)), .val (.int (0 : Int32)), .val (.int (3 : Int32)), .unset, .unset, .unset, .unset, .unset] [(.int (0 : Int32))]
                          refine w_if_ne ok d7_217 (pc' := 222) (by decide) (fun hc939 => False.elim (by revert hc939; decide)) (fun hc939 => ?_)
                          refine w_iconst ok d7_220 (v := (0 : Int32)) rfl ?_
                          refine w_bret ok (by simp) d7_221 (by decide) (by decide) ?_
                          subst s0
                          have key : Gi ns [42, x1, x2, x3] 0 ↔ _ := own_one (ns := ns) (P := []) (Q := [x1, x2, x3]) NoS_nil (NoS_cons s1 (NoS_cons s2 (NoS_cons s3 NoS_nil)))
                          exact ⟨Or.inr ⟨rfl, fun q => sgs (key.mp q).2.2⟩, rfl⟩
                      · skip
                        replace sgp : ¬ (SGl [] ns 0) := sgp
                        show W K l _ n0 _ h0 0 0 197 #[.val (.ref p), .val (.ref n), .val (.int (4 : Int32)), .val (.int (Int32.ofNat ns.length)), .val (.int (0 : Int32)), .val (.int (0 : Int32)), .val (.int (0 : Int32)), .val (.int (3 : Int32)), .unset, .unset, .unset, .unset, .unset] [(.int (0 : Int32))]
                        refine w_if_ne ok d7_197 (pc' := 202) (by decide) (fun hc941 => False.elim (by revert hc941; decide)) (fun hc941 => ?_)
                        refine w_iconst ok d7_200 (v := (0 : Int32)) rfl ?_
                        refine w_bret ok (by simp) d7_201 (by decide) (by decide) ?_
                        subst s0
                        have key : Gi ns [42, x1, x2, x3] 0 ↔ _ := own_one (ns := ns) (P := []) (Q := [x1, x2, x3]) NoS_nil (NoS_cons s1 (NoS_cons s2 (NoS_cons s3 NoS_nil)))
                        exact ⟨Or.inr ⟨rfl, fun q => sgp (key.mp q).2.1⟩, rfl⟩
                    · skip
                      refine w_iconst ok d7_186 (v := (0 : Int32)) rfl ?_
                      refine w_bret ok (by simp) d7_187 (by decide) (by decide) ?_
                      subst s0
                      have key : Gi ns [42, x1, x2, x3] 0 ↔ _ := own_one (ns := ns) (P := []) (Q := [x1, x2, x3]) NoS_nil (NoS_cons s1 (NoS_cons s2 (NoS_cons s3 NoS_nil)))
                      refine ⟨Or.inr ⟨rfl, fun q => ?_⟩, rfl⟩
                      have q1 : 0 + 3 ≤ ns.length := (key.mp q).1
                      have q2 := hc923; rw [show (3 : Int32) = Int32.ofNat 3 from rfl, own_lt (by omega) (by omega)] at q2; omega
            · exact absurd s0 t898
          · skip
            replace s0 : ¬ (x0 = 42) := s0
            show W K l _ n0 _ h0 0 0 66 #[.val (.ref p), .val (.ref n), .val (.int (4 : Int32)), .val (.int (Int32.ofNat ns.length)), .val (.int (-1 : Int32)), .unset, .unset, .unset, .unset, .unset, .unset, .unset, .unset] [(.int (0 : Int32))]
            refine w_if_eq ok d7_66 (pc' := 72) (by decide) (fun hc943 => ?_) (fun hc943 => False.elim (by revert hc943; decide))
            refine w_iload ok d7_72 rfl ?_
            refine w_if_ge ok d7_74 (pc' := 99) (by decide) (fun hc945 => False.elim (by revert hc945; decide)) (fun hc945 => ?_)
            refine w_iloadN ok d7_77 rfl ?_
            refine w_iloadN ok d7_78 rfl ?_
            refine w_icmp_ne ok d7_79 (pc' := 97) (by decide) (fun hc947 => ?_) (fun hc947 => ?_)
            · skip
              refine w_iconst ok d7_97 (v := (0 : Int32)) rfl ?_
              refine w_bret ok (by simp) d7_98 (by decide) (by decide) ?_
              refine ⟨Or.inr ⟨rfl, fun q => ?_⟩, rfl⟩
              have q1 := ((Gi_all (NoS_cons s0 (NoS_cons s1 (NoS_cons s2 (NoS_cons s3 NoS_nil))))).mp q).1
              exact hc947 (show Int32.ofNat ns.length = Int32.ofNat 4 by rw [← q1]; rfl)
            · skip
              refine w_aloadN ok d7_82 rfl rfl ?_
              refine w_iconst ok d7_83 (v := (0 : Int32)) rfl ?_
              refine w_iloadN ok d7_84 rfl ?_
              refine w_aloadN ok d7_85 rfl rfl ?_
              refine w_iconst ok d7_86 (v := (0 : Int32)) rfl ?_
              refine w_callS ok (y := mn_9) (argsL := [(.ref p), (.int (0 : Int32)), (.int (4 : Int32)), (.ref n), (.int (0 : Int32))]) (rest := []) d7_87 (hw _ (List.mem_of_getElem? (i := 37) rfl)) (hw _ (List.mem_of_getElem? (i := 38) rfl)) (hw _ (List.mem_of_getElem? (i := 4) rfl)) (hw _ (List.mem_of_getElem? (i := 39) rfl)) (by decide) pd_285bBII5bBI29Z rfl rfl (by decide) (Nat.le_of_ble_eq_true rfl) (by decide) (by decide) (fun z0 => rm_seg l Z a0 hw [] n0 h0 z0 p n [x0, x1, x2, x3] ns A_p A_n 0 4 0 _ rfl (Nat.le_of_ble_eq_true rfl) (by decide) (by omega) (Nat.le_of_ble_eq_true rfl) ln) (fun v948 h949 qv948 => ?_)
              obtain ⟨⟨rfl, sga⟩ | ⟨rfl, sga⟩, rfl⟩ := qv948
              · skip
                replace sga : SGl [x0, x1, x2, x3] ns 0 := sga
                show W K l _ n0 _ h0 0 0 90 #[.val (.ref p), .val (.ref n), .val (.int (4 : Int32)), .val (.int (Int32.ofNat ns.length)), .val (.int (-1 : Int32)), .unset, .unset, .unset, .unset, .unset, .unset, .unset, .unset] [(.int (1 : Int32))]
                refine w_if_eq ok d7_90 (pc' := 97) (by decide) (fun hc951 => False.elim (by revert hc951; decide)) (fun hc951 => ?_)
                refine w_iconst ok d7_93 (v := (1 : Int32)) rfl ?_
                refine w_goto ok d7_94 (pc' := 98) (by decide) ?_
                refine w_bret ok (by simp) d7_98 (by decide) (by decide) ?_
                have hl : ns.length = 4 := (own_eqn (by omega) (by decide)).mp (show Int32.ofNat ns.length = Int32.ofNat 4 from hc947)
                exact ⟨Or.inl ⟨rfl, (Gi_all (NoS_cons s0 (NoS_cons s1 (NoS_cons s2 (NoS_cons s3 NoS_nil))))).mpr ⟨by rw [hl]; rfl, sga⟩⟩, rfl⟩
              · skip
                replace sga : ¬ (SGl [x0, x1, x2, x3] ns 0) := sga
                show W K l _ n0 _ h0 0 0 90 #[.val (.ref p), .val (.ref n), .val (.int (4 : Int32)), .val (.int (Int32.ofNat ns.length)), .val (.int (-1 : Int32)), .unset, .unset, .unset, .unset, .unset, .unset, .unset, .unset] [(.int (0 : Int32))]
                refine w_if_eq ok d7_90 (pc' := 97) (by decide) (fun hc953 => ?_) (fun hc953 => False.elim (by revert hc953; decide))
                refine w_iconst ok d7_97 (v := (0 : Int32)) rfl ?_
                refine w_bret ok (by simp) d7_98 (by decide) (by decide) ?_
                exact ⟨Or.inr ⟨rfl, fun q => sga ((Gi_all (NoS_cons s0 (NoS_cons s1 (NoS_cons s2 (NoS_cons s3 NoS_nil))))).mp q).2⟩, rfl⟩
theorem d6_0 : decode prog_79_method_2_code 0 = .ok (.iconst 0, 1) := by decide +kernel
theorem d6_1 : decode prog_79_method_2_code 1 = .ok (.istore_n 2, 1) := by decide +kernel
theorem d6_2 : decode prog_79_method_2_code 2 = .ok (.iconst 0, 1) := by decide +kernel
theorem d6_3 : decode prog_79_method_2_code 3 = .ok (.istore_n 3, 1) := by decide +kernel
theorem d6_4 : decode prog_79_method_2_code 4 = .ok (.iconst (-1), 1) := by decide +kernel
theorem d6_5 : decode prog_79_method_2_code 5 = .ok (.istore 4, 2) := by decide +kernel
theorem d6_7 : decode prog_79_method_2_code 7 = .ok (.iconst 0, 1) := by decide +kernel
theorem d6_8 : decode prog_79_method_2_code 8 = .ok (.istore 5, 2) := by decide +kernel
theorem d6_10 : decode prog_79_method_2_code 10 = .ok (.iload_n 3, 1) := by decide +kernel
theorem d6_11 : decode prog_79_method_2_code 11 = .ok (.aload_n 1, 1) := by decide +kernel
theorem d6_12 : decode prog_79_method_2_code 12 = .ok (.arraylength, 1) := by decide +kernel
theorem d6_13 : decode prog_79_method_2_code 13 = .ok (.if_icmp .ge 97, 3) := by decide +kernel
theorem d6_16 : decode prog_79_method_2_code 16 = .ok (.iload_n 2, 1) := by decide +kernel
theorem d6_17 : decode prog_79_method_2_code 17 = .ok (.aload_n 0, 1) := by decide +kernel
theorem d6_18 : decode prog_79_method_2_code 18 = .ok (.getfield 7, 3) := by decide +kernel
theorem d6_21 : decode prog_79_method_2_code 21 = .ok (.arraylength, 1) := by decide +kernel
theorem d6_22 : decode prog_79_method_2_code 22 = .ok (.if_icmp .ge 26, 3) := by decide +kernel
theorem d6_25 : decode prog_79_method_2_code 25 = .ok (.aload_n 0, 1) := by decide +kernel
theorem d6_26 : decode prog_79_method_2_code 26 = .ok (.getfield 7, 3) := by decide +kernel
theorem d6_29 : decode prog_79_method_2_code 29 = .ok (.iload_n 2, 1) := by decide +kernel
theorem d6_30 : decode prog_79_method_2_code 30 = .ok (.baload, 1) := by decide +kernel
theorem d6_31 : decode prog_79_method_2_code 31 = .ok (.bipush 42, 2) := by decide +kernel
theorem d6_33 : decode prog_79_method_2_code 33 = .ok (.if_icmp .ne 15, 3) := by decide +kernel
theorem d6_36 : decode prog_79_method_2_code 36 = .ok (.iload_n 2, 1) := by decide +kernel
theorem d6_37 : decode prog_79_method_2_code 37 = .ok (.iinc 2 1, 3) := by decide +kernel
theorem d6_40 : decode prog_79_method_2_code 40 = .ok (.istore 4, 2) := by decide +kernel
theorem d6_42 : decode prog_79_method_2_code 42 = .ok (.iload_n 3, 1) := by decide +kernel
theorem d6_43 : decode prog_79_method_2_code 43 = .ok (.istore 5, 2) := by decide +kernel
theorem d6_45 : decode prog_79_method_2_code 45 = .ok (.goto (-35), 3) := by decide +kernel
theorem d6_48 : decode prog_79_method_2_code 48 = .ok (.iload_n 2, 1) := by decide +kernel
theorem d6_49 : decode prog_79_method_2_code 49 = .ok (.aload_n 0, 1) := by decide +kernel
theorem d6_50 : decode prog_79_method_2_code 50 = .ok (.getfield 7, 3) := by decide +kernel
theorem d6_53 : decode prog_79_method_2_code 53 = .ok (.arraylength, 1) := by decide +kernel
theorem d6_54 : decode prog_79_method_2_code 54 = .ok (.if_icmp .ge 35, 3) := by decide +kernel
theorem d6_57 : decode prog_79_method_2_code 57 = .ok (.aload_n 0, 1) := by decide +kernel
theorem d6_58 : decode prog_79_method_2_code 58 = .ok (.getfield 7, 3) := by decide +kernel
theorem d6_61 : decode prog_79_method_2_code 61 = .ok (.iload_n 2, 1) := by decide +kernel
theorem d6_62 : decode prog_79_method_2_code 62 = .ok (.baload, 1) := by decide +kernel
theorem d6_63 : decode prog_79_method_2_code 63 = .ok (.bipush 63, 2) := by decide +kernel
theorem d6_65 : decode prog_79_method_2_code 65 = .ok (.if_icmp .eq 15, 3) := by decide +kernel
theorem d6_68 : decode prog_79_method_2_code 68 = .ok (.aload_n 0, 1) := by decide +kernel
theorem d6_69 : decode prog_79_method_2_code 69 = .ok (.getfield 7, 3) := by decide +kernel
theorem d6_72 : decode prog_79_method_2_code 72 = .ok (.iload_n 2, 1) := by decide +kernel
theorem d6_73 : decode prog_79_method_2_code 73 = .ok (.baload, 1) := by decide +kernel
theorem d6_74 : decode prog_79_method_2_code 74 = .ok (.aload_n 1, 1) := by decide +kernel
theorem d6_75 : decode prog_79_method_2_code 75 = .ok (.iload_n 3, 1) := by decide +kernel
theorem d6_76 : decode prog_79_method_2_code 76 = .ok (.baload, 1) := by decide +kernel
theorem d6_77 : decode prog_79_method_2_code 77 = .ok (.if_icmp .ne 12, 3) := by decide +kernel
theorem d6_80 : decode prog_79_method_2_code 80 = .ok (.iinc 2 1, 3) := by decide +kernel
theorem d6_83 : decode prog_79_method_2_code 83 = .ok (.iinc 3 1, 3) := by decide +kernel
theorem d6_86 : decode prog_79_method_2_code 86 = .ok (.goto (-76), 3) := by decide +kernel
theorem d6_89 : decode prog_79_method_2_code 89 = .ok (.iload 4, 2) := by decide +kernel
theorem d6_91 : decode prog_79_method_2_code 91 = .ok (.ifCond .lt 17, 3) := by decide +kernel
theorem d6_94 : decode prog_79_method_2_code 94 = .ok (.iload 4, 2) := by decide +kernel
theorem d6_96 : decode prog_79_method_2_code 96 = .ok (.iconst 1, 1) := by decide +kernel
theorem d6_97 : decode prog_79_method_2_code 97 = .ok (.iadd, 1) := by decide +kernel
theorem d6_98 : decode prog_79_method_2_code 98 = .ok (.istore_n 2, 1) := by decide +kernel
theorem d6_99 : decode prog_79_method_2_code 99 = .ok (.iinc 5 1, 3) := by decide +kernel
theorem d6_102 : decode prog_79_method_2_code 102 = .ok (.iload 5, 2) := by decide +kernel
theorem d6_104 : decode prog_79_method_2_code 104 = .ok (.istore_n 3, 1) := by decide +kernel
theorem d6_105 : decode prog_79_method_2_code 105 = .ok (.goto (-95), 3) := by decide +kernel
theorem d6_108 : decode prog_79_method_2_code 108 = .ok (.iconst 0, 1) := by decide +kernel
theorem d6_109 : decode prog_79_method_2_code 109 = .ok (.ireturn, 1) := by decide +kernel
theorem d6_110 : decode prog_79_method_2_code 110 = .ok (.iload_n 2, 1) := by decide +kernel
theorem d6_111 : decode prog_79_method_2_code 111 = .ok (.aload_n 0, 1) := by decide +kernel
theorem d6_112 : decode prog_79_method_2_code 112 = .ok (.getfield 7, 3) := by decide +kernel
theorem d6_115 : decode prog_79_method_2_code 115 = .ok (.arraylength, 1) := by decide +kernel
theorem d6_116 : decode prog_79_method_2_code 116 = .ok (.if_icmp .ge 20, 3) := by decide +kernel
theorem d6_119 : decode prog_79_method_2_code 119 = .ok (.aload_n 0, 1) := by decide +kernel
theorem d6_120 : decode prog_79_method_2_code 120 = .ok (.getfield 7, 3) := by decide +kernel
theorem d6_123 : decode prog_79_method_2_code 123 = .ok (.iload_n 2, 1) := by decide +kernel
theorem d6_124 : decode prog_79_method_2_code 124 = .ok (.baload, 1) := by decide +kernel
theorem d6_125 : decode prog_79_method_2_code 125 = .ok (.bipush 42, 2) := by decide +kernel
theorem d6_127 : decode prog_79_method_2_code 127 = .ok (.if_icmp .ne 9, 3) := by decide +kernel
theorem d6_130 : decode prog_79_method_2_code 130 = .ok (.iinc 2 1, 3) := by decide +kernel
theorem d6_133 : decode prog_79_method_2_code 133 = .ok (.goto (-23), 3) := by decide +kernel
theorem d6_136 : decode prog_79_method_2_code 136 = .ok (.iload_n 2, 1) := by decide +kernel
theorem d6_137 : decode prog_79_method_2_code 137 = .ok (.aload_n 0, 1) := by decide +kernel
theorem d6_138 : decode prog_79_method_2_code 138 = .ok (.getfield 7, 3) := by decide +kernel
theorem d6_141 : decode prog_79_method_2_code 141 = .ok (.arraylength, 1) := by decide +kernel
theorem d6_142 : decode prog_79_method_2_code 142 = .ok (.if_icmp .ne 7, 3) := by decide +kernel
theorem d6_145 : decode prog_79_method_2_code 145 = .ok (.iconst 1, 1) := by decide +kernel
theorem d6_146 : decode prog_79_method_2_code 146 = .ok (.goto 4, 3) := by decide +kernel
theorem d6_149 : decode prog_79_method_2_code 149 = .ok (.iconst 0, 1) := by decide +kernel
theorem d6_150 : decode prog_79_method_2_code 150 = .ok (.ireturn, 1) := by decide +kernel
theorem pn_com_example_turnstile_turnstile_server_Glob : plainName "com/example/turnstile/turnstile/server/Glob" = true := by first | (simp [plainName, overriddenIn]; done) | decide +kernel
set_option maxRecDepth 65536 in
set_option maxHeartbeats 40000000 in
theorem lp110 (l : Launch) (Z : State) (a0 : Array Value) (hw : ∀ d ∈ tables_1, d.before a0 Z = true) (n0 : Nat) (h0 : Heap) (K : Cx) (ok : Ok K Z n0 "com/example/turnstile/turnstile/server/Glob" prog_79_method_2_code 6 (some .boolean) "matches") (g p n : Addr) (ps ns : List Int32) (A_g : Ob Z h0 g "com/example/turnstile/turnstile/server/Glob" fl_Glob [.ref p]) (A_p : PA .byte Z h0 p (bys ps)) (A_n : PA .byte Z h0 n (bys ns)) (lp : ps.length ≤ 4) (ln : ns.length ≤ 5) :
    ∀ (c i : Nat) (b3 b4 b5 : Int32), i + c = ps.length → (Gi ns ps 0 ↔ Gi ns (ps.drop i) ns.length) → W K l ({ frames := 0, cells := 0, slots := 0, locals := 0 } : Room) n0 (fun u h => Ans u (Gi ns ps 0) ∧ h0 = h) h0 0 0 110 #[.val (.ref g), .val (.ref n), .val (.int (Int32.ofNat i)), .val (.int b3), .val (.int b4), .val (.int b5)] [] := by
  intro c
  induction c with
  | zero =>
    intro i b3 b4 b5 hi hg
    show W K l _ n0 _ h0 0 0 110 #[.val (.ref g), .val (.ref n), .val (.int (Int32.ofNat i)), .val (.int b3), .val (.int b4), .val (.int b5)] []
    refine w_iloadN ok d6_110 rfl ?_
    refine w_aloadN ok d6_111 rfl rfl ?_
    refine w_getfield ok (v := (.ref p)) (host := "") (f := ("com/example/turnstile/turnstile/server/Glob", "pattern", "[B", (.array .byte))) 0 d6_112 (Or.inl (hw _ (List.mem_of_getElem? (i := 24) rfl))) Via.refl A_g rfl rfl ?_
    refine w_arraylength ok (z := Int32.ofNat ps.length) d6_115 A_p (own_len (by omega)) (own_ix0 (by omega)) ?_
    show W K l _ n0 _ h0 0 0 116 #[.val (.ref g), .val (.ref n), .val (.int (Int32.ofNat i)), .val (.int b3), .val (.int b4), .val (.int b5)] [(.int (Int32.ofNat ps.length)), (.int (Int32.ofNat i))]
    refine w_icmp_ge ok d6_116 (pc' := 136) (by decide) (fun hc1 => ?_) (fun hc1 => False.elim (by rw [own_lt (by omega) (by omega)] at hc1; omega))
    refine w_iloadN ok d6_136 rfl ?_
    refine w_aloadN ok d6_137 rfl rfl ?_
    refine w_getfield ok (v := (.ref p)) (host := "") (f := ("com/example/turnstile/turnstile/server/Glob", "pattern", "[B", (.array .byte))) 0 d6_138 (Or.inl (hw _ (List.mem_of_getElem? (i := 24) rfl))) Via.refl A_g rfl rfl ?_
    refine w_arraylength ok (z := Int32.ofNat ps.length) d6_141 A_p (own_len (by omega)) (own_ix0 (by omega)) ?_
    show W K l _ n0 _ h0 0 0 142 #[.val (.ref g), .val (.ref n), .val (.int (Int32.ofNat i)), .val (.int b3), .val (.int b4), .val (.int b5)] [(.int (Int32.ofNat ps.length)), (.int (Int32.ofNat i))]
    refine w_icmp_ne ok d6_142 (pc' := 149) (by decide) (fun hc3 => False.elim (by exact hc3 (by rw [show i = ps.length by omega]))) (fun hc3 => ?_)
    refine w_iconst ok d6_145 (v := (1 : Int32)) rfl ?_
    refine w_goto ok d6_146 (pc' := 150) (by decide) ?_
    refine w_bret ok (by simp) d6_150 (by decide) (by decide) ?_
    exact ⟨Or.inl ⟨rfl, hg.mpr (end_nil (by omega))⟩, rfl⟩
  | succ c ih =>
    intro i b3 b4 b5 hi hg
    show W K l _ n0 _ h0 0 0 110 #[.val (.ref g), .val (.ref n), .val (.int (Int32.ofNat i)), .val (.int b3), .val (.int b4), .val (.int b5)] []
    refine w_iloadN ok d6_110 rfl ?_
    refine w_aloadN ok d6_111 rfl rfl ?_
    refine w_getfield ok (v := (.ref p)) (host := "") (f := ("com/example/turnstile/turnstile/server/Glob", "pattern", "[B", (.array .byte))) 0 d6_112 (Or.inl (hw _ (List.mem_of_getElem? (i := 24) rfl))) Via.refl A_g rfl rfl ?_
    refine w_arraylength ok (z := Int32.ofNat ps.length) d6_115 A_p (own_len (by omega)) (own_ix0 (by omega)) ?_
    show W K l _ n0 _ h0 0 0 116 #[.val (.ref g), .val (.ref n), .val (.int (Int32.ofNat i)), .val (.int b3), .val (.int b4), .val (.int b5)] [(.int (Int32.ofNat ps.length)), (.int (Int32.ofNat i))]
    refine w_icmp_ge ok d6_116 (pc' := 136) (by decide) (fun hc5 => False.elim (by exact hc5 ((own_lt (by omega) (by omega)).mpr (by omega)))) (fun hc5 => ?_)
    refine w_aloadN ok d6_119 rfl rfl ?_
    refine w_getfield ok (v := (.ref p)) (host := "") (f := ("com/example/turnstile/turnstile/server/Glob", "pattern", "[B", (.array .byte))) 0 d6_120 (Or.inl (hw _ (List.mem_of_getElem? (i := 24) rfl))) Via.refl A_g rfl rfl ?_
    refine w_iloadN ok d6_123 rfl ?_
    refine w_baload ok (v := (.int (ps.getD i 0))) d6_124 A_p (own_ix0 (by omega)) (own_rdx (by omega) (by omega)) ?_
    refine w_bipush ok d6_125 (v := (42 : Int32)) rfl ?_
    refine w_icmp_ne ok d6_127 (pc' := 136) (by decide) (fun hc7 => ?_) (fun hc7 => ?_)
    · skip
      refine w_iloadN ok d6_136 rfl ?_
      refine w_aloadN ok d6_137 rfl rfl ?_
      refine w_getfield ok (v := (.ref p)) (host := "") (f := ("com/example/turnstile/turnstile/server/Glob", "pattern", "[B", (.array .byte))) 0 d6_138 (Or.inl (hw _ (List.mem_of_getElem? (i := 24) rfl))) Via.refl A_g rfl rfl ?_
      refine w_arraylength ok (z := Int32.ofNat ps.length) d6_141 A_p (own_len (by omega)) (own_ix0 (by omega)) ?_
      show W K l _ n0 _ h0 0 0 142 #[.val (.ref g), .val (.ref n), .val (.int (Int32.ofNat i)), .val (.int b3), .val (.int b4), .val (.int b5)] [(.int (Int32.ofNat ps.length)), (.int (Int32.ofNat i))]
      refine w_icmp_ne ok d6_142 (pc' := 149) (by decide) (fun hc9 => ?_) (fun hc9 => False.elim (by exact absurd ((own_eqn (by omega) (by omega)).mp hc9) (by omega)))
      refine w_iconst ok d6_149 (v := (0 : Int32)) rfl ?_
      refine w_bret ok (by simp) d6_150 (by decide) (by decide) ?_
      exact ⟨Or.inr ⟨rfl, fun q => end_ne (by omega) hc7 (hg.mp q)⟩, rfl⟩
    · skip
      refine w_iinc ok d6_130 (u := (1 : Int32)) rfl rfl (L' := #[.val (.ref g), .val (.ref n), .val (.int ((Int32.ofNat i) + (1 : Int32))), .val (.int b3), .val (.int b4), .val (.int b5)]) rfl ?_
      show W K l _ n0 _ h0 0 0 133 #[.val (.ref g), .val (.ref n), .val (.int ((Int32.ofNat i) + (1 : Int32))), .val (.int b3), .val (.int b4), .val (.int b5)] []
      refine w_goto ok d6_133 (pc' := 110) (by decide) ?_
      show W K l _ n0 _ h0 0 0 110 #[.val (.ref g), .val (.ref n), .val (.int ((Int32.ofNat i) + (1 : Int32))), .val (.int b3), .val (.int b4), .val (.int b5)] []
      rw [own_addk (s := i) (c := (1 : Int32)) (k := 1) rfl (by omega)]
      exact ih (i + 1) b3 b4 b5 (by omega) (hg.trans (end_star (by omega) hc7))
theorem own_m1 {a b c l1 se i k : Nat} (hc : (a + 1 - l1) * 36 + (b - se) * 6 + (b - k) ≤ c + 1) (q : l1 ≤ i) (hi : i < a) (q4 : se ≤ k) (q3 : k ≤ b) : (a + 1 - (i + 1)) * 36 + (b - k) * 6 + (b - k) ≤ c := by omega
set_option maxRecDepth 65536 in
set_option maxHeartbeats 40000000 in
theorem lp10 (l : Launch) (Z : State) (a0 : Array Value) (hw : ∀ d ∈ tables_1, d.before a0 Z = true) (n0 : Nat) (h0 : Heap) (K : Cx) (ok : Ok K Z n0 "com/example/turnstile/turnstile/server/Glob" prog_79_method_2_code 6 (some .boolean) "matches") (g p n : Addr) (ps ns : List Int32) (A_g : Ob Z h0 g "com/example/turnstile/turnstile/server/Glob" fl_Glob [.ref p]) (A_p : PA .byte Z h0 p (bys ps)) (A_n : PA .byte Z h0 n (bys ns)) (lp : ps.length ≤ 4) (ln : ns.length ≤ 5) :
    ∀ (c i k l1 se : Nat) (ls : Int32), (ps.length + 1 - l1) * 36 + (ns.length - se) * 6 + (ns.length - k) ≤ c → GInv ns ps i k l1 se → ls + 1 = Int32.ofNat l1 → (ls < 0 ↔ l1 = 0) → W K l ({ frames := 0, cells := 0, slots := 0, locals := 0 } : Room) n0 (fun u h => Ans u (Gi ns ps 0) ∧ h0 = h) h0 0 0 10 #[.val (.ref g), .val (.ref n), .val (.int (Int32.ofNat i)), .val (.int (Int32.ofNat k)), .val (.int ls), .val (.int (Int32.ofNat se))] [] := by
  intro c
  induction c with
  | zero =>
    intro i k l1 se ls hc I0 h1 h2
    have q1 := I0.hp; have q2 := I0.hl; omega
  | succ c ih =>
    intro i k l1 se ls hc I0 h1 h2
    have q1 := I0.hp; have q2 := I0.hl; have q3 := I0.hn; have q4 := I0.hs
    show W K l _ n0 _ h0 0 0 10 #[.val (.ref g), .val (.ref n), .val (.int (Int32.ofNat i)), .val (.int (Int32.ofNat k)), .val (.int ls), .val (.int (Int32.ofNat se))] []
    refine w_iloadN ok d6_10 rfl ?_
    refine w_aloadN ok d6_11 rfl rfl ?_
    refine w_arraylength ok (z := Int32.ofNat ns.length) d6_12 A_n (own_len (by omega)) (own_ix0 (by omega)) ?_
    show W K l _ n0 _ h0 0 0 13 #[.val (.ref g), .val (.ref n), .val (.int (Int32.ofNat i)), .val (.int (Int32.ofNat k)), .val (.int ls), .val (.int (Int32.ofNat se))] [(.int (Int32.ofNat ns.length)), (.int (Int32.ofNat k))]
    refine w_icmp_ge ok d6_13 (pc' := 110) (by decide) (fun hc1 => ?_) (fun hc1 => ?_)
    · skip
      exact lp110 l Z a0 hw n0 h0 K ok g p n ps ns A_g A_p A_n lp ln (ps.length - i) i _ _ _ (by omega) (I0.fin (fun q => hc1 ((own_lt (by omega) (by omega)).mpr q)))
    · skip
      have hk : k < ns.length := (own_lt (by omega) (by omega)).mp hc1
      refine w_iloadN ok d6_16 rfl ?_
      refine w_aloadN ok d6_17 rfl rfl ?_
      refine w_getfield ok (v := (.ref p)) (host := "") (f := ("com/example/turnstile/turnstile/server/Glob", "pattern", "[B", (.array .byte))) 0 d6_18 (Or.inl (hw _ (List.mem_of_getElem? (i := 24) rfl))) Via.refl A_g rfl rfl ?_
      refine w_arraylength ok (z := Int32.ofNat ps.length) d6_21 A_p (own_len (by omega)) (own_ix0 (by omega)) ?_
      show W K l _ n0 _ h0 0 0 22 #[.val (.ref g), .val (.ref n), .val (.int (Int32.ofNat i)), .val (.int (Int32.ofNat k)), .val (.int ls), .val (.int (Int32.ofNat se))] [(.int (Int32.ofNat ps.length)), (.int (Int32.ofNat i))]
      refine w_icmp_ge ok d6_22 (pc' := 48) (by decide) (fun hc3 => ?_) (fun hc3 => ?_)
      · skip
        refine w_iloadN ok d6_48 rfl ?_
        refine w_aloadN ok d6_49 rfl rfl ?_
        refine w_getfield ok (v := (.ref p)) (host := "") (f := ("com/example/turnstile/turnstile/server/Glob", "pattern", "[B", (.array .byte))) 0 d6_50 (Or.inl (hw _ (List.mem_of_getElem? (i := 24) rfl))) Via.refl A_g rfl rfl ?_
        refine w_arraylength ok (z := Int32.ofNat ps.length) d6_53 A_p (own_len (by omega)) (own_ix0 (by omega)) ?_
        show W K l _ n0 _ h0 0 0 54 #[.val (.ref g), .val (.ref n), .val (.int (Int32.ofNat i)), .val (.int (Int32.ofNat k)), .val (.int ls), .val (.int (Int32.ofNat se))] [(.int (Int32.ofNat ps.length)), (.int (Int32.ofNat i))]
        refine w_icmp_ge ok d6_54 (pc' := 89) (by decide) (fun hc5 => ?_) (fun hc5 => False.elim (by exact hc3 hc5))
        have bad := bad_nil (ns := ns) (ps := ps) (p := i) (n := k) (fun q => hc3 ((own_lt (by omega) (by omega)).mpr q)) hk
        refine w_iload ok d6_89 rfl ?_
        refine w_if_lt ok d6_91 (pc' := 108) (by decide) (fun hc7 => ?_) (fun hc7 => ?_)
        · skip
          refine w_iconst ok d6_108 (v := (0 : Int32)) rfl ?_
          refine w_bret ok (by simp) d6_109 (by decide) (by decide) ?_
          have l0 : l1 = 0 := h2.mp hc7
          subst l0
          exact ⟨Or.inr ⟨rfl, I0.fail bad⟩, rfl⟩
        · skip
          refine w_iload ok d6_94 rfl ?_
          refine w_iconst ok d6_96 (v := (1 : Int32)) rfl ?_
          refine w_iadd ok d6_97 ?_
          refine w_istoreN ok d6_98 (L' := #[.val (.ref g), .val (.ref n), .val (.int (ls + (1 : Int32))), .val (.int (Int32.ofNat k)), .val (.int ls), .val (.int (Int32.ofNat se))]) rfl ?_
          refine w_iinc ok d6_99 (u := (1 : Int32)) rfl rfl (L' := #[.val (.ref g), .val (.ref n), .val (.int (ls + (1 : Int32))), .val (.int (Int32.ofNat k)), .val (.int ls), .val (.int ((Int32.ofNat se) + (1 : Int32)))]) rfl ?_
          show W K l _ n0 _ h0 0 0 102 #[.val (.ref g), .val (.ref n), .val (.int (ls + (1 : Int32))), .val (.int (Int32.ofNat k)), .val (.int ls), .val (.int ((Int32.ofNat se) + (1 : Int32)))] []
          refine w_iload ok d6_102 rfl ?_
          refine w_istoreN ok d6_104 (L' := #[.val (.ref g), .val (.ref n), .val (.int (ls + (1 : Int32))), .val (.int ((Int32.ofNat se) + (1 : Int32))), .val (.int ls), .val (.int ((Int32.ofNat se) + (1 : Int32)))]) rfl ?_
          refine w_goto ok d6_105 (pc' := 10) (by decide) ?_
          show W K l _ n0 _ h0 0 0 10 #[.val (.ref g), .val (.ref n), .val (.int (ls + (1 : Int32))), .val (.int ((Int32.ofNat se) + (1 : Int32))), .val (.int ls), .val (.int ((Int32.ofNat se) + (1 : Int32)))] []
          have l0 : 0 < l1 := Nat.pos_of_ne_zero (fun q => hc7 (h2.mpr q))
          rw [h1]
          rw [own_addk (s := se) (c := (1 : Int32)) (k := 1) rfl (by omega)]
          exact ih l1 (se + 1) l1 (se + 1) ls (by omega) (I0.back hk bad l0) h1 h2
      · skip
        have hi : i < ps.length := (own_lt (by omega) (by omega)).mp hc3
        refine w_aloadN ok d6_25 rfl rfl ?_
        refine w_getfield ok (v := (.ref p)) (host := "") (f := ("com/example/turnstile/turnstile/server/Glob", "pattern", "[B", (.array .byte))) 0 d6_26 (Or.inl (hw _ (List.mem_of_getElem? (i := 24) rfl))) Via.refl A_g rfl rfl ?_
        refine w_iloadN ok d6_29 rfl ?_
        refine w_baload ok (v := (.int (ps.getD i 0))) d6_30 A_p (own_ix0 (by omega)) (own_rdx (by omega) (by omega)) ?_
        refine w_bipush ok d6_31 (v := (42 : Int32)) rfl ?_
        refine w_icmp_ne ok d6_33 (pc' := 48) (by decide) (fun hc9 => ?_) (fun hc9 => ?_)
        · skip
          refine w_iloadN ok d6_48 rfl ?_
          refine w_aloadN ok d6_49 rfl rfl ?_
          refine w_getfield ok (v := (.ref p)) (host := "") (f := ("com/example/turnstile/turnstile/server/Glob", "pattern", "[B", (.array .byte))) 0 d6_50 (Or.inl (hw _ (List.mem_of_getElem? (i := 24) rfl))) Via.refl A_g rfl rfl ?_
          refine w_arraylength ok (z := Int32.ofNat ps.length) d6_53 A_p (own_len (by omega)) (own_ix0 (by omega)) ?_
          show W K l _ n0 _ h0 0 0 54 #[.val (.ref g), .val (.ref n), .val (.int (Int32.ofNat i)), .val (.int (Int32.ofNat k)), .val (.int ls), .val (.int (Int32.ofNat se))] [(.int (Int32.ofNat ps.length)), (.int (Int32.ofNat i))]
          refine w_icmp_ge ok d6_54 (pc' := 89) (by decide) (fun hc11 => False.elim (by exact hc11 hc3)) (fun hc11 => ?_)
          refine w_aloadN ok d6_57 rfl rfl ?_
          refine w_getfield ok (v := (.ref p)) (host := "") (f := ("com/example/turnstile/turnstile/server/Glob", "pattern", "[B", (.array .byte))) 0 d6_58 (Or.inl (hw _ (List.mem_of_getElem? (i := 24) rfl))) Via.refl A_g rfl rfl ?_
          refine w_iloadN ok d6_61 rfl ?_
          refine w_baload ok (v := (.int (ps.getD i 0))) d6_62 A_p (own_ix0 (by omega)) (own_rdx (by omega) (by omega)) ?_
          refine w_bipush ok d6_63 (v := (63 : Int32)) rfl ?_
          refine w_icmp_eq ok d6_65 (pc' := 80) (by decide) (fun hc13 => ?_) (fun hc13 => ?_)
          · skip
            refine w_iinc ok d6_80 (u := (1 : Int32)) rfl rfl (L' := #[.val (.ref g), .val (.ref n), .val (.int ((Int32.ofNat i) + (1 : Int32))), .val (.int (Int32.ofNat k)), .val (.int ls), .val (.int (Int32.ofNat se))]) rfl ?_
            show W K l _ n0 _ h0 0 0 83 #[.val (.ref g), .val (.ref n), .val (.int ((Int32.ofNat i) + (1 : Int32))), .val (.int (Int32.ofNat k)), .val (.int ls), .val (.int (Int32.ofNat se))] []
            refine w_iinc ok d6_83 (u := (1 : Int32)) rfl rfl (L' := #[.val (.ref g), .val (.ref n), .val (.int ((Int32.ofNat i) + (1 : Int32))), .val (.int ((Int32.ofNat k) + (1 : Int32))), .val (.int ls), .val (.int (Int32.ofNat se))]) rfl ?_
            show W K l _ n0 _ h0 0 0 86 #[.val (.ref g), .val (.ref n), .val (.int ((Int32.ofNat i) + (1 : Int32))), .val (.int ((Int32.ofNat k) + (1 : Int32))), .val (.int ls), .val (.int (Int32.ofNat se))] []
            refine w_goto ok d6_86 (pc' := 10) (by decide) ?_
            show W K l _ n0 _ h0 0 0 10 #[.val (.ref g), .val (.ref n), .val (.int ((Int32.ofNat i) + (1 : Int32))), .val (.int ((Int32.ofNat k) + (1 : Int32))), .val (.int ls), .val (.int (Int32.ofNat se))] []
            rw [own_addk (s := i) (c := (1 : Int32)) (k := 1) rfl (by omega)]
            rw [own_addk (s := k) (c := (1 : Int32)) (k := 1) rfl (by omega)]
            exact ih (i + 1) (k + 1) l1 se ls (by omega) (I0.same hi hk hc9 (Or.inl hc13)) h1 h2
          · skip
            refine w_aloadN ok d6_68 rfl rfl ?_
            refine w_getfield ok (v := (.ref p)) (host := "") (f := ("com/example/turnstile/turnstile/server/Glob", "pattern", "[B", (.array .byte))) 0 d6_69 (Or.inl (hw _ (List.mem_of_getElem? (i := 24) rfl))) Via.refl A_g rfl rfl ?_
            refine w_iloadN ok d6_72 rfl ?_
            refine w_baload ok (v := (.int (ps.getD i 0))) d6_73 A_p (own_ix0 (by omega)) (own_rdx (by omega) (by omega)) ?_
            refine w_aloadN ok d6_74 rfl rfl ?_
            refine w_iloadN ok d6_75 rfl ?_
            refine w_baload ok (v := (.int (ns.getD k 0))) d6_76 A_n (own_ix0 (by omega)) (own_rdx (by omega) (by omega)) ?_
            refine w_icmp_ne ok d6_77 (pc' := 89) (by decide) (fun hc15 => ?_) (fun hc15 => ?_)
            · skip
              have bad := bad_ne (ns := ns) hi hc9 (fun q => q.elim hc13 hc15)
              refine w_iload ok d6_89 rfl ?_
              refine w_if_lt ok d6_91 (pc' := 108) (by decide) (fun hc17 => ?_) (fun hc17 => ?_)
              · skip
                refine w_iconst ok d6_108 (v := (0 : Int32)) rfl ?_
                refine w_bret ok (by simp) d6_109 (by decide) (by decide) ?_
                have l0 : l1 = 0 := h2.mp hc17
                subst l0
                exact ⟨Or.inr ⟨rfl, I0.fail bad⟩, rfl⟩
              · skip
                refine w_iload ok d6_94 rfl ?_
                refine w_iconst ok d6_96 (v := (1 : Int32)) rfl ?_
                refine w_iadd ok d6_97 ?_
                refine w_istoreN ok d6_98 (L' := #[.val (.ref g), .val (.ref n), .val (.int (ls + (1 : Int32))), .val (.int (Int32.ofNat k)), .val (.int ls), .val (.int (Int32.ofNat se))]) rfl ?_
                refine w_iinc ok d6_99 (u := (1 : Int32)) rfl rfl (L' := #[.val (.ref g), .val (.ref n), .val (.int (ls + (1 : Int32))), .val (.int (Int32.ofNat k)), .val (.int ls), .val (.int ((Int32.ofNat se) + (1 : Int32)))]) rfl ?_
                show W K l _ n0 _ h0 0 0 102 #[.val (.ref g), .val (.ref n), .val (.int (ls + (1 : Int32))), .val (.int (Int32.ofNat k)), .val (.int ls), .val (.int ((Int32.ofNat se) + (1 : Int32)))] []
                refine w_iload ok d6_102 rfl ?_
                refine w_istoreN ok d6_104 (L' := #[.val (.ref g), .val (.ref n), .val (.int (ls + (1 : Int32))), .val (.int ((Int32.ofNat se) + (1 : Int32))), .val (.int ls), .val (.int ((Int32.ofNat se) + (1 : Int32)))]) rfl ?_
                refine w_goto ok d6_105 (pc' := 10) (by decide) ?_
                show W K l _ n0 _ h0 0 0 10 #[.val (.ref g), .val (.ref n), .val (.int (ls + (1 : Int32))), .val (.int ((Int32.ofNat se) + (1 : Int32))), .val (.int ls), .val (.int ((Int32.ofNat se) + (1 : Int32)))] []
                have l0 : 0 < l1 := Nat.pos_of_ne_zero (fun q => hc17 (h2.mpr q))
                rw [h1]
                rw [own_addk (s := se) (c := (1 : Int32)) (k := 1) rfl (by omega)]
                exact ih l1 (se + 1) l1 (se + 1) ls (by omega) (I0.back hk bad l0) h1 h2
            · skip
              refine w_iinc ok d6_80 (u := (1 : Int32)) rfl rfl (L' := #[.val (.ref g), .val (.ref n), .val (.int ((Int32.ofNat i) + (1 : Int32))), .val (.int (Int32.ofNat k)), .val (.int ls), .val (.int (Int32.ofNat se))]) rfl ?_
              show W K l _ n0 _ h0 0 0 83 #[.val (.ref g), .val (.ref n), .val (.int ((Int32.ofNat i) + (1 : Int32))), .val (.int (Int32.ofNat k)), .val (.int ls), .val (.int (Int32.ofNat se))] []
              refine w_iinc ok d6_83 (u := (1 : Int32)) rfl rfl (L' := #[.val (.ref g), .val (.ref n), .val (.int ((Int32.ofNat i) + (1 : Int32))), .val (.int ((Int32.ofNat k) + (1 : Int32))), .val (.int ls), .val (.int (Int32.ofNat se))]) rfl ?_
              show W K l _ n0 _ h0 0 0 86 #[.val (.ref g), .val (.ref n), .val (.int ((Int32.ofNat i) + (1 : Int32))), .val (.int ((Int32.ofNat k) + (1 : Int32))), .val (.int ls), .val (.int (Int32.ofNat se))] []
              refine w_goto ok d6_86 (pc' := 10) (by decide) ?_
              show W K l _ n0 _ h0 0 0 10 #[.val (.ref g), .val (.ref n), .val (.int ((Int32.ofNat i) + (1 : Int32))), .val (.int ((Int32.ofNat k) + (1 : Int32))), .val (.int ls), .val (.int (Int32.ofNat se))] []
              rw [own_addk (s := i) (c := (1 : Int32)) (k := 1) rfl (by omega)]
              rw [own_addk (s := k) (c := (1 : Int32)) (k := 1) rfl (by omega)]
              exact ih (i + 1) (k + 1) l1 se ls (by omega) (I0.same hi hk hc9 (Or.inr hc15)) h1 h2
        · skip
          refine w_iloadN ok d6_36 rfl ?_
          refine w_iinc ok d6_37 (u := (1 : Int32)) rfl rfl (L' := #[.val (.ref g), .val (.ref n), .val (.int ((Int32.ofNat i) + (1 : Int32))), .val (.int (Int32.ofNat k)), .val (.int ls), .val (.int (Int32.ofNat se))]) rfl ?_
          show W K l _ n0 _ h0 0 0 40 #[.val (.ref g), .val (.ref n), .val (.int ((Int32.ofNat i) + (1 : Int32))), .val (.int (Int32.ofNat k)), .val (.int ls), .val (.int (Int32.ofNat se))] [(.int (Int32.ofNat i))]
          refine w_istore ok d6_40 (L' := #[.val (.ref g), .val (.ref n), .val (.int ((Int32.ofNat i) + (1 : Int32))), .val (.int (Int32.ofNat k)), .val (.int (Int32.ofNat i)), .val (.int (Int32.ofNat se))]) rfl ?_
          refine w_iloadN ok d6_42 rfl ?_
          refine w_istore ok d6_43 (L' := #[.val (.ref g), .val (.ref n), .val (.int ((Int32.ofNat i) + (1 : Int32))), .val (.int (Int32.ofNat k)), .val (.int (Int32.ofNat i)), .val (.int (Int32.ofNat k))]) rfl ?_
          refine w_goto ok d6_45 (pc' := 10) (by decide) ?_
          show W K l _ n0 _ h0 0 0 10 #[.val (.ref g), .val (.ref n), .val (.int ((Int32.ofNat i) + (1 : Int32))), .val (.int (Int32.ofNat k)), .val (.int (Int32.ofNat i)), .val (.int (Int32.ofNat k))] []
          rw [own_addk (s := i) (c := (1 : Int32)) (k := 1) rfl (by omega)]
          exact ih (i + 1) k (i + 1) k _ (own_m1 hc q2 hi q4 q3) (I0.star hi hc9) (own_addk (k := 1) rfl (by omega)) ⟨fun q => absurd q (own_ix0 (by omega)), fun q => absurd q (by omega)⟩
abbrev mn_6 : MethodName := ⟨"com/example/turnstile/turnstile/server/Glob", "matches", "([B)Z"⟩
set_option maxRecDepth 65536 in
set_option maxHeartbeats 40000000 in
theorem rm_match (l : Launch) (Z : State) (a0 : Array Value) (hw : ∀ d ∈ tables_1, d.before a0 Z = true) (ws : List Jvm.Cond) (n0 : Nat) (h0 : Heap) (Z0 : Old Z n0 h0) (g p n : Addr) (ps ns : List Int32) (A_g : Ob Z h0 g "com/example/turnstile/turnstile/server/Glob" fl_Glob [.ref p]) (A_p : PA .byte Z h0 p (bys ps)) (A_n : PA .byte Z h0 n (bys ns)) (lp : ps.length ≤ 4) (ln : ns.length ≤ 5)  :
    Met l Z n0 mn_6 prog_79_method_2_code 6 (some .boolean) ws ({ frames := 0, cells := 0, slots := 0, locals := 0 } : Room) #[(.ref g), (.ref n)] h0 (fun u h => Ans u (Gi ns ps 0) ∧ h0 = h) := by
  refine met_of Z0 (plainFor_of_name pn_com_example_turnstile_turnstile_server_Glob) (Ls := #[.val (.ref g), .val (.ref n), .unset, .unset, .unset, .unset]) (fun m => by first | (simp [entryFrame, mkF, argsToLocals, Value.category]; done) | rfl) ?_
  intro K ok
  show W K l _ n0 _ h0 0 0 0 #[.val (.ref g), .val (.ref n), .unset, .unset, .unset, .unset] []
  refine w_iconst ok d6_0 (v := (0 : Int32)) rfl ?_
  refine w_istoreN ok d6_1 (L' := #[.val (.ref g), .val (.ref n), .val (.int (0 : Int32)), .unset, .unset, .unset]) rfl ?_
  refine w_iconst ok d6_2 (v := (0 : Int32)) rfl ?_
  refine w_istoreN ok d6_3 (L' := #[.val (.ref g), .val (.ref n), .val (.int (0 : Int32)), .val (.int (0 : Int32)), .unset, .unset]) rfl ?_
  refine w_iconst ok d6_4 (v := (-1 : Int32)) rfl ?_
  refine w_istore ok d6_5 (L' := #[.val (.ref g), .val (.ref n), .val (.int (0 : Int32)), .val (.int (0 : Int32)), .val (.int (-1 : Int32)), .unset]) rfl ?_
  refine w_iconst ok d6_7 (v := (0 : Int32)) rfl ?_
  refine w_istore ok d6_8 (L' := #[.val (.ref g), .val (.ref n), .val (.int (0 : Int32)), .val (.int (0 : Int32)), .val (.int (-1 : Int32)), .val (.int (0 : Int32))]) rfl ?_
  show W K l _ n0 _ h0 0 0 10 #[.val (.ref g), .val (.ref n), .val (.int (0 : Int32)), .val (.int (0 : Int32)), .val (.int (-1 : Int32)), .val (.int (0 : Int32))] []
  exact lp10 l Z a0 hw n0 h0 K ok g p n ps ns A_g A_p A_n lp ln _ 0 0 0 0 _ (Nat.le_refl _) (ginv0 ns ps) (by decide) (by decide)
theorem d4_0 : decode prog_79_method_1_code 0 = .ok (.aload_n 0, 1) := by decide +kernel
theorem d4_1 : decode prog_79_method_1_code 1 = .ok (.invokespecial 1, 3) := by decide +kernel
theorem d4_4 : decode prog_79_method_1_code 4 = .ok (.aload_n 0, 1) := by decide +kernel
theorem d4_5 : decode prog_79_method_1_code 5 = .ok (.aload_n 1, 1) := by decide +kernel
theorem d4_6 : decode prog_79_method_1_code 6 = .ok (.putfield 7, 3) := by decide +kernel
theorem d4_9 : decode prog_79_method_1_code 9 = .ok (.return_, 1) := by decide +kernel
abbrev mn_4 : MethodName := ⟨"com/example/turnstile/turnstile/server/Glob", "<init>", "([B)V"⟩
set_option maxRecDepth 65536 in
set_option maxHeartbeats 40000000 in
theorem rm_ctor (l : Launch) (Z : State) (a0 : Array Value) (hw : ∀ d ∈ tables_1, d.before a0 Z = true) (ws : List Jvm.Cond) (n0 : Nat) (h0 : Heap) (Z0 : Old Z n0 h0) (g p : Addr) (A_g : Ob Z h0 g "com/example/turnstile/turnstile/server/Glob" fl_Glob [.null]) (ge_g : n0 ≤ g)  :
    Met l Z n0 mn_4 prog_79_method_1_code 2 none ws ({ frames := 1, cells := 0, slots := 0, locals := 12 } : Room) #[(.ref g), (.ref p)] h0 (fun u h => u = none ∧ Keep h0 h [g] ∧ Ob Z h g "com/example/turnstile/turnstile/server/Glob" fl_Glob [.ref p]) := by
  refine met_of Z0 (plainFor_of_name pn_com_example_turnstile_turnstile_server_Glob) (Ls := #[.val (.ref g), .val (.ref p)]) (fun m => by first | (simp [entryFrame, mkF, argsToLocals, Value.category]; done) | rfl) ?_
  intro K ok
  have Kp : Keep h0 h0 [g] := Keep.refl _ _
  show W K l _ n0 _ h0 0 0 0 #[.val (.ref g), .val (.ref p)] []
  refine w_aloadN ok d4_0 rfl rfl ?_
  refine w_initO ok d4_1 (hw _ (List.mem_of_getElem? (i := 21) rfl)) (hw _ (List.mem_of_getElem? (i := 22) rfl)) (hw _ (List.mem_of_getElem? (i := 23) rfl)) rfl (by decide) (Nat.le_of_ble_eq_true rfl) ?_
  show W K l _ n0 _ h0 0 0 4 #[.val (.ref g), .val (.ref p)] []
  refine w_aloadN ok d4_4 rfl rfl ?_
  refine w_aloadN ok d4_5 rfl rfl ?_
  refine w_putfield ok (host := "") (f := ("com/example/turnstile/turnstile/server/Glob", "pattern", "[B", (.array .byte))) 0 d4_6 (Or.inl (hw _ (List.mem_of_getElem? (i := 24) rfl))) Via.refl A_g (la_Glob hw) rfl rfl (Or.inr ⟨(hw _ (List.mem_of_getElem? (i := 25) rfl)), rfl, rfl⟩) (hw _ (List.mem_of_getElem? (i := 16) rfl)) rfl rfl ge_g (fun h1 W_h1 A1_h1 => ?_)
  replace Kp := Kp.wr W_h1 (Or.inl (by simp))
  replace A_g : Ob Z h1 g "com/example/turnstile/turnstile/server/Glob" fl_Glob [(.ref p)] := A1_h1
  refine w_ret ok d4_9 (by decide) (by decide) ?_
  exact ⟨rfl, Kp, A_g⟩
theorem d1_0 : decode method_2_code 0 = .ok (.lload_n 0, 1) := by decide +kernel
theorem d1_1 : decode method_2_code 1 = .ok (.ldc2_w 7, 3) := by decide +kernel
theorem d1_4 : decode method_2_code 4 = .ok (.land, 1) := by decide +kernel
theorem d1_5 : decode method_2_code 5 = .ok (.l2i, 1) := by decide +kernel
theorem d1_6 : decode method_2_code 6 = .ok (.istore_n 2, 1) := by decide +kernel
theorem d1_7 : decode method_2_code 7 = .ok (.iload_n 2, 1) := by decide +kernel
theorem d1_8 : decode method_2_code 8 = .ok (.iconst 1, 1) := by decide +kernel
theorem d1_9 : decode method_2_code 9 = .ok (.if_icmp .gt 6, 3) := by decide +kernel
theorem d1_12 : decode method_2_code 12 = .ok (.bipush 42, 2) := by decide +kernel
theorem d1_14 : decode method_2_code 14 = .ok (.ireturn, 1) := by decide +kernel
theorem d1_15 : decode method_2_code 15 = .ok (.iload_n 2, 1) := by decide +kernel
theorem d1_16 : decode method_2_code 16 = .ok (.iconst 2, 1) := by decide +kernel
theorem d1_17 : decode method_2_code 17 = .ok (.if_icmp .ne 6, 3) := by decide +kernel
theorem d1_20 : decode method_2_code 20 = .ok (.bipush 63, 2) := by decide +kernel
theorem d1_22 : decode method_2_code 22 = .ok (.ireturn, 1) := by decide +kernel
theorem d1_23 : decode method_2_code 23 = .ok (.iload_n 2, 1) := by decide +kernel
theorem d1_24 : decode method_2_code 24 = .ok (.iconst 4, 1) := by decide +kernel
theorem d1_25 : decode method_2_code 25 = .ok (.if_icmp .gt 6, 3) := by decide +kernel
theorem d1_28 : decode method_2_code 28 = .ok (.bipush 97, 2) := by decide +kernel
theorem d1_30 : decode method_2_code 30 = .ok (.ireturn, 1) := by decide +kernel
theorem d1_31 : decode method_2_code 31 = .ok (.iload_n 2, 1) := by decide +kernel
theorem d1_32 : decode method_2_code 32 = .ok (.iconst 5, 1) := by decide +kernel
theorem d1_33 : decode method_2_code 33 = .ok (.if_icmp .ne 6, 3) := by decide +kernel
theorem d1_36 : decode method_2_code 36 = .ok (.bipush 98, 2) := by decide +kernel
theorem d1_38 : decode method_2_code 38 = .ok (.ireturn, 1) := by decide +kernel
theorem d1_39 : decode method_2_code 39 = .ok (.lload_n 0, 1) := by decide +kernel
theorem d1_40 : decode method_2_code 40 = .ok (.iconst 3, 1) := by decide +kernel
theorem d1_41 : decode method_2_code 41 = .ok (.lshr, 1) := by decide +kernel
theorem d1_42 : decode method_2_code 42 = .ok (.l2i, 1) := by decide +kernel
theorem d1_43 : decode method_2_code 43 = .ok (.i2b, 1) := by decide +kernel
theorem d1_44 : decode method_2_code 44 = .ok (.ireturn, 1) := by decide +kernel
abbrev mn_1 : MethodName := ⟨"com/example/turnstile/turnstile/server/GlobMatchesPinLaw", "patByte", "(J)B"⟩
set_option maxRecDepth 65536 in
set_option maxHeartbeats 40000000 in
theorem rm_pb (l : Launch) (Z : State) (a0 : Array Value) (hw : ∀ d ∈ tables_1, d.before a0 Z = true) (ws : List Jvm.Cond) (n0 : Nat) (h0 : Heap) (Z0 : Old Z n0 h0) (v : Int64)  :
    Met l Z n0 mn_1 method_2_code 3 (some .byte) ws ({ frames := 0, cells := 0, slots := 0, locals := 0 } : Room) #[(.long v)] h0 (fun u h => (∃ z : Int32, u = some (.int z)) ∧ h0 = h) := by
  refine met_of Z0 (plainFor_of_name pn_com_example_turnstile_turnstile_server_GlobMatchesPinLaw) (Ls := #[.val (.long v), .second, .unset]) (fun m => by first | (simp [entryFrame, mkF, argsToLocals, Value.category]; done) | rfl) ?_
  intro K ok
  show W K l _ n0 _ h0 0 0 0 #[.val (.long v), .second, .unset] []
  refine w_lloadN ok d1_0 rfl ?_
  refine w_ldc2J (v := (7 : Int64)) ok d1_1 (hw _ (List.mem_of_getElem? (i := 0) rfl)) ?_
  refine w_land ok d1_4 ?_
  refine w_l2i ok d1_5 ?_
  refine w_istoreN ok d1_6 (L' := #[.val (.long v), .second, .val (.int ((v &&& (7 : Int64)).toInt32))]) rfl ?_
  refine w_iloadN ok d1_7 rfl ?_
  refine w_iconst ok d1_8 (v := (1 : Int32)) rfl ?_
  refine w_icmp_gt ok d1_9 (pc' := 15) (by decide) (fun hc1 => ?_) (fun hc1 => ?_)
  · skip
    refine w_iloadN ok d1_15 rfl ?_
    refine w_iconst ok d1_16 (v := (2 : Int32)) rfl ?_
    refine w_icmp_ne ok d1_17 (pc' := 23) (by decide) (fun hc3 => ?_) (fun hc3 => ?_)
    · skip
      refine w_iloadN ok d1_23 rfl ?_
      refine w_iconst ok d1_24 (v := (4 : Int32)) rfl ?_
      refine w_icmp_gt ok d1_25 (pc' := 31) (by decide) (fun hc5 => ?_) (fun hc5 => ?_)
      · skip
        refine w_iloadN ok d1_31 rfl ?_
        refine w_iconst ok d1_32 (v := (5 : Int32)) rfl ?_
        refine w_icmp_ne ok d1_33 (pc' := 39) (by decide) (fun hc7 => ?_) (fun hc7 => ?_)
        · skip
          refine w_lloadN ok d1_39 rfl ?_
          refine w_iconst ok d1_40 (v := (3 : Int32)) rfl ?_
          refine w_lshr ok d1_41 ?_
          refine w_l2i ok d1_42 ?_
          refine w_i2b ok d1_43 ?_
          refine w_bret ok (by simp) d1_44 (by decide) (by decide) ?_
          exact ⟨⟨_, rfl⟩, rfl⟩
        · skip
          refine w_bipush ok d1_36 (v := (98 : Int32)) rfl ?_
          refine w_bret ok (by simp) d1_38 (by decide) (by decide) ?_
          exact ⟨⟨_, rfl⟩, rfl⟩
      · skip
        refine w_bipush ok d1_28 (v := (97 : Int32)) rfl ?_
        refine w_bret ok (by simp) d1_30 (by decide) (by decide) ?_
        exact ⟨⟨_, rfl⟩, rfl⟩
    · skip
      refine w_bipush ok d1_20 (v := (63 : Int32)) rfl ?_
      refine w_bret ok (by simp) d1_22 (by decide) (by decide) ?_
      exact ⟨⟨_, rfl⟩, rfl⟩
  · skip
    refine w_bipush ok d1_12 (v := (42 : Int32)) rfl ?_
    refine w_bret ok (by simp) d1_14 (by decide) (by decide) ?_
    exact ⟨⟨_, rfl⟩, rfl⟩
theorem d3_0 : decode method_3_code 0 = .ok (.lload_n 0, 1) := by decide +kernel
theorem d3_1 : decode method_3_code 1 = .ok (.ldc2_w 9, 3) := by decide +kernel
theorem d3_4 : decode method_3_code 4 = .ok (.land, 1) := by decide +kernel
theorem d3_5 : decode method_3_code 5 = .ok (.l2i, 1) := by decide +kernel
theorem d3_6 : decode method_3_code 6 = .ok (.istore_n 2, 1) := by decide +kernel
theorem d3_7 : decode method_3_code 7 = .ok (.iload_n 2, 1) := by decide +kernel
theorem d3_8 : decode method_3_code 8 = .ok (.ifCond .eq 8, 3) := by decide +kernel
theorem d3_11 : decode method_3_code 11 = .ok (.iload_n 2, 1) := by decide +kernel
theorem d3_12 : decode method_3_code 12 = .ok (.iconst 2, 1) := by decide +kernel
theorem d3_13 : decode method_3_code 13 = .ok (.if_icmp .ne 6, 3) := by decide +kernel
theorem d3_16 : decode method_3_code 16 = .ok (.bipush 97, 2) := by decide +kernel
theorem d3_18 : decode method_3_code 18 = .ok (.ireturn, 1) := by decide +kernel
theorem d3_19 : decode method_3_code 19 = .ok (.iload_n 2, 1) := by decide +kernel
theorem d3_20 : decode method_3_code 20 = .ok (.iconst 1, 1) := by decide +kernel
theorem d3_21 : decode method_3_code 21 = .ok (.if_icmp .ne 6, 3) := by decide +kernel
theorem d3_24 : decode method_3_code 24 = .ok (.bipush 98, 2) := by decide +kernel
theorem d3_26 : decode method_3_code 26 = .ok (.ireturn, 1) := by decide +kernel
theorem d3_27 : decode method_3_code 27 = .ok (.lload_n 0, 1) := by decide +kernel
theorem d3_28 : decode method_3_code 28 = .ok (.iconst 2, 1) := by decide +kernel
theorem d3_29 : decode method_3_code 29 = .ok (.lshr, 1) := by decide +kernel
theorem d3_30 : decode method_3_code 30 = .ok (.l2i, 1) := by decide +kernel
theorem d3_31 : decode method_3_code 31 = .ok (.i2b, 1) := by decide +kernel
theorem d3_32 : decode method_3_code 32 = .ok (.ireturn, 1) := by decide +kernel
abbrev mn_3 : MethodName := ⟨"com/example/turnstile/turnstile/server/GlobMatchesPinLaw", "nameByte", "(J)B"⟩
set_option maxRecDepth 65536 in
set_option maxHeartbeats 40000000 in
theorem rm_nb (l : Launch) (Z : State) (a0 : Array Value) (hw : ∀ d ∈ tables_1, d.before a0 Z = true) (ws : List Jvm.Cond) (n0 : Nat) (h0 : Heap) (Z0 : Old Z n0 h0) (v : Int64)  :
    Met l Z n0 mn_3 method_3_code 3 (some .byte) ws ({ frames := 0, cells := 0, slots := 0, locals := 0 } : Room) #[(.long v)] h0 (fun u h => (∃ z : Int32, u = some (.int z)) ∧ h0 = h) := by
  refine met_of Z0 (plainFor_of_name pn_com_example_turnstile_turnstile_server_GlobMatchesPinLaw) (Ls := #[.val (.long v), .second, .unset]) (fun m => by first | (simp [entryFrame, mkF, argsToLocals, Value.category]; done) | rfl) ?_
  intro K ok
  show W K l _ n0 _ h0 0 0 0 #[.val (.long v), .second, .unset] []
  refine w_lloadN ok d3_0 rfl ?_
  refine w_ldc2J (v := (3 : Int64)) ok d3_1 (hw _ (List.mem_of_getElem? (i := 14) rfl)) ?_
  refine w_land ok d3_4 ?_
  refine w_l2i ok d3_5 ?_
  refine w_istoreN ok d3_6 (L' := #[.val (.long v), .second, .val (.int ((v &&& (3 : Int64)).toInt32))]) rfl ?_
  refine w_iloadN ok d3_7 rfl ?_
  refine w_if_eq ok d3_8 (pc' := 16) (by decide) (fun hc1 => ?_) (fun hc1 => ?_)
  · skip
    refine w_bipush ok d3_16 (v := (97 : Int32)) rfl ?_
    refine w_bret ok (by simp) d3_18 (by decide) (by decide) ?_
    exact ⟨⟨_, rfl⟩, rfl⟩
  · skip
    refine w_iloadN ok d3_11 rfl ?_
    refine w_iconst ok d3_12 (v := (2 : Int32)) rfl ?_
    refine w_icmp_ne ok d3_13 (pc' := 19) (by decide) (fun hc3 => ?_) (fun hc3 => ?_)
    · skip
      refine w_iloadN ok d3_19 rfl ?_
      refine w_iconst ok d3_20 (v := (1 : Int32)) rfl ?_
      refine w_icmp_ne ok d3_21 (pc' := 27) (by decide) (fun hc5 => ?_) (fun hc5 => ?_)
      · skip
        refine w_lloadN ok d3_27 rfl ?_
        refine w_iconst ok d3_28 (v := (2 : Int32)) rfl ?_
        refine w_lshr ok d3_29 ?_
        refine w_l2i ok d3_30 ?_
        refine w_i2b ok d3_31 ?_
        refine w_bret ok (by simp) d3_32 (by decide) (by decide) ?_
        exact ⟨⟨_, rfl⟩, rfl⟩
      · skip
        refine w_bipush ok d3_24 (v := (98 : Int32)) rfl ?_
        refine w_bret ok (by simp) d3_26 (by decide) (by decide) ?_
        exact ⟨⟨_, rfl⟩, rfl⟩
    · skip
      refine w_bipush ok d3_16 (v := (97 : Int32)) rfl ?_
      refine w_bret ok (by simp) d3_18 (by decide) (by decide) ?_
      exact ⟨⟨_, rfl⟩, rfl⟩
theorem d2_0 : decode method_4_code 0 = .ok (.iload_n 0, 1) := by decide +kernel
theorem d2_1 : decode method_4_code 1 = .ok (.ifCond .ne 7, 3) := by decide +kernel
theorem d2_4 : decode method_4_code 4 = .ok (.iconst 0, 1) := by decide +kernel
theorem d2_5 : decode method_4_code 5 = .ok (.newarray .byte, 2) := by decide +kernel
theorem d2_7 : decode method_4_code 7 = .ok (.areturn, 1) := by decide +kernel
theorem d2_8 : decode method_4_code 8 = .ok (.iload_n 0, 1) := by decide +kernel
theorem d2_9 : decode method_4_code 9 = .ok (.iconst 1, 1) := by decide +kernel
theorem d2_10 : decode method_4_code 10 = .ok (.if_icmp .ne 11, 3) := by decide +kernel
theorem d2_13 : decode method_4_code 13 = .ok (.iconst 1, 1) := by decide +kernel
theorem d2_14 : decode method_4_code 14 = .ok (.newarray .byte, 2) := by decide +kernel
theorem d2_16 : decode method_4_code 16 = .ok (.dup, 1) := by decide +kernel
theorem d2_17 : decode method_4_code 17 = .ok (.iconst 0, 1) := by decide +kernel
theorem d2_18 : decode method_4_code 18 = .ok (.iload_n 1, 1) := by decide +kernel
theorem d2_19 : decode method_4_code 19 = .ok (.bastore, 1) := by decide +kernel
theorem d2_20 : decode method_4_code 20 = .ok (.areturn, 1) := by decide +kernel
theorem d2_21 : decode method_4_code 21 = .ok (.iload_n 0, 1) := by decide +kernel
theorem d2_22 : decode method_4_code 22 = .ok (.iconst 2, 1) := by decide +kernel
theorem d2_23 : decode method_4_code 23 = .ok (.if_icmp .ne 15, 3) := by decide +kernel
theorem d2_26 : decode method_4_code 26 = .ok (.iconst 2, 1) := by decide +kernel
theorem d2_27 : decode method_4_code 27 = .ok (.newarray .byte, 2) := by decide +kernel
theorem d2_29 : decode method_4_code 29 = .ok (.dup, 1) := by decide +kernel
theorem d2_30 : decode method_4_code 30 = .ok (.iconst 0, 1) := by decide +kernel
theorem d2_31 : decode method_4_code 31 = .ok (.iload_n 1, 1) := by decide +kernel
theorem d2_32 : decode method_4_code 32 = .ok (.bastore, 1) := by decide +kernel
theorem d2_33 : decode method_4_code 33 = .ok (.dup, 1) := by decide +kernel
theorem d2_34 : decode method_4_code 34 = .ok (.iconst 1, 1) := by decide +kernel
theorem d2_35 : decode method_4_code 35 = .ok (.iload_n 2, 1) := by decide +kernel
theorem d2_36 : decode method_4_code 36 = .ok (.bastore, 1) := by decide +kernel
theorem d2_37 : decode method_4_code 37 = .ok (.areturn, 1) := by decide +kernel
theorem d2_38 : decode method_4_code 38 = .ok (.iload_n 0, 1) := by decide +kernel
theorem d2_39 : decode method_4_code 39 = .ok (.iconst 3, 1) := by decide +kernel
theorem d2_40 : decode method_4_code 40 = .ok (.if_icmp .ne 19, 3) := by decide +kernel
theorem d2_43 : decode method_4_code 43 = .ok (.iconst 3, 1) := by decide +kernel
theorem d2_44 : decode method_4_code 44 = .ok (.newarray .byte, 2) := by decide +kernel
theorem d2_46 : decode method_4_code 46 = .ok (.dup, 1) := by decide +kernel
theorem d2_47 : decode method_4_code 47 = .ok (.iconst 0, 1) := by decide +kernel
theorem d2_48 : decode method_4_code 48 = .ok (.iload_n 1, 1) := by decide +kernel
theorem d2_49 : decode method_4_code 49 = .ok (.bastore, 1) := by decide +kernel
theorem d2_50 : decode method_4_code 50 = .ok (.dup, 1) := by decide +kernel
theorem d2_51 : decode method_4_code 51 = .ok (.iconst 1, 1) := by decide +kernel
theorem d2_52 : decode method_4_code 52 = .ok (.iload_n 2, 1) := by decide +kernel
theorem d2_53 : decode method_4_code 53 = .ok (.bastore, 1) := by decide +kernel
theorem d2_54 : decode method_4_code 54 = .ok (.dup, 1) := by decide +kernel
theorem d2_55 : decode method_4_code 55 = .ok (.iconst 2, 1) := by decide +kernel
theorem d2_56 : decode method_4_code 56 = .ok (.iload_n 3, 1) := by decide +kernel
theorem d2_57 : decode method_4_code 57 = .ok (.bastore, 1) := by decide +kernel
theorem d2_58 : decode method_4_code 58 = .ok (.areturn, 1) := by decide +kernel
theorem d2_59 : decode method_4_code 59 = .ok (.iload_n 0, 1) := by decide +kernel
theorem d2_60 : decode method_4_code 60 = .ok (.iconst 4, 1) := by decide +kernel
theorem d2_61 : decode method_4_code 61 = .ok (.if_icmp .ne 24, 3) := by decide +kernel
theorem d2_64 : decode method_4_code 64 = .ok (.iconst 4, 1) := by decide +kernel
theorem d2_65 : decode method_4_code 65 = .ok (.newarray .byte, 2) := by decide +kernel
theorem d2_67 : decode method_4_code 67 = .ok (.dup, 1) := by decide +kernel
theorem d2_68 : decode method_4_code 68 = .ok (.iconst 0, 1) := by decide +kernel
theorem d2_69 : decode method_4_code 69 = .ok (.iload_n 1, 1) := by decide +kernel
theorem d2_70 : decode method_4_code 70 = .ok (.bastore, 1) := by decide +kernel
theorem d2_71 : decode method_4_code 71 = .ok (.dup, 1) := by decide +kernel
theorem d2_72 : decode method_4_code 72 = .ok (.iconst 1, 1) := by decide +kernel
theorem d2_73 : decode method_4_code 73 = .ok (.iload_n 2, 1) := by decide +kernel
theorem d2_74 : decode method_4_code 74 = .ok (.bastore, 1) := by decide +kernel
theorem d2_75 : decode method_4_code 75 = .ok (.dup, 1) := by decide +kernel
theorem d2_76 : decode method_4_code 76 = .ok (.iconst 2, 1) := by decide +kernel
theorem d2_77 : decode method_4_code 77 = .ok (.iload_n 3, 1) := by decide +kernel
theorem d2_78 : decode method_4_code 78 = .ok (.bastore, 1) := by decide +kernel
theorem d2_79 : decode method_4_code 79 = .ok (.dup, 1) := by decide +kernel
theorem d2_80 : decode method_4_code 80 = .ok (.iconst 3, 1) := by decide +kernel
theorem d2_81 : decode method_4_code 81 = .ok (.iload 4, 2) := by decide +kernel
theorem d2_83 : decode method_4_code 83 = .ok (.bastore, 1) := by decide +kernel
theorem d2_84 : decode method_4_code 84 = .ok (.areturn, 1) := by decide +kernel
theorem d2_85 : decode method_4_code 85 = .ok (.iconst 5, 1) := by decide +kernel
theorem d2_86 : decode method_4_code 86 = .ok (.newarray .byte, 2) := by decide +kernel
theorem d2_88 : decode method_4_code 88 = .ok (.dup, 1) := by decide +kernel
theorem d2_89 : decode method_4_code 89 = .ok (.iconst 0, 1) := by decide +kernel
theorem d2_90 : decode method_4_code 90 = .ok (.iload_n 1, 1) := by decide +kernel
theorem d2_91 : decode method_4_code 91 = .ok (.bastore, 1) := by decide +kernel
theorem d2_92 : decode method_4_code 92 = .ok (.dup, 1) := by decide +kernel
theorem d2_93 : decode method_4_code 93 = .ok (.iconst 1, 1) := by decide +kernel
theorem d2_94 : decode method_4_code 94 = .ok (.iload_n 2, 1) := by decide +kernel
theorem d2_95 : decode method_4_code 95 = .ok (.bastore, 1) := by decide +kernel
theorem d2_96 : decode method_4_code 96 = .ok (.dup, 1) := by decide +kernel
theorem d2_97 : decode method_4_code 97 = .ok (.iconst 2, 1) := by decide +kernel
theorem d2_98 : decode method_4_code 98 = .ok (.iload_n 3, 1) := by decide +kernel
theorem d2_99 : decode method_4_code 99 = .ok (.bastore, 1) := by decide +kernel
theorem d2_100 : decode method_4_code 100 = .ok (.dup, 1) := by decide +kernel
theorem d2_101 : decode method_4_code 101 = .ok (.iconst 3, 1) := by decide +kernel
theorem d2_102 : decode method_4_code 102 = .ok (.iload 4, 2) := by decide +kernel
theorem d2_104 : decode method_4_code 104 = .ok (.bastore, 1) := by decide +kernel
theorem d2_105 : decode method_4_code 105 = .ok (.dup, 1) := by decide +kernel
theorem d2_106 : decode method_4_code 106 = .ok (.iconst 4, 1) := by decide +kernel
theorem d2_107 : decode method_4_code 107 = .ok (.iload 5, 2) := by decide +kernel
theorem d2_109 : decode method_4_code 109 = .ok (.bastore, 1) := by decide +kernel
theorem d2_110 : decode method_4_code 110 = .ok (.areturn, 1) := by decide +kernel
abbrev mn_2 : MethodName := ⟨"com/example/turnstile/turnstile/server/GlobMatchesPinLaw", "make", "(IBBBBB)[B"⟩
set_option maxRecDepth 65536 in
set_option maxHeartbeats 40000000 in
theorem rm_mk (l : Launch) (Z : State) (a0 : Array Value) (hw : ∀ d ∈ tables_1, d.before a0 Z = true) (ws : List Jvm.Cond) (n0 : Nat) (h0 : Heap) (Z0 : Old Z n0 h0) (k : Nat) (kz : Int32) (hz : kz = Int32.ofNat k) (hk : k ≤ 5) (y0 y1 y2 y3 y4 : Int32) :
    Met l Z n0 mn_2 method_4_code 6 (some (.array .byte)) ws ({ frames := 0, cells := 1, slots := 5, locals := 0 } : Room) #[(.int kz), (.int y0), (.int y1), (.int y2), (.int y3), (.int y4)] h0 (fun u h => ∃ b zs, u = some (.ref b) ∧ zs.length = k ∧ h0.size ≤ b ∧ n0 ≤ b ∧ Keep h0 h [] ∧ PA .byte Z h b (bys zs)) := by
  refine met_of Z0 (plainFor_of_name pn_com_example_turnstile_turnstile_server_GlobMatchesPinLaw) (Ls := #[.val (.int kz), .val (.int y0), .val (.int y1), .val (.int y2), .val (.int y3), .val (.int y4)]) (fun m => by first | (simp [entryFrame, mkF, argsToLocals, Value.category]; done) | rfl) ?_
  intro K ok
  subst hz
  obtain rfl | rfl | rfl | rfl | rfl | rfl : k = 0 ∨ k = 1 ∨ k = 2 ∨ k = 3 ∨ k = 4 ∨ k = 5 := by omega
  · skip
    have Kp : Keep h0 h0 [] := Keep.refl _ _
    show W K l _ n0 _ h0 0 0 0 #[.val (.int (0 : Int32)), .val (.int y0), .val (.int y1), .val (.int y2), .val (.int y3), .val (.int y4)] []
    refine w_iloadN ok d2_0 rfl ?_
    refine w_if_ne ok d2_1 (pc' := 8) (by decide) (fun hc1 => False.elim (by revert hc1; decide)) (fun hc1 => ?_)
    refine w_iconst ok d2_4 (v := (0 : Int32)) rfl ?_
    refine w_newarray ok d2_5 (hw _ (List.mem_of_getElem? (i := 9) rfl)) (by decide) (cap := 0) (by decide) (by decide) (by decide) (by decide) (fun h3 b2 ea_b2 ge_b2 E_b2 A_b2 => ?_)
    have sz_b2 : h0.size ≤ b2 := Nat.le_trans Kp.1 (Nat.le_of_eq ea_b2.symm)
    replace Kp := Kp.ext E_b2
    replace A_b2 : PA .byte Z h3 b2 [] := A_b2
    refine w_aret ok rfl rfl d2_7 (by decide) (by decide) ?_
    exact ⟨b2, [], rfl, rfl, sz_b2, ge_b2, Kp, A_b2⟩
  · skip
    have Kp : Keep h0 h0 [] := Keep.refl _ _
    show W K l _ n0 _ h0 0 0 0 #[.val (.int (1 : Int32)), .val (.int y0), .val (.int y1), .val (.int y2), .val (.int y3), .val (.int y4)] []
    refine w_iloadN ok d2_0 rfl ?_
    refine w_if_ne ok d2_1 (pc' := 8) (by decide) (fun hc1 => ?_) (fun hc1 => False.elim (by revert hc1; decide))
    refine w_iloadN ok d2_8 rfl ?_
    refine w_iconst ok d2_9 (v := (1 : Int32)) rfl ?_
    refine w_icmp_ne ok d2_10 (pc' := 21) (by decide) (fun hc3 => False.elim (by revert hc3; decide)) (fun hc3 => ?_)
    refine w_iconst ok d2_13 (v := (1 : Int32)) rfl ?_
    refine w_newarray ok d2_14 (hw _ (List.mem_of_getElem? (i := 9) rfl)) (by decide) (cap := 1) (by decide) (by decide) (by decide) (by decide) (fun h5 b4 ea_b4 ge_b4 E_b4 A_b4 => ?_)
    have sz_b4 : h0.size ≤ b4 := Nat.le_trans Kp.1 (Nat.le_of_eq ea_b4.symm)
    replace Kp := Kp.ext E_b4
    replace A_b4 : PA .byte Z h5 b4 [(.int (0 : Int32))] := A_b4
    refine w_dup ok d2_16 rfl ?_
    refine w_iconst ok d2_17 (v := (0 : Int32)) rfl ?_
    refine w_iloadN ok d2_18 rfl ?_
    refine w_bastore ok d2_19 A_b4 ge_b4 (by decide) (Nat.le_of_ble_eq_true rfl) (fun h6 W_h6 A1_h6 => ?_)
    replace Kp := Kp.wr W_h6 (Or.inr sz_b4)
    replace A_b4 : PA .byte Z h6 b4 [(.int (nar .byte y0))] := A1_h6
    refine w_aret ok rfl rfl d2_20 (by decide) (by decide) ?_
    exact ⟨b4, [nar .byte y0], rfl, rfl, sz_b4, ge_b4, Kp, A_b4⟩
  · skip
    have Kp : Keep h0 h0 [] := Keep.refl _ _
    show W K l _ n0 _ h0 0 0 0 #[.val (.int (2 : Int32)), .val (.int y0), .val (.int y1), .val (.int y2), .val (.int y3), .val (.int y4)] []
    refine w_iloadN ok d2_0 rfl ?_
    refine w_if_ne ok d2_1 (pc' := 8) (by decide) (fun hc1 => ?_) (fun hc1 => False.elim (by revert hc1; decide))
    refine w_iloadN ok d2_8 rfl ?_
    refine w_iconst ok d2_9 (v := (1 : Int32)) rfl ?_
    refine w_icmp_ne ok d2_10 (pc' := 21) (by decide) (fun hc3 => ?_) (fun hc3 => False.elim (by revert hc3; decide))
    refine w_iloadN ok d2_21 rfl ?_
    refine w_iconst ok d2_22 (v := (2 : Int32)) rfl ?_
    refine w_icmp_ne ok d2_23 (pc' := 38) (by decide) (fun hc5 => False.elim (by revert hc5; decide)) (fun hc5 => ?_)
    refine w_iconst ok d2_26 (v := (2 : Int32)) rfl ?_
    refine w_newarray ok d2_27 (hw _ (List.mem_of_getElem? (i := 9) rfl)) (by decide) (cap := 2) (by decide) (by decide) (by decide) (by decide) (fun h7 b6 ea_b6 ge_b6 E_b6 A_b6 => ?_)
    have sz_b6 : h0.size ≤ b6 := Nat.le_trans Kp.1 (Nat.le_of_eq ea_b6.symm)
    replace Kp := Kp.ext E_b6
    replace A_b6 : PA .byte Z h7 b6 [(.int (0 : Int32)), (.int (0 : Int32))] := A_b6
    refine w_dup ok d2_29 rfl ?_
    refine w_iconst ok d2_30 (v := (0 : Int32)) rfl ?_
    refine w_iloadN ok d2_31 rfl ?_
    refine w_bastore ok d2_32 A_b6 ge_b6 (by decide) (Nat.le_of_ble_eq_true rfl) (fun h8 W_h8 A1_h8 => ?_)
    replace Kp := Kp.wr W_h8 (Or.inr sz_b6)
    replace A_b6 : PA .byte Z h8 b6 [(.int (nar .byte y0)), (.int (0 : Int32))] := A1_h8
    refine w_dup ok d2_33 rfl ?_
    refine w_iconst ok d2_34 (v := (1 : Int32)) rfl ?_
    refine w_iloadN ok d2_35 rfl ?_
    refine w_bastore ok d2_36 A_b6 ge_b6 (by decide) (Nat.le_of_ble_eq_true rfl) (fun h9 W_h9 A1_h9 => ?_)
    replace Kp := Kp.wr W_h9 (Or.inr sz_b6)
    replace A_b6 : PA .byte Z h9 b6 [(.int (nar .byte y0)), (.int (nar .byte y1))] := A1_h9
    refine w_aret ok rfl rfl d2_37 (by decide) (by decide) ?_
    exact ⟨b6, [nar .byte y0, nar .byte y1], rfl, rfl, sz_b6, ge_b6, Kp, A_b6⟩
  · skip
    have Kp : Keep h0 h0 [] := Keep.refl _ _
    show W K l _ n0 _ h0 0 0 0 #[.val (.int (3 : Int32)), .val (.int y0), .val (.int y1), .val (.int y2), .val (.int y3), .val (.int y4)] []
    refine w_iloadN ok d2_0 rfl ?_
    refine w_if_ne ok d2_1 (pc' := 8) (by decide) (fun hc1 => ?_) (fun hc1 => False.elim (by revert hc1; decide))
    refine w_iloadN ok d2_8 rfl ?_
    refine w_iconst ok d2_9 (v := (1 : Int32)) rfl ?_
    refine w_icmp_ne ok d2_10 (pc' := 21) (by decide) (fun hc3 => ?_) (fun hc3 => False.elim (by revert hc3; decide))
    refine w_iloadN ok d2_21 rfl ?_
    refine w_iconst ok d2_22 (v := (2 : Int32)) rfl ?_
    refine w_icmp_ne ok d2_23 (pc' := 38) (by decide) (fun hc5 => ?_) (fun hc5 => False.elim (by revert hc5; decide))
    refine w_iloadN ok d2_38 rfl ?_
    refine w_iconst ok d2_39 (v := (3 : Int32)) rfl ?_
    refine w_icmp_ne ok d2_40 (pc' := 59) (by decide) (fun hc7 => False.elim (by revert hc7; decide)) (fun hc7 => ?_)
    refine w_iconst ok d2_43 (v := (3 : Int32)) rfl ?_
    refine w_newarray ok d2_44 (hw _ (List.mem_of_getElem? (i := 9) rfl)) (by decide) (cap := 3) (by decide) (by decide) (by decide) (by decide) (fun h9 b8 ea_b8 ge_b8 E_b8 A_b8 => ?_)
    have sz_b8 : h0.size ≤ b8 := Nat.le_trans Kp.1 (Nat.le_of_eq ea_b8.symm)
    replace Kp := Kp.ext E_b8
    replace A_b8 : PA .byte Z h9 b8 [(.int (0 : Int32)), (.int (0 : Int32)), (.int (0 : Int32))] := A_b8
    refine w_dup ok d2_46 rfl ?_
    refine w_iconst ok d2_47 (v := (0 : Int32)) rfl ?_
    refine w_iloadN ok d2_48 rfl ?_
    refine w_bastore ok d2_49 A_b8 ge_b8 (by decide) (Nat.le_of_ble_eq_true rfl) (fun h10 W_h10 A1_h10 => ?_)
    replace Kp := Kp.wr W_h10 (Or.inr sz_b8)
    replace A_b8 : PA .byte Z h10 b8 [(.int (nar .byte y0)), (.int (0 : Int32)), (.int (0 : Int32))] := A1_h10
    refine w_dup ok d2_50 rfl ?_
    refine w_iconst ok d2_51 (v := (1 : Int32)) rfl ?_
    refine w_iloadN ok d2_52 rfl ?_
    refine w_bastore ok d2_53 A_b8 ge_b8 (by decide) (Nat.le_of_ble_eq_true rfl) (fun h11 W_h11 A1_h11 => ?_)
    replace Kp := Kp.wr W_h11 (Or.inr sz_b8)
    replace A_b8 : PA .byte Z h11 b8 [(.int (nar .byte y0)), (.int (nar .byte y1)), (.int (0 : Int32))] := A1_h11
    refine w_dup ok d2_54 rfl ?_
    refine w_iconst ok d2_55 (v := (2 : Int32)) rfl ?_
    refine w_iloadN ok d2_56 rfl ?_
    refine w_bastore ok d2_57 A_b8 ge_b8 (by decide) (Nat.le_of_ble_eq_true rfl) (fun h12 W_h12 A1_h12 => ?_)
    replace Kp := Kp.wr W_h12 (Or.inr sz_b8)
    replace A_b8 : PA .byte Z h12 b8 [(.int (nar .byte y0)), (.int (nar .byte y1)), (.int (nar .byte y2))] := A1_h12
    refine w_aret ok rfl rfl d2_58 (by decide) (by decide) ?_
    exact ⟨b8, [nar .byte y0, nar .byte y1, nar .byte y2], rfl, rfl, sz_b8, ge_b8, Kp, A_b8⟩
  · skip
    have Kp : Keep h0 h0 [] := Keep.refl _ _
    show W K l _ n0 _ h0 0 0 0 #[.val (.int (4 : Int32)), .val (.int y0), .val (.int y1), .val (.int y2), .val (.int y3), .val (.int y4)] []
    refine w_iloadN ok d2_0 rfl ?_
    refine w_if_ne ok d2_1 (pc' := 8) (by decide) (fun hc1 => ?_) (fun hc1 => False.elim (by revert hc1; decide))
    refine w_iloadN ok d2_8 rfl ?_
    refine w_iconst ok d2_9 (v := (1 : Int32)) rfl ?_
    refine w_icmp_ne ok d2_10 (pc' := 21) (by decide) (fun hc3 => ?_) (fun hc3 => False.elim (by revert hc3; decide))
    refine w_iloadN ok d2_21 rfl ?_
    refine w_iconst ok d2_22 (v := (2 : Int32)) rfl ?_
    refine w_icmp_ne ok d2_23 (pc' := 38) (by decide) (fun hc5 => ?_) (fun hc5 => False.elim (by revert hc5; decide))
    refine w_iloadN ok d2_38 rfl ?_
    refine w_iconst ok d2_39 (v := (3 : Int32)) rfl ?_
    refine w_icmp_ne ok d2_40 (pc' := 59) (by decide) (fun hc7 => ?_) (fun hc7 => False.elim (by revert hc7; decide))
    refine w_iloadN ok d2_59 rfl ?_
    refine w_iconst ok d2_60 (v := (4 : Int32)) rfl ?_
    refine w_icmp_ne ok d2_61 (pc' := 85) (by decide) (fun hc9 => False.elim (by revert hc9; decide)) (fun hc9 => ?_)
    refine w_iconst ok d2_64 (v := (4 : Int32)) rfl ?_
    refine w_newarray ok d2_65 (hw _ (List.mem_of_getElem? (i := 9) rfl)) (by decide) (cap := 4) (by decide) (by decide) (by decide) (by decide) (fun h11 b10 ea_b10 ge_b10 E_b10 A_b10 => ?_)
    have sz_b10 : h0.size ≤ b10 := Nat.le_trans Kp.1 (Nat.le_of_eq ea_b10.symm)
    replace Kp := Kp.ext E_b10
    replace A_b10 : PA .byte Z h11 b10 [(.int (0 : Int32)), (.int (0 : Int32)), (.int (0 : Int32)), (.int (0 : Int32))] := A_b10
    refine w_dup ok d2_67 rfl ?_
    refine w_iconst ok d2_68 (v := (0 : Int32)) rfl ?_
    refine w_iloadN ok d2_69 rfl ?_
    refine w_bastore ok d2_70 A_b10 ge_b10 (by decide) (Nat.le_of_ble_eq_true rfl) (fun h12 W_h12 A1_h12 => ?_)
    replace Kp := Kp.wr W_h12 (Or.inr sz_b10)
    replace A_b10 : PA .byte Z h12 b10 [(.int (nar .byte y0)), (.int (0 : Int32)), (.int (0 : Int32)), (.int (0 : Int32))] := A1_h12
    refine w_dup ok d2_71 rfl ?_
    refine w_iconst ok d2_72 (v := (1 : Int32)) rfl ?_
    refine w_iloadN ok d2_73 rfl ?_
    refine w_bastore ok d2_74 A_b10 ge_b10 (by decide) (Nat.le_of_ble_eq_true rfl) (fun h13 W_h13 A1_h13 => ?_)
    replace Kp := Kp.wr W_h13 (Or.inr sz_b10)
    replace A_b10 : PA .byte Z h13 b10 [(.int (nar .byte y0)), (.int (nar .byte y1)), (.int (0 : Int32)), (.int (0 : Int32))] := A1_h13
    refine w_dup ok d2_75 rfl ?_
    refine w_iconst ok d2_76 (v := (2 : Int32)) rfl ?_
    refine w_iloadN ok d2_77 rfl ?_
    refine w_bastore ok d2_78 A_b10 ge_b10 (by decide) (Nat.le_of_ble_eq_true rfl) (fun h14 W_h14 A1_h14 => ?_)
    replace Kp := Kp.wr W_h14 (Or.inr sz_b10)
    replace A_b10 : PA .byte Z h14 b10 [(.int (nar .byte y0)), (.int (nar .byte y1)), (.int (nar .byte y2)), (.int (0 : Int32))] := A1_h14
    refine w_dup ok d2_79 rfl ?_
    refine w_iconst ok d2_80 (v := (3 : Int32)) rfl ?_
    refine w_iload ok d2_81 rfl ?_
    refine w_bastore ok d2_83 A_b10 ge_b10 (by decide) (Nat.le_of_ble_eq_true rfl) (fun h15 W_h15 A1_h15 => ?_)
    replace Kp := Kp.wr W_h15 (Or.inr sz_b10)
    replace A_b10 : PA .byte Z h15 b10 [(.int (nar .byte y0)), (.int (nar .byte y1)), (.int (nar .byte y2)), (.int (nar .byte y3))] := A1_h15
    refine w_aret ok rfl rfl d2_84 (by decide) (by decide) ?_
    exact ⟨b10, [nar .byte y0, nar .byte y1, nar .byte y2, nar .byte y3], rfl, rfl, sz_b10, ge_b10, Kp, A_b10⟩
  · skip
    have Kp : Keep h0 h0 [] := Keep.refl _ _
    show W K l _ n0 _ h0 0 0 0 #[.val (.int (5 : Int32)), .val (.int y0), .val (.int y1), .val (.int y2), .val (.int y3), .val (.int y4)] []
    refine w_iloadN ok d2_0 rfl ?_
    refine w_if_ne ok d2_1 (pc' := 8) (by decide) (fun hc1 => ?_) (fun hc1 => False.elim (by revert hc1; decide))
    refine w_iloadN ok d2_8 rfl ?_
    refine w_iconst ok d2_9 (v := (1 : Int32)) rfl ?_
    refine w_icmp_ne ok d2_10 (pc' := 21) (by decide) (fun hc3 => ?_) (fun hc3 => False.elim (by revert hc3; decide))
    refine w_iloadN ok d2_21 rfl ?_
    refine w_iconst ok d2_22 (v := (2 : Int32)) rfl ?_
    refine w_icmp_ne ok d2_23 (pc' := 38) (by decide) (fun hc5 => ?_) (fun hc5 => False.elim (by revert hc5; decide))
    refine w_iloadN ok d2_38 rfl ?_
    refine w_iconst ok d2_39 (v := (3 : Int32)) rfl ?_
    refine w_icmp_ne ok d2_40 (pc' := 59) (by decide) (fun hc7 => ?_) (fun hc7 => False.elim (by revert hc7; decide))
    refine w_iloadN ok d2_59 rfl ?_
    refine w_iconst ok d2_60 (v := (4 : Int32)) rfl ?_
    refine w_icmp_ne ok d2_61 (pc' := 85) (by decide) (fun hc9 => ?_) (fun hc9 => False.elim (by revert hc9; decide))
    refine w_iconst ok d2_85 (v := (5 : Int32)) rfl ?_
    refine w_newarray ok d2_86 (hw _ (List.mem_of_getElem? (i := 9) rfl)) (by decide) (cap := 5) (by decide) (by decide) (by decide) (by decide) (fun h11 b10 ea_b10 ge_b10 E_b10 A_b10 => ?_)
    have sz_b10 : h0.size ≤ b10 := Nat.le_trans Kp.1 (Nat.le_of_eq ea_b10.symm)
    replace Kp := Kp.ext E_b10
    replace A_b10 : PA .byte Z h11 b10 [(.int (0 : Int32)), (.int (0 : Int32)), (.int (0 : Int32)), (.int (0 : Int32)), (.int (0 : Int32))] := A_b10
    refine w_dup ok d2_88 rfl ?_
    refine w_iconst ok d2_89 (v := (0 : Int32)) rfl ?_
    refine w_iloadN ok d2_90 rfl ?_
    refine w_bastore ok d2_91 A_b10 ge_b10 (by decide) (Nat.le_of_ble_eq_true rfl) (fun h12 W_h12 A1_h12 => ?_)
    replace Kp := Kp.wr W_h12 (Or.inr sz_b10)
    replace A_b10 : PA .byte Z h12 b10 [(.int (nar .byte y0)), (.int (0 : Int32)), (.int (0 : Int32)), (.int (0 : Int32)), (.int (0 : Int32))] := A1_h12
    refine w_dup ok d2_92 rfl ?_
    refine w_iconst ok d2_93 (v := (1 : Int32)) rfl ?_
    refine w_iloadN ok d2_94 rfl ?_
    refine w_bastore ok d2_95 A_b10 ge_b10 (by decide) (Nat.le_of_ble_eq_true rfl) (fun h13 W_h13 A1_h13 => ?_)
    replace Kp := Kp.wr W_h13 (Or.inr sz_b10)
    replace A_b10 : PA .byte Z h13 b10 [(.int (nar .byte y0)), (.int (nar .byte y1)), (.int (0 : Int32)), (.int (0 : Int32)), (.int (0 : Int32))] := A1_h13
    refine w_dup ok d2_96 rfl ?_
    refine w_iconst ok d2_97 (v := (2 : Int32)) rfl ?_
    refine w_iloadN ok d2_98 rfl ?_
    refine w_bastore ok d2_99 A_b10 ge_b10 (by decide) (Nat.le_of_ble_eq_true rfl) (fun h14 W_h14 A1_h14 => ?_)
    replace Kp := Kp.wr W_h14 (Or.inr sz_b10)
    replace A_b10 : PA .byte Z h14 b10 [(.int (nar .byte y0)), (.int (nar .byte y1)), (.int (nar .byte y2)), (.int (0 : Int32)), (.int (0 : Int32))] := A1_h14
    refine w_dup ok d2_100 rfl ?_
    refine w_iconst ok d2_101 (v := (3 : Int32)) rfl ?_
    refine w_iload ok d2_102 rfl ?_
    refine w_bastore ok d2_104 A_b10 ge_b10 (by decide) (Nat.le_of_ble_eq_true rfl) (fun h15 W_h15 A1_h15 => ?_)
    replace Kp := Kp.wr W_h15 (Or.inr sz_b10)
    replace A_b10 : PA .byte Z h15 b10 [(.int (nar .byte y0)), (.int (nar .byte y1)), (.int (nar .byte y2)), (.int (nar .byte y3)), (.int (0 : Int32))] := A1_h15
    refine w_dup ok d2_105 rfl ?_
    refine w_iconst ok d2_106 (v := (4 : Int32)) rfl ?_
    refine w_iload ok d2_107 rfl ?_
    refine w_bastore ok d2_109 A_b10 ge_b10 (by decide) (Nat.le_of_ble_eq_true rfl) (fun h16 W_h16 A1_h16 => ?_)
    replace Kp := Kp.wr W_h16 (Or.inr sz_b10)
    replace A_b10 : PA .byte Z h16 b10 [(.int (nar .byte y0)), (.int (nar .byte y1)), (.int (nar .byte y2)), (.int (nar .byte y3)), (.int (nar .byte y4))] := A1_h16
    refine w_aret ok rfl rfl d2_110 (by decide) (by decide) ?_
    exact ⟨b10, [nar .byte y0, nar .byte y1, nar .byte y2, nar .byte y3, nar .byte y4], rfl, rfl, sz_b10, ge_b10, Kp, A_b10⟩
theorem own_c8 (x : Int64) : x &&& 7 = 0 ∨ x &&& 7 = 1 ∨ x &&& 7 = 2 ∨ x &&& 7 = 3 ∨ x &&& 7 = 4 ∨ x &&& 7 = 5 ∨ x &&& 7 = 6 ∨ x &&& 7 = 7 := by
  have h1 := c_maskL x 7 3 (by decide) (by decide)
  simp only [← Int64.toInt_inj, Int64.reduceToInt]; omega
def own_k (d : Int64) (x : Int64) : Nat := ((x &&& 7) % d).toInt32.toNatClampNeg
theorem own_l (x : Int64) : (own_k 5 x ≤ 4 ∧ ((x &&& 7) % 5).toInt32 = Int32.ofNat (own_k 5 x)) ∧ (own_k 6 x ≤ 5 ∧ ((x &&& 7) % 6).toInt32 = Int32.ofNat (own_k 6 x)) := by
  unfold own_k
  rcases own_c8 x with h | h | h | h | h | h | h | h <;> rw [h] <;> decide
theorem pd_28J29B : parseMethodDescriptor "(J)B" = some ⟨[.long], some .byte⟩ := by decide +kernel
theorem pd_28IBBBBB295bB : parseMethodDescriptor "(IBBBBB)[B" = some ⟨[.int, .byte, .byte, .byte, .byte, .byte], some (.array .byte)⟩ := by decide +kernel
theorem pd_285bB29V : parseMethodDescriptor "([B)V" = some ⟨[(.array .byte)], none⟩ := by decide +kernel
theorem pd_285bB29Z : parseMethodDescriptor "([B)Z" = some ⟨[(.array .byte)], some .boolean⟩ := by decide +kernel
theorem pd_285bB5bB29Z : parseMethodDescriptor "([B[B)Z" = some ⟨[(.array .byte), (.array .byte)], some .boolean⟩ := by decide +kernel
set_option maxRecDepth 65536 in
set_option maxHeartbeats 40000000 in
theorem rm0 (l : Launch) (Z : State) (a0 : Array Value) (hw : ∀ d ∈ tables_1, d.before a0 Z = true) (ws : List Jvm.Cond) (n0 : Nat) (h0 : Heap) (Z0 : Old Z n0 h0) (pat nm : Int64)  :
    Met l Z n0 x code maxLocals ret ws room_1 #[(.long pat), (.long nm)] h0 (fun u h => u = some (.int 1)) := by
  refine met_of Z0 (plainFor_of_name pn_com_example_turnstile_turnstile_server_GlobMatchesPinLaw) (Ls := #[.val (.long pat), .second, .val (.long nm), .second, .unset, .unset, .unset, .unset, .unset]) (fun m => by first | (simp [entryFrame, mkF, argsToLocals, Value.category, maxLocals]; done) | rfl) ?_
  intro K ok
  show W K l _ n0 _ h0 0 0 0 #[.val (.long pat), .second, .val (.long nm), .second, .unset, .unset, .unset, .unset, .unset] []
  refine w_lloadN ok at_0 rfl ?_
  refine w_ldc2J (v := (7 : Int64)) ok at_1 (hw _ (List.mem_of_getElem? (i := 0) rfl)) ?_
  refine w_land ok at_4 ?_
  refine w_ldc2J (v := (5 : Int64)) ok at_5 (hw _ (List.mem_of_getElem? (i := 1) rfl)) ?_
  refine w_lrem ok at_8 (by decide) ?_
  refine w_l2i ok at_9 ?_
  refine w_istore ok at_10 (L' := #[.val (.long pat), .second, .val (.long nm), .second, .val (.int (((pat &&& (7 : Int64)) % (5 : Int64)).toInt32)), .unset, .unset, .unset, .unset]) rfl ?_
  refine w_iload ok at_12 rfl ?_
  refine w_lloadN ok at_14 rfl ?_
  refine w_iconst ok at_15 (v := (3 : Int32)) rfl ?_
  refine w_lushr ok at_16 ?_
  refine w_callS ok (y := mn_1) (argsL := [(.long ((pat.toUInt64 >>> ((3 : Int32) &&& 0x3f).toInt64.toUInt64).toInt64))]) (rest := [(.int (((pat &&& (7 : Int64)) % (5 : Int64)).toInt32))]) at_17 (hw _ (List.mem_of_getElem? (i := 2) rfl)) (hw _ (List.mem_of_getElem? (i := 3) rfl)) (hw _ (List.mem_of_getElem? (i := 4) rfl)) (hw _ (List.mem_of_getElem? (i := 5) rfl)) (by decide) pd_28J29B rfl rfl (by decide) (Nat.le_of_ble_eq_true rfl) (by decide) (by decide) (fun z0 => rm_pb l Z a0 hw [] n0 h0 z0 ((pat.toUInt64 >>> ((3 : Int32) &&& 0x3f).toInt64.toUInt64).toInt64)) (fun v1 h2 qv1 => ?_)
  obtain ⟨⟨y3, rfl⟩, rfl⟩ := qv1
  show W K l _ n0 _ h0 0 0 20 #[.val (.long pat), .second, .val (.long nm), .second, .val (.int (((pat &&& (7 : Int64)) % (5 : Int64)).toInt32)), .unset, .unset, .unset, .unset] [(.int y3), (.int (((pat &&& (7 : Int64)) % (5 : Int64)).toInt32))]
  refine w_lloadN ok at_20 rfl ?_
  refine w_bipush ok at_21 (v := (14 : Int32)) rfl ?_
  refine w_lushr ok at_23 ?_
  refine w_callS ok (y := mn_1) (argsL := [(.long ((pat.toUInt64 >>> ((14 : Int32) &&& 0x3f).toInt64.toUInt64).toInt64))]) (rest := [(.int y3), (.int (((pat &&& (7 : Int64)) % (5 : Int64)).toInt32))]) at_24 (hw _ (List.mem_of_getElem? (i := 2) rfl)) (hw _ (List.mem_of_getElem? (i := 3) rfl)) (hw _ (List.mem_of_getElem? (i := 4) rfl)) (hw _ (List.mem_of_getElem? (i := 5) rfl)) (by decide) pd_28J29B rfl rfl (by decide) (Nat.le_of_ble_eq_true rfl) (by decide) (by decide) (fun z0 => rm_pb l Z a0 hw [] n0 h0 z0 ((pat.toUInt64 >>> ((14 : Int32) &&& 0x3f).toInt64.toUInt64).toInt64)) (fun v4 h5 qv4 => ?_)
  obtain ⟨⟨y6, rfl⟩, rfl⟩ := qv4
  show W K l _ n0 _ h0 0 0 27 #[.val (.long pat), .second, .val (.long nm), .second, .val (.int (((pat &&& (7 : Int64)) % (5 : Int64)).toInt32)), .unset, .unset, .unset, .unset] [(.int y6), (.int y3), (.int (((pat &&& (7 : Int64)) % (5 : Int64)).toInt32))]
  refine w_lloadN ok at_27 rfl ?_
  refine w_bipush ok at_28 (v := (25 : Int32)) rfl ?_
  refine w_lushr ok at_30 ?_
  refine w_callS ok (y := mn_1) (argsL := [(.long ((pat.toUInt64 >>> ((25 : Int32) &&& 0x3f).toInt64.toUInt64).toInt64))]) (rest := [(.int y6), (.int y3), (.int (((pat &&& (7 : Int64)) % (5 : Int64)).toInt32))]) at_31 (hw _ (List.mem_of_getElem? (i := 2) rfl)) (hw _ (List.mem_of_getElem? (i := 3) rfl)) (hw _ (List.mem_of_getElem? (i := 4) rfl)) (hw _ (List.mem_of_getElem? (i := 5) rfl)) (by decide) pd_28J29B rfl rfl (by decide) (Nat.le_of_ble_eq_true rfl) (by decide) (by decide) (fun z0 => rm_pb l Z a0 hw [] n0 h0 z0 ((pat.toUInt64 >>> ((25 : Int32) &&& 0x3f).toInt64.toUInt64).toInt64)) (fun v7 h8 qv7 => ?_)
  obtain ⟨⟨y9, rfl⟩, rfl⟩ := qv7
  show W K l _ n0 _ h0 0 0 34 #[.val (.long pat), .second, .val (.long nm), .second, .val (.int (((pat &&& (7 : Int64)) % (5 : Int64)).toInt32)), .unset, .unset, .unset, .unset] [(.int y9), (.int y6), (.int y3), (.int (((pat &&& (7 : Int64)) % (5 : Int64)).toInt32))]
  refine w_lloadN ok at_34 rfl ?_
  refine w_bipush ok at_35 (v := (36 : Int32)) rfl ?_
  refine w_lushr ok at_37 ?_
  refine w_callS ok (y := mn_1) (argsL := [(.long ((pat.toUInt64 >>> ((36 : Int32) &&& 0x3f).toInt64.toUInt64).toInt64))]) (rest := [(.int y9), (.int y6), (.int y3), (.int (((pat &&& (7 : Int64)) % (5 : Int64)).toInt32))]) at_38 (hw _ (List.mem_of_getElem? (i := 2) rfl)) (hw _ (List.mem_of_getElem? (i := 3) rfl)) (hw _ (List.mem_of_getElem? (i := 4) rfl)) (hw _ (List.mem_of_getElem? (i := 5) rfl)) (by decide) pd_28J29B rfl rfl (by decide) (Nat.le_of_ble_eq_true rfl) (by decide) (by decide) (fun z0 => rm_pb l Z a0 hw [] n0 h0 z0 ((pat.toUInt64 >>> ((36 : Int32) &&& 0x3f).toInt64.toUInt64).toInt64)) (fun v10 h11 qv10 => ?_)
  obtain ⟨⟨y12, rfl⟩, rfl⟩ := qv10
  show W K l _ n0 _ h0 0 0 41 #[.val (.long pat), .second, .val (.long nm), .second, .val (.int (((pat &&& (7 : Int64)) % (5 : Int64)).toInt32)), .unset, .unset, .unset, .unset] [(.int y12), (.int y9), (.int y6), (.int y3), (.int (((pat &&& (7 : Int64)) % (5 : Int64)).toInt32))]
  refine w_iconst ok at_41 (v := (0 : Int32)) rfl ?_
  refine w_callS ok (y := mn_2) (argsL := [(.int (((pat &&& (7 : Int64)) % (5 : Int64)).toInt32)), (.int y3), (.int y6), (.int y9), (.int y12), (.int (0 : Int32))]) (rest := []) at_42 (hw _ (List.mem_of_getElem? (i := 6) rfl)) (hw _ (List.mem_of_getElem? (i := 7) rfl)) (hw _ (List.mem_of_getElem? (i := 4) rfl)) (hw _ (List.mem_of_getElem? (i := 8) rfl)) (by decide) pd_28IBBBBB295bB rfl rfl (by decide) (Nat.le_of_ble_eq_true rfl) (by decide) (by decide) (fun z0 => rm_mk l Z a0 hw [] n0 h0 z0 _ _ (own_l pat).1.2 (Nat.le_succ_of_le (own_l pat).1.1) y3 y6 y9 y12 (0 : Int32)) (fun v13 h14 qv13 => ?_)
  obtain ⟨rp, ps, rfl, eps, sz_rp, ge_rp, K1, A_rp⟩ := qv13
  have hl4 : ps.length ≤ 4 := by rw [eps]; exact (own_l (pat)).1.1
  show W K l _ n0 _ h14 1 5 45 #[.val (.long pat), .second, .val (.long nm), .second, .val (.int (((pat &&& (7 : Int64)) % (5 : Int64)).toInt32)), .unset, .unset, .unset, .unset] [(.ref rp)]
  refine w_astore ok at_45 rfl (L' := #[.val (.long pat), .second, .val (.long nm), .second, .val (.int (((pat &&& (7 : Int64)) % (5 : Int64)).toInt32)), .val (.ref rp), .unset, .unset, .unset]) rfl ?_
  refine w_lloadN ok at_47 rfl ?_
  refine w_ldc2J (v := (7 : Int64)) ok at_48 (hw _ (List.mem_of_getElem? (i := 0) rfl)) ?_
  refine w_land ok at_51 ?_
  refine w_ldc2J (v := (6 : Int64)) ok at_52 (hw _ (List.mem_of_getElem? (i := 10) rfl)) ?_
  refine w_lrem ok at_55 (by decide) ?_
  refine w_l2i ok at_56 ?_
  refine w_istore ok at_57 (L' := #[.val (.long pat), .second, .val (.long nm), .second, .val (.int (((pat &&& (7 : Int64)) % (5 : Int64)).toInt32)), .val (.ref rp), .val (.int (((nm &&& (7 : Int64)) % (6 : Int64)).toInt32)), .unset, .unset]) rfl ?_
  refine w_iload ok at_59 rfl ?_
  refine w_lloadN ok at_61 rfl ?_
  refine w_iconst ok at_62 (v := (3 : Int32)) rfl ?_
  refine w_lushr ok at_63 ?_
  refine w_callS ok (y := mn_3) (argsL := [(.long ((nm.toUInt64 >>> ((3 : Int32) &&& 0x3f).toInt64.toUInt64).toInt64))]) (rest := [(.int (((nm &&& (7 : Int64)) % (6 : Int64)).toInt32))]) at_64 (hw _ (List.mem_of_getElem? (i := 11) rfl)) (hw _ (List.mem_of_getElem? (i := 12) rfl)) (hw _ (List.mem_of_getElem? (i := 4) rfl)) (hw _ (List.mem_of_getElem? (i := 13) rfl)) (by decide) pd_28J29B rfl rfl (by decide) (Nat.le_of_ble_eq_true rfl) (by decide) (by decide) (fun z0 => rm_nb l Z a0 hw [] n0 h14 z0 ((nm.toUInt64 >>> ((3 : Int32) &&& 0x3f).toInt64.toUInt64).toInt64)) (fun v15 h16 qv15 => ?_)
  obtain ⟨⟨y17, rfl⟩, rfl⟩ := qv15
  show W K l _ n0 _ h14 1 5 67 #[.val (.long pat), .second, .val (.long nm), .second, .val (.int (((pat &&& (7 : Int64)) % (5 : Int64)).toInt32)), .val (.ref rp), .val (.int (((nm &&& (7 : Int64)) % (6 : Int64)).toInt32)), .unset, .unset] [(.int y17), (.int (((nm &&& (7 : Int64)) % (6 : Int64)).toInt32))]
  refine w_lloadN ok at_67 rfl ?_
  refine w_bipush ok at_68 (v := (13 : Int32)) rfl ?_
  refine w_lushr ok at_70 ?_
  refine w_callS ok (y := mn_3) (argsL := [(.long ((nm.toUInt64 >>> ((13 : Int32) &&& 0x3f).toInt64.toUInt64).toInt64))]) (rest := [(.int y17), (.int (((nm &&& (7 : Int64)) % (6 : Int64)).toInt32))]) at_71 (hw _ (List.mem_of_getElem? (i := 11) rfl)) (hw _ (List.mem_of_getElem? (i := 12) rfl)) (hw _ (List.mem_of_getElem? (i := 4) rfl)) (hw _ (List.mem_of_getElem? (i := 13) rfl)) (by decide) pd_28J29B rfl rfl (by decide) (Nat.le_of_ble_eq_true rfl) (by decide) (by decide) (fun z0 => rm_nb l Z a0 hw [] n0 h14 z0 ((nm.toUInt64 >>> ((13 : Int32) &&& 0x3f).toInt64.toUInt64).toInt64)) (fun v18 h19 qv18 => ?_)
  obtain ⟨⟨y20, rfl⟩, rfl⟩ := qv18
  show W K l _ n0 _ h14 1 5 74 #[.val (.long pat), .second, .val (.long nm), .second, .val (.int (((pat &&& (7 : Int64)) % (5 : Int64)).toInt32)), .val (.ref rp), .val (.int (((nm &&& (7 : Int64)) % (6 : Int64)).toInt32)), .unset, .unset] [(.int y20), (.int y17), (.int (((nm &&& (7 : Int64)) % (6 : Int64)).toInt32))]
  refine w_lloadN ok at_74 rfl ?_
  refine w_bipush ok at_75 (v := (23 : Int32)) rfl ?_
  refine w_lushr ok at_77 ?_
  refine w_callS ok (y := mn_3) (argsL := [(.long ((nm.toUInt64 >>> ((23 : Int32) &&& 0x3f).toInt64.toUInt64).toInt64))]) (rest := [(.int y20), (.int y17), (.int (((nm &&& (7 : Int64)) % (6 : Int64)).toInt32))]) at_78 (hw _ (List.mem_of_getElem? (i := 11) rfl)) (hw _ (List.mem_of_getElem? (i := 12) rfl)) (hw _ (List.mem_of_getElem? (i := 4) rfl)) (hw _ (List.mem_of_getElem? (i := 13) rfl)) (by decide) pd_28J29B rfl rfl (by decide) (Nat.le_of_ble_eq_true rfl) (by decide) (by decide) (fun z0 => rm_nb l Z a0 hw [] n0 h14 z0 ((nm.toUInt64 >>> ((23 : Int32) &&& 0x3f).toInt64.toUInt64).toInt64)) (fun v21 h22 qv21 => ?_)
  obtain ⟨⟨y23, rfl⟩, rfl⟩ := qv21
  show W K l _ n0 _ h14 1 5 81 #[.val (.long pat), .second, .val (.long nm), .second, .val (.int (((pat &&& (7 : Int64)) % (5 : Int64)).toInt32)), .val (.ref rp), .val (.int (((nm &&& (7 : Int64)) % (6 : Int64)).toInt32)), .unset, .unset] [(.int y23), (.int y20), (.int y17), (.int (((nm &&& (7 : Int64)) % (6 : Int64)).toInt32))]
  refine w_lloadN ok at_81 rfl ?_
  refine w_bipush ok at_82 (v := (33 : Int32)) rfl ?_
  refine w_lushr ok at_84 ?_
  refine w_callS ok (y := mn_3) (argsL := [(.long ((nm.toUInt64 >>> ((33 : Int32) &&& 0x3f).toInt64.toUInt64).toInt64))]) (rest := [(.int y23), (.int y20), (.int y17), (.int (((nm &&& (7 : Int64)) % (6 : Int64)).toInt32))]) at_85 (hw _ (List.mem_of_getElem? (i := 11) rfl)) (hw _ (List.mem_of_getElem? (i := 12) rfl)) (hw _ (List.mem_of_getElem? (i := 4) rfl)) (hw _ (List.mem_of_getElem? (i := 13) rfl)) (by decide) pd_28J29B rfl rfl (by decide) (Nat.le_of_ble_eq_true rfl) (by decide) (by decide) (fun z0 => rm_nb l Z a0 hw [] n0 h14 z0 ((nm.toUInt64 >>> ((33 : Int32) &&& 0x3f).toInt64.toUInt64).toInt64)) (fun v24 h25 qv24 => ?_)
  obtain ⟨⟨y26, rfl⟩, rfl⟩ := qv24
  show W K l _ n0 _ h14 1 5 88 #[.val (.long pat), .second, .val (.long nm), .second, .val (.int (((pat &&& (7 : Int64)) % (5 : Int64)).toInt32)), .val (.ref rp), .val (.int (((nm &&& (7 : Int64)) % (6 : Int64)).toInt32)), .unset, .unset] [(.int y26), (.int y23), (.int y20), (.int y17), (.int (((nm &&& (7 : Int64)) % (6 : Int64)).toInt32))]
  refine w_lloadN ok at_88 rfl ?_
  refine w_bipush ok at_89 (v := (43 : Int32)) rfl ?_
  refine w_lushr ok at_91 ?_
  refine w_callS ok (y := mn_3) (argsL := [(.long ((nm.toUInt64 >>> ((43 : Int32) &&& 0x3f).toInt64.toUInt64).toInt64))]) (rest := [(.int y26), (.int y23), (.int y20), (.int y17), (.int (((nm &&& (7 : Int64)) % (6 : Int64)).toInt32))]) at_92 (hw _ (List.mem_of_getElem? (i := 11) rfl)) (hw _ (List.mem_of_getElem? (i := 12) rfl)) (hw _ (List.mem_of_getElem? (i := 4) rfl)) (hw _ (List.mem_of_getElem? (i := 13) rfl)) (by decide) pd_28J29B rfl rfl (by decide) (Nat.le_of_ble_eq_true rfl) (by decide) (by decide) (fun z0 => rm_nb l Z a0 hw [] n0 h14 z0 ((nm.toUInt64 >>> ((43 : Int32) &&& 0x3f).toInt64.toUInt64).toInt64)) (fun v27 h28 qv27 => ?_)
  obtain ⟨⟨y29, rfl⟩, rfl⟩ := qv27
  show W K l _ n0 _ h14 1 5 95 #[.val (.long pat), .second, .val (.long nm), .second, .val (.int (((pat &&& (7 : Int64)) % (5 : Int64)).toInt32)), .val (.ref rp), .val (.int (((nm &&& (7 : Int64)) % (6 : Int64)).toInt32)), .unset, .unset] [(.int y29), (.int y26), (.int y23), (.int y20), (.int y17), (.int (((nm &&& (7 : Int64)) % (6 : Int64)).toInt32))]
  refine w_callS ok (y := mn_2) (argsL := [(.int (((nm &&& (7 : Int64)) % (6 : Int64)).toInt32)), (.int y17), (.int y20), (.int y23), (.int y26), (.int y29)]) (rest := []) at_95 (hw _ (List.mem_of_getElem? (i := 6) rfl)) (hw _ (List.mem_of_getElem? (i := 7) rfl)) (hw _ (List.mem_of_getElem? (i := 4) rfl)) (hw _ (List.mem_of_getElem? (i := 8) rfl)) (by decide) pd_28IBBBBB295bB rfl rfl (by decide) (Nat.le_of_ble_eq_true rfl) (by decide) (by decide) (fun z0 => rm_mk l Z a0 hw [] n0 h14 z0 _ _ (own_l nm).2.2 (own_l nm).2.1 y17 y20 y23 y26 y29) (fun v30 h31 qv30 => ?_)
  obtain ⟨rn, ns, rfl, ens, sz_rn, ge_rn, K1, A_rn⟩ := qv30
  have ne_rp_rn : rp ≠ rn := Nat.ne_of_lt (Nat.lt_of_lt_of_le A_rp.lt sz_rn)
  replace A_rp := A_rp.keep K1 nin0
  have hl5 : ns.length ≤ 5 := by rw [ens]; exact (own_l (nm)).2.1
  show W K l _ n0 _ h31 2 10 98 #[.val (.long pat), .second, .val (.long nm), .second, .val (.int (((pat &&& (7 : Int64)) % (5 : Int64)).toInt32)), .val (.ref rp), .val (.int (((nm &&& (7 : Int64)) % (6 : Int64)).toInt32)), .unset, .unset] [(.ref rn)]
  refine w_astore ok at_98 rfl (L' := #[.val (.long pat), .second, .val (.long nm), .second, .val (.int (((pat &&& (7 : Int64)) % (5 : Int64)).toInt32)), .val (.ref rp), .val (.int (((nm &&& (7 : Int64)) % (6 : Int64)).toInt32)), .val (.ref rn), .unset]) rfl ?_
  refine w_new ok at_100 (hw _ (List.mem_of_getElem? (i := 15) rfl)) (hw _ (List.mem_of_getElem? (i := 16) rfl)) (hw _ (List.mem_of_getElem? (i := 17) rfl)) (la_Glob hw) (by decide) (by decide) (fun h33 b32 ea_b32 ge_b32 E_b32 A_b32 => ?_)
  have ne_rp_b32 : rp ≠ b32 := fun q => Nat.lt_irrefl _ (Nat.lt_of_lt_of_eq A_rp.lt (ea_b32.symm.trans q.symm))
  have ne_rn_b32 : rn ≠ b32 := fun q => Nat.lt_irrefl _ (Nat.lt_of_lt_of_eq A_rn.lt (ea_b32.symm.trans q.symm))
  replace A_rp := A_rp.ext E_b32
  replace A_rn := A_rn.ext E_b32
  replace A_b32 : Ob Z h33 b32 "com/example/turnstile/turnstile/server/Glob" fl_Glob [.null] := A_b32
  refine w_dup ok at_103 rfl ?_
  refine w_aload ok at_104 rfl rfl ?_
  refine w_callI ok (y := mn_4) (a := b32) (argsL := [(.ref rp)]) (rest := [(.ref b32)]) at_106 rfl (hw _ (List.mem_of_getElem? (i := 18) rfl)) (hw _ (List.mem_of_getElem? (i := 19) rfl)) (hw _ (List.mem_of_getElem? (i := 17) rfl)) (hw _ (List.mem_of_getElem? (i := 20) rfl)) (by decide) pd_285bB29V rfl rfl (by decide) (Nat.le_of_ble_eq_true rfl) (by decide) (by decide) (fun z0 => rm_ctor l Z a0 hw [] n0 h33 z0 b32 rp A_b32 ge_b32) (fun v34 h35 qv34 => ?_)
  obtain ⟨rfl, K1, A1⟩ := qv34
  replace A_rp := A_rp.keep K1 (ninS ne_rp_b32 nin0)
  replace A_rn := A_rn.keep K1 (ninS ne_rn_b32 nin0)
  replace A_b32 := A1
  show W K l _ n0 _ h35 3 11 109 #[.val (.long pat), .second, .val (.long nm), .second, .val (.int (((pat &&& (7 : Int64)) % (5 : Int64)).toInt32)), .val (.ref rp), .val (.int (((nm &&& (7 : Int64)) % (6 : Int64)).toInt32)), .val (.ref rn), .unset] [(.ref b32)]
  refine w_astore ok at_109 rfl (L' := #[.val (.long pat), .second, .val (.long nm), .second, .val (.int (((pat &&& (7 : Int64)) % (5 : Int64)).toInt32)), .val (.ref rp), .val (.int (((nm &&& (7 : Int64)) % (6 : Int64)).toInt32)), .val (.ref rn), .val (.ref b32)]) rfl ?_
  refine w_aload ok at_111 rfl rfl ?_
  refine w_aload ok at_113 rfl rfl ?_
  refine w_callV ok (y := mn_6) (a := b32) (argsL := [(.ref rn)]) (rest := []) at_115 (hw _ (List.mem_of_getElem? (i := 26) rfl)) (hw _ (List.mem_of_getElem? (i := 27) rfl)) (hw _ (List.mem_of_getElem? (i := 29) rfl)) (hw _ (List.mem_of_getElem? (i := 28) rfl)) (hw _ (List.mem_of_getElem? (i := 17) rfl)) (hw _ (List.mem_of_getElem? (i := 30) rfl)) (by decide) A_b32.1 pd_285bB29Z rfl rfl (by decide) (Nat.le_of_ble_eq_true rfl) (by decide) (by decide) (fun z0 => rm_match l Z a0 hw [] n0 h35 z0 b32 rp rn ps ns A_b32 A_rp A_rn hl4 hl5) (fun v36 h37 qv36 => ?_)
  obtain ⟨⟨rfl, gx⟩ | ⟨rfl, gx⟩, rfl⟩ := qv36
  · skip
    replace gx : Gi ns ps 0 := gx
    show W K l _ n0 _ h35 3 11 118 #[.val (.long pat), .second, .val (.long nm), .second, .val (.int (((pat &&& (7 : Int64)) % (5 : Int64)).toInt32)), .val (.ref rp), .val (.int (((nm &&& (7 : Int64)) % (6 : Int64)).toInt32)), .val (.ref rn), .val (.ref b32)] [(.int (1 : Int32))]
    refine w_aload ok at_118 rfl rfl ?_
    refine w_aload ok at_120 rfl rfl ?_
    refine w_callS ok (y := mn_7) (argsL := [(.ref rp), (.ref rn)]) (rest := [(.int (1 : Int32))]) at_122 (hw _ (List.mem_of_getElem? (i := 31) rfl)) (hw _ (List.mem_of_getElem? (i := 32) rfl)) (hw _ (List.mem_of_getElem? (i := 4) rfl)) (hw _ (List.mem_of_getElem? (i := 33) rfl)) (by decide) pd_285bB5bB29Z rfl rfl (by decide) (Nat.le_of_ble_eq_true rfl) (by decide) (by decide) (fun z0 => rm_ref l Z a0 hw [] n0 h35 z0 rp rn ps ns A_rp A_rn hl4 hl5) (fun v38 h39 qv38 => ?_)
    obtain ⟨⟨rfl, gr⟩ | ⟨rfl, gr⟩, rfl⟩ := qv38
    · skip
      replace gr : Gi ns ps 0 := gr
      show W K l _ n0 _ h35 3 11 125 #[.val (.long pat), .second, .val (.long nm), .second, .val (.int (((pat &&& (7 : Int64)) % (5 : Int64)).toInt32)), .val (.ref rp), .val (.int (((nm &&& (7 : Int64)) % (6 : Int64)).toInt32)), .val (.ref rn), .val (.ref b32)] [(.int (1 : Int32)), (.int (1 : Int32))]
      refine w_icmp_ne ok at_125 (pc' := 132) (by decide) (fun hc41 => False.elim (by revert hc41; decide)) (fun hc41 => ?_)
      refine w_iconst ok at_128 (v := (1 : Int32)) rfl ?_
      refine w_goto ok at_129 (pc' := 133) (by decide) ?_
      refine w_bret ok (by simp) at_133 (by decide) (by decide) ?_
      exact rfl
    · exact absurd gx gr
  · skip
    replace gx : ¬ (Gi ns ps 0) := gx
    show W K l _ n0 _ h35 3 11 118 #[.val (.long pat), .second, .val (.long nm), .second, .val (.int (((pat &&& (7 : Int64)) % (5 : Int64)).toInt32)), .val (.ref rp), .val (.int (((nm &&& (7 : Int64)) % (6 : Int64)).toInt32)), .val (.ref rn), .val (.ref b32)] [(.int (0 : Int32))]
    refine w_aload ok at_118 rfl rfl ?_
    refine w_aload ok at_120 rfl rfl ?_
    refine w_callS ok (y := mn_7) (argsL := [(.ref rp), (.ref rn)]) (rest := [(.int (0 : Int32))]) at_122 (hw _ (List.mem_of_getElem? (i := 31) rfl)) (hw _ (List.mem_of_getElem? (i := 32) rfl)) (hw _ (List.mem_of_getElem? (i := 4) rfl)) (hw _ (List.mem_of_getElem? (i := 33) rfl)) (by decide) pd_285bB5bB29Z rfl rfl (by decide) (Nat.le_of_ble_eq_true rfl) (by decide) (by decide) (fun z0 => rm_ref l Z a0 hw [] n0 h35 z0 rp rn ps ns A_rp A_rn hl4 hl5) (fun v42 h43 qv42 => ?_)
    obtain ⟨⟨rfl, gr⟩ | ⟨rfl, gr⟩, rfl⟩ := qv42
    · exact absurd gr gx
    · skip
      replace gr : ¬ (Gi ns ps 0) := gr
      show W K l _ n0 _ h35 3 11 125 #[.val (.long pat), .second, .val (.long nm), .second, .val (.int (((pat &&& (7 : Int64)) % (5 : Int64)).toInt32)), .val (.ref rp), .val (.int (((nm &&& (7 : Int64)) % (6 : Int64)).toInt32)), .val (.ref rn), .val (.ref b32)] [(.int (0 : Int32)), (.int (0 : Int32))]
      refine w_icmp_ne ok at_125 (pc' := 132) (by decide) (fun hc45 => False.elim (by revert hc45; decide)) (fun hc45 => ?_)
      refine w_iconst ok at_128 (v := (1 : Int32)) rfl ?_
      refine w_goto ok at_129 (pc' := 133) (by decide) ?_
      refine w_bret ok (by simp) at_133 (by decide) (by decide) ?_
      exact rfl
set_option maxRecDepth 65536 in
set_option maxHeartbeats 40000000 in
theorem comes_1 {Post : Tables → Env → Array Value → State → Outcome → State → Prop} (hpost : ∀ tb e args s v u, (limb_1_1.after args s (.returned v) u = true ∧ limb_1_2.after args s (.returned v) u = true) → FrameEnd s (.returned v) u (Jvm.fieldLocs frame_1_writes args s ++ Jvm.arrayLocs frame_1_arrays args s ++ Jvm.staticLocs frame_1_statics s) 16 128 → Post tb e args s (.returned v) u) :
    ArmFor flags0 classFile x code maxLocals ret World_1 tables_1 room_1 Calls_1 rest_1 Pre_1 Post := by
  intro l hfl _ _ p e ha hc hk s m args below hf hA hF happ hP
  obtain ⟨hcalls, hrest, hpre⟩ := hP
  obtain ⟨-, -, -, hnamed, -, -, -, hat⟩ := (Spec.applies_iff hf).mp happ
  obtain ⟨hg, hn⟩ := and_e (Cond.before_iff.mp (show (Jvm.Cond.and given_1 narrow_1).before args s = true from hpre))
  obtain ⟨g0, r0⟩ := and_e hg
  obtain ⟨g1, r1⟩ := and_e r0
  obtain ⟨w0, w1, rfl⟩ : ∃ w0 w1 : Value, args = #[w0, w1] := by
    have hs : args.size = 2 := by simpa [Cond.value, given_1] using g0
    obtain ⟨L⟩ := args
    match L, hs with
    | [w0, w1], _ => exact ⟨w0, w1, rfl⟩
  have hw := fun d (hd : d ∈ tables_1) => atoms_spec (ws := Jvm.Cond.code x code maxLocals ret :: tables_1) hat d (List.mem_cons_of_mem _ hd)
  have hfit : Fit s := fun {y c} hc i hi => by
    obtain ⟨ha, rfl⟩ := Array.getElem?_eq_some_iff.mp hc
    have q := List.all_eq_true.mp ((Array.all_eq_true_iff_forall_mem.mp hF) _ (Array.getElem_mem ha)) i (List.mem_range.mpr hi)
    simpa [Array.getElem?_eq_getElem hi] using q
  obtain ⟨i0, ei0⟩ := isL_v g1
  obtain rfl : w0 = (.long i0) := Option.some.inj ei0
  obtain ⟨i1, ei1⟩ := isL_v r1
  obtain rfl : w1 = (.long i1) := Option.some.inj ei1
  obtain ⟨n, o, h1, h2, h3, _, L, rfl, ⟨rfl, N⟩, hq⟩ := rm0 l s _ hw tables_1 s.heap.size s.heap (Old.start s) i0 i1  p e ha hc hk s m _ below hf ((Spec.applies_iff_loose hf).mp happ).1 ⟨rfl, State.Warmed39.refl s, rfl⟩ trivial
  exact ⟨n, _, h1, h2, h3, hpost _ _ _ _ _ _ ⟨Cond.after_iff.mpr rfl, Cond.after_iff.mpr (eq_i res_at (Term.int_eval (1)) rfl)⟩ (frame_fin hq N (by decide) (by decide))⟩
theorem main_1_1 : Claimed_1_1 := comes_1 fun _ _ _ _ _ _ h hF => ⟨h.1, hF⟩
theorem main_1_2 : Claimed_1_2 := comes_1 fun _ _ _ _ _ _ h hF => ⟨h.2, hF⟩
end Jvm.Pilot.@@N@@
namespace Jvm.Pilot.@@N@@
open Jvm Jvm.ClassFile Sem Op Lib Jvm.Free Jvm.Stand Jvm.Pilot.@@N@@.Jvm.D
/-! MADE BY PROGRAM (witnessworld.py) out of the Statement's table words and the real class files: 9 classes; the members and pool entries that the words name. The judged class is class 1, her method 10. -/
namespace start1
open Jvm.ClassFile
def u (s : String) : CpInfo := .utf8 (stringToUtf16 s)
/-- a pool by its gaps: so many unusable entries, then the entry; so many at the end -/
def gap : Nat → List CpInfo → List CpInfo
  | 0, r => r
  | n + 1, r => .unusable :: gap n r
def poolList (es : List (Nat × CpInfo)) (last : Nat) : List CpInfo := es.foldr (fun e r => gap e.1 (e.2 :: r)) (gap last [])
def pool (es : List (Nat × CpInfo)) (last : Nat) : Array CpInfo := ⟨poolList es last⟩
def fileOf (pool : Array CpInfo) (this : Nat) (attrs : Array Attribute := #[]) (ms : Array MethodInfo := #[]) (fl : Nat := 33) (sup : Nat := 0) (ifs : Array Nat := #[]) (fds : Array FieldInfo := #[]) : ClassFile where
  minorVersion := 0
  majorVersion := 65
  constantPool := pool
  accessFlags := fl
  thisClass := this
  superClass := sup
  interfaces := ifs
  fields := fds
  methods := ms
  attributes := attrs
def plain (name : String) (sup : Option ClassId) : Class where
  name := name
  kind := .ordinary
  loader := none
  accessFlags := 33
  super := sup
  interfaces := #[]
  cf := none
  fields := #[]
  methods := #[]
  instanceTypes := #[]
  staticTypes := #[]
  resolved := #[]
  callSites := []
  init := .initialized
  statics := none
  mirror := none

def pool0 : Array CpInfo := pool [(5, u "<init>"), (0, u "()V"), (1, .class_ 10), (1, u "java/lang/Object")] 113

def k0c0 : Code := { maxStack := 0, maxLocals := 1, code := object_method_1_code, exceptionTable := #[], attributes := #[] }
def k0m0 : Method := { name := "<init>", desc := "()V", sig := { parameters := [], returnType := none }, accessFlags := 1, code := some k0c0 }
/-- java/lang/Object -/
def k0 : Class := { plain "java/lang/Object" none with
  accessFlags := 33
  interfaces := #[]
  cf := some (fileOf pool0 8 #[] #[{ accessFlags := 1, nameIndex := 5, descriptorIndex := 6, attributes := #[] }] 33 0 #[] #[])
  fields := #[]
  methods := #[k0m0]
  instanceTypes := #[]
  staticTypes := #[]
  resolved := Array.replicate 124 none
  statics := none }

def pool1 : Array CpInfo := pool [(2, .class_ 4), (1, u "java/lang/Object"), (0, u "<init>"), (0, u "()V"), (0, .long 7), (1, .long 3), (1, .methodref 12 13), (0, .class_ 14), (0, .nameAndType 15 16), (0, u "com/example/turnstile/turnstile/server/GlobMatchesPinLaw"), (0, u "cm"), (0, u "(BB)Z"), (0, .methodref 12 18), (0, .nameAndType 19 20), (0, u "seg"), (0, u "([BII[BI)Z"), (0, .methodref 12 22), (0, .nameAndType 23 24), (0, u "at"), (0, u "([BII[BIII)Z"), (0, .methodref 12 26), (0, .nameAndType 27 28), (0, u "star"), (0, u "([BI)Z"), (0, .methodref 12 30), (0, .nameAndType 31 32), (0, u "found"), (0, u "([BII[BII)Z"), (0, .long 5), (1, .methodref 12 36), (0, .nameAndType 37 38), (0, u "patByte"), (0, u "(J)B"), (0, .methodref 12 40), (0, .nameAndType 41 42), (0, u "make"), (0, u "(IBBBBB)[B"), (0, .long 6), (1, .methodref 12 46), (0, .nameAndType 47 38), (0, u "nameByte"), (0, .class_ 49), (0, u "com/example/turnstile/turnstile/server/Glob"), (0, .methodref 48 51), (0, .nameAndType 5 52), (0, u "([B)V"), (0, .methodref 48 54), (0, .nameAndType 55 56), (0, u "matches"), (0, u "([B)Z"), (0, .methodref 12 58), (0, .nameAndType 59 60), (0, u "ref"), (0, u "([B[B)Z"), (3, u "law"), (0, u "(JJ)Z")] 4

def k1m0 : Method := { name := "<init>", desc := "()V", sig := { parameters := [], returnType := none }, accessFlags := 1, code := none }
def k1c1 : Code := { maxStack := 4, maxLocals := 3, code := method_2_code, exceptionTable := #[], attributes := #[] }
def k1m1 : Method := { name := "patByte", desc := "(J)B", sig := { parameters := [.long], returnType := some .byte }, accessFlags := 10, code := some k1c1 }
def k1c2 : Code := { maxStack := 4, maxLocals := 3, code := method_3_code, exceptionTable := #[], attributes := #[] }
def k1m2 : Method := { name := "nameByte", desc := "(J)B", sig := { parameters := [.long], returnType := some .byte }, accessFlags := 10, code := some k1c2 }
def k1c3 : Code := { maxStack := 4, maxLocals := 6, code := method_4_code, exceptionTable := #[], attributes := #[] }
def k1m3 : Method := { name := "make", desc := "(IBBBBB)[B", sig := { parameters := [.int, .byte, .byte, .byte, .byte, .byte], returnType := some (.array .byte) }, accessFlags := 10, code := some k1c3 }
def k1c4 : Code := { maxStack := 2, maxLocals := 2, code := method_5_code, exceptionTable := #[], attributes := #[] }
def k1m4 : Method := { name := "cm", desc := "(BB)Z", sig := { parameters := [.byte, .byte], returnType := some .boolean }, accessFlags := 10, code := some k1c4 }
def k1c5 : Code := { maxStack := 2, maxLocals := 2, code := method_6_code, exceptionTable := #[], attributes := #[] }
def k1m5 : Method := { name := "star", desc := "([BI)Z", sig := { parameters := [(.array .byte), .int], returnType := some .boolean }, accessFlags := 10, code := some k1c5 }
def k1c6 : Code := { maxStack := 4, maxLocals := 5, code := method_7_code, exceptionTable := #[], attributes := #[] }
def k1m6 : Method := { name := "seg", desc := "([BII[BI)Z", sig := { parameters := [(.array .byte), .int, .int, (.array .byte), .int], returnType := some .boolean }, accessFlags := 10, code := some k1c6 }
def k1c7 : Code := { maxStack := 5, maxLocals := 7, code := method_8_code, exceptionTable := #[], attributes := #[] }
def k1m7 : Method := { name := "at", desc := "([BII[BIII)Z", sig := { parameters := [(.array .byte), .int, .int, (.array .byte), .int, .int, .int], returnType := some .boolean }, accessFlags := 10, code := some k1c7 }
def k1c8 : Code := { maxStack := 7, maxLocals := 6, code := method_9_code, exceptionTable := #[], attributes := #[] }
def k1m8 : Method := { name := "found", desc := "([BII[BII)Z", sig := { parameters := [(.array .byte), .int, .int, (.array .byte), .int, .int], returnType := some .boolean }, accessFlags := 10, code := some k1c8 }
def k1c9 : Code := { maxStack := 7, maxLocals := 13, code := method_10_code, exceptionTable := #[], attributes := #[] }
def k1m9 : Method := { name := "ref", desc := "([B[B)Z", sig := { parameters := [(.array .byte), (.array .byte)], returnType := some .boolean }, accessFlags := 10, code := some k1c9 }
def k1c10 : Code := { maxStack := 8, maxLocals := 9, code := code, exceptionTable := #[], attributes := #[] }
def k1m10 : Method := { name := "law", desc := "(JJ)Z", sig := { parameters := [.long, .long], returnType := some .boolean }, accessFlags := 9, code := some k1c10 }
/-- com/example/turnstile/turnstile/server/GlobMatchesPinLaw -/
def k1 : Class := { plain "com/example/turnstile/turnstile/server/GlobMatchesPinLaw" (some 0) with
  accessFlags := 49
  interfaces := #[]
  cf := some (fileOf pool1 12 #[] #[{ accessFlags := 1, nameIndex := 5, descriptorIndex := 6, attributes := #[] }, { accessFlags := 10, nameIndex := 37, descriptorIndex := 38, attributes := #[] }, { accessFlags := 10, nameIndex := 47, descriptorIndex := 38, attributes := #[] }, { accessFlags := 10, nameIndex := 41, descriptorIndex := 42, attributes := #[] }, { accessFlags := 10, nameIndex := 15, descriptorIndex := 16, attributes := #[] }, { accessFlags := 10, nameIndex := 27, descriptorIndex := 28, attributes := #[] }, { accessFlags := 10, nameIndex := 19, descriptorIndex := 20, attributes := #[] }, { accessFlags := 10, nameIndex := 23, descriptorIndex := 24, attributes := #[] }, { accessFlags := 10, nameIndex := 31, descriptorIndex := 32, attributes := #[] }, { accessFlags := 10, nameIndex := 59, descriptorIndex := 60, attributes := #[] }, { accessFlags := 9, nameIndex := 64, descriptorIndex := 65, attributes := #[] }] 49 2 #[] #[])
  fields := #[]
  methods := #[k1m0, k1m1, k1m2, k1m3, k1m4, k1m5, k1m6, k1m7, k1m8, k1m9, k1m10]
  instanceTypes := #[]
  staticTypes := #[]
  resolved := Array.replicate 70 none
  statics := none }

def pool2 : Array CpInfo := pool [(1, .methodref 2 3), (0, .class_ 4), (0, .nameAndType 5 6), (0, u "java/lang/Object"), (0, u "<init>"), (0, u "()V"), (0, .fieldref 8 9), (0, .class_ 10), (0, .nameAndType 11 12), (0, u "com/example/turnstile/turnstile/server/Glob"), (0, u "pattern"), (0, u "[B"), (2, u "([B)V"), (2, u "ALL"), (0, u "Lcom/example/turnstile/turnstile/server/Glob;"), (2, u "matches"), (0, u "([B)Z")] 5

def k2c0 : Code := { maxStack := 2, maxLocals := 2, code := prog_79_method_1_code, exceptionTable := #[], attributes := #[] }
def k2m0 : Method := { name := "<init>", desc := "([B)V", sig := { parameters := [(.array .byte)], returnType := none }, accessFlags := 0, code := some k2c0 }
def k2c1 : Code := { maxStack := 3, maxLocals := 6, code := prog_79_method_2_code, exceptionTable := #[], attributes := #[] }
def k2m1 : Method := { name := "matches", desc := "([B)Z", sig := { parameters := [(.array .byte)], returnType := some .boolean }, accessFlags := 0, code := some k2c1 }
/-- com/example/turnstile/turnstile/server/Glob -/
def k2 : Class := { plain "com/example/turnstile/turnstile/server/Glob" (some 0) with
  accessFlags := 48
  interfaces := #[]
  cf := some (fileOf pool2 8 #[] #[{ accessFlags := 0, nameIndex := 5, descriptorIndex := 15, attributes := #[] }, { accessFlags := 0, nameIndex := 22, descriptorIndex := 23, attributes := #[] }] 48 2 #[] #[{ accessFlags := 24, nameIndex := 18, descriptorIndex := 19, attributes := #[] }, { accessFlags := 18, nameIndex := 11, descriptorIndex := 12, attributes := #[] }])
  fields := #[{ name := "ALL", type := (.object "com/example/turnstile/turnstile/server/Glob"), accessFlags := 24, slot := 0, constantValue := 0 }, { name := "pattern", type := (.array .byte), accessFlags := 18, slot := 0, constantValue := 0 }]
  methods := #[k2m0, k2m1]
  instanceTypes := #[(.array .byte)]
  staticTypes := #[(.object "com/example/turnstile/turnstile/server/Glob")]
  resolved := Array.replicate 29 none
  statics := none }

def pool3 : Array CpInfo := pool [(1, u "java/lang/Cloneable"), (0, .class_ 1), (0, u "java/lang/Object"), (0, .class_ 3)] 3

/-- java/lang/Cloneable -/
def k3 : Class := { plain "java/lang/Cloneable" (some 0) with
  accessFlags := 1537
  interfaces := #[]
  cf := some (fileOf pool3 2 #[] #[] 1537 4 #[] #[])
  fields := #[]
  methods := #[]
  instanceTypes := #[]
  staticTypes := #[]
  resolved := Array.replicate 8 none
  statics := none }

def pool4 : Array CpInfo := pool [(1, u "java/io/Serializable"), (0, .class_ 1), (0, u "java/lang/Object"), (0, .class_ 3)] 3

/-- java/io/Serializable -/
def k4 : Class := { plain "java/io/Serializable" (some 0) with
  accessFlags := 1537
  interfaces := #[]
  cf := some (fileOf pool4 2 #[] #[] 1537 4 #[] #[])
  fields := #[]
  methods := #[]
  instanceTypes := #[]
  staticTypes := #[]
  resolved := Array.replicate 8 none
  statics := none }

/-- the primitive byte -/
def k5 : Class := { plain "byte" none with kind := .primitive 'B', accessFlags := 0x411 }
/-- [B -/
def k6 : Class := { plain "[B" (some 0) with kind := .array 5 .byte, interfaces := #[3, 4], accessFlags := 1041 }

/-- the primitive int -/
def k7 : Class := { plain "int" none with kind := .primitive 'I', accessFlags := 0x411 }
/-- [I -/
def k8 : Class := { plain "[I" (some 0) with kind := .array 7 .int, interfaces := #[3, 4], accessFlags := 1041 }

def heap : Heap := #[]
def classes : Array Class := #[k0, k1, k2, k3, k4, k5, k6, k7, k8]
def interned : List (Array UInt16 × Addr) := []
def slotsUsed : Nat := 0
def theMethod : MethodId := ⟨1, 10⟩
def args0 : Array Value := #[.long 5, .long 7]
def aboutOver (below : List Frame) : State where
  vm := { classes := classes, interned := interned.toArray }
  heap := heap
  slotsUsed := slotsUsed
  threads := #[{ frames := .invoking theMethod args0 :: below }]
def below0 : List Frame := [.native { method := ⟨0, 0⟩, args := #[] }]
def about1 : State := aboutOver below0
def p0 : Program := .bare "" "" ""
def e0 : Env := launch0.env 0 0 0
theorem w_frames : about1.frames = Frame.invoking theMethod args0 :: below0 := rfl
set_option maxRecDepth 65536 in
theorem w_args : argsFit about1.vm theMethod args0 = true := by decide +kernel
set_option maxRecDepth 65536 in
theorem w_heap : heapFits about1 = true := by decide +kernel
set_option maxRecDepth 65536 in
theorem w_runnable : about1.curStatus? = some .runnable := by decide +kernel
set_option maxRecDepth 65536 in
theorem w_alone : about1.alone = true := by decide +kernel
set_option maxRecDepth 65536 in
theorem w_named : about1.methodNamed? x = some theMethod := by decide +kernel
set_option maxRecDepth 65536 in
theorem w_hears : about1.hears theMethod below0 = true := by decide +kernel
set_option maxRecDepth 65536 in
theorem w_ripe : about1.ripe theMethod args0 below0 = true := by decide +kernel
theorem w_running : about1.status = .running := rfl
set_option maxRecDepth 65536 in
theorem w_room : about1.hasRoom e0.platform room_1 = true :=
  launch0.hasRoom_least _ room_1 (by decide +kernel) (by decide +kernel) (by decide +kernel) (by decide +kernel) (by decide +kernel) (by decide +kernel)
theorem allAtoms_all (ts : List Jvm.Cond) (a : Array Jvm.Value) (st : Jvm.State) : (allAtoms ts).before a st = ts.all (fun c => c.before a st) := by
  induction ts with
  | nil => rfl
  | cons c t ih =>
    show (Jvm.Cond.and c (allAtoms t)).before a st = _
    rw [Jvm.Cond.before_and, ih, List.all_cons]
def words1 : List Jvm.Cond := Jvm.Cond.code x code maxLocals ret :: tables_1
/-- a 'code' word, met by the world's own term for the bytes: nothing is compared byte by byte -/
theorem code_word {y : MethodName} {bytes : ByteArray} {mx : Nat} {rt : Option FieldType} {a : Array Value} {s : State} {m : MethodId} {meth : Method} {c : Code} (h1 : s.methodNamed? y = some m) (h2 : s.vm.method? m = some meth) (h3 : meth.code = some c) (h4 : c.code = bytes)
    (h5 : (c.maxLocals == mx && c.exceptionTable.isEmpty && decide (c.maxStack ≤ mostOperands) && decide (meth.sig.returnType = rt) && !meth.locks && decide (parseMethodDescriptor y.desc = some meth.sig)) = true) : (Jvm.Cond.code y bytes mx rt).before a s = true := by
  simp only [Bool.and_eq_true, beq_iff_eq, Bool.not_eq_true', decide_eq_true_eq] at h5
  obtain ⟨⟨⟨⟨⟨g1, g2⟩, g3⟩, g4⟩, g5⟩, g6⟩ := h5
  simp [Cond.before, Cond.holds, Cond.value, h1, h2, h3, h4, g1, g2, g3, g4, g5, g6]
def isCode : Jvm.Cond → Bool
  | .code _ _ _ _ => true
  | _ => false
theorem all_split {L : List Jvm.Cond} {P : Jvm.Cond → Bool} (h1 : L.all (fun c => isCode c || P c) = true) (h2 : ∀ c ∈ L.filter isCode, P c = true) : L.all P = true := by
  refine List.all_eq_true.mpr fun c hc => ?_
  have h := List.all_eq_true.mp h1 c hc
  rcases Bool.eq_false_or_eq_true (isCode c) with hi | hi
  · exact h2 c (List.mem_filter.mpr ⟨hc, hi⟩)
  · simpa [hi] using h
set_option maxRecDepth 65536 in
theorem w_c0 : (Jvm.Cond.code x code maxLocals ret).before args0 about1 = true := code_word (m := ⟨1, 10⟩) (meth := k1m10) (c := k1c10) (by decide +kernel) rfl rfl rfl (by decide +kernel)
set_option maxRecDepth 65536 in
theorem w_c1 : (Jvm.Cond.code ({ cls := "com/example/turnstile/turnstile/server/GlobMatchesPinLaw", name := "patByte", desc := "(J)B" } : Jvm.MethodName) method_2_code (3 : Nat) (Option.some Jvm.ClassFile.FieldType.byte)).before args0 about1 = true := code_word (m := ⟨1, 1⟩) (meth := k1m1) (c := k1c1) (by decide +kernel) rfl rfl rfl (by decide +kernel)
set_option maxRecDepth 65536 in
theorem w_c2 : (Jvm.Cond.code ({ cls := "com/example/turnstile/turnstile/server/GlobMatchesPinLaw", name := "make", desc := "(IBBBBB)[B" } : Jvm.MethodName) method_4_code (6 : Nat) (Option.some (Jvm.ClassFile.FieldType.array Jvm.ClassFile.FieldType.byte))).before args0 about1 = true := code_word (m := ⟨1, 3⟩) (meth := k1m3) (c := k1c3) (by decide +kernel) rfl rfl rfl (by decide +kernel)
set_option maxRecDepth 65536 in
theorem w_c3 : (Jvm.Cond.code ({ cls := "com/example/turnstile/turnstile/server/GlobMatchesPinLaw", name := "nameByte", desc := "(J)B" } : Jvm.MethodName) method_3_code (3 : Nat) (Option.some Jvm.ClassFile.FieldType.byte)).before args0 about1 = true := code_word (m := ⟨1, 2⟩) (meth := k1m2) (c := k1c2) (by decide +kernel) rfl rfl rfl (by decide +kernel)
set_option maxRecDepth 65536 in
theorem w_c4 : (Jvm.Cond.code ({ cls := "com/example/turnstile/turnstile/server/Glob", name := "<init>", desc := "([B)V" } : Jvm.MethodName) prog_79_method_1_code (2 : Nat) (Option.none : Option Jvm.ClassFile.FieldType)).before args0 about1 = true := code_word (m := ⟨2, 0⟩) (meth := k2m0) (c := k2c0) (by decide +kernel) rfl rfl rfl (by decide +kernel)
set_option maxRecDepth 65536 in
theorem w_c5 : (Jvm.Cond.code ({ cls := "java/lang/Object", name := "<init>", desc := "()V" } : Jvm.MethodName) object_method_1_code (1 : Nat) (Option.none : Option Jvm.ClassFile.FieldType)).before args0 about1 = true := code_word (m := ⟨0, 0⟩) (meth := k0m0) (c := k0c0) (by decide +kernel) rfl rfl rfl (by decide +kernel)
set_option maxRecDepth 65536 in
theorem w_c6 : (Jvm.Cond.code ({ cls := "com/example/turnstile/turnstile/server/Glob", name := "matches", desc := "([B)Z" } : Jvm.MethodName) prog_79_method_2_code (6 : Nat) (Option.some Jvm.ClassFile.FieldType.boolean)).before args0 about1 = true := code_word (m := ⟨2, 1⟩) (meth := k2m1) (c := k2c1) (by decide +kernel) rfl rfl rfl (by decide +kernel)
set_option maxRecDepth 65536 in
theorem w_c7 : (Jvm.Cond.code ({ cls := "com/example/turnstile/turnstile/server/GlobMatchesPinLaw", name := "ref", desc := "([B[B)Z" } : Jvm.MethodName) method_10_code (13 : Nat) (Option.some Jvm.ClassFile.FieldType.boolean)).before args0 about1 = true := code_word (m := ⟨1, 9⟩) (meth := k1m9) (c := k1c9) (by decide +kernel) rfl rfl rfl (by decide +kernel)
set_option maxRecDepth 65536 in
theorem w_c8 : (Jvm.Cond.code ({ cls := "com/example/turnstile/turnstile/server/GlobMatchesPinLaw", name := "star", desc := "([BI)Z" } : Jvm.MethodName) method_6_code (2 : Nat) (Option.some Jvm.ClassFile.FieldType.boolean)).before args0 about1 = true := code_word (m := ⟨1, 5⟩) (meth := k1m5) (c := k1c5) (by decide +kernel) rfl rfl rfl (by decide +kernel)
set_option maxRecDepth 65536 in
theorem w_c9 : (Jvm.Cond.code ({ cls := "com/example/turnstile/turnstile/server/GlobMatchesPinLaw", name := "seg", desc := "([BII[BI)Z" } : Jvm.MethodName) method_7_code (5 : Nat) (Option.some Jvm.ClassFile.FieldType.boolean)).before args0 about1 = true := code_word (m := ⟨1, 6⟩) (meth := k1m6) (c := k1c6) (by decide +kernel) rfl rfl rfl (by decide +kernel)
set_option maxRecDepth 65536 in
theorem w_c10 : (Jvm.Cond.code ({ cls := "com/example/turnstile/turnstile/server/GlobMatchesPinLaw", name := "cm", desc := "(BB)Z" } : Jvm.MethodName) method_5_code (2 : Nat) (Option.some Jvm.ClassFile.FieldType.boolean)).before args0 about1 = true := code_word (m := ⟨1, 4⟩) (meth := k1m4) (c := k1c4) (by decide +kernel) rfl rfl rfl (by decide +kernel)
set_option maxRecDepth 65536 in
theorem w_c11 : (Jvm.Cond.code ({ cls := "com/example/turnstile/turnstile/server/GlobMatchesPinLaw", name := "found", desc := "([BII[BII)Z" } : Jvm.MethodName) method_9_code (6 : Nat) (Option.some Jvm.ClassFile.FieldType.boolean)).before args0 about1 = true := code_word (m := ⟨1, 8⟩) (meth := k1m8) (c := k1c8) (by decide +kernel) rfl rfl rfl (by decide +kernel)
set_option maxRecDepth 65536 in
theorem w_c12 : (Jvm.Cond.code ({ cls := "com/example/turnstile/turnstile/server/GlobMatchesPinLaw", name := "at", desc := "([BII[BIII)Z" } : Jvm.MethodName) method_8_code (7 : Nat) (Option.some Jvm.ClassFile.FieldType.boolean)).before args0 about1 = true := code_word (m := ⟨1, 7⟩) (meth := k1m7) (c := k1c7) (by decide +kernel) rfl rfl rfl (by decide +kernel)
def codes1 : List Jvm.Cond := [Jvm.Cond.code x code maxLocals ret, Jvm.Cond.code ({ cls := "com/example/turnstile/turnstile/server/GlobMatchesPinLaw", name := "patByte", desc := "(J)B" } : Jvm.MethodName) method_2_code (3 : Nat) (Option.some Jvm.ClassFile.FieldType.byte), Jvm.Cond.code ({ cls := "com/example/turnstile/turnstile/server/GlobMatchesPinLaw", name := "make", desc := "(IBBBBB)[B" } : Jvm.MethodName) method_4_code (6 : Nat) (Option.some (Jvm.ClassFile.FieldType.array Jvm.ClassFile.FieldType.byte)), Jvm.Cond.code ({ cls := "com/example/turnstile/turnstile/server/GlobMatchesPinLaw", name := "nameByte", desc := "(J)B" } : Jvm.MethodName) method_3_code (3 : Nat) (Option.some Jvm.ClassFile.FieldType.byte), Jvm.Cond.code ({ cls := "com/example/turnstile/turnstile/server/Glob", name := "<init>", desc := "([B)V" } : Jvm.MethodName) prog_79_method_1_code (2 : Nat) (Option.none : Option Jvm.ClassFile.FieldType), Jvm.Cond.code ({ cls := "java/lang/Object", name := "<init>", desc := "()V" } : Jvm.MethodName) object_method_1_code (1 : Nat) (Option.none : Option Jvm.ClassFile.FieldType), Jvm.Cond.code ({ cls := "com/example/turnstile/turnstile/server/Glob", name := "matches", desc := "([B)Z" } : Jvm.MethodName) prog_79_method_2_code (6 : Nat) (Option.some Jvm.ClassFile.FieldType.boolean), Jvm.Cond.code ({ cls := "com/example/turnstile/turnstile/server/GlobMatchesPinLaw", name := "ref", desc := "([B[B)Z" } : Jvm.MethodName) method_10_code (13 : Nat) (Option.some Jvm.ClassFile.FieldType.boolean), Jvm.Cond.code ({ cls := "com/example/turnstile/turnstile/server/GlobMatchesPinLaw", name := "star", desc := "([BI)Z" } : Jvm.MethodName) method_6_code (2 : Nat) (Option.some Jvm.ClassFile.FieldType.boolean), Jvm.Cond.code ({ cls := "com/example/turnstile/turnstile/server/GlobMatchesPinLaw", name := "seg", desc := "([BII[BI)Z" } : Jvm.MethodName) method_7_code (5 : Nat) (Option.some Jvm.ClassFile.FieldType.boolean), Jvm.Cond.code ({ cls := "com/example/turnstile/turnstile/server/GlobMatchesPinLaw", name := "cm", desc := "(BB)Z" } : Jvm.MethodName) method_5_code (2 : Nat) (Option.some Jvm.ClassFile.FieldType.boolean), Jvm.Cond.code ({ cls := "com/example/turnstile/turnstile/server/GlobMatchesPinLaw", name := "found", desc := "([BII[BII)Z" } : Jvm.MethodName) method_9_code (6 : Nat) (Option.some Jvm.ClassFile.FieldType.boolean), Jvm.Cond.code ({ cls := "com/example/turnstile/turnstile/server/GlobMatchesPinLaw", name := "at", desc := "([BII[BIII)Z" } : Jvm.MethodName) method_8_code (7 : Nat) (Option.some Jvm.ClassFile.FieldType.boolean)]
set_option maxRecDepth 65536 in
theorem codes_eq : words1.filter isCode = codes1 := rfl
theorem w_codes : ∀ c ∈ words1.filter isCode, c.before args0 about1 = true := by
  rw [codes_eq]
  intro c hc
  simp only [codes1, List.mem_cons, List.not_mem_nil, or_false] at hc
  rcases hc with rfl | rfl | rfl | rfl | rfl | rfl | rfl | rfl | rfl | rfl | rfl | rfl | rfl
  · exact w_c0
  · exact w_c1
  · exact w_c2
  · exact w_c3
  · exact w_c4
  · exact w_c5
  · exact w_c6
  · exact w_c7
  · exact w_c8
  · exact w_c9
  · exact w_c10
  · exact w_c11
  · exact w_c12
set_option maxRecDepth 65536 in
theorem w_t1 : (words1.take 24).all (fun c => isCode c || c.before args0 about1) = true := by decide +kernel
set_option maxRecDepth 65536 in
theorem w_t2 : ((words1.drop 24).take 24).all (fun c => isCode c || c.before args0 about1) = true := by decide +kernel
set_option maxRecDepth 65536 in
theorem w_t3 : ((words1.drop 24).drop 24).all (fun c => isCode c || c.before args0 about1) = true := by decide +kernel
theorem w_tables : (allAtoms (Jvm.Cond.code x code maxLocals ret :: tables_1)).before args0 about1 = true := by
  rw [allAtoms_all]
  show words1.all (fun c => c.before args0 about1) = true
  refine all_split ?_ w_codes
  rw [← List.take_append_drop 24 words1, List.all_append, w_t1, ← List.take_append_drop 24 (words1.drop 24), List.all_append, w_t2, w_t3]
  rfl
set_option maxRecDepth 65536 in
theorem w_case : (Jvm.Cond.and given_1 narrow_1).before args0 about1 = true := by decide +kernel
theorem w_applies : (headSpec (Jvm.Cond.code x code maxLocals ret :: tables_1) room_1).applies x e0.platform about1 = true :=
  (Spec.applies_iff w_frames).mpr ⟨w_running, w_runnable, w_alone, w_named, w_hears, w_ripe, w_room, w_tables⟩
theorem atStart : AtStart classFile x code maxLocals ret World_1 tables_1 room_1 Calls_1 rest_1 Pre_1 launch0 p0 e0 about1 theMethod args0 below0 :=
  ⟨lists_1, trivial, launch0.admits_env _ _ _, launch0.least_env, fairChoices_fair.cas, fairChoices_fair.clock, w_frames, w_args, w_heap, w_applies, trivial, trivial, w_case⟩
end start1
theorem witness_1 : WitnessClaimed_1 := ⟨start1.p0, start1.e0, start1.about1, start1.theMethod, start1.args0, start1.below0, start1.atStart⟩
end Jvm.Pilot.@@N@@
