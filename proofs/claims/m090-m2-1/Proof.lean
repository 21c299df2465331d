import JvmDerived
import JvmDerived.Pilot.@@N@@Statement
import JvmDerived.Pilot.@@N@@Code
set_option linter.unusedVariables false
set_option linter.unusedSimpArgs false
namespace Jvm.OwnKit
open Sem ClassFile Op Lib Jvm.Stand Jvm.Free Jvm.LawKit Jvm.RoadKit Bundle
/-- the run's own things: program, environment, start state, method, arguments, frames below, its record, its code -/
abbrev Cx := Program × Env × State × MethodId × Array Value × List Frame × Method × Code
def Ok (K : Cx) (Z : State) (n0 : Nat) (own : String) (code : ByteArray) (maxL : Nat) (ret : Option FieldType) (nm : String) : Prop :=
  match K with
  | (p, _, s, m, _, _, meth, c) => p.tables.exec = Jvm.exec ∧ Z.Warmed39 s.vm ∧ s.vm.findClass own = some m.cls ∧ c.code = code ∧ c.maxLocals = maxL ∧ meth.sig.returnType = ret ∧ meth.name = nm ∧ meth.locks = false ∧ Old Z n0 s.heap
/-- from heap h, with k cells and n slots made, at pc with locals L and stack S, the run comes to a return that P likes -/
def W (K : Cx) (l : Launch) (R : Room) (n0 : Nat) (P : Option Value → Heap → Prop) (h : Heap) (k n pc : Nat) (L : Array Slot) (S : List Value) : Prop :=
  match K with
  | (p, e, s, m, args, below, meth, c) => ∀ T locs, Stand p l e R s m args below meth c T locs k n → T.heap = h → Fr n0 locs →
    ∃ s₂ o, Steps p.tables e below (T.setTop (mkF m pc L S)) s₂ ∧ s₂.status = .running ∧ Ended s₂ below o ∧ ∃ v L', o = .returned v ∧ (P v s₂.heap ∧ Fr n0 L') ∧ FrameEnd s o s₂ L' R.cells R.slots
/-- a method's contract: called with as' at heap h it returns what Q likes -/
abbrev Met (l : Launch) (Z : State) (n0 : Nat) (y : MethodName) (bytes : ByteArray) (mL : Nat) (rt : Option FieldType) (ws : List Cond) (rm : Room) (as' : Array Value) (h : Heap) (Q : Option Value → Heap → Prop) : Prop :=
  MetFree l y (head1 (Cond.code y bytes mL rt :: ws) rm) (fun a U => a = as' ∧ Z.Warmed39 U.vm ∧ U.heap = h) (fun _ _ _ _ _ => True) (fun _ U o U' => ∃ v L, o = .returned v ∧ (Q v U'.heap ∧ Fr n0 L) ∧ FrameEnd U o U' L rm.cells rm.slots)
theorem old_now {p : Program} {l : Launch} {e : Env} {R : Room} {s : State} {m : MethodId} {args : Array Value} {below : List Frame} {meth : Method} {c : Code} {T : State} {locs : List Loc} {k n : Nat} {Z : State} {n0 : Nat} (O : Old Z n0 s.heap) (X : Stand p l e R s m args below meth c T locs k n) (N : Fr n0 locs) : Old Z n0 T.heap := by
  refine ⟨O.1, Nat.le_trans O.2.1 X.same.2.1, fun a c hc => ?_⟩
  have h1 := O.2.2 a c hc
  have ha : a < n0 := O.1 ▸ (Array.getElem?_eq_some_iff.mp hc).1
  obtain ⟨c', q1, q2, q3, q4⟩ := X.same.2.2.2.2.2 a c h1
  have q5 : c'.slots = c.slots := Array.ext_getElem? fun i => q4 i fun hm => Nat.lt_irrefl _ (Nat.lt_of_lt_of_le ha (N _ hm))
  rw [q5] at q2
  have q6 : T.heap[a]? = some c' := q1
  rw [q6, q2]
theorem old_ge {p : Program} {l : Launch} {e : Env} {R : Room} {s : State} {m : MethodId} {args : Array Value} {below : List Frame} {meth : Method} {c : Code} {T : State} {locs : List Loc} {k n : Nat} {Z : State} {n0 : Nat} (O : Old Z n0 s.heap) (X : Stand p l e R s m args below meth c T locs k n) (N : Fr n0 locs) : n0 ≤ T.heap.size := by
  have q := old_now O X N
  rw [← q.1]; exact q.2.1
theorem met_of {l : Launch} {Z : State} {n0 : Nat} {y : MethodName} {bytes : ByteArray} {mL : Nat} {rt : Option FieldType} {ws : List Cond} {rm : Room} {as' : Array Value} {h : Heap} {Q : Option Value → Heap → Prop} (Z0 : Old Z n0 h) (pn : plainFor y = true) {Ls : Array Slot} (ef : ∀ m, entryFrame m as' mL = mkF m 0 Ls [])
    (H : ∀ K, Ok K Z n0 y.cls bytes mL rt y.name → W K l rm n0 Q h 0 0 0 Ls []) : Met l Z n0 y bytes mL rt ws rm as' h Q := by
  refine MetFree.of_bodySF pn hisR ?_
  intro p e s m args below meth c s₁ Bd hml0 hP hK
  obtain ⟨rfl, hZ, hh⟩ := hP
  have hnm := (name_of_methodNamed Bd.named Bd.method).1
  have X0 : Stand p l e rm s m args below meth c s₁ [] 0 0 := Stand.of_body Bd
  have e0 : s₁.heap = h := by rw [← hh, Bd.state]; rfl
  obtain ⟨s₂, o, st, r⟩ := H (p, e, s, m, args, below, meth, c) ⟨Bd.exec, hZ, findClass_of_methodNamed Bd.named, Bd.bytes, hml0, Bd.returns, hnm, Bd.notSynchronized, by show Old Z n0 s.heap; rw [hh]; exact Z0⟩ s₁ [] X0 e0 (Fr.nil n0)
  exact ⟨s₂, o, castTop (ef m) st, r⟩
section S
variable {K : Cx} {l : Launch} {R : Room} {Z : State} {n0 : Nat} {P : Option Value → Heap → Prop} {h : Heap} {k n pc : Nat} {L : Array Slot} {S : List Value} {own : String} {code : ByteArray} {maxL : Nat} {ret : Option FieldType} {nm : String} {a0 : Array Value}
theorem W.mono {P' : Option Value → Heap → Prop} (q : ∀ v h, P v h → P' v h) (w : W K l R n0 P h k n pc L S) : W K l R n0 P' h k n pc L S := by
  obtain ⟨p, e, s, m, args, below, meth, c⟩ := K
  intro T locs X eT N
  obtain ⟨s₂, o, st, r1, r2, v, L', r3, ⟨r4, r5⟩, r6⟩ := w T locs X eT N
  exact ⟨s₂, o, st, r1, r2, v, L', r3, ⟨q _ _ r4, r5⟩, r6⟩
theorem W.more {k' n' : Nat} (w : W K l R n0 P h k' n' pc L S) (hk : k ≤ k') (hn : n ≤ n') : W K l R n0 P h k n pc L S := by
  obtain ⟨p, e, s, m, args, below, meth, c⟩ := K
  intro T locs X eT N
  exact w T locs (X.more hk hn) eT N
theorem w_iloadN (ok : Ok K Z n0 own code maxL ret nm) {i : Fin 4} {v : Int32} (hd : decode code pc = .ok (.iload_n i, 1)) (hl : L[i.val]? = some (.val (.int v))) (w : W K l R n0 P h k n (pc + 1) L (.int v :: S)) : W K l R n0 P h k n pc L (S) := by
  obtain ⟨p, e, s, m, args, below, meth, c⟩ := K
  obtain ⟨hx, hZ, hown, hby, -⟩ := ok
  intro T locs X eT N
  obtain ⟨s₂, o, st, r⟩ := w T locs X eT N
  exact ⟨s₂, o, XS.iloadN X.here hx rfl (hb hby hd) hl st, r⟩
theorem w_iload (ok : Ok K Z n0 own code maxL ret nm) {i : Nat} {v : Int32} (hd : decode code pc = .ok (.iload i, 2)) (hl : L[i]? = some (.val (.int v))) (w : W K l R n0 P h k n (pc + 2) L (.int v :: S)) : W K l R n0 P h k n pc L (S) := by
  obtain ⟨p, e, s, m, args, below, meth, c⟩ := K
  obtain ⟨hx, hZ, hown, hby, -⟩ := ok
  intro T locs X eT N
  obtain ⟨s₂, o, st, r⟩ := w T locs X eT N
  exact ⟨s₂, o, XS.iload X.here hx rfl (hb hby hd) hl st, r⟩
theorem w_istoreN (ok : Ok K Z n0 own code maxL ret nm) {i : Fin 4} {v : Int32} {L' : Array Slot} (hd : decode code pc = .ok (.istore_n i, 1)) (hl : storeLocals L i.val (.int v) = some L') (w : W K l R n0 P h k n (pc + 1) L' (S)) : W K l R n0 P h k n pc L (.int v :: S) := by
  obtain ⟨p, e, s, m, args, below, meth, c⟩ := K
  obtain ⟨hx, hZ, hown, hby, -⟩ := ok
  intro T locs X eT N
  obtain ⟨s₂, o, st, r⟩ := w T locs X eT N
  exact ⟨s₂, o, XS.istoreN X.here hx rfl (hb hby hd) rfl hl st, r⟩
theorem w_istore (ok : Ok K Z n0 own code maxL ret nm) {i : Nat} {v : Int32} {L' : Array Slot} (hd : decode code pc = .ok (.istore i, 2)) (hl : storeLocals L i (.int v) = some L') (w : W K l R n0 P h k n (pc + 2) L' (S)) : W K l R n0 P h k n pc L (.int v :: S) := by
  obtain ⟨p, e, s, m, args, below, meth, c⟩ := K
  obtain ⟨hx, hZ, hown, hby, -⟩ := ok
  intro T locs X eT N
  obtain ⟨s₂, o, st, r⟩ := w T locs X eT N
  exact ⟨s₂, o, XS.istore X.here hx rfl (hb hby hd) rfl hl st, r⟩
theorem w_lloadN (ok : Ok K Z n0 own code maxL ret nm) {i : Fin 4} {v : Int64} (hd : decode code pc = .ok (.lload_n i, 1)) (hl : L[i.val]? = some (.val (.long v))) (w : W K l R n0 P h k n (pc + 1) L (.long v :: S)) : W K l R n0 P h k n pc L (S) := by
  obtain ⟨p, e, s, m, args, below, meth, c⟩ := K
  obtain ⟨hx, hZ, hown, hby, -⟩ := ok
  intro T locs X eT N
  obtain ⟨s₂, o, st, r⟩ := w T locs X eT N
  exact ⟨s₂, o, XS.lloadN X.here hx rfl (hb hby hd) hl st, r⟩
theorem w_lload (ok : Ok K Z n0 own code maxL ret nm) {i : Nat} {v : Int64} (hd : decode code pc = .ok (.lload i, 2)) (hl : L[i]? = some (.val (.long v))) (w : W K l R n0 P h k n (pc + 2) L (.long v :: S)) : W K l R n0 P h k n pc L (S) := by
  obtain ⟨p, e, s, m, args, below, meth, c⟩ := K
  obtain ⟨hx, hZ, hown, hby, -⟩ := ok
  intro T locs X eT N
  obtain ⟨s₂, o, st, r⟩ := w T locs X eT N
  exact ⟨s₂, o, XS.lload X.here hx rfl (hb hby hd) hl st, r⟩
theorem w_lstoreN (ok : Ok K Z n0 own code maxL ret nm) {i : Fin 4} {v : Int64} {L' : Array Slot} (hd : decode code pc = .ok (.lstore_n i, 1)) (hl : storeLocals L i.val (.long v) = some L') (w : W K l R n0 P h k n (pc + 1) L' (S)) : W K l R n0 P h k n pc L (.long v :: S) := by
  obtain ⟨p, e, s, m, args, below, meth, c⟩ := K
  obtain ⟨hx, hZ, hown, hby, -⟩ := ok
  intro T locs X eT N
  obtain ⟨s₂, o, st, r⟩ := w T locs X eT N
  exact ⟨s₂, o, XS.lstoreN X.here hx rfl (hb hby hd) rfl hl st, r⟩
theorem w_lstore (ok : Ok K Z n0 own code maxL ret nm) {i : Nat} {v : Int64} {L' : Array Slot} (hd : decode code pc = .ok (.lstore i, 2)) (hl : storeLocals L i (.long v) = some L') (w : W K l R n0 P h k n (pc + 2) L' (S)) : W K l R n0 P h k n pc L (.long v :: S) := by
  obtain ⟨p, e, s, m, args, below, meth, c⟩ := K
  obtain ⟨hx, hZ, hown, hby, -⟩ := ok
  intro T locs X eT N
  obtain ⟨s₂, o, st, r⟩ := w T locs X eT N
  exact ⟨s₂, o, XS.lstore X.here hx rfl (hb hby hd) rfl hl st, r⟩
theorem w_aloadN (ok : Ok K Z n0 own code maxL ret nm) {i : Fin 4} {v : Value} (hd : decode code pc = .ok (.aload_n i, 1)) (hl : L[i.val]? = some (.val v)) (hv : v.isRef = true) (w : W K l R n0 P h k n (pc + 1) L (v :: S)) : W K l R n0 P h k n pc L (S) := by
  obtain ⟨p, e, s, m, args, below, meth, c⟩ := K
  obtain ⟨hx, hZ, hown, hby, -⟩ := ok
  intro T locs X eT N
  obtain ⟨s₂, o, st, r⟩ := w T locs X eT N
  exact ⟨s₂, o, XS.aloadN X.here hx rfl (hb hby hd) hl hv st, r⟩
theorem w_aload (ok : Ok K Z n0 own code maxL ret nm) {i : Nat} {v : Value} (hd : decode code pc = .ok (.aload i, 2)) (hl : L[i]? = some (.val v)) (hv : v.isRef = true) (w : W K l R n0 P h k n (pc + 2) L (v :: S)) : W K l R n0 P h k n pc L (S) := by
  obtain ⟨p, e, s, m, args, below, meth, c⟩ := K
  obtain ⟨hx, hZ, hown, hby, -⟩ := ok
  intro T locs X eT N
  obtain ⟨s₂, o, st, r⟩ := w T locs X eT N
  exact ⟨s₂, o, XS.aload X.here hx rfl (hb hby hd) hl hv st, r⟩
theorem w_astoreN (ok : Ok K Z n0 own code maxL ret nm) {i : Fin 4} {v : Value} {L' : Array Slot} (hd : decode code pc = .ok (.astore_n i, 1)) (hv : v.isRef = true) (hl : storeLocals L i.val v = some L') (w : W K l R n0 P h k n (pc + 1) L' (S)) : W K l R n0 P h k n pc L (v :: S) := by
  obtain ⟨p, e, s, m, args, below, meth, c⟩ := K
  obtain ⟨hx, hZ, hown, hby, -⟩ := ok
  intro T locs X eT N
  obtain ⟨s₂, o, st, r⟩ := w T locs X eT N
  exact ⟨s₂, o, XS.astoreN X.here hx rfl (hb hby hd) rfl hv hl st, r⟩
theorem w_astore (ok : Ok K Z n0 own code maxL ret nm) {i : Nat} {v : Value} {L' : Array Slot} (hd : decode code pc = .ok (.astore i, 2)) (hv : v.isRef = true) (hl : storeLocals L i v = some L') (w : W K l R n0 P h k n (pc + 2) L' (S)) : W K l R n0 P h k n pc L (v :: S) := by
  obtain ⟨p, e, s, m, args, below, meth, c⟩ := K
  obtain ⟨hx, hZ, hown, hby, -⟩ := ok
  intro T locs X eT N
  obtain ⟨s₂, o, st, r⟩ := w T locs X eT N
  exact ⟨s₂, o, XS.astore X.here hx rfl (hb hby hd) rfl hv hl st, r⟩
theorem w_iconst (ok : Ok K Z n0 own code maxL ret nm) {i : Int} {v : Int32} (hd : decode code pc = .ok (.iconst i, 1)) (hv : Int32.ofInt i = v) (w : W K l R n0 P h k n (pc + 1) L (.int v :: S)) : W K l R n0 P h k n pc L (S) := by
  obtain ⟨p, e, s, m, args, below, meth, c⟩ := K
  obtain ⟨hx, hZ, hown, hby, -⟩ := ok
  intro T locs X eT N
  obtain ⟨s₂, o, st, r⟩ := w T locs X eT N
  exact ⟨s₂, o, XS.iconst X.here hx rfl (hb hby hd) (hv ▸ st), r⟩
theorem w_bipush (ok : Ok K Z n0 own code maxL ret nm) {i : Int} {v : Int32} (hd : decode code pc = .ok (.bipush i, 2)) (hv : (Int8.ofInt i).toInt32 = v) (w : W K l R n0 P h k n (pc + 2) L (.int v :: S)) : W K l R n0 P h k n pc L (S) := by
  obtain ⟨p, e, s, m, args, below, meth, c⟩ := K
  obtain ⟨hx, hZ, hown, hby, -⟩ := ok
  intro T locs X eT N
  obtain ⟨s₂, o, st, r⟩ := w T locs X eT N
  exact ⟨s₂, o, XS.bipush X.here hx rfl (hb hby hd) (hv ▸ st), r⟩
theorem w_sipush (ok : Ok K Z n0 own code maxL ret nm) {i : Int} {v : Int32} (hd : decode code pc = .ok (.sipush i, 3)) (hv : (Int16.ofInt i).toInt32 = v) (w : W K l R n0 P h k n (pc + 3) L (.int v :: S)) : W K l R n0 P h k n pc L (S) := by
  obtain ⟨p, e, s, m, args, below, meth, c⟩ := K
  obtain ⟨hx, hZ, hown, hby, -⟩ := ok
  intro T locs X eT N
  obtain ⟨s₂, o, st, r⟩ := w T locs X eT N
  exact ⟨s₂, o, XS.sipush X.here hx rfl (hb hby hd) (hv ▸ st), r⟩
theorem w_lconst (ok : Ok K Z n0 own code maxL ret nm) {i : Fin 2} {v : Int64} (hd : decode code pc = .ok (.lconst i, 1)) (hv : Int64.ofNat i = v) (w : W K l R n0 P h k n (pc + 1) L (.long v :: S)) : W K l R n0 P h k n pc L (S) := by
  obtain ⟨p, e, s, m, args, below, meth, c⟩ := K
  obtain ⟨hx, hZ, hown, hby, -⟩ := ok
  intro T locs X eT N
  obtain ⟨s₂, o, st, r⟩ := w T locs X eT N
  exact ⟨s₂, o, XS.lconst X.here hx rfl (hb hby hd) (hv ▸ st), r⟩
theorem w_aconstNull (ok : Ok K Z n0 own code maxL ret nm)  (hd : decode code pc = .ok (.aconst_null, 1)) (w : W K l R n0 P h k n (pc + 1) L (.null :: S)) : W K l R n0 P h k n pc L (S) := by
  obtain ⟨p, e, s, m, args, below, meth, c⟩ := K
  obtain ⟨hx, hZ, hown, hby, -⟩ := ok
  intro T locs X eT N
  obtain ⟨s₂, o, st, r⟩ := w T locs X eT N
  exact ⟨s₂, o, XS.aconstNull X.here hx rfl (hb hby hd)  st, r⟩
theorem w_dup (ok : Ok K Z n0 own code maxL ret nm) {v : Value} (hd : decode code pc = .ok (.dup, 1)) (hv : v.category = 1) (w : W K l R n0 P h k n (pc + 1) L (v :: v :: S)) : W K l R n0 P h k n pc L (v :: S) := by
  obtain ⟨p, e, s, m, args, below, meth, c⟩ := K
  obtain ⟨hx, hZ, hown, hby, -⟩ := ok
  intro T locs X eT N
  obtain ⟨s₂, o, st, r⟩ := w T locs X eT N
  exact ⟨s₂, o, XS.dup X.here hx rfl (hb hby hd) rfl hv st, r⟩
theorem w_dupX1 (ok : Ok K Z n0 own code maxL ret nm) {v u : Value} (hd : decode code pc = .ok (.dup_x1, 1)) (hv : v.category = 1) (hu : u.category = 1) (w : W K l R n0 P h k n (pc + 1) L (v :: u :: v :: S)) : W K l R n0 P h k n pc L (v :: u :: S) := by
  obtain ⟨p, e, s, m, args, below, meth, c⟩ := K
  obtain ⟨hx, hZ, hown, hby, -⟩ := ok
  intro T locs X eT N
  obtain ⟨s₂, o, st, r⟩ := w T locs X eT N
  exact ⟨s₂, o, XS.dupX1 X.here hx rfl (hb hby hd) rfl hv hu st, r⟩
theorem w_pop (ok : Ok K Z n0 own code maxL ret nm) {v : Value} (hd : decode code pc = .ok (.pop, 1)) (hv : v.category = 1) (w : W K l R n0 P h k n (pc + 1) L (S)) : W K l R n0 P h k n pc L (v :: S) := by
  obtain ⟨p, e, s, m, args, below, meth, c⟩ := K
  obtain ⟨hx, hZ, hown, hby, -⟩ := ok
  intro T locs X eT N
  obtain ⟨s₂, o, st, r⟩ := w T locs X eT N
  exact ⟨s₂, o, XS.pop X.here hx rfl (hb hby hd) rfl hv st, r⟩
theorem w_dup2 (ok : Ok K Z n0 own code maxL ret nm) {v u : Value} (hd : decode code pc = .ok (.dup2, 1)) (hv : v.category = 1) (hu : u.category = 1) (w : W K l R n0 P h k n (pc + 1) L (v :: u :: v :: u :: S)) : W K l R n0 P h k n pc L (v :: u :: S) := by
  obtain ⟨p, e, s, m, args, below, meth, c⟩ := K
  obtain ⟨hx, hZ, hown, hby, -⟩ := ok
  intro T locs X eT N
  obtain ⟨s₂, o, st, r⟩ := w T locs X eT N
  exact ⟨s₂, o, XT.dup2 X.here hx rfl (hb hby hd) rfl hv hu st, r⟩
theorem w_iinc (ok : Ok K Z n0 own code maxL ret nm) {i : Nat} {c : Int} {v u : Int32} {L' : Array Slot} (hd : decode code pc = .ok (.iinc i c, 3)) (hu : Int32.ofInt c = u) (hl : L[i]? = some (.val (.int v))) (hl' : storeLocals L i (.int (v + u)) = some L') (w : W K l R n0 P h k n (pc + 3) L' (S)) : W K l R n0 P h k n pc L (S) := by
  obtain ⟨p, e, s, m, args, below, meth, c⟩ := K
  obtain ⟨hx, hZ, hown, hby, -⟩ := ok
  intro T locs X eT N
  obtain ⟨s₂, o, st, r⟩ := w T locs X eT N
  exact ⟨s₂, o, XS.iinc X.here hx rfl (hb hby hd) hl (by rw [hu]; exact hl') st, r⟩
theorem w_iadd (ok : Ok K Z n0 own code maxL ret nm) {x y : Int32} (hd : decode code pc = .ok (.iadd, 1)) (w : W K l R n0 P h k n (pc + 1) L (.int (x + y) :: S)) : W K l R n0 P h k n pc L (.int y :: .int x :: S) := by
  obtain ⟨p, e, s, m, args, below, meth, c⟩ := K
  obtain ⟨hx, hZ, hown, hby, -⟩ := ok
  intro T locs X eT N
  obtain ⟨s₂, o, st, r⟩ := w T locs X eT N
  exact ⟨s₂, o, XS.iadd X.here hx rfl (hb hby hd) rfl st, r⟩
theorem w_isub (ok : Ok K Z n0 own code maxL ret nm) {x y : Int32} (hd : decode code pc = .ok (.isub, 1)) (w : W K l R n0 P h k n (pc + 1) L (.int (x - y) :: S)) : W K l R n0 P h k n pc L (.int y :: .int x :: S) := by
  obtain ⟨p, e, s, m, args, below, meth, c⟩ := K
  obtain ⟨hx, hZ, hown, hby, -⟩ := ok
  intro T locs X eT N
  obtain ⟨s₂, o, st, r⟩ := w T locs X eT N
  exact ⟨s₂, o, XS.isub X.here hx rfl (hb hby hd) rfl st, r⟩
theorem w_imul (ok : Ok K Z n0 own code maxL ret nm) {x y : Int32} (hd : decode code pc = .ok (.imul, 1)) (w : W K l R n0 P h k n (pc + 1) L (.int (x * y) :: S)) : W K l R n0 P h k n pc L (.int y :: .int x :: S) := by
  obtain ⟨p, e, s, m, args, below, meth, c⟩ := K
  obtain ⟨hx, hZ, hown, hby, -⟩ := ok
  intro T locs X eT N
  obtain ⟨s₂, o, st, r⟩ := w T locs X eT N
  exact ⟨s₂, o, XS.imul X.here hx rfl (hb hby hd) rfl st, r⟩
theorem w_iand (ok : Ok K Z n0 own code maxL ret nm) {x y : Int32} (hd : decode code pc = .ok (.iand, 1)) (w : W K l R n0 P h k n (pc + 1) L (.int (x &&& y) :: S)) : W K l R n0 P h k n pc L (.int y :: .int x :: S) := by
  obtain ⟨p, e, s, m, args, below, meth, c⟩ := K
  obtain ⟨hx, hZ, hown, hby, -⟩ := ok
  intro T locs X eT N
  obtain ⟨s₂, o, st, r⟩ := w T locs X eT N
  exact ⟨s₂, o, XS.iand X.here hx rfl (hb hby hd) rfl st, r⟩
theorem w_ior (ok : Ok K Z n0 own code maxL ret nm) {x y : Int32} (hd : decode code pc = .ok (.ior, 1)) (w : W K l R n0 P h k n (pc + 1) L (.int (x ||| y) :: S)) : W K l R n0 P h k n pc L (.int y :: .int x :: S) := by
  obtain ⟨p, e, s, m, args, below, meth, c⟩ := K
  obtain ⟨hx, hZ, hown, hby, -⟩ := ok
  intro T locs X eT N
  obtain ⟨s₂, o, st, r⟩ := w T locs X eT N
  exact ⟨s₂, o, XS.ior X.here hx rfl (hb hby hd) rfl st, r⟩
theorem w_ixor (ok : Ok K Z n0 own code maxL ret nm) {x y : Int32} (hd : decode code pc = .ok (.ixor, 1)) (w : W K l R n0 P h k n (pc + 1) L (.int (x ^^^ y) :: S)) : W K l R n0 P h k n pc L (.int y :: .int x :: S) := by
  obtain ⟨p, e, s, m, args, below, meth, c⟩ := K
  obtain ⟨hx, hZ, hown, hby, -⟩ := ok
  intro T locs X eT N
  obtain ⟨s₂, o, st, r⟩ := w T locs X eT N
  exact ⟨s₂, o, XS.ixor X.here hx rfl (hb hby hd) rfl st, r⟩
theorem w_ishl (ok : Ok K Z n0 own code maxL ret nm) {x y : Int32} (hd : decode code pc = .ok (.ishl, 1)) (w : W K l R n0 P h k n (pc + 1) L (.int (x <<< (y &&& 31)) :: S)) : W K l R n0 P h k n pc L (.int y :: .int x :: S) := by
  obtain ⟨p, e, s, m, args, below, meth, c⟩ := K
  obtain ⟨hx, hZ, hown, hby, -⟩ := ok
  intro T locs X eT N
  obtain ⟨s₂, o, st, r⟩ := w T locs X eT N
  exact ⟨s₂, o, XS.ishl X.here hx rfl (hb hby hd) rfl st, r⟩
theorem w_ishr (ok : Ok K Z n0 own code maxL ret nm) {x y : Int32} (hd : decode code pc = .ok (.ishr, 1)) (w : W K l R n0 P h k n (pc + 1) L (.int (x >>> (y &&& 31)) :: S)) : W K l R n0 P h k n pc L (.int y :: .int x :: S) := by
  obtain ⟨p, e, s, m, args, below, meth, c⟩ := K
  obtain ⟨hx, hZ, hown, hby, -⟩ := ok
  intro T locs X eT N
  obtain ⟨s₂, o, st, r⟩ := w T locs X eT N
  exact ⟨s₂, o, XS.ishr X.here hx rfl (hb hby hd) rfl st, r⟩
theorem w_iushr (ok : Ok K Z n0 own code maxL ret nm) {x y : Int32} (hd : decode code pc = .ok (.iushr, 1)) (w : W K l R n0 P h k n (pc + 1) L (.int (XT.ushr x y) :: S)) : W K l R n0 P h k n pc L (.int y :: .int x :: S) := by
  obtain ⟨p, e, s, m, args, below, meth, c⟩ := K
  obtain ⟨hx, hZ, hown, hby, -⟩ := ok
  intro T locs X eT N
  obtain ⟨s₂, o, st, r⟩ := w T locs X eT N
  exact ⟨s₂, o, XS.iushr X.here hx rfl (hb hby hd) rfl st, r⟩
theorem w_ladd (ok : Ok K Z n0 own code maxL ret nm) {x y : Int64} (hd : decode code pc = .ok (.ladd, 1)) (w : W K l R n0 P h k n (pc + 1) L (.long (x + y) :: S)) : W K l R n0 P h k n pc L (.long y :: .long x :: S) := by
  obtain ⟨p, e, s, m, args, below, meth, c⟩ := K
  obtain ⟨hx, hZ, hown, hby, -⟩ := ok
  intro T locs X eT N
  obtain ⟨s₂, o, st, r⟩ := w T locs X eT N
  exact ⟨s₂, o, XS.ladd X.here hx rfl (hb hby hd) rfl st, r⟩
theorem w_lsub (ok : Ok K Z n0 own code maxL ret nm) {x y : Int64} (hd : decode code pc = .ok (.lsub, 1)) (w : W K l R n0 P h k n (pc + 1) L (.long (x - y) :: S)) : W K l R n0 P h k n pc L (.long y :: .long x :: S) := by
  obtain ⟨p, e, s, m, args, below, meth, c⟩ := K
  obtain ⟨hx, hZ, hown, hby, -⟩ := ok
  intro T locs X eT N
  obtain ⟨s₂, o, st, r⟩ := w T locs X eT N
  exact ⟨s₂, o, XS.lsub X.here hx rfl (hb hby hd) rfl st, r⟩
theorem w_lmul (ok : Ok K Z n0 own code maxL ret nm) {x y : Int64} (hd : decode code pc = .ok (.lmul, 1)) (w : W K l R n0 P h k n (pc + 1) L (.long (x * y) :: S)) : W K l R n0 P h k n pc L (.long y :: .long x :: S) := by
  obtain ⟨p, e, s, m, args, below, meth, c⟩ := K
  obtain ⟨hx, hZ, hown, hby, -⟩ := ok
  intro T locs X eT N
  obtain ⟨s₂, o, st, r⟩ := w T locs X eT N
  exact ⟨s₂, o, XS.lmul X.here hx rfl (hb hby hd) rfl st, r⟩
theorem w_land (ok : Ok K Z n0 own code maxL ret nm) {x y : Int64} (hd : decode code pc = .ok (.land, 1)) (w : W K l R n0 P h k n (pc + 1) L (.long (x &&& y) :: S)) : W K l R n0 P h k n pc L (.long y :: .long x :: S) := by
  obtain ⟨p, e, s, m, args, below, meth, c⟩ := K
  obtain ⟨hx, hZ, hown, hby, -⟩ := ok
  intro T locs X eT N
  obtain ⟨s₂, o, st, r⟩ := w T locs X eT N
  exact ⟨s₂, o, XS.land X.here hx rfl (hb hby hd) rfl st, r⟩
theorem w_lor (ok : Ok K Z n0 own code maxL ret nm) {x y : Int64} (hd : decode code pc = .ok (.lor, 1)) (w : W K l R n0 P h k n (pc + 1) L (.long (x ||| y) :: S)) : W K l R n0 P h k n pc L (.long y :: .long x :: S) := by
  obtain ⟨p, e, s, m, args, below, meth, c⟩ := K
  obtain ⟨hx, hZ, hown, hby, -⟩ := ok
  intro T locs X eT N
  obtain ⟨s₂, o, st, r⟩ := w T locs X eT N
  exact ⟨s₂, o, XS.lor X.here hx rfl (hb hby hd) rfl st, r⟩
theorem w_lxor (ok : Ok K Z n0 own code maxL ret nm) {x y : Int64} (hd : decode code pc = .ok (.lxor, 1)) (w : W K l R n0 P h k n (pc + 1) L (.long (x ^^^ y) :: S)) : W K l R n0 P h k n pc L (.long y :: .long x :: S) := by
  obtain ⟨p, e, s, m, args, below, meth, c⟩ := K
  obtain ⟨hx, hZ, hown, hby, -⟩ := ok
  intro T locs X eT N
  obtain ⟨s₂, o, st, r⟩ := w T locs X eT N
  exact ⟨s₂, o, XS.lxor X.here hx rfl (hb hby hd) rfl st, r⟩
theorem w_lshl (ok : Ok K Z n0 own code maxL ret nm) {x : Int64} {y : Int32} (hd : decode code pc = .ok (.lshl, 1)) (w : W K l R n0 P h k n (pc + 1) L (.long (x <<< (y &&& 0x3f).toInt64) :: S)) : W K l R n0 P h k n pc L (.int y :: .long x :: S) := by
  obtain ⟨p, e, s, m, args, below, meth, c⟩ := K
  obtain ⟨hx, hZ, hown, hby, -⟩ := ok
  intro T locs X eT N
  obtain ⟨s₂, o, st, r⟩ := w T locs X eT N
  exact ⟨s₂, o, XS.lshl X.here hx rfl (hb hby hd) rfl st, r⟩
theorem w_lshr (ok : Ok K Z n0 own code maxL ret nm) {x : Int64} {y : Int32} (hd : decode code pc = .ok (.lshr, 1)) (w : W K l R n0 P h k n (pc + 1) L (.long (x >>> (y &&& 0x3f).toInt64) :: S)) : W K l R n0 P h k n pc L (.int y :: .long x :: S) := by
  obtain ⟨p, e, s, m, args, below, meth, c⟩ := K
  obtain ⟨hx, hZ, hown, hby, -⟩ := ok
  intro T locs X eT N
  obtain ⟨s₂, o, st, r⟩ := w T locs X eT N
  exact ⟨s₂, o, XS.lshr X.here hx rfl (hb hby hd) rfl st, r⟩
theorem w_lushr (ok : Ok K Z n0 own code maxL ret nm) {x : Int64} {y : Int32} (hd : decode code pc = .ok (.lushr, 1)) (w : W K l R n0 P h k n (pc + 1) L (.long ((x.toUInt64 >>> (y &&& 0x3f).toInt64.toUInt64).toInt64) :: S)) : W K l R n0 P h k n pc L (.int y :: .long x :: S) := by
  obtain ⟨p, e, s, m, args, below, meth, c⟩ := K
  obtain ⟨hx, hZ, hown, hby, -⟩ := ok
  intro T locs X eT N
  obtain ⟨s₂, o, st, r⟩ := w T locs X eT N
  exact ⟨s₂, o, XS.lushr X.here hx rfl (hb hby hd) rfl st, r⟩
theorem w_i2l (ok : Ok K Z n0 own code maxL ret nm) {x : Int32} (hd : decode code pc = .ok (.i2l, 1)) (w : W K l R n0 P h k n (pc + 1) L (.long (x.toInt64) :: S)) : W K l R n0 P h k n pc L (.int x :: S) := by
  obtain ⟨p, e, s, m, args, below, meth, c⟩ := K
  obtain ⟨hx, hZ, hown, hby, -⟩ := ok
  intro T locs X eT N
  obtain ⟨s₂, o, st, r⟩ := w T locs X eT N
  exact ⟨s₂, o, XS.i2l X.here hx rfl (hb hby hd) rfl st, r⟩
theorem w_l2i (ok : Ok K Z n0 own code maxL ret nm) {x : Int64} (hd : decode code pc = .ok (.l2i, 1)) (w : W K l R n0 P h k n (pc + 1) L (.int (x.toInt32) :: S)) : W K l R n0 P h k n pc L (.long x :: S) := by
  obtain ⟨p, e, s, m, args, below, meth, c⟩ := K
  obtain ⟨hx, hZ, hown, hby, -⟩ := ok
  intro T locs X eT N
  obtain ⟨s₂, o, st, r⟩ := w T locs X eT N
  exact ⟨s₂, o, XS.l2i X.here hx rfl (hb hby hd) rfl st, r⟩
theorem w_i2b (ok : Ok K Z n0 own code maxL ret nm) {x : Int32} (hd : decode code pc = .ok (.i2b, 1)) (w : W K l R n0 P h k n (pc + 1) L (.int (x.toInt8.toInt32) :: S)) : W K l R n0 P h k n pc L (.int x :: S) := by
  obtain ⟨p, e, s, m, args, below, meth, c⟩ := K
  obtain ⟨hx, hZ, hown, hby, -⟩ := ok
  intro T locs X eT N
  obtain ⟨s₂, o, st, r⟩ := w T locs X eT N
  exact ⟨s₂, o, XS.i2b X.here hx rfl (hb hby hd) rfl st, r⟩
theorem w_i2c (ok : Ok K Z n0 own code maxL ret nm) {x : Int32} (hd : decode code pc = .ok (.i2c, 1)) (w : W K l R n0 P h k n (pc + 1) L (.int (x.toUInt32.toUInt16.toUInt32.toInt32) :: S)) : W K l R n0 P h k n pc L (.int x :: S) := by
  obtain ⟨p, e, s, m, args, below, meth, c⟩ := K
  obtain ⟨hx, hZ, hown, hby, -⟩ := ok
  intro T locs X eT N
  obtain ⟨s₂, o, st, r⟩ := w T locs X eT N
  exact ⟨s₂, o, XS.i2c X.here hx rfl (hb hby hd) rfl st, r⟩
theorem w_ineg (ok : Ok K Z n0 own code maxL ret nm) {x : Int32} (hd : decode code pc = .ok (.ineg, 1)) (w : W K l R n0 P h k n (pc + 1) L (.int (-x) :: S)) : W K l R n0 P h k n pc L (.int x :: S) := by
  obtain ⟨p, e, s, m, args, below, meth, c⟩ := K
  obtain ⟨hx, hZ, hown, hby, -⟩ := ok
  intro T locs X eT N
  obtain ⟨s₂, o, st, r⟩ := w T locs X eT N
  exact ⟨s₂, o, XS.ineg X.here hx rfl (hb hby hd) rfl st, r⟩
theorem w_idiv (ok : Ok K Z n0 own code maxL ret nm) {x y : Int32} (hd : decode code pc = .ok (.idiv, 1)) (hy : y ≠ 0) (w : W K l R n0 P h k n (pc + 1) L (.int (x / y) :: S)) : W K l R n0 P h k n pc L (.int y :: .int x :: S) := by
  obtain ⟨p, e, s, m, args, below, meth, c⟩ := K
  obtain ⟨hx, hZ, hown, hby, -⟩ := ok
  intro T locs X eT N
  obtain ⟨s₂, o, st, r⟩ := w T locs X eT N
  exact ⟨s₂, o, XS.idiv X.here hx rfl (hb hby hd) rfl hy st, r⟩
theorem w_irem (ok : Ok K Z n0 own code maxL ret nm) {x y : Int32} (hd : decode code pc = .ok (.irem, 1)) (hy : y ≠ 0) (w : W K l R n0 P h k n (pc + 1) L (.int (x % y) :: S)) : W K l R n0 P h k n pc L (.int y :: .int x :: S) := by
  obtain ⟨p, e, s, m, args, below, meth, c⟩ := K
  obtain ⟨hx, hZ, hown, hby, -⟩ := ok
  intro T locs X eT N
  obtain ⟨s₂, o, st, r⟩ := w T locs X eT N
  exact ⟨s₂, o, iremM X hx rfl (hb hby hd) rfl hy st, r⟩
theorem w_ldiv (ok : Ok K Z n0 own code maxL ret nm) {x y : Int64} (hd : decode code pc = .ok (.ldiv, 1)) (hy : y ≠ 0) (w : W K l R n0 P h k n (pc + 1) L (.long (x / y) :: S)) : W K l R n0 P h k n pc L (.long y :: .long x :: S) := by
  obtain ⟨p, e, s, m, args, below, meth, c⟩ := K
  obtain ⟨hx, hZ, hown, hby, -⟩ := ok
  intro T locs X eT N
  obtain ⟨s₂, o, st, r⟩ := w T locs X eT N
  exact ⟨s₂, o, XS.ldiv X.here hx rfl (hb hby hd) rfl hy st, r⟩
theorem w_lrem (ok : Ok K Z n0 own code maxL ret nm) {x y : Int64} (hd : decode code pc = .ok (.lrem, 1)) (hy : y ≠ 0) (w : W K l R n0 P h k n (pc + 1) L (.long (x % y) :: S)) : W K l R n0 P h k n pc L (.long y :: .long x :: S) := by
  obtain ⟨p, e, s, m, args, below, meth, c⟩ := K
  obtain ⟨hx, hZ, hown, hby, -⟩ := ok
  intro T locs X eT N
  obtain ⟨s₂, o, st, r⟩ := w T locs X eT N
  exact ⟨s₂, o, XS.lrem X.here hx rfl (hb hby hd) rfl hy (by rw [lrem_mod]; exact st), r⟩
theorem w_goto (ok : Ok K Z n0 own code maxL ret nm) {o : Int} {pc' : Nat} (hd : decode code pc = .ok (.goto o, 3)) (hp : (pc : Int) + o = (pc' : Int)) (w : W K l R n0 P h k n (pc') L (S)) : W K l R n0 P h k n pc L (S) := by
  obtain ⟨p, e, s, m, args, below, meth, c⟩ := K
  obtain ⟨hx, hZ, hown, hby, -⟩ := ok
  intro T locs X eT N
  obtain ⟨s₂, o, st, r⟩ := w T locs X eT N
  exact ⟨s₂, o, XS.goto X.here hx rfl (pc0 := pc) (pc' := pc') rfl (hb hby hd) (by rw [hp]; exact Int.natCast_nonneg _) (by rw [hp]; rfl) st, r⟩
theorem w_ldcI (ok : Ok K Z n0 own code maxL ret nm) {i : Nat} {v : Int32} (hd : decode code pc = .ok (.ldc i, 2)) (w1 : (Cond.constant own i v).before a0 Z = true) (w : W K l R n0 P h k n (pc + 2) L (.int v :: S)) : W K l R n0 P h k n pc L (S) := by
  obtain ⟨p, e, s, m, args, below, meth, c⟩ := K
  obtain ⟨hx, hZ, hown, hby, -⟩ := ok
  intro T locs X eT N
  obtain ⟨s₂, o, st, r⟩ := w T locs X eT N
  exact ⟨s₂, o, X.ldcInt hx hown (mvT hZ w1) (g := mkF m pc L S) rfl (hb hby hd) _ st, r⟩
theorem w_ldc2J (ok : Ok K Z n0 own code maxL ret nm) {i : Nat} {v : Int64} (hd : decode code pc = .ok (.ldc2_w i, 3)) (w1 : (Cond.constantLong own i v).before a0 Z = true) (w : W K l R n0 P h k n (pc + 3) L (.long v :: S)) : W K l R n0 P h k n pc L (S) := by
  obtain ⟨p, e, s, m, args, below, meth, c⟩ := K
  obtain ⟨hx, hZ, hown, hby, -⟩ := ok
  intro T locs X eT N
  obtain ⟨s₂, o, st, r⟩ := w T locs X eT N
  exact ⟨s₂, o, X.ldc2Long hx hown (mvT hZ w1) (g := mkF m pc L S) rfl (hb hby hd) _ st, r⟩
theorem w_icmp_eq (ok : Ok K Z n0 own code maxL ret nm) {x y : Int32} {o : Int} {pc' : Nat} (hd : decode code pc = .ok (.if_icmp .eq o, 3)) (hp : (pc : Int) + o = (pc' : Int)) (wy : x = y → W K l R n0 P h k n pc' L S) (wn : ¬ x = y → W K l R n0 P h k n (pc + 3) L S) : W K l R n0 P h k n pc L (.int y :: .int x :: S) := by
  obtain ⟨p, e, s, m, args, below, meth, c⟩ := K
  obtain ⟨hx, hZ, hown, hby, -⟩ := ok
  intro T locs X eT N
  by_cases hc : x = y
  · obtain ⟨s₂, o, st, r⟩ := wy hc T locs X eT N
    exact ⟨s₂, o, XS.icmpYes X.here hx rfl (pc0 := pc) (pc' := pc') rfl (hb hby hd) rfl (teq hc).1 (by rw [hp]; exact Int.natCast_nonneg _) (by rw [hp]; rfl) st, r⟩
  · obtain ⟨s₂, o, st, r⟩ := wn hc T locs X eT N
    exact ⟨s₂, o, XS.icmpNo X.here hx rfl (hb hby hd) rfl (feq hc).1 st, r⟩
theorem w_if_eq (ok : Ok K Z n0 own code maxL ret nm) {x : Int32} {o : Int} {pc' : Nat} (hd : decode code pc = .ok (.ifCond .eq o, 3)) (hp : (pc : Int) + o = (pc' : Int)) (wy : x = 0 → W K l R n0 P h k n pc' L S) (wn : ¬ x = 0 → W K l R n0 P h k n (pc + 3) L S) : W K l R n0 P h k n pc L (.int x :: S) := by
  obtain ⟨p, e, s, m, args, below, meth, c⟩ := K
  obtain ⟨hx, hZ, hown, hby, -⟩ := ok
  intro T locs X eT N
  by_cases hc : x = 0
  · obtain ⟨s₂, o, st, r⟩ := wy hc T locs X eT N
    exact ⟨s₂, o, XS.ifYes X.here hx rfl (pc0 := pc) (pc' := pc') rfl (hb hby hd) rfl ((if0 _ _).trans (teq hc).1) (by rw [hp]; exact Int.natCast_nonneg _) (by rw [hp]; rfl) st, r⟩
  · obtain ⟨s₂, o, st, r⟩ := wn hc T locs X eT N
    exact ⟨s₂, o, XS.ifNo X.here hx rfl (hb hby hd) rfl ((if0 _ _).trans (feq hc).1) st, r⟩
theorem w_icmp_ne (ok : Ok K Z n0 own code maxL ret nm) {x y : Int32} {o : Int} {pc' : Nat} (hd : decode code pc = .ok (.if_icmp .ne o, 3)) (hp : (pc : Int) + o = (pc' : Int)) (wy : ¬ x = y → W K l R n0 P h k n pc' L S) (wn : x = y → W K l R n0 P h k n (pc + 3) L S) : W K l R n0 P h k n pc L (.int y :: .int x :: S) := by
  obtain ⟨p, e, s, m, args, below, meth, c⟩ := K
  obtain ⟨hx, hZ, hown, hby, -⟩ := ok
  intro T locs X eT N
  by_cases hc : x = y
  · obtain ⟨s₂, o, st, r⟩ := wn hc T locs X eT N
    exact ⟨s₂, o, XS.icmpNo X.here hx rfl (hb hby hd) rfl (teq hc).2 st, r⟩
  · obtain ⟨s₂, o, st, r⟩ := wy hc T locs X eT N
    exact ⟨s₂, o, XS.icmpYes X.here hx rfl (pc0 := pc) (pc' := pc') rfl (hb hby hd) rfl (feq hc).2 (by rw [hp]; exact Int.natCast_nonneg _) (by rw [hp]; rfl) st, r⟩
theorem w_if_ne (ok : Ok K Z n0 own code maxL ret nm) {x : Int32} {o : Int} {pc' : Nat} (hd : decode code pc = .ok (.ifCond .ne o, 3)) (hp : (pc : Int) + o = (pc' : Int)) (wy : ¬ x = 0 → W K l R n0 P h k n pc' L S) (wn : x = 0 → W K l R n0 P h k n (pc + 3) L S) : W K l R n0 P h k n pc L (.int x :: S) := by
  obtain ⟨p, e, s, m, args, below, meth, c⟩ := K
  obtain ⟨hx, hZ, hown, hby, -⟩ := ok
  intro T locs X eT N
  by_cases hc : x = 0
  · obtain ⟨s₂, o, st, r⟩ := wn hc T locs X eT N
    exact ⟨s₂, o, XS.ifNo X.here hx rfl (hb hby hd) rfl ((if0 _ _).trans (teq hc).2) st, r⟩
  · obtain ⟨s₂, o, st, r⟩ := wy hc T locs X eT N
    exact ⟨s₂, o, XS.ifYes X.here hx rfl (pc0 := pc) (pc' := pc') rfl (hb hby hd) rfl ((if0 _ _).trans (feq hc).2) (by rw [hp]; exact Int.natCast_nonneg _) (by rw [hp]; rfl) st, r⟩
theorem w_icmp_lt (ok : Ok K Z n0 own code maxL ret nm) {x y : Int32} {o : Int} {pc' : Nat} (hd : decode code pc = .ok (.if_icmp .lt o, 3)) (hp : (pc : Int) + o = (pc' : Int)) (wy : x < y → W K l R n0 P h k n pc' L S) (wn : ¬ x < y → W K l R n0 P h k n (pc + 3) L S) : W K l R n0 P h k n pc L (.int y :: .int x :: S) := by
  obtain ⟨p, e, s, m, args, below, meth, c⟩ := K
  obtain ⟨hx, hZ, hown, hby, -⟩ := ok
  intro T locs X eT N
  by_cases hc : x < y
  · obtain ⟨s₂, o, st, r⟩ := wy hc T locs X eT N
    exact ⟨s₂, o, XS.icmpYes X.here hx rfl (pc0 := pc) (pc' := pc') rfl (hb hby hd) rfl (tlt hc).1 (by rw [hp]; exact Int.natCast_nonneg _) (by rw [hp]; rfl) st, r⟩
  · obtain ⟨s₂, o, st, r⟩ := wn hc T locs X eT N
    exact ⟨s₂, o, XS.icmpNo X.here hx rfl (hb hby hd) rfl (flt hc).1 st, r⟩
theorem w_if_lt (ok : Ok K Z n0 own code maxL ret nm) {x : Int32} {o : Int} {pc' : Nat} (hd : decode code pc = .ok (.ifCond .lt o, 3)) (hp : (pc : Int) + o = (pc' : Int)) (wy : x < 0 → W K l R n0 P h k n pc' L S) (wn : ¬ x < 0 → W K l R n0 P h k n (pc + 3) L S) : W K l R n0 P h k n pc L (.int x :: S) := by
  obtain ⟨p, e, s, m, args, below, meth, c⟩ := K
  obtain ⟨hx, hZ, hown, hby, -⟩ := ok
  intro T locs X eT N
  by_cases hc : x < 0
  · obtain ⟨s₂, o, st, r⟩ := wy hc T locs X eT N
    exact ⟨s₂, o, XS.ifYes X.here hx rfl (pc0 := pc) (pc' := pc') rfl (hb hby hd) rfl ((if0 _ _).trans (tlt hc).1) (by rw [hp]; exact Int.natCast_nonneg _) (by rw [hp]; rfl) st, r⟩
  · obtain ⟨s₂, o, st, r⟩ := wn hc T locs X eT N
    exact ⟨s₂, o, XS.ifNo X.here hx rfl (hb hby hd) rfl ((if0 _ _).trans (flt hc).1) st, r⟩
theorem w_icmp_ge (ok : Ok K Z n0 own code maxL ret nm) {x y : Int32} {o : Int} {pc' : Nat} (hd : decode code pc = .ok (.if_icmp .ge o, 3)) (hp : (pc : Int) + o = (pc' : Int)) (wy : ¬ x < y → W K l R n0 P h k n pc' L S) (wn : x < y → W K l R n0 P h k n (pc + 3) L S) : W K l R n0 P h k n pc L (.int y :: .int x :: S) := by
  obtain ⟨p, e, s, m, args, below, meth, c⟩ := K
  obtain ⟨hx, hZ, hown, hby, -⟩ := ok
  intro T locs X eT N
  by_cases hc : x < y
  · obtain ⟨s₂, o, st, r⟩ := wn hc T locs X eT N
    exact ⟨s₂, o, XS.icmpNo X.here hx rfl (hb hby hd) rfl (tlt hc).2.1 st, r⟩
  · obtain ⟨s₂, o, st, r⟩ := wy hc T locs X eT N
    exact ⟨s₂, o, XS.icmpYes X.here hx rfl (pc0 := pc) (pc' := pc') rfl (hb hby hd) rfl (flt hc).2.1 (by rw [hp]; exact Int.natCast_nonneg _) (by rw [hp]; rfl) st, r⟩
theorem w_if_ge (ok : Ok K Z n0 own code maxL ret nm) {x : Int32} {o : Int} {pc' : Nat} (hd : decode code pc = .ok (.ifCond .ge o, 3)) (hp : (pc : Int) + o = (pc' : Int)) (wy : ¬ x < 0 → W K l R n0 P h k n pc' L S) (wn : x < 0 → W K l R n0 P h k n (pc + 3) L S) : W K l R n0 P h k n pc L (.int x :: S) := by
  obtain ⟨p, e, s, m, args, below, meth, c⟩ := K
  obtain ⟨hx, hZ, hown, hby, -⟩ := ok
  intro T locs X eT N
  by_cases hc : x < 0
  · obtain ⟨s₂, o, st, r⟩ := wn hc T locs X eT N
    exact ⟨s₂, o, XS.ifNo X.here hx rfl (hb hby hd) rfl ((if0 _ _).trans (tlt hc).2.1) st, r⟩
  · obtain ⟨s₂, o, st, r⟩ := wy hc T locs X eT N
    exact ⟨s₂, o, XS.ifYes X.here hx rfl (pc0 := pc) (pc' := pc') rfl (hb hby hd) rfl ((if0 _ _).trans (flt hc).2.1) (by rw [hp]; exact Int.natCast_nonneg _) (by rw [hp]; rfl) st, r⟩
theorem w_icmp_gt (ok : Ok K Z n0 own code maxL ret nm) {x y : Int32} {o : Int} {pc' : Nat} (hd : decode code pc = .ok (.if_icmp .gt o, 3)) (hp : (pc : Int) + o = (pc' : Int)) (wy : y < x → W K l R n0 P h k n pc' L S) (wn : ¬ y < x → W K l R n0 P h k n (pc + 3) L S) : W K l R n0 P h k n pc L (.int y :: .int x :: S) := by
  obtain ⟨p, e, s, m, args, below, meth, c⟩ := K
  obtain ⟨hx, hZ, hown, hby, -⟩ := ok
  intro T locs X eT N
  by_cases hc : y < x
  · obtain ⟨s₂, o, st, r⟩ := wy hc T locs X eT N
    exact ⟨s₂, o, XS.icmpYes X.here hx rfl (pc0 := pc) (pc' := pc') rfl (hb hby hd) rfl (tlt hc).2.2.1 (by rw [hp]; exact Int.natCast_nonneg _) (by rw [hp]; rfl) st, r⟩
  · obtain ⟨s₂, o, st, r⟩ := wn hc T locs X eT N
    exact ⟨s₂, o, XS.icmpNo X.here hx rfl (hb hby hd) rfl (flt hc).2.2.1 st, r⟩
theorem w_if_gt (ok : Ok K Z n0 own code maxL ret nm) {x : Int32} {o : Int} {pc' : Nat} (hd : decode code pc = .ok (.ifCond .gt o, 3)) (hp : (pc : Int) + o = (pc' : Int)) (wy : 0 < x → W K l R n0 P h k n pc' L S) (wn : ¬ 0 < x → W K l R n0 P h k n (pc + 3) L S) : W K l R n0 P h k n pc L (.int x :: S) := by
  obtain ⟨p, e, s, m, args, below, meth, c⟩ := K
  obtain ⟨hx, hZ, hown, hby, -⟩ := ok
  intro T locs X eT N
  by_cases hc : 0 < x
  · obtain ⟨s₂, o, st, r⟩ := wy hc T locs X eT N
    exact ⟨s₂, o, XS.ifYes X.here hx rfl (pc0 := pc) (pc' := pc') rfl (hb hby hd) rfl ((if0 _ _).trans (tlt hc).2.2.1) (by rw [hp]; exact Int.natCast_nonneg _) (by rw [hp]; rfl) st, r⟩
  · obtain ⟨s₂, o, st, r⟩ := wn hc T locs X eT N
    exact ⟨s₂, o, XS.ifNo X.here hx rfl (hb hby hd) rfl ((if0 _ _).trans (flt hc).2.2.1) st, r⟩
theorem w_icmp_le (ok : Ok K Z n0 own code maxL ret nm) {x y : Int32} {o : Int} {pc' : Nat} (hd : decode code pc = .ok (.if_icmp .le o, 3)) (hp : (pc : Int) + o = (pc' : Int)) (wy : ¬ y < x → W K l R n0 P h k n pc' L S) (wn : y < x → W K l R n0 P h k n (pc + 3) L S) : W K l R n0 P h k n pc L (.int y :: .int x :: S) := by
  obtain ⟨p, e, s, m, args, below, meth, c⟩ := K
  obtain ⟨hx, hZ, hown, hby, -⟩ := ok
  intro T locs X eT N
  by_cases hc : y < x
  · obtain ⟨s₂, o, st, r⟩ := wn hc T locs X eT N
    exact ⟨s₂, o, XS.icmpNo X.here hx rfl (hb hby hd) rfl (tlt hc).2.2.2 st, r⟩
  · obtain ⟨s₂, o, st, r⟩ := wy hc T locs X eT N
    exact ⟨s₂, o, XS.icmpYes X.here hx rfl (pc0 := pc) (pc' := pc') rfl (hb hby hd) rfl (flt hc).2.2.2 (by rw [hp]; exact Int.natCast_nonneg _) (by rw [hp]; rfl) st, r⟩
theorem w_if_le (ok : Ok K Z n0 own code maxL ret nm) {x : Int32} {o : Int} {pc' : Nat} (hd : decode code pc = .ok (.ifCond .le o, 3)) (hp : (pc : Int) + o = (pc' : Int)) (wy : ¬ 0 < x → W K l R n0 P h k n pc' L S) (wn : 0 < x → W K l R n0 P h k n (pc + 3) L S) : W K l R n0 P h k n pc L (.int x :: S) := by
  obtain ⟨p, e, s, m, args, below, meth, c⟩ := K
  obtain ⟨hx, hZ, hown, hby, -⟩ := ok
  intro T locs X eT N
  by_cases hc : 0 < x
  · obtain ⟨s₂, o, st, r⟩ := wn hc T locs X eT N
    exact ⟨s₂, o, XS.ifNo X.here hx rfl (hb hby hd) rfl ((if0 _ _).trans (tlt hc).2.2.2) st, r⟩
  · obtain ⟨s₂, o, st, r⟩ := wy hc T locs X eT N
    exact ⟨s₂, o, XS.ifYes X.here hx rfl (pc0 := pc) (pc' := pc') rfl (hb hby hd) rfl ((if0 _ _).trans (flt hc).2.2.2) (by rw [hp]; exact Int.natCast_nonneg _) (by rw [hp]; rfl) st, r⟩
theorem w_lcmp (ok : Ok K Z n0 own code maxL ret nm) {x y : Int64} (hd : decode code pc = .ok (.lcmp, 1)) (w : W K l R n0 P h k n (pc + 1) L (.int (lcmpW x y) :: S)) : W K l R n0 P h k n pc L (.long y :: .long x :: S) := by
  obtain ⟨p, e, s, m, args, below, meth, c⟩ := K
  obtain ⟨hx, hZ, hown, hby, -⟩ := ok
  intro T locs X eT N
  obtain ⟨s₂, o, st, r⟩ := w T locs X eT N
  exact ⟨s₂, o, XS.lcmp X.here hx rfl (hb hby hd) rfl st, r⟩
theorem w_lcmp_eq (ok : Ok K Z n0 own code maxL ret nm) {x y : Int64} {o : Int} {pc' : Nat} (hd : decode code pc = .ok (.lcmp, 1)) (hd2 : decode code (pc + 1) = .ok (.ifCond .eq o, 3)) (hp : ((pc + 1 : Nat) : Int) + o = (pc' : Int)) (wy : x = y → W K l R n0 P h k n pc' L S) (wn : ¬ x = y → W K l R n0 P h k n (pc + 4) L S) : W K l R n0 P h k n pc L (.long y :: .long x :: S) :=
  w_lcmp ok hd (w_if_eq ok hd2 hp (fun hc => wy ((lw_eq x y).mp hc)) (fun hc => wn (fun q => hc ((lw_eq x y).mpr q))))
theorem w_lcmp_ne (ok : Ok K Z n0 own code maxL ret nm) {x y : Int64} {o : Int} {pc' : Nat} (hd : decode code pc = .ok (.lcmp, 1)) (hd2 : decode code (pc + 1) = .ok (.ifCond .ne o, 3)) (hp : ((pc + 1 : Nat) : Int) + o = (pc' : Int)) (wy : ¬ x = y → W K l R n0 P h k n pc' L S) (wn : x = y → W K l R n0 P h k n (pc + 4) L S) : W K l R n0 P h k n pc L (.long y :: .long x :: S) :=
  w_lcmp ok hd (w_if_ne ok hd2 hp (fun hc => wy (fun q => hc ((lw_eq x y).mpr q))) (fun hc => wn ((lw_eq x y).mp hc)))
theorem w_lcmp_lt (ok : Ok K Z n0 own code maxL ret nm) {x y : Int64} {o : Int} {pc' : Nat} (hd : decode code pc = .ok (.lcmp, 1)) (hd2 : decode code (pc + 1) = .ok (.ifCond .lt o, 3)) (hp : ((pc + 1 : Nat) : Int) + o = (pc' : Int)) (wy : x < y → W K l R n0 P h k n pc' L S) (wn : ¬ x < y → W K l R n0 P h k n (pc + 4) L S) : W K l R n0 P h k n pc L (.long y :: .long x :: S) :=
  w_lcmp ok hd (w_if_lt ok hd2 hp (fun hc => wy ((lw_lt x y).mp hc)) (fun hc => wn (fun q => hc ((lw_lt x y).mpr q))))
theorem w_lcmp_ge (ok : Ok K Z n0 own code maxL ret nm) {x y : Int64} {o : Int} {pc' : Nat} (hd : decode code pc = .ok (.lcmp, 1)) (hd2 : decode code (pc + 1) = .ok (.ifCond .ge o, 3)) (hp : ((pc + 1 : Nat) : Int) + o = (pc' : Int)) (wy : ¬ x < y → W K l R n0 P h k n pc' L S) (wn : x < y → W K l R n0 P h k n (pc + 4) L S) : W K l R n0 P h k n pc L (.long y :: .long x :: S) :=
  w_lcmp ok hd (w_if_ge ok hd2 hp (fun hc => wy (fun q => hc ((lw_lt x y).mpr q))) (fun hc => wn ((lw_lt x y).mp hc)))
theorem w_lcmp_gt (ok : Ok K Z n0 own code maxL ret nm) {x y : Int64} {o : Int} {pc' : Nat} (hd : decode code pc = .ok (.lcmp, 1)) (hd2 : decode code (pc + 1) = .ok (.ifCond .gt o, 3)) (hp : ((pc + 1 : Nat) : Int) + o = (pc' : Int)) (wy : y < x → W K l R n0 P h k n pc' L S) (wn : ¬ y < x → W K l R n0 P h k n (pc + 4) L S) : W K l R n0 P h k n pc L (.long y :: .long x :: S) :=
  w_lcmp ok hd (w_if_gt ok hd2 hp (fun hc => wy ((lw_gt x y).mp hc)) (fun hc => wn (fun q => hc ((lw_gt x y).mpr q))))
theorem w_lcmp_le (ok : Ok K Z n0 own code maxL ret nm) {x y : Int64} {o : Int} {pc' : Nat} (hd : decode code pc = .ok (.lcmp, 1)) (hd2 : decode code (pc + 1) = .ok (.ifCond .le o, 3)) (hp : ((pc + 1 : Nat) : Int) + o = (pc' : Int)) (wy : ¬ y < x → W K l R n0 P h k n pc' L S) (wn : y < x → W K l R n0 P h k n (pc + 4) L S) : W K l R n0 P h k n pc L (.long y :: .long x :: S) :=
  w_lcmp ok hd (w_if_le ok hd2 hp (fun hc => wy (fun q => hc ((lw_gt x y).mpr q))) (fun hc => wn ((lw_gt x y).mp hc)))
theorem w_out {t : FieldType} {i : Instr} {w : Value} (ok : Ok K Z n0 own code maxL (some t) nm) (hn : narrow t w = w) (hi : (i = .ireturn ∧ (t = .int ∨ t = .boolean ∨ t = .byte ∨ t = .char ∨ t = .short) ∧ ∃ z, w = .int z) ∨ (i = .lreturn ∧ t = .long ∧ ∃ z, w = .long z) ∨ (i = .dreturn ∧ t = .double ∧ ∃ z, w = .double z) ∨ (i = .freturn ∧ t = .float ∧ ∃ z, w = .float z) ∨ (i = .areturn ∧ t.isReference = true ∧ w.isRef = true))
    (hd : decode code pc = .ok (i, 1)) (hk : k ≤ R.cells) (hs : n ≤ R.slots) (hP : P (some w) h) : W K l R n0 P h k n pc L (w :: S) := by
  obtain ⟨p, e, s, m, args, below, meth, c⟩ := K
  obtain ⟨hx, hZ, hown, hby, hml, hret, hnm, hlk, hn0⟩ := ok
  intro T locs X eT N
  obtain ⟨fs, hr, hrun, hended, hW, hsame⟩ := X.leave (v := some w) (fun q => by rw [hret] at q; cases q)
  exact ⟨_, _, retOut X hx hret hn hi (hb hby hd) hr, hrun, hended, _, _, rfl, ⟨by show P (some w) T.heap; rw [eT]; exact hP, N⟩, ⟨_, rfl⟩, hW, hsame.mono hk hs⟩
theorem w_iret {z : Int32} (ok : Ok K Z n0 own code maxL (some .int) nm) (hd : decode code pc = .ok (.ireturn, 1)) (hk : k ≤ R.cells) (hs : n ≤ R.slots) (hP : P (some (.int z)) h) : W K l R n0 P h k n pc L (.int z :: S) :=
  w_out ok rfl (Or.inl ⟨rfl, by simp, z, rfl⟩) hd hk hs hP
theorem w_lret {z : Int64} (ok : Ok K Z n0 own code maxL (some .long) nm) (hd : decode code pc = .ok (.lreturn, 1)) (hk : k ≤ R.cells) (hs : n ≤ R.slots) (hP : P (some (.long z)) h) : W K l R n0 P h k n pc L (.long z :: S) :=
  w_out ok rfl (Or.inr (Or.inl ⟨rfl, rfl, z, rfl⟩)) hd hk hs hP
theorem w_aret {w : Value} {t : FieldType} (ok : Ok K Z n0 own code maxL (some t) nm) (ht : t.isReference = true) (hw : w.isRef = true) (hd : decode code pc = .ok (.areturn, 1)) (hk : k ≤ R.cells) (hs : n ≤ R.slots) (hP : P (some w) h) : W K l R n0 P h k n pc L (w :: S) :=
  w_out ok (by rcases ref_cases hw with rfl | ⟨_, rfl⟩ <;> cases t <;> first | rfl | cases ht) (Or.inr (Or.inr (Or.inr (Or.inr ⟨rfl, ht, hw⟩)))) hd hk hs hP
theorem w_bret {z : Int32} {t : FieldType} (ok : Ok K Z n0 own code maxL (some t) nm) (ht : t = .boolean ∨ t = .byte ∨ t = .char ∨ t = .short) (hd : decode code pc = .ok (.ireturn, 1)) (hk : k ≤ R.cells) (hs : n ≤ R.slots) (hP : P (some (.int (nar t z))) h) : W K l R n0 P h k n pc L (.int z :: S) := by
  obtain ⟨p, e, s, m, args, below, meth, c⟩ := K
  obtain ⟨hx, hZ, hown, hby, hml, hret, hnm, hlk, hn0⟩ := ok
  intro T locs X eT N
  obtain ⟨fs, hr, hrun, hended, hW, hsame⟩ := X.leave (v := some (.int (nar t z))) (fun q => by rw [hret] at q; cases q)
  exact ⟨_, _, retN X hx hret ht (hb hby hd) hr, hrun, hended, _, _, rfl, ⟨by show P (some (.int (nar t z))) T.heap; rw [eT]; exact hP, N⟩, ⟨_, rfl⟩, hW, hsame.mono hk hs⟩
theorem w_ret (ok : Ok K Z n0 own code maxL none nm) (hd : decode code pc = .ok (.return_, 1)) (hk : k ≤ R.cells) (hs : n ≤ R.slots) (hP : P none h) : W K l R n0 P h k n pc L [] := by
  obtain ⟨p, e, s, m, args, below, meth, c⟩ := K
  obtain ⟨hx, hZ, hown, hby, hml, hret, hnm, hlk, hn0⟩ := ok
  intro T locs X eT N
  obtain ⟨fs, hr, hrun, hended, hW, hsame⟩ := X.leave (v := none) (fun _ => rfl)
  exact ⟨_, _, X.returnOut hx hret (hb hby hd) hr, hrun, hended, _, _, rfl, ⟨by show P none T.heap; rw [eT]; exact hP, N⟩, ⟨_, rfl⟩, hW, hsame.mono hk hs⟩
abbrev notHandle (y : MethodName) : Prop := y.cls ≠ "java/lang/invoke/MethodHandle" ∧ y.cls ≠ "java/lang/invoke/VarHandle"
theorem w_callS (ok : Ok K Z n0 own code maxL ret nm) {index : Nat} {y : MethodName} {bytes : ByteArray} {mL : Nat} {rt : Option FieldType} {rm : Room} {argsL rest : List Value} {Q : Option Value → Heap → Prop} {ps : List FieldType} {r : Option FieldType}
    (hd : decode code pc = .ok (.invokestatic index, 3)) (w1 : (Cond.methodLink own index y).before a0 Z = true) (w2 : (Cond.static y).before a0 Z = true) (w3 : (Cond.initialized y.cls).before a0 Z = true) (w4 : (Cond.code y bytes mL rt).before a0 Z = true) (hy : notHandle y)
    (pd : parseMethodDescriptor y.desc = some ⟨ps, r⟩) (hlen : argsL.length = ps.length) (hL : L.size = maxL) (hf : rm.frames + 1 ≤ R.frames) (hl : (rest.map fun v => v.category).sum + (mL + 11) + rm.locals ≤ R.locals) (hc : k + rm.cells ≤ R.cells) (hs : n + rm.slots ≤ R.slots)
    (hM : Old Z n0 h → Met l Z n0 y bytes mL rt [] rm argsL.toArray h Q) (w : ∀ v h', Q v h' → W K l R n0 P h' (k + rm.cells) (n + rm.slots) (pc + 3) L (v.toList ++ rest)) : W K l R n0 P h k n pc L (argsL.reverse ++ rest) := by
  obtain ⟨p, e, s, m, args, below, meth, c⟩ := K
  obtain ⟨hx, hZ, hown, hby, hml, hret, hnm, hlk, hn0⟩ := ok
  intro T locs X eT N
  have hM := hM (by rw [← eT]; exact old_now hn0 X N)
  obtain ⟨v, _, ⟨T1, L1, k1, n1⟩, -, X1, ⟨Lc, ⟨hQ, N1⟩, l1, y1, z1⟩, st⟩ := Jvm.LawKit.callS X hx (y := y) hown (mvT hZ w1) (mvT hZ w2) (mvT hZ w3) (mvT hZ w4) hy (backOf (W := (rest.map fun v => v.category).sum) (Q := fun v h L => Q v h ∧ Fr n0 L) hM hZ w4 w3 hf hl) (g := mkF m pc L (argsL.reverse ++ rest)) rfl (hL.trans hml.symm) (argsL := argsL) (rest := rest) (lenOf pd hlen) rfl (by show 2 * 0 + _ ≤ _; omega) (hb hby hd) (fun _ _ => ⟨rfl, eT, hc, hs⟩)
  dsimp only [Pt.U, Pt.locs, Pt.cells, Pt.slots] at X1 l1 y1 z1 st hQ
  subst l1 y1 z1
  obtain ⟨s₂, o, st2, r2⟩ := w v _ hQ T1 _ X1 rfl (Fr.app N N1)
  exact ⟨s₂, o, st _ st2, r2⟩
theorem pa_z {N : Nat} (q : N < 2 ^ 31) : ∃ z : Int32, N = z.toNatClampNeg ∧ ¬ z < 0 := by
  have e : (Int32.ofNat N).toInt = N := Int32.toInt_ofNat_of_lt q
  refine ⟨Int32.ofNat N, ?_, ?_⟩
  · simp [Int32.toNatClampNeg, e]
  · rw [Int32.lt_iff_toInt_lt, e]; simp
def PA (ty : FieldType) (Z : State) (h : Heap) (a : Addr) (vs : List Value) : Prop := ∃ c : Cell, Arr Z h a c ty ∧ vs.length < 2 ^ 31 ∧ c.slots = vs.toArray ∧ ∀ v ∈ vs, fits ty v = true
theorem pa_in {c : Cell} {vs : List Value} {j : Int32} (q : c.slots = vs.toArray) (h0 : ¬ j < 0) (hj : j.toNatClampNeg < vs.length) : ¬ (j < 0 ∨ c.slots.size ≤ j.toNatClampNeg) := by
  rw [q]; rintro (y | y)
  · exact h0 y
  · simp at y; omega
section PAs
variable {ty : FieldType} {h' : Heap} {a b : Addr} {vs : List Value} {v : Value} {sl : Nat} {ws : List Addr}
theorem PA.lt (A : PA ty Z h a vs) : a < h.size := by obtain ⟨c, A, -⟩ := A; exact A.lt
theorem PA.len (A : PA ty Z h a vs) : vs.length < 2 ^ 31 := by obtain ⟨c, A, q, -⟩ := A; exact q
theorem PA.ext (A : PA ty Z h a vs) (E : Ext h h') : PA ty Z h' a vs := by obtain ⟨c, A, r⟩ := A; exact ⟨c, A.ext E, r⟩
theorem PA.other (A : PA ty Z h b vs) (W1 : Wr h h' a sl v) (ne : b ≠ a) : PA ty Z h' b vs := by obtain ⟨c, A, r⟩ := A; exact ⟨c, A.other W1 ne, r⟩
theorem PA.keep (A : PA ty Z h a vs) (K1 : Keep h h' ws) (q : a ∉ ws) : PA ty Z h' a vs := by obtain ⟨c, A, r⟩ := A; exact ⟨c, ⟨K1.2.1 a c A.1 q, A.2⟩, r⟩
theorem PA.set (A : PA ty Z h a vs) (W1 : Wr h h' a sl v) (hv : fits ty v = true) : PA ty Z h' a (vs.set sl v) := by
  obtain ⟨c, A, hl, hs, hf⟩ := A
  refine ⟨c.setSlot sl v, A.same W1, by rw [List.length_set]; exact hl, ?_, ?_⟩
  · show c.slots.setIfInBounds sl v = _
    rw [hs]; simp
  · intro u hu
    rcases List.mem_or_eq_of_mem_set hu with q | rfl
    · exact hf _ q
    · exact hv
theorem PA.arv (A : PA ty Z h a vs) {z : Int32} (hz : vs.length = z.toNatClampNeg) (hz0 : ¬ z < 0) (d : Value) : ∃ k, Arv Z h a k ty z vs d := by
  obtain ⟨c, A, hl, hs, hf⟩ := A
  refine ⟨c.cls, c, A, rfl, by rw [hs]; simpa using hz, hz0, fun i hi => ?_, fun i hi => ?_⟩
  · rw [hs] at hi ⊢
    simp at hi
    simp [List.getD_eq_getElem?_getD, List.getElem?_eq_getElem hi]
  · rw [hs] at hi
    simp at hi
    rw [List.getD_eq_getElem?_getD, List.getElem?_eq_getElem hi]
    exact hf _ (List.getElem_mem hi)
theorem PA.of_arv {k : ClassId} {z : Int32} {d : Value} (B : Arv Z h a k ty z vs d) (hl : vs.length = z.toNatClampNeg) : PA ty Z h a vs := by
  obtain ⟨c, A, -, S1, N1, H, G⟩ := B
  have e : c.slots = vs.toArray := by
    apply Array.ext_getElem?
    intro i
    by_cases q : i < c.slots.size
    · rw [H i q]
      have q2 : i < vs.length := by omega
      simp [List.getD_eq_getElem?_getD, List.getElem?_eq_getElem q2]
    · rw [Array.getElem?_eq_none (by omega)]
      simp; omega
  refine ⟨c, A, by have := (back32 N1).2; omega, e, fun v hv => ?_⟩
  obtain ⟨i, hi, rfl⟩ := List.getElem_of_mem hv
  have q := G i (by omega)
  rw [List.getD_eq_getElem?_getD, List.getElem?_eq_getElem hi] at q
  exact q
end PAs
theorem w_arraylength (ok : Ok K Z n0 own code maxL ret nm) {ty : FieldType} {a : Addr} {vs : List Value} {z : Int32} (hd : decode code pc = .ok (.arraylength, 1)) (A : PA ty Z h a vs) (hz : vs.length = z.toNatClampNeg) (hz0 : ¬ z < 0) (w : W K l R n0 P h k n (pc + 1) L (.int z :: S)) : W K l R n0 P h k n pc L (.ref a :: S) := by
  obtain ⟨p, e, s, m, args, below, meth, c⟩ := K
  obtain ⟨hx, hZ, hown, hby, -⟩ := ok
  intro T locs X eT N
  obtain ⟨s₂, o, st, r⟩ := w T locs X eT N
  obtain ⟨cl, A, q1, q2, q3⟩ := A
  have e1 : cl.slots.size.toInt32 = z := len_of (by rw [q2]; simpa using hz) hz0
  exact ⟨s₂, o, X.arraylength hx (by rw [eT]; exact A.1) (State.isArrayOf_alike hZ.alike A.2.1) (g := mkF m pc L (.ref a :: S)) rfl rfl (hb hby hd) _ (by rw [e1]; exact st), r⟩
theorem w_newarray (ok : Ok K Z n0 own code maxL ret nm) {aty : ArrayType} {z : Int32} (hd : decode code pc = .ok (.newarray aty, 2)) (w1 : (Cond.arrayClass (newarray.typeOf aty)).before a0 Z = true) (hz : ¬ z < 0) {cap : Nat} (hcap : z.toNatClampNeg ≤ cap) (hb1 : cap * 8 ≤ 536870912) (hc : k + 1 ≤ R.cells) (hl : n + cap ≤ R.slots)
    (w : ∀ h' a, a = h.size → n0 ≤ a → Ext h h' → PA (newarray.typeOf aty) Z h' a (List.replicate z.toNatClampNeg (defaultValue (newarray.typeOf aty))) → W K l R n0 P h' (k + 1) (n + cap) (pc + 2) L (.ref a :: S)) : W K l R n0 P h k n pc L (.int z :: S) := by
  obtain ⟨p, e, s, m, args, below, meth, c⟩ := K
  obtain ⟨hx, hZ, hown, hby, hml, hret, hnm, hlk, hn0⟩ := ok
  intro T locs X eT N
  obtain ⟨T1, h1, cA, X1, e1, E1, A1, st⟩ := newP X hx hZ w1 eT (g := mkF m pc L (.int z :: S)) rfl (hb hby hd) rfl hz hcap hb1 hc hl
  have A2 : PA (newarray.typeOf aty) Z h1 h.size (List.replicate z.toNatClampNeg (defaultValue (newarray.typeOf aty))) := by
    refine ⟨_, A1, by simpa using (back32 hz).2, by simp [newA], fun v hv => ?_⟩
    rw [List.eq_of_mem_replicate hv]
    cases aty <;> rfl
  obtain ⟨s₂, o, st2, r⟩ := w h1 h.size rfl (by rw [← eT]; exact old_ge hn0 X N) E1 A2 T1 _ X1 e1 N
  exact ⟨s₂, o, st _ st2, r⟩
theorem w_arraycopy (ok : Ok K Z n0 own code maxL ret nm) {index : Nat} {ty : FieldType} {a b : Addr} {vs vd : List Value} {sp dp nn : Int32} {sp' dp' nn' : Nat} (hd : decode code pc = .ok (.invokestatic index, 3)) (w1 : (Cond.methodLink own index Jvm.Stand.acN).before a0 Z = true) (w2 : (Cond.native Jvm.Stand.acN).before a0 Z = true) (w3 : (Cond.static Jvm.Stand.acN).before a0 Z = true) (w4 : (Cond.initialized "java/lang/System").before a0 Z = true)
    (A : PA ty Z h a vs) (B : PA ty Z h b vd) (hty : refKind ty = false) (ge : n0 ≤ b) (h1 : ¬ sp < 0) (h2 : ¬ dp < 0) (h3 : ¬ nn < 0) (es : sp.toNatClampNeg = sp') (ed : dp.toNatClampNeg = dp') (en : nn.toNatClampNeg = nn') (h4 : sp' + nn' ≤ vs.length) (h5 : dp' + nn' ≤ vd.length) (hL : L.size = maxL) (hf : 1 ≤ R.frames) (hlo : (S.map fun v => v.category).sum + (nativeFrameWords "java/lang/System" "arraycopy" 5 + 11) ≤ R.locals)
    (w : ∀ h', Keep h h' [b] → PA ty Z h' b (vd.take dp' ++ (vs.drop sp').take nn' ++ vd.drop (dp' + nn')) → W K l R n0 P h' k n (pc + 3) L S) : W K l R n0 P h k n pc L (.int nn :: .int dp :: .ref b :: .int sp :: .ref a :: S) := by
  obtain ⟨p, e, s, m, args, below, meth, c⟩ := K
  obtain ⟨hx, hZ, hown, hby, hml, hret, hnm, hlk, hn0⟩ := ok
  intro T locs X eT N
  subst es ed en
  obtain ⟨z1, hz1, hz2⟩ : ∃ z : Int32, vs.length = z.toNatClampNeg ∧ ¬ z < 0 := pa_z A.len
  obtain ⟨z3, hz3, hz4⟩ : ∃ z : Int32, vd.length = z.toNatClampNeg ∧ ¬ z < 0 := pa_z B.len
  obtain ⟨k1, A1⟩ := A.arv hz1 hz2 .null
  obtain ⟨k2, B1⟩ := B.arv hz3 hz4 .null
  obtain ⟨T1, h1', L1, X1, e1, N1, K1, B2, st⟩ := cpA X hx hZ hown w1 w2 w3 w4 eT A1 B1 (Or.inl ⟨rfl, hty⟩) h1 h2 h3 (by omega) (by omega) rfl h5 N ge (g := mkF m pc L (.int nn :: .int dp :: .ref b :: .int sp :: .ref a :: S)) rfl (hL.trans hml.symm) rfl (hb hby hd) hf (W := (S.map fun v => v.category).sum) (by show 2 * 0 + _ ≤ _; omega) hlo
  have e2 : ((List.range nn.toNatClampNeg).map fun i => vs.getD (sp.toNatClampNeg + i) Value.null) = (vs.drop sp.toNatClampNeg).take nn.toNatClampNeg := by
    apply List.ext_getElem
    · simp; omega
    · intro i q1 q2
      simp at q1
      simp [List.getD_eq_getElem?_getD, List.getElem?_eq_getElem (show sp.toNatClampNeg + i < vs.length by omega)]
  rw [e2] at B2
  obtain ⟨s₂, o, st2, r⟩ := w h1' K1 (PA.of_arv B2 (by simp; omega)) T1 _ X1 e1 N1
  exact ⟨s₂, o, st _ st2, r⟩
theorem w_iaload (ok : Ok K Z n0 own code maxL ret nm) {a : Addr} {vs : List Value} {j : Int32} {v : Value} (hd : decode code pc = .ok (.iaload, 1)) (A : PA .int Z h a vs) (h0 : ¬ j < 0) (hj : vs[j.toNatClampNeg]? = some v) (w : W K l R n0 P h k n (pc + 1) L (v :: S)) : W K l R n0 P h k n pc L (.int j :: .ref a :: S) := by
  obtain ⟨p, e, s, m, args, below, meth, c⟩ := K
  obtain ⟨hx, hZ, hown, hby, -⟩ := ok
  intro T locs X eT N
  obtain ⟨s₂, o, st, r⟩ := w T locs X eT N
  obtain ⟨cl, A, q1, q2, q3⟩ := A
  exact ⟨s₂, o, X.iaload hx (j := j) (v := v) (by rw [eT]; exact A.1) (State.isArrayOf_alike hZ.alike A.2.1) A.2.2 (pa_in q2 h0 (List.getElem?_eq_some_iff.mp hj).1) (by rw [q2]; simpa using hj) (g := mkF m pc L (.int j :: .ref a :: S)) rfl rfl (hb hby hd) _ st, r⟩
theorem w_laload (ok : Ok K Z n0 own code maxL ret nm) {a : Addr} {vs : List Value} {j : Int32} {v : Value} (hd : decode code pc = .ok (.laload, 1)) (A : PA .long Z h a vs) (h0 : ¬ j < 0) (hj : vs[j.toNatClampNeg]? = some v) (w : W K l R n0 P h k n (pc + 1) L (v :: S)) : W K l R n0 P h k n pc L (.int j :: .ref a :: S) := by
  obtain ⟨p, e, s, m, args, below, meth, c⟩ := K
  obtain ⟨hx, hZ, hown, hby, -⟩ := ok
  intro T locs X eT N
  obtain ⟨s₂, o, st, r⟩ := w T locs X eT N
  obtain ⟨cl, A, q1, q2, q3⟩ := A
  exact ⟨s₂, o, X.laload hx (j := j) (v := v) (by rw [eT]; exact A.1) (State.isArrayOf_alike hZ.alike A.2.1) A.2.2 (pa_in q2 h0 (List.getElem?_eq_some_iff.mp hj).1) (by rw [q2]; simpa using hj) (g := mkF m pc L (.int j :: .ref a :: S)) rfl rfl (hb hby hd) _ st, r⟩
theorem w_caload (ok : Ok K Z n0 own code maxL ret nm) {a : Addr} {vs : List Value} {j : Int32} {v : Value} (hd : decode code pc = .ok (.caload, 1)) (A : PA .char Z h a vs) (h0 : ¬ j < 0) (hj : vs[j.toNatClampNeg]? = some v) (w : W K l R n0 P h k n (pc + 1) L (v :: S)) : W K l R n0 P h k n pc L (.int j :: .ref a :: S) := by
  obtain ⟨p, e, s, m, args, below, meth, c⟩ := K
  obtain ⟨hx, hZ, hown, hby, -⟩ := ok
  intro T locs X eT N
  obtain ⟨s₂, o, st, r⟩ := w T locs X eT N
  obtain ⟨cl, A, q1, q2, q3⟩ := A
  exact ⟨s₂, o, X.caload hx (j := j) (v := v) (by rw [eT]; exact A.1) (State.isArrayOf_alike hZ.alike A.2.1) A.2.2 (pa_in q2 h0 (List.getElem?_eq_some_iff.mp hj).1) (by rw [q2]; simpa using hj) (g := mkF m pc L (.int j :: .ref a :: S)) rfl rfl (hb hby hd) _ st, r⟩
theorem w_baload (ok : Ok K Z n0 own code maxL ret nm) {a : Addr} {vs : List Value} {j : Int32} {v : Value} (hd : decode code pc = .ok (.baload, 1)) (A : PA .byte Z h a vs) (h0 : ¬ j < 0) (hj : vs[j.toNatClampNeg]? = some v) (w : W K l R n0 P h k n (pc + 1) L (v :: S)) : W K l R n0 P h k n pc L (.int j :: .ref a :: S) := by
  obtain ⟨p, e, s, m, args, below, meth, c⟩ := K
  obtain ⟨hx, hZ, hown, hby, -⟩ := ok
  intro T locs X eT N
  obtain ⟨s₂, o, st, r⟩ := w T locs X eT N
  obtain ⟨cl, A, q1, q2, q3⟩ := A
  exact ⟨s₂, o, X.baloadBytes hx (j := j) (v := v) (by rw [eT]; exact A.1) (State.isArrayOf_alike hZ.alike A.2.1) A.2.2 (pa_in q2 h0 (List.getElem?_eq_some_iff.mp hj).1) (by rw [q2]; simpa using hj) (g := mkF m pc L (.int j :: .ref a :: S)) rfl rfl (hb hby hd) _ st, r⟩
theorem w_zaload (ok : Ok K Z n0 own code maxL ret nm) {a : Addr} {vs : List Value} {j : Int32} {v : Value} (hd : decode code pc = .ok (.baload, 1)) (A : PA .boolean Z h a vs) (h0 : ¬ j < 0) (hj : vs[j.toNatClampNeg]? = some v) (w : W K l R n0 P h k n (pc + 1) L (v :: S)) : W K l R n0 P h k n pc L (.int j :: .ref a :: S) := by
  obtain ⟨p, e, s, m, args, below, meth, c⟩ := K
  obtain ⟨hx, hZ, hown, hby, -⟩ := ok
  intro T locs X eT N
  obtain ⟨s₂, o, st, r⟩ := w T locs X eT N
  obtain ⟨cl, A, q1, q2, q3⟩ := A
  exact ⟨s₂, o, X.baloadBooleans hx (j := j) (v := v) (by rw [eT]; exact A.1) (State.isArrayOf_alike hZ.alike A.2.1) A.2.2 (pa_in q2 h0 (List.getElem?_eq_some_iff.mp hj).1) (by rw [q2]; simpa using hj) (g := mkF m pc L (.int j :: .ref a :: S)) rfl rfl (hb hby hd) _ st, r⟩
theorem w_aaload (ok : Ok K Z n0 own code maxL ret nm) {ty : FieldType} {a : Addr} {vs : List Value} {j : Int32} {v : Value} (hd : decode code pc = .ok (.aaload, 1)) (A : PA ty Z h a vs) (ht : ty.isReference = true) (h0 : ¬ j < 0) (hj : vs[j.toNatClampNeg]? = some v) (w : W K l R n0 P h k n (pc + 1) L (v :: S)) : W K l R n0 P h k n pc L (.int j :: .ref a :: S) := by
  obtain ⟨p, e, s, m, args, below, meth, c⟩ := K
  obtain ⟨hx, hZ, hown, hby, -⟩ := ok
  intro T locs X eT N
  obtain ⟨s₂, o, st, r⟩ := w T locs X eT N
  obtain ⟨cl, A, q1, q2, q3⟩ := A
  exact ⟨s₂, o, X.aaload hx (j := j) (v := v) (by rw [eT]; exact A.1) (State.isArrayOf_alike hZ.alike A.2.1) ht A.2.2 (pa_in q2 h0 (List.getElem?_eq_some_iff.mp hj).1) (by rw [q2]; simpa using hj) (g := mkF m pc L (.int j :: .ref a :: S)) rfl rfl (hb hby hd) _ st, r⟩
theorem w_iastore (ok : Ok K Z n0 own code maxL ret nm) {a : Addr} {vs : List Value} {j : Int32} {x : Int32} (hd : decode code pc = .ok (.iastore, 1)) (A : PA .int Z h a vs) (ge : n0 ≤ a) (h0 : ¬ j < 0) (hj : j.toNatClampNeg < vs.length) (w : ∀ h', Wr h h' a j.toNatClampNeg (.int x) → PA .int Z h' a (vs.set j.toNatClampNeg (.int x)) → W K l R n0 P h' k n (pc + 1) L S) : W K l R n0 P h k n pc L (.int x :: .int j :: .ref a :: S) := by
  obtain ⟨p, e, s, m, args, below, meth, c⟩ := K
  obtain ⟨hx, hZ, hown, hby, -⟩ := ok
  intro T locs X eT N
  have A0 := A
  obtain ⟨cl, A, q1, q2, q3⟩ := A
  obtain ⟨T1, h1, X1, e1, W1, st⟩ := stI X hx hZ eT A (j := j) (pa_in q2 h0 hj) (g := mkF m pc L (.int x :: .int j :: .ref a :: S)) rfl rfl (hb hby hd)
  obtain ⟨s₂, o, st2, r⟩ := w h1 W1 (A0.set W1 rfl) T1 _ X1 e1 (Fr.snoc X1 N ge)
  exact ⟨s₂, o, st _ st2, r⟩
theorem w_lastore (ok : Ok K Z n0 own code maxL ret nm) {a : Addr} {vs : List Value} {j : Int32} {x : Int64} (hd : decode code pc = .ok (.lastore, 1)) (A : PA .long Z h a vs) (ge : n0 ≤ a) (h0 : ¬ j < 0) (hj : j.toNatClampNeg < vs.length) (w : ∀ h', Wr h h' a j.toNatClampNeg (.long x) → PA .long Z h' a (vs.set j.toNatClampNeg (.long x)) → W K l R n0 P h' k n (pc + 1) L S) : W K l R n0 P h k n pc L (.long x :: .int j :: .ref a :: S) := by
  obtain ⟨p, e, s, m, args, below, meth, c⟩ := K
  obtain ⟨hx, hZ, hown, hby, -⟩ := ok
  intro T locs X eT N
  have A0 := A
  obtain ⟨cl, A, q1, q2, q3⟩ := A
  obtain ⟨T1, h1, X1, e1, W1, st⟩ := stJ X hx hZ eT A (j := j) (pa_in q2 h0 hj) (g := mkF m pc L (.long x :: .int j :: .ref a :: S)) rfl rfl (hb hby hd)
  obtain ⟨s₂, o, st2, r⟩ := w h1 W1 (A0.set W1 rfl) T1 _ X1 e1 (Fr.snoc X1 N ge)
  exact ⟨s₂, o, st _ st2, r⟩
theorem w_castore (ok : Ok K Z n0 own code maxL ret nm) {a : Addr} {vs : List Value} {j : Int32} {x : Int32} (hd : decode code pc = .ok (.castore, 1)) (A : PA .char Z h a vs) (ge : n0 ≤ a) (h0 : ¬ j < 0) (hj : j.toNatClampNeg < vs.length) (w : ∀ h', Wr h h' a j.toNatClampNeg (.int (nar .char x)) → PA .char Z h' a (vs.set j.toNatClampNeg (.int (nar .char x))) → W K l R n0 P h' k n (pc + 1) L S) : W K l R n0 P h k n pc L (.int x :: .int j :: .ref a :: S) := by
  obtain ⟨p, e, s, m, args, below, meth, c⟩ := K
  obtain ⟨hx, hZ, hown, hby, -⟩ := ok
  intro T locs X eT N
  have A0 := A
  obtain ⟨cl, A, q1, q2, q3⟩ := A
  obtain ⟨T1, h1, X1, e1, W1, st⟩ := stC X hx hZ eT A (j := j) (pa_in q2 h0 hj) (g := mkF m pc L (.int x :: .int j :: .ref a :: S)) rfl rfl (hb hby hd)
  obtain ⟨s₂, o, st2, r⟩ := w h1 W1 (A0.set W1 (fits_nar_char x)) T1 _ X1 e1 (Fr.snoc X1 N ge)
  exact ⟨s₂, o, st _ st2, r⟩
theorem w_bastore (ok : Ok K Z n0 own code maxL ret nm) {a : Addr} {vs : List Value} {j : Int32} {x : Int32} (hd : decode code pc = .ok (.bastore, 1)) (A : PA .byte Z h a vs) (ge : n0 ≤ a) (h0 : ¬ j < 0) (hj : j.toNatClampNeg < vs.length) (w : ∀ h', Wr h h' a j.toNatClampNeg (.int (nar .byte x)) → PA .byte Z h' a (vs.set j.toNatClampNeg (.int (nar .byte x))) → W K l R n0 P h' k n (pc + 1) L S) : W K l R n0 P h k n pc L (.int x :: .int j :: .ref a :: S) := by
  obtain ⟨p, e, s, m, args, below, meth, c⟩ := K
  obtain ⟨hx, hZ, hown, hby, -⟩ := ok
  intro T locs X eT N
  have A0 := A
  obtain ⟨cl, A, q1, q2, q3⟩ := A
  obtain ⟨T1, h1, X1, e1, W1, st⟩ := stB X hx hZ eT A (j := j) (pa_in q2 h0 hj) (g := mkF m pc L (.int x :: .int j :: .ref a :: S)) rfl rfl (hb hby hd)
  obtain ⟨s₂, o, st2, r⟩ := w h1 W1 (A0.set W1 (fits_nar_byte x)) T1 _ X1 e1 (Fr.snoc X1 N ge)
  exact ⟨s₂, o, st _ st2, r⟩
theorem w_zastore (ok : Ok K Z n0 own code maxL ret nm) {a : Addr} {vs : List Value} {j : Int32} {x : Int32} (hd : decode code pc = .ok (.bastore, 1)) (A : PA .boolean Z h a vs) (ge : n0 ≤ a) (h0 : ¬ j < 0) (hj : j.toNatClampNeg < vs.length) (w : ∀ h', Wr h h' a j.toNatClampNeg (.int (nar .boolean x)) → PA .boolean Z h' a (vs.set j.toNatClampNeg (.int (nar .boolean x))) → W K l R n0 P h' k n (pc + 1) L S) : W K l R n0 P h k n pc L (.int x :: .int j :: .ref a :: S) := by
  obtain ⟨p, e, s, m, args, below, meth, c⟩ := K
  obtain ⟨hx, hZ, hown, hby, -⟩ := ok
  intro T locs X eT N
  have A0 := A
  obtain ⟨cl, A, q1, q2, q3⟩ := A
  obtain ⟨T1, h1, X1, e1, W1, st⟩ := stZ X hx hZ eT A (j := j) (pa_in q2 h0 hj) (g := mkF m pc L (.int x :: .int j :: .ref a :: S)) rfl rfl (hb hby hd)
  obtain ⟨s₂, o, st2, r⟩ := w h1 W1 (A0.set W1 (fits_nar_bool x)) T1 _ X1 e1 (Fr.snoc X1 N ge)
  exact ⟨s₂, o, st _ st2, r⟩
/-! objects -/
abbrev Fl := List (String × String × String × FieldType)
def Ob (Z : State) (h : Heap) (a : Addr) (C : String) (fl : Fl) (vals : List Value) : Prop := Exa Z h a C ∧ ∀ (i : Nat) f v, fl[i]? = some f → vals[i]? = some v → Fld Z h a f.1 f.2.1 f.2.2.1 v
def LA (Z : State) (a0 : Array Value) (C : String) (fl : Fl) : Prop := (∀ f ∈ fl, Laid Z a0 C f.1 f.2.1 f.2.2.1 ∧ parseFieldDescriptor f.2.2.1 = some f.2.2.2) ∧ (fl.map (·.2.1)).Nodup
section Obs
variable {h' : Heap} {a b : Addr} {C : String} {fl : Fl} {vals : List Value} {v : Value} {sl : Nat} {ws : List Addr}
theorem Ob.lt (O : Ob Z h a C fl vals) : a < h.size := O.1.lt
theorem Ob.ext (O : Ob Z h a C fl vals) (E : Ext h h') : Ob Z h' a C fl vals := ⟨O.1.ext E, fun i f v q r => (O.2 i f v q r).ext E⟩
theorem Ob.other (O : Ob Z h b C fl vals) (W1 : Wr h h' a sl v) (ne : b ≠ a) : Ob Z h' b C fl vals := ⟨O.1.wr W1, fun i f v q r => (O.2 i f v q r).other W1 (Or.inl ne)⟩
theorem Ob.keep (O : Ob Z h a C fl vals) (K1 : Keep h h' ws) (q : a ∉ ws) : Ob Z h' a C fl vals := ⟨O.1.keep K1, fun i f v r r' => (O.2 i f v r r').keep K1 q⟩
theorem Ob.put (O : Ob Z h a C fl vals) (LAs : LA Z a0 C fl) {i : Nat} {f : String × String × String × FieldType} {u : Value} (hf : fl[i]? = some f) (hv : vals[i]? = some u) (W1 : Wr h h' a (Jvm.RoadKit.slotOf Z f.1 f.2.1 f.2.2.1) v) : Ob Z h' a C fl (vals.set i v) := by
  refine ⟨O.1.wr W1, fun j g w hg hw => ?_⟩
  by_cases e : i = j
  · subst e
    cases hf.symm.trans hg
    rw [List.getElem?_set_self (List.getElem?_eq_some_iff.mp hv).1] at hw
    cases hw
    exact (O.2 i f u hf hv).same W1
  · rw [List.getElem?_set_ne e] at hw
    refine (O.2 j g w hg hw).other W1 (Or.inr ?_)
    have m1 := LAs.1 f (List.mem_of_getElem? hf)
    have m2 := LAs.1 g (List.mem_of_getElem? hg)
    refine slot_ne m2.1 m1.1 (fun q => e ?_) m2.2 m1.2
    have hi := (List.getElem?_eq_some_iff.mp hf)
    have hj := (List.getElem?_eq_some_iff.mp hg)
    have nd := LAs.2
    have q1 : (fl.map (·.2.1))[i]? = some f.2.1 := by simp [hf]
    have q2 : (fl.map (·.2.1))[j]? = some f.2.1 := by simp [hg, q]
    exact (List.getElem?_inj (by simpa using hi.1) nd).mp (q1.trans q2.symm)
end Obs
theorem w_getfield (ok : Ok K Z n0 own code maxL ret nm) {index : Nat} {a : Addr} {C R0 host : String} {fl : Fl} {vals : List Value} {v : Value} {f : String × String × String × FieldType} (i : Nat) (hd : decode code pc = .ok (.getfield index, 3)) (w1 : (Cond.fieldLink own index R0 f.2.1 f.2.2.1).before a0 Z = true ∨ (Cond.fieldLinkNest own index R0 f.2.1 f.2.2.1 host).before a0 Z = true) (via : Via Z R0 f.1 f.2.1 f.2.2.1) (O : Ob Z h a C fl vals) (hf : fl[i]? = some f) (hv : vals[i]? = some v)
    (w : W K l R n0 P h k n (pc + 3) L (v :: S)) : W K l R n0 P h k n pc L (.ref a :: S) := by
  obtain ⟨p, e, s, m, args, below, meth, c⟩ := K
  obtain ⟨hx, hZ, hown, hby, -⟩ := ok
  intro T locs X eT N
  obtain ⟨T1, X1, e1, st⟩ := getF X hx hZ hown w1 via eT (O.2 i f v hf hv) (g := mkF m pc L (.ref a :: S)) rfl rfl (hb hby hd)
  obtain ⟨s₂, o, st2, r⟩ := w T1 locs X1 e1 N
  exact ⟨s₂, o, st _ st2, r⟩
theorem w_putfield (ok : Ok K Z n0 own code maxL ret nm) {index kk : Nat} {a : Addr} {C R0 host : String} {fl : Fl} {vals : List Value} {v u : Value} {f : String × String × String × FieldType} (i : Nat) (hd : decode code pc = .ok (.putfield index, 3)) (w1 : (Cond.fieldLink own index R0 f.2.1 f.2.2.1).before a0 Z = true ∨ (Cond.fieldLinkNest own index R0 f.2.1 f.2.2.1 host).before a0 Z = true) (via : Via Z R0 f.1 f.2.1 f.2.2.1) (O : Ob Z h a C fl vals) (LAs : LA Z a0 C fl) (hf : fl[i]? = some f) (hv : vals[i]? = some u)
    (w2 : (Cond.lays C f.1 f.2.1 f.2.2.1).before a0 Z = true ∨ ((Cond.laysFinal C f.1 f.2.1 f.2.2.1).before a0 Z = true ∧ own = f.1 ∧ nm = "<init>")) (w3 : (Cond.instantiable C kk).before a0 Z = true) (hn : narrow f.2.2.2 v = v) (hfit : fits f.2.2.2 v = true) (ge : n0 ≤ a)
    (w : ∀ h', Wr h h' a (Jvm.RoadKit.slotOf Z f.1 f.2.1 f.2.2.1) v → Ob Z h' a C fl (vals.set i v) → W K l R n0 P h' k n (pc + 3) L S) : W K l R n0 P h k n pc L (v :: .ref a :: S) := by
  obtain ⟨p, e, s, m, args, below, meth, c⟩ := K
  obtain ⟨hx, hZ, hown, hby, hml, hret, hnm, hlk, hn0⟩ := ok
  intro T locs X eT N
  obtain ⟨T1, h1, X1, e1, W1, st⟩ := putF X hx hZ hown w1 via eT (O.2 i f u hf hv) O.1 (w2.imp id fun q => ⟨q.1, q.2.1, hnm.trans q.2.2⟩) w3 (LAs.1 f (List.mem_of_getElem? hf)).2 hn hfit (g := mkF m pc L (v :: .ref a :: S)) rfl rfl (hb hby hd)
  obtain ⟨s₂, o, st2, r⟩ := w h1 W1 (O.put LAs hf hv W1) T1 _ X1 e1 (Fr.snoc X1 N ge)
  exact ⟨s₂, o, st _ st2, r⟩
theorem w_new (ok : Ok K Z n0 own code maxL ret nm) {index kk : Nat} {C : String} {fl : Fl} (hd : decode code pc = .ok (.new index, 3)) (w1 : (Cond.classLink own index C).before a0 Z = true) (w2 : (Cond.instantiable C kk).before a0 Z = true) (w3 : (Cond.initialized C).before a0 Z = true) (LAs : LA Z a0 C fl) (hc : k + 1 ≤ R.cells) (hl : n + kk ≤ R.slots)
    (w : ∀ h' a, a = h.size → n0 ≤ a → Ext h h' → Ob Z h' a C fl (fl.map fun f => defaultValue f.2.2.2) → W K l R n0 P h' (k + 1) (n + kk) (pc + 3) L (.ref a :: S)) : W K l R n0 P h k n pc L S := by
  obtain ⟨p, e, s, m, args, below, meth, c⟩ := K
  obtain ⟨hx, hZ, hown, hby, hml, hret, hnm, hlk, hn0⟩ := ok
  intro T locs X eT N
  obtain ⟨T1, h1, X1, e1, E1, A1, D1, -, st⟩ := newO X hx hZ hown w1 w2 w3 eT (g := mkF m pc L S) rfl (hb hby hd) hc hl
  obtain ⟨s₂, o, st2, r⟩ := w h1 h.size rfl (by rw [← eT]; exact old_ge hn0 X N) E1 ⟨A1, fun i f v hf hv => by
    simp [hf] at hv; subst hv
    exact D1 (LAs.1 f (List.mem_of_getElem? hf)).1 (LAs.1 f (List.mem_of_getElem? hf)).2⟩ T1 _ X1 e1 N
  exact ⟨s₂, o, st _ st2, r⟩
theorem w_initO (ok : Ok K Z n0 own code maxL ret nm) {index : Nat} {a : Addr} (hd : decode code pc = .ok (.invokespecial index, 3)) (w1 : (Cond.methodLink own index Lib.objectInit).before a0 Z = true) (w2 : (Cond.instanceMethod Lib.objectInit).before a0 Z = true) (w3 : (Cond.code Lib.objectInit ⟨#[0xb1]⟩ 1 none).before a0 Z = true) (hL : L.size = maxL) (hf : 1 ≤ R.frames) (hl : (S.map fun v => v.category).sum + 12 ≤ R.locals)
    (w : W K l R n0 P h k n (pc + 3) L S) : W K l R n0 P h k n pc L (.ref a :: S) := by
  obtain ⟨p, e, s, m, args, below, meth, c⟩ := K
  obtain ⟨hx, hZ, hown, hby, hml, hret, hnm, hlk, hn0⟩ := ok
  intro T locs X eT N
  obtain ⟨T1, X1, e1, st⟩ := initO X hx hZ hown w1 w2 w3 eT (g := mkF m pc L (.ref a :: S)) rfl (hL.trans hml.symm) rfl (hb hby hd) hf (W := (S.map fun v => v.category).sum) (by show 2 * 0 + _ ≤ _; omega) hl
  obtain ⟨s₂, o, st2, r⟩ := w T1 locs X1 e1 N
  exact ⟨s₂, o, st _ st2, r⟩
theorem w_callI (ok : Ok K Z n0 own code maxL ret nm) {index : Nat} {y : MethodName} {bytes : ByteArray} {mL : Nat} {rm : Room} {a : Addr} {argsL rest : List Value} {Q : Option Value → Heap → Prop} {ps : List FieldType} {r : Option FieldType}
    (hd : decode code pc = .ok (.invokespecial index, 3)) (hy1 : y.name = "<init>") (w1 : (Cond.methodLink own index y).before a0 Z = true) (w2 : (Cond.instanceMethod y).before a0 Z = true) (w3 : (Cond.initialized y.cls).before a0 Z = true) (w4 : (Cond.code y bytes mL none).before a0 Z = true) (hy : notHandle y)
    (pd : parseMethodDescriptor y.desc = some ⟨ps, r⟩) (hlen : argsL.length = ps.length) (hL : L.size = maxL) (hf : rm.frames + 1 ≤ R.frames) (hl : (rest.map fun v => v.category).sum + (mL + 11) + rm.locals ≤ R.locals) (hc : k + rm.cells ≤ R.cells) (hs : n + rm.slots ≤ R.slots)
    (hM : Old Z n0 h → Met l Z n0 y bytes mL none [] rm (.ref a :: argsL).toArray h Q) (w : ∀ v h', Q v h' → W K l R n0 P h' (k + rm.cells) (n + rm.slots) (pc + 3) L (v.toList ++ rest)) : W K l R n0 P h k n pc L (argsL.reverse ++ .ref a :: rest) := by
  obtain ⟨p, e, s, m, args, below, meth, c⟩ := K
  obtain ⟨hx, hZ, hown, hby, hml, hret, hnm, hlk, hn0⟩ := ok
  intro T locs X eT N
  have hM := hM (by rw [← eT]; exact old_now hn0 X N)
  obtain ⟨v, _, ⟨T1, L1, k1, n1⟩, -, X1, ⟨Lc, ⟨hQ, N1⟩, l1, y1, z1⟩, st⟩ := X.specialBack hx (y := y) hy1 hown (mvT hZ w1) (mvT hZ w2) (mvT hZ w4) hy (backOf (W := (rest.map fun v => v.category).sum) (Q := fun v h L => Q v h ∧ Fr n0 L) hM hZ w4 w3 hf hl) (g := mkF m pc L (argsL.reverse ++ .ref a :: rest)) rfl (hL.trans hml.symm) (Steps.refl _) (a := a) (argsL := argsL) (rest := rest) (lenOf pd hlen) rfl (by show 2 * 0 + _ ≤ _; omega) (hb hby hd) (fun _ _ => ⟨rfl, eT, hc, hs⟩)
  dsimp only [Pt.U, Pt.locs, Pt.cells, Pt.slots] at X1 l1 y1 z1 st hQ
  subst l1 y1 z1
  obtain ⟨s₂, o, st2, r2⟩ := w v _ hQ T1 _ X1 rfl (Fr.app N N1)
  exact ⟨s₂, o, st.trans st2, r2⟩
theorem w_callV (ok : Ok K Z n0 own code maxL ret nm) {index : Nat} {C : String} {y : MethodName} {bytes : ByteArray} {mL : Nat} {rt : Option FieldType} {rm : Room} {a : Addr} {argsL rest : List Value} {Q : Option Value → Heap → Prop} {ps : List FieldType} {r : Option FieldType}
    (hd : decode code pc = .ok (.invokevirtual index, 3)) (w1 : (Cond.methodLink own index y).before a0 Z = true) (w2 : (Cond.declares y).before a0 Z = true) (w3 : (Cond.selects C y y).before a0 Z = true) (w4 : (Cond.instanceMethod y).before a0 Z = true) (w5 : (Cond.initialized y.cls).before a0 Z = true) (w6 : (Cond.code y bytes mL rt).before a0 Z = true) (hy : notHandle y)
    (E : Exa Z h a C) (pd : parseMethodDescriptor y.desc = some ⟨ps, r⟩) (hlen : argsL.length = ps.length) (hL : L.size = maxL) (hf : rm.frames + 1 ≤ R.frames) (hl : (rest.map fun v => v.category).sum + (mL + 11) + rm.locals ≤ R.locals) (hc : k + rm.cells ≤ R.cells) (hs : n + rm.slots ≤ R.slots)
    (hM : Old Z n0 h → Met l Z n0 y bytes mL rt [] rm (.ref a :: argsL).toArray h Q) (w : ∀ v h', Q v h' → W K l R n0 P h' (k + rm.cells) (n + rm.slots) (pc + 3) L (v.toList ++ rest)) : W K l R n0 P h k n pc L (argsL.reverse ++ .ref a :: rest) := by
  obtain ⟨p, e, s, m, args, below, meth, c⟩ := K
  obtain ⟨hx, hZ, hown, hby, hml, hret, hnm, hlk, hn0⟩ := ok
  intro T locs X eT N
  have hM := hM (by rw [← eT]; exact old_now hn0 X N)
  obtain ⟨cq, kq, qa, qb, qc⟩ := isOf hZ eT E
  obtain ⟨v, _, ⟨T1, L1, k1, n1⟩, -, X1, ⟨Lc, ⟨hQ, N1⟩, l1, y1, z1⟩, st⟩ := X.virtualBack hx (y := y) (z := y) hown (mvT hZ w1) (mvT hZ w2) (notFace_of_selects (args := #[]) (mvT hZ w3)) (mvT hZ w3) (mvT hZ w4) hy (backOf (W := (rest.map fun v => v.category).sum) (Q := fun v h L => Q v h ∧ Fr n0 L) hM hZ w6 w5 hf hl) qa qc (g := mkF m pc L (argsL.reverse ++ .ref a :: rest)) rfl (hL.trans hml.symm) (Steps.refl _) (argsL := argsL) (rest := rest) (lenOf pd hlen) rfl (by show 2 * 0 + _ ≤ _; omega) (hb hby hd) (fun _ _ => ⟨rfl, eT, hc, hs⟩)
  dsimp only [Pt.U, Pt.locs, Pt.cells, Pt.slots] at X1 l1 y1 z1 st hQ
  subst l1 y1 z1
  obtain ⟨s₂, o, st2, r2⟩ := w v _ hQ T1 _ X1 rfl (Fr.app N N1)
  exact ⟨s₂, o, st.trans st2, r2⟩
theorem w_callP (ok : Ok K Z n0 own code maxL ret nm) {index kk : Nat} {y : MethodName} {bytes : ByteArray} {mL : Nat} {rt : Option FieldType} {rm : Room} {a : Addr} {argsL rest : List Value} {Q : Option Value → Heap → Prop} {ps : List FieldType} {r : Option FieldType}
    (hd : decode code pc = .ok (.invokevirtual index, 3)) (w1 : (Cond.methodLink own index y).before a0 Z = true) (w2 : (Cond.instanceMethod y).before a0 Z = true) (w3 : (Cond.privateMethod y).before a0 Z = true) (w4 : (Cond.instantiable y.cls kk).before a0 Z = true) (w5 : (Cond.initialized y.cls).before a0 Z = true) (w6 : (Cond.code y bytes mL rt).before a0 Z = true) (hy : notHandle y)
    (E : Exa Z h a y.cls) (pd : parseMethodDescriptor y.desc = some ⟨ps, r⟩) (hlen : argsL.length = ps.length) (hL : L.size = maxL) (hf : rm.frames + 1 ≤ R.frames) (hl : (rest.map fun v => v.category).sum + (mL + 11) + rm.locals ≤ R.locals) (hc : k + rm.cells ≤ R.cells) (hs : n + rm.slots ≤ R.slots)
    (hM : Old Z n0 h → Met l Z n0 y bytes mL rt [] rm (.ref a :: argsL).toArray h Q) (w : ∀ v h', Q v h' → W K l R n0 P h' (k + rm.cells) (n + rm.slots) (pc + 3) L (v.toList ++ rest)) : W K l R n0 P h k n pc L (argsL.reverse ++ .ref a :: rest) := by
  obtain ⟨p, e, s, m, args, below, meth, c⟩ := K
  obtain ⟨hx, hZ, hown, hby, hml, hret, hnm, hlk, hn0⟩ := ok
  intro T locs X eT N
  have hM := hM (by rw [← eT]; exact old_now hn0 X N)
  have hP : s.PrivateAt y := Cond.privateMethod_at (mvP hZ w3 (args := #[]))
  obtain ⟨ci, ki, i1, i2, i3, i4, -⟩ := Cond.instantiable_spec (mvT (args := args) hZ w4)
  have hni : ki.isInterface = false := by
    cases q : ki.isInterface
    · rfl
    · rw [q] at i4; cases i4
  have hsel := selects_self_of_private (args := args) i1 i2 hni hP (mvT hZ w2) hy
  obtain ⟨cell, hcell, hobj⟩ := E.cell
  obtain ⟨v, _, ⟨T1, L1, k1, n1⟩, -, X1, ⟨Lc, ⟨hQ, N1⟩, l1, y1, z1⟩, st⟩ := X.privateBack hx (y := y) hown (mvT hZ w1) (mvT hZ w2) hsel hP (mvT hZ w6) hy (backOf (W := (rest.map fun v => v.category).sum) (Q := fun v h L => Q v h ∧ Fr n0 L) hM hZ w6 w5 hf hl) (g := mkF m pc L (argsL.reverse ++ .ref a :: rest)) rfl (hL.trans hml.symm) (Steps.refl _) (a := a) (by rw [eT]; exact hcell) hobj (argsL := argsL) (rest := rest) (lenOf pd hlen) rfl (by show 2 * 0 + _ ≤ _; omega) (hb hby hd) (fun _ _ => ⟨rfl, eT, hc, hs⟩)
  dsimp only [Pt.U, Pt.locs, Pt.cells, Pt.slots] at X1 l1 y1 z1 st hQ
  subst l1 y1 z1
  obtain ⟨s₂, o, st2, r2⟩ := w v _ hQ T1 _ X1 rfl (Fr.app N N1)
  exact ⟨s₂, o, st.trans st2, r2⟩
theorem w_getstatic (ok : Ok K Z n0 own code maxL ret nm) {index : Nat} {R0 O n' d : String} {v : Value} (hd : decode code pc = .ok (.getstatic index, 3)) (w1 : (Cond.fieldLink own index R0 n' d).before a0 Z = true) (via : Via Z R0 O n' d) (F : Sta Z Z.heap O n' d v) (w : W K l R n0 P h k n (pc + 3) L (v :: S)) : W K l R n0 P h k n pc L S := by
  obtain ⟨p, e, s, m, args, below, meth, c⟩ := K
  obtain ⟨hx, hZ, hown, hby, hml, hret, hnm, hlk, hn0⟩ := ok
  intro T locs X eT N
  have O := old_now hn0 X N
  obtain ⟨T1, X1, e1, st⟩ := getS (host := "") X hx hZ hown w1 via rfl (F.ext O.2) (g := mkF m pc L S) rfl (hb hby hd)
  obtain ⟨s₂, o, st2, r⟩ := w T1 locs X1 (e1.trans eT) N
  exact ⟨s₂, o, st _ st2, r⟩
theorem w_acmp (ok : Ok K Z n0 own code maxL ret nm) {cd : ACond} {x y : Value} {o : Int} {pc1 pc' : Nat} (hd : decode code pc = .ok (.if_acmp cd o, 3)) (hp : (pc : Int) + o = (pc1 : Int)) (h1 : x.isRef = true) (h2 : y.isRef = true) (same : Bool) (hq : decide (x = y) = same) (hpc : pc' = if acV cd same = true then pc1 else pc + 3) (w : W K l R n0 P h k n pc' L S) : W K l R n0 P h k n pc L (y :: x :: S) := by
  obtain ⟨p, e, s, m, args, below, meth, c⟩ := K
  obtain ⟨hx, hZ, hown, hby, -⟩ := ok
  intro T locs X eT N
  obtain ⟨s₂, o, st, r⟩ := w T locs X eT N
  exact ⟨s₂, o, acmp X hx rfl h1 h2 (pc0 := pc) (pc' := pc') (same := same) rfl (hb hby hd) rfl hq (by rw [hp]; exact Int.natCast_nonneg _) (by rw [hp]; exact hpc) st, r⟩
theorem w_ifnullY (ok : Ok K Z n0 own code maxL ret nm) {o : Int} {pc' : Nat} (hd : decode code pc = .ok (.ifnull o, 3)) (hp : (pc : Int) + o = (pc' : Int)) (w : W K l R n0 P h k n pc' L S) : W K l R n0 P h k n pc L (.null :: S) := by
  obtain ⟨p, e, s, m, args, below, meth, c⟩ := K
  obtain ⟨hx, hZ, hown, hby, -⟩ := ok
  intro T locs X eT N
  obtain ⟨s₂, o, st, r⟩ := w T locs X eT N
  exact ⟨s₂, o, XS.ifnullYes X.here hx rfl (pc0 := pc) (pc' := pc') rfl (hb hby hd) rfl (by rw [hp]; exact Int.natCast_nonneg _) (by rw [hp]; rfl) st, r⟩
theorem w_ifnullN (ok : Ok K Z n0 own code maxL ret nm) {o : Int} {a : Addr} (hd : decode code pc = .ok (.ifnull o, 3)) (w : W K l R n0 P h k n (pc + 3) L S) : W K l R n0 P h k n pc L (.ref a :: S) := by
  obtain ⟨p, e, s, m, args, below, meth, c⟩ := K
  obtain ⟨hx, hZ, hown, hby, -⟩ := ok
  intro T locs X eT N
  obtain ⟨s₂, o, st, r⟩ := w T locs X eT N
  exact ⟨s₂, o, XS.ifnullNo X.here hx rfl (hb hby hd) rfl st, r⟩
theorem w_ifnonnullY (ok : Ok K Z n0 own code maxL ret nm) {o : Int} {pc' : Nat} {a : Addr} (hd : decode code pc = .ok (.ifnonnull o, 3)) (hp : (pc : Int) + o = (pc' : Int)) (w : W K l R n0 P h k n pc' L S) : W K l R n0 P h k n pc L (.ref a :: S) := by
  obtain ⟨p, e, s, m, args, below, meth, c⟩ := K
  obtain ⟨hx, hZ, hown, hby, -⟩ := ok
  intro T locs X eT N
  obtain ⟨s₂, o, st, r⟩ := w T locs X eT N
  exact ⟨s₂, o, XS.ifnonnullYes X.here hx rfl (pc0 := pc) (pc' := pc') rfl (hb hby hd) rfl (by rw [hp]; exact Int.natCast_nonneg _) (by rw [hp]; rfl) st, r⟩
theorem w_ifnonnullN (ok : Ok K Z n0 own code maxL ret nm) {o : Int} (hd : decode code pc = .ok (.ifnonnull o, 3)) (w : W K l R n0 P h k n (pc + 3) L S) : W K l R n0 P h k n pc L (.null :: S) := by
  obtain ⟨p, e, s, m, args, below, meth, c⟩ := K
  obtain ⟨hx, hZ, hown, hby, -⟩ := ok
  intro T locs X eT N
  obtain ⟨s₂, o, st, r⟩ := w T locs X eT N
  exact ⟨s₂, o, XS.ifnonnullNo X.here hx rfl (hb hby hd) rfl st, r⟩
/-- what may lie in the array at a: objects of C -/
def OvA (Z : State) (h : Heap) (a : Addr) (C : String) : Prop := ∃ c : Cell, h[a]? = some c ∧ Ovr Z c.cls C
theorem OvA.ext {h' : Heap} {a : Addr} {C : String} (A : OvA Z h a C) (E : Ext h h') : OvA Z h' a C := by obtain ⟨c, q, r⟩ := A; exact ⟨c, E.2 _ _ q, r⟩
theorem OvA.keep {h' : Heap} {a : Addr} {C : String} {ws : List Addr} (A : OvA Z h a C) (K1 : Keep h h' ws) : OvA Z h' a C := by obtain ⟨c, q, r⟩ := A; obtain ⟨c', q', r1, r2⟩ := K1.2.2 a c q; exact ⟨c', q', by rw [r1]; exact r⟩
theorem w_anewarray (ok : Ok K Z n0 own code maxL ret nm) {index : Nat} {C : String} {z : Int32} (hd : decode code pc = .ok (.anewarray index, 3)) (w1 : (Cond.classLink own index C).before a0 Z = true) (w2 : (Cond.arrayOver (.object C)).before a0 Z = true) (hz : ¬ z < 0) {cap : Nat} (hcap : z.toNatClampNeg ≤ cap) (hb1 : cap * 8 ≤ 536870912) (hc : k + 1 ≤ R.cells) (hl : n + cap ≤ R.slots)
    (w : ∀ h' a, a = h.size → n0 ≤ a → Ext h h' → PA (.object C) Z h' a (List.replicate z.toNatClampNeg .null) → OvA Z h' a C → W K l R n0 P h' (k + 1) (n + cap) (pc + 3) L (.ref a :: S)) : W K l R n0 P h k n pc L (.int z :: S) := by
  obtain ⟨p, e, s, m, args, below, meth, c⟩ := K
  obtain ⟨hx, hZ, hown, hby, hml, hret, hnm, hlk, hn0⟩ := ok
  intro T locs X eT N
  obtain ⟨T1, h1, cA, X1, e1, E1, A1, O1, st⟩ := newR X hx hZ hown w1 w2 eT (g := mkF m pc L (.int z :: S)) rfl (hb hby hd) rfl hz hcap hb1 hc hl
  have A2 : PA (.object C) Z h1 h.size (List.replicate z.toNatClampNeg .null) := by
    refine ⟨_, A1, by simpa using (back32 hz).2, by simp [newA, defaultValue], fun v hv => ?_⟩
    rw [List.eq_of_mem_replicate hv]; rfl
  obtain ⟨s₂, o, st2, r⟩ := w h1 h.size rfl (by rw [← eT]; exact old_ge hn0 X N) E1 A2 ⟨_, A1.1, O1⟩ T1 _ X1 e1 N
  exact ⟨s₂, o, st _ st2, r⟩
theorem w_aastore (ok : Ok K Z n0 own code maxL ret nm) {ty : FieldType} {C : String} {a b : Addr} {vs : List Value} {j : Int32} (hd : decode code pc = .ok (.aastore, 1)) (A : PA ty Z h a vs) (OA : OvA Z h a C) (I1 : Ins Z h b C true) (hty : ty.isReference = true) (hfit : fits ty (.ref b) = true) (ge : n0 ≤ a) (h0 : ¬ j < 0) (hj : j.toNatClampNeg < vs.length)
    (w : ∀ h', Wr h h' a j.toNatClampNeg (.ref b) → PA ty Z h' a (vs.set j.toNatClampNeg (.ref b)) → W K l R n0 P h' k n (pc + 1) L S) : W K l R n0 P h k n pc L (.ref b :: .int j :: .ref a :: S) := by
  obtain ⟨p, e, s, m, args, below, meth, c⟩ := K
  obtain ⟨hx, hZ, hown, hby, -⟩ := ok
  intro T locs X eT N
  have A0 := A
  obtain ⟨cl, A, q1, q2, q3⟩ := A
  obtain ⟨c2, y1, y2⟩ := OA
  cases A.1.symm.trans y1
  obtain ⟨T1, h1, X1, e1, W1, st⟩ := stR X hx hZ eT A (j := j) (pa_in q2 h0 hj) hty (Sto.of A y2 I1) (g := mkF m pc L (.ref b :: .int j :: .ref a :: S)) rfl rfl (hb hby hd)
  obtain ⟨s₂, o, st2, r⟩ := w h1 W1 (A0.set W1 hfit) T1 _ X1 e1 (Fr.snoc X1 N ge)
  exact ⟨s₂, o, st _ st2, r⟩
theorem frame_fin {s u : State} {L L' : List Loc} {v : Option Value} {c c' n n' : Nat} (hq : FrameEnd s (.returned v) u L c n) (N : Fr s.heap.size L) (h1 : c ≤ c') (h2 : n ≤ n') : FrameEnd s (.returned v) u L' c' n' :=
  ⟨hq.1, hq.2.1, (hq.2.2.sift fun y hy => Or.inr (N y hy)).mono h1 h2⟩
end S
end Jvm.OwnKit
namespace Jvm.Pilot.@@N@@
open Jvm Jvm.ClassFile Sem Op Lib Jvm.Free Jvm.Stand Jvm.LawKit Jvm.RoadKit Bundle Jvm.OwnKit Jvm.Pilot.@@N@@.Jvm.D
abbrev bys (xs : List Int32) : List Value := xs.map Value.int
theorem own_ofNat {j : Nat} (h : j < 2147483648) : (Int32.ofNat j).toInt = j := Int32.toInt_ofNat_of_lt h
theorem own_succ {j : Nat} (h : j + 1 < 2147483648) : Int32.ofNat j + 1 = Int32.ofNat (j + 1) := by
  apply Int32.toInt_inj.mp
  have e := c_iadd (Int32.ofNat j) 1; have r := rng32 (Int32.ofNat j + 1); have e1 : (1 : Int32).toInt = 1 := rfl
  rw [own_ofNat (show j < 2147483648 by omega)] at e
  rw [own_ofNat h]; omega
theorem own_clamp {z : Int32} {n : Nat} (h : z.toInt = n) : z.toNatClampNeg = n := by rw [Int32.toNatClampNeg, h]; rfl
theorem own_nn {z : Int32} {n : Nat} (h : z.toInt = n) : ¬ z < 0 := by rw [Int32.lt_iff_toInt_lt, h]; show ¬ (n : Int) < 0; omega
theorem own_bys {xs : List Int32} {i : Nat} (h : i < xs.length) : (bys xs)[i]? = some (.int xs[i]) := by simp [bys, h]
theorem own_rd {xs : List Int32} {i : Nat} {x : Int32} (h : xs[i]? = some x) : (bys xs)[i]? = some (.int x) := by simp [bys, h]
theorem own_nb {z : Int32} (h1 : -128 ≤ z.toInt) (h2 : z.toInt < 128) : nar .byte z = z := by
  apply Int32.toInt_inj.mp
  have := c_i2b z
  show (z.toInt8.toInt32).toInt = z.toInt
  omega
theorem own_nbr (z : Int32) : -128 ≤ (nar .byte z).toInt ∧ (nar .byte z).toInt < 128 := by
  have := c_i2b z
  show -128 ≤ (z.toInt8.toInt32).toInt ∧ (z.toInt8.toInt32).toInt < 128
  omega
def own_pc : Int → List Int32 → Int
  | v, [] => v
  | v, x :: xs => if (48 ≤ x.toInt ∧ x.toInt ≤ 57) ∧ v * 10 + (x.toInt - 48) ≤ 9223372036854775807 then own_pc (v * 10 + (x.toInt - 48)) xs else -1
def own_pcA (xs : List Int32) : Int := if xs.length = 0 then -1 else own_pc 0 xs
def own_d (p : Int) (k : Int) : Int32 := Int32.ofInt (48 + (p / k) % 10)
theorem own_dI (p k : Int) : (own_d p k).toInt = 48 + (p / k) % 10 := by
  rw [own_d, Int32.toInt_ofInt]
  exact Int.bmod_eq_of_le (m := 4294967296) (by omega) (by omega)
def own_digs (p : Int) : Nat → List Int32
  | 0 => []
  | n + 1 => own_d p ((10 : Int) ^ n) :: own_digs p n
theorem own_step (p : Int) (n : Nat) : p / (10 : Int) ^ (n + 1) * 10 + (p / (10 : Int) ^ n) % 10 = p / (10 : Int) ^ n := by
  have h : p / (10 : Int) ^ (n + 1) = p / (10 : Int) ^ n / 10 := by rw [Int.pow_succ, Int.ediv_ediv_of_nonneg (Int.pow_nonneg (by decide))]
  rw [h]; omega
theorem own_p18 (p : Int) (h0 : 0 ≤ p) (h : p < 1000000000000000000) (rest : List Int32) : ∀ n : Nat, own_pc (p / (10 : Int) ^ n) (own_digs p n ++ rest) = own_pc p rest
  | 0 => by simp [own_digs]
  | n + 1 => by
    have e := own_step p n; have d := own_dI p ((10 : Int) ^ n)
    have b1 : p / (10 : Int) ^ n ≤ p := Int.ediv_le_self _ h0
    rw [own_digs, List.cons_append, own_pc, d, if_pos (by omega), show p / (10 : Int) ^ (n + 1) * 10 + (48 + p / (10 : Int) ^ n % 10 - 48) = p / (10 : Int) ^ n by omega]
    exact own_p18 p h0 h rest n
theorem own_big (p : Int) (c : Int32) : ∀ (n : Nat) (v : Int), 1000000000000000000 ≤ v * (10 : Int) ^ n → own_pc v (own_digs p n ++ [c]) = -1
  | 0, v, h => by
    have h' : 1000000000000000000 ≤ v := by simpa using h
    rw [own_digs, List.nil_append, own_pc, if_neg (by omega)]
  | n + 1, v, h => by
    rw [own_digs, List.cons_append, own_pc]
    split
    · refine own_big p c n _ ?_
      have d := own_dI p ((10 : Int) ^ n)
      have h2 : v * 10 ≤ v * 10 + ((own_d p ((10 : Int) ^ n)).toInt - 48) := by omega
      have h3 := Int.mul_le_mul_of_nonneg_right h2 (Int.pow_nonneg (by decide) : (0 : Int) ≤ (10 : Int) ^ n)
      rw [Int.pow_succ, Int.mul_comm ((10 : Int) ^ n) 10, ← Int.mul_assoc] at h
      omega
    · rfl
def own_e19 (p c : Int) : Int := if (48 ≤ c ∧ c ≤ 57) ∧ p * 10 + (c - 48) ≤ 9223372036854775807 then p * 10 + (c - 48) else -1
theorem own_r19 (p : Int) (h0 : 0 ≤ p) (h : p < 1000000000000000000) (c : Int32) : own_pcA (own_digs p 18 ++ [c]) = own_e19 p c.toInt := by
  have e : p / (10 : Int) ^ 18 = 0 := Int.ediv_eq_zero_of_lt h0 h
  have q := own_p18 p h0 h [c] 18
  rw [e] at q
  rw [own_pcA, if_neg (by simp [own_digs]), q, own_pc, own_e19]; rfl
theorem own_digs18 (p : Int) : own_digs p 18 = [own_d p 100000000000000000, own_d p 10000000000000000, own_d p 1000000000000000, own_d p 100000000000000, own_d p 10000000000000, own_d p 1000000000000, own_d p 100000000000, own_d p 10000000000, own_d p 1000000000, own_d p 100000000, own_d p 10000000, own_d p 1000000, own_d p 100000, own_d p 10000, own_d p 1000, own_d p 100, own_d p 10, own_d p 1] := by
  simp only [own_digs, Int.reducePow]
theorem own_l19 (p : Int) (c : Int32) : [own_d p 100000000000000000, own_d p 10000000000000000, own_d p 1000000000000000, own_d p 100000000000000, own_d p 10000000000000, own_d p 1000000000000, own_d p 100000000000, own_d p 10000000000, own_d p 1000000000, own_d p 100000000, own_d p 10000000, own_d p 1000000, own_d p 100000, own_d p 10000, own_d p 1000, own_d p 100, own_d p 10, own_d p 1, c] = own_digs p 18 ++ [c] := by rw [own_digs18]; rfl
theorem own_r20 (p : Int) (h0 : 0 ≤ p) (h : p < 1000000000000000000) (a c : Int32) : own_pcA (a :: (own_digs p 18 ++ [c])) = if a.toInt = 48 then own_e19 p c.toInt else -1 := by
  rw [own_pcA, if_neg (by simp), own_pc]
  by_cases q : a.toInt = 48
  · rw [if_pos (by omega), if_pos q, show (0 : Int) * 10 + (a.toInt - 48) = 0 by omega]
    have := own_r19 p h0 h c
    rw [own_pcA, if_neg (by simp [own_digs])] at this
    exact this
  · rw [if_neg q]
    split
    · exact own_big p c 18 _ (by omega)
    · rfl
theorem own_x48 (X : Int32) (h : -128 ≤ X.toInt ∧ X.toInt < 128) : (X - 48).toInt64.toInt = X.toInt - 48 := by
  have a1 := c_isub X 48; have a2 := rng32 (X - 48); have a3 : (48 : Int32).toInt = 48 := rfl
  rw [c_i2l]; omega
theorem own_gt (v : Int64) (X : Int32) (h : 48 ≤ X.toInt ∧ X.toInt ≤ 57) : (9223372036854775807 - (X - 48).toInt64) / 10 < v ↔ 9223372036854775807 < v.toInt * 10 + (X.toInt - 48) := by
  have e1 := own_x48 X (by omega)
  have e2 : (9223372036854775807 - (X - 48).toInt64).toInt = 9223372036854775807 - (X.toInt - 48) := by
    have a5 := c_lsub 9223372036854775807 (X - 48).toInt64; have a6 := rng64 (9223372036854775807 - (X - 48).toInt64); have a7 : (9223372036854775807 : Int64).toInt = 9223372036854775807 := rfl
    rw [e1, a7] at a5; clear e1 a7; omega
  have e3 := (c_ldiv (9223372036854775807 - (X - 48).toInt64) 10 10 rfl (by decide)).1 (by rw [e2]; omega)
  rw [Int64.lt_iff_toInt_lt, e3, e2]
  clear e1 e2 e3; omega
theorem own_nv (v : Int64) (X : Int32) (h : 48 ≤ X.toInt ∧ X.toInt ≤ 57) (hv : 0 ≤ v.toInt) (hm : v.toInt * 10 + (X.toInt - 48) ≤ 9223372036854775807) : (v * 10 + (X - 48).toInt64).toInt = v.toInt * 10 + (X.toInt - 48) := by
  have e1 := own_x48 X (by omega)
  have e2 : (v * 10).toInt = v.toInt * 10 := by
    have a9 := c_lmul v 10; have b1 := rng64 (v * 10); have b2 : (10 : Int64).toInt = 10 := rfl
    rw [b2] at a9; clear e1 b2; omega
  have b3 := c_ladd (v * 10) (X - 48).toInt64; have b4 := rng64 (v * 10 + (X - 48).toInt64)
  rw [e1, e2] at b3; clear e1 e2; omega
theorem d3_0 : decode prog_71_method_43_code 0 = .ok (.aload_n 0, 1) := by decide +kernel
theorem d3_1 : decode prog_71_method_43_code 1 = .ok (.arraylength, 1) := by decide +kernel
theorem d3_2 : decode prog_71_method_43_code 2 = .ok (.ifCond .ne 7, 3) := by decide +kernel
theorem d3_5 : decode prog_71_method_43_code 5 = .ok (.ldc2_w 483, 3) := by decide +kernel
theorem d3_8 : decode prog_71_method_43_code 8 = .ok (.lreturn, 1) := by decide +kernel
theorem d3_9 : decode prog_71_method_43_code 9 = .ok (.lconst 0, 1) := by decide +kernel
theorem d3_10 : decode prog_71_method_43_code 10 = .ok (.lstore_n 1, 1) := by decide +kernel
theorem d3_11 : decode prog_71_method_43_code 11 = .ok (.aload_n 0, 1) := by decide +kernel
theorem d3_12 : decode prog_71_method_43_code 12 = .ok (.astore_n 3, 1) := by decide +kernel
theorem d3_13 : decode prog_71_method_43_code 13 = .ok (.aload_n 3, 1) := by decide +kernel
theorem d3_14 : decode prog_71_method_43_code 14 = .ok (.arraylength, 1) := by decide +kernel
theorem d3_15 : decode prog_71_method_43_code 15 = .ok (.istore 4, 2) := by decide +kernel
theorem d3_17 : decode prog_71_method_43_code 17 = .ok (.iconst 0, 1) := by decide +kernel
theorem d3_18 : decode prog_71_method_43_code 18 = .ok (.istore 5, 2) := by decide +kernel
theorem d3_20 : decode prog_71_method_43_code 20 = .ok (.iload 5, 2) := by decide +kernel
theorem d3_22 : decode prog_71_method_43_code 22 = .ok (.iload 4, 2) := by decide +kernel
theorem d3_24 : decode prog_71_method_43_code 24 = .ok (.if_icmp .ge 65, 3) := by decide +kernel
theorem d3_27 : decode prog_71_method_43_code 27 = .ok (.aload_n 3, 1) := by decide +kernel
theorem d3_28 : decode prog_71_method_43_code 28 = .ok (.iload 5, 2) := by decide +kernel
theorem d3_30 : decode prog_71_method_43_code 30 = .ok (.baload, 1) := by decide +kernel
theorem d3_31 : decode prog_71_method_43_code 31 = .ok (.istore 6, 2) := by decide +kernel
theorem d3_33 : decode prog_71_method_43_code 33 = .ok (.iload 6, 2) := by decide +kernel
theorem d3_35 : decode prog_71_method_43_code 35 = .ok (.bipush 48, 2) := by decide +kernel
theorem d3_37 : decode prog_71_method_43_code 37 = .ok (.if_icmp .lt 29, 3) := by decide +kernel
theorem d3_40 : decode prog_71_method_43_code 40 = .ok (.iload 6, 2) := by decide +kernel
theorem d3_42 : decode prog_71_method_43_code 42 = .ok (.bipush 57, 2) := by decide +kernel
theorem d3_44 : decode prog_71_method_43_code 44 = .ok (.if_icmp .gt 22, 3) := by decide +kernel
theorem d3_47 : decode prog_71_method_43_code 47 = .ok (.lload_n 1, 1) := by decide +kernel
theorem d3_48 : decode prog_71_method_43_code 48 = .ok (.ldc2_w 771, 3) := by decide +kernel
theorem d3_51 : decode prog_71_method_43_code 51 = .ok (.iload 6, 2) := by decide +kernel
theorem d3_53 : decode prog_71_method_43_code 53 = .ok (.bipush 48, 2) := by decide +kernel
theorem d3_55 : decode prog_71_method_43_code 55 = .ok (.isub, 1) := by decide +kernel
theorem d3_56 : decode prog_71_method_43_code 56 = .ok (.i2l, 1) := by decide +kernel
theorem d3_57 : decode prog_71_method_43_code 57 = .ok (.lsub, 1) := by decide +kernel
theorem d3_58 : decode prog_71_method_43_code 58 = .ok (.ldc2_w 773, 3) := by decide +kernel
theorem d3_61 : decode prog_71_method_43_code 61 = .ok (.ldiv, 1) := by decide +kernel
theorem d3_62 : decode prog_71_method_43_code 62 = .ok (.lcmp, 1) := by decide +kernel
theorem d3_63 : decode prog_71_method_43_code 63 = .ok (.ifCond .le 7, 3) := by decide +kernel
theorem d3_66 : decode prog_71_method_43_code 66 = .ok (.ldc2_w 483, 3) := by decide +kernel
theorem d3_69 : decode prog_71_method_43_code 69 = .ok (.lreturn, 1) := by decide +kernel
theorem d3_70 : decode prog_71_method_43_code 70 = .ok (.lload_n 1, 1) := by decide +kernel
theorem d3_71 : decode prog_71_method_43_code 71 = .ok (.ldc2_w 773, 3) := by decide +kernel
theorem d3_74 : decode prog_71_method_43_code 74 = .ok (.lmul, 1) := by decide +kernel
theorem d3_75 : decode prog_71_method_43_code 75 = .ok (.iload 6, 2) := by decide +kernel
theorem d3_77 : decode prog_71_method_43_code 77 = .ok (.bipush 48, 2) := by decide +kernel
theorem d3_79 : decode prog_71_method_43_code 79 = .ok (.isub, 1) := by decide +kernel
theorem d3_80 : decode prog_71_method_43_code 80 = .ok (.i2l, 1) := by decide +kernel
theorem d3_81 : decode prog_71_method_43_code 81 = .ok (.ladd, 1) := by decide +kernel
theorem d3_82 : decode prog_71_method_43_code 82 = .ok (.lstore_n 1, 1) := by decide +kernel
theorem d3_83 : decode prog_71_method_43_code 83 = .ok (.iinc 5 1, 3) := by decide +kernel
theorem d3_86 : decode prog_71_method_43_code 86 = .ok (.goto (-66), 3) := by decide +kernel
theorem d3_89 : decode prog_71_method_43_code 89 = .ok (.lload_n 1, 1) := by decide +kernel
theorem d3_90 : decode prog_71_method_43_code 90 = .ok (.lreturn, 1) := by decide +kernel
theorem pn_com_example_turnstile_turnstile_server_Commands : plainName "com/example/turnstile/turnstile/server/Commands" = true := by first | (simp [plainName, overriddenIn]; done) | decide +kernel
set_option maxRecDepth 65536 in
set_option maxHeartbeats 40000000 in
theorem lp (l : Launch) (Z : State) (a0 : Array Value) (hw : ∀ d ∈ tables_1, d.before a0 Z = true) (n0 : Nat) (h0 : Heap) (K : Cx) (ok : Ok K Z n0 "com/example/turnstile/turnstile/server/Commands" prog_71_method_43_code 7 (some .long) "parseCount") (d : Addr) (xs : List Int32) (r : Int) (A_d : PA .byte Z h0 d (bys xs)) (q : Int32) (hq : (bys xs).length = q.toNatClampNeg) (hq0 : ¬ q < 0) :
    ∀ (c j : Nat) (v : Int64) (s6 : Slot), One s6 → 0 ≤ v.toInt → j + c = xs.length → own_pc v.toInt (xs.drop j) = r → W K l ({ frames := 0, cells := 0, slots := 0, locals := 0 } : Room) n0 (fun u h => ∃ z : Int64, u = some (.long z) ∧ z.toInt = r ∧ h0 = h) h0 0 0 20 #[.val (.ref d), .val (.long v), .second, .val (.ref d), .val (.int q), .val (.int (Int32.ofNat j)), s6] [] := by
  have eq := nat_of hq0
  have m1 : (bys xs).length = xs.length := by simp
  have ml := A_d.len
  intro c
  induction c with
  | zero =>
    intro j v s6 o6 hv hj hr
    have ej : (Int32.ofNat j).toInt = j := own_ofNat (by omega)
    show W K l _ n0 _ h0 0 0 20 #[.val (.ref d), .val (.long v), .second, .val (.ref d), .val (.int q), .val (.int (Int32.ofNat j)), s6] []
    refine w_iload ok d3_20 rfl ?_
    show W K l _ n0 _ h0 0 0 22 #[.val (.ref d), .val (.long v), .second, .val (.ref d), .val (.int q), .val (.int (Int32.ofNat j)), s6] [(.int (Int32.ofNat j))]
    refine w_iload ok d3_22 rfl ?_
    show W K l _ n0 _ h0 0 0 24 #[.val (.ref d), .val (.long v), .second, .val (.ref d), .val (.int q), .val (.int (Int32.ofNat j)), s6] [(.int q), (.int (Int32.ofNat j))]
    refine w_icmp_ge ok d3_24 (pc' := 89) (by decide) (fun hc1 => ?_) (fun hc1 => False.elim (by rw [Int32.lt_iff_toInt_lt] at hc1; omega))
    show W K l _ n0 _ h0 0 0 89 #[.val (.ref d), .val (.long v), .second, .val (.ref d), .val (.int q), .val (.int (Int32.ofNat j)), s6] []
    refine w_lloadN ok d3_89 rfl ?_
    show W K l _ n0 _ h0 0 0 90 #[.val (.ref d), .val (.long v), .second, .val (.ref d), .val (.int q), .val (.int (Int32.ofNat j)), s6] [(.long v)]
    refine w_lret ok d3_90 (by decide) (by decide) ?_
    refine ⟨_, rfl, ?_, rfl⟩
    rw [← hr, List.drop_of_length_le (by omega : xs.length ≤ j), own_pc]
  | succ c ih =>
    intro j v s6 o6 hv hj hr
    have ej : (Int32.ofNat j).toInt = j := own_ofNat (by omega)
    have hx2 : j < xs.length := by omega
    rw [List.drop_eq_getElem_cons hx2, own_pc] at hr
    generalize hX : xs[j] = X at hr
    show W K l _ n0 _ h0 0 0 20 #[.val (.ref d), .val (.long v), .second, .val (.ref d), .val (.int q), .val (.int (Int32.ofNat j)), s6] []
    refine w_iload ok d3_20 rfl ?_
    show W K l _ n0 _ h0 0 0 22 #[.val (.ref d), .val (.long v), .second, .val (.ref d), .val (.int q), .val (.int (Int32.ofNat j)), s6] [(.int (Int32.ofNat j))]
    refine w_iload ok d3_22 rfl ?_
    show W K l _ n0 _ h0 0 0 24 #[.val (.ref d), .val (.long v), .second, .val (.ref d), .val (.int q), .val (.int (Int32.ofNat j)), s6] [(.int q), (.int (Int32.ofNat j))]
    refine w_icmp_ge ok d3_24 (pc' := 89) (by decide) (fun hc3 => False.elim (by rw [Int32.lt_iff_toInt_lt] at hc3; omega)) (fun hc3 => ?_)
    show W K l _ n0 _ h0 0 0 27 #[.val (.ref d), .val (.long v), .second, .val (.ref d), .val (.int q), .val (.int (Int32.ofNat j)), s6] []
    refine w_aloadN ok d3_27 rfl rfl ?_
    show W K l _ n0 _ h0 0 0 28 #[.val (.ref d), .val (.long v), .second, .val (.ref d), .val (.int q), .val (.int (Int32.ofNat j)), s6] [(.ref d)]
    refine w_iload ok d3_28 rfl ?_
    show W K l _ n0 _ h0 0 0 30 #[.val (.ref d), .val (.long v), .second, .val (.ref d), .val (.int q), .val (.int (Int32.ofNat j)), s6] [(.int (Int32.ofNat j)), (.ref d)]
    refine w_baload ok (v := (.int X)) d3_30 A_d (own_nn ej) (by rw [own_clamp ej, own_bys hx2, hX]) ?_
    show W K l _ n0 _ h0 0 0 31 #[.val (.ref d), .val (.long v), .second, .val (.ref d), .val (.int q), .val (.int (Int32.ofNat j)), s6] [(.int X)]
    refine w_istore ok d3_31 (L' := #[.val (.ref d), .val (.long v), .second, .val (.ref d), .val (.int q), .val (.int (Int32.ofNat j)), .val (.int X)]) (by exact XS.store1 (o := s6) rfl o6 rfl) ?_
    show W K l _ n0 _ h0 0 0 33 #[.val (.ref d), .val (.long v), .second, .val (.ref d), .val (.int q), .val (.int (Int32.ofNat j)), .val (.int X)] []
    refine w_iload ok d3_33 rfl ?_
    show W K l _ n0 _ h0 0 0 35 #[.val (.ref d), .val (.long v), .second, .val (.ref d), .val (.int q), .val (.int (Int32.ofNat j)), .val (.int X)] [(.int X)]
    refine w_bipush ok d3_35 (v := (48 : Int32)) rfl ?_
    show W K l _ n0 _ h0 0 0 37 #[.val (.ref d), .val (.long v), .second, .val (.ref d), .val (.int q), .val (.int (Int32.ofNat j)), .val (.int X)] [(.int (48 : Int32)), (.int X)]
    refine w_icmp_lt ok d3_37 (pc' := 66) (by decide) (fun hc5 => ?_) (fun hc5 => ?_)
    · show W K l _ n0 _ h0 0 0 66 #[.val (.ref d), .val (.long v), .second, .val (.ref d), .val (.int q), .val (.int (Int32.ofNat j)), .val (.int X)] []
      refine w_ldc2J (v := (-1 : Int64)) ok d3_66 (hw _ (List.mem_of_getElem? (i := 32) rfl)) ?_
      show W K l _ n0 _ h0 0 0 69 #[.val (.ref d), .val (.long v), .second, .val (.ref d), .val (.int q), .val (.int (Int32.ofNat j)), .val (.int X)] [(.long (-1 : Int64))]
      refine w_lret ok d3_69 (by decide) (by decide) ?_
      simp only [Int32.lt_iff_toInt_lt, Int32.reduceToInt] at hc5
      refine ⟨_, rfl, ?_, rfl⟩
      rw [if_neg (by omega)] at hr; rw [← hr] <;> rfl
    · show W K l _ n0 _ h0 0 0 40 #[.val (.ref d), .val (.long v), .second, .val (.ref d), .val (.int q), .val (.int (Int32.ofNat j)), .val (.int X)] []
      refine w_iload ok d3_40 rfl ?_
      show W K l _ n0 _ h0 0 0 42 #[.val (.ref d), .val (.long v), .second, .val (.ref d), .val (.int q), .val (.int (Int32.ofNat j)), .val (.int X)] [(.int X)]
      refine w_bipush ok d3_42 (v := (57 : Int32)) rfl ?_
      show W K l _ n0 _ h0 0 0 44 #[.val (.ref d), .val (.long v), .second, .val (.ref d), .val (.int q), .val (.int (Int32.ofNat j)), .val (.int X)] [(.int (57 : Int32)), (.int X)]
      refine w_icmp_gt ok d3_44 (pc' := 66) (by decide) (fun hc7 => ?_) (fun hc7 => ?_)
      · show W K l _ n0 _ h0 0 0 66 #[.val (.ref d), .val (.long v), .second, .val (.ref d), .val (.int q), .val (.int (Int32.ofNat j)), .val (.int X)] []
        refine w_ldc2J (v := (-1 : Int64)) ok d3_66 (hw _ (List.mem_of_getElem? (i := 32) rfl)) ?_
        show W K l _ n0 _ h0 0 0 69 #[.val (.ref d), .val (.long v), .second, .val (.ref d), .val (.int q), .val (.int (Int32.ofNat j)), .val (.int X)] [(.long (-1 : Int64))]
        refine w_lret ok d3_69 (by decide) (by decide) ?_
        simp only [Int32.lt_iff_toInt_lt, Int32.reduceToInt] at hc5 hc7
        refine ⟨_, rfl, ?_, rfl⟩
        rw [if_neg (by omega)] at hr; rw [← hr] <;> rfl
      · show W K l _ n0 _ h0 0 0 47 #[.val (.ref d), .val (.long v), .second, .val (.ref d), .val (.int q), .val (.int (Int32.ofNat j)), .val (.int X)] []
        refine w_lloadN ok d3_47 rfl ?_
        show W K l _ n0 _ h0 0 0 48 #[.val (.ref d), .val (.long v), .second, .val (.ref d), .val (.int q), .val (.int (Int32.ofNat j)), .val (.int X)] [(.long v)]
        refine w_ldc2J (v := (9223372036854775807 : Int64)) ok d3_48 (hw _ (List.mem_of_getElem? (i := 33) rfl)) ?_
        show W K l _ n0 _ h0 0 0 51 #[.val (.ref d), .val (.long v), .second, .val (.ref d), .val (.int q), .val (.int (Int32.ofNat j)), .val (.int X)] [(.long (9223372036854775807 : Int64)), (.long v)]
        refine w_iload ok d3_51 rfl ?_
        show W K l _ n0 _ h0 0 0 53 #[.val (.ref d), .val (.long v), .second, .val (.ref d), .val (.int q), .val (.int (Int32.ofNat j)), .val (.int X)] [(.int X), (.long (9223372036854775807 : Int64)), (.long v)]
        refine w_bipush ok d3_53 (v := (48 : Int32)) rfl ?_
        show W K l _ n0 _ h0 0 0 55 #[.val (.ref d), .val (.long v), .second, .val (.ref d), .val (.int q), .val (.int (Int32.ofNat j)), .val (.int X)] [(.int (48 : Int32)), (.int X), (.long (9223372036854775807 : Int64)), (.long v)]
        refine w_isub ok d3_55 ?_
        show W K l _ n0 _ h0 0 0 56 #[.val (.ref d), .val (.long v), .second, .val (.ref d), .val (.int q), .val (.int (Int32.ofNat j)), .val (.int X)] [(.int (X - (48 : Int32))), (.long (9223372036854775807 : Int64)), (.long v)]
        refine w_i2l ok d3_56 ?_
        show W K l _ n0 _ h0 0 0 57 #[.val (.ref d), .val (.long v), .second, .val (.ref d), .val (.int q), .val (.int (Int32.ofNat j)), .val (.int X)] [(.long ((X - (48 : Int32)).toInt64)), (.long (9223372036854775807 : Int64)), (.long v)]
        refine w_lsub ok d3_57 ?_
        show W K l _ n0 _ h0 0 0 58 #[.val (.ref d), .val (.long v), .second, .val (.ref d), .val (.int q), .val (.int (Int32.ofNat j)), .val (.int X)] [(.long ((9223372036854775807 : Int64) - ((X - (48 : Int32)).toInt64))), (.long v)]
        refine w_ldc2J (v := (10 : Int64)) ok d3_58 (hw _ (List.mem_of_getElem? (i := 34) rfl)) ?_
        show W K l _ n0 _ h0 0 0 61 #[.val (.ref d), .val (.long v), .second, .val (.ref d), .val (.int q), .val (.int (Int32.ofNat j)), .val (.int X)] [(.long (10 : Int64)), (.long ((9223372036854775807 : Int64) - ((X - (48 : Int32)).toInt64))), (.long v)]
        refine w_ldiv ok d3_61 (by decide) ?_
        show W K l _ n0 _ h0 0 0 62 #[.val (.ref d), .val (.long v), .second, .val (.ref d), .val (.int q), .val (.int (Int32.ofNat j)), .val (.int X)] [(.long (((9223372036854775807 : Int64) - ((X - (48 : Int32)).toInt64)) / (10 : Int64))), (.long v)]
        refine w_lcmp_le ok d3_62 d3_63 (pc' := 70) (by decide) (fun hc9 => ?_) (fun hc9 => ?_)
        · show W K l _ n0 _ h0 0 0 70 #[.val (.ref d), .val (.long v), .second, .val (.ref d), .val (.int q), .val (.int (Int32.ofNat j)), .val (.int X)] []
          refine w_lloadN ok d3_70 rfl ?_
          show W K l _ n0 _ h0 0 0 71 #[.val (.ref d), .val (.long v), .second, .val (.ref d), .val (.int q), .val (.int (Int32.ofNat j)), .val (.int X)] [(.long v)]
          refine w_ldc2J (v := (10 : Int64)) ok d3_71 (hw _ (List.mem_of_getElem? (i := 34) rfl)) ?_
          show W K l _ n0 _ h0 0 0 74 #[.val (.ref d), .val (.long v), .second, .val (.ref d), .val (.int q), .val (.int (Int32.ofNat j)), .val (.int X)] [(.long (10 : Int64)), (.long v)]
          refine w_lmul ok d3_74 ?_
          show W K l _ n0 _ h0 0 0 75 #[.val (.ref d), .val (.long v), .second, .val (.ref d), .val (.int q), .val (.int (Int32.ofNat j)), .val (.int X)] [(.long (v * (10 : Int64)))]
          refine w_iload ok d3_75 rfl ?_
          show W K l _ n0 _ h0 0 0 77 #[.val (.ref d), .val (.long v), .second, .val (.ref d), .val (.int q), .val (.int (Int32.ofNat j)), .val (.int X)] [(.int X), (.long (v * (10 : Int64)))]
          refine w_bipush ok d3_77 (v := (48 : Int32)) rfl ?_
          show W K l _ n0 _ h0 0 0 79 #[.val (.ref d), .val (.long v), .second, .val (.ref d), .val (.int q), .val (.int (Int32.ofNat j)), .val (.int X)] [(.int (48 : Int32)), (.int X), (.long (v * (10 : Int64)))]
          refine w_isub ok d3_79 ?_
          show W K l _ n0 _ h0 0 0 80 #[.val (.ref d), .val (.long v), .second, .val (.ref d), .val (.int q), .val (.int (Int32.ofNat j)), .val (.int X)] [(.int (X - (48 : Int32))), (.long (v * (10 : Int64)))]
          refine w_i2l ok d3_80 ?_
          show W K l _ n0 _ h0 0 0 81 #[.val (.ref d), .val (.long v), .second, .val (.ref d), .val (.int q), .val (.int (Int32.ofNat j)), .val (.int X)] [(.long ((X - (48 : Int32)).toInt64)), (.long (v * (10 : Int64)))]
          refine w_ladd ok d3_81 ?_
          show W K l _ n0 _ h0 0 0 82 #[.val (.ref d), .val (.long v), .second, .val (.ref d), .val (.int q), .val (.int (Int32.ofNat j)), .val (.int X)] [(.long ((v * (10 : Int64)) + ((X - (48 : Int32)).toInt64)))]
          refine w_lstoreN ok d3_82 (L' := #[.val (.ref d), .val (.long ((v * (10 : Int64)) + ((X - (48 : Int32)).toInt64))), .second, .val (.ref d), .val (.int q), .val (.int (Int32.ofNat j)), .val (.int X)]) rfl ?_
          show W K l _ n0 _ h0 0 0 83 #[.val (.ref d), .val (.long ((v * (10 : Int64)) + ((X - (48 : Int32)).toInt64))), .second, .val (.ref d), .val (.int q), .val (.int (Int32.ofNat j)), .val (.int X)] []
          refine w_iinc ok d3_83 (u := (1 : Int32)) rfl rfl (L' := #[.val (.ref d), .val (.long ((v * (10 : Int64)) + ((X - (48 : Int32)).toInt64))), .second, .val (.ref d), .val (.int q), .val (.int ((Int32.ofNat j) + (1 : Int32))), .val (.int X)]) rfl ?_
          show W K l _ n0 _ h0 0 0 86 #[.val (.ref d), .val (.long ((v * (10 : Int64)) + ((X - (48 : Int32)).toInt64))), .second, .val (.ref d), .val (.int q), .val (.int ((Int32.ofNat j) + (1 : Int32))), .val (.int X)] []
          refine w_goto ok d3_86 (pc' := 20) (by decide) ?_
          show W K l _ n0 _ h0 0 0 20 #[.val (.ref d), .val (.long ((v * (10 : Int64)) + ((X - (48 : Int32)).toInt64))), .second, .val (.ref d), .val (.int q), .val (.int ((Int32.ofNat j) + (1 : Int32))), .val (.int X)] []
          simp only [Int32.lt_iff_toInt_lt, Int32.reduceToInt] at hc5 hc7
          rw [own_gt v X (by omega)] at hc9
          have e1 := own_nv v X (by omega) hv (by omega)
          rw [own_succ (by omega)]
          exact ih (j + 1) _ _ (One.val rfl) (by omega) (by omega) (by rw [if_pos (by omega)] at hr; rw [e1]; exact hr)
        · show W K l _ n0 _ h0 0 0 66 #[.val (.ref d), .val (.long v), .second, .val (.ref d), .val (.int q), .val (.int (Int32.ofNat j)), .val (.int X)] []
          refine w_ldc2J (v := (-1 : Int64)) ok d3_66 (hw _ (List.mem_of_getElem? (i := 32) rfl)) ?_
          show W K l _ n0 _ h0 0 0 69 #[.val (.ref d), .val (.long v), .second, .val (.ref d), .val (.int q), .val (.int (Int32.ofNat j)), .val (.int X)] [(.long (-1 : Int64))]
          refine w_lret ok d3_69 (by decide) (by decide) ?_
          simp only [Int32.lt_iff_toInt_lt, Int32.reduceToInt] at hc5 hc7
          rw [own_gt v X (by omega)] at hc9
          refine ⟨_, rfl, ?_, rfl⟩
          rw [if_neg (by omega)] at hr; rw [← hr] <;> rfl
set_option maxRecDepth 65536 in
set_option maxHeartbeats 40000000 in
theorem rm_pc (l : Launch) (Z : State) (a0 : Array Value) (hw : ∀ d ∈ tables_1, d.before a0 Z = true) (ws : List Jvm.Cond) (n0 : Nat) (h0 : Heap) (Z0 : Old Z n0 h0) (d : Addr) (xs : List Int32) (A_d : PA .byte Z h0 d (bys xs))  :
    Met l Z n0 (⟨"com/example/turnstile/turnstile/server/Commands", "parseCount", "([B)J"⟩ : MethodName) prog_71_method_43_code 7 (some .long) ws ({ frames := 0, cells := 0, slots := 0, locals := 0 } : Room) #[(.ref d)] h0 (fun u h => ∃ z : Int64, u = some (.long z) ∧ z.toInt = own_pcA xs ∧ h0 = h) := by
  refine met_of Z0 (plainFor_of_name pn_com_example_turnstile_turnstile_server_Commands) (Ls := #[.val (.ref d), .unset, .unset, .unset, .unset, .unset, .unset]) (fun m => by first | (simp [entryFrame, mkF, argsToLocals, Value.category]; done) | rfl) ?_
  intro K ok
  obtain ⟨q, hq, hq0⟩ := pa_z A_d.len
  have eq := nat_of hq0
  have m2 : (bys xs).length = xs.length := by simp
  show W K l _ n0 _ h0 0 0 0 #[.val (.ref d), .unset, .unset, .unset, .unset, .unset, .unset] []
  refine w_aloadN ok d3_0 rfl rfl ?_
  show W K l _ n0 _ h0 0 0 1 #[.val (.ref d), .unset, .unset, .unset, .unset, .unset, .unset] [(.ref d)]
  refine w_arraylength ok (z := q) d3_1 A_d hq hq0 ?_
  show W K l _ n0 _ h0 0 0 2 #[.val (.ref d), .unset, .unset, .unset, .unset, .unset, .unset] [(.int q)]
  refine w_if_ne ok d3_2 (pc' := 9) (by decide) (fun hc1 => ?_) (fun hc1 => ?_)
  · show W K l _ n0 _ h0 0 0 9 #[.val (.ref d), .unset, .unset, .unset, .unset, .unset, .unset] []
    refine w_lconst ok d3_9 (v := (0 : Int64)) rfl ?_
    show W K l _ n0 _ h0 0 0 10 #[.val (.ref d), .unset, .unset, .unset, .unset, .unset, .unset] [(.long (0 : Int64))]
    refine w_lstoreN ok d3_10 (L' := #[.val (.ref d), .val (.long (0 : Int64)), .second, .unset, .unset, .unset, .unset]) rfl ?_
    show W K l _ n0 _ h0 0 0 11 #[.val (.ref d), .val (.long (0 : Int64)), .second, .unset, .unset, .unset, .unset] []
    refine w_aloadN ok d3_11 rfl rfl ?_
    show W K l _ n0 _ h0 0 0 12 #[.val (.ref d), .val (.long (0 : Int64)), .second, .unset, .unset, .unset, .unset] [(.ref d)]
    refine w_astoreN ok d3_12 rfl (L' := #[.val (.ref d), .val (.long (0 : Int64)), .second, .val (.ref d), .unset, .unset, .unset]) rfl ?_
    show W K l _ n0 _ h0 0 0 13 #[.val (.ref d), .val (.long (0 : Int64)), .second, .val (.ref d), .unset, .unset, .unset] []
    refine w_aloadN ok d3_13 rfl rfl ?_
    show W K l _ n0 _ h0 0 0 14 #[.val (.ref d), .val (.long (0 : Int64)), .second, .val (.ref d), .unset, .unset, .unset] [(.ref d)]
    refine w_arraylength ok (z := q) d3_14 A_d hq hq0 ?_
    show W K l _ n0 _ h0 0 0 15 #[.val (.ref d), .val (.long (0 : Int64)), .second, .val (.ref d), .unset, .unset, .unset] [(.int q)]
    refine w_istore ok d3_15 (L' := #[.val (.ref d), .val (.long (0 : Int64)), .second, .val (.ref d), .val (.int q), .unset, .unset]) rfl ?_
    show W K l _ n0 _ h0 0 0 17 #[.val (.ref d), .val (.long (0 : Int64)), .second, .val (.ref d), .val (.int q), .unset, .unset] []
    refine w_iconst ok d3_17 (v := (0 : Int32)) rfl ?_
    show W K l _ n0 _ h0 0 0 18 #[.val (.ref d), .val (.long (0 : Int64)), .second, .val (.ref d), .val (.int q), .unset, .unset] [(.int (0 : Int32))]
    refine w_istore ok d3_18 (L' := #[.val (.ref d), .val (.long (0 : Int64)), .second, .val (.ref d), .val (.int q), .val (.int (0 : Int32)), .unset]) rfl ?_
    show W K l _ n0 _ h0 0 0 20 #[.val (.ref d), .val (.long (0 : Int64)), .second, .val (.ref d), .val (.int q), .val (.int (0 : Int32)), .unset] []
    have hn : ¬ xs.length = 0 := fun e => hc1 (Int32.toInt_inj.mp (by rw [eq, ← hq, m2, e]; rfl))
    rw [own_pcA, if_neg hn]
    exact lp l Z a0 hw n0 h0 K ok d xs _ A_d q hq hq0 xs.length 0 0 _ One.u (by decide) (Nat.zero_add _) rfl
  · show W K l _ n0 _ h0 0 0 5 #[.val (.ref d), .unset, .unset, .unset, .unset, .unset, .unset] []
    refine w_ldc2J (v := (-1 : Int64)) ok d3_5 (hw _ (List.mem_of_getElem? (i := 32) rfl)) ?_
    show W K l _ n0 _ h0 0 0 8 #[.val (.ref d), .unset, .unset, .unset, .unset, .unset, .unset] [(.long (-1 : Int64))]
    refine w_lret ok d3_8 (by decide) (by decide) ?_
    refine ⟨_, rfl, ?_, rfl⟩
    rw [own_pcA, if_pos (by rw [← Int32.toInt_inj] at hc1; have : (0 : Int32).toInt = 0 := rfl; omega)] <;> rfl
theorem d2_0 : decode method_5_code 0 = .ok (.ldc2_w 41, 3) := by decide +kernel
theorem d2_3 : decode method_5_code 3 = .ok (.lload_n 0, 1) := by decide +kernel
theorem d2_4 : decode method_5_code 4 = .ok (.lload_n 2, 1) := by decide +kernel
theorem d2_5 : decode method_5_code 5 = .ok (.ldiv, 1) := by decide +kernel
theorem d2_6 : decode method_5_code 6 = .ok (.ldc2_w 39, 3) := by decide +kernel
theorem d2_9 : decode method_5_code 9 = .ok (.lrem, 1) := by decide +kernel
theorem d2_10 : decode method_5_code 10 = .ok (.ladd, 1) := by decide +kernel
theorem d2_11 : decode method_5_code 11 = .ok (.l2i, 1) := by decide +kernel
theorem d2_12 : decode method_5_code 12 = .ok (.i2b, 1) := by decide +kernel
theorem d2_13 : decode method_5_code 13 = .ok (.ireturn, 1) := by decide +kernel
theorem pn_com_example_turnstile_turnstile_server_CommandsParseCountPinLaw : plainName "com/example/turnstile/turnstile/server/CommandsParseCountPinLaw" = true := by first | (simp [plainName, overriddenIn]; done) | decide +kernel
set_option maxRecDepth 65536 in
set_option maxHeartbeats 40000000 in
theorem rm_d (l : Launch) (Z : State) (a0 : Array Value) (hw : ∀ d ∈ tables_1, d.before a0 Z = true) (ws : List Jvm.Cond) (n0 : Nat) (h0 : Heap) (Z0 : Old Z n0 h0) (p k : Int64) (kI : Int) (hkI : k.toInt = kI) (hp : 0 ≤ p.toInt) (hk : 0 < k.toInt) (hk0 : k ≠ 0)  :
    Met l Z n0 (⟨"com/example/turnstile/turnstile/server/CommandsParseCountPinLaw", "d", "(JJ)B"⟩ : MethodName) method_5_code 4 (some .byte) ws ({ frames := 0, cells := 0, slots := 0, locals := 0 } : Room) #[(.long p), (.long k)] h0 (fun u h => u = some (.int (own_d p.toInt kI)) ∧ h0 = h) := by
  refine met_of Z0 (plainFor_of_name pn_com_example_turnstile_turnstile_server_CommandsParseCountPinLaw) (Ls := #[.val (.long p), .second, .val (.long k), .second]) (fun m => by first | (simp [entryFrame, mkF, argsToLocals, Value.category]; done) | rfl) ?_
  intro K ok
  show W K l _ n0 _ h0 0 0 0 #[.val (.long p), .second, .val (.long k), .second] []
  refine w_ldc2J (v := (48 : Int64)) ok d2_0 (hw _ (List.mem_of_getElem? (i := 11) rfl)) ?_
  show W K l _ n0 _ h0 0 0 3 #[.val (.long p), .second, .val (.long k), .second] [(.long (48 : Int64))]
  refine w_lloadN ok d2_3 rfl ?_
  show W K l _ n0 _ h0 0 0 4 #[.val (.long p), .second, .val (.long k), .second] [(.long p), (.long (48 : Int64))]
  refine w_lloadN ok d2_4 rfl ?_
  show W K l _ n0 _ h0 0 0 5 #[.val (.long p), .second, .val (.long k), .second] [(.long k), (.long p), (.long (48 : Int64))]
  refine w_ldiv ok d2_5 (by assumption) ?_
  show W K l _ n0 _ h0 0 0 6 #[.val (.long p), .second, .val (.long k), .second] [(.long (p / k)), (.long (48 : Int64))]
  refine w_ldc2J (v := (10 : Int64)) ok d2_6 (hw _ (List.mem_of_getElem? (i := 12) rfl)) ?_
  show W K l _ n0 _ h0 0 0 9 #[.val (.long p), .second, .val (.long k), .second] [(.long (10 : Int64)), (.long (p / k)), (.long (48 : Int64))]
  refine w_lrem ok d2_9 (by decide) ?_
  show W K l _ n0 _ h0 0 0 10 #[.val (.long p), .second, .val (.long k), .second] [(.long ((p / k) % (10 : Int64))), (.long (48 : Int64))]
  refine w_ladd ok d2_10 ?_
  show W K l _ n0 _ h0 0 0 11 #[.val (.long p), .second, .val (.long k), .second] [(.long ((48 : Int64) + ((p / k) % (10 : Int64))))]
  refine w_l2i ok d2_11 ?_
  show W K l _ n0 _ h0 0 0 12 #[.val (.long p), .second, .val (.long k), .second] [(.int (((48 : Int64) + ((p / k) % (10 : Int64))).toInt32))]
  refine w_i2b ok d2_12 ?_
  show W K l _ n0 _ h0 0 0 13 #[.val (.long p), .second, .val (.long k), .second] [(.int ((((48 : Int64) + ((p / k) % (10 : Int64))).toInt32).toInt8.toInt32))]
  refine w_bret ok (by simp) d2_13 (by decide) (by decide) ?_
  rw [← hkI]
  refine ⟨?_, rfl⟩
  have e1 := (c_ldiv p k _ rfl (fun e => by rw [e] at hk; exact absurd hk (by decide))).1 hp
  have e0 : 0 ≤ (p / k).toInt := by rw [e1]; exact Int.ediv_nonneg hp (by omega)
  have e2 : ((p / k) % 10).toInt = (p.toInt / k.toInt) % 10 := by rw [Int64.toInt_mod, Int.tmod_eq_emod_of_nonneg e0, e1]; rfl
  have e3 := c_ladd 48 ((p / k) % 10); have r3 := rng64 (48 + (p / k) % 10); have e4 : (48 : Int64).toInt = 48 := rfl
  have e5 := c_l2i (48 + (p / k) % 10); have r5 := rng32 (48 + (p / k) % 10).toInt32
  have e6 := own_dI p.toInt k.toInt
  have e7 : (48 + (p / k) % 10).toInt32 = own_d p.toInt k.toInt := Int32.toInt_inj.mp (by omega)
  rw [e7]
  have e8 := own_nb (z := own_d p.toInt k.toInt) (by omega) (by omega)
  have e9 : (own_d p.toInt k.toInt).toInt8.toInt32 = own_d p.toInt k.toInt := e8
  rw [e9, e8]
theorem d1_0 : decode method_6_code 0 = .ok (.aload_n 0, 1) := by decide +kernel
theorem d1_1 : decode method_6_code 1 = .ok (.iload_n 1, 1) := by decide +kernel
theorem d1_2 : decode method_6_code 2 = .ok (.lload_n 2, 1) := by decide +kernel
theorem d1_3 : decode method_6_code 3 = .ok (.ldc2_w 43, 3) := by decide +kernel
theorem d1_6 : decode method_6_code 6 = .ok (.invokestatic 45, 3) := by decide +kernel
theorem d1_9 : decode method_6_code 9 = .ok (.bastore, 1) := by decide +kernel
theorem d1_10 : decode method_6_code 10 = .ok (.aload_n 0, 1) := by decide +kernel
theorem d1_11 : decode method_6_code 11 = .ok (.iload_n 1, 1) := by decide +kernel
theorem d1_12 : decode method_6_code 12 = .ok (.iconst 1, 1) := by decide +kernel
theorem d1_13 : decode method_6_code 13 = .ok (.iadd, 1) := by decide +kernel
theorem d1_14 : decode method_6_code 14 = .ok (.lload_n 2, 1) := by decide +kernel
theorem d1_15 : decode method_6_code 15 = .ok (.ldc2_w 49, 3) := by decide +kernel
theorem d1_18 : decode method_6_code 18 = .ok (.invokestatic 45, 3) := by decide +kernel
theorem d1_21 : decode method_6_code 21 = .ok (.bastore, 1) := by decide +kernel
theorem d1_22 : decode method_6_code 22 = .ok (.aload_n 0, 1) := by decide +kernel
theorem d1_23 : decode method_6_code 23 = .ok (.iload_n 1, 1) := by decide +kernel
theorem d1_24 : decode method_6_code 24 = .ok (.iconst 2, 1) := by decide +kernel
theorem d1_25 : decode method_6_code 25 = .ok (.iadd, 1) := by decide +kernel
theorem d1_26 : decode method_6_code 26 = .ok (.lload_n 2, 1) := by decide +kernel
theorem d1_27 : decode method_6_code 27 = .ok (.ldc2_w 51, 3) := by decide +kernel
theorem d1_30 : decode method_6_code 30 = .ok (.invokestatic 45, 3) := by decide +kernel
theorem d1_33 : decode method_6_code 33 = .ok (.bastore, 1) := by decide +kernel
theorem d1_34 : decode method_6_code 34 = .ok (.aload_n 0, 1) := by decide +kernel
theorem d1_35 : decode method_6_code 35 = .ok (.iload_n 1, 1) := by decide +kernel
theorem d1_36 : decode method_6_code 36 = .ok (.iconst 3, 1) := by decide +kernel
theorem d1_37 : decode method_6_code 37 = .ok (.iadd, 1) := by decide +kernel
theorem d1_38 : decode method_6_code 38 = .ok (.lload_n 2, 1) := by decide +kernel
theorem d1_39 : decode method_6_code 39 = .ok (.ldc2_w 53, 3) := by decide +kernel
theorem d1_42 : decode method_6_code 42 = .ok (.invokestatic 45, 3) := by decide +kernel
theorem d1_45 : decode method_6_code 45 = .ok (.bastore, 1) := by decide +kernel
theorem d1_46 : decode method_6_code 46 = .ok (.aload_n 0, 1) := by decide +kernel
theorem d1_47 : decode method_6_code 47 = .ok (.iload_n 1, 1) := by decide +kernel
theorem d1_48 : decode method_6_code 48 = .ok (.iconst 4, 1) := by decide +kernel
theorem d1_49 : decode method_6_code 49 = .ok (.iadd, 1) := by decide +kernel
theorem d1_50 : decode method_6_code 50 = .ok (.lload_n 2, 1) := by decide +kernel
theorem d1_51 : decode method_6_code 51 = .ok (.ldc2_w 55, 3) := by decide +kernel
theorem d1_54 : decode method_6_code 54 = .ok (.invokestatic 45, 3) := by decide +kernel
theorem d1_57 : decode method_6_code 57 = .ok (.bastore, 1) := by decide +kernel
theorem d1_58 : decode method_6_code 58 = .ok (.aload_n 0, 1) := by decide +kernel
theorem d1_59 : decode method_6_code 59 = .ok (.iload_n 1, 1) := by decide +kernel
theorem d1_60 : decode method_6_code 60 = .ok (.iconst 5, 1) := by decide +kernel
theorem d1_61 : decode method_6_code 61 = .ok (.iadd, 1) := by decide +kernel
theorem d1_62 : decode method_6_code 62 = .ok (.lload_n 2, 1) := by decide +kernel
theorem d1_63 : decode method_6_code 63 = .ok (.ldc2_w 57, 3) := by decide +kernel
theorem d1_66 : decode method_6_code 66 = .ok (.invokestatic 45, 3) := by decide +kernel
theorem d1_69 : decode method_6_code 69 = .ok (.bastore, 1) := by decide +kernel
theorem d1_70 : decode method_6_code 70 = .ok (.aload_n 0, 1) := by decide +kernel
theorem d1_71 : decode method_6_code 71 = .ok (.iload_n 1, 1) := by decide +kernel
theorem d1_72 : decode method_6_code 72 = .ok (.bipush 6, 2) := by decide +kernel
theorem d1_74 : decode method_6_code 74 = .ok (.iadd, 1) := by decide +kernel
theorem d1_75 : decode method_6_code 75 = .ok (.lload_n 2, 1) := by decide +kernel
theorem d1_76 : decode method_6_code 76 = .ok (.ldc2_w 59, 3) := by decide +kernel
theorem d1_79 : decode method_6_code 79 = .ok (.invokestatic 45, 3) := by decide +kernel
theorem d1_82 : decode method_6_code 82 = .ok (.bastore, 1) := by decide +kernel
theorem d1_83 : decode method_6_code 83 = .ok (.aload_n 0, 1) := by decide +kernel
theorem d1_84 : decode method_6_code 84 = .ok (.iload_n 1, 1) := by decide +kernel
theorem d1_85 : decode method_6_code 85 = .ok (.bipush 7, 2) := by decide +kernel
theorem d1_87 : decode method_6_code 87 = .ok (.iadd, 1) := by decide +kernel
theorem d1_88 : decode method_6_code 88 = .ok (.lload_n 2, 1) := by decide +kernel
theorem d1_89 : decode method_6_code 89 = .ok (.ldc2_w 61, 3) := by decide +kernel
theorem d1_92 : decode method_6_code 92 = .ok (.invokestatic 45, 3) := by decide +kernel
theorem d1_95 : decode method_6_code 95 = .ok (.bastore, 1) := by decide +kernel
theorem d1_96 : decode method_6_code 96 = .ok (.aload_n 0, 1) := by decide +kernel
theorem d1_97 : decode method_6_code 97 = .ok (.iload_n 1, 1) := by decide +kernel
theorem d1_98 : decode method_6_code 98 = .ok (.bipush 8, 2) := by decide +kernel
theorem d1_100 : decode method_6_code 100 = .ok (.iadd, 1) := by decide +kernel
theorem d1_101 : decode method_6_code 101 = .ok (.lload_n 2, 1) := by decide +kernel
theorem d1_102 : decode method_6_code 102 = .ok (.ldc2_w 63, 3) := by decide +kernel
theorem d1_105 : decode method_6_code 105 = .ok (.invokestatic 45, 3) := by decide +kernel
theorem d1_108 : decode method_6_code 108 = .ok (.bastore, 1) := by decide +kernel
theorem d1_109 : decode method_6_code 109 = .ok (.aload_n 0, 1) := by decide +kernel
theorem d1_110 : decode method_6_code 110 = .ok (.iload_n 1, 1) := by decide +kernel
theorem d1_111 : decode method_6_code 111 = .ok (.bipush 9, 2) := by decide +kernel
theorem d1_113 : decode method_6_code 113 = .ok (.iadd, 1) := by decide +kernel
theorem d1_114 : decode method_6_code 114 = .ok (.lload_n 2, 1) := by decide +kernel
theorem d1_115 : decode method_6_code 115 = .ok (.ldc2_w 65, 3) := by decide +kernel
theorem d1_118 : decode method_6_code 118 = .ok (.invokestatic 45, 3) := by decide +kernel
theorem d1_121 : decode method_6_code 121 = .ok (.bastore, 1) := by decide +kernel
theorem d1_122 : decode method_6_code 122 = .ok (.aload_n 0, 1) := by decide +kernel
theorem d1_123 : decode method_6_code 123 = .ok (.iload_n 1, 1) := by decide +kernel
theorem d1_124 : decode method_6_code 124 = .ok (.bipush 10, 2) := by decide +kernel
theorem d1_126 : decode method_6_code 126 = .ok (.iadd, 1) := by decide +kernel
theorem d1_127 : decode method_6_code 127 = .ok (.lload_n 2, 1) := by decide +kernel
theorem d1_128 : decode method_6_code 128 = .ok (.ldc2_w 67, 3) := by decide +kernel
theorem d1_131 : decode method_6_code 131 = .ok (.invokestatic 45, 3) := by decide +kernel
theorem d1_134 : decode method_6_code 134 = .ok (.bastore, 1) := by decide +kernel
theorem d1_135 : decode method_6_code 135 = .ok (.aload_n 0, 1) := by decide +kernel
theorem d1_136 : decode method_6_code 136 = .ok (.iload_n 1, 1) := by decide +kernel
theorem d1_137 : decode method_6_code 137 = .ok (.bipush 11, 2) := by decide +kernel
theorem d1_139 : decode method_6_code 139 = .ok (.iadd, 1) := by decide +kernel
theorem d1_140 : decode method_6_code 140 = .ok (.lload_n 2, 1) := by decide +kernel
theorem d1_141 : decode method_6_code 141 = .ok (.ldc2_w 69, 3) := by decide +kernel
theorem d1_144 : decode method_6_code 144 = .ok (.invokestatic 45, 3) := by decide +kernel
theorem d1_147 : decode method_6_code 147 = .ok (.bastore, 1) := by decide +kernel
theorem d1_148 : decode method_6_code 148 = .ok (.aload_n 0, 1) := by decide +kernel
theorem d1_149 : decode method_6_code 149 = .ok (.iload_n 1, 1) := by decide +kernel
theorem d1_150 : decode method_6_code 150 = .ok (.bipush 12, 2) := by decide +kernel
theorem d1_152 : decode method_6_code 152 = .ok (.iadd, 1) := by decide +kernel
theorem d1_153 : decode method_6_code 153 = .ok (.lload_n 2, 1) := by decide +kernel
theorem d1_154 : decode method_6_code 154 = .ok (.ldc2_w 71, 3) := by decide +kernel
theorem d1_157 : decode method_6_code 157 = .ok (.invokestatic 45, 3) := by decide +kernel
theorem d1_160 : decode method_6_code 160 = .ok (.bastore, 1) := by decide +kernel
theorem d1_161 : decode method_6_code 161 = .ok (.aload_n 0, 1) := by decide +kernel
theorem d1_162 : decode method_6_code 162 = .ok (.iload_n 1, 1) := by decide +kernel
theorem d1_163 : decode method_6_code 163 = .ok (.bipush 13, 2) := by decide +kernel
theorem d1_165 : decode method_6_code 165 = .ok (.iadd, 1) := by decide +kernel
theorem d1_166 : decode method_6_code 166 = .ok (.lload_n 2, 1) := by decide +kernel
theorem d1_167 : decode method_6_code 167 = .ok (.ldc2_w 73, 3) := by decide +kernel
theorem d1_170 : decode method_6_code 170 = .ok (.invokestatic 45, 3) := by decide +kernel
theorem d1_173 : decode method_6_code 173 = .ok (.bastore, 1) := by decide +kernel
theorem d1_174 : decode method_6_code 174 = .ok (.aload_n 0, 1) := by decide +kernel
theorem d1_175 : decode method_6_code 175 = .ok (.iload_n 1, 1) := by decide +kernel
theorem d1_176 : decode method_6_code 176 = .ok (.bipush 14, 2) := by decide +kernel
theorem d1_178 : decode method_6_code 178 = .ok (.iadd, 1) := by decide +kernel
theorem d1_179 : decode method_6_code 179 = .ok (.lload_n 2, 1) := by decide +kernel
theorem d1_180 : decode method_6_code 180 = .ok (.ldc2_w 75, 3) := by decide +kernel
theorem d1_183 : decode method_6_code 183 = .ok (.invokestatic 45, 3) := by decide +kernel
theorem d1_186 : decode method_6_code 186 = .ok (.bastore, 1) := by decide +kernel
theorem d1_187 : decode method_6_code 187 = .ok (.aload_n 0, 1) := by decide +kernel
theorem d1_188 : decode method_6_code 188 = .ok (.iload_n 1, 1) := by decide +kernel
theorem d1_189 : decode method_6_code 189 = .ok (.bipush 15, 2) := by decide +kernel
theorem d1_191 : decode method_6_code 191 = .ok (.iadd, 1) := by decide +kernel
theorem d1_192 : decode method_6_code 192 = .ok (.lload_n 2, 1) := by decide +kernel
theorem d1_193 : decode method_6_code 193 = .ok (.ldc2_w 77, 3) := by decide +kernel
theorem d1_196 : decode method_6_code 196 = .ok (.invokestatic 45, 3) := by decide +kernel
theorem d1_199 : decode method_6_code 199 = .ok (.bastore, 1) := by decide +kernel
theorem d1_200 : decode method_6_code 200 = .ok (.aload_n 0, 1) := by decide +kernel
theorem d1_201 : decode method_6_code 201 = .ok (.iload_n 1, 1) := by decide +kernel
theorem d1_202 : decode method_6_code 202 = .ok (.bipush 16, 2) := by decide +kernel
theorem d1_204 : decode method_6_code 204 = .ok (.iadd, 1) := by decide +kernel
theorem d1_205 : decode method_6_code 205 = .ok (.lload_n 2, 1) := by decide +kernel
theorem d1_206 : decode method_6_code 206 = .ok (.ldc2_w 39, 3) := by decide +kernel
theorem d1_209 : decode method_6_code 209 = .ok (.invokestatic 45, 3) := by decide +kernel
theorem d1_212 : decode method_6_code 212 = .ok (.bastore, 1) := by decide +kernel
theorem d1_213 : decode method_6_code 213 = .ok (.aload_n 0, 1) := by decide +kernel
theorem d1_214 : decode method_6_code 214 = .ok (.iload_n 1, 1) := by decide +kernel
theorem d1_215 : decode method_6_code 215 = .ok (.bipush 17, 2) := by decide +kernel
theorem d1_217 : decode method_6_code 217 = .ok (.iadd, 1) := by decide +kernel
theorem d1_218 : decode method_6_code 218 = .ok (.lload_n 2, 1) := by decide +kernel
theorem d1_219 : decode method_6_code 219 = .ok (.lconst 1, 1) := by decide +kernel
theorem d1_220 : decode method_6_code 220 = .ok (.invokestatic 45, 3) := by decide +kernel
theorem d1_223 : decode method_6_code 223 = .ok (.bastore, 1) := by decide +kernel
theorem d1_224 : decode method_6_code 224 = .ok (.return_, 1) := by decide +kernel
theorem pd_28JJ29B : parseMethodDescriptor "(JJ)B" = some ⟨[.long, .long], some .byte⟩ := by decide +kernel
set_option maxRecDepth 65536 in
set_option maxHeartbeats 40000000 in
theorem rm_put0 (l : Launch) (Z : State) (a0 : Array Value) (hw : ∀ d ∈ tables_1, d.before a0 Z = true) (ws : List Jvm.Cond) (n0 : Nat) (h0 : Heap) (Z0 : Old Z n0 h0) (d : Addr) (p : Int64) (hp : 0 ≤ p.toInt) (A_d : PA .byte Z h0 d [(.int (0 : Int32)), (.int (0 : Int32)), (.int (0 : Int32)), (.int (0 : Int32)), (.int (0 : Int32)), (.int (0 : Int32)), (.int (0 : Int32)), (.int (0 : Int32)), (.int (0 : Int32)), (.int (0 : Int32)), (.int (0 : Int32)), (.int (0 : Int32)), (.int (0 : Int32)), (.int (0 : Int32)), (.int (0 : Int32)), (.int (0 : Int32)), (.int (0 : Int32)), (.int (0 : Int32)), (.int (0 : Int32))]) (ge_d : n0 ≤ d)  :
    Met l Z n0 (⟨"com/example/turnstile/turnstile/server/CommandsParseCountPinLaw", "put18", "([BIJ)V"⟩ : MethodName) method_6_code 4 none ws ({ frames := 1, cells := 0, slots := 0, locals := 17 } : Room) #[(.ref d), (.int (0 : Int32)), (.long p)] h0 (fun u h => u = none ∧ Keep h0 h [d] ∧ PA .byte Z h d [(.int (own_d p.toInt 100000000000000000)), (.int (own_d p.toInt 10000000000000000)), (.int (own_d p.toInt 1000000000000000)), (.int (own_d p.toInt 100000000000000)), (.int (own_d p.toInt 10000000000000)), (.int (own_d p.toInt 1000000000000)), (.int (own_d p.toInt 100000000000)), (.int (own_d p.toInt 10000000000)), (.int (own_d p.toInt 1000000000)), (.int (own_d p.toInt 100000000)), (.int (own_d p.toInt 10000000)), (.int (own_d p.toInt 1000000)), (.int (own_d p.toInt 100000)), (.int (own_d p.toInt 10000)), (.int (own_d p.toInt 1000)), (.int (own_d p.toInt 100)), (.int (own_d p.toInt 10)), (.int (own_d p.toInt 1)), (.int (0 : Int32))]) := by
  refine met_of Z0 (plainFor_of_name pn_com_example_turnstile_turnstile_server_CommandsParseCountPinLaw) (Ls := #[.val (.ref d), .val (.int (0 : Int32)), .val (.long p), .second]) (fun m => by first | (simp [entryFrame, mkF, argsToLocals, Value.category]; done) | rfl) ?_
  intro K ok
  have Kp : Keep h0 h0 [d] := Keep.refl _ _
  show W K l _ n0 _ h0 0 0 0 #[.val (.ref d), .val (.int (0 : Int32)), .val (.long p), .second] []
  refine w_aloadN ok d1_0 rfl rfl ?_
  show W K l _ n0 _ h0 0 0 1 #[.val (.ref d), .val (.int (0 : Int32)), .val (.long p), .second] [(.ref d)]
  refine w_iloadN ok d1_1 rfl ?_
  show W K l _ n0 _ h0 0 0 2 #[.val (.ref d), .val (.int (0 : Int32)), .val (.long p), .second] [(.int (0 : Int32)), (.ref d)]
  refine w_lloadN ok d1_2 rfl ?_
  show W K l _ n0 _ h0 0 0 3 #[.val (.ref d), .val (.int (0 : Int32)), .val (.long p), .second] [(.long p), (.int (0 : Int32)), (.ref d)]
  refine w_ldc2J (v := (100000000000000000 : Int64)) ok d1_3 (hw _ (List.mem_of_getElem? (i := 7) rfl)) ?_
  show W K l _ n0 _ h0 0 0 6 #[.val (.ref d), .val (.int (0 : Int32)), .val (.long p), .second] [(.long (100000000000000000 : Int64)), (.long p), (.int (0 : Int32)), (.ref d)]
  refine w_callS ok (y := (⟨"com/example/turnstile/turnstile/server/CommandsParseCountPinLaw", "d", "(JJ)B"⟩ : MethodName)) (argsL := [(.long p), (.long (100000000000000000 : Int64))]) (rest := [(.int (0 : Int32)), (.ref d)]) d1_6 (hw _ (List.mem_of_getElem? (i := 8) rfl)) (hw _ (List.mem_of_getElem? (i := 9) rfl)) (hw _ (List.mem_of_getElem? (i := 5) rfl)) (hw _ (List.mem_of_getElem? (i := 10) rfl)) (by decide) pd_28JJ29B rfl rfl (by decide) (Nat.le_of_ble_eq_true rfl) (by decide) (by decide) (fun z0 => rm_d l Z a0 hw [] n0 h0 z0 p (100000000000000000 : Int64) 100000000000000000 rfl hp (by decide) (by decide)) (fun v1 h2 qv1 => ?_)
  obtain ⟨rfl, rfl⟩ := qv1
  show W K l _ n0 _ h0 0 0 9 #[.val (.ref d), .val (.int (0 : Int32)), .val (.long p), .second] [(.int (own_d p.toInt 100000000000000000)), (.int (0 : Int32)), (.ref d)]
  refine w_bastore ok d1_9 A_d ge_d (by decide) (Nat.le_of_ble_eq_true rfl) (fun h3 W_h3 A1_h3 => ?_)
  replace Kp := Kp.wr W_h3 (Or.inl (by simp))
  replace A_d : PA .byte Z h3 d [(.int (nar .byte (own_d p.toInt 100000000000000000))), (.int (0 : Int32)), (.int (0 : Int32)), (.int (0 : Int32)), (.int (0 : Int32)), (.int (0 : Int32)), (.int (0 : Int32)), (.int (0 : Int32)), (.int (0 : Int32)), (.int (0 : Int32)), (.int (0 : Int32)), (.int (0 : Int32)), (.int (0 : Int32)), (.int (0 : Int32)), (.int (0 : Int32)), (.int (0 : Int32)), (.int (0 : Int32)), (.int (0 : Int32)), (.int (0 : Int32))] := A1_h3
  rw [own_nb (by rw [own_dI]; omega) (by rw [own_dI]; omega)] at A_d
  show W K l _ n0 _ h3 0 0 10 #[.val (.ref d), .val (.int (0 : Int32)), .val (.long p), .second] []
  refine w_aloadN ok d1_10 rfl rfl ?_
  show W K l _ n0 _ h3 0 0 11 #[.val (.ref d), .val (.int (0 : Int32)), .val (.long p), .second] [(.ref d)]
  refine w_iloadN ok d1_11 rfl ?_
  show W K l _ n0 _ h3 0 0 12 #[.val (.ref d), .val (.int (0 : Int32)), .val (.long p), .second] [(.int (0 : Int32)), (.ref d)]
  refine w_iconst ok d1_12 (v := (1 : Int32)) rfl ?_
  show W K l _ n0 _ h3 0 0 13 #[.val (.ref d), .val (.int (0 : Int32)), .val (.long p), .second] [(.int (1 : Int32)), (.int (0 : Int32)), (.ref d)]
  refine w_iadd ok d1_13 ?_
  show W K l _ n0 _ h3 0 0 14 #[.val (.ref d), .val (.int (0 : Int32)), .val (.long p), .second] [(.int (1 : Int32)), (.ref d)]
  refine w_lloadN ok d1_14 rfl ?_
  show W K l _ n0 _ h3 0 0 15 #[.val (.ref d), .val (.int (0 : Int32)), .val (.long p), .second] [(.long p), (.int (1 : Int32)), (.ref d)]
  refine w_ldc2J (v := (10000000000000000 : Int64)) ok d1_15 (hw _ (List.mem_of_getElem? (i := 13) rfl)) ?_
  show W K l _ n0 _ h3 0 0 18 #[.val (.ref d), .val (.int (0 : Int32)), .val (.long p), .second] [(.long (10000000000000000 : Int64)), (.long p), (.int (1 : Int32)), (.ref d)]
  refine w_callS ok (y := (⟨"com/example/turnstile/turnstile/server/CommandsParseCountPinLaw", "d", "(JJ)B"⟩ : MethodName)) (argsL := [(.long p), (.long (10000000000000000 : Int64))]) (rest := [(.int (1 : Int32)), (.ref d)]) d1_18 (hw _ (List.mem_of_getElem? (i := 8) rfl)) (hw _ (List.mem_of_getElem? (i := 9) rfl)) (hw _ (List.mem_of_getElem? (i := 5) rfl)) (hw _ (List.mem_of_getElem? (i := 10) rfl)) (by decide) pd_28JJ29B rfl rfl (by decide) (Nat.le_of_ble_eq_true rfl) (by decide) (by decide) (fun z0 => rm_d l Z a0 hw [] n0 h3 z0 p (10000000000000000 : Int64) 10000000000000000 rfl hp (by decide) (by decide)) (fun v4 h5 qv4 => ?_)
  obtain ⟨rfl, rfl⟩ := qv4
  show W K l _ n0 _ h3 0 0 21 #[.val (.ref d), .val (.int (0 : Int32)), .val (.long p), .second] [(.int (own_d p.toInt 10000000000000000)), (.int (1 : Int32)), (.ref d)]
  refine w_bastore ok d1_21 A_d ge_d (by decide) (Nat.le_of_ble_eq_true rfl) (fun h6 W_h6 A1_h6 => ?_)
  replace Kp := Kp.wr W_h6 (Or.inl (by simp))
  replace A_d : PA .byte Z h6 d [(.int (own_d p.toInt 100000000000000000)), (.int (nar .byte (own_d p.toInt 10000000000000000))), (.int (0 : Int32)), (.int (0 : Int32)), (.int (0 : Int32)), (.int (0 : Int32)), (.int (0 : Int32)), (.int (0 : Int32)), (.int (0 : Int32)), (.int (0 : Int32)), (.int (0 : Int32)), (.int (0 : Int32)), (.int (0 : Int32)), (.int (0 : Int32)), (.int (0 : Int32)), (.int (0 : Int32)), (.int (0 : Int32)), (.int (0 : Int32)), (.int (0 : Int32))] := A1_h6
  rw [own_nb (by rw [own_dI]; omega) (by rw [own_dI]; omega)] at A_d
  show W K l _ n0 _ h6 0 0 22 #[.val (.ref d), .val (.int (0 : Int32)), .val (.long p), .second] []
  refine w_aloadN ok d1_22 rfl rfl ?_
  show W K l _ n0 _ h6 0 0 23 #[.val (.ref d), .val (.int (0 : Int32)), .val (.long p), .second] [(.ref d)]
  refine w_iloadN ok d1_23 rfl ?_
  show W K l _ n0 _ h6 0 0 24 #[.val (.ref d), .val (.int (0 : Int32)), .val (.long p), .second] [(.int (0 : Int32)), (.ref d)]
  refine w_iconst ok d1_24 (v := (2 : Int32)) rfl ?_
  show W K l _ n0 _ h6 0 0 25 #[.val (.ref d), .val (.int (0 : Int32)), .val (.long p), .second] [(.int (2 : Int32)), (.int (0 : Int32)), (.ref d)]
  refine w_iadd ok d1_25 ?_
  show W K l _ n0 _ h6 0 0 26 #[.val (.ref d), .val (.int (0 : Int32)), .val (.long p), .second] [(.int (2 : Int32)), (.ref d)]
  refine w_lloadN ok d1_26 rfl ?_
  show W K l _ n0 _ h6 0 0 27 #[.val (.ref d), .val (.int (0 : Int32)), .val (.long p), .second] [(.long p), (.int (2 : Int32)), (.ref d)]
  refine w_ldc2J (v := (1000000000000000 : Int64)) ok d1_27 (hw _ (List.mem_of_getElem? (i := 14) rfl)) ?_
  show W K l _ n0 _ h6 0 0 30 #[.val (.ref d), .val (.int (0 : Int32)), .val (.long p), .second] [(.long (1000000000000000 : Int64)), (.long p), (.int (2 : Int32)), (.ref d)]
  refine w_callS ok (y := (⟨"com/example/turnstile/turnstile/server/CommandsParseCountPinLaw", "d", "(JJ)B"⟩ : MethodName)) (argsL := [(.long p), (.long (1000000000000000 : Int64))]) (rest := [(.int (2 : Int32)), (.ref d)]) d1_30 (hw _ (List.mem_of_getElem? (i := 8) rfl)) (hw _ (List.mem_of_getElem? (i := 9) rfl)) (hw _ (List.mem_of_getElem? (i := 5) rfl)) (hw _ (List.mem_of_getElem? (i := 10) rfl)) (by decide) pd_28JJ29B rfl rfl (by decide) (Nat.le_of_ble_eq_true rfl) (by decide) (by decide) (fun z0 => rm_d l Z a0 hw [] n0 h6 z0 p (1000000000000000 : Int64) 1000000000000000 rfl hp (by decide) (by decide)) (fun v7 h8 qv7 => ?_)
  obtain ⟨rfl, rfl⟩ := qv7
  show W K l _ n0 _ h6 0 0 33 #[.val (.ref d), .val (.int (0 : Int32)), .val (.long p), .second] [(.int (own_d p.toInt 1000000000000000)), (.int (2 : Int32)), (.ref d)]
  refine w_bastore ok d1_33 A_d ge_d (by decide) (Nat.le_of_ble_eq_true rfl) (fun h9 W_h9 A1_h9 => ?_)
  replace Kp := Kp.wr W_h9 (Or.inl (by simp))
  replace A_d : PA .byte Z h9 d [(.int (own_d p.toInt 100000000000000000)), (.int (own_d p.toInt 10000000000000000)), (.int (nar .byte (own_d p.toInt 1000000000000000))), (.int (0 : Int32)), (.int (0 : Int32)), (.int (0 : Int32)), (.int (0 : Int32)), (.int (0 : Int32)), (.int (0 : Int32)), (.int (0 : Int32)), (.int (0 : Int32)), (.int (0 : Int32)), (.int (0 : Int32)), (.int (0 : Int32)), (.int (0 : Int32)), (.int (0 : Int32)), (.int (0 : Int32)), (.int (0 : Int32)), (.int (0 : Int32))] := A1_h9
  rw [own_nb (by rw [own_dI]; omega) (by rw [own_dI]; omega)] at A_d
  show W K l _ n0 _ h9 0 0 34 #[.val (.ref d), .val (.int (0 : Int32)), .val (.long p), .second] []
  refine w_aloadN ok d1_34 rfl rfl ?_
  show W K l _ n0 _ h9 0 0 35 #[.val (.ref d), .val (.int (0 : Int32)), .val (.long p), .second] [(.ref d)]
  refine w_iloadN ok d1_35 rfl ?_
  show W K l _ n0 _ h9 0 0 36 #[.val (.ref d), .val (.int (0 : Int32)), .val (.long p), .second] [(.int (0 : Int32)), (.ref d)]
  refine w_iconst ok d1_36 (v := (3 : Int32)) rfl ?_
  show W K l _ n0 _ h9 0 0 37 #[.val (.ref d), .val (.int (0 : Int32)), .val (.long p), .second] [(.int (3 : Int32)), (.int (0 : Int32)), (.ref d)]
  refine w_iadd ok d1_37 ?_
  show W K l _ n0 _ h9 0 0 38 #[.val (.ref d), .val (.int (0 : Int32)), .val (.long p), .second] [(.int (3 : Int32)), (.ref d)]
  refine w_lloadN ok d1_38 rfl ?_
  show W K l _ n0 _ h9 0 0 39 #[.val (.ref d), .val (.int (0 : Int32)), .val (.long p), .second] [(.long p), (.int (3 : Int32)), (.ref d)]
  refine w_ldc2J (v := (100000000000000 : Int64)) ok d1_39 (hw _ (List.mem_of_getElem? (i := 15) rfl)) ?_
  show W K l _ n0 _ h9 0 0 42 #[.val (.ref d), .val (.int (0 : Int32)), .val (.long p), .second] [(.long (100000000000000 : Int64)), (.long p), (.int (3 : Int32)), (.ref d)]
  refine w_callS ok (y := (⟨"com/example/turnstile/turnstile/server/CommandsParseCountPinLaw", "d", "(JJ)B"⟩ : MethodName)) (argsL := [(.long p), (.long (100000000000000 : Int64))]) (rest := [(.int (3 : Int32)), (.ref d)]) d1_42 (hw _ (List.mem_of_getElem? (i := 8) rfl)) (hw _ (List.mem_of_getElem? (i := 9) rfl)) (hw _ (List.mem_of_getElem? (i := 5) rfl)) (hw _ (List.mem_of_getElem? (i := 10) rfl)) (by decide) pd_28JJ29B rfl rfl (by decide) (Nat.le_of_ble_eq_true rfl) (by decide) (by decide) (fun z0 => rm_d l Z a0 hw [] n0 h9 z0 p (100000000000000 : Int64) 100000000000000 rfl hp (by decide) (by decide)) (fun v10 h11 qv10 => ?_)
  obtain ⟨rfl, rfl⟩ := qv10
  show W K l _ n0 _ h9 0 0 45 #[.val (.ref d), .val (.int (0 : Int32)), .val (.long p), .second] [(.int (own_d p.toInt 100000000000000)), (.int (3 : Int32)), (.ref d)]
  refine w_bastore ok d1_45 A_d ge_d (by decide) (Nat.le_of_ble_eq_true rfl) (fun h12 W_h12 A1_h12 => ?_)
  replace Kp := Kp.wr W_h12 (Or.inl (by simp))
  replace A_d : PA .byte Z h12 d [(.int (own_d p.toInt 100000000000000000)), (.int (own_d p.toInt 10000000000000000)), (.int (own_d p.toInt 1000000000000000)), (.int (nar .byte (own_d p.toInt 100000000000000))), (.int (0 : Int32)), (.int (0 : Int32)), (.int (0 : Int32)), (.int (0 : Int32)), (.int (0 : Int32)), (.int (0 : Int32)), (.int (0 : Int32)), (.int (0 : Int32)), (.int (0 : Int32)), (.int (0 : Int32)), (.int (0 : Int32)), (.int (0 : Int32)), (.int (0 : Int32)), (.int (0 : Int32)), (.int (0 : Int32))] := A1_h12
  rw [own_nb (by rw [own_dI]; omega) (by rw [own_dI]; omega)] at A_d
  show W K l _ n0 _ h12 0 0 46 #[.val (.ref d), .val (.int (0 : Int32)), .val (.long p), .second] []
  refine w_aloadN ok d1_46 rfl rfl ?_
  show W K l _ n0 _ h12 0 0 47 #[.val (.ref d), .val (.int (0 : Int32)), .val (.long p), .second] [(.ref d)]
  refine w_iloadN ok d1_47 rfl ?_
  show W K l _ n0 _ h12 0 0 48 #[.val (.ref d), .val (.int (0 : Int32)), .val (.long p), .second] [(.int (0 : Int32)), (.ref d)]
  refine w_iconst ok d1_48 (v := (4 : Int32)) rfl ?_
  show W K l _ n0 _ h12 0 0 49 #[.val (.ref d), .val (.int (0 : Int32)), .val (.long p), .second] [(.int (4 : Int32)), (.int (0 : Int32)), (.ref d)]
  refine w_iadd ok d1_49 ?_
  show W K l _ n0 _ h12 0 0 50 #[.val (.ref d), .val (.int (0 : Int32)), .val (.long p), .second] [(.int (4 : Int32)), (.ref d)]
  refine w_lloadN ok d1_50 rfl ?_
  show W K l _ n0 _ h12 0 0 51 #[.val (.ref d), .val (.int (0 : Int32)), .val (.long p), .second] [(.long p), (.int (4 : Int32)), (.ref d)]
  refine w_ldc2J (v := (10000000000000 : Int64)) ok d1_51 (hw _ (List.mem_of_getElem? (i := 16) rfl)) ?_
  show W K l _ n0 _ h12 0 0 54 #[.val (.ref d), .val (.int (0 : Int32)), .val (.long p), .second] [(.long (10000000000000 : Int64)), (.long p), (.int (4 : Int32)), (.ref d)]
  refine w_callS ok (y := (⟨"com/example/turnstile/turnstile/server/CommandsParseCountPinLaw", "d", "(JJ)B"⟩ : MethodName)) (argsL := [(.long p), (.long (10000000000000 : Int64))]) (rest := [(.int (4 : Int32)), (.ref d)]) d1_54 (hw _ (List.mem_of_getElem? (i := 8) rfl)) (hw _ (List.mem_of_getElem? (i := 9) rfl)) (hw _ (List.mem_of_getElem? (i := 5) rfl)) (hw _ (List.mem_of_getElem? (i := 10) rfl)) (by decide) pd_28JJ29B rfl rfl (by decide) (Nat.le_of_ble_eq_true rfl) (by decide) (by decide) (fun z0 => rm_d l Z a0 hw [] n0 h12 z0 p (10000000000000 : Int64) 10000000000000 rfl hp (by decide) (by decide)) (fun v13 h14 qv13 => ?_)
  obtain ⟨rfl, rfl⟩ := qv13
  show W K l _ n0 _ h12 0 0 57 #[.val (.ref d), .val (.int (0 : Int32)), .val (.long p), .second] [(.int (own_d p.toInt 10000000000000)), (.int (4 : Int32)), (.ref d)]
  refine w_bastore ok d1_57 A_d ge_d (by decide) (Nat.le_of_ble_eq_true rfl) (fun h15 W_h15 A1_h15 => ?_)
  replace Kp := Kp.wr W_h15 (Or.inl (by simp))
  replace A_d : PA .byte Z h15 d [(.int (own_d p.toInt 100000000000000000)), (.int (own_d p.toInt 10000000000000000)), (.int (own_d p.toInt 1000000000000000)), (.int (own_d p.toInt 100000000000000)), (.int (nar .byte (own_d p.toInt 10000000000000))), (.int (0 : Int32)), (.int (0 : Int32)), (.int (0 : Int32)), (.int (0 : Int32)), (.int (0 : Int32)), (.int (0 : Int32)), (.int (0 : Int32)), (.int (0 : Int32)), (.int (0 : Int32)), (.int (0 : Int32)), (.int (0 : Int32)), (.int (0 : Int32)), (.int (0 : Int32)), (.int (0 : Int32))] := A1_h15
  rw [own_nb (by rw [own_dI]; omega) (by rw [own_dI]; omega)] at A_d
  show W K l _ n0 _ h15 0 0 58 #[.val (.ref d), .val (.int (0 : Int32)), .val (.long p), .second] []
  refine w_aloadN ok d1_58 rfl rfl ?_
  show W K l _ n0 _ h15 0 0 59 #[.val (.ref d), .val (.int (0 : Int32)), .val (.long p), .second] [(.ref d)]
  refine w_iloadN ok d1_59 rfl ?_
  show W K l _ n0 _ h15 0 0 60 #[.val (.ref d), .val (.int (0 : Int32)), .val (.long p), .second] [(.int (0 : Int32)), (.ref d)]
  refine w_iconst ok d1_60 (v := (5 : Int32)) rfl ?_
  show W K l _ n0 _ h15 0 0 61 #[.val (.ref d), .val (.int (0 : Int32)), .val (.long p), .second] [(.int (5 : Int32)), (.int (0 : Int32)), (.ref d)]
  refine w_iadd ok d1_61 ?_
  show W K l _ n0 _ h15 0 0 62 #[.val (.ref d), .val (.int (0 : Int32)), .val (.long p), .second] [(.int (5 : Int32)), (.ref d)]
  refine w_lloadN ok d1_62 rfl ?_
  show W K l _ n0 _ h15 0 0 63 #[.val (.ref d), .val (.int (0 : Int32)), .val (.long p), .second] [(.long p), (.int (5 : Int32)), (.ref d)]
  refine w_ldc2J (v := (1000000000000 : Int64)) ok d1_63 (hw _ (List.mem_of_getElem? (i := 17) rfl)) ?_
  show W K l _ n0 _ h15 0 0 66 #[.val (.ref d), .val (.int (0 : Int32)), .val (.long p), .second] [(.long (1000000000000 : Int64)), (.long p), (.int (5 : Int32)), (.ref d)]
  refine w_callS ok (y := (⟨"com/example/turnstile/turnstile/server/CommandsParseCountPinLaw", "d", "(JJ)B"⟩ : MethodName)) (argsL := [(.long p), (.long (1000000000000 : Int64))]) (rest := [(.int (5 : Int32)), (.ref d)]) d1_66 (hw _ (List.mem_of_getElem? (i := 8) rfl)) (hw _ (List.mem_of_getElem? (i := 9) rfl)) (hw _ (List.mem_of_getElem? (i := 5) rfl)) (hw _ (List.mem_of_getElem? (i := 10) rfl)) (by decide) pd_28JJ29B rfl rfl (by decide) (Nat.le_of_ble_eq_true rfl) (by decide) (by decide) (fun z0 => rm_d l Z a0 hw [] n0 h15 z0 p (1000000000000 : Int64) 1000000000000 rfl hp (by decide) (by decide)) (fun v16 h17 qv16 => ?_)
  obtain ⟨rfl, rfl⟩ := qv16
  show W K l _ n0 _ h15 0 0 69 #[.val (.ref d), .val (.int (0 : Int32)), .val (.long p), .second] [(.int (own_d p.toInt 1000000000000)), (.int (5 : Int32)), (.ref d)]
  refine w_bastore ok d1_69 A_d ge_d (by decide) (Nat.le_of_ble_eq_true rfl) (fun h18 W_h18 A1_h18 => ?_)
  replace Kp := Kp.wr W_h18 (Or.inl (by simp))
  replace A_d : PA .byte Z h18 d [(.int (own_d p.toInt 100000000000000000)), (.int (own_d p.toInt 10000000000000000)), (.int (own_d p.toInt 1000000000000000)), (.int (own_d p.toInt 100000000000000)), (.int (own_d p.toInt 10000000000000)), (.int (nar .byte (own_d p.toInt 1000000000000))), (.int (0 : Int32)), (.int (0 : Int32)), (.int (0 : Int32)), (.int (0 : Int32)), (.int (0 : Int32)), (.int (0 : Int32)), (.int (0 : Int32)), (.int (0 : Int32)), (.int (0 : Int32)), (.int (0 : Int32)), (.int (0 : Int32)), (.int (0 : Int32)), (.int (0 : Int32))] := A1_h18
  rw [own_nb (by rw [own_dI]; omega) (by rw [own_dI]; omega)] at A_d
  show W K l _ n0 _ h18 0 0 70 #[.val (.ref d), .val (.int (0 : Int32)), .val (.long p), .second] []
  refine w_aloadN ok d1_70 rfl rfl ?_
  show W K l _ n0 _ h18 0 0 71 #[.val (.ref d), .val (.int (0 : Int32)), .val (.long p), .second] [(.ref d)]
  refine w_iloadN ok d1_71 rfl ?_
  show W K l _ n0 _ h18 0 0 72 #[.val (.ref d), .val (.int (0 : Int32)), .val (.long p), .second] [(.int (0 : Int32)), (.ref d)]
  refine w_bipush ok d1_72 (v := (6 : Int32)) rfl ?_
  show W K l _ n0 _ h18 0 0 74 #[.val (.ref d), .val (.int (0 : Int32)), .val (.long p), .second] [(.int (6 : Int32)), (.int (0 : Int32)), (.ref d)]
  refine w_iadd ok d1_74 ?_
  show W K l _ n0 _ h18 0 0 75 #[.val (.ref d), .val (.int (0 : Int32)), .val (.long p), .second] [(.int (6 : Int32)), (.ref d)]
  refine w_lloadN ok d1_75 rfl ?_
  show W K l _ n0 _ h18 0 0 76 #[.val (.ref d), .val (.int (0 : Int32)), .val (.long p), .second] [(.long p), (.int (6 : Int32)), (.ref d)]
  refine w_ldc2J (v := (100000000000 : Int64)) ok d1_76 (hw _ (List.mem_of_getElem? (i := 18) rfl)) ?_
  show W K l _ n0 _ h18 0 0 79 #[.val (.ref d), .val (.int (0 : Int32)), .val (.long p), .second] [(.long (100000000000 : Int64)), (.long p), (.int (6 : Int32)), (.ref d)]
  refine w_callS ok (y := (⟨"com/example/turnstile/turnstile/server/CommandsParseCountPinLaw", "d", "(JJ)B"⟩ : MethodName)) (argsL := [(.long p), (.long (100000000000 : Int64))]) (rest := [(.int (6 : Int32)), (.ref d)]) d1_79 (hw _ (List.mem_of_getElem? (i := 8) rfl)) (hw _ (List.mem_of_getElem? (i := 9) rfl)) (hw _ (List.mem_of_getElem? (i := 5) rfl)) (hw _ (List.mem_of_getElem? (i := 10) rfl)) (by decide) pd_28JJ29B rfl rfl (by decide) (Nat.le_of_ble_eq_true rfl) (by decide) (by decide) (fun z0 => rm_d l Z a0 hw [] n0 h18 z0 p (100000000000 : Int64) 100000000000 rfl hp (by decide) (by decide)) (fun v19 h20 qv19 => ?_)
  obtain ⟨rfl, rfl⟩ := qv19
  show W K l _ n0 _ h18 0 0 82 #[.val (.ref d), .val (.int (0 : Int32)), .val (.long p), .second] [(.int (own_d p.toInt 100000000000)), (.int (6 : Int32)), (.ref d)]
  refine w_bastore ok d1_82 A_d ge_d (by decide) (Nat.le_of_ble_eq_true rfl) (fun h21 W_h21 A1_h21 => ?_)
  replace Kp := Kp.wr W_h21 (Or.inl (by simp))
  replace A_d : PA .byte Z h21 d [(.int (own_d p.toInt 100000000000000000)), (.int (own_d p.toInt 10000000000000000)), (.int (own_d p.toInt 1000000000000000)), (.int (own_d p.toInt 100000000000000)), (.int (own_d p.toInt 10000000000000)), (.int (own_d p.toInt 1000000000000)), (.int (nar .byte (own_d p.toInt 100000000000))), (.int (0 : Int32)), (.int (0 : Int32)), (.int (0 : Int32)), (.int (0 : Int32)), (.int (0 : Int32)), (.int (0 : Int32)), (.int (0 : Int32)), (.int (0 : Int32)), (.int (0 : Int32)), (.int (0 : Int32)), (.int (0 : Int32)), (.int (0 : Int32))] := A1_h21
  rw [own_nb (by rw [own_dI]; omega) (by rw [own_dI]; omega)] at A_d
  show W K l _ n0 _ h21 0 0 83 #[.val (.ref d), .val (.int (0 : Int32)), .val (.long p), .second] []
  refine w_aloadN ok d1_83 rfl rfl ?_
  show W K l _ n0 _ h21 0 0 84 #[.val (.ref d), .val (.int (0 : Int32)), .val (.long p), .second] [(.ref d)]
  refine w_iloadN ok d1_84 rfl ?_
  show W K l _ n0 _ h21 0 0 85 #[.val (.ref d), .val (.int (0 : Int32)), .val (.long p), .second] [(.int (0 : Int32)), (.ref d)]
  refine w_bipush ok d1_85 (v := (7 : Int32)) rfl ?_
  show W K l _ n0 _ h21 0 0 87 #[.val (.ref d), .val (.int (0 : Int32)), .val (.long p), .second] [(.int (7 : Int32)), (.int (0 : Int32)), (.ref d)]
  refine w_iadd ok d1_87 ?_
  show W K l _ n0 _ h21 0 0 88 #[.val (.ref d), .val (.int (0 : Int32)), .val (.long p), .second] [(.int (7 : Int32)), (.ref d)]
  refine w_lloadN ok d1_88 rfl ?_
  show W K l _ n0 _ h21 0 0 89 #[.val (.ref d), .val (.int (0 : Int32)), .val (.long p), .second] [(.long p), (.int (7 : Int32)), (.ref d)]
  refine w_ldc2J (v := (10000000000 : Int64)) ok d1_89 (hw _ (List.mem_of_getElem? (i := 19) rfl)) ?_
  show W K l _ n0 _ h21 0 0 92 #[.val (.ref d), .val (.int (0 : Int32)), .val (.long p), .second] [(.long (10000000000 : Int64)), (.long p), (.int (7 : Int32)), (.ref d)]
  refine w_callS ok (y := (⟨"com/example/turnstile/turnstile/server/CommandsParseCountPinLaw", "d", "(JJ)B"⟩ : MethodName)) (argsL := [(.long p), (.long (10000000000 : Int64))]) (rest := [(.int (7 : Int32)), (.ref d)]) d1_92 (hw _ (List.mem_of_getElem? (i := 8) rfl)) (hw _ (List.mem_of_getElem? (i := 9) rfl)) (hw _ (List.mem_of_getElem? (i := 5) rfl)) (hw _ (List.mem_of_getElem? (i := 10) rfl)) (by decide) pd_28JJ29B rfl rfl (by decide) (Nat.le_of_ble_eq_true rfl) (by decide) (by decide) (fun z0 => rm_d l Z a0 hw [] n0 h21 z0 p (10000000000 : Int64) 10000000000 rfl hp (by decide) (by decide)) (fun v22 h23 qv22 => ?_)
  obtain ⟨rfl, rfl⟩ := qv22
  show W K l _ n0 _ h21 0 0 95 #[.val (.ref d), .val (.int (0 : Int32)), .val (.long p), .second] [(.int (own_d p.toInt 10000000000)), (.int (7 : Int32)), (.ref d)]
  refine w_bastore ok d1_95 A_d ge_d (by decide) (Nat.le_of_ble_eq_true rfl) (fun h24 W_h24 A1_h24 => ?_)
  replace Kp := Kp.wr W_h24 (Or.inl (by simp))
  replace A_d : PA .byte Z h24 d [(.int (own_d p.toInt 100000000000000000)), (.int (own_d p.toInt 10000000000000000)), (.int (own_d p.toInt 1000000000000000)), (.int (own_d p.toInt 100000000000000)), (.int (own_d p.toInt 10000000000000)), (.int (own_d p.toInt 1000000000000)), (.int (own_d p.toInt 100000000000)), (.int (nar .byte (own_d p.toInt 10000000000))), (.int (0 : Int32)), (.int (0 : Int32)), (.int (0 : Int32)), (.int (0 : Int32)), (.int (0 : Int32)), (.int (0 : Int32)), (.int (0 : Int32)), (.int (0 : Int32)), (.int (0 : Int32)), (.int (0 : Int32)), (.int (0 : Int32))] := A1_h24
  rw [own_nb (by rw [own_dI]; omega) (by rw [own_dI]; omega)] at A_d
  show W K l _ n0 _ h24 0 0 96 #[.val (.ref d), .val (.int (0 : Int32)), .val (.long p), .second] []
  refine w_aloadN ok d1_96 rfl rfl ?_
  show W K l _ n0 _ h24 0 0 97 #[.val (.ref d), .val (.int (0 : Int32)), .val (.long p), .second] [(.ref d)]
  refine w_iloadN ok d1_97 rfl ?_
  show W K l _ n0 _ h24 0 0 98 #[.val (.ref d), .val (.int (0 : Int32)), .val (.long p), .second] [(.int (0 : Int32)), (.ref d)]
  refine w_bipush ok d1_98 (v := (8 : Int32)) rfl ?_
  show W K l _ n0 _ h24 0 0 100 #[.val (.ref d), .val (.int (0 : Int32)), .val (.long p), .second] [(.int (8 : Int32)), (.int (0 : Int32)), (.ref d)]
  refine w_iadd ok d1_100 ?_
  show W K l _ n0 _ h24 0 0 101 #[.val (.ref d), .val (.int (0 : Int32)), .val (.long p), .second] [(.int (8 : Int32)), (.ref d)]
  refine w_lloadN ok d1_101 rfl ?_
  show W K l _ n0 _ h24 0 0 102 #[.val (.ref d), .val (.int (0 : Int32)), .val (.long p), .second] [(.long p), (.int (8 : Int32)), (.ref d)]
  refine w_ldc2J (v := (1000000000 : Int64)) ok d1_102 (hw _ (List.mem_of_getElem? (i := 20) rfl)) ?_
  show W K l _ n0 _ h24 0 0 105 #[.val (.ref d), .val (.int (0 : Int32)), .val (.long p), .second] [(.long (1000000000 : Int64)), (.long p), (.int (8 : Int32)), (.ref d)]
  refine w_callS ok (y := (⟨"com/example/turnstile/turnstile/server/CommandsParseCountPinLaw", "d", "(JJ)B"⟩ : MethodName)) (argsL := [(.long p), (.long (1000000000 : Int64))]) (rest := [(.int (8 : Int32)), (.ref d)]) d1_105 (hw _ (List.mem_of_getElem? (i := 8) rfl)) (hw _ (List.mem_of_getElem? (i := 9) rfl)) (hw _ (List.mem_of_getElem? (i := 5) rfl)) (hw _ (List.mem_of_getElem? (i := 10) rfl)) (by decide) pd_28JJ29B rfl rfl (by decide) (Nat.le_of_ble_eq_true rfl) (by decide) (by decide) (fun z0 => rm_d l Z a0 hw [] n0 h24 z0 p (1000000000 : Int64) 1000000000 rfl hp (by decide) (by decide)) (fun v25 h26 qv25 => ?_)
  obtain ⟨rfl, rfl⟩ := qv25
  show W K l _ n0 _ h24 0 0 108 #[.val (.ref d), .val (.int (0 : Int32)), .val (.long p), .second] [(.int (own_d p.toInt 1000000000)), (.int (8 : Int32)), (.ref d)]
  refine w_bastore ok d1_108 A_d ge_d (by decide) (Nat.le_of_ble_eq_true rfl) (fun h27 W_h27 A1_h27 => ?_)
  replace Kp := Kp.wr W_h27 (Or.inl (by simp))
  replace A_d : PA .byte Z h27 d [(.int (own_d p.toInt 100000000000000000)), (.int (own_d p.toInt 10000000000000000)), (.int (own_d p.toInt 1000000000000000)), (.int (own_d p.toInt 100000000000000)), (.int (own_d p.toInt 10000000000000)), (.int (own_d p.toInt 1000000000000)), (.int (own_d p.toInt 100000000000)), (.int (own_d p.toInt 10000000000)), (.int (nar .byte (own_d p.toInt 1000000000))), (.int (0 : Int32)), (.int (0 : Int32)), (.int (0 : Int32)), (.int (0 : Int32)), (.int (0 : Int32)), (.int (0 : Int32)), (.int (0 : Int32)), (.int (0 : Int32)), (.int (0 : Int32)), (.int (0 : Int32))] := A1_h27
  rw [own_nb (by rw [own_dI]; omega) (by rw [own_dI]; omega)] at A_d
  show W K l _ n0 _ h27 0 0 109 #[.val (.ref d), .val (.int (0 : Int32)), .val (.long p), .second] []
  refine w_aloadN ok d1_109 rfl rfl ?_
  show W K l _ n0 _ h27 0 0 110 #[.val (.ref d), .val (.int (0 : Int32)), .val (.long p), .second] [(.ref d)]
  refine w_iloadN ok d1_110 rfl ?_
  show W K l _ n0 _ h27 0 0 111 #[.val (.ref d), .val (.int (0 : Int32)), .val (.long p), .second] [(.int (0 : Int32)), (.ref d)]
  refine w_bipush ok d1_111 (v := (9 : Int32)) rfl ?_
  show W K l _ n0 _ h27 0 0 113 #[.val (.ref d), .val (.int (0 : Int32)), .val (.long p), .second] [(.int (9 : Int32)), (.int (0 : Int32)), (.ref d)]
  refine w_iadd ok d1_113 ?_
  show W K l _ n0 _ h27 0 0 114 #[.val (.ref d), .val (.int (0 : Int32)), .val (.long p), .second] [(.int (9 : Int32)), (.ref d)]
  refine w_lloadN ok d1_114 rfl ?_
  show W K l _ n0 _ h27 0 0 115 #[.val (.ref d), .val (.int (0 : Int32)), .val (.long p), .second] [(.long p), (.int (9 : Int32)), (.ref d)]
  refine w_ldc2J (v := (100000000 : Int64)) ok d1_115 (hw _ (List.mem_of_getElem? (i := 21) rfl)) ?_
  show W K l _ n0 _ h27 0 0 118 #[.val (.ref d), .val (.int (0 : Int32)), .val (.long p), .second] [(.long (100000000 : Int64)), (.long p), (.int (9 : Int32)), (.ref d)]
  refine w_callS ok (y := (⟨"com/example/turnstile/turnstile/server/CommandsParseCountPinLaw", "d", "(JJ)B"⟩ : MethodName)) (argsL := [(.long p), (.long (100000000 : Int64))]) (rest := [(.int (9 : Int32)), (.ref d)]) d1_118 (hw _ (List.mem_of_getElem? (i := 8) rfl)) (hw _ (List.mem_of_getElem? (i := 9) rfl)) (hw _ (List.mem_of_getElem? (i := 5) rfl)) (hw _ (List.mem_of_getElem? (i := 10) rfl)) (by decide) pd_28JJ29B rfl rfl (by decide) (Nat.le_of_ble_eq_true rfl) (by decide) (by decide) (fun z0 => rm_d l Z a0 hw [] n0 h27 z0 p (100000000 : Int64) 100000000 rfl hp (by decide) (by decide)) (fun v28 h29 qv28 => ?_)
  obtain ⟨rfl, rfl⟩ := qv28
  show W K l _ n0 _ h27 0 0 121 #[.val (.ref d), .val (.int (0 : Int32)), .val (.long p), .second] [(.int (own_d p.toInt 100000000)), (.int (9 : Int32)), (.ref d)]
  refine w_bastore ok d1_121 A_d ge_d (by decide) (Nat.le_of_ble_eq_true rfl) (fun h30 W_h30 A1_h30 => ?_)
  replace Kp := Kp.wr W_h30 (Or.inl (by simp))
  replace A_d : PA .byte Z h30 d [(.int (own_d p.toInt 100000000000000000)), (.int (own_d p.toInt 10000000000000000)), (.int (own_d p.toInt 1000000000000000)), (.int (own_d p.toInt 100000000000000)), (.int (own_d p.toInt 10000000000000)), (.int (own_d p.toInt 1000000000000)), (.int (own_d p.toInt 100000000000)), (.int (own_d p.toInt 10000000000)), (.int (own_d p.toInt 1000000000)), (.int (nar .byte (own_d p.toInt 100000000))), (.int (0 : Int32)), (.int (0 : Int32)), (.int (0 : Int32)), (.int (0 : Int32)), (.int (0 : Int32)), (.int (0 : Int32)), (.int (0 : Int32)), (.int (0 : Int32)), (.int (0 : Int32))] := A1_h30
  rw [own_nb (by rw [own_dI]; omega) (by rw [own_dI]; omega)] at A_d
  show W K l _ n0 _ h30 0 0 122 #[.val (.ref d), .val (.int (0 : Int32)), .val (.long p), .second] []
  refine w_aloadN ok d1_122 rfl rfl ?_
  show W K l _ n0 _ h30 0 0 123 #[.val (.ref d), .val (.int (0 : Int32)), .val (.long p), .second] [(.ref d)]
  refine w_iloadN ok d1_123 rfl ?_
  show W K l _ n0 _ h30 0 0 124 #[.val (.ref d), .val (.int (0 : Int32)), .val (.long p), .second] [(.int (0 : Int32)), (.ref d)]
  refine w_bipush ok d1_124 (v := (10 : Int32)) rfl ?_
  show W K l _ n0 _ h30 0 0 126 #[.val (.ref d), .val (.int (0 : Int32)), .val (.long p), .second] [(.int (10 : Int32)), (.int (0 : Int32)), (.ref d)]
  refine w_iadd ok d1_126 ?_
  show W K l _ n0 _ h30 0 0 127 #[.val (.ref d), .val (.int (0 : Int32)), .val (.long p), .second] [(.int (10 : Int32)), (.ref d)]
  refine w_lloadN ok d1_127 rfl ?_
  show W K l _ n0 _ h30 0 0 128 #[.val (.ref d), .val (.int (0 : Int32)), .val (.long p), .second] [(.long p), (.int (10 : Int32)), (.ref d)]
  refine w_ldc2J (v := (10000000 : Int64)) ok d1_128 (hw _ (List.mem_of_getElem? (i := 22) rfl)) ?_
  show W K l _ n0 _ h30 0 0 131 #[.val (.ref d), .val (.int (0 : Int32)), .val (.long p), .second] [(.long (10000000 : Int64)), (.long p), (.int (10 : Int32)), (.ref d)]
  refine w_callS ok (y := (⟨"com/example/turnstile/turnstile/server/CommandsParseCountPinLaw", "d", "(JJ)B"⟩ : MethodName)) (argsL := [(.long p), (.long (10000000 : Int64))]) (rest := [(.int (10 : Int32)), (.ref d)]) d1_131 (hw _ (List.mem_of_getElem? (i := 8) rfl)) (hw _ (List.mem_of_getElem? (i := 9) rfl)) (hw _ (List.mem_of_getElem? (i := 5) rfl)) (hw _ (List.mem_of_getElem? (i := 10) rfl)) (by decide) pd_28JJ29B rfl rfl (by decide) (Nat.le_of_ble_eq_true rfl) (by decide) (by decide) (fun z0 => rm_d l Z a0 hw [] n0 h30 z0 p (10000000 : Int64) 10000000 rfl hp (by decide) (by decide)) (fun v31 h32 qv31 => ?_)
  obtain ⟨rfl, rfl⟩ := qv31
  show W K l _ n0 _ h30 0 0 134 #[.val (.ref d), .val (.int (0 : Int32)), .val (.long p), .second] [(.int (own_d p.toInt 10000000)), (.int (10 : Int32)), (.ref d)]
  refine w_bastore ok d1_134 A_d ge_d (by decide) (Nat.le_of_ble_eq_true rfl) (fun h33 W_h33 A1_h33 => ?_)
  replace Kp := Kp.wr W_h33 (Or.inl (by simp))
  replace A_d : PA .byte Z h33 d [(.int (own_d p.toInt 100000000000000000)), (.int (own_d p.toInt 10000000000000000)), (.int (own_d p.toInt 1000000000000000)), (.int (own_d p.toInt 100000000000000)), (.int (own_d p.toInt 10000000000000)), (.int (own_d p.toInt 1000000000000)), (.int (own_d p.toInt 100000000000)), (.int (own_d p.toInt 10000000000)), (.int (own_d p.toInt 1000000000)), (.int (own_d p.toInt 100000000)), (.int (nar .byte (own_d p.toInt 10000000))), (.int (0 : Int32)), (.int (0 : Int32)), (.int (0 : Int32)), (.int (0 : Int32)), (.int (0 : Int32)), (.int (0 : Int32)), (.int (0 : Int32)), (.int (0 : Int32))] := A1_h33
  rw [own_nb (by rw [own_dI]; omega) (by rw [own_dI]; omega)] at A_d
  show W K l _ n0 _ h33 0 0 135 #[.val (.ref d), .val (.int (0 : Int32)), .val (.long p), .second] []
  refine w_aloadN ok d1_135 rfl rfl ?_
  show W K l _ n0 _ h33 0 0 136 #[.val (.ref d), .val (.int (0 : Int32)), .val (.long p), .second] [(.ref d)]
  refine w_iloadN ok d1_136 rfl ?_
  show W K l _ n0 _ h33 0 0 137 #[.val (.ref d), .val (.int (0 : Int32)), .val (.long p), .second] [(.int (0 : Int32)), (.ref d)]
  refine w_bipush ok d1_137 (v := (11 : Int32)) rfl ?_
  show W K l _ n0 _ h33 0 0 139 #[.val (.ref d), .val (.int (0 : Int32)), .val (.long p), .second] [(.int (11 : Int32)), (.int (0 : Int32)), (.ref d)]
  refine w_iadd ok d1_139 ?_
  show W K l _ n0 _ h33 0 0 140 #[.val (.ref d), .val (.int (0 : Int32)), .val (.long p), .second] [(.int (11 : Int32)), (.ref d)]
  refine w_lloadN ok d1_140 rfl ?_
  show W K l _ n0 _ h33 0 0 141 #[.val (.ref d), .val (.int (0 : Int32)), .val (.long p), .second] [(.long p), (.int (11 : Int32)), (.ref d)]
  refine w_ldc2J (v := (1000000 : Int64)) ok d1_141 (hw _ (List.mem_of_getElem? (i := 23) rfl)) ?_
  show W K l _ n0 _ h33 0 0 144 #[.val (.ref d), .val (.int (0 : Int32)), .val (.long p), .second] [(.long (1000000 : Int64)), (.long p), (.int (11 : Int32)), (.ref d)]
  refine w_callS ok (y := (⟨"com/example/turnstile/turnstile/server/CommandsParseCountPinLaw", "d", "(JJ)B"⟩ : MethodName)) (argsL := [(.long p), (.long (1000000 : Int64))]) (rest := [(.int (11 : Int32)), (.ref d)]) d1_144 (hw _ (List.mem_of_getElem? (i := 8) rfl)) (hw _ (List.mem_of_getElem? (i := 9) rfl)) (hw _ (List.mem_of_getElem? (i := 5) rfl)) (hw _ (List.mem_of_getElem? (i := 10) rfl)) (by decide) pd_28JJ29B rfl rfl (by decide) (Nat.le_of_ble_eq_true rfl) (by decide) (by decide) (fun z0 => rm_d l Z a0 hw [] n0 h33 z0 p (1000000 : Int64) 1000000 rfl hp (by decide) (by decide)) (fun v34 h35 qv34 => ?_)
  obtain ⟨rfl, rfl⟩ := qv34
  show W K l _ n0 _ h33 0 0 147 #[.val (.ref d), .val (.int (0 : Int32)), .val (.long p), .second] [(.int (own_d p.toInt 1000000)), (.int (11 : Int32)), (.ref d)]
  refine w_bastore ok d1_147 A_d ge_d (by decide) (Nat.le_of_ble_eq_true rfl) (fun h36 W_h36 A1_h36 => ?_)
  replace Kp := Kp.wr W_h36 (Or.inl (by simp))
  replace A_d : PA .byte Z h36 d [(.int (own_d p.toInt 100000000000000000)), (.int (own_d p.toInt 10000000000000000)), (.int (own_d p.toInt 1000000000000000)), (.int (own_d p.toInt 100000000000000)), (.int (own_d p.toInt 10000000000000)), (.int (own_d p.toInt 1000000000000)), (.int (own_d p.toInt 100000000000)), (.int (own_d p.toInt 10000000000)), (.int (own_d p.toInt 1000000000)), (.int (own_d p.toInt 100000000)), (.int (own_d p.toInt 10000000)), (.int (nar .byte (own_d p.toInt 1000000))), (.int (0 : Int32)), (.int (0 : Int32)), (.int (0 : Int32)), (.int (0 : Int32)), (.int (0 : Int32)), (.int (0 : Int32)), (.int (0 : Int32))] := A1_h36
  rw [own_nb (by rw [own_dI]; omega) (by rw [own_dI]; omega)] at A_d
  show W K l _ n0 _ h36 0 0 148 #[.val (.ref d), .val (.int (0 : Int32)), .val (.long p), .second] []
  refine w_aloadN ok d1_148 rfl rfl ?_
  show W K l _ n0 _ h36 0 0 149 #[.val (.ref d), .val (.int (0 : Int32)), .val (.long p), .second] [(.ref d)]
  refine w_iloadN ok d1_149 rfl ?_
  show W K l _ n0 _ h36 0 0 150 #[.val (.ref d), .val (.int (0 : Int32)), .val (.long p), .second] [(.int (0 : Int32)), (.ref d)]
  refine w_bipush ok d1_150 (v := (12 : Int32)) rfl ?_
  show W K l _ n0 _ h36 0 0 152 #[.val (.ref d), .val (.int (0 : Int32)), .val (.long p), .second] [(.int (12 : Int32)), (.int (0 : Int32)), (.ref d)]
  refine w_iadd ok d1_152 ?_
  show W K l _ n0 _ h36 0 0 153 #[.val (.ref d), .val (.int (0 : Int32)), .val (.long p), .second] [(.int (12 : Int32)), (.ref d)]
  refine w_lloadN ok d1_153 rfl ?_
  show W K l _ n0 _ h36 0 0 154 #[.val (.ref d), .val (.int (0 : Int32)), .val (.long p), .second] [(.long p), (.int (12 : Int32)), (.ref d)]
  refine w_ldc2J (v := (100000 : Int64)) ok d1_154 (hw _ (List.mem_of_getElem? (i := 24) rfl)) ?_
  show W K l _ n0 _ h36 0 0 157 #[.val (.ref d), .val (.int (0 : Int32)), .val (.long p), .second] [(.long (100000 : Int64)), (.long p), (.int (12 : Int32)), (.ref d)]
  refine w_callS ok (y := (⟨"com/example/turnstile/turnstile/server/CommandsParseCountPinLaw", "d", "(JJ)B"⟩ : MethodName)) (argsL := [(.long p), (.long (100000 : Int64))]) (rest := [(.int (12 : Int32)), (.ref d)]) d1_157 (hw _ (List.mem_of_getElem? (i := 8) rfl)) (hw _ (List.mem_of_getElem? (i := 9) rfl)) (hw _ (List.mem_of_getElem? (i := 5) rfl)) (hw _ (List.mem_of_getElem? (i := 10) rfl)) (by decide) pd_28JJ29B rfl rfl (by decide) (Nat.le_of_ble_eq_true rfl) (by decide) (by decide) (fun z0 => rm_d l Z a0 hw [] n0 h36 z0 p (100000 : Int64) 100000 rfl hp (by decide) (by decide)) (fun v37 h38 qv37 => ?_)
  obtain ⟨rfl, rfl⟩ := qv37
  show W K l _ n0 _ h36 0 0 160 #[.val (.ref d), .val (.int (0 : Int32)), .val (.long p), .second] [(.int (own_d p.toInt 100000)), (.int (12 : Int32)), (.ref d)]
  refine w_bastore ok d1_160 A_d ge_d (by decide) (Nat.le_of_ble_eq_true rfl) (fun h39 W_h39 A1_h39 => ?_)
  replace Kp := Kp.wr W_h39 (Or.inl (by simp))
  replace A_d : PA .byte Z h39 d [(.int (own_d p.toInt 100000000000000000)), (.int (own_d p.toInt 10000000000000000)), (.int (own_d p.toInt 1000000000000000)), (.int (own_d p.toInt 100000000000000)), (.int (own_d p.toInt 10000000000000)), (.int (own_d p.toInt 1000000000000)), (.int (own_d p.toInt 100000000000)), (.int (own_d p.toInt 10000000000)), (.int (own_d p.toInt 1000000000)), (.int (own_d p.toInt 100000000)), (.int (own_d p.toInt 10000000)), (.int (own_d p.toInt 1000000)), (.int (nar .byte (own_d p.toInt 100000))), (.int (0 : Int32)), (.int (0 : Int32)), (.int (0 : Int32)), (.int (0 : Int32)), (.int (0 : Int32)), (.int (0 : Int32))] := A1_h39
  rw [own_nb (by rw [own_dI]; omega) (by rw [own_dI]; omega)] at A_d
  show W K l _ n0 _ h39 0 0 161 #[.val (.ref d), .val (.int (0 : Int32)), .val (.long p), .second] []
  refine w_aloadN ok d1_161 rfl rfl ?_
  show W K l _ n0 _ h39 0 0 162 #[.val (.ref d), .val (.int (0 : Int32)), .val (.long p), .second] [(.ref d)]
  refine w_iloadN ok d1_162 rfl ?_
  show W K l _ n0 _ h39 0 0 163 #[.val (.ref d), .val (.int (0 : Int32)), .val (.long p), .second] [(.int (0 : Int32)), (.ref d)]
  refine w_bipush ok d1_163 (v := (13 : Int32)) rfl ?_
  show W K l _ n0 _ h39 0 0 165 #[.val (.ref d), .val (.int (0 : Int32)), .val (.long p), .second] [(.int (13 : Int32)), (.int (0 : Int32)), (.ref d)]
  refine w_iadd ok d1_165 ?_
  show W K l _ n0 _ h39 0 0 166 #[.val (.ref d), .val (.int (0 : Int32)), .val (.long p), .second] [(.int (13 : Int32)), (.ref d)]
  refine w_lloadN ok d1_166 rfl ?_
  show W K l _ n0 _ h39 0 0 167 #[.val (.ref d), .val (.int (0 : Int32)), .val (.long p), .second] [(.long p), (.int (13 : Int32)), (.ref d)]
  refine w_ldc2J (v := (10000 : Int64)) ok d1_167 (hw _ (List.mem_of_getElem? (i := 25) rfl)) ?_
  show W K l _ n0 _ h39 0 0 170 #[.val (.ref d), .val (.int (0 : Int32)), .val (.long p), .second] [(.long (10000 : Int64)), (.long p), (.int (13 : Int32)), (.ref d)]
  refine w_callS ok (y := (⟨"com/example/turnstile/turnstile/server/CommandsParseCountPinLaw", "d", "(JJ)B"⟩ : MethodName)) (argsL := [(.long p), (.long (10000 : Int64))]) (rest := [(.int (13 : Int32)), (.ref d)]) d1_170 (hw _ (List.mem_of_getElem? (i := 8) rfl)) (hw _ (List.mem_of_getElem? (i := 9) rfl)) (hw _ (List.mem_of_getElem? (i := 5) rfl)) (hw _ (List.mem_of_getElem? (i := 10) rfl)) (by decide) pd_28JJ29B rfl rfl (by decide) (Nat.le_of_ble_eq_true rfl) (by decide) (by decide) (fun z0 => rm_d l Z a0 hw [] n0 h39 z0 p (10000 : Int64) 10000 rfl hp (by decide) (by decide)) (fun v40 h41 qv40 => ?_)
  obtain ⟨rfl, rfl⟩ := qv40
  show W K l _ n0 _ h39 0 0 173 #[.val (.ref d), .val (.int (0 : Int32)), .val (.long p), .second] [(.int (own_d p.toInt 10000)), (.int (13 : Int32)), (.ref d)]
  refine w_bastore ok d1_173 A_d ge_d (by decide) (Nat.le_of_ble_eq_true rfl) (fun h42 W_h42 A1_h42 => ?_)
  replace Kp := Kp.wr W_h42 (Or.inl (by simp))
  replace A_d : PA .byte Z h42 d [(.int (own_d p.toInt 100000000000000000)), (.int (own_d p.toInt 10000000000000000)), (.int (own_d p.toInt 1000000000000000)), (.int (own_d p.toInt 100000000000000)), (.int (own_d p.toInt 10000000000000)), (.int (own_d p.toInt 1000000000000)), (.int (own_d p.toInt 100000000000)), (.int (own_d p.toInt 10000000000)), (.int (own_d p.toInt 1000000000)), (.int (own_d p.toInt 100000000)), (.int (own_d p.toInt 10000000)), (.int (own_d p.toInt 1000000)), (.int (own_d p.toInt 100000)), (.int (nar .byte (own_d p.toInt 10000))), (.int (0 : Int32)), (.int (0 : Int32)), (.int (0 : Int32)), (.int (0 : Int32)), (.int (0 : Int32))] := A1_h42
  rw [own_nb (by rw [own_dI]; omega) (by rw [own_dI]; omega)] at A_d
  show W K l _ n0 _ h42 0 0 174 #[.val (.ref d), .val (.int (0 : Int32)), .val (.long p), .second] []
  refine w_aloadN ok d1_174 rfl rfl ?_
  show W K l _ n0 _ h42 0 0 175 #[.val (.ref d), .val (.int (0 : Int32)), .val (.long p), .second] [(.ref d)]
  refine w_iloadN ok d1_175 rfl ?_
  show W K l _ n0 _ h42 0 0 176 #[.val (.ref d), .val (.int (0 : Int32)), .val (.long p), .second] [(.int (0 : Int32)), (.ref d)]
  refine w_bipush ok d1_176 (v := (14 : Int32)) rfl ?_
  show W K l _ n0 _ h42 0 0 178 #[.val (.ref d), .val (.int (0 : Int32)), .val (.long p), .second] [(.int (14 : Int32)), (.int (0 : Int32)), (.ref d)]
  refine w_iadd ok d1_178 ?_
  show W K l _ n0 _ h42 0 0 179 #[.val (.ref d), .val (.int (0 : Int32)), .val (.long p), .second] [(.int (14 : Int32)), (.ref d)]
  refine w_lloadN ok d1_179 rfl ?_
  show W K l _ n0 _ h42 0 0 180 #[.val (.ref d), .val (.int (0 : Int32)), .val (.long p), .second] [(.long p), (.int (14 : Int32)), (.ref d)]
  refine w_ldc2J (v := (1000 : Int64)) ok d1_180 (hw _ (List.mem_of_getElem? (i := 26) rfl)) ?_
  show W K l _ n0 _ h42 0 0 183 #[.val (.ref d), .val (.int (0 : Int32)), .val (.long p), .second] [(.long (1000 : Int64)), (.long p), (.int (14 : Int32)), (.ref d)]
  refine w_callS ok (y := (⟨"com/example/turnstile/turnstile/server/CommandsParseCountPinLaw", "d", "(JJ)B"⟩ : MethodName)) (argsL := [(.long p), (.long (1000 : Int64))]) (rest := [(.int (14 : Int32)), (.ref d)]) d1_183 (hw _ (List.mem_of_getElem? (i := 8) rfl)) (hw _ (List.mem_of_getElem? (i := 9) rfl)) (hw _ (List.mem_of_getElem? (i := 5) rfl)) (hw _ (List.mem_of_getElem? (i := 10) rfl)) (by decide) pd_28JJ29B rfl rfl (by decide) (Nat.le_of_ble_eq_true rfl) (by decide) (by decide) (fun z0 => rm_d l Z a0 hw [] n0 h42 z0 p (1000 : Int64) 1000 rfl hp (by decide) (by decide)) (fun v43 h44 qv43 => ?_)
  obtain ⟨rfl, rfl⟩ := qv43
  show W K l _ n0 _ h42 0 0 186 #[.val (.ref d), .val (.int (0 : Int32)), .val (.long p), .second] [(.int (own_d p.toInt 1000)), (.int (14 : Int32)), (.ref d)]
  refine w_bastore ok d1_186 A_d ge_d (by decide) (Nat.le_of_ble_eq_true rfl) (fun h45 W_h45 A1_h45 => ?_)
  replace Kp := Kp.wr W_h45 (Or.inl (by simp))
  replace A_d : PA .byte Z h45 d [(.int (own_d p.toInt 100000000000000000)), (.int (own_d p.toInt 10000000000000000)), (.int (own_d p.toInt 1000000000000000)), (.int (own_d p.toInt 100000000000000)), (.int (own_d p.toInt 10000000000000)), (.int (own_d p.toInt 1000000000000)), (.int (own_d p.toInt 100000000000)), (.int (own_d p.toInt 10000000000)), (.int (own_d p.toInt 1000000000)), (.int (own_d p.toInt 100000000)), (.int (own_d p.toInt 10000000)), (.int (own_d p.toInt 1000000)), (.int (own_d p.toInt 100000)), (.int (own_d p.toInt 10000)), (.int (nar .byte (own_d p.toInt 1000))), (.int (0 : Int32)), (.int (0 : Int32)), (.int (0 : Int32)), (.int (0 : Int32))] := A1_h45
  rw [own_nb (by rw [own_dI]; omega) (by rw [own_dI]; omega)] at A_d
  show W K l _ n0 _ h45 0 0 187 #[.val (.ref d), .val (.int (0 : Int32)), .val (.long p), .second] []
  refine w_aloadN ok d1_187 rfl rfl ?_
  show W K l _ n0 _ h45 0 0 188 #[.val (.ref d), .val (.int (0 : Int32)), .val (.long p), .second] [(.ref d)]
  refine w_iloadN ok d1_188 rfl ?_
  show W K l _ n0 _ h45 0 0 189 #[.val (.ref d), .val (.int (0 : Int32)), .val (.long p), .second] [(.int (0 : Int32)), (.ref d)]
  refine w_bipush ok d1_189 (v := (15 : Int32)) rfl ?_
  show W K l _ n0 _ h45 0 0 191 #[.val (.ref d), .val (.int (0 : Int32)), .val (.long p), .second] [(.int (15 : Int32)), (.int (0 : Int32)), (.ref d)]
  refine w_iadd ok d1_191 ?_
  show W K l _ n0 _ h45 0 0 192 #[.val (.ref d), .val (.int (0 : Int32)), .val (.long p), .second] [(.int (15 : Int32)), (.ref d)]
  refine w_lloadN ok d1_192 rfl ?_
  show W K l _ n0 _ h45 0 0 193 #[.val (.ref d), .val (.int (0 : Int32)), .val (.long p), .second] [(.long p), (.int (15 : Int32)), (.ref d)]
  refine w_ldc2J (v := (100 : Int64)) ok d1_193 (hw _ (List.mem_of_getElem? (i := 27) rfl)) ?_
  show W K l _ n0 _ h45 0 0 196 #[.val (.ref d), .val (.int (0 : Int32)), .val (.long p), .second] [(.long (100 : Int64)), (.long p), (.int (15 : Int32)), (.ref d)]
  refine w_callS ok (y := (⟨"com/example/turnstile/turnstile/server/CommandsParseCountPinLaw", "d", "(JJ)B"⟩ : MethodName)) (argsL := [(.long p), (.long (100 : Int64))]) (rest := [(.int (15 : Int32)), (.ref d)]) d1_196 (hw _ (List.mem_of_getElem? (i := 8) rfl)) (hw _ (List.mem_of_getElem? (i := 9) rfl)) (hw _ (List.mem_of_getElem? (i := 5) rfl)) (hw _ (List.mem_of_getElem? (i := 10) rfl)) (by decide) pd_28JJ29B rfl rfl (by decide) (Nat.le_of_ble_eq_true rfl) (by decide) (by decide) (fun z0 => rm_d l Z a0 hw [] n0 h45 z0 p (100 : Int64) 100 rfl hp (by decide) (by decide)) (fun v46 h47 qv46 => ?_)
  obtain ⟨rfl, rfl⟩ := qv46
  show W K l _ n0 _ h45 0 0 199 #[.val (.ref d), .val (.int (0 : Int32)), .val (.long p), .second] [(.int (own_d p.toInt 100)), (.int (15 : Int32)), (.ref d)]
  refine w_bastore ok d1_199 A_d ge_d (by decide) (Nat.le_of_ble_eq_true rfl) (fun h48 W_h48 A1_h48 => ?_)
  replace Kp := Kp.wr W_h48 (Or.inl (by simp))
  replace A_d : PA .byte Z h48 d [(.int (own_d p.toInt 100000000000000000)), (.int (own_d p.toInt 10000000000000000)), (.int (own_d p.toInt 1000000000000000)), (.int (own_d p.toInt 100000000000000)), (.int (own_d p.toInt 10000000000000)), (.int (own_d p.toInt 1000000000000)), (.int (own_d p.toInt 100000000000)), (.int (own_d p.toInt 10000000000)), (.int (own_d p.toInt 1000000000)), (.int (own_d p.toInt 100000000)), (.int (own_d p.toInt 10000000)), (.int (own_d p.toInt 1000000)), (.int (own_d p.toInt 100000)), (.int (own_d p.toInt 10000)), (.int (own_d p.toInt 1000)), (.int (nar .byte (own_d p.toInt 100))), (.int (0 : Int32)), (.int (0 : Int32)), (.int (0 : Int32))] := A1_h48
  rw [own_nb (by rw [own_dI]; omega) (by rw [own_dI]; omega)] at A_d
  show W K l _ n0 _ h48 0 0 200 #[.val (.ref d), .val (.int (0 : Int32)), .val (.long p), .second] []
  refine w_aloadN ok d1_200 rfl rfl ?_
  show W K l _ n0 _ h48 0 0 201 #[.val (.ref d), .val (.int (0 : Int32)), .val (.long p), .second] [(.ref d)]
  refine w_iloadN ok d1_201 rfl ?_
  show W K l _ n0 _ h48 0 0 202 #[.val (.ref d), .val (.int (0 : Int32)), .val (.long p), .second] [(.int (0 : Int32)), (.ref d)]
  refine w_bipush ok d1_202 (v := (16 : Int32)) rfl ?_
  show W K l _ n0 _ h48 0 0 204 #[.val (.ref d), .val (.int (0 : Int32)), .val (.long p), .second] [(.int (16 : Int32)), (.int (0 : Int32)), (.ref d)]
  refine w_iadd ok d1_204 ?_
  show W K l _ n0 _ h48 0 0 205 #[.val (.ref d), .val (.int (0 : Int32)), .val (.long p), .second] [(.int (16 : Int32)), (.ref d)]
  refine w_lloadN ok d1_205 rfl ?_
  show W K l _ n0 _ h48 0 0 206 #[.val (.ref d), .val (.int (0 : Int32)), .val (.long p), .second] [(.long p), (.int (16 : Int32)), (.ref d)]
  refine w_ldc2J (v := (10 : Int64)) ok d1_206 (hw _ (List.mem_of_getElem? (i := 12) rfl)) ?_
  show W K l _ n0 _ h48 0 0 209 #[.val (.ref d), .val (.int (0 : Int32)), .val (.long p), .second] [(.long (10 : Int64)), (.long p), (.int (16 : Int32)), (.ref d)]
  refine w_callS ok (y := (⟨"com/example/turnstile/turnstile/server/CommandsParseCountPinLaw", "d", "(JJ)B"⟩ : MethodName)) (argsL := [(.long p), (.long (10 : Int64))]) (rest := [(.int (16 : Int32)), (.ref d)]) d1_209 (hw _ (List.mem_of_getElem? (i := 8) rfl)) (hw _ (List.mem_of_getElem? (i := 9) rfl)) (hw _ (List.mem_of_getElem? (i := 5) rfl)) (hw _ (List.mem_of_getElem? (i := 10) rfl)) (by decide) pd_28JJ29B rfl rfl (by decide) (Nat.le_of_ble_eq_true rfl) (by decide) (by decide) (fun z0 => rm_d l Z a0 hw [] n0 h48 z0 p (10 : Int64) 10 rfl hp (by decide) (by decide)) (fun v49 h50 qv49 => ?_)
  obtain ⟨rfl, rfl⟩ := qv49
  show W K l _ n0 _ h48 0 0 212 #[.val (.ref d), .val (.int (0 : Int32)), .val (.long p), .second] [(.int (own_d p.toInt 10)), (.int (16 : Int32)), (.ref d)]
  refine w_bastore ok d1_212 A_d ge_d (by decide) (Nat.le_of_ble_eq_true rfl) (fun h51 W_h51 A1_h51 => ?_)
  replace Kp := Kp.wr W_h51 (Or.inl (by simp))
  replace A_d : PA .byte Z h51 d [(.int (own_d p.toInt 100000000000000000)), (.int (own_d p.toInt 10000000000000000)), (.int (own_d p.toInt 1000000000000000)), (.int (own_d p.toInt 100000000000000)), (.int (own_d p.toInt 10000000000000)), (.int (own_d p.toInt 1000000000000)), (.int (own_d p.toInt 100000000000)), (.int (own_d p.toInt 10000000000)), (.int (own_d p.toInt 1000000000)), (.int (own_d p.toInt 100000000)), (.int (own_d p.toInt 10000000)), (.int (own_d p.toInt 1000000)), (.int (own_d p.toInt 100000)), (.int (own_d p.toInt 10000)), (.int (own_d p.toInt 1000)), (.int (own_d p.toInt 100)), (.int (nar .byte (own_d p.toInt 10))), (.int (0 : Int32)), (.int (0 : Int32))] := A1_h51
  rw [own_nb (by rw [own_dI]; omega) (by rw [own_dI]; omega)] at A_d
  show W K l _ n0 _ h51 0 0 213 #[.val (.ref d), .val (.int (0 : Int32)), .val (.long p), .second] []
  refine w_aloadN ok d1_213 rfl rfl ?_
  show W K l _ n0 _ h51 0 0 214 #[.val (.ref d), .val (.int (0 : Int32)), .val (.long p), .second] [(.ref d)]
  refine w_iloadN ok d1_214 rfl ?_
  show W K l _ n0 _ h51 0 0 215 #[.val (.ref d), .val (.int (0 : Int32)), .val (.long p), .second] [(.int (0 : Int32)), (.ref d)]
  refine w_bipush ok d1_215 (v := (17 : Int32)) rfl ?_
  show W K l _ n0 _ h51 0 0 217 #[.val (.ref d), .val (.int (0 : Int32)), .val (.long p), .second] [(.int (17 : Int32)), (.int (0 : Int32)), (.ref d)]
  refine w_iadd ok d1_217 ?_
  show W K l _ n0 _ h51 0 0 218 #[.val (.ref d), .val (.int (0 : Int32)), .val (.long p), .second] [(.int (17 : Int32)), (.ref d)]
  refine w_lloadN ok d1_218 rfl ?_
  show W K l _ n0 _ h51 0 0 219 #[.val (.ref d), .val (.int (0 : Int32)), .val (.long p), .second] [(.long p), (.int (17 : Int32)), (.ref d)]
  refine w_lconst ok d1_219 (v := (1 : Int64)) rfl ?_
  show W K l _ n0 _ h51 0 0 220 #[.val (.ref d), .val (.int (0 : Int32)), .val (.long p), .second] [(.long (1 : Int64)), (.long p), (.int (17 : Int32)), (.ref d)]
  refine w_callS ok (y := (⟨"com/example/turnstile/turnstile/server/CommandsParseCountPinLaw", "d", "(JJ)B"⟩ : MethodName)) (argsL := [(.long p), (.long (1 : Int64))]) (rest := [(.int (17 : Int32)), (.ref d)]) d1_220 (hw _ (List.mem_of_getElem? (i := 8) rfl)) (hw _ (List.mem_of_getElem? (i := 9) rfl)) (hw _ (List.mem_of_getElem? (i := 5) rfl)) (hw _ (List.mem_of_getElem? (i := 10) rfl)) (by decide) pd_28JJ29B rfl rfl (by decide) (Nat.le_of_ble_eq_true rfl) (by decide) (by decide) (fun z0 => rm_d l Z a0 hw [] n0 h51 z0 p (1 : Int64) 1 rfl hp (by decide) (by decide)) (fun v52 h53 qv52 => ?_)
  obtain ⟨rfl, rfl⟩ := qv52
  show W K l _ n0 _ h51 0 0 223 #[.val (.ref d), .val (.int (0 : Int32)), .val (.long p), .second] [(.int (own_d p.toInt 1)), (.int (17 : Int32)), (.ref d)]
  refine w_bastore ok d1_223 A_d ge_d (by decide) (Nat.le_of_ble_eq_true rfl) (fun h54 W_h54 A1_h54 => ?_)
  replace Kp := Kp.wr W_h54 (Or.inl (by simp))
  replace A_d : PA .byte Z h54 d [(.int (own_d p.toInt 100000000000000000)), (.int (own_d p.toInt 10000000000000000)), (.int (own_d p.toInt 1000000000000000)), (.int (own_d p.toInt 100000000000000)), (.int (own_d p.toInt 10000000000000)), (.int (own_d p.toInt 1000000000000)), (.int (own_d p.toInt 100000000000)), (.int (own_d p.toInt 10000000000)), (.int (own_d p.toInt 1000000000)), (.int (own_d p.toInt 100000000)), (.int (own_d p.toInt 10000000)), (.int (own_d p.toInt 1000000)), (.int (own_d p.toInt 100000)), (.int (own_d p.toInt 10000)), (.int (own_d p.toInt 1000)), (.int (own_d p.toInt 100)), (.int (own_d p.toInt 10)), (.int (nar .byte (own_d p.toInt 1))), (.int (0 : Int32))] := A1_h54
  rw [own_nb (by rw [own_dI]; omega) (by rw [own_dI]; omega)] at A_d
  show W K l _ n0 _ h54 0 0 224 #[.val (.ref d), .val (.int (0 : Int32)), .val (.long p), .second] []
  refine w_ret ok d1_224 (by decide) (by decide) ?_
  exact ⟨rfl, Kp, A_d⟩
set_option maxRecDepth 65536 in
set_option maxHeartbeats 40000000 in
theorem rm_put1 (l : Launch) (Z : State) (a0 : Array Value) (hw : ∀ d ∈ tables_1, d.before a0 Z = true) (ws : List Jvm.Cond) (n0 : Nat) (h0 : Heap) (Z0 : Old Z n0 h0) (d : Addr) (p : Int64) (hp : 0 ≤ p.toInt) (va : Int32) (A_d : PA .byte Z h0 d [(.int va), (.int (0 : Int32)), (.int (0 : Int32)), (.int (0 : Int32)), (.int (0 : Int32)), (.int (0 : Int32)), (.int (0 : Int32)), (.int (0 : Int32)), (.int (0 : Int32)), (.int (0 : Int32)), (.int (0 : Int32)), (.int (0 : Int32)), (.int (0 : Int32)), (.int (0 : Int32)), (.int (0 : Int32)), (.int (0 : Int32)), (.int (0 : Int32)), (.int (0 : Int32)), (.int (0 : Int32)), (.int (0 : Int32))]) (ge_d : n0 ≤ d)  :
    Met l Z n0 (⟨"com/example/turnstile/turnstile/server/CommandsParseCountPinLaw", "put18", "([BIJ)V"⟩ : MethodName) method_6_code 4 none ws ({ frames := 1, cells := 0, slots := 0, locals := 17 } : Room) #[(.ref d), (.int (1 : Int32)), (.long p)] h0 (fun u h => u = none ∧ Keep h0 h [d] ∧ PA .byte Z h d [(.int va), (.int (own_d p.toInt 100000000000000000)), (.int (own_d p.toInt 10000000000000000)), (.int (own_d p.toInt 1000000000000000)), (.int (own_d p.toInt 100000000000000)), (.int (own_d p.toInt 10000000000000)), (.int (own_d p.toInt 1000000000000)), (.int (own_d p.toInt 100000000000)), (.int (own_d p.toInt 10000000000)), (.int (own_d p.toInt 1000000000)), (.int (own_d p.toInt 100000000)), (.int (own_d p.toInt 10000000)), (.int (own_d p.toInt 1000000)), (.int (own_d p.toInt 100000)), (.int (own_d p.toInt 10000)), (.int (own_d p.toInt 1000)), (.int (own_d p.toInt 100)), (.int (own_d p.toInt 10)), (.int (own_d p.toInt 1)), (.int (0 : Int32))]) := by
  refine met_of Z0 (plainFor_of_name pn_com_example_turnstile_turnstile_server_CommandsParseCountPinLaw) (Ls := #[.val (.ref d), .val (.int (1 : Int32)), .val (.long p), .second]) (fun m => by first | (simp [entryFrame, mkF, argsToLocals, Value.category]; done) | rfl) ?_
  intro K ok
  have Kp : Keep h0 h0 [d] := Keep.refl _ _
  show W K l _ n0 _ h0 0 0 0 #[.val (.ref d), .val (.int (1 : Int32)), .val (.long p), .second] []
  refine w_aloadN ok d1_0 rfl rfl ?_
  show W K l _ n0 _ h0 0 0 1 #[.val (.ref d), .val (.int (1 : Int32)), .val (.long p), .second] [(.ref d)]
  refine w_iloadN ok d1_1 rfl ?_
  show W K l _ n0 _ h0 0 0 2 #[.val (.ref d), .val (.int (1 : Int32)), .val (.long p), .second] [(.int (1 : Int32)), (.ref d)]
  refine w_lloadN ok d1_2 rfl ?_
  show W K l _ n0 _ h0 0 0 3 #[.val (.ref d), .val (.int (1 : Int32)), .val (.long p), .second] [(.long p), (.int (1 : Int32)), (.ref d)]
  refine w_ldc2J (v := (100000000000000000 : Int64)) ok d1_3 (hw _ (List.mem_of_getElem? (i := 7) rfl)) ?_
  show W K l _ n0 _ h0 0 0 6 #[.val (.ref d), .val (.int (1 : Int32)), .val (.long p), .second] [(.long (100000000000000000 : Int64)), (.long p), (.int (1 : Int32)), (.ref d)]
  refine w_callS ok (y := (⟨"com/example/turnstile/turnstile/server/CommandsParseCountPinLaw", "d", "(JJ)B"⟩ : MethodName)) (argsL := [(.long p), (.long (100000000000000000 : Int64))]) (rest := [(.int (1 : Int32)), (.ref d)]) d1_6 (hw _ (List.mem_of_getElem? (i := 8) rfl)) (hw _ (List.mem_of_getElem? (i := 9) rfl)) (hw _ (List.mem_of_getElem? (i := 5) rfl)) (hw _ (List.mem_of_getElem? (i := 10) rfl)) (by decide) pd_28JJ29B rfl rfl (by decide) (Nat.le_of_ble_eq_true rfl) (by decide) (by decide) (fun z0 => rm_d l Z a0 hw [] n0 h0 z0 p (100000000000000000 : Int64) 100000000000000000 rfl hp (by decide) (by decide)) (fun v1 h2 qv1 => ?_)
  obtain ⟨rfl, rfl⟩ := qv1
  show W K l _ n0 _ h0 0 0 9 #[.val (.ref d), .val (.int (1 : Int32)), .val (.long p), .second] [(.int (own_d p.toInt 100000000000000000)), (.int (1 : Int32)), (.ref d)]
  refine w_bastore ok d1_9 A_d ge_d (by decide) (Nat.le_of_ble_eq_true rfl) (fun h3 W_h3 A1_h3 => ?_)
  replace Kp := Kp.wr W_h3 (Or.inl (by simp))
  replace A_d : PA .byte Z h3 d [(.int va), (.int (nar .byte (own_d p.toInt 100000000000000000))), (.int (0 : Int32)), (.int (0 : Int32)), (.int (0 : Int32)), (.int (0 : Int32)), (.int (0 : Int32)), (.int (0 : Int32)), (.int (0 : Int32)), (.int (0 : Int32)), (.int (0 : Int32)), (.int (0 : Int32)), (.int (0 : Int32)), (.int (0 : Int32)), (.int (0 : Int32)), (.int (0 : Int32)), (.int (0 : Int32)), (.int (0 : Int32)), (.int (0 : Int32)), (.int (0 : Int32))] := A1_h3
  rw [own_nb (by rw [own_dI]; omega) (by rw [own_dI]; omega)] at A_d
  show W K l _ n0 _ h3 0 0 10 #[.val (.ref d), .val (.int (1 : Int32)), .val (.long p), .second] []
  refine w_aloadN ok d1_10 rfl rfl ?_
  show W K l _ n0 _ h3 0 0 11 #[.val (.ref d), .val (.int (1 : Int32)), .val (.long p), .second] [(.ref d)]
  refine w_iloadN ok d1_11 rfl ?_
  show W K l _ n0 _ h3 0 0 12 #[.val (.ref d), .val (.int (1 : Int32)), .val (.long p), .second] [(.int (1 : Int32)), (.ref d)]
  refine w_iconst ok d1_12 (v := (1 : Int32)) rfl ?_
  show W K l _ n0 _ h3 0 0 13 #[.val (.ref d), .val (.int (1 : Int32)), .val (.long p), .second] [(.int (1 : Int32)), (.int (1 : Int32)), (.ref d)]
  refine w_iadd ok d1_13 ?_
  show W K l _ n0 _ h3 0 0 14 #[.val (.ref d), .val (.int (1 : Int32)), .val (.long p), .second] [(.int (2 : Int32)), (.ref d)]
  refine w_lloadN ok d1_14 rfl ?_
  show W K l _ n0 _ h3 0 0 15 #[.val (.ref d), .val (.int (1 : Int32)), .val (.long p), .second] [(.long p), (.int (2 : Int32)), (.ref d)]
  refine w_ldc2J (v := (10000000000000000 : Int64)) ok d1_15 (hw _ (List.mem_of_getElem? (i := 13) rfl)) ?_
  show W K l _ n0 _ h3 0 0 18 #[.val (.ref d), .val (.int (1 : Int32)), .val (.long p), .second] [(.long (10000000000000000 : Int64)), (.long p), (.int (2 : Int32)), (.ref d)]
  refine w_callS ok (y := (⟨"com/example/turnstile/turnstile/server/CommandsParseCountPinLaw", "d", "(JJ)B"⟩ : MethodName)) (argsL := [(.long p), (.long (10000000000000000 : Int64))]) (rest := [(.int (2 : Int32)), (.ref d)]) d1_18 (hw _ (List.mem_of_getElem? (i := 8) rfl)) (hw _ (List.mem_of_getElem? (i := 9) rfl)) (hw _ (List.mem_of_getElem? (i := 5) rfl)) (hw _ (List.mem_of_getElem? (i := 10) rfl)) (by decide) pd_28JJ29B rfl rfl (by decide) (Nat.le_of_ble_eq_true rfl) (by decide) (by decide) (fun z0 => rm_d l Z a0 hw [] n0 h3 z0 p (10000000000000000 : Int64) 10000000000000000 rfl hp (by decide) (by decide)) (fun v4 h5 qv4 => ?_)
  obtain ⟨rfl, rfl⟩ := qv4
  show W K l _ n0 _ h3 0 0 21 #[.val (.ref d), .val (.int (1 : Int32)), .val (.long p), .second] [(.int (own_d p.toInt 10000000000000000)), (.int (2 : Int32)), (.ref d)]
  refine w_bastore ok d1_21 A_d ge_d (by decide) (Nat.le_of_ble_eq_true rfl) (fun h6 W_h6 A1_h6 => ?_)
  replace Kp := Kp.wr W_h6 (Or.inl (by simp))
  replace A_d : PA .byte Z h6 d [(.int va), (.int (own_d p.toInt 100000000000000000)), (.int (nar .byte (own_d p.toInt 10000000000000000))), (.int (0 : Int32)), (.int (0 : Int32)), (.int (0 : Int32)), (.int (0 : Int32)), (.int (0 : Int32)), (.int (0 : Int32)), (.int (0 : Int32)), (.int (0 : Int32)), (.int (0 : Int32)), (.int (0 : Int32)), (.int (0 : Int32)), (.int (0 : Int32)), (.int (0 : Int32)), (.int (0 : Int32)), (.int (0 : Int32)), (.int (0 : Int32)), (.int (0 : Int32))] := A1_h6
  rw [own_nb (by rw [own_dI]; omega) (by rw [own_dI]; omega)] at A_d
  show W K l _ n0 _ h6 0 0 22 #[.val (.ref d), .val (.int (1 : Int32)), .val (.long p), .second] []
  refine w_aloadN ok d1_22 rfl rfl ?_
  show W K l _ n0 _ h6 0 0 23 #[.val (.ref d), .val (.int (1 : Int32)), .val (.long p), .second] [(.ref d)]
  refine w_iloadN ok d1_23 rfl ?_
  show W K l _ n0 _ h6 0 0 24 #[.val (.ref d), .val (.int (1 : Int32)), .val (.long p), .second] [(.int (1 : Int32)), (.ref d)]
  refine w_iconst ok d1_24 (v := (2 : Int32)) rfl ?_
  show W K l _ n0 _ h6 0 0 25 #[.val (.ref d), .val (.int (1 : Int32)), .val (.long p), .second] [(.int (2 : Int32)), (.int (1 : Int32)), (.ref d)]
  refine w_iadd ok d1_25 ?_
  show W K l _ n0 _ h6 0 0 26 #[.val (.ref d), .val (.int (1 : Int32)), .val (.long p), .second] [(.int (3 : Int32)), (.ref d)]
  refine w_lloadN ok d1_26 rfl ?_
  show W K l _ n0 _ h6 0 0 27 #[.val (.ref d), .val (.int (1 : Int32)), .val (.long p), .second] [(.long p), (.int (3 : Int32)), (.ref d)]
  refine w_ldc2J (v := (1000000000000000 : Int64)) ok d1_27 (hw _ (List.mem_of_getElem? (i := 14) rfl)) ?_
  show W K l _ n0 _ h6 0 0 30 #[.val (.ref d), .val (.int (1 : Int32)), .val (.long p), .second] [(.long (1000000000000000 : Int64)), (.long p), (.int (3 : Int32)), (.ref d)]
  refine w_callS ok (y := (⟨"com/example/turnstile/turnstile/server/CommandsParseCountPinLaw", "d", "(JJ)B"⟩ : MethodName)) (argsL := [(.long p), (.long (1000000000000000 : Int64))]) (rest := [(.int (3 : Int32)), (.ref d)]) d1_30 (hw _ (List.mem_of_getElem? (i := 8) rfl)) (hw _ (List.mem_of_getElem? (i := 9) rfl)) (hw _ (List.mem_of_getElem? (i := 5) rfl)) (hw _ (List.mem_of_getElem? (i := 10) rfl)) (by decide) pd_28JJ29B rfl rfl (by decide) (Nat.le_of_ble_eq_true rfl) (by decide) (by decide) (fun z0 => rm_d l Z a0 hw [] n0 h6 z0 p (1000000000000000 : Int64) 1000000000000000 rfl hp (by decide) (by decide)) (fun v7 h8 qv7 => ?_)
  obtain ⟨rfl, rfl⟩ := qv7
  show W K l _ n0 _ h6 0 0 33 #[.val (.ref d), .val (.int (1 : Int32)), .val (.long p), .second] [(.int (own_d p.toInt 1000000000000000)), (.int (3 : Int32)), (.ref d)]
  refine w_bastore ok d1_33 A_d ge_d (by decide) (Nat.le_of_ble_eq_true rfl) (fun h9 W_h9 A1_h9 => ?_)
  replace Kp := Kp.wr W_h9 (Or.inl (by simp))
  replace A_d : PA .byte Z h9 d [(.int va), (.int (own_d p.toInt 100000000000000000)), (.int (own_d p.toInt 10000000000000000)), (.int (nar .byte (own_d p.toInt 1000000000000000))), (.int (0 : Int32)), (.int (0 : Int32)), (.int (0 : Int32)), (.int (0 : Int32)), (.int (0 : Int32)), (.int (0 : Int32)), (.int (0 : Int32)), (.int (0 : Int32)), (.int (0 : Int32)), (.int (0 : Int32)), (.int (0 : Int32)), (.int (0 : Int32)), (.int (0 : Int32)), (.int (0 : Int32)), (.int (0 : Int32)), (.int (0 : Int32))] := A1_h9
  rw [own_nb (by rw [own_dI]; omega) (by rw [own_dI]; omega)] at A_d
  show W K l _ n0 _ h9 0 0 34 #[.val (.ref d), .val (.int (1 : Int32)), .val (.long p), .second] []
  refine w_aloadN ok d1_34 rfl rfl ?_
  show W K l _ n0 _ h9 0 0 35 #[.val (.ref d), .val (.int (1 : Int32)), .val (.long p), .second] [(.ref d)]
  refine w_iloadN ok d1_35 rfl ?_
  show W K l _ n0 _ h9 0 0 36 #[.val (.ref d), .val (.int (1 : Int32)), .val (.long p), .second] [(.int (1 : Int32)), (.ref d)]
  refine w_iconst ok d1_36 (v := (3 : Int32)) rfl ?_
  show W K l _ n0 _ h9 0 0 37 #[.val (.ref d), .val (.int (1 : Int32)), .val (.long p), .second] [(.int (3 : Int32)), (.int (1 : Int32)), (.ref d)]
  refine w_iadd ok d1_37 ?_
  show W K l _ n0 _ h9 0 0 38 #[.val (.ref d), .val (.int (1 : Int32)), .val (.long p), .second] [(.int (4 : Int32)), (.ref d)]
  refine w_lloadN ok d1_38 rfl ?_
  show W K l _ n0 _ h9 0 0 39 #[.val (.ref d), .val (.int (1 : Int32)), .val (.long p), .second] [(.long p), (.int (4 : Int32)), (.ref d)]
  refine w_ldc2J (v := (100000000000000 : Int64)) ok d1_39 (hw _ (List.mem_of_getElem? (i := 15) rfl)) ?_
  show W K l _ n0 _ h9 0 0 42 #[.val (.ref d), .val (.int (1 : Int32)), .val (.long p), .second] [(.long (100000000000000 : Int64)), (.long p), (.int (4 : Int32)), (.ref d)]
  refine w_callS ok (y := (⟨"com/example/turnstile/turnstile/server/CommandsParseCountPinLaw", "d", "(JJ)B"⟩ : MethodName)) (argsL := [(.long p), (.long (100000000000000 : Int64))]) (rest := [(.int (4 : Int32)), (.ref d)]) d1_42 (hw _ (List.mem_of_getElem? (i := 8) rfl)) (hw _ (List.mem_of_getElem? (i := 9) rfl)) (hw _ (List.mem_of_getElem? (i := 5) rfl)) (hw _ (List.mem_of_getElem? (i := 10) rfl)) (by decide) pd_28JJ29B rfl rfl (by decide) (Nat.le_of_ble_eq_true rfl) (by decide) (by decide) (fun z0 => rm_d l Z a0 hw [] n0 h9 z0 p (100000000000000 : Int64) 100000000000000 rfl hp (by decide) (by decide)) (fun v10 h11 qv10 => ?_)
  obtain ⟨rfl, rfl⟩ := qv10
  show W K l _ n0 _ h9 0 0 45 #[.val (.ref d), .val (.int (1 : Int32)), .val (.long p), .second] [(.int (own_d p.toInt 100000000000000)), (.int (4 : Int32)), (.ref d)]
  refine w_bastore ok d1_45 A_d ge_d (by decide) (Nat.le_of_ble_eq_true rfl) (fun h12 W_h12 A1_h12 => ?_)
  replace Kp := Kp.wr W_h12 (Or.inl (by simp))
  replace A_d : PA .byte Z h12 d [(.int va), (.int (own_d p.toInt 100000000000000000)), (.int (own_d p.toInt 10000000000000000)), (.int (own_d p.toInt 1000000000000000)), (.int (nar .byte (own_d p.toInt 100000000000000))), (.int (0 : Int32)), (.int (0 : Int32)), (.int (0 : Int32)), (.int (0 : Int32)), (.int (0 : Int32)), (.int (0 : Int32)), (.int (0 : Int32)), (.int (0 : Int32)), (.int (0 : Int32)), (.int (0 : Int32)), (.int (0 : Int32)), (.int (0 : Int32)), (.int (0 : Int32)), (.int (0 : Int32)), (.int (0 : Int32))] := A1_h12
  rw [own_nb (by rw [own_dI]; omega) (by rw [own_dI]; omega)] at A_d
  show W K l _ n0 _ h12 0 0 46 #[.val (.ref d), .val (.int (1 : Int32)), .val (.long p), .second] []
  refine w_aloadN ok d1_46 rfl rfl ?_
  show W K l _ n0 _ h12 0 0 47 #[.val (.ref d), .val (.int (1 : Int32)), .val (.long p), .second] [(.ref d)]
  refine w_iloadN ok d1_47 rfl ?_
  show W K l _ n0 _ h12 0 0 48 #[.val (.ref d), .val (.int (1 : Int32)), .val (.long p), .second] [(.int (1 : Int32)), (.ref d)]
  refine w_iconst ok d1_48 (v := (4 : Int32)) rfl ?_
  show W K l _ n0 _ h12 0 0 49 #[.val (.ref d), .val (.int (1 : Int32)), .val (.long p), .second] [(.int (4 : Int32)), (.int (1 : Int32)), (.ref d)]
  refine w_iadd ok d1_49 ?_
  show W K l _ n0 _ h12 0 0 50 #[.val (.ref d), .val (.int (1 : Int32)), .val (.long p), .second] [(.int (5 : Int32)), (.ref d)]
  refine w_lloadN ok d1_50 rfl ?_
  show W K l _ n0 _ h12 0 0 51 #[.val (.ref d), .val (.int (1 : Int32)), .val (.long p), .second] [(.long p), (.int (5 : Int32)), (.ref d)]
  refine w_ldc2J (v := (10000000000000 : Int64)) ok d1_51 (hw _ (List.mem_of_getElem? (i := 16) rfl)) ?_
  show W K l _ n0 _ h12 0 0 54 #[.val (.ref d), .val (.int (1 : Int32)), .val (.long p), .second] [(.long (10000000000000 : Int64)), (.long p), (.int (5 : Int32)), (.ref d)]
  refine w_callS ok (y := (⟨"com/example/turnstile/turnstile/server/CommandsParseCountPinLaw", "d", "(JJ)B"⟩ : MethodName)) (argsL := [(.long p), (.long (10000000000000 : Int64))]) (rest := [(.int (5 : Int32)), (.ref d)]) d1_54 (hw _ (List.mem_of_getElem? (i := 8) rfl)) (hw _ (List.mem_of_getElem? (i := 9) rfl)) (hw _ (List.mem_of_getElem? (i := 5) rfl)) (hw _ (List.mem_of_getElem? (i := 10) rfl)) (by decide) pd_28JJ29B rfl rfl (by decide) (Nat.le_of_ble_eq_true rfl) (by decide) (by decide) (fun z0 => rm_d l Z a0 hw [] n0 h12 z0 p (10000000000000 : Int64) 10000000000000 rfl hp (by decide) (by decide)) (fun v13 h14 qv13 => ?_)
  obtain ⟨rfl, rfl⟩ := qv13
  show W K l _ n0 _ h12 0 0 57 #[.val (.ref d), .val (.int (1 : Int32)), .val (.long p), .second] [(.int (own_d p.toInt 10000000000000)), (.int (5 : Int32)), (.ref d)]
  refine w_bastore ok d1_57 A_d ge_d (by decide) (Nat.le_of_ble_eq_true rfl) (fun h15 W_h15 A1_h15 => ?_)
  replace Kp := Kp.wr W_h15 (Or.inl (by simp))
  replace A_d : PA .byte Z h15 d [(.int va), (.int (own_d p.toInt 100000000000000000)), (.int (own_d p.toInt 10000000000000000)), (.int (own_d p.toInt 1000000000000000)), (.int (own_d p.toInt 100000000000000)), (.int (nar .byte (own_d p.toInt 10000000000000))), (.int (0 : Int32)), (.int (0 : Int32)), (.int (0 : Int32)), (.int (0 : Int32)), (.int (0 : Int32)), (.int (0 : Int32)), (.int (0 : Int32)), (.int (0 : Int32)), (.int (0 : Int32)), (.int (0 : Int32)), (.int (0 : Int32)), (.int (0 : Int32)), (.int (0 : Int32)), (.int (0 : Int32))] := A1_h15
  rw [own_nb (by rw [own_dI]; omega) (by rw [own_dI]; omega)] at A_d
  show W K l _ n0 _ h15 0 0 58 #[.val (.ref d), .val (.int (1 : Int32)), .val (.long p), .second] []
  refine w_aloadN ok d1_58 rfl rfl ?_
  show W K l _ n0 _ h15 0 0 59 #[.val (.ref d), .val (.int (1 : Int32)), .val (.long p), .second] [(.ref d)]
  refine w_iloadN ok d1_59 rfl ?_
  show W K l _ n0 _ h15 0 0 60 #[.val (.ref d), .val (.int (1 : Int32)), .val (.long p), .second] [(.int (1 : Int32)), (.ref d)]
  refine w_iconst ok d1_60 (v := (5 : Int32)) rfl ?_
  show W K l _ n0 _ h15 0 0 61 #[.val (.ref d), .val (.int (1 : Int32)), .val (.long p), .second] [(.int (5 : Int32)), (.int (1 : Int32)), (.ref d)]
  refine w_iadd ok d1_61 ?_
  show W K l _ n0 _ h15 0 0 62 #[.val (.ref d), .val (.int (1 : Int32)), .val (.long p), .second] [(.int (6 : Int32)), (.ref d)]
  refine w_lloadN ok d1_62 rfl ?_
  show W K l _ n0 _ h15 0 0 63 #[.val (.ref d), .val (.int (1 : Int32)), .val (.long p), .second] [(.long p), (.int (6 : Int32)), (.ref d)]
  refine w_ldc2J (v := (1000000000000 : Int64)) ok d1_63 (hw _ (List.mem_of_getElem? (i := 17) rfl)) ?_
  show W K l _ n0 _ h15 0 0 66 #[.val (.ref d), .val (.int (1 : Int32)), .val (.long p), .second] [(.long (1000000000000 : Int64)), (.long p), (.int (6 : Int32)), (.ref d)]
  refine w_callS ok (y := (⟨"com/example/turnstile/turnstile/server/CommandsParseCountPinLaw", "d", "(JJ)B"⟩ : MethodName)) (argsL := [(.long p), (.long (1000000000000 : Int64))]) (rest := [(.int (6 : Int32)), (.ref d)]) d1_66 (hw _ (List.mem_of_getElem? (i := 8) rfl)) (hw _ (List.mem_of_getElem? (i := 9) rfl)) (hw _ (List.mem_of_getElem? (i := 5) rfl)) (hw _ (List.mem_of_getElem? (i := 10) rfl)) (by decide) pd_28JJ29B rfl rfl (by decide) (Nat.le_of_ble_eq_true rfl) (by decide) (by decide) (fun z0 => rm_d l Z a0 hw [] n0 h15 z0 p (1000000000000 : Int64) 1000000000000 rfl hp (by decide) (by decide)) (fun v16 h17 qv16 => ?_)
  obtain ⟨rfl, rfl⟩ := qv16
  show W K l _ n0 _ h15 0 0 69 #[.val (.ref d), .val (.int (1 : Int32)), .val (.long p), .second] [(.int (own_d p.toInt 1000000000000)), (.int (6 : Int32)), (.ref d)]
  refine w_bastore ok d1_69 A_d ge_d (by decide) (Nat.le_of_ble_eq_true rfl) (fun h18 W_h18 A1_h18 => ?_)
  replace Kp := Kp.wr W_h18 (Or.inl (by simp))
  replace A_d : PA .byte Z h18 d [(.int va), (.int (own_d p.toInt 100000000000000000)), (.int (own_d p.toInt 10000000000000000)), (.int (own_d p.toInt 1000000000000000)), (.int (own_d p.toInt 100000000000000)), (.int (own_d p.toInt 10000000000000)), (.int (nar .byte (own_d p.toInt 1000000000000))), (.int (0 : Int32)), (.int (0 : Int32)), (.int (0 : Int32)), (.int (0 : Int32)), (.int (0 : Int32)), (.int (0 : Int32)), (.int (0 : Int32)), (.int (0 : Int32)), (.int (0 : Int32)), (.int (0 : Int32)), (.int (0 : Int32)), (.int (0 : Int32)), (.int (0 : Int32))] := A1_h18
  rw [own_nb (by rw [own_dI]; omega) (by rw [own_dI]; omega)] at A_d
  show W K l _ n0 _ h18 0 0 70 #[.val (.ref d), .val (.int (1 : Int32)), .val (.long p), .second] []
  refine w_aloadN ok d1_70 rfl rfl ?_
  show W K l _ n0 _ h18 0 0 71 #[.val (.ref d), .val (.int (1 : Int32)), .val (.long p), .second] [(.ref d)]
  refine w_iloadN ok d1_71 rfl ?_
  show W K l _ n0 _ h18 0 0 72 #[.val (.ref d), .val (.int (1 : Int32)), .val (.long p), .second] [(.int (1 : Int32)), (.ref d)]
  refine w_bipush ok d1_72 (v := (6 : Int32)) rfl ?_
  show W K l _ n0 _ h18 0 0 74 #[.val (.ref d), .val (.int (1 : Int32)), .val (.long p), .second] [(.int (6 : Int32)), (.int (1 : Int32)), (.ref d)]
  refine w_iadd ok d1_74 ?_
  show W K l _ n0 _ h18 0 0 75 #[.val (.ref d), .val (.int (1 : Int32)), .val (.long p), .second] [(.int (7 : Int32)), (.ref d)]
  refine w_lloadN ok d1_75 rfl ?_
  show W K l _ n0 _ h18 0 0 76 #[.val (.ref d), .val (.int (1 : Int32)), .val (.long p), .second] [(.long p), (.int (7 : Int32)), (.ref d)]
  refine w_ldc2J (v := (100000000000 : Int64)) ok d1_76 (hw _ (List.mem_of_getElem? (i := 18) rfl)) ?_
  show W K l _ n0 _ h18 0 0 79 #[.val (.ref d), .val (.int (1 : Int32)), .val (.long p), .second] [(.long (100000000000 : Int64)), (.long p), (.int (7 : Int32)), (.ref d)]
  refine w_callS ok (y := (⟨"com/example/turnstile/turnstile/server/CommandsParseCountPinLaw", "d", "(JJ)B"⟩ : MethodName)) (argsL := [(.long p), (.long (100000000000 : Int64))]) (rest := [(.int (7 : Int32)), (.ref d)]) d1_79 (hw _ (List.mem_of_getElem? (i := 8) rfl)) (hw _ (List.mem_of_getElem? (i := 9) rfl)) (hw _ (List.mem_of_getElem? (i := 5) rfl)) (hw _ (List.mem_of_getElem? (i := 10) rfl)) (by decide) pd_28JJ29B rfl rfl (by decide) (Nat.le_of_ble_eq_true rfl) (by decide) (by decide) (fun z0 => rm_d l Z a0 hw [] n0 h18 z0 p (100000000000 : Int64) 100000000000 rfl hp (by decide) (by decide)) (fun v19 h20 qv19 => ?_)
  obtain ⟨rfl, rfl⟩ := qv19
  show W K l _ n0 _ h18 0 0 82 #[.val (.ref d), .val (.int (1 : Int32)), .val (.long p), .second] [(.int (own_d p.toInt 100000000000)), (.int (7 : Int32)), (.ref d)]
  refine w_bastore ok d1_82 A_d ge_d (by decide) (Nat.le_of_ble_eq_true rfl) (fun h21 W_h21 A1_h21 => ?_)
  replace Kp := Kp.wr W_h21 (Or.inl (by simp))
  replace A_d : PA .byte Z h21 d [(.int va), (.int (own_d p.toInt 100000000000000000)), (.int (own_d p.toInt 10000000000000000)), (.int (own_d p.toInt 1000000000000000)), (.int (own_d p.toInt 100000000000000)), (.int (own_d p.toInt 10000000000000)), (.int (own_d p.toInt 1000000000000)), (.int (nar .byte (own_d p.toInt 100000000000))), (.int (0 : Int32)), (.int (0 : Int32)), (.int (0 : Int32)), (.int (0 : Int32)), (.int (0 : Int32)), (.int (0 : Int32)), (.int (0 : Int32)), (.int (0 : Int32)), (.int (0 : Int32)), (.int (0 : Int32)), (.int (0 : Int32)), (.int (0 : Int32))] := A1_h21
  rw [own_nb (by rw [own_dI]; omega) (by rw [own_dI]; omega)] at A_d
  show W K l _ n0 _ h21 0 0 83 #[.val (.ref d), .val (.int (1 : Int32)), .val (.long p), .second] []
  refine w_aloadN ok d1_83 rfl rfl ?_
  show W K l _ n0 _ h21 0 0 84 #[.val (.ref d), .val (.int (1 : Int32)), .val (.long p), .second] [(.ref d)]
  refine w_iloadN ok d1_84 rfl ?_
  show W K l _ n0 _ h21 0 0 85 #[.val (.ref d), .val (.int (1 : Int32)), .val (.long p), .second] [(.int (1 : Int32)), (.ref d)]
  refine w_bipush ok d1_85 (v := (7 : Int32)) rfl ?_
  show W K l _ n0 _ h21 0 0 87 #[.val (.ref d), .val (.int (1 : Int32)), .val (.long p), .second] [(.int (7 : Int32)), (.int (1 : Int32)), (.ref d)]
  refine w_iadd ok d1_87 ?_
  show W K l _ n0 _ h21 0 0 88 #[.val (.ref d), .val (.int (1 : Int32)), .val (.long p), .second] [(.int (8 : Int32)), (.ref d)]
  refine w_lloadN ok d1_88 rfl ?_
  show W K l _ n0 _ h21 0 0 89 #[.val (.ref d), .val (.int (1 : Int32)), .val (.long p), .second] [(.long p), (.int (8 : Int32)), (.ref d)]
  refine w_ldc2J (v := (10000000000 : Int64)) ok d1_89 (hw _ (List.mem_of_getElem? (i := 19) rfl)) ?_
  show W K l _ n0 _ h21 0 0 92 #[.val (.ref d), .val (.int (1 : Int32)), .val (.long p), .second] [(.long (10000000000 : Int64)), (.long p), (.int (8 : Int32)), (.ref d)]
  refine w_callS ok (y := (⟨"com/example/turnstile/turnstile/server/CommandsParseCountPinLaw", "d", "(JJ)B"⟩ : MethodName)) (argsL := [(.long p), (.long (10000000000 : Int64))]) (rest := [(.int (8 : Int32)), (.ref d)]) d1_92 (hw _ (List.mem_of_getElem? (i := 8) rfl)) (hw _ (List.mem_of_getElem? (i := 9) rfl)) (hw _ (List.mem_of_getElem? (i := 5) rfl)) (hw _ (List.mem_of_getElem? (i := 10) rfl)) (by decide) pd_28JJ29B rfl rfl (by decide) (Nat.le_of_ble_eq_true rfl) (by decide) (by decide) (fun z0 => rm_d l Z a0 hw [] n0 h21 z0 p (10000000000 : Int64) 10000000000 rfl hp (by decide) (by decide)) (fun v22 h23 qv22 => ?_)
  obtain ⟨rfl, rfl⟩ := qv22
  show W K l _ n0 _ h21 0 0 95 #[.val (.ref d), .val (.int (1 : Int32)), .val (.long p), .second] [(.int (own_d p.toInt 10000000000)), (.int (8 : Int32)), (.ref d)]
  refine w_bastore ok d1_95 A_d ge_d (by decide) (Nat.le_of_ble_eq_true rfl) (fun h24 W_h24 A1_h24 => ?_)
  replace Kp := Kp.wr W_h24 (Or.inl (by simp))
  replace A_d : PA .byte Z h24 d [(.int va), (.int (own_d p.toInt 100000000000000000)), (.int (own_d p.toInt 10000000000000000)), (.int (own_d p.toInt 1000000000000000)), (.int (own_d p.toInt 100000000000000)), (.int (own_d p.toInt 10000000000000)), (.int (own_d p.toInt 1000000000000)), (.int (own_d p.toInt 100000000000)), (.int (nar .byte (own_d p.toInt 10000000000))), (.int (0 : Int32)), (.int (0 : Int32)), (.int (0 : Int32)), (.int (0 : Int32)), (.int (0 : Int32)), (.int (0 : Int32)), (.int (0 : Int32)), (.int (0 : Int32)), (.int (0 : Int32)), (.int (0 : Int32)), (.int (0 : Int32))] := A1_h24
  rw [own_nb (by rw [own_dI]; omega) (by rw [own_dI]; omega)] at A_d
  show W K l _ n0 _ h24 0 0 96 #[.val (.ref d), .val (.int (1 : Int32)), .val (.long p), .second] []
  refine w_aloadN ok d1_96 rfl rfl ?_
  show W K l _ n0 _ h24 0 0 97 #[.val (.ref d), .val (.int (1 : Int32)), .val (.long p), .second] [(.ref d)]
  refine w_iloadN ok d1_97 rfl ?_
  show W K l _ n0 _ h24 0 0 98 #[.val (.ref d), .val (.int (1 : Int32)), .val (.long p), .second] [(.int (1 : Int32)), (.ref d)]
  refine w_bipush ok d1_98 (v := (8 : Int32)) rfl ?_
  show W K l _ n0 _ h24 0 0 100 #[.val (.ref d), .val (.int (1 : Int32)), .val (.long p), .second] [(.int (8 : Int32)), (.int (1 : Int32)), (.ref d)]
  refine w_iadd ok d1_100 ?_
  show W K l _ n0 _ h24 0 0 101 #[.val (.ref d), .val (.int (1 : Int32)), .val (.long p), .second] [(.int (9 : Int32)), (.ref d)]
  refine w_lloadN ok d1_101 rfl ?_
  show W K l _ n0 _ h24 0 0 102 #[.val (.ref d), .val (.int (1 : Int32)), .val (.long p), .second] [(.long p), (.int (9 : Int32)), (.ref d)]
  refine w_ldc2J (v := (1000000000 : Int64)) ok d1_102 (hw _ (List.mem_of_getElem? (i := 20) rfl)) ?_
  show W K l _ n0 _ h24 0 0 105 #[.val (.ref d), .val (.int (1 : Int32)), .val (.long p), .second] [(.long (1000000000 : Int64)), (.long p), (.int (9 : Int32)), (.ref d)]
  refine w_callS ok (y := (⟨"com/example/turnstile/turnstile/server/CommandsParseCountPinLaw", "d", "(JJ)B"⟩ : MethodName)) (argsL := [(.long p), (.long (1000000000 : Int64))]) (rest := [(.int (9 : Int32)), (.ref d)]) d1_105 (hw _ (List.mem_of_getElem? (i := 8) rfl)) (hw _ (List.mem_of_getElem? (i := 9) rfl)) (hw _ (List.mem_of_getElem? (i := 5) rfl)) (hw _ (List.mem_of_getElem? (i := 10) rfl)) (by decide) pd_28JJ29B rfl rfl (by decide) (Nat.le_of_ble_eq_true rfl) (by decide) (by decide) (fun z0 => rm_d l Z a0 hw [] n0 h24 z0 p (1000000000 : Int64) 1000000000 rfl hp (by decide) (by decide)) (fun v25 h26 qv25 => ?_)
  obtain ⟨rfl, rfl⟩ := qv25
  show W K l _ n0 _ h24 0 0 108 #[.val (.ref d), .val (.int (1 : Int32)), .val (.long p), .second] [(.int (own_d p.toInt 1000000000)), (.int (9 : Int32)), (.ref d)]
  refine w_bastore ok d1_108 A_d ge_d (by decide) (Nat.le_of_ble_eq_true rfl) (fun h27 W_h27 A1_h27 => ?_)
  replace Kp := Kp.wr W_h27 (Or.inl (by simp))
  replace A_d : PA .byte Z h27 d [(.int va), (.int (own_d p.toInt 100000000000000000)), (.int (own_d p.toInt 10000000000000000)), (.int (own_d p.toInt 1000000000000000)), (.int (own_d p.toInt 100000000000000)), (.int (own_d p.toInt 10000000000000)), (.int (own_d p.toInt 1000000000000)), (.int (own_d p.toInt 100000000000)), (.int (own_d p.toInt 10000000000)), (.int (nar .byte (own_d p.toInt 1000000000))), (.int (0 : Int32)), (.int (0 : Int32)), (.int (0 : Int32)), (.int (0 : Int32)), (.int (0 : Int32)), (.int (0 : Int32)), (.int (0 : Int32)), (.int (0 : Int32)), (.int (0 : Int32)), (.int (0 : Int32))] := A1_h27
  rw [own_nb (by rw [own_dI]; omega) (by rw [own_dI]; omega)] at A_d
  show W K l _ n0 _ h27 0 0 109 #[.val (.ref d), .val (.int (1 : Int32)), .val (.long p), .second] []
  refine w_aloadN ok d1_109 rfl rfl ?_
  show W K l _ n0 _ h27 0 0 110 #[.val (.ref d), .val (.int (1 : Int32)), .val (.long p), .second] [(.ref d)]
  refine w_iloadN ok d1_110 rfl ?_
  show W K l _ n0 _ h27 0 0 111 #[.val (.ref d), .val (.int (1 : Int32)), .val (.long p), .second] [(.int (1 : Int32)), (.ref d)]
  refine w_bipush ok d1_111 (v := (9 : Int32)) rfl ?_
  show W K l _ n0 _ h27 0 0 113 #[.val (.ref d), .val (.int (1 : Int32)), .val (.long p), .second] [(.int (9 : Int32)), (.int (1 : Int32)), (.ref d)]
  refine w_iadd ok d1_113 ?_
  show W K l _ n0 _ h27 0 0 114 #[.val (.ref d), .val (.int (1 : Int32)), .val (.long p), .second] [(.int (10 : Int32)), (.ref d)]
  refine w_lloadN ok d1_114 rfl ?_
  show W K l _ n0 _ h27 0 0 115 #[.val (.ref d), .val (.int (1 : Int32)), .val (.long p), .second] [(.long p), (.int (10 : Int32)), (.ref d)]
  refine w_ldc2J (v := (100000000 : Int64)) ok d1_115 (hw _ (List.mem_of_getElem? (i := 21) rfl)) ?_
  show W K l _ n0 _ h27 0 0 118 #[.val (.ref d), .val (.int (1 : Int32)), .val (.long p), .second] [(.long (100000000 : Int64)), (.long p), (.int (10 : Int32)), (.ref d)]
  refine w_callS ok (y := (⟨"com/example/turnstile/turnstile/server/CommandsParseCountPinLaw", "d", "(JJ)B"⟩ : MethodName)) (argsL := [(.long p), (.long (100000000 : Int64))]) (rest := [(.int (10 : Int32)), (.ref d)]) d1_118 (hw _ (List.mem_of_getElem? (i := 8) rfl)) (hw _ (List.mem_of_getElem? (i := 9) rfl)) (hw _ (List.mem_of_getElem? (i := 5) rfl)) (hw _ (List.mem_of_getElem? (i := 10) rfl)) (by decide) pd_28JJ29B rfl rfl (by decide) (Nat.le_of_ble_eq_true rfl) (by decide) (by decide) (fun z0 => rm_d l Z a0 hw [] n0 h27 z0 p (100000000 : Int64) 100000000 rfl hp (by decide) (by decide)) (fun v28 h29 qv28 => ?_)
  obtain ⟨rfl, rfl⟩ := qv28
  show W K l _ n0 _ h27 0 0 121 #[.val (.ref d), .val (.int (1 : Int32)), .val (.long p), .second] [(.int (own_d p.toInt 100000000)), (.int (10 : Int32)), (.ref d)]
  refine w_bastore ok d1_121 A_d ge_d (by decide) (Nat.le_of_ble_eq_true rfl) (fun h30 W_h30 A1_h30 => ?_)
  replace Kp := Kp.wr W_h30 (Or.inl (by simp))
  replace A_d : PA .byte Z h30 d [(.int va), (.int (own_d p.toInt 100000000000000000)), (.int (own_d p.toInt 10000000000000000)), (.int (own_d p.toInt 1000000000000000)), (.int (own_d p.toInt 100000000000000)), (.int (own_d p.toInt 10000000000000)), (.int (own_d p.toInt 1000000000000)), (.int (own_d p.toInt 100000000000)), (.int (own_d p.toInt 10000000000)), (.int (own_d p.toInt 1000000000)), (.int (nar .byte (own_d p.toInt 100000000))), (.int (0 : Int32)), (.int (0 : Int32)), (.int (0 : Int32)), (.int (0 : Int32)), (.int (0 : Int32)), (.int (0 : Int32)), (.int (0 : Int32)), (.int (0 : Int32)), (.int (0 : Int32))] := A1_h30
  rw [own_nb (by rw [own_dI]; omega) (by rw [own_dI]; omega)] at A_d
  show W K l _ n0 _ h30 0 0 122 #[.val (.ref d), .val (.int (1 : Int32)), .val (.long p), .second] []
  refine w_aloadN ok d1_122 rfl rfl ?_
  show W K l _ n0 _ h30 0 0 123 #[.val (.ref d), .val (.int (1 : Int32)), .val (.long p), .second] [(.ref d)]
  refine w_iloadN ok d1_123 rfl ?_
  show W K l _ n0 _ h30 0 0 124 #[.val (.ref d), .val (.int (1 : Int32)), .val (.long p), .second] [(.int (1 : Int32)), (.ref d)]
  refine w_bipush ok d1_124 (v := (10 : Int32)) rfl ?_
  show W K l _ n0 _ h30 0 0 126 #[.val (.ref d), .val (.int (1 : Int32)), .val (.long p), .second] [(.int (10 : Int32)), (.int (1 : Int32)), (.ref d)]
  refine w_iadd ok d1_126 ?_
  show W K l _ n0 _ h30 0 0 127 #[.val (.ref d), .val (.int (1 : Int32)), .val (.long p), .second] [(.int (11 : Int32)), (.ref d)]
  refine w_lloadN ok d1_127 rfl ?_
  show W K l _ n0 _ h30 0 0 128 #[.val (.ref d), .val (.int (1 : Int32)), .val (.long p), .second] [(.long p), (.int (11 : Int32)), (.ref d)]
  refine w_ldc2J (v := (10000000 : Int64)) ok d1_128 (hw _ (List.mem_of_getElem? (i := 22) rfl)) ?_
  show W K l _ n0 _ h30 0 0 131 #[.val (.ref d), .val (.int (1 : Int32)), .val (.long p), .second] [(.long (10000000 : Int64)), (.long p), (.int (11 : Int32)), (.ref d)]
  refine w_callS ok (y := (⟨"com/example/turnstile/turnstile/server/CommandsParseCountPinLaw", "d", "(JJ)B"⟩ : MethodName)) (argsL := [(.long p), (.long (10000000 : Int64))]) (rest := [(.int (11 : Int32)), (.ref d)]) d1_131 (hw _ (List.mem_of_getElem? (i := 8) rfl)) (hw _ (List.mem_of_getElem? (i := 9) rfl)) (hw _ (List.mem_of_getElem? (i := 5) rfl)) (hw _ (List.mem_of_getElem? (i := 10) rfl)) (by decide) pd_28JJ29B rfl rfl (by decide) (Nat.le_of_ble_eq_true rfl) (by decide) (by decide) (fun z0 => rm_d l Z a0 hw [] n0 h30 z0 p (10000000 : Int64) 10000000 rfl hp (by decide) (by decide)) (fun v31 h32 qv31 => ?_)
  obtain ⟨rfl, rfl⟩ := qv31
  show W K l _ n0 _ h30 0 0 134 #[.val (.ref d), .val (.int (1 : Int32)), .val (.long p), .second] [(.int (own_d p.toInt 10000000)), (.int (11 : Int32)), (.ref d)]
  refine w_bastore ok d1_134 A_d ge_d (by decide) (Nat.le_of_ble_eq_true rfl) (fun h33 W_h33 A1_h33 => ?_)
  replace Kp := Kp.wr W_h33 (Or.inl (by simp))
  replace A_d : PA .byte Z h33 d [(.int va), (.int (own_d p.toInt 100000000000000000)), (.int (own_d p.toInt 10000000000000000)), (.int (own_d p.toInt 1000000000000000)), (.int (own_d p.toInt 100000000000000)), (.int (own_d p.toInt 10000000000000)), (.int (own_d p.toInt 1000000000000)), (.int (own_d p.toInt 100000000000)), (.int (own_d p.toInt 10000000000)), (.int (own_d p.toInt 1000000000)), (.int (own_d p.toInt 100000000)), (.int (nar .byte (own_d p.toInt 10000000))), (.int (0 : Int32)), (.int (0 : Int32)), (.int (0 : Int32)), (.int (0 : Int32)), (.int (0 : Int32)), (.int (0 : Int32)), (.int (0 : Int32)), (.int (0 : Int32))] := A1_h33
  rw [own_nb (by rw [own_dI]; omega) (by rw [own_dI]; omega)] at A_d
  show W K l _ n0 _ h33 0 0 135 #[.val (.ref d), .val (.int (1 : Int32)), .val (.long p), .second] []
  refine w_aloadN ok d1_135 rfl rfl ?_
  show W K l _ n0 _ h33 0 0 136 #[.val (.ref d), .val (.int (1 : Int32)), .val (.long p), .second] [(.ref d)]
  refine w_iloadN ok d1_136 rfl ?_
  show W K l _ n0 _ h33 0 0 137 #[.val (.ref d), .val (.int (1 : Int32)), .val (.long p), .second] [(.int (1 : Int32)), (.ref d)]
  refine w_bipush ok d1_137 (v := (11 : Int32)) rfl ?_
  show W K l _ n0 _ h33 0 0 139 #[.val (.ref d), .val (.int (1 : Int32)), .val (.long p), .second] [(.int (11 : Int32)), (.int (1 : Int32)), (.ref d)]
  refine w_iadd ok d1_139 ?_
  show W K l _ n0 _ h33 0 0 140 #[.val (.ref d), .val (.int (1 : Int32)), .val (.long p), .second] [(.int (12 : Int32)), (.ref d)]
  refine w_lloadN ok d1_140 rfl ?_
  show W K l _ n0 _ h33 0 0 141 #[.val (.ref d), .val (.int (1 : Int32)), .val (.long p), .second] [(.long p), (.int (12 : Int32)), (.ref d)]
  refine w_ldc2J (v := (1000000 : Int64)) ok d1_141 (hw _ (List.mem_of_getElem? (i := 23) rfl)) ?_
  show W K l _ n0 _ h33 0 0 144 #[.val (.ref d), .val (.int (1 : Int32)), .val (.long p), .second] [(.long (1000000 : Int64)), (.long p), (.int (12 : Int32)), (.ref d)]
  refine w_callS ok (y := (⟨"com/example/turnstile/turnstile/server/CommandsParseCountPinLaw", "d", "(JJ)B"⟩ : MethodName)) (argsL := [(.long p), (.long (1000000 : Int64))]) (rest := [(.int (12 : Int32)), (.ref d)]) d1_144 (hw _ (List.mem_of_getElem? (i := 8) rfl)) (hw _ (List.mem_of_getElem? (i := 9) rfl)) (hw _ (List.mem_of_getElem? (i := 5) rfl)) (hw _ (List.mem_of_getElem? (i := 10) rfl)) (by decide) pd_28JJ29B rfl rfl (by decide) (Nat.le_of_ble_eq_true rfl) (by decide) (by decide) (fun z0 => rm_d l Z a0 hw [] n0 h33 z0 p (1000000 : Int64) 1000000 rfl hp (by decide) (by decide)) (fun v34 h35 qv34 => ?_)
  obtain ⟨rfl, rfl⟩ := qv34
  show W K l _ n0 _ h33 0 0 147 #[.val (.ref d), .val (.int (1 : Int32)), .val (.long p), .second] [(.int (own_d p.toInt 1000000)), (.int (12 : Int32)), (.ref d)]
  refine w_bastore ok d1_147 A_d ge_d (by decide) (Nat.le_of_ble_eq_true rfl) (fun h36 W_h36 A1_h36 => ?_)
  replace Kp := Kp.wr W_h36 (Or.inl (by simp))
  replace A_d : PA .byte Z h36 d [(.int va), (.int (own_d p.toInt 100000000000000000)), (.int (own_d p.toInt 10000000000000000)), (.int (own_d p.toInt 1000000000000000)), (.int (own_d p.toInt 100000000000000)), (.int (own_d p.toInt 10000000000000)), (.int (own_d p.toInt 1000000000000)), (.int (own_d p.toInt 100000000000)), (.int (own_d p.toInt 10000000000)), (.int (own_d p.toInt 1000000000)), (.int (own_d p.toInt 100000000)), (.int (own_d p.toInt 10000000)), (.int (nar .byte (own_d p.toInt 1000000))), (.int (0 : Int32)), (.int (0 : Int32)), (.int (0 : Int32)), (.int (0 : Int32)), (.int (0 : Int32)), (.int (0 : Int32)), (.int (0 : Int32))] := A1_h36
  rw [own_nb (by rw [own_dI]; omega) (by rw [own_dI]; omega)] at A_d
  show W K l _ n0 _ h36 0 0 148 #[.val (.ref d), .val (.int (1 : Int32)), .val (.long p), .second] []
  refine w_aloadN ok d1_148 rfl rfl ?_
  show W K l _ n0 _ h36 0 0 149 #[.val (.ref d), .val (.int (1 : Int32)), .val (.long p), .second] [(.ref d)]
  refine w_iloadN ok d1_149 rfl ?_
  show W K l _ n0 _ h36 0 0 150 #[.val (.ref d), .val (.int (1 : Int32)), .val (.long p), .second] [(.int (1 : Int32)), (.ref d)]
  refine w_bipush ok d1_150 (v := (12 : Int32)) rfl ?_
  show W K l _ n0 _ h36 0 0 152 #[.val (.ref d), .val (.int (1 : Int32)), .val (.long p), .second] [(.int (12 : Int32)), (.int (1 : Int32)), (.ref d)]
  refine w_iadd ok d1_152 ?_
  show W K l _ n0 _ h36 0 0 153 #[.val (.ref d), .val (.int (1 : Int32)), .val (.long p), .second] [(.int (13 : Int32)), (.ref d)]
  refine w_lloadN ok d1_153 rfl ?_
  show W K l _ n0 _ h36 0 0 154 #[.val (.ref d), .val (.int (1 : Int32)), .val (.long p), .second] [(.long p), (.int (13 : Int32)), (.ref d)]
  refine w_ldc2J (v := (100000 : Int64)) ok d1_154 (hw _ (List.mem_of_getElem? (i := 24) rfl)) ?_
  show W K l _ n0 _ h36 0 0 157 #[.val (.ref d), .val (.int (1 : Int32)), .val (.long p), .second] [(.long (100000 : Int64)), (.long p), (.int (13 : Int32)), (.ref d)]
  refine w_callS ok (y := (⟨"com/example/turnstile/turnstile/server/CommandsParseCountPinLaw", "d", "(JJ)B"⟩ : MethodName)) (argsL := [(.long p), (.long (100000 : Int64))]) (rest := [(.int (13 : Int32)), (.ref d)]) d1_157 (hw _ (List.mem_of_getElem? (i := 8) rfl)) (hw _ (List.mem_of_getElem? (i := 9) rfl)) (hw _ (List.mem_of_getElem? (i := 5) rfl)) (hw _ (List.mem_of_getElem? (i := 10) rfl)) (by decide) pd_28JJ29B rfl rfl (by decide) (Nat.le_of_ble_eq_true rfl) (by decide) (by decide) (fun z0 => rm_d l Z a0 hw [] n0 h36 z0 p (100000 : Int64) 100000 rfl hp (by decide) (by decide)) (fun v37 h38 qv37 => ?_)
  obtain ⟨rfl, rfl⟩ := qv37
  show W K l _ n0 _ h36 0 0 160 #[.val (.ref d), .val (.int (1 : Int32)), .val (.long p), .second] [(.int (own_d p.toInt 100000)), (.int (13 : Int32)), (.ref d)]
  refine w_bastore ok d1_160 A_d ge_d (by decide) (Nat.le_of_ble_eq_true rfl) (fun h39 W_h39 A1_h39 => ?_)
  replace Kp := Kp.wr W_h39 (Or.inl (by simp))
  replace A_d : PA .byte Z h39 d [(.int va), (.int (own_d p.toInt 100000000000000000)), (.int (own_d p.toInt 10000000000000000)), (.int (own_d p.toInt 1000000000000000)), (.int (own_d p.toInt 100000000000000)), (.int (own_d p.toInt 10000000000000)), (.int (own_d p.toInt 1000000000000)), (.int (own_d p.toInt 100000000000)), (.int (own_d p.toInt 10000000000)), (.int (own_d p.toInt 1000000000)), (.int (own_d p.toInt 100000000)), (.int (own_d p.toInt 10000000)), (.int (own_d p.toInt 1000000)), (.int (nar .byte (own_d p.toInt 100000))), (.int (0 : Int32)), (.int (0 : Int32)), (.int (0 : Int32)), (.int (0 : Int32)), (.int (0 : Int32)), (.int (0 : Int32))] := A1_h39
  rw [own_nb (by rw [own_dI]; omega) (by rw [own_dI]; omega)] at A_d
  show W K l _ n0 _ h39 0 0 161 #[.val (.ref d), .val (.int (1 : Int32)), .val (.long p), .second] []
  refine w_aloadN ok d1_161 rfl rfl ?_
  show W K l _ n0 _ h39 0 0 162 #[.val (.ref d), .val (.int (1 : Int32)), .val (.long p), .second] [(.ref d)]
  refine w_iloadN ok d1_162 rfl ?_
  show W K l _ n0 _ h39 0 0 163 #[.val (.ref d), .val (.int (1 : Int32)), .val (.long p), .second] [(.int (1 : Int32)), (.ref d)]
  refine w_bipush ok d1_163 (v := (13 : Int32)) rfl ?_
  show W K l _ n0 _ h39 0 0 165 #[.val (.ref d), .val (.int (1 : Int32)), .val (.long p), .second] [(.int (13 : Int32)), (.int (1 : Int32)), (.ref d)]
  refine w_iadd ok d1_165 ?_
  show W K l _ n0 _ h39 0 0 166 #[.val (.ref d), .val (.int (1 : Int32)), .val (.long p), .second] [(.int (14 : Int32)), (.ref d)]
  refine w_lloadN ok d1_166 rfl ?_
  show W K l _ n0 _ h39 0 0 167 #[.val (.ref d), .val (.int (1 : Int32)), .val (.long p), .second] [(.long p), (.int (14 : Int32)), (.ref d)]
  refine w_ldc2J (v := (10000 : Int64)) ok d1_167 (hw _ (List.mem_of_getElem? (i := 25) rfl)) ?_
  show W K l _ n0 _ h39 0 0 170 #[.val (.ref d), .val (.int (1 : Int32)), .val (.long p), .second] [(.long (10000 : Int64)), (.long p), (.int (14 : Int32)), (.ref d)]
  refine w_callS ok (y := (⟨"com/example/turnstile/turnstile/server/CommandsParseCountPinLaw", "d", "(JJ)B"⟩ : MethodName)) (argsL := [(.long p), (.long (10000 : Int64))]) (rest := [(.int (14 : Int32)), (.ref d)]) d1_170 (hw _ (List.mem_of_getElem? (i := 8) rfl)) (hw _ (List.mem_of_getElem? (i := 9) rfl)) (hw _ (List.mem_of_getElem? (i := 5) rfl)) (hw _ (List.mem_of_getElem? (i := 10) rfl)) (by decide) pd_28JJ29B rfl rfl (by decide) (Nat.le_of_ble_eq_true rfl) (by decide) (by decide) (fun z0 => rm_d l Z a0 hw [] n0 h39 z0 p (10000 : Int64) 10000 rfl hp (by decide) (by decide)) (fun v40 h41 qv40 => ?_)
  obtain ⟨rfl, rfl⟩ := qv40
  show W K l _ n0 _ h39 0 0 173 #[.val (.ref d), .val (.int (1 : Int32)), .val (.long p), .second] [(.int (own_d p.toInt 10000)), (.int (14 : Int32)), (.ref d)]
  refine w_bastore ok d1_173 A_d ge_d (by decide) (Nat.le_of_ble_eq_true rfl) (fun h42 W_h42 A1_h42 => ?_)
  replace Kp := Kp.wr W_h42 (Or.inl (by simp))
  replace A_d : PA .byte Z h42 d [(.int va), (.int (own_d p.toInt 100000000000000000)), (.int (own_d p.toInt 10000000000000000)), (.int (own_d p.toInt 1000000000000000)), (.int (own_d p.toInt 100000000000000)), (.int (own_d p.toInt 10000000000000)), (.int (own_d p.toInt 1000000000000)), (.int (own_d p.toInt 100000000000)), (.int (own_d p.toInt 10000000000)), (.int (own_d p.toInt 1000000000)), (.int (own_d p.toInt 100000000)), (.int (own_d p.toInt 10000000)), (.int (own_d p.toInt 1000000)), (.int (own_d p.toInt 100000)), (.int (nar .byte (own_d p.toInt 10000))), (.int (0 : Int32)), (.int (0 : Int32)), (.int (0 : Int32)), (.int (0 : Int32)), (.int (0 : Int32))] := A1_h42
  rw [own_nb (by rw [own_dI]; omega) (by rw [own_dI]; omega)] at A_d
  show W K l _ n0 _ h42 0 0 174 #[.val (.ref d), .val (.int (1 : Int32)), .val (.long p), .second] []
  refine w_aloadN ok d1_174 rfl rfl ?_
  show W K l _ n0 _ h42 0 0 175 #[.val (.ref d), .val (.int (1 : Int32)), .val (.long p), .second] [(.ref d)]
  refine w_iloadN ok d1_175 rfl ?_
  show W K l _ n0 _ h42 0 0 176 #[.val (.ref d), .val (.int (1 : Int32)), .val (.long p), .second] [(.int (1 : Int32)), (.ref d)]
  refine w_bipush ok d1_176 (v := (14 : Int32)) rfl ?_
  show W K l _ n0 _ h42 0 0 178 #[.val (.ref d), .val (.int (1 : Int32)), .val (.long p), .second] [(.int (14 : Int32)), (.int (1 : Int32)), (.ref d)]
  refine w_iadd ok d1_178 ?_
  show W K l _ n0 _ h42 0 0 179 #[.val (.ref d), .val (.int (1 : Int32)), .val (.long p), .second] [(.int (15 : Int32)), (.ref d)]
  refine w_lloadN ok d1_179 rfl ?_
  show W K l _ n0 _ h42 0 0 180 #[.val (.ref d), .val (.int (1 : Int32)), .val (.long p), .second] [(.long p), (.int (15 : Int32)), (.ref d)]
  refine w_ldc2J (v := (1000 : Int64)) ok d1_180 (hw _ (List.mem_of_getElem? (i := 26) rfl)) ?_
  show W K l _ n0 _ h42 0 0 183 #[.val (.ref d), .val (.int (1 : Int32)), .val (.long p), .second] [(.long (1000 : Int64)), (.long p), (.int (15 : Int32)), (.ref d)]
  refine w_callS ok (y := (⟨"com/example/turnstile/turnstile/server/CommandsParseCountPinLaw", "d", "(JJ)B"⟩ : MethodName)) (argsL := [(.long p), (.long (1000 : Int64))]) (rest := [(.int (15 : Int32)), (.ref d)]) d1_183 (hw _ (List.mem_of_getElem? (i := 8) rfl)) (hw _ (List.mem_of_getElem? (i := 9) rfl)) (hw _ (List.mem_of_getElem? (i := 5) rfl)) (hw _ (List.mem_of_getElem? (i := 10) rfl)) (by decide) pd_28JJ29B rfl rfl (by decide) (Nat.le_of_ble_eq_true rfl) (by decide) (by decide) (fun z0 => rm_d l Z a0 hw [] n0 h42 z0 p (1000 : Int64) 1000 rfl hp (by decide) (by decide)) (fun v43 h44 qv43 => ?_)
  obtain ⟨rfl, rfl⟩ := qv43
  show W K l _ n0 _ h42 0 0 186 #[.val (.ref d), .val (.int (1 : Int32)), .val (.long p), .second] [(.int (own_d p.toInt 1000)), (.int (15 : Int32)), (.ref d)]
  refine w_bastore ok d1_186 A_d ge_d (by decide) (Nat.le_of_ble_eq_true rfl) (fun h45 W_h45 A1_h45 => ?_)
  replace Kp := Kp.wr W_h45 (Or.inl (by simp))
  replace A_d : PA .byte Z h45 d [(.int va), (.int (own_d p.toInt 100000000000000000)), (.int (own_d p.toInt 10000000000000000)), (.int (own_d p.toInt 1000000000000000)), (.int (own_d p.toInt 100000000000000)), (.int (own_d p.toInt 10000000000000)), (.int (own_d p.toInt 1000000000000)), (.int (own_d p.toInt 100000000000)), (.int (own_d p.toInt 10000000000)), (.int (own_d p.toInt 1000000000)), (.int (own_d p.toInt 100000000)), (.int (own_d p.toInt 10000000)), (.int (own_d p.toInt 1000000)), (.int (own_d p.toInt 100000)), (.int (own_d p.toInt 10000)), (.int (nar .byte (own_d p.toInt 1000))), (.int (0 : Int32)), (.int (0 : Int32)), (.int (0 : Int32)), (.int (0 : Int32))] := A1_h45
  rw [own_nb (by rw [own_dI]; omega) (by rw [own_dI]; omega)] at A_d
  show W K l _ n0 _ h45 0 0 187 #[.val (.ref d), .val (.int (1 : Int32)), .val (.long p), .second] []
  refine w_aloadN ok d1_187 rfl rfl ?_
  show W K l _ n0 _ h45 0 0 188 #[.val (.ref d), .val (.int (1 : Int32)), .val (.long p), .second] [(.ref d)]
  refine w_iloadN ok d1_188 rfl ?_
  show W K l _ n0 _ h45 0 0 189 #[.val (.ref d), .val (.int (1 : Int32)), .val (.long p), .second] [(.int (1 : Int32)), (.ref d)]
  refine w_bipush ok d1_189 (v := (15 : Int32)) rfl ?_
  show W K l _ n0 _ h45 0 0 191 #[.val (.ref d), .val (.int (1 : Int32)), .val (.long p), .second] [(.int (15 : Int32)), (.int (1 : Int32)), (.ref d)]
  refine w_iadd ok d1_191 ?_
  show W K l _ n0 _ h45 0 0 192 #[.val (.ref d), .val (.int (1 : Int32)), .val (.long p), .second] [(.int (16 : Int32)), (.ref d)]
  refine w_lloadN ok d1_192 rfl ?_
  show W K l _ n0 _ h45 0 0 193 #[.val (.ref d), .val (.int (1 : Int32)), .val (.long p), .second] [(.long p), (.int (16 : Int32)), (.ref d)]
  refine w_ldc2J (v := (100 : Int64)) ok d1_193 (hw _ (List.mem_of_getElem? (i := 27) rfl)) ?_
  show W K l _ n0 _ h45 0 0 196 #[.val (.ref d), .val (.int (1 : Int32)), .val (.long p), .second] [(.long (100 : Int64)), (.long p), (.int (16 : Int32)), (.ref d)]
  refine w_callS ok (y := (⟨"com/example/turnstile/turnstile/server/CommandsParseCountPinLaw", "d", "(JJ)B"⟩ : MethodName)) (argsL := [(.long p), (.long (100 : Int64))]) (rest := [(.int (16 : Int32)), (.ref d)]) d1_196 (hw _ (List.mem_of_getElem? (i := 8) rfl)) (hw _ (List.mem_of_getElem? (i := 9) rfl)) (hw _ (List.mem_of_getElem? (i := 5) rfl)) (hw _ (List.mem_of_getElem? (i := 10) rfl)) (by decide) pd_28JJ29B rfl rfl (by decide) (Nat.le_of_ble_eq_true rfl) (by decide) (by decide) (fun z0 => rm_d l Z a0 hw [] n0 h45 z0 p (100 : Int64) 100 rfl hp (by decide) (by decide)) (fun v46 h47 qv46 => ?_)
  obtain ⟨rfl, rfl⟩ := qv46
  show W K l _ n0 _ h45 0 0 199 #[.val (.ref d), .val (.int (1 : Int32)), .val (.long p), .second] [(.int (own_d p.toInt 100)), (.int (16 : Int32)), (.ref d)]
  refine w_bastore ok d1_199 A_d ge_d (by decide) (Nat.le_of_ble_eq_true rfl) (fun h48 W_h48 A1_h48 => ?_)
  replace Kp := Kp.wr W_h48 (Or.inl (by simp))
  replace A_d : PA .byte Z h48 d [(.int va), (.int (own_d p.toInt 100000000000000000)), (.int (own_d p.toInt 10000000000000000)), (.int (own_d p.toInt 1000000000000000)), (.int (own_d p.toInt 100000000000000)), (.int (own_d p.toInt 10000000000000)), (.int (own_d p.toInt 1000000000000)), (.int (own_d p.toInt 100000000000)), (.int (own_d p.toInt 10000000000)), (.int (own_d p.toInt 1000000000)), (.int (own_d p.toInt 100000000)), (.int (own_d p.toInt 10000000)), (.int (own_d p.toInt 1000000)), (.int (own_d p.toInt 100000)), (.int (own_d p.toInt 10000)), (.int (own_d p.toInt 1000)), (.int (nar .byte (own_d p.toInt 100))), (.int (0 : Int32)), (.int (0 : Int32)), (.int (0 : Int32))] := A1_h48
  rw [own_nb (by rw [own_dI]; omega) (by rw [own_dI]; omega)] at A_d
  show W K l _ n0 _ h48 0 0 200 #[.val (.ref d), .val (.int (1 : Int32)), .val (.long p), .second] []
  refine w_aloadN ok d1_200 rfl rfl ?_
  show W K l _ n0 _ h48 0 0 201 #[.val (.ref d), .val (.int (1 : Int32)), .val (.long p), .second] [(.ref d)]
  refine w_iloadN ok d1_201 rfl ?_
  show W K l _ n0 _ h48 0 0 202 #[.val (.ref d), .val (.int (1 : Int32)), .val (.long p), .second] [(.int (1 : Int32)), (.ref d)]
  refine w_bipush ok d1_202 (v := (16 : Int32)) rfl ?_
  show W K l _ n0 _ h48 0 0 204 #[.val (.ref d), .val (.int (1 : Int32)), .val (.long p), .second] [(.int (16 : Int32)), (.int (1 : Int32)), (.ref d)]
  refine w_iadd ok d1_204 ?_
  show W K l _ n0 _ h48 0 0 205 #[.val (.ref d), .val (.int (1 : Int32)), .val (.long p), .second] [(.int (17 : Int32)), (.ref d)]
  refine w_lloadN ok d1_205 rfl ?_
  show W K l _ n0 _ h48 0 0 206 #[.val (.ref d), .val (.int (1 : Int32)), .val (.long p), .second] [(.long p), (.int (17 : Int32)), (.ref d)]
  refine w_ldc2J (v := (10 : Int64)) ok d1_206 (hw _ (List.mem_of_getElem? (i := 12) rfl)) ?_
  show W K l _ n0 _ h48 0 0 209 #[.val (.ref d), .val (.int (1 : Int32)), .val (.long p), .second] [(.long (10 : Int64)), (.long p), (.int (17 : Int32)), (.ref d)]
  refine w_callS ok (y := (⟨"com/example/turnstile/turnstile/server/CommandsParseCountPinLaw", "d", "(JJ)B"⟩ : MethodName)) (argsL := [(.long p), (.long (10 : Int64))]) (rest := [(.int (17 : Int32)), (.ref d)]) d1_209 (hw _ (List.mem_of_getElem? (i := 8) rfl)) (hw _ (List.mem_of_getElem? (i := 9) rfl)) (hw _ (List.mem_of_getElem? (i := 5) rfl)) (hw _ (List.mem_of_getElem? (i := 10) rfl)) (by decide) pd_28JJ29B rfl rfl (by decide) (Nat.le_of_ble_eq_true rfl) (by decide) (by decide) (fun z0 => rm_d l Z a0 hw [] n0 h48 z0 p (10 : Int64) 10 rfl hp (by decide) (by decide)) (fun v49 h50 qv49 => ?_)
  obtain ⟨rfl, rfl⟩ := qv49
  show W K l _ n0 _ h48 0 0 212 #[.val (.ref d), .val (.int (1 : Int32)), .val (.long p), .second] [(.int (own_d p.toInt 10)), (.int (17 : Int32)), (.ref d)]
  refine w_bastore ok d1_212 A_d ge_d (by decide) (Nat.le_of_ble_eq_true rfl) (fun h51 W_h51 A1_h51 => ?_)
  replace Kp := Kp.wr W_h51 (Or.inl (by simp))
  replace A_d : PA .byte Z h51 d [(.int va), (.int (own_d p.toInt 100000000000000000)), (.int (own_d p.toInt 10000000000000000)), (.int (own_d p.toInt 1000000000000000)), (.int (own_d p.toInt 100000000000000)), (.int (own_d p.toInt 10000000000000)), (.int (own_d p.toInt 1000000000000)), (.int (own_d p.toInt 100000000000)), (.int (own_d p.toInt 10000000000)), (.int (own_d p.toInt 1000000000)), (.int (own_d p.toInt 100000000)), (.int (own_d p.toInt 10000000)), (.int (own_d p.toInt 1000000)), (.int (own_d p.toInt 100000)), (.int (own_d p.toInt 10000)), (.int (own_d p.toInt 1000)), (.int (own_d p.toInt 100)), (.int (nar .byte (own_d p.toInt 10))), (.int (0 : Int32)), (.int (0 : Int32))] := A1_h51
  rw [own_nb (by rw [own_dI]; omega) (by rw [own_dI]; omega)] at A_d
  show W K l _ n0 _ h51 0 0 213 #[.val (.ref d), .val (.int (1 : Int32)), .val (.long p), .second] []
  refine w_aloadN ok d1_213 rfl rfl ?_
  show W K l _ n0 _ h51 0 0 214 #[.val (.ref d), .val (.int (1 : Int32)), .val (.long p), .second] [(.ref d)]
  refine w_iloadN ok d1_214 rfl ?_
  show W K l _ n0 _ h51 0 0 215 #[.val (.ref d), .val (.int (1 : Int32)), .val (.long p), .second] [(.int (1 : Int32)), (.ref d)]
  refine w_bipush ok d1_215 (v := (17 : Int32)) rfl ?_
  show W K l _ n0 _ h51 0 0 217 #[.val (.ref d), .val (.int (1 : Int32)), .val (.long p), .second] [(.int (17 : Int32)), (.int (1 : Int32)), (.ref d)]
  refine w_iadd ok d1_217 ?_
  show W K l _ n0 _ h51 0 0 218 #[.val (.ref d), .val (.int (1 : Int32)), .val (.long p), .second] [(.int (18 : Int32)), (.ref d)]
  refine w_lloadN ok d1_218 rfl ?_
  show W K l _ n0 _ h51 0 0 219 #[.val (.ref d), .val (.int (1 : Int32)), .val (.long p), .second] [(.long p), (.int (18 : Int32)), (.ref d)]
  refine w_lconst ok d1_219 (v := (1 : Int64)) rfl ?_
  show W K l _ n0 _ h51 0 0 220 #[.val (.ref d), .val (.int (1 : Int32)), .val (.long p), .second] [(.long (1 : Int64)), (.long p), (.int (18 : Int32)), (.ref d)]
  refine w_callS ok (y := (⟨"com/example/turnstile/turnstile/server/CommandsParseCountPinLaw", "d", "(JJ)B"⟩ : MethodName)) (argsL := [(.long p), (.long (1 : Int64))]) (rest := [(.int (18 : Int32)), (.ref d)]) d1_220 (hw _ (List.mem_of_getElem? (i := 8) rfl)) (hw _ (List.mem_of_getElem? (i := 9) rfl)) (hw _ (List.mem_of_getElem? (i := 5) rfl)) (hw _ (List.mem_of_getElem? (i := 10) rfl)) (by decide) pd_28JJ29B rfl rfl (by decide) (Nat.le_of_ble_eq_true rfl) (by decide) (by decide) (fun z0 => rm_d l Z a0 hw [] n0 h51 z0 p (1 : Int64) 1 rfl hp (by decide) (by decide)) (fun v52 h53 qv52 => ?_)
  obtain ⟨rfl, rfl⟩ := qv52
  show W K l _ n0 _ h51 0 0 223 #[.val (.ref d), .val (.int (1 : Int32)), .val (.long p), .second] [(.int (own_d p.toInt 1)), (.int (18 : Int32)), (.ref d)]
  refine w_bastore ok d1_223 A_d ge_d (by decide) (Nat.le_of_ble_eq_true rfl) (fun h54 W_h54 A1_h54 => ?_)
  replace Kp := Kp.wr W_h54 (Or.inl (by simp))
  replace A_d : PA .byte Z h54 d [(.int va), (.int (own_d p.toInt 100000000000000000)), (.int (own_d p.toInt 10000000000000000)), (.int (own_d p.toInt 1000000000000000)), (.int (own_d p.toInt 100000000000000)), (.int (own_d p.toInt 10000000000000)), (.int (own_d p.toInt 1000000000000)), (.int (own_d p.toInt 100000000000)), (.int (own_d p.toInt 10000000000)), (.int (own_d p.toInt 1000000000)), (.int (own_d p.toInt 100000000)), (.int (own_d p.toInt 10000000)), (.int (own_d p.toInt 1000000)), (.int (own_d p.toInt 100000)), (.int (own_d p.toInt 10000)), (.int (own_d p.toInt 1000)), (.int (own_d p.toInt 100)), (.int (own_d p.toInt 10)), (.int (nar .byte (own_d p.toInt 1))), (.int (0 : Int32))] := A1_h54
  rw [own_nb (by rw [own_dI]; omega) (by rw [own_dI]; omega)] at A_d
  show W K l _ n0 _ h54 0 0 224 #[.val (.ref d), .val (.int (1 : Int32)), .val (.long p), .second] []
  refine w_ret ok d1_224 (by decide) (by decide) ?_
  exact ⟨rfl, Kp, A_d⟩
def own_dig (v : Int32) : Int32 := if 48 ≤ v.toInt ∧ v.toInt ≤ 57 then 1 else 0
theorem own_dig_t {v : Int32} (h : ¬ own_dig v = 0) : 48 ≤ v.toInt ∧ v.toInt ≤ 57 := by
  unfold own_dig at h; split at h
  · assumption
  · exact absurd rfl h
theorem own_dig_f {v : Int32} (h : own_dig v = 0) : ¬ (48 ≤ v.toInt ∧ v.toInt ≤ 57) := by
  unfold own_dig at h; split at h
  · exact absurd h (by decide)
  · assumption
theorem d4_0 : decode method_3_code 0 = .ok (.iload_n 0, 1) := by decide +kernel
theorem d4_1 : decode method_3_code 1 = .ok (.bipush 48, 2) := by decide +kernel
theorem d4_3 : decode method_3_code 3 = .ok (.if_icmp .lt 13, 3) := by decide +kernel
theorem d4_6 : decode method_3_code 6 = .ok (.iload_n 0, 1) := by decide +kernel
theorem d4_7 : decode method_3_code 7 = .ok (.bipush 57, 2) := by decide +kernel
theorem d4_9 : decode method_3_code 9 = .ok (.if_icmp .gt 7, 3) := by decide +kernel
theorem d4_12 : decode method_3_code 12 = .ok (.iconst 1, 1) := by decide +kernel
theorem d4_13 : decode method_3_code 13 = .ok (.goto 4, 3) := by decide +kernel
theorem d4_16 : decode method_3_code 16 = .ok (.iconst 0, 1) := by decide +kernel
theorem d4_17 : decode method_3_code 17 = .ok (.ireturn, 1) := by decide +kernel
set_option maxRecDepth 65536 in
set_option maxHeartbeats 40000000 in
theorem rm_dig (l : Launch) (Z : State) (a0 : Array Value) (hw : ∀ d ∈ tables_1, d.before a0 Z = true) (ws : List Jvm.Cond) (n0 : Nat) (h0 : Heap) (Z0 : Old Z n0 h0) (v : Int32)  :
    Met l Z n0 (⟨"com/example/turnstile/turnstile/server/CommandsParseCountPinLaw", "dig", "(I)Z"⟩ : MethodName) method_3_code 1 (some .boolean) ws ({ frames := 0, cells := 0, slots := 0, locals := 0 } : Room) #[(.int v)] h0 (fun u h => u = some (.int (own_dig v)) ∧ h0 = h) := by
  refine met_of Z0 (plainFor_of_name pn_com_example_turnstile_turnstile_server_CommandsParseCountPinLaw) (Ls := #[.val (.int v)]) (fun m => by first | (simp [entryFrame, mkF, argsToLocals, Value.category]; done) | rfl) ?_
  intro K ok
  show W K l _ n0 _ h0 0 0 0 #[.val (.int v)] []
  refine w_iloadN ok d4_0 rfl ?_
  show W K l _ n0 _ h0 0 0 1 #[.val (.int v)] [(.int v)]
  refine w_bipush ok d4_1 (v := (48 : Int32)) rfl ?_
  show W K l _ n0 _ h0 0 0 3 #[.val (.int v)] [(.int (48 : Int32)), (.int v)]
  refine w_icmp_lt ok d4_3 (pc' := 16) (by decide) (fun hc1 => ?_) (fun hc1 => ?_)
  · show W K l _ n0 _ h0 0 0 16 #[.val (.int v)] []
    refine w_iconst ok d4_16 (v := (0 : Int32)) rfl ?_
    show W K l _ n0 _ h0 0 0 17 #[.val (.int v)] [(.int (0 : Int32))]
    refine w_bret ok (by simp) d4_17 (by decide) (by decide) ?_
    refine ⟨?_, rfl⟩
    simp only [Int32.lt_iff_toInt_lt, Int32.reduceToInt] at *
    rw [own_dig, if_neg (by omega)] <;> rfl
  · show W K l _ n0 _ h0 0 0 6 #[.val (.int v)] []
    refine w_iloadN ok d4_6 rfl ?_
    show W K l _ n0 _ h0 0 0 7 #[.val (.int v)] [(.int v)]
    refine w_bipush ok d4_7 (v := (57 : Int32)) rfl ?_
    show W K l _ n0 _ h0 0 0 9 #[.val (.int v)] [(.int (57 : Int32)), (.int v)]
    refine w_icmp_gt ok d4_9 (pc' := 16) (by decide) (fun hc3 => ?_) (fun hc3 => ?_)
    · show W K l _ n0 _ h0 0 0 16 #[.val (.int v)] []
      refine w_iconst ok d4_16 (v := (0 : Int32)) rfl ?_
      show W K l _ n0 _ h0 0 0 17 #[.val (.int v)] [(.int (0 : Int32))]
      refine w_bret ok (by simp) d4_17 (by decide) (by decide) ?_
      refine ⟨?_, rfl⟩
      simp only [Int32.lt_iff_toInt_lt, Int32.reduceToInt] at *
      rw [own_dig, if_neg (by omega)] <;> rfl
    · show W K l _ n0 _ h0 0 0 12 #[.val (.int v)] []
      refine w_iconst ok d4_12 (v := (1 : Int32)) rfl ?_
      show W K l _ n0 _ h0 0 0 13 #[.val (.int v)] [(.int (1 : Int32))]
      refine w_goto ok d4_13 (pc' := 17) (by decide) ?_
      show W K l _ n0 _ h0 0 0 17 #[.val (.int v)] [(.int (1 : Int32))]
      refine w_bret ok (by simp) d4_17 (by decide) (by decide) ?_
      refine ⟨?_, rfl⟩
      simp only [Int32.lt_iff_toInt_lt, Int32.reduceToInt] at *
      rw [own_dig, if_pos (by omega)] <;> rfl
theorem d5_0 : decode method_4_code 0 = .ok (.iload_n 2, 1) := by decide +kernel
theorem d5_1 : decode method_4_code 1 = .ok (.invokestatic 25, 3) := by decide +kernel
theorem d5_4 : decode method_4_code 4 = .ok (.ifCond .ne 7, 3) := by decide +kernel
theorem d5_7 : decode method_4_code 7 = .ok (.ldc2_w 29, 3) := by decide +kernel
theorem d5_10 : decode method_4_code 10 = .ok (.lreturn, 1) := by decide +kernel
theorem d5_11 : decode method_4_code 11 = .ok (.iload_n 2, 1) := by decide +kernel
theorem d5_12 : decode method_4_code 12 = .ok (.bipush 48, 2) := by decide +kernel
theorem d5_14 : decode method_4_code 14 = .ok (.isub, 1) := by decide +kernel
theorem d5_15 : decode method_4_code 15 = .ok (.i2l, 1) := by decide +kernel
theorem d5_16 : decode method_4_code 16 = .ok (.lstore_n 3, 1) := by decide +kernel
theorem d5_17 : decode method_4_code 17 = .ok (.ldc2_w 35, 3) := by decide +kernel
theorem d5_20 : decode method_4_code 20 = .ok (.lstore 5, 2) := by decide +kernel
theorem d5_22 : decode method_4_code 22 = .ok (.lload_n 0, 1) := by decide +kernel
theorem d5_23 : decode method_4_code 23 = .ok (.lload 5, 2) := by decide +kernel
theorem d5_25 : decode method_4_code 25 = .ok (.lcmp, 1) := by decide +kernel
theorem d5_26 : decode method_4_code 26 = .ok (.ifCond .gt 18, 3) := by decide +kernel
theorem d5_29 : decode method_4_code 29 = .ok (.lload_n 0, 1) := by decide +kernel
theorem d5_30 : decode method_4_code 30 = .ok (.lload 5, 2) := by decide +kernel
theorem d5_32 : decode method_4_code 32 = .ok (.lcmp, 1) := by decide +kernel
theorem d5_33 : decode method_4_code 33 = .ok (.ifCond .ne 15, 3) := by decide +kernel
theorem d5_36 : decode method_4_code 36 = .ok (.lload_n 3, 1) := by decide +kernel
theorem d5_37 : decode method_4_code 37 = .ok (.ldc2_w 37, 3) := by decide +kernel
theorem d5_40 : decode method_4_code 40 = .ok (.lcmp, 1) := by decide +kernel
theorem d5_41 : decode method_4_code 41 = .ok (.ifCond .le 7, 3) := by decide +kernel
theorem d5_44 : decode method_4_code 44 = .ok (.ldc2_w 29, 3) := by decide +kernel
theorem d5_47 : decode method_4_code 47 = .ok (.lreturn, 1) := by decide +kernel
theorem d5_48 : decode method_4_code 48 = .ok (.lload_n 0, 1) := by decide +kernel
theorem d5_49 : decode method_4_code 49 = .ok (.ldc2_w 39, 3) := by decide +kernel
theorem d5_52 : decode method_4_code 52 = .ok (.lmul, 1) := by decide +kernel
theorem d5_53 : decode method_4_code 53 = .ok (.lload_n 3, 1) := by decide +kernel
theorem d5_54 : decode method_4_code 54 = .ok (.ladd, 1) := by decide +kernel
theorem d5_55 : decode method_4_code 55 = .ok (.lreturn, 1) := by decide +kernel
theorem pd_28I29Z : parseMethodDescriptor "(I)Z" = some ⟨[.int], some .boolean⟩ := by decide +kernel
set_option maxRecDepth 65536 in
set_option maxHeartbeats 40000000 in
theorem rm_e19 (l : Launch) (Z : State) (a0 : Array Value) (hw : ∀ d ∈ tables_1, d.before a0 Z = true) (ws : List Jvm.Cond) (n0 : Nat) (h0 : Heap) (Z0 : Old Z n0 h0) (p : Int64) (c : Int32) (hp : 0 ≤ p.toInt) (hp2 : p.toInt < 1000000000000000000)  :
    Met l Z n0 (⟨"com/example/turnstile/turnstile/server/CommandsParseCountPinLaw", "exp19", "(JI)J"⟩ : MethodName) method_4_code 7 (some .long) ws ({ frames := 1, cells := 0, slots := 0, locals := 12 } : Room) #[(.long p), (.int c)] h0 (fun u h => ∃ z : Int64, u = some (.long z) ∧ z.toInt = own_e19 p.toInt c.toInt ∧ h0 = h) := by
  refine met_of Z0 (plainFor_of_name pn_com_example_turnstile_turnstile_server_CommandsParseCountPinLaw) (Ls := #[.val (.long p), .second, .val (.int c), .unset, .unset, .unset, .unset]) (fun m => by first | (simp [entryFrame, mkF, argsToLocals, Value.category]; done) | rfl) ?_
  intro K ok
  have a1 := c_isub c 48; have a2 := rng32 (c - 48); have a3 : (48 : Int32).toInt = 48 := rfl; have a4 := c_i2l (c - 48); have a5 := c_lmul p 10; have b1 := rng64 (p * 10); have b2 : (10 : Int64).toInt = 10 := rfl; have b3 := c_ladd (p * 10) (c - 48).toInt64; have b4 := rng64 (p * 10 + (c - 48).toInt64); have a9 := rng32 c
  rw [b2] at a5
  show W K l _ n0 _ h0 0 0 0 #[.val (.long p), .second, .val (.int c), .unset, .unset, .unset, .unset] []
  refine w_iloadN ok d5_0 rfl ?_
  show W K l _ n0 _ h0 0 0 1 #[.val (.long p), .second, .val (.int c), .unset, .unset, .unset, .unset] [(.int c)]
  refine w_callS ok (y := (⟨"com/example/turnstile/turnstile/server/CommandsParseCountPinLaw", "dig", "(I)Z"⟩ : MethodName)) (argsL := [(.int c)]) (rest := []) d5_1 (hw _ (List.mem_of_getElem? (i := 35) rfl)) (hw _ (List.mem_of_getElem? (i := 36) rfl)) (hw _ (List.mem_of_getElem? (i := 5) rfl)) (hw _ (List.mem_of_getElem? (i := 37) rfl)) (by decide) pd_28I29Z rfl rfl (by decide) (Nat.le_of_ble_eq_true rfl) (by decide) (by decide) (fun z0 => rm_dig l Z a0 hw [] n0 h0 z0 c) (fun v1 h2 qv1 => ?_)
  obtain ⟨rfl, rfl⟩ := qv1
  show W K l _ n0 _ h0 0 0 4 #[.val (.long p), .second, .val (.int c), .unset, .unset, .unset, .unset] [(.int (own_dig c))]
  refine w_if_ne ok d5_4 (pc' := 11) (by decide) (fun hc4 => ?_) (fun hc4 => ?_)
  · show W K l _ n0 _ h0 0 0 11 #[.val (.long p), .second, .val (.int c), .unset, .unset, .unset, .unset] []
    refine w_iloadN ok d5_11 rfl ?_
    show W K l _ n0 _ h0 0 0 12 #[.val (.long p), .second, .val (.int c), .unset, .unset, .unset, .unset] [(.int c)]
    refine w_bipush ok d5_12 (v := (48 : Int32)) rfl ?_
    show W K l _ n0 _ h0 0 0 14 #[.val (.long p), .second, .val (.int c), .unset, .unset, .unset, .unset] [(.int (48 : Int32)), (.int c)]
    refine w_isub ok d5_14 ?_
    show W K l _ n0 _ h0 0 0 15 #[.val (.long p), .second, .val (.int c), .unset, .unset, .unset, .unset] [(.int (c - (48 : Int32)))]
    refine w_i2l ok d5_15 ?_
    show W K l _ n0 _ h0 0 0 16 #[.val (.long p), .second, .val (.int c), .unset, .unset, .unset, .unset] [(.long ((c - (48 : Int32)).toInt64))]
    refine w_lstoreN ok d5_16 (L' := #[.val (.long p), .second, .val (.int c), .val (.long ((c - (48 : Int32)).toInt64)), .second, .unset, .unset]) rfl ?_
    show W K l _ n0 _ h0 0 0 17 #[.val (.long p), .second, .val (.int c), .val (.long ((c - (48 : Int32)).toInt64)), .second, .unset, .unset] []
    refine w_ldc2J (v := (922337203685477580 : Int64)) ok d5_17 (hw _ (List.mem_of_getElem? (i := 42) rfl)) ?_
    show W K l _ n0 _ h0 0 0 20 #[.val (.long p), .second, .val (.int c), .val (.long ((c - (48 : Int32)).toInt64)), .second, .unset, .unset] [(.long (922337203685477580 : Int64))]
    refine w_lstore ok d5_20 (L' := #[.val (.long p), .second, .val (.int c), .val (.long ((c - (48 : Int32)).toInt64)), .second, .val (.long (922337203685477580 : Int64)), .second]) rfl ?_
    show W K l _ n0 _ h0 0 0 22 #[.val (.long p), .second, .val (.int c), .val (.long ((c - (48 : Int32)).toInt64)), .second, .val (.long (922337203685477580 : Int64)), .second] []
    refine w_lloadN ok d5_22 rfl ?_
    show W K l _ n0 _ h0 0 0 23 #[.val (.long p), .second, .val (.int c), .val (.long ((c - (48 : Int32)).toInt64)), .second, .val (.long (922337203685477580 : Int64)), .second] [(.long p)]
    refine w_lload ok d5_23 rfl ?_
    show W K l _ n0 _ h0 0 0 25 #[.val (.long p), .second, .val (.int c), .val (.long ((c - (48 : Int32)).toInt64)), .second, .val (.long (922337203685477580 : Int64)), .second] [(.long (922337203685477580 : Int64)), (.long p)]
    refine w_lcmp_gt ok d5_25 d5_26 (pc' := 44) (by decide) (fun hc6 => ?_) (fun hc6 => ?_)
    · show W K l _ n0 _ h0 0 0 44 #[.val (.long p), .second, .val (.int c), .val (.long ((c - (48 : Int32)).toInt64)), .second, .val (.long (922337203685477580 : Int64)), .second] []
      refine w_ldc2J (v := (-1 : Int64)) ok d5_44 (hw _ (List.mem_of_getElem? (i := 38) rfl)) ?_
      show W K l _ n0 _ h0 0 0 47 #[.val (.long p), .second, .val (.int c), .val (.long ((c - (48 : Int32)).toInt64)), .second, .val (.long (922337203685477580 : Int64)), .second] [(.long (-1 : Int64))]
      refine w_lret ok d5_47 (by decide) (by decide) ?_
      have dg := own_dig_t hc4
      simp only [Int64.lt_iff_toInt_lt, ← Int64.toInt_inj, Int64.reduceToInt] at hc6
      refine ⟨_, rfl, ?_, rfl⟩
      rw [own_e19, if_neg (by omega)] <;> rfl
    · show W K l _ n0 _ h0 0 0 29 #[.val (.long p), .second, .val (.int c), .val (.long ((c - (48 : Int32)).toInt64)), .second, .val (.long (922337203685477580 : Int64)), .second] []
      refine w_lloadN ok d5_29 rfl ?_
      show W K l _ n0 _ h0 0 0 30 #[.val (.long p), .second, .val (.int c), .val (.long ((c - (48 : Int32)).toInt64)), .second, .val (.long (922337203685477580 : Int64)), .second] [(.long p)]
      refine w_lload ok d5_30 rfl ?_
      show W K l _ n0 _ h0 0 0 32 #[.val (.long p), .second, .val (.int c), .val (.long ((c - (48 : Int32)).toInt64)), .second, .val (.long (922337203685477580 : Int64)), .second] [(.long (922337203685477580 : Int64)), (.long p)]
      refine w_lcmp_ne ok d5_32 d5_33 (pc' := 48) (by decide) (fun hc8 => ?_) (fun hc8 => ?_)
      · show W K l _ n0 _ h0 0 0 48 #[.val (.long p), .second, .val (.int c), .val (.long ((c - (48 : Int32)).toInt64)), .second, .val (.long (922337203685477580 : Int64)), .second] []
        refine w_lloadN ok d5_48 rfl ?_
        show W K l _ n0 _ h0 0 0 49 #[.val (.long p), .second, .val (.int c), .val (.long ((c - (48 : Int32)).toInt64)), .second, .val (.long (922337203685477580 : Int64)), .second] [(.long p)]
        refine w_ldc2J (v := (10 : Int64)) ok d5_49 (hw _ (List.mem_of_getElem? (i := 12) rfl)) ?_
        show W K l _ n0 _ h0 0 0 52 #[.val (.long p), .second, .val (.int c), .val (.long ((c - (48 : Int32)).toInt64)), .second, .val (.long (922337203685477580 : Int64)), .second] [(.long (10 : Int64)), (.long p)]
        refine w_lmul ok d5_52 ?_
        show W K l _ n0 _ h0 0 0 53 #[.val (.long p), .second, .val (.int c), .val (.long ((c - (48 : Int32)).toInt64)), .second, .val (.long (922337203685477580 : Int64)), .second] [(.long (p * (10 : Int64)))]
        refine w_lloadN ok d5_53 rfl ?_
        show W K l _ n0 _ h0 0 0 54 #[.val (.long p), .second, .val (.int c), .val (.long ((c - (48 : Int32)).toInt64)), .second, .val (.long (922337203685477580 : Int64)), .second] [(.long ((c - (48 : Int32)).toInt64)), (.long (p * (10 : Int64)))]
        refine w_ladd ok d5_54 ?_
        show W K l _ n0 _ h0 0 0 55 #[.val (.long p), .second, .val (.int c), .val (.long ((c - (48 : Int32)).toInt64)), .second, .val (.long (922337203685477580 : Int64)), .second] [(.long ((p * (10 : Int64)) + ((c - (48 : Int32)).toInt64)))]
        refine w_lret ok d5_55 (by decide) (by decide) ?_
        have dg := own_dig_t hc4
        simp only [Int64.lt_iff_toInt_lt, ← Int64.toInt_inj, Int64.reduceToInt] at hc6 hc8
        refine ⟨_, rfl, ?_, rfl⟩
        rw [own_e19, if_pos (by omega)]; omega
      · show W K l _ n0 _ h0 0 0 36 #[.val (.long p), .second, .val (.int c), .val (.long ((c - (48 : Int32)).toInt64)), .second, .val (.long (922337203685477580 : Int64)), .second] []
        refine w_lloadN ok d5_36 rfl ?_
        show W K l _ n0 _ h0 0 0 37 #[.val (.long p), .second, .val (.int c), .val (.long ((c - (48 : Int32)).toInt64)), .second, .val (.long (922337203685477580 : Int64)), .second] [(.long ((c - (48 : Int32)).toInt64))]
        refine w_ldc2J (v := (7 : Int64)) ok d5_37 (hw _ (List.mem_of_getElem? (i := 43) rfl)) ?_
        show W K l _ n0 _ h0 0 0 40 #[.val (.long p), .second, .val (.int c), .val (.long ((c - (48 : Int32)).toInt64)), .second, .val (.long (922337203685477580 : Int64)), .second] [(.long (7 : Int64)), (.long ((c - (48 : Int32)).toInt64))]
        refine w_lcmp_le ok d5_40 d5_41 (pc' := 48) (by decide) (fun hc10 => ?_) (fun hc10 => ?_)
        · show W K l _ n0 _ h0 0 0 48 #[.val (.long p), .second, .val (.int c), .val (.long ((c - (48 : Int32)).toInt64)), .second, .val (.long (922337203685477580 : Int64)), .second] []
          refine w_lloadN ok d5_48 rfl ?_
          show W K l _ n0 _ h0 0 0 49 #[.val (.long p), .second, .val (.int c), .val (.long ((c - (48 : Int32)).toInt64)), .second, .val (.long (922337203685477580 : Int64)), .second] [(.long p)]
          refine w_ldc2J (v := (10 : Int64)) ok d5_49 (hw _ (List.mem_of_getElem? (i := 12) rfl)) ?_
          show W K l _ n0 _ h0 0 0 52 #[.val (.long p), .second, .val (.int c), .val (.long ((c - (48 : Int32)).toInt64)), .second, .val (.long (922337203685477580 : Int64)), .second] [(.long (10 : Int64)), (.long p)]
          refine w_lmul ok d5_52 ?_
          show W K l _ n0 _ h0 0 0 53 #[.val (.long p), .second, .val (.int c), .val (.long ((c - (48 : Int32)).toInt64)), .second, .val (.long (922337203685477580 : Int64)), .second] [(.long (p * (10 : Int64)))]
          refine w_lloadN ok d5_53 rfl ?_
          show W K l _ n0 _ h0 0 0 54 #[.val (.long p), .second, .val (.int c), .val (.long ((c - (48 : Int32)).toInt64)), .second, .val (.long (922337203685477580 : Int64)), .second] [(.long ((c - (48 : Int32)).toInt64)), (.long (p * (10 : Int64)))]
          refine w_ladd ok d5_54 ?_
          show W K l _ n0 _ h0 0 0 55 #[.val (.long p), .second, .val (.int c), .val (.long ((c - (48 : Int32)).toInt64)), .second, .val (.long (922337203685477580 : Int64)), .second] [(.long ((p * (10 : Int64)) + ((c - (48 : Int32)).toInt64)))]
          refine w_lret ok d5_55 (by decide) (by decide) ?_
          have dg := own_dig_t hc4
          simp only [Int64.lt_iff_toInt_lt, ← Int64.toInt_inj, Int64.reduceToInt] at hc6 hc8 hc10
          refine ⟨_, rfl, ?_, rfl⟩
          rw [own_e19, if_pos (by omega)]; omega
        · show W K l _ n0 _ h0 0 0 44 #[.val (.long p), .second, .val (.int c), .val (.long ((c - (48 : Int32)).toInt64)), .second, .val (.long (922337203685477580 : Int64)), .second] []
          refine w_ldc2J (v := (-1 : Int64)) ok d5_44 (hw _ (List.mem_of_getElem? (i := 38) rfl)) ?_
          show W K l _ n0 _ h0 0 0 47 #[.val (.long p), .second, .val (.int c), .val (.long ((c - (48 : Int32)).toInt64)), .second, .val (.long (922337203685477580 : Int64)), .second] [(.long (-1 : Int64))]
          refine w_lret ok d5_47 (by decide) (by decide) ?_
          have dg := own_dig_t hc4
          simp only [Int64.lt_iff_toInt_lt, ← Int64.toInt_inj, Int64.reduceToInt] at hc6 hc8 hc10
          refine ⟨_, rfl, ?_, rfl⟩
          rw [own_e19, if_neg (by omega)] <;> rfl
  · show W K l _ n0 _ h0 0 0 7 #[.val (.long p), .second, .val (.int c), .unset, .unset, .unset, .unset] []
    refine w_ldc2J (v := (-1 : Int64)) ok d5_7 (hw _ (List.mem_of_getElem? (i := 38) rfl)) ?_
    show W K l _ n0 _ h0 0 0 10 #[.val (.long p), .second, .val (.int c), .unset, .unset, .unset, .unset] [(.long (-1 : Int64))]
    refine w_lret ok d5_10 (by decide) (by decide) ?_
    have dg := own_dig_f hc4
    refine ⟨_, rfl, ?_, rfl⟩
    rw [own_e19, if_neg (by omega)] <;> rfl
abbrev Dg (v : Int32) : Prop := 48 ≤ v.toInt ∧ v.toInt ≤ 57
theorem own_r1t {a : Int32} (h : Dg a) : own_pcA [a] = a.toInt - 48 := by
  rw [own_pcA, if_neg (by simp), own_pc, own_pc, if_pos (by omega)]; omega
theorem own_r1f {a : Int32} (h : ¬ Dg a) : own_pcA [a] = -1 := by
  rw [own_pcA, if_neg (by simp), own_pc, if_neg (by omega)]
theorem own_r2t {a b : Int32} (h : Dg a) (g : Dg b) : own_pcA [a, b] = (a.toInt - 48) * 10 + (b.toInt - 48) := by
  rw [own_pcA, if_neg (by simp), own_pc, if_pos (by omega), own_pc, if_pos (by omega), own_pc]; omega
theorem own_r2a {a b : Int32} (h : ¬ Dg a) : own_pcA [a, b] = -1 := by
  rw [own_pcA, if_neg (by simp), own_pc, if_neg (by omega)]
theorem own_r2b {a b : Int32} (h : Dg a) (g : ¬ Dg b) : own_pcA [a, b] = -1 := by
  rw [own_pcA, if_neg (by simp), own_pc, if_pos (by omega), own_pc, if_neg (by omega)]
theorem own_r3t {a b c : Int32} (h : Dg a) (g : Dg b) (k : Dg c) : own_pcA [a, b, c] = (a.toInt - 48) * 100 + (b.toInt - 48) * 10 + (c.toInt - 48) := by
  rw [own_pcA, if_neg (by simp), own_pc, if_pos (by omega), own_pc, if_pos (by omega), own_pc, if_pos (by omega), own_pc]; omega
theorem own_r3a {a b c : Int32} (h : ¬ Dg a) : own_pcA [a, b, c] = -1 := by
  rw [own_pcA, if_neg (by simp), own_pc, if_neg (by omega)]
theorem own_r3b {a b c : Int32} (h : Dg a) (g : ¬ Dg b) : own_pcA [a, b, c] = -1 := by
  rw [own_pcA, if_neg (by simp), own_pc, if_pos (by omega), own_pc, if_neg (by omega)]
theorem own_r3c {a b c : Int32} (h : Dg a) (g : Dg b) (k : ¬ Dg c) : own_pcA [a, b, c] = -1 := by
  rw [own_pcA, if_neg (by simp), own_pc, if_pos (by omega), own_pc, if_pos (by omega), own_pc, if_neg (by omega)]
theorem own_48 {a : Int32} (h : ¬ a = 48) : ¬ a.toInt = 48 := fun e => h (Int32.toInt_inj.mp e)
theorem own_48' {a : Int32} (h : a = 48) : a.toInt = 48 := by rw [h]; rfl
theorem own_48n {a : Int32} (h : ¬ Dg a) : ¬ a.toInt = 48 := fun e => h ⟨by omega, by omega⟩
theorem own_pp (x : Int64) : 0 ≤ ((x &&& 9223372036854775807) % 1000000000000000000).toInt ∧ ((x &&& 9223372036854775807) % 1000000000000000000).toInt < 1000000000000000000 := by
  have h1 := c_maskL x 9223372036854775807 63 (by decide) (by decide)
  have h2 : ((x &&& 9223372036854775807) % 1000000000000000000).toInt = (x &&& 9223372036854775807).toInt % 1000000000000000000 := by rw [Int64.toInt_mod, Int.tmod_eq_emod_of_nonneg (by omega)]; rfl
  omega
theorem own_bb (z : Int32) : -128 ≤ z.toInt8.toInt32.toInt ∧ z.toInt8.toInt32.toInt < 128 := by have := c_i2b z; omega
theorem own_c1 (v : Int32) (h : -128 ≤ v.toInt ∧ v.toInt < 128) : ((v - 48).toInt64).toInt = v.toInt - 48 := by
  have a1 := c_isub v 48; have a2 := rng32 (v - 48); have a3 : (48 : Int32).toInt = 48 := rfl; rw [c_i2l]; omega
theorem own_c2 (v u : Int32) (h : -128 ≤ v.toInt ∧ v.toInt < 128) (g : -128 ≤ u.toInt ∧ u.toInt < 128) : (((v - 48) * 10 + (u - 48)).toInt64).toInt = (v.toInt - 48) * 10 + (u.toInt - 48) := by
  have a1 := c_isub v 48; have a2 := rng32 (v - 48); have a3 : (48 : Int32).toInt = 48 := rfl; have b1 := c_isub u 48; have b2 := rng32 (u - 48)
  have c1 := c_imul (v - 48) 10; have c2 := rng32 ((v - 48) * 10); have c3 : (10 : Int32).toInt = 10 := rfl; have d1 := c_iadd ((v - 48) * 10) (u - 48); have d2 := rng32 ((v - 48) * 10 + (u - 48))
  rw [c3] at c1; rw [c_i2l]; omega
theorem own_c3 (v u t : Int32) (h : -128 ≤ v.toInt ∧ v.toInt < 128) (g : -128 ≤ u.toInt ∧ u.toInt < 128) (k : -128 ≤ t.toInt ∧ t.toInt < 128) : (((v - 48) * 100 + (u - 48) * 10 + (t - 48)).toInt64).toInt = (v.toInt - 48) * 100 + (u.toInt - 48) * 10 + (t.toInt - 48) := by
  have a1 := c_isub v 48; have a2 := rng32 (v - 48); have a3 : (48 : Int32).toInt = 48 := rfl; have b1 := c_isub u 48; have b2 := rng32 (u - 48); have t1 := c_isub t 48; have t2 := rng32 (t - 48)
  have c1 := c_imul (v - 48) 100; have c2 := rng32 ((v - 48) * 100); have c3 : (100 : Int32).toInt = 100 := rfl; have e1 := c_imul (u - 48) 10; have e2 := rng32 ((u - 48) * 10); have e3 : (10 : Int32).toInt = 10 := rfl
  have d1 := c_iadd ((v - 48) * 100) ((u - 48) * 10); have d2 := rng32 ((v - 48) * 100 + (u - 48) * 10); have f1 := c_iadd ((v - 48) * 100 + (u - 48) * 10) (t - 48); have f2 := rng32 ((v - 48) * 100 + (u - 48) * 10 + (t - 48))
  rw [c3] at c1; rw [e3] at e1; rw [c_i2l]; omega
theorem pd_285bBIJ29V : parseMethodDescriptor "([BIJ)V" = some ⟨[(.array .byte), .int, .long], none⟩ := by decide +kernel
theorem pd_285bB29J : parseMethodDescriptor "([B)J" = some ⟨[(.array .byte)], some .long⟩ := by decide +kernel
theorem pd_28JI29J : parseMethodDescriptor "(JI)J" = some ⟨[.long, .int], some .long⟩ := by decide +kernel
set_option maxRecDepth 65536 in
set_option maxHeartbeats 40000000 in
theorem rm0 (l : Launch) (Z : State) (a0 : Array Value) (hw : ∀ d ∈ tables_1, d.before a0 Z = true) (ws : List Jvm.Cond) (n0 : Nat) (h0 : Heap) (Z0 : Old Z n0 h0) (xl : Int64) (a b c : Int32)  :
    Met l Z n0 x code maxLocals ret ws room_1 #[(.long xl), (.int a), (.int b), (.int c)] h0 (fun u h => u = some (.int 1)) := by
  refine met_of Z0 (plainFor_of_name pn_com_example_turnstile_turnstile_server_CommandsParseCountPinLaw) (Ls := #[.val (.long xl), .second, .val (.int a), .val (.int b), .val (.int c), .unset, .unset, .unset, .unset, .unset, .unset, .unset, .unset, .unset, .unset, .unset, .unset, .unset, .unset, .unset, .unset, .unset, .unset, .unset, .unset, .unset, .unset, .unset, .unset, .unset, .unset, .unset, .unset, .unset, .unset, .unset, .unset, .unset, .unset, .unset, .unset]) (fun m => by first | (simp [entryFrame, mkF, argsToLocals, Value.category, maxLocals]; done) | rfl) ?_
  intro K ok
  show W K l _ n0 _ h0 0 0 0 #[.val (.long xl), .second, .val (.int a), .val (.int b), .val (.int c), .unset, .unset, .unset, .unset, .unset, .unset, .unset, .unset, .unset, .unset, .unset, .unset, .unset, .unset, .unset, .unset, .unset, .unset, .unset, .unset, .unset, .unset, .unset, .unset, .unset, .unset, .unset, .unset, .unset, .unset, .unset, .unset, .unset, .unset, .unset, .unset] []
  refine w_iloadN ok at_0 rfl ?_
  show W K l _ n0 _ h0 0 0 1 #[.val (.long xl), .second, .val (.int a), .val (.int b), .val (.int c), .unset, .unset, .unset, .unset, .unset, .unset, .unset, .unset, .unset, .unset, .unset, .unset, .unset, .unset, .unset, .unset, .unset, .unset, .unset, .unset, .unset, .unset, .unset, .unset, .unset, .unset, .unset, .unset, .unset, .unset, .unset, .unset, .unset, .unset, .unset, .unset] [(.int a)]
  refine w_i2b ok at_1 ?_
  show W K l _ n0 _ h0 0 0 2 #[.val (.long xl), .second, .val (.int a), .val (.int b), .val (.int c), .unset, .unset, .unset, .unset, .unset, .unset, .unset, .unset, .unset, .unset, .unset, .unset, .unset, .unset, .unset, .unset, .unset, .unset, .unset, .unset, .unset, .unset, .unset, .unset, .unset, .unset, .unset, .unset, .unset, .unset, .unset, .unset, .unset, .unset, .unset, .unset] [(.int a.toInt8.toInt32)]
  refine w_istore ok at_2 (L' := #[.val (.long xl), .second, .val (.int a), .val (.int b), .val (.int c), .val (.int a.toInt8.toInt32), .unset, .unset, .unset, .unset, .unset, .unset, .unset, .unset, .unset, .unset, .unset, .unset, .unset, .unset, .unset, .unset, .unset, .unset, .unset, .unset, .unset, .unset, .unset, .unset, .unset, .unset, .unset, .unset, .unset, .unset, .unset, .unset, .unset, .unset, .unset]) rfl ?_
  show W K l _ n0 _ h0 0 0 4 #[.val (.long xl), .second, .val (.int a), .val (.int b), .val (.int c), .val (.int a.toInt8.toInt32), .unset, .unset, .unset, .unset, .unset, .unset, .unset, .unset, .unset, .unset, .unset, .unset, .unset, .unset, .unset, .unset, .unset, .unset, .unset, .unset, .unset, .unset, .unset, .unset, .unset, .unset, .unset, .unset, .unset, .unset, .unset, .unset, .unset, .unset, .unset] []
  refine w_iloadN ok at_4 rfl ?_
  show W K l _ n0 _ h0 0 0 5 #[.val (.long xl), .second, .val (.int a), .val (.int b), .val (.int c), .val (.int a.toInt8.toInt32), .unset, .unset, .unset, .unset, .unset, .unset, .unset, .unset, .unset, .unset, .unset, .unset, .unset, .unset, .unset, .unset, .unset, .unset, .unset, .unset, .unset, .unset, .unset, .unset, .unset, .unset, .unset, .unset, .unset, .unset, .unset, .unset, .unset, .unset, .unset] [(.int b)]
  refine w_i2b ok at_5 ?_
  show W K l _ n0 _ h0 0 0 6 #[.val (.long xl), .second, .val (.int a), .val (.int b), .val (.int c), .val (.int a.toInt8.toInt32), .unset, .unset, .unset, .unset, .unset, .unset, .unset, .unset, .unset, .unset, .unset, .unset, .unset, .unset, .unset, .unset, .unset, .unset, .unset, .unset, .unset, .unset, .unset, .unset, .unset, .unset, .unset, .unset, .unset, .unset, .unset, .unset, .unset, .unset, .unset] [(.int b.toInt8.toInt32)]
  refine w_istore ok at_6 (L' := #[.val (.long xl), .second, .val (.int a), .val (.int b), .val (.int c), .val (.int a.toInt8.toInt32), .val (.int b.toInt8.toInt32), .unset, .unset, .unset, .unset, .unset, .unset, .unset, .unset, .unset, .unset, .unset, .unset, .unset, .unset, .unset, .unset, .unset, .unset, .unset, .unset, .unset, .unset, .unset, .unset, .unset, .unset, .unset, .unset, .unset, .unset, .unset, .unset, .unset, .unset]) rfl ?_
  show W K l _ n0 _ h0 0 0 8 #[.val (.long xl), .second, .val (.int a), .val (.int b), .val (.int c), .val (.int a.toInt8.toInt32), .val (.int b.toInt8.toInt32), .unset, .unset, .unset, .unset, .unset, .unset, .unset, .unset, .unset, .unset, .unset, .unset, .unset, .unset, .unset, .unset, .unset, .unset, .unset, .unset, .unset, .unset, .unset, .unset, .unset, .unset, .unset, .unset, .unset, .unset, .unset, .unset, .unset, .unset] []
  refine w_iload ok at_8 rfl ?_
  show W K l _ n0 _ h0 0 0 10 #[.val (.long xl), .second, .val (.int a), .val (.int b), .val (.int c), .val (.int a.toInt8.toInt32), .val (.int b.toInt8.toInt32), .unset, .unset, .unset, .unset, .unset, .unset, .unset, .unset, .unset, .unset, .unset, .unset, .unset, .unset, .unset, .unset, .unset, .unset, .unset, .unset, .unset, .unset, .unset, .unset, .unset, .unset, .unset, .unset, .unset, .unset, .unset, .unset, .unset, .unset] [(.int c)]
  refine w_i2b ok at_10 ?_
  show W K l _ n0 _ h0 0 0 11 #[.val (.long xl), .second, .val (.int a), .val (.int b), .val (.int c), .val (.int a.toInt8.toInt32), .val (.int b.toInt8.toInt32), .unset, .unset, .unset, .unset, .unset, .unset, .unset, .unset, .unset, .unset, .unset, .unset, .unset, .unset, .unset, .unset, .unset, .unset, .unset, .unset, .unset, .unset, .unset, .unset, .unset, .unset, .unset, .unset, .unset, .unset, .unset, .unset, .unset, .unset] [(.int c.toInt8.toInt32)]
  refine w_istore ok at_11 (L' := #[.val (.long xl), .second, .val (.int a), .val (.int b), .val (.int c), .val (.int a.toInt8.toInt32), .val (.int b.toInt8.toInt32), .val (.int c.toInt8.toInt32), .unset, .unset, .unset, .unset, .unset, .unset, .unset, .unset, .unset, .unset, .unset, .unset, .unset, .unset, .unset, .unset, .unset, .unset, .unset, .unset, .unset, .unset, .unset, .unset, .unset, .unset, .unset, .unset, .unset, .unset, .unset, .unset, .unset]) rfl ?_
  show W K l _ n0 _ h0 0 0 13 #[.val (.long xl), .second, .val (.int a), .val (.int b), .val (.int c), .val (.int a.toInt8.toInt32), .val (.int b.toInt8.toInt32), .val (.int c.toInt8.toInt32), .unset, .unset, .unset, .unset, .unset, .unset, .unset, .unset, .unset, .unset, .unset, .unset, .unset, .unset, .unset, .unset, .unset, .unset, .unset, .unset, .unset, .unset, .unset, .unset, .unset, .unset, .unset, .unset, .unset, .unset, .unset, .unset, .unset] []
  have rva := own_bb a
  generalize a.toInt8.toInt32 = va at rva ⊢
  have rvb := own_bb b
  generalize b.toInt8.toInt32 = vb at rvb ⊢
  have rvc := own_bb c
  generalize c.toInt8.toInt32 = vc at rvc ⊢
  show W K l _ n0 _ h0 0 0 13 #[.val (.long xl), .second, .val (.int a), .val (.int b), .val (.int c), .val (.int va), .val (.int vb), .val (.int vc), .unset, .unset, .unset, .unset, .unset, .unset, .unset, .unset, .unset, .unset, .unset, .unset, .unset, .unset, .unset, .unset, .unset, .unset, .unset, .unset, .unset, .unset, .unset, .unset, .unset, .unset, .unset, .unset, .unset, .unset, .unset, .unset, .unset] []
  refine w_iload ok at_13 rfl ?_
  show W K l _ n0 _ h0 0 0 15 #[.val (.long xl), .second, .val (.int a), .val (.int b), .val (.int c), .val (.int va), .val (.int vb), .val (.int vc), .unset, .unset, .unset, .unset, .unset, .unset, .unset, .unset, .unset, .unset, .unset, .unset, .unset, .unset, .unset, .unset, .unset, .unset, .unset, .unset, .unset, .unset, .unset, .unset, .unset, .unset, .unset, .unset, .unset, .unset, .unset, .unset, .unset] [(.int va)]
  refine w_istore ok at_15 (L' := #[.val (.long xl), .second, .val (.int a), .val (.int b), .val (.int c), .val (.int va), .val (.int vb), .val (.int vc), .val (.int va), .unset, .unset, .unset, .unset, .unset, .unset, .unset, .unset, .unset, .unset, .unset, .unset, .unset, .unset, .unset, .unset, .unset, .unset, .unset, .unset, .unset, .unset, .unset, .unset, .unset, .unset, .unset, .unset, .unset, .unset, .unset, .unset]) rfl ?_
  show W K l _ n0 _ h0 0 0 17 #[.val (.long xl), .second, .val (.int a), .val (.int b), .val (.int c), .val (.int va), .val (.int vb), .val (.int vc), .val (.int va), .unset, .unset, .unset, .unset, .unset, .unset, .unset, .unset, .unset, .unset, .unset, .unset, .unset, .unset, .unset, .unset, .unset, .unset, .unset, .unset, .unset, .unset, .unset, .unset, .unset, .unset, .unset, .unset, .unset, .unset, .unset, .unset] []
  refine w_iload ok at_17 rfl ?_
  show W K l _ n0 _ h0 0 0 19 #[.val (.long xl), .second, .val (.int a), .val (.int b), .val (.int c), .val (.int va), .val (.int vb), .val (.int vc), .val (.int va), .unset, .unset, .unset, .unset, .unset, .unset, .unset, .unset, .unset, .unset, .unset, .unset, .unset, .unset, .unset, .unset, .unset, .unset, .unset, .unset, .unset, .unset, .unset, .unset, .unset, .unset, .unset, .unset, .unset, .unset, .unset, .unset] [(.int vb)]
  refine w_istore ok at_19 (L' := #[.val (.long xl), .second, .val (.int a), .val (.int b), .val (.int c), .val (.int va), .val (.int vb), .val (.int vc), .val (.int va), .val (.int vb), .unset, .unset, .unset, .unset, .unset, .unset, .unset, .unset, .unset, .unset, .unset, .unset, .unset, .unset, .unset, .unset, .unset, .unset, .unset, .unset, .unset, .unset, .unset, .unset, .unset, .unset, .unset, .unset, .unset, .unset, .unset]) rfl ?_
  show W K l _ n0 _ h0 0 0 21 #[.val (.long xl), .second, .val (.int a), .val (.int b), .val (.int c), .val (.int va), .val (.int vb), .val (.int vc), .val (.int va), .val (.int vb), .unset, .unset, .unset, .unset, .unset, .unset, .unset, .unset, .unset, .unset, .unset, .unset, .unset, .unset, .unset, .unset, .unset, .unset, .unset, .unset, .unset, .unset, .unset, .unset, .unset, .unset, .unset, .unset, .unset, .unset, .unset] []
  refine w_iload ok at_21 rfl ?_
  show W K l _ n0 _ h0 0 0 23 #[.val (.long xl), .second, .val (.int a), .val (.int b), .val (.int c), .val (.int va), .val (.int vb), .val (.int vc), .val (.int va), .val (.int vb), .unset, .unset, .unset, .unset, .unset, .unset, .unset, .unset, .unset, .unset, .unset, .unset, .unset, .unset, .unset, .unset, .unset, .unset, .unset, .unset, .unset, .unset, .unset, .unset, .unset, .unset, .unset, .unset, .unset, .unset, .unset] [(.int vc)]
  refine w_istore ok at_23 (L' := #[.val (.long xl), .second, .val (.int a), .val (.int b), .val (.int c), .val (.int va), .val (.int vb), .val (.int vc), .val (.int va), .val (.int vb), .val (.int vc), .unset, .unset, .unset, .unset, .unset, .unset, .unset, .unset, .unset, .unset, .unset, .unset, .unset, .unset, .unset, .unset, .unset, .unset, .unset, .unset, .unset, .unset, .unset, .unset, .unset, .unset, .unset, .unset, .unset, .unset]) rfl ?_
  show W K l _ n0 _ h0 0 0 25 #[.val (.long xl), .second, .val (.int a), .val (.int b), .val (.int c), .val (.int va), .val (.int vb), .val (.int vc), .val (.int va), .val (.int vb), .val (.int vc), .unset, .unset, .unset, .unset, .unset, .unset, .unset, .unset, .unset, .unset, .unset, .unset, .unset, .unset, .unset, .unset, .unset, .unset, .unset, .unset, .unset, .unset, .unset, .unset, .unset, .unset, .unset, .unset, .unset, .unset] []
  refine w_lloadN ok at_25 rfl ?_
  show W K l _ n0 _ h0 0 0 26 #[.val (.long xl), .second, .val (.int a), .val (.int b), .val (.int c), .val (.int va), .val (.int vb), .val (.int vc), .val (.int va), .val (.int vb), .val (.int vc), .unset, .unset, .unset, .unset, .unset, .unset, .unset, .unset, .unset, .unset, .unset, .unset, .unset, .unset, .unset, .unset, .unset, .unset, .unset, .unset, .unset, .unset, .unset, .unset, .unset, .unset, .unset, .unset, .unset, .unset] [(.long xl)]
  refine w_ldc2J (v := (9223372036854775807 : Int64)) ok at_26 (hw _ (List.mem_of_getElem? (i := 0) rfl)) ?_
  show W K l _ n0 _ h0 0 0 29 #[.val (.long xl), .second, .val (.int a), .val (.int b), .val (.int c), .val (.int va), .val (.int vb), .val (.int vc), .val (.int va), .val (.int vb), .val (.int vc), .unset, .unset, .unset, .unset, .unset, .unset, .unset, .unset, .unset, .unset, .unset, .unset, .unset, .unset, .unset, .unset, .unset, .unset, .unset, .unset, .unset, .unset, .unset, .unset, .unset, .unset, .unset, .unset, .unset, .unset] [(.long (9223372036854775807 : Int64)), (.long xl)]
  refine w_land ok at_29 ?_
  show W K l _ n0 _ h0 0 0 30 #[.val (.long xl), .second, .val (.int a), .val (.int b), .val (.int c), .val (.int va), .val (.int vb), .val (.int vc), .val (.int va), .val (.int vb), .val (.int vc), .unset, .unset, .unset, .unset, .unset, .unset, .unset, .unset, .unset, .unset, .unset, .unset, .unset, .unset, .unset, .unset, .unset, .unset, .unset, .unset, .unset, .unset, .unset, .unset, .unset, .unset, .unset, .unset, .unset, .unset] [(.long (xl &&& (9223372036854775807 : Int64)))]
  refine w_ldc2J (v := (1000000000000000000 : Int64)) ok at_30 (hw _ (List.mem_of_getElem? (i := 1) rfl)) ?_
  show W K l _ n0 _ h0 0 0 33 #[.val (.long xl), .second, .val (.int a), .val (.int b), .val (.int c), .val (.int va), .val (.int vb), .val (.int vc), .val (.int va), .val (.int vb), .val (.int vc), .unset, .unset, .unset, .unset, .unset, .unset, .unset, .unset, .unset, .unset, .unset, .unset, .unset, .unset, .unset, .unset, .unset, .unset, .unset, .unset, .unset, .unset, .unset, .unset, .unset, .unset, .unset, .unset, .unset, .unset] [(.long (1000000000000000000 : Int64)), (.long (xl &&& (9223372036854775807 : Int64)))]
  refine w_lrem ok at_33 (by decide) ?_
  show W K l _ n0 _ h0 0 0 34 #[.val (.long xl), .second, .val (.int a), .val (.int b), .val (.int c), .val (.int va), .val (.int vb), .val (.int vc), .val (.int va), .val (.int vb), .val (.int vc), .unset, .unset, .unset, .unset, .unset, .unset, .unset, .unset, .unset, .unset, .unset, .unset, .unset, .unset, .unset, .unset, .unset, .unset, .unset, .unset, .unset, .unset, .unset, .unset, .unset, .unset, .unset, .unset, .unset, .unset] [(.long ((xl &&& (9223372036854775807 : Int64)) % (1000000000000000000 : Int64)))]
  refine w_lstore ok at_34 (L' := #[.val (.long xl), .second, .val (.int a), .val (.int b), .val (.int c), .val (.int va), .val (.int vb), .val (.int vc), .val (.int va), .val (.int vb), .val (.int vc), .val (.long ((xl &&& (9223372036854775807 : Int64)) % (1000000000000000000 : Int64))), .second, .unset, .unset, .unset, .unset, .unset, .unset, .unset, .unset, .unset, .unset, .unset, .unset, .unset, .unset, .unset, .unset, .unset, .unset, .unset, .unset, .unset, .unset, .unset, .unset, .unset, .unset, .unset, .unset]) rfl ?_
  show W K l _ n0 _ h0 0 0 36 #[.val (.long xl), .second, .val (.int a), .val (.int b), .val (.int c), .val (.int va), .val (.int vb), .val (.int vc), .val (.int va), .val (.int vb), .val (.int vc), .val (.long ((xl &&& (9223372036854775807 : Int64)) % (1000000000000000000 : Int64))), .second, .unset, .unset, .unset, .unset, .unset, .unset, .unset, .unset, .unset, .unset, .unset, .unset, .unset, .unset, .unset, .unset, .unset, .unset, .unset, .unset, .unset, .unset, .unset, .unset, .unset, .unset, .unset, .unset] []
  obtain ⟨hp0, hp2⟩ := own_pp xl
  generalize (xl &&& (9223372036854775807 : Int64)) % (1000000000000000000 : Int64) = p at hp0 hp2 ⊢
  show W K l _ n0 _ h0 0 0 36 #[.val (.long xl), .second, .val (.int a), .val (.int b), .val (.int c), .val (.int va), .val (.int vb), .val (.int vc), .val (.int va), .val (.int vb), .val (.int vc), .val (.long p), .second, .unset, .unset, .unset, .unset, .unset, .unset, .unset, .unset, .unset, .unset, .unset, .unset, .unset, .unset, .unset, .unset, .unset, .unset, .unset, .unset, .unset, .unset, .unset, .unset, .unset, .unset, .unset, .unset] []
  refine w_iconst ok at_36 (v := (0 : Int32)) rfl ?_
  show W K l _ n0 _ h0 0 0 37 #[.val (.long xl), .second, .val (.int a), .val (.int b), .val (.int c), .val (.int va), .val (.int vb), .val (.int vc), .val (.int va), .val (.int vb), .val (.int vc), .val (.long p), .second, .unset, .unset, .unset, .unset, .unset, .unset, .unset, .unset, .unset, .unset, .unset, .unset, .unset, .unset, .unset, .unset, .unset, .unset, .unset, .unset, .unset, .unset, .unset, .unset, .unset, .unset, .unset, .unset] [(.int (0 : Int32))]
  refine w_newarray ok at_37 (hw _ (List.mem_of_getElem? (i := 2) rfl)) (by decide) (cap := 0) (by decide) (by decide) (by decide) (by decide) (fun h2 b1 ea_b1 ge_b1 E_b1 A_b1 => ?_)
  replace A_b1 : PA .byte Z h2 b1 [] := A_b1
  show W K l _ n0 _ h2 1 0 39 #[.val (.long xl), .second, .val (.int a), .val (.int b), .val (.int c), .val (.int va), .val (.int vb), .val (.int vc), .val (.int va), .val (.int vb), .val (.int vc), .val (.long p), .second, .unset, .unset, .unset, .unset, .unset, .unset, .unset, .unset, .unset, .unset, .unset, .unset, .unset, .unset, .unset, .unset, .unset, .unset, .unset, .unset, .unset, .unset, .unset, .unset, .unset, .unset, .unset, .unset] [(.ref b1)]
  refine w_astore ok at_39 rfl (L' := #[.val (.long xl), .second, .val (.int a), .val (.int b), .val (.int c), .val (.int va), .val (.int vb), .val (.int vc), .val (.int va), .val (.int vb), .val (.int vc), .val (.long p), .second, .val (.ref b1), .unset, .unset, .unset, .unset, .unset, .unset, .unset, .unset, .unset, .unset, .unset, .unset, .unset, .unset, .unset, .unset, .unset, .unset, .unset, .unset, .unset, .unset, .unset, .unset, .unset, .unset, .unset]) rfl ?_
  show W K l _ n0 _ h2 1 0 41 #[.val (.long xl), .second, .val (.int a), .val (.int b), .val (.int c), .val (.int va), .val (.int vb), .val (.int vc), .val (.int va), .val (.int vb), .val (.int vc), .val (.long p), .second, .val (.ref b1), .unset, .unset, .unset, .unset, .unset, .unset, .unset, .unset, .unset, .unset, .unset, .unset, .unset, .unset, .unset, .unset, .unset, .unset, .unset, .unset, .unset, .unset, .unset, .unset, .unset, .unset, .unset] []
  refine w_iconst ok at_41 (v := (1 : Int32)) rfl ?_
  show W K l _ n0 _ h2 1 0 42 #[.val (.long xl), .second, .val (.int a), .val (.int b), .val (.int c), .val (.int va), .val (.int vb), .val (.int vc), .val (.int va), .val (.int vb), .val (.int vc), .val (.long p), .second, .val (.ref b1), .unset, .unset, .unset, .unset, .unset, .unset, .unset, .unset, .unset, .unset, .unset, .unset, .unset, .unset, .unset, .unset, .unset, .unset, .unset, .unset, .unset, .unset, .unset, .unset, .unset, .unset, .unset] [(.int (1 : Int32))]
  refine w_newarray ok at_42 (hw _ (List.mem_of_getElem? (i := 2) rfl)) (by decide) (cap := 1) (by decide) (by decide) (by decide) (by decide) (fun h4 b3 ea_b3 ge_b3 E_b3 A_b3 => ?_)
  have ne_b1_b3 : b1 ≠ b3 := fun q => Nat.lt_irrefl _ (Nat.lt_of_lt_of_eq A_b1.lt (ea_b3.symm.trans q.symm))
  replace A_b1 := A_b1.ext E_b3
  replace A_b3 : PA .byte Z h4 b3 [(.int (0 : Int32))] := A_b3
  show W K l _ n0 _ h4 2 1 44 #[.val (.long xl), .second, .val (.int a), .val (.int b), .val (.int c), .val (.int va), .val (.int vb), .val (.int vc), .val (.int va), .val (.int vb), .val (.int vc), .val (.long p), .second, .val (.ref b1), .unset, .unset, .unset, .unset, .unset, .unset, .unset, .unset, .unset, .unset, .unset, .unset, .unset, .unset, .unset, .unset, .unset, .unset, .unset, .unset, .unset, .unset, .unset, .unset, .unset, .unset, .unset] [(.ref b3)]
  refine w_dup ok at_44 rfl ?_
  show W K l _ n0 _ h4 2 1 45 #[.val (.long xl), .second, .val (.int a), .val (.int b), .val (.int c), .val (.int va), .val (.int vb), .val (.int vc), .val (.int va), .val (.int vb), .val (.int vc), .val (.long p), .second, .val (.ref b1), .unset, .unset, .unset, .unset, .unset, .unset, .unset, .unset, .unset, .unset, .unset, .unset, .unset, .unset, .unset, .unset, .unset, .unset, .unset, .unset, .unset, .unset, .unset, .unset, .unset, .unset, .unset] [(.ref b3), (.ref b3)]
  refine w_iconst ok at_45 (v := (0 : Int32)) rfl ?_
  show W K l _ n0 _ h4 2 1 46 #[.val (.long xl), .second, .val (.int a), .val (.int b), .val (.int c), .val (.int va), .val (.int vb), .val (.int vc), .val (.int va), .val (.int vb), .val (.int vc), .val (.long p), .second, .val (.ref b1), .unset, .unset, .unset, .unset, .unset, .unset, .unset, .unset, .unset, .unset, .unset, .unset, .unset, .unset, .unset, .unset, .unset, .unset, .unset, .unset, .unset, .unset, .unset, .unset, .unset, .unset, .unset] [(.int (0 : Int32)), (.ref b3), (.ref b3)]
  refine w_iload ok at_46 rfl ?_
  show W K l _ n0 _ h4 2 1 48 #[.val (.long xl), .second, .val (.int a), .val (.int b), .val (.int c), .val (.int va), .val (.int vb), .val (.int vc), .val (.int va), .val (.int vb), .val (.int vc), .val (.long p), .second, .val (.ref b1), .unset, .unset, .unset, .unset, .unset, .unset, .unset, .unset, .unset, .unset, .unset, .unset, .unset, .unset, .unset, .unset, .unset, .unset, .unset, .unset, .unset, .unset, .unset, .unset, .unset, .unset, .unset] [(.int va), (.int (0 : Int32)), (.ref b3), (.ref b3)]
  refine w_bastore ok at_48 A_b3 ge_b3 (by decide) (Nat.le_of_ble_eq_true rfl) (fun h5 W_h5 A1_h5 => ?_)
  replace A_b1 := A_b1.other W_h5 ne_b1_b3
  replace A_b3 : PA .byte Z h5 b3 [(.int (nar .byte va))] := A1_h5
  rw [own_nb rva.1 rva.2] at A_b3
  show W K l _ n0 _ h5 2 1 49 #[.val (.long xl), .second, .val (.int a), .val (.int b), .val (.int c), .val (.int va), .val (.int vb), .val (.int vc), .val (.int va), .val (.int vb), .val (.int vc), .val (.long p), .second, .val (.ref b1), .unset, .unset, .unset, .unset, .unset, .unset, .unset, .unset, .unset, .unset, .unset, .unset, .unset, .unset, .unset, .unset, .unset, .unset, .unset, .unset, .unset, .unset, .unset, .unset, .unset, .unset, .unset] [(.ref b3)]
  refine w_astore ok at_49 rfl (L' := #[.val (.long xl), .second, .val (.int a), .val (.int b), .val (.int c), .val (.int va), .val (.int vb), .val (.int vc), .val (.int va), .val (.int vb), .val (.int vc), .val (.long p), .second, .val (.ref b1), .val (.ref b3), .unset, .unset, .unset, .unset, .unset, .unset, .unset, .unset, .unset, .unset, .unset, .unset, .unset, .unset, .unset, .unset, .unset, .unset, .unset, .unset, .unset, .unset, .unset, .unset, .unset, .unset]) rfl ?_
  show W K l _ n0 _ h5 2 1 51 #[.val (.long xl), .second, .val (.int a), .val (.int b), .val (.int c), .val (.int va), .val (.int vb), .val (.int vc), .val (.int va), .val (.int vb), .val (.int vc), .val (.long p), .second, .val (.ref b1), .val (.ref b3), .unset, .unset, .unset, .unset, .unset, .unset, .unset, .unset, .unset, .unset, .unset, .unset, .unset, .unset, .unset, .unset, .unset, .unset, .unset, .unset, .unset, .unset, .unset, .unset, .unset, .unset] []
  refine w_iconst ok at_51 (v := (2 : Int32)) rfl ?_
  show W K l _ n0 _ h5 2 1 52 #[.val (.long xl), .second, .val (.int a), .val (.int b), .val (.int c), .val (.int va), .val (.int vb), .val (.int vc), .val (.int va), .val (.int vb), .val (.int vc), .val (.long p), .second, .val (.ref b1), .val (.ref b3), .unset, .unset, .unset, .unset, .unset, .unset, .unset, .unset, .unset, .unset, .unset, .unset, .unset, .unset, .unset, .unset, .unset, .unset, .unset, .unset, .unset, .unset, .unset, .unset, .unset, .unset] [(.int (2 : Int32))]
  refine w_newarray ok at_52 (hw _ (List.mem_of_getElem? (i := 2) rfl)) (by decide) (cap := 2) (by decide) (by decide) (by decide) (by decide) (fun h7 b6 ea_b6 ge_b6 E_b6 A_b6 => ?_)
  have ne_b1_b6 : b1 ≠ b6 := fun q => Nat.lt_irrefl _ (Nat.lt_of_lt_of_eq A_b1.lt (ea_b6.symm.trans q.symm))
  have ne_b3_b6 : b3 ≠ b6 := fun q => Nat.lt_irrefl _ (Nat.lt_of_lt_of_eq A_b3.lt (ea_b6.symm.trans q.symm))
  replace A_b1 := A_b1.ext E_b6
  replace A_b3 := A_b3.ext E_b6
  replace A_b6 : PA .byte Z h7 b6 [(.int (0 : Int32)), (.int (0 : Int32))] := A_b6
  show W K l _ n0 _ h7 3 3 54 #[.val (.long xl), .second, .val (.int a), .val (.int b), .val (.int c), .val (.int va), .val (.int vb), .val (.int vc), .val (.int va), .val (.int vb), .val (.int vc), .val (.long p), .second, .val (.ref b1), .val (.ref b3), .unset, .unset, .unset, .unset, .unset, .unset, .unset, .unset, .unset, .unset, .unset, .unset, .unset, .unset, .unset, .unset, .unset, .unset, .unset, .unset, .unset, .unset, .unset, .unset, .unset, .unset] [(.ref b6)]
  refine w_dup ok at_54 rfl ?_
  show W K l _ n0 _ h7 3 3 55 #[.val (.long xl), .second, .val (.int a), .val (.int b), .val (.int c), .val (.int va), .val (.int vb), .val (.int vc), .val (.int va), .val (.int vb), .val (.int vc), .val (.long p), .second, .val (.ref b1), .val (.ref b3), .unset, .unset, .unset, .unset, .unset, .unset, .unset, .unset, .unset, .unset, .unset, .unset, .unset, .unset, .unset, .unset, .unset, .unset, .unset, .unset, .unset, .unset, .unset, .unset, .unset, .unset] [(.ref b6), (.ref b6)]
  refine w_iconst ok at_55 (v := (0 : Int32)) rfl ?_
  show W K l _ n0 _ h7 3 3 56 #[.val (.long xl), .second, .val (.int a), .val (.int b), .val (.int c), .val (.int va), .val (.int vb), .val (.int vc), .val (.int va), .val (.int vb), .val (.int vc), .val (.long p), .second, .val (.ref b1), .val (.ref b3), .unset, .unset, .unset, .unset, .unset, .unset, .unset, .unset, .unset, .unset, .unset, .unset, .unset, .unset, .unset, .unset, .unset, .unset, .unset, .unset, .unset, .unset, .unset, .unset, .unset, .unset] [(.int (0 : Int32)), (.ref b6), (.ref b6)]
  refine w_iload ok at_56 rfl ?_
  show W K l _ n0 _ h7 3 3 58 #[.val (.long xl), .second, .val (.int a), .val (.int b), .val (.int c), .val (.int va), .val (.int vb), .val (.int vc), .val (.int va), .val (.int vb), .val (.int vc), .val (.long p), .second, .val (.ref b1), .val (.ref b3), .unset, .unset, .unset, .unset, .unset, .unset, .unset, .unset, .unset, .unset, .unset, .unset, .unset, .unset, .unset, .unset, .unset, .unset, .unset, .unset, .unset, .unset, .unset, .unset, .unset, .unset] [(.int va), (.int (0 : Int32)), (.ref b6), (.ref b6)]
  refine w_bastore ok at_58 A_b6 ge_b6 (by decide) (Nat.le_of_ble_eq_true rfl) (fun h8 W_h8 A1_h8 => ?_)
  replace A_b1 := A_b1.other W_h8 ne_b1_b6
  replace A_b3 := A_b3.other W_h8 ne_b3_b6
  replace A_b6 : PA .byte Z h8 b6 [(.int (nar .byte va)), (.int (0 : Int32))] := A1_h8
  rw [own_nb rva.1 rva.2] at A_b6
  show W K l _ n0 _ h8 3 3 59 #[.val (.long xl), .second, .val (.int a), .val (.int b), .val (.int c), .val (.int va), .val (.int vb), .val (.int vc), .val (.int va), .val (.int vb), .val (.int vc), .val (.long p), .second, .val (.ref b1), .val (.ref b3), .unset, .unset, .unset, .unset, .unset, .unset, .unset, .unset, .unset, .unset, .unset, .unset, .unset, .unset, .unset, .unset, .unset, .unset, .unset, .unset, .unset, .unset, .unset, .unset, .unset, .unset] [(.ref b6)]
  refine w_dup ok at_59 rfl ?_
  show W K l _ n0 _ h8 3 3 60 #[.val (.long xl), .second, .val (.int a), .val (.int b), .val (.int c), .val (.int va), .val (.int vb), .val (.int vc), .val (.int va), .val (.int vb), .val (.int vc), .val (.long p), .second, .val (.ref b1), .val (.ref b3), .unset, .unset, .unset, .unset, .unset, .unset, .unset, .unset, .unset, .unset, .unset, .unset, .unset, .unset, .unset, .unset, .unset, .unset, .unset, .unset, .unset, .unset, .unset, .unset, .unset, .unset] [(.ref b6), (.ref b6)]
  refine w_iconst ok at_60 (v := (1 : Int32)) rfl ?_
  show W K l _ n0 _ h8 3 3 61 #[.val (.long xl), .second, .val (.int a), .val (.int b), .val (.int c), .val (.int va), .val (.int vb), .val (.int vc), .val (.int va), .val (.int vb), .val (.int vc), .val (.long p), .second, .val (.ref b1), .val (.ref b3), .unset, .unset, .unset, .unset, .unset, .unset, .unset, .unset, .unset, .unset, .unset, .unset, .unset, .unset, .unset, .unset, .unset, .unset, .unset, .unset, .unset, .unset, .unset, .unset, .unset, .unset] [(.int (1 : Int32)), (.ref b6), (.ref b6)]
  refine w_iload ok at_61 rfl ?_
  show W K l _ n0 _ h8 3 3 63 #[.val (.long xl), .second, .val (.int a), .val (.int b), .val (.int c), .val (.int va), .val (.int vb), .val (.int vc), .val (.int va), .val (.int vb), .val (.int vc), .val (.long p), .second, .val (.ref b1), .val (.ref b3), .unset, .unset, .unset, .unset, .unset, .unset, .unset, .unset, .unset, .unset, .unset, .unset, .unset, .unset, .unset, .unset, .unset, .unset, .unset, .unset, .unset, .unset, .unset, .unset, .unset, .unset] [(.int vb), (.int (1 : Int32)), (.ref b6), (.ref b6)]
  refine w_bastore ok at_63 A_b6 ge_b6 (by decide) (Nat.le_of_ble_eq_true rfl) (fun h9 W_h9 A1_h9 => ?_)
  replace A_b1 := A_b1.other W_h9 ne_b1_b6
  replace A_b3 := A_b3.other W_h9 ne_b3_b6
  replace A_b6 : PA .byte Z h9 b6 [(.int va), (.int (nar .byte vb))] := A1_h9
  rw [own_nb rvb.1 rvb.2] at A_b6
  show W K l _ n0 _ h9 3 3 64 #[.val (.long xl), .second, .val (.int a), .val (.int b), .val (.int c), .val (.int va), .val (.int vb), .val (.int vc), .val (.int va), .val (.int vb), .val (.int vc), .val (.long p), .second, .val (.ref b1), .val (.ref b3), .unset, .unset, .unset, .unset, .unset, .unset, .unset, .unset, .unset, .unset, .unset, .unset, .unset, .unset, .unset, .unset, .unset, .unset, .unset, .unset, .unset, .unset, .unset, .unset, .unset, .unset] [(.ref b6)]
  refine w_astore ok at_64 rfl (L' := #[.val (.long xl), .second, .val (.int a), .val (.int b), .val (.int c), .val (.int va), .val (.int vb), .val (.int vc), .val (.int va), .val (.int vb), .val (.int vc), .val (.long p), .second, .val (.ref b1), .val (.ref b3), .val (.ref b6), .unset, .unset, .unset, .unset, .unset, .unset, .unset, .unset, .unset, .unset, .unset, .unset, .unset, .unset, .unset, .unset, .unset, .unset, .unset, .unset, .unset, .unset, .unset, .unset, .unset]) rfl ?_
  show W K l _ n0 _ h9 3 3 66 #[.val (.long xl), .second, .val (.int a), .val (.int b), .val (.int c), .val (.int va), .val (.int vb), .val (.int vc), .val (.int va), .val (.int vb), .val (.int vc), .val (.long p), .second, .val (.ref b1), .val (.ref b3), .val (.ref b6), .unset, .unset, .unset, .unset, .unset, .unset, .unset, .unset, .unset, .unset, .unset, .unset, .unset, .unset, .unset, .unset, .unset, .unset, .unset, .unset, .unset, .unset, .unset, .unset, .unset] []
  refine w_iconst ok at_66 (v := (3 : Int32)) rfl ?_
  show W K l _ n0 _ h9 3 3 67 #[.val (.long xl), .second, .val (.int a), .val (.int b), .val (.int c), .val (.int va), .val (.int vb), .val (.int vc), .val (.int va), .val (.int vb), .val (.int vc), .val (.long p), .second, .val (.ref b1), .val (.ref b3), .val (.ref b6), .unset, .unset, .unset, .unset, .unset, .unset, .unset, .unset, .unset, .unset, .unset, .unset, .unset, .unset, .unset, .unset, .unset, .unset, .unset, .unset, .unset, .unset, .unset, .unset, .unset] [(.int (3 : Int32))]
  refine w_newarray ok at_67 (hw _ (List.mem_of_getElem? (i := 2) rfl)) (by decide) (cap := 3) (by decide) (by decide) (by decide) (by decide) (fun h11 b10 ea_b10 ge_b10 E_b10 A_b10 => ?_)
  have ne_b1_b10 : b1 ≠ b10 := fun q => Nat.lt_irrefl _ (Nat.lt_of_lt_of_eq A_b1.lt (ea_b10.symm.trans q.symm))
  have ne_b3_b10 : b3 ≠ b10 := fun q => Nat.lt_irrefl _ (Nat.lt_of_lt_of_eq A_b3.lt (ea_b10.symm.trans q.symm))
  have ne_b6_b10 : b6 ≠ b10 := fun q => Nat.lt_irrefl _ (Nat.lt_of_lt_of_eq A_b6.lt (ea_b10.symm.trans q.symm))
  replace A_b1 := A_b1.ext E_b10
  replace A_b3 := A_b3.ext E_b10
  replace A_b6 := A_b6.ext E_b10
  replace A_b10 : PA .byte Z h11 b10 [(.int (0 : Int32)), (.int (0 : Int32)), (.int (0 : Int32))] := A_b10
  show W K l _ n0 _ h11 4 6 69 #[.val (.long xl), .second, .val (.int a), .val (.int b), .val (.int c), .val (.int va), .val (.int vb), .val (.int vc), .val (.int va), .val (.int vb), .val (.int vc), .val (.long p), .second, .val (.ref b1), .val (.ref b3), .val (.ref b6), .unset, .unset, .unset, .unset, .unset, .unset, .unset, .unset, .unset, .unset, .unset, .unset, .unset, .unset, .unset, .unset, .unset, .unset, .unset, .unset, .unset, .unset, .unset, .unset, .unset] [(.ref b10)]
  refine w_dup ok at_69 rfl ?_
  show W K l _ n0 _ h11 4 6 70 #[.val (.long xl), .second, .val (.int a), .val (.int b), .val (.int c), .val (.int va), .val (.int vb), .val (.int vc), .val (.int va), .val (.int vb), .val (.int vc), .val (.long p), .second, .val (.ref b1), .val (.ref b3), .val (.ref b6), .unset, .unset, .unset, .unset, .unset, .unset, .unset, .unset, .unset, .unset, .unset, .unset, .unset, .unset, .unset, .unset, .unset, .unset, .unset, .unset, .unset, .unset, .unset, .unset, .unset] [(.ref b10), (.ref b10)]
  refine w_iconst ok at_70 (v := (0 : Int32)) rfl ?_
  show W K l _ n0 _ h11 4 6 71 #[.val (.long xl), .second, .val (.int a), .val (.int b), .val (.int c), .val (.int va), .val (.int vb), .val (.int vc), .val (.int va), .val (.int vb), .val (.int vc), .val (.long p), .second, .val (.ref b1), .val (.ref b3), .val (.ref b6), .unset, .unset, .unset, .unset, .unset, .unset, .unset, .unset, .unset, .unset, .unset, .unset, .unset, .unset, .unset, .unset, .unset, .unset, .unset, .unset, .unset, .unset, .unset, .unset, .unset] [(.int (0 : Int32)), (.ref b10), (.ref b10)]
  refine w_iload ok at_71 rfl ?_
  show W K l _ n0 _ h11 4 6 73 #[.val (.long xl), .second, .val (.int a), .val (.int b), .val (.int c), .val (.int va), .val (.int vb), .val (.int vc), .val (.int va), .val (.int vb), .val (.int vc), .val (.long p), .second, .val (.ref b1), .val (.ref b3), .val (.ref b6), .unset, .unset, .unset, .unset, .unset, .unset, .unset, .unset, .unset, .unset, .unset, .unset, .unset, .unset, .unset, .unset, .unset, .unset, .unset, .unset, .unset, .unset, .unset, .unset, .unset] [(.int va), (.int (0 : Int32)), (.ref b10), (.ref b10)]
  refine w_bastore ok at_73 A_b10 ge_b10 (by decide) (Nat.le_of_ble_eq_true rfl) (fun h12 W_h12 A1_h12 => ?_)
  replace A_b1 := A_b1.other W_h12 ne_b1_b10
  replace A_b3 := A_b3.other W_h12 ne_b3_b10
  replace A_b6 := A_b6.other W_h12 ne_b6_b10
  replace A_b10 : PA .byte Z h12 b10 [(.int (nar .byte va)), (.int (0 : Int32)), (.int (0 : Int32))] := A1_h12
  rw [own_nb rva.1 rva.2] at A_b10
  show W K l _ n0 _ h12 4 6 74 #[.val (.long xl), .second, .val (.int a), .val (.int b), .val (.int c), .val (.int va), .val (.int vb), .val (.int vc), .val (.int va), .val (.int vb), .val (.int vc), .val (.long p), .second, .val (.ref b1), .val (.ref b3), .val (.ref b6), .unset, .unset, .unset, .unset, .unset, .unset, .unset, .unset, .unset, .unset, .unset, .unset, .unset, .unset, .unset, .unset, .unset, .unset, .unset, .unset, .unset, .unset, .unset, .unset, .unset] [(.ref b10)]
  refine w_dup ok at_74 rfl ?_
  show W K l _ n0 _ h12 4 6 75 #[.val (.long xl), .second, .val (.int a), .val (.int b), .val (.int c), .val (.int va), .val (.int vb), .val (.int vc), .val (.int va), .val (.int vb), .val (.int vc), .val (.long p), .second, .val (.ref b1), .val (.ref b3), .val (.ref b6), .unset, .unset, .unset, .unset, .unset, .unset, .unset, .unset, .unset, .unset, .unset, .unset, .unset, .unset, .unset, .unset, .unset, .unset, .unset, .unset, .unset, .unset, .unset, .unset, .unset] [(.ref b10), (.ref b10)]
  refine w_iconst ok at_75 (v := (1 : Int32)) rfl ?_
  show W K l _ n0 _ h12 4 6 76 #[.val (.long xl), .second, .val (.int a), .val (.int b), .val (.int c), .val (.int va), .val (.int vb), .val (.int vc), .val (.int va), .val (.int vb), .val (.int vc), .val (.long p), .second, .val (.ref b1), .val (.ref b3), .val (.ref b6), .unset, .unset, .unset, .unset, .unset, .unset, .unset, .unset, .unset, .unset, .unset, .unset, .unset, .unset, .unset, .unset, .unset, .unset, .unset, .unset, .unset, .unset, .unset, .unset, .unset] [(.int (1 : Int32)), (.ref b10), (.ref b10)]
  refine w_iload ok at_76 rfl ?_
  show W K l _ n0 _ h12 4 6 78 #[.val (.long xl), .second, .val (.int a), .val (.int b), .val (.int c), .val (.int va), .val (.int vb), .val (.int vc), .val (.int va), .val (.int vb), .val (.int vc), .val (.long p), .second, .val (.ref b1), .val (.ref b3), .val (.ref b6), .unset, .unset, .unset, .unset, .unset, .unset, .unset, .unset, .unset, .unset, .unset, .unset, .unset, .unset, .unset, .unset, .unset, .unset, .unset, .unset, .unset, .unset, .unset, .unset, .unset] [(.int vb), (.int (1 : Int32)), (.ref b10), (.ref b10)]
  refine w_bastore ok at_78 A_b10 ge_b10 (by decide) (Nat.le_of_ble_eq_true rfl) (fun h13 W_h13 A1_h13 => ?_)
  replace A_b1 := A_b1.other W_h13 ne_b1_b10
  replace A_b3 := A_b3.other W_h13 ne_b3_b10
  replace A_b6 := A_b6.other W_h13 ne_b6_b10
  replace A_b10 : PA .byte Z h13 b10 [(.int va), (.int (nar .byte vb)), (.int (0 : Int32))] := A1_h13
  rw [own_nb rvb.1 rvb.2] at A_b10
  show W K l _ n0 _ h13 4 6 79 #[.val (.long xl), .second, .val (.int a), .val (.int b), .val (.int c), .val (.int va), .val (.int vb), .val (.int vc), .val (.int va), .val (.int vb), .val (.int vc), .val (.long p), .second, .val (.ref b1), .val (.ref b3), .val (.ref b6), .unset, .unset, .unset, .unset, .unset, .unset, .unset, .unset, .unset, .unset, .unset, .unset, .unset, .unset, .unset, .unset, .unset, .unset, .unset, .unset, .unset, .unset, .unset, .unset, .unset] [(.ref b10)]
  refine w_dup ok at_79 rfl ?_
  show W K l _ n0 _ h13 4 6 80 #[.val (.long xl), .second, .val (.int a), .val (.int b), .val (.int c), .val (.int va), .val (.int vb), .val (.int vc), .val (.int va), .val (.int vb), .val (.int vc), .val (.long p), .second, .val (.ref b1), .val (.ref b3), .val (.ref b6), .unset, .unset, .unset, .unset, .unset, .unset, .unset, .unset, .unset, .unset, .unset, .unset, .unset, .unset, .unset, .unset, .unset, .unset, .unset, .unset, .unset, .unset, .unset, .unset, .unset] [(.ref b10), (.ref b10)]
  refine w_iconst ok at_80 (v := (2 : Int32)) rfl ?_
  show W K l _ n0 _ h13 4 6 81 #[.val (.long xl), .second, .val (.int a), .val (.int b), .val (.int c), .val (.int va), .val (.int vb), .val (.int vc), .val (.int va), .val (.int vb), .val (.int vc), .val (.long p), .second, .val (.ref b1), .val (.ref b3), .val (.ref b6), .unset, .unset, .unset, .unset, .unset, .unset, .unset, .unset, .unset, .unset, .unset, .unset, .unset, .unset, .unset, .unset, .unset, .unset, .unset, .unset, .unset, .unset, .unset, .unset, .unset] [(.int (2 : Int32)), (.ref b10), (.ref b10)]
  refine w_iload ok at_81 rfl ?_
  show W K l _ n0 _ h13 4 6 83 #[.val (.long xl), .second, .val (.int a), .val (.int b), .val (.int c), .val (.int va), .val (.int vb), .val (.int vc), .val (.int va), .val (.int vb), .val (.int vc), .val (.long p), .second, .val (.ref b1), .val (.ref b3), .val (.ref b6), .unset, .unset, .unset, .unset, .unset, .unset, .unset, .unset, .unset, .unset, .unset, .unset, .unset, .unset, .unset, .unset, .unset, .unset, .unset, .unset, .unset, .unset, .unset, .unset, .unset] [(.int vc), (.int (2 : Int32)), (.ref b10), (.ref b10)]
  refine w_bastore ok at_83 A_b10 ge_b10 (by decide) (Nat.le_of_ble_eq_true rfl) (fun h14 W_h14 A1_h14 => ?_)
  replace A_b1 := A_b1.other W_h14 ne_b1_b10
  replace A_b3 := A_b3.other W_h14 ne_b3_b10
  replace A_b6 := A_b6.other W_h14 ne_b6_b10
  replace A_b10 : PA .byte Z h14 b10 [(.int va), (.int vb), (.int (nar .byte vc))] := A1_h14
  rw [own_nb rvc.1 rvc.2] at A_b10
  show W K l _ n0 _ h14 4 6 84 #[.val (.long xl), .second, .val (.int a), .val (.int b), .val (.int c), .val (.int va), .val (.int vb), .val (.int vc), .val (.int va), .val (.int vb), .val (.int vc), .val (.long p), .second, .val (.ref b1), .val (.ref b3), .val (.ref b6), .unset, .unset, .unset, .unset, .unset, .unset, .unset, .unset, .unset, .unset, .unset, .unset, .unset, .unset, .unset, .unset, .unset, .unset, .unset, .unset, .unset, .unset, .unset, .unset, .unset] [(.ref b10)]
  refine w_astore ok at_84 rfl (L' := #[.val (.long xl), .second, .val (.int a), .val (.int b), .val (.int c), .val (.int va), .val (.int vb), .val (.int vc), .val (.int va), .val (.int vb), .val (.int vc), .val (.long p), .second, .val (.ref b1), .val (.ref b3), .val (.ref b6), .val (.ref b10), .unset, .unset, .unset, .unset, .unset, .unset, .unset, .unset, .unset, .unset, .unset, .unset, .unset, .unset, .unset, .unset, .unset, .unset, .unset, .unset, .unset, .unset, .unset, .unset]) rfl ?_
  show W K l _ n0 _ h14 4 6 86 #[.val (.long xl), .second, .val (.int a), .val (.int b), .val (.int c), .val (.int va), .val (.int vb), .val (.int vc), .val (.int va), .val (.int vb), .val (.int vc), .val (.long p), .second, .val (.ref b1), .val (.ref b3), .val (.ref b6), .val (.ref b10), .unset, .unset, .unset, .unset, .unset, .unset, .unset, .unset, .unset, .unset, .unset, .unset, .unset, .unset, .unset, .unset, .unset, .unset, .unset, .unset, .unset, .unset, .unset, .unset] []
  refine w_bipush ok at_86 (v := (19 : Int32)) rfl ?_
  show W K l _ n0 _ h14 4 6 88 #[.val (.long xl), .second, .val (.int a), .val (.int b), .val (.int c), .val (.int va), .val (.int vb), .val (.int vc), .val (.int va), .val (.int vb), .val (.int vc), .val (.long p), .second, .val (.ref b1), .val (.ref b3), .val (.ref b6), .val (.ref b10), .unset, .unset, .unset, .unset, .unset, .unset, .unset, .unset, .unset, .unset, .unset, .unset, .unset, .unset, .unset, .unset, .unset, .unset, .unset, .unset, .unset, .unset, .unset, .unset] [(.int (19 : Int32))]
  refine w_newarray ok at_88 (hw _ (List.mem_of_getElem? (i := 2) rfl)) (by decide) (cap := 19) (by decide) (by decide) (by decide) (by decide) (fun h16 b15 ea_b15 ge_b15 E_b15 A_b15 => ?_)
  have ne_b1_b15 : b1 ≠ b15 := fun q => Nat.lt_irrefl _ (Nat.lt_of_lt_of_eq A_b1.lt (ea_b15.symm.trans q.symm))
  have ne_b3_b15 : b3 ≠ b15 := fun q => Nat.lt_irrefl _ (Nat.lt_of_lt_of_eq A_b3.lt (ea_b15.symm.trans q.symm))
  have ne_b6_b15 : b6 ≠ b15 := fun q => Nat.lt_irrefl _ (Nat.lt_of_lt_of_eq A_b6.lt (ea_b15.symm.trans q.symm))
  have ne_b10_b15 : b10 ≠ b15 := fun q => Nat.lt_irrefl _ (Nat.lt_of_lt_of_eq A_b10.lt (ea_b15.symm.trans q.symm))
  replace A_b1 := A_b1.ext E_b15
  replace A_b3 := A_b3.ext E_b15
  replace A_b6 := A_b6.ext E_b15
  replace A_b10 := A_b10.ext E_b15
  replace A_b15 : PA .byte Z h16 b15 [(.int (0 : Int32)), (.int (0 : Int32)), (.int (0 : Int32)), (.int (0 : Int32)), (.int (0 : Int32)), (.int (0 : Int32)), (.int (0 : Int32)), (.int (0 : Int32)), (.int (0 : Int32)), (.int (0 : Int32)), (.int (0 : Int32)), (.int (0 : Int32)), (.int (0 : Int32)), (.int (0 : Int32)), (.int (0 : Int32)), (.int (0 : Int32)), (.int (0 : Int32)), (.int (0 : Int32)), (.int (0 : Int32))] := A_b15
  show W K l _ n0 _ h16 5 25 90 #[.val (.long xl), .second, .val (.int a), .val (.int b), .val (.int c), .val (.int va), .val (.int vb), .val (.int vc), .val (.int va), .val (.int vb), .val (.int vc), .val (.long p), .second, .val (.ref b1), .val (.ref b3), .val (.ref b6), .val (.ref b10), .unset, .unset, .unset, .unset, .unset, .unset, .unset, .unset, .unset, .unset, .unset, .unset, .unset, .unset, .unset, .unset, .unset, .unset, .unset, .unset, .unset, .unset, .unset, .unset] [(.ref b15)]
  refine w_astore ok at_90 rfl (L' := #[.val (.long xl), .second, .val (.int a), .val (.int b), .val (.int c), .val (.int va), .val (.int vb), .val (.int vc), .val (.int va), .val (.int vb), .val (.int vc), .val (.long p), .second, .val (.ref b1), .val (.ref b3), .val (.ref b6), .val (.ref b10), .val (.ref b15), .unset, .unset, .unset, .unset, .unset, .unset, .unset, .unset, .unset, .unset, .unset, .unset, .unset, .unset, .unset, .unset, .unset, .unset, .unset, .unset, .unset, .unset, .unset]) rfl ?_
  show W K l _ n0 _ h16 5 25 92 #[.val (.long xl), .second, .val (.int a), .val (.int b), .val (.int c), .val (.int va), .val (.int vb), .val (.int vc), .val (.int va), .val (.int vb), .val (.int vc), .val (.long p), .second, .val (.ref b1), .val (.ref b3), .val (.ref b6), .val (.ref b10), .val (.ref b15), .unset, .unset, .unset, .unset, .unset, .unset, .unset, .unset, .unset, .unset, .unset, .unset, .unset, .unset, .unset, .unset, .unset, .unset, .unset, .unset, .unset, .unset, .unset] []
  refine w_aload ok at_92 rfl rfl ?_
  show W K l _ n0 _ h16 5 25 94 #[.val (.long xl), .second, .val (.int a), .val (.int b), .val (.int c), .val (.int va), .val (.int vb), .val (.int vc), .val (.int va), .val (.int vb), .val (.int vc), .val (.long p), .second, .val (.ref b1), .val (.ref b3), .val (.ref b6), .val (.ref b10), .val (.ref b15), .unset, .unset, .unset, .unset, .unset, .unset, .unset, .unset, .unset, .unset, .unset, .unset, .unset, .unset, .unset, .unset, .unset, .unset, .unset, .unset, .unset, .unset, .unset] [(.ref b15)]
  refine w_iconst ok at_94 (v := (0 : Int32)) rfl ?_
  show W K l _ n0 _ h16 5 25 95 #[.val (.long xl), .second, .val (.int a), .val (.int b), .val (.int c), .val (.int va), .val (.int vb), .val (.int vc), .val (.int va), .val (.int vb), .val (.int vc), .val (.long p), .second, .val (.ref b1), .val (.ref b3), .val (.ref b6), .val (.ref b10), .val (.ref b15), .unset, .unset, .unset, .unset, .unset, .unset, .unset, .unset, .unset, .unset, .unset, .unset, .unset, .unset, .unset, .unset, .unset, .unset, .unset, .unset, .unset, .unset, .unset] [(.int (0 : Int32)), (.ref b15)]
  refine w_lload ok at_95 rfl ?_
  show W K l _ n0 _ h16 5 25 97 #[.val (.long xl), .second, .val (.int a), .val (.int b), .val (.int c), .val (.int va), .val (.int vb), .val (.int vc), .val (.int va), .val (.int vb), .val (.int vc), .val (.long p), .second, .val (.ref b1), .val (.ref b3), .val (.ref b6), .val (.ref b10), .val (.ref b15), .unset, .unset, .unset, .unset, .unset, .unset, .unset, .unset, .unset, .unset, .unset, .unset, .unset, .unset, .unset, .unset, .unset, .unset, .unset, .unset, .unset, .unset, .unset] [(.long p), (.int (0 : Int32)), (.ref b15)]
  refine w_callS ok (y := (⟨"com/example/turnstile/turnstile/server/CommandsParseCountPinLaw", "put18", "([BIJ)V"⟩ : MethodName)) (argsL := [(.ref b15), (.int (0 : Int32)), (.long p)]) (rest := []) at_97 (hw _ (List.mem_of_getElem? (i := 3) rfl)) (hw _ (List.mem_of_getElem? (i := 4) rfl)) (hw _ (List.mem_of_getElem? (i := 5) rfl)) (hw _ (List.mem_of_getElem? (i := 6) rfl)) (by decide) pd_285bBIJ29V rfl rfl (by decide) (Nat.le_of_ble_eq_true rfl) (by decide) (by decide) (fun z0 => rm_put0 l Z a0 hw [] n0 h16 z0 b15 p hp0 A_b15 ge_b15) (fun v17 h18 qv17 => ?_)
  obtain ⟨rfl, K1, A1⟩ := qv17
  replace A_b1 := A_b1.keep K1 (ninS ne_b1_b15 nin0)
  replace A_b3 := A_b3.keep K1 (ninS ne_b3_b15 nin0)
  replace A_b6 := A_b6.keep K1 (ninS ne_b6_b15 nin0)
  replace A_b10 := A_b10.keep K1 (ninS ne_b10_b15 nin0)
  replace A_b15 : PA .byte Z h18 b15 [(.int (own_d p.toInt 100000000000000000)), (.int (own_d p.toInt 10000000000000000)), (.int (own_d p.toInt 1000000000000000)), (.int (own_d p.toInt 100000000000000)), (.int (own_d p.toInt 10000000000000)), (.int (own_d p.toInt 1000000000000)), (.int (own_d p.toInt 100000000000)), (.int (own_d p.toInt 10000000000)), (.int (own_d p.toInt 1000000000)), (.int (own_d p.toInt 100000000)), (.int (own_d p.toInt 10000000)), (.int (own_d p.toInt 1000000)), (.int (own_d p.toInt 100000)), (.int (own_d p.toInt 10000)), (.int (own_d p.toInt 1000)), (.int (own_d p.toInt 100)), (.int (own_d p.toInt 10)), (.int (own_d p.toInt 1)), (.int (0 : Int32))] := A1
  show W K l _ n0 _ h18 5 25 100 #[.val (.long xl), .second, .val (.int a), .val (.int b), .val (.int c), .val (.int va), .val (.int vb), .val (.int vc), .val (.int va), .val (.int vb), .val (.int vc), .val (.long p), .second, .val (.ref b1), .val (.ref b3), .val (.ref b6), .val (.ref b10), .val (.ref b15), .unset, .unset, .unset, .unset, .unset, .unset, .unset, .unset, .unset, .unset, .unset, .unset, .unset, .unset, .unset, .unset, .unset, .unset, .unset, .unset, .unset, .unset, .unset] []
  refine w_aload ok at_100 rfl rfl ?_
  show W K l _ n0 _ h18 5 25 102 #[.val (.long xl), .second, .val (.int a), .val (.int b), .val (.int c), .val (.int va), .val (.int vb), .val (.int vc), .val (.int va), .val (.int vb), .val (.int vc), .val (.long p), .second, .val (.ref b1), .val (.ref b3), .val (.ref b6), .val (.ref b10), .val (.ref b15), .unset, .unset, .unset, .unset, .unset, .unset, .unset, .unset, .unset, .unset, .unset, .unset, .unset, .unset, .unset, .unset, .unset, .unset, .unset, .unset, .unset, .unset, .unset] [(.ref b15)]
  refine w_bipush ok at_102 (v := (18 : Int32)) rfl ?_
  show W K l _ n0 _ h18 5 25 104 #[.val (.long xl), .second, .val (.int a), .val (.int b), .val (.int c), .val (.int va), .val (.int vb), .val (.int vc), .val (.int va), .val (.int vb), .val (.int vc), .val (.long p), .second, .val (.ref b1), .val (.ref b3), .val (.ref b6), .val (.ref b10), .val (.ref b15), .unset, .unset, .unset, .unset, .unset, .unset, .unset, .unset, .unset, .unset, .unset, .unset, .unset, .unset, .unset, .unset, .unset, .unset, .unset, .unset, .unset, .unset, .unset] [(.int (18 : Int32)), (.ref b15)]
  refine w_iload ok at_104 rfl ?_
  show W K l _ n0 _ h18 5 25 106 #[.val (.long xl), .second, .val (.int a), .val (.int b), .val (.int c), .val (.int va), .val (.int vb), .val (.int vc), .val (.int va), .val (.int vb), .val (.int vc), .val (.long p), .second, .val (.ref b1), .val (.ref b3), .val (.ref b6), .val (.ref b10), .val (.ref b15), .unset, .unset, .unset, .unset, .unset, .unset, .unset, .unset, .unset, .unset, .unset, .unset, .unset, .unset, .unset, .unset, .unset, .unset, .unset, .unset, .unset, .unset, .unset] [(.int vc), (.int (18 : Int32)), (.ref b15)]
  refine w_bastore ok at_106 A_b15 ge_b15 (by decide) (Nat.le_of_ble_eq_true rfl) (fun h19 W_h19 A1_h19 => ?_)
  replace A_b1 := A_b1.other W_h19 ne_b1_b15
  replace A_b3 := A_b3.other W_h19 ne_b3_b15
  replace A_b6 := A_b6.other W_h19 ne_b6_b15
  replace A_b10 := A_b10.other W_h19 ne_b10_b15
  replace A_b15 : PA .byte Z h19 b15 [(.int (own_d p.toInt 100000000000000000)), (.int (own_d p.toInt 10000000000000000)), (.int (own_d p.toInt 1000000000000000)), (.int (own_d p.toInt 100000000000000)), (.int (own_d p.toInt 10000000000000)), (.int (own_d p.toInt 1000000000000)), (.int (own_d p.toInt 100000000000)), (.int (own_d p.toInt 10000000000)), (.int (own_d p.toInt 1000000000)), (.int (own_d p.toInt 100000000)), (.int (own_d p.toInt 10000000)), (.int (own_d p.toInt 1000000)), (.int (own_d p.toInt 100000)), (.int (own_d p.toInt 10000)), (.int (own_d p.toInt 1000)), (.int (own_d p.toInt 100)), (.int (own_d p.toInt 10)), (.int (own_d p.toInt 1)), (.int (nar .byte vc))] := A1_h19
  rw [own_nb rvc.1 rvc.2] at A_b15
  show W K l _ n0 _ h19 5 25 107 #[.val (.long xl), .second, .val (.int a), .val (.int b), .val (.int c), .val (.int va), .val (.int vb), .val (.int vc), .val (.int va), .val (.int vb), .val (.int vc), .val (.long p), .second, .val (.ref b1), .val (.ref b3), .val (.ref b6), .val (.ref b10), .val (.ref b15), .unset, .unset, .unset, .unset, .unset, .unset, .unset, .unset, .unset, .unset, .unset, .unset, .unset, .unset, .unset, .unset, .unset, .unset, .unset, .unset, .unset, .unset, .unset] []
  refine w_bipush ok at_107 (v := (20 : Int32)) rfl ?_
  show W K l _ n0 _ h19 5 25 109 #[.val (.long xl), .second, .val (.int a), .val (.int b), .val (.int c), .val (.int va), .val (.int vb), .val (.int vc), .val (.int va), .val (.int vb), .val (.int vc), .val (.long p), .second, .val (.ref b1), .val (.ref b3), .val (.ref b6), .val (.ref b10), .val (.ref b15), .unset, .unset, .unset, .unset, .unset, .unset, .unset, .unset, .unset, .unset, .unset, .unset, .unset, .unset, .unset, .unset, .unset, .unset, .unset, .unset, .unset, .unset, .unset] [(.int (20 : Int32))]
  refine w_newarray ok at_109 (hw _ (List.mem_of_getElem? (i := 2) rfl)) (by decide) (cap := 20) (by decide) (by decide) (by decide) (by decide) (fun h21 b20 ea_b20 ge_b20 E_b20 A_b20 => ?_)
  have ne_b1_b20 : b1 ≠ b20 := fun q => Nat.lt_irrefl _ (Nat.lt_of_lt_of_eq A_b1.lt (ea_b20.symm.trans q.symm))
  have ne_b3_b20 : b3 ≠ b20 := fun q => Nat.lt_irrefl _ (Nat.lt_of_lt_of_eq A_b3.lt (ea_b20.symm.trans q.symm))
  have ne_b6_b20 : b6 ≠ b20 := fun q => Nat.lt_irrefl _ (Nat.lt_of_lt_of_eq A_b6.lt (ea_b20.symm.trans q.symm))
  have ne_b10_b20 : b10 ≠ b20 := fun q => Nat.lt_irrefl _ (Nat.lt_of_lt_of_eq A_b10.lt (ea_b20.symm.trans q.symm))
  have ne_b15_b20 : b15 ≠ b20 := fun q => Nat.lt_irrefl _ (Nat.lt_of_lt_of_eq A_b15.lt (ea_b20.symm.trans q.symm))
  replace A_b1 := A_b1.ext E_b20
  replace A_b3 := A_b3.ext E_b20
  replace A_b6 := A_b6.ext E_b20
  replace A_b10 := A_b10.ext E_b20
  replace A_b15 := A_b15.ext E_b20
  replace A_b20 : PA .byte Z h21 b20 [(.int (0 : Int32)), (.int (0 : Int32)), (.int (0 : Int32)), (.int (0 : Int32)), (.int (0 : Int32)), (.int (0 : Int32)), (.int (0 : Int32)), (.int (0 : Int32)), (.int (0 : Int32)), (.int (0 : Int32)), (.int (0 : Int32)), (.int (0 : Int32)), (.int (0 : Int32)), (.int (0 : Int32)), (.int (0 : Int32)), (.int (0 : Int32)), (.int (0 : Int32)), (.int (0 : Int32)), (.int (0 : Int32)), (.int (0 : Int32))] := A_b20
  show W K l _ n0 _ h21 6 45 111 #[.val (.long xl), .second, .val (.int a), .val (.int b), .val (.int c), .val (.int va), .val (.int vb), .val (.int vc), .val (.int va), .val (.int vb), .val (.int vc), .val (.long p), .second, .val (.ref b1), .val (.ref b3), .val (.ref b6), .val (.ref b10), .val (.ref b15), .unset, .unset, .unset, .unset, .unset, .unset, .unset, .unset, .unset, .unset, .unset, .unset, .unset, .unset, .unset, .unset, .unset, .unset, .unset, .unset, .unset, .unset, .unset] [(.ref b20)]
  refine w_astore ok at_111 rfl (L' := #[.val (.long xl), .second, .val (.int a), .val (.int b), .val (.int c), .val (.int va), .val (.int vb), .val (.int vc), .val (.int va), .val (.int vb), .val (.int vc), .val (.long p), .second, .val (.ref b1), .val (.ref b3), .val (.ref b6), .val (.ref b10), .val (.ref b15), .val (.ref b20), .unset, .unset, .unset, .unset, .unset, .unset, .unset, .unset, .unset, .unset, .unset, .unset, .unset, .unset, .unset, .unset, .unset, .unset, .unset, .unset, .unset, .unset]) rfl ?_
  show W K l _ n0 _ h21 6 45 113 #[.val (.long xl), .second, .val (.int a), .val (.int b), .val (.int c), .val (.int va), .val (.int vb), .val (.int vc), .val (.int va), .val (.int vb), .val (.int vc), .val (.long p), .second, .val (.ref b1), .val (.ref b3), .val (.ref b6), .val (.ref b10), .val (.ref b15), .val (.ref b20), .unset, .unset, .unset, .unset, .unset, .unset, .unset, .unset, .unset, .unset, .unset, .unset, .unset, .unset, .unset, .unset, .unset, .unset, .unset, .unset, .unset, .unset] []
  refine w_aload ok at_113 rfl rfl ?_
  show W K l _ n0 _ h21 6 45 115 #[.val (.long xl), .second, .val (.int a), .val (.int b), .val (.int c), .val (.int va), .val (.int vb), .val (.int vc), .val (.int va), .val (.int vb), .val (.int vc), .val (.long p), .second, .val (.ref b1), .val (.ref b3), .val (.ref b6), .val (.ref b10), .val (.ref b15), .val (.ref b20), .unset, .unset, .unset, .unset, .unset, .unset, .unset, .unset, .unset, .unset, .unset, .unset, .unset, .unset, .unset, .unset, .unset, .unset, .unset, .unset, .unset, .unset] [(.ref b20)]
  refine w_iconst ok at_115 (v := (0 : Int32)) rfl ?_
  show W K l _ n0 _ h21 6 45 116 #[.val (.long xl), .second, .val (.int a), .val (.int b), .val (.int c), .val (.int va), .val (.int vb), .val (.int vc), .val (.int va), .val (.int vb), .val (.int vc), .val (.long p), .second, .val (.ref b1), .val (.ref b3), .val (.ref b6), .val (.ref b10), .val (.ref b15), .val (.ref b20), .unset, .unset, .unset, .unset, .unset, .unset, .unset, .unset, .unset, .unset, .unset, .unset, .unset, .unset, .unset, .unset, .unset, .unset, .unset, .unset, .unset, .unset] [(.int (0 : Int32)), (.ref b20)]
  refine w_iload ok at_116 rfl ?_
  show W K l _ n0 _ h21 6 45 118 #[.val (.long xl), .second, .val (.int a), .val (.int b), .val (.int c), .val (.int va), .val (.int vb), .val (.int vc), .val (.int va), .val (.int vb), .val (.int vc), .val (.long p), .second, .val (.ref b1), .val (.ref b3), .val (.ref b6), .val (.ref b10), .val (.ref b15), .val (.ref b20), .unset, .unset, .unset, .unset, .unset, .unset, .unset, .unset, .unset, .unset, .unset, .unset, .unset, .unset, .unset, .unset, .unset, .unset, .unset, .unset, .unset, .unset] [(.int va), (.int (0 : Int32)), (.ref b20)]
  refine w_bastore ok at_118 A_b20 ge_b20 (by decide) (Nat.le_of_ble_eq_true rfl) (fun h22 W_h22 A1_h22 => ?_)
  replace A_b1 := A_b1.other W_h22 ne_b1_b20
  replace A_b3 := A_b3.other W_h22 ne_b3_b20
  replace A_b6 := A_b6.other W_h22 ne_b6_b20
  replace A_b10 := A_b10.other W_h22 ne_b10_b20
  replace A_b15 := A_b15.other W_h22 ne_b15_b20
  replace A_b20 : PA .byte Z h22 b20 [(.int (nar .byte va)), (.int (0 : Int32)), (.int (0 : Int32)), (.int (0 : Int32)), (.int (0 : Int32)), (.int (0 : Int32)), (.int (0 : Int32)), (.int (0 : Int32)), (.int (0 : Int32)), (.int (0 : Int32)), (.int (0 : Int32)), (.int (0 : Int32)), (.int (0 : Int32)), (.int (0 : Int32)), (.int (0 : Int32)), (.int (0 : Int32)), (.int (0 : Int32)), (.int (0 : Int32)), (.int (0 : Int32)), (.int (0 : Int32))] := A1_h22
  rw [own_nb rva.1 rva.2] at A_b20
  show W K l _ n0 _ h22 6 45 119 #[.val (.long xl), .second, .val (.int a), .val (.int b), .val (.int c), .val (.int va), .val (.int vb), .val (.int vc), .val (.int va), .val (.int vb), .val (.int vc), .val (.long p), .second, .val (.ref b1), .val (.ref b3), .val (.ref b6), .val (.ref b10), .val (.ref b15), .val (.ref b20), .unset, .unset, .unset, .unset, .unset, .unset, .unset, .unset, .unset, .unset, .unset, .unset, .unset, .unset, .unset, .unset, .unset, .unset, .unset, .unset, .unset, .unset] []
  refine w_aload ok at_119 rfl rfl ?_
  show W K l _ n0 _ h22 6 45 121 #[.val (.long xl), .second, .val (.int a), .val (.int b), .val (.int c), .val (.int va), .val (.int vb), .val (.int vc), .val (.int va), .val (.int vb), .val (.int vc), .val (.long p), .second, .val (.ref b1), .val (.ref b3), .val (.ref b6), .val (.ref b10), .val (.ref b15), .val (.ref b20), .unset, .unset, .unset, .unset, .unset, .unset, .unset, .unset, .unset, .unset, .unset, .unset, .unset, .unset, .unset, .unset, .unset, .unset, .unset, .unset, .unset, .unset] [(.ref b20)]
  refine w_iconst ok at_121 (v := (1 : Int32)) rfl ?_
  show W K l _ n0 _ h22 6 45 122 #[.val (.long xl), .second, .val (.int a), .val (.int b), .val (.int c), .val (.int va), .val (.int vb), .val (.int vc), .val (.int va), .val (.int vb), .val (.int vc), .val (.long p), .second, .val (.ref b1), .val (.ref b3), .val (.ref b6), .val (.ref b10), .val (.ref b15), .val (.ref b20), .unset, .unset, .unset, .unset, .unset, .unset, .unset, .unset, .unset, .unset, .unset, .unset, .unset, .unset, .unset, .unset, .unset, .unset, .unset, .unset, .unset, .unset] [(.int (1 : Int32)), (.ref b20)]
  refine w_lload ok at_122 rfl ?_
  show W K l _ n0 _ h22 6 45 124 #[.val (.long xl), .second, .val (.int a), .val (.int b), .val (.int c), .val (.int va), .val (.int vb), .val (.int vc), .val (.int va), .val (.int vb), .val (.int vc), .val (.long p), .second, .val (.ref b1), .val (.ref b3), .val (.ref b6), .val (.ref b10), .val (.ref b15), .val (.ref b20), .unset, .unset, .unset, .unset, .unset, .unset, .unset, .unset, .unset, .unset, .unset, .unset, .unset, .unset, .unset, .unset, .unset, .unset, .unset, .unset, .unset, .unset] [(.long p), (.int (1 : Int32)), (.ref b20)]
  refine w_callS ok (y := (⟨"com/example/turnstile/turnstile/server/CommandsParseCountPinLaw", "put18", "([BIJ)V"⟩ : MethodName)) (argsL := [(.ref b20), (.int (1 : Int32)), (.long p)]) (rest := []) at_124 (hw _ (List.mem_of_getElem? (i := 3) rfl)) (hw _ (List.mem_of_getElem? (i := 4) rfl)) (hw _ (List.mem_of_getElem? (i := 5) rfl)) (hw _ (List.mem_of_getElem? (i := 6) rfl)) (by decide) pd_285bBIJ29V rfl rfl (by decide) (Nat.le_of_ble_eq_true rfl) (by decide) (by decide) (fun z0 => rm_put1 l Z a0 hw [] n0 h22 z0 b20 p hp0 va A_b20 ge_b20) (fun v23 h24 qv23 => ?_)
  obtain ⟨rfl, K1, A1⟩ := qv23
  replace A_b1 := A_b1.keep K1 (ninS ne_b1_b20 nin0)
  replace A_b3 := A_b3.keep K1 (ninS ne_b3_b20 nin0)
  replace A_b6 := A_b6.keep K1 (ninS ne_b6_b20 nin0)
  replace A_b10 := A_b10.keep K1 (ninS ne_b10_b20 nin0)
  replace A_b15 := A_b15.keep K1 (ninS ne_b15_b20 nin0)
  replace A_b20 : PA .byte Z h24 b20 [(.int va), (.int (own_d p.toInt 100000000000000000)), (.int (own_d p.toInt 10000000000000000)), (.int (own_d p.toInt 1000000000000000)), (.int (own_d p.toInt 100000000000000)), (.int (own_d p.toInt 10000000000000)), (.int (own_d p.toInt 1000000000000)), (.int (own_d p.toInt 100000000000)), (.int (own_d p.toInt 10000000000)), (.int (own_d p.toInt 1000000000)), (.int (own_d p.toInt 100000000)), (.int (own_d p.toInt 10000000)), (.int (own_d p.toInt 1000000)), (.int (own_d p.toInt 100000)), (.int (own_d p.toInt 10000)), (.int (own_d p.toInt 1000)), (.int (own_d p.toInt 100)), (.int (own_d p.toInt 10)), (.int (own_d p.toInt 1)), (.int (0 : Int32))] := A1
  show W K l _ n0 _ h24 6 45 127 #[.val (.long xl), .second, .val (.int a), .val (.int b), .val (.int c), .val (.int va), .val (.int vb), .val (.int vc), .val (.int va), .val (.int vb), .val (.int vc), .val (.long p), .second, .val (.ref b1), .val (.ref b3), .val (.ref b6), .val (.ref b10), .val (.ref b15), .val (.ref b20), .unset, .unset, .unset, .unset, .unset, .unset, .unset, .unset, .unset, .unset, .unset, .unset, .unset, .unset, .unset, .unset, .unset, .unset, .unset, .unset, .unset, .unset] []
  refine w_aload ok at_127 rfl rfl ?_
  show W K l _ n0 _ h24 6 45 129 #[.val (.long xl), .second, .val (.int a), .val (.int b), .val (.int c), .val (.int va), .val (.int vb), .val (.int vc), .val (.int va), .val (.int vb), .val (.int vc), .val (.long p), .second, .val (.ref b1), .val (.ref b3), .val (.ref b6), .val (.ref b10), .val (.ref b15), .val (.ref b20), .unset, .unset, .unset, .unset, .unset, .unset, .unset, .unset, .unset, .unset, .unset, .unset, .unset, .unset, .unset, .unset, .unset, .unset, .unset, .unset, .unset, .unset] [(.ref b20)]
  refine w_bipush ok at_129 (v := (19 : Int32)) rfl ?_
  show W K l _ n0 _ h24 6 45 131 #[.val (.long xl), .second, .val (.int a), .val (.int b), .val (.int c), .val (.int va), .val (.int vb), .val (.int vc), .val (.int va), .val (.int vb), .val (.int vc), .val (.long p), .second, .val (.ref b1), .val (.ref b3), .val (.ref b6), .val (.ref b10), .val (.ref b15), .val (.ref b20), .unset, .unset, .unset, .unset, .unset, .unset, .unset, .unset, .unset, .unset, .unset, .unset, .unset, .unset, .unset, .unset, .unset, .unset, .unset, .unset, .unset, .unset] [(.int (19 : Int32)), (.ref b20)]
  refine w_iload ok at_131 rfl ?_
  show W K l _ n0 _ h24 6 45 133 #[.val (.long xl), .second, .val (.int a), .val (.int b), .val (.int c), .val (.int va), .val (.int vb), .val (.int vc), .val (.int va), .val (.int vb), .val (.int vc), .val (.long p), .second, .val (.ref b1), .val (.ref b3), .val (.ref b6), .val (.ref b10), .val (.ref b15), .val (.ref b20), .unset, .unset, .unset, .unset, .unset, .unset, .unset, .unset, .unset, .unset, .unset, .unset, .unset, .unset, .unset, .unset, .unset, .unset, .unset, .unset, .unset, .unset] [(.int vc), (.int (19 : Int32)), (.ref b20)]
  refine w_bastore ok at_133 A_b20 ge_b20 (by decide) (Nat.le_of_ble_eq_true rfl) (fun h25 W_h25 A1_h25 => ?_)
  replace A_b1 := A_b1.other W_h25 ne_b1_b20
  replace A_b3 := A_b3.other W_h25 ne_b3_b20
  replace A_b6 := A_b6.other W_h25 ne_b6_b20
  replace A_b10 := A_b10.other W_h25 ne_b10_b20
  replace A_b15 := A_b15.other W_h25 ne_b15_b20
  replace A_b20 : PA .byte Z h25 b20 [(.int va), (.int (own_d p.toInt 100000000000000000)), (.int (own_d p.toInt 10000000000000000)), (.int (own_d p.toInt 1000000000000000)), (.int (own_d p.toInt 100000000000000)), (.int (own_d p.toInt 10000000000000)), (.int (own_d p.toInt 1000000000000)), (.int (own_d p.toInt 100000000000)), (.int (own_d p.toInt 10000000000)), (.int (own_d p.toInt 1000000000)), (.int (own_d p.toInt 100000000)), (.int (own_d p.toInt 10000000)), (.int (own_d p.toInt 1000000)), (.int (own_d p.toInt 100000)), (.int (own_d p.toInt 10000)), (.int (own_d p.toInt 1000)), (.int (own_d p.toInt 100)), (.int (own_d p.toInt 10)), (.int (own_d p.toInt 1)), (.int (nar .byte vc))] := A1_h25
  rw [own_nb rvc.1 rvc.2] at A_b20
  show W K l _ n0 _ h25 6 45 134 #[.val (.long xl), .second, .val (.int a), .val (.int b), .val (.int c), .val (.int va), .val (.int vb), .val (.int vc), .val (.int va), .val (.int vb), .val (.int vc), .val (.long p), .second, .val (.ref b1), .val (.ref b3), .val (.ref b6), .val (.ref b10), .val (.ref b15), .val (.ref b20), .unset, .unset, .unset, .unset, .unset, .unset, .unset, .unset, .unset, .unset, .unset, .unset, .unset, .unset, .unset, .unset, .unset, .unset, .unset, .unset, .unset, .unset] []
  refine w_aload ok at_134 rfl rfl ?_
  show W K l _ n0 _ h25 6 45 136 #[.val (.long xl), .second, .val (.int a), .val (.int b), .val (.int c), .val (.int va), .val (.int vb), .val (.int vc), .val (.int va), .val (.int vb), .val (.int vc), .val (.long p), .second, .val (.ref b1), .val (.ref b3), .val (.ref b6), .val (.ref b10), .val (.ref b15), .val (.ref b20), .unset, .unset, .unset, .unset, .unset, .unset, .unset, .unset, .unset, .unset, .unset, .unset, .unset, .unset, .unset, .unset, .unset, .unset, .unset, .unset, .unset, .unset] [(.ref b1)]
  refine w_callS ok (y := (⟨"com/example/turnstile/turnstile/server/Commands", "parseCount", "([B)J"⟩ : MethodName)) (argsL := [(.ref b1)]) (rest := []) at_136 (hw _ (List.mem_of_getElem? (i := 28) rfl)) (hw _ (List.mem_of_getElem? (i := 29) rfl)) (hw _ (List.mem_of_getElem? (i := 30) rfl)) (hw _ (List.mem_of_getElem? (i := 31) rfl)) (by decide) pd_285bB29J rfl rfl (by decide) (Nat.le_of_ble_eq_true rfl) (by decide) (by decide) (fun z0 => rm_pc l Z a0 hw [] n0 h25 z0 b1 [] A_b1) (fun v26 h27 qv26 => ?_)
  obtain ⟨r28, rfl, h_r28, rfl⟩ := qv26
  show W K l _ n0 _ h25 6 45 139 #[.val (.long xl), .second, .val (.int a), .val (.int b), .val (.int c), .val (.int va), .val (.int vb), .val (.int vc), .val (.int va), .val (.int vb), .val (.int vc), .val (.long p), .second, .val (.ref b1), .val (.ref b3), .val (.ref b6), .val (.ref b10), .val (.ref b15), .val (.ref b20), .unset, .unset, .unset, .unset, .unset, .unset, .unset, .unset, .unset, .unset, .unset, .unset, .unset, .unset, .unset, .unset, .unset, .unset, .unset, .unset, .unset, .unset] [(.long r28)]
  refine w_lstore ok at_139 (L' := #[.val (.long xl), .second, .val (.int a), .val (.int b), .val (.int c), .val (.int va), .val (.int vb), .val (.int vc), .val (.int va), .val (.int vb), .val (.int vc), .val (.long p), .second, .val (.ref b1), .val (.ref b3), .val (.ref b6), .val (.ref b10), .val (.ref b15), .val (.ref b20), .val (.long r28), .second, .unset, .unset, .unset, .unset, .unset, .unset, .unset, .unset, .unset, .unset, .unset, .unset, .unset, .unset, .unset, .unset, .unset, .unset, .unset, .unset]) rfl ?_
  show W K l _ n0 _ h25 6 45 141 #[.val (.long xl), .second, .val (.int a), .val (.int b), .val (.int c), .val (.int va), .val (.int vb), .val (.int vc), .val (.int va), .val (.int vb), .val (.int vc), .val (.long p), .second, .val (.ref b1), .val (.ref b3), .val (.ref b6), .val (.ref b10), .val (.ref b15), .val (.ref b20), .val (.long r28), .second, .unset, .unset, .unset, .unset, .unset, .unset, .unset, .unset, .unset, .unset, .unset, .unset, .unset, .unset, .unset, .unset, .unset, .unset, .unset, .unset] []
  refine w_aload ok at_141 rfl rfl ?_
  show W K l _ n0 _ h25 6 45 143 #[.val (.long xl), .second, .val (.int a), .val (.int b), .val (.int c), .val (.int va), .val (.int vb), .val (.int vc), .val (.int va), .val (.int vb), .val (.int vc), .val (.long p), .second, .val (.ref b1), .val (.ref b3), .val (.ref b6), .val (.ref b10), .val (.ref b15), .val (.ref b20), .val (.long r28), .second, .unset, .unset, .unset, .unset, .unset, .unset, .unset, .unset, .unset, .unset, .unset, .unset, .unset, .unset, .unset, .unset, .unset, .unset, .unset, .unset] [(.ref b3)]
  refine w_callS ok (y := (⟨"com/example/turnstile/turnstile/server/Commands", "parseCount", "([B)J"⟩ : MethodName)) (argsL := [(.ref b3)]) (rest := []) at_143 (hw _ (List.mem_of_getElem? (i := 28) rfl)) (hw _ (List.mem_of_getElem? (i := 29) rfl)) (hw _ (List.mem_of_getElem? (i := 30) rfl)) (hw _ (List.mem_of_getElem? (i := 31) rfl)) (by decide) pd_285bB29J rfl rfl (by decide) (Nat.le_of_ble_eq_true rfl) (by decide) (by decide) (fun z0 => rm_pc l Z a0 hw [] n0 h25 z0 b3 [va] A_b3) (fun v29 h30 qv29 => ?_)
  obtain ⟨r31, rfl, h_r31, rfl⟩ := qv29
  show W K l _ n0 _ h25 6 45 146 #[.val (.long xl), .second, .val (.int a), .val (.int b), .val (.int c), .val (.int va), .val (.int vb), .val (.int vc), .val (.int va), .val (.int vb), .val (.int vc), .val (.long p), .second, .val (.ref b1), .val (.ref b3), .val (.ref b6), .val (.ref b10), .val (.ref b15), .val (.ref b20), .val (.long r28), .second, .unset, .unset, .unset, .unset, .unset, .unset, .unset, .unset, .unset, .unset, .unset, .unset, .unset, .unset, .unset, .unset, .unset, .unset, .unset, .unset] [(.long r31)]
  refine w_lstore ok at_146 (L' := #[.val (.long xl), .second, .val (.int a), .val (.int b), .val (.int c), .val (.int va), .val (.int vb), .val (.int vc), .val (.int va), .val (.int vb), .val (.int vc), .val (.long p), .second, .val (.ref b1), .val (.ref b3), .val (.ref b6), .val (.ref b10), .val (.ref b15), .val (.ref b20), .val (.long r28), .second, .val (.long r31), .second, .unset, .unset, .unset, .unset, .unset, .unset, .unset, .unset, .unset, .unset, .unset, .unset, .unset, .unset, .unset, .unset, .unset, .unset]) rfl ?_
  show W K l _ n0 _ h25 6 45 148 #[.val (.long xl), .second, .val (.int a), .val (.int b), .val (.int c), .val (.int va), .val (.int vb), .val (.int vc), .val (.int va), .val (.int vb), .val (.int vc), .val (.long p), .second, .val (.ref b1), .val (.ref b3), .val (.ref b6), .val (.ref b10), .val (.ref b15), .val (.ref b20), .val (.long r28), .second, .val (.long r31), .second, .unset, .unset, .unset, .unset, .unset, .unset, .unset, .unset, .unset, .unset, .unset, .unset, .unset, .unset, .unset, .unset, .unset, .unset] []
  refine w_aload ok at_148 rfl rfl ?_
  show W K l _ n0 _ h25 6 45 150 #[.val (.long xl), .second, .val (.int a), .val (.int b), .val (.int c), .val (.int va), .val (.int vb), .val (.int vc), .val (.int va), .val (.int vb), .val (.int vc), .val (.long p), .second, .val (.ref b1), .val (.ref b3), .val (.ref b6), .val (.ref b10), .val (.ref b15), .val (.ref b20), .val (.long r28), .second, .val (.long r31), .second, .unset, .unset, .unset, .unset, .unset, .unset, .unset, .unset, .unset, .unset, .unset, .unset, .unset, .unset, .unset, .unset, .unset, .unset] [(.ref b6)]
  refine w_callS ok (y := (⟨"com/example/turnstile/turnstile/server/Commands", "parseCount", "([B)J"⟩ : MethodName)) (argsL := [(.ref b6)]) (rest := []) at_150 (hw _ (List.mem_of_getElem? (i := 28) rfl)) (hw _ (List.mem_of_getElem? (i := 29) rfl)) (hw _ (List.mem_of_getElem? (i := 30) rfl)) (hw _ (List.mem_of_getElem? (i := 31) rfl)) (by decide) pd_285bB29J rfl rfl (by decide) (Nat.le_of_ble_eq_true rfl) (by decide) (by decide) (fun z0 => rm_pc l Z a0 hw [] n0 h25 z0 b6 [va, vb] A_b6) (fun v32 h33 qv32 => ?_)
  obtain ⟨r34, rfl, h_r34, rfl⟩ := qv32
  show W K l _ n0 _ h25 6 45 153 #[.val (.long xl), .second, .val (.int a), .val (.int b), .val (.int c), .val (.int va), .val (.int vb), .val (.int vc), .val (.int va), .val (.int vb), .val (.int vc), .val (.long p), .second, .val (.ref b1), .val (.ref b3), .val (.ref b6), .val (.ref b10), .val (.ref b15), .val (.ref b20), .val (.long r28), .second, .val (.long r31), .second, .unset, .unset, .unset, .unset, .unset, .unset, .unset, .unset, .unset, .unset, .unset, .unset, .unset, .unset, .unset, .unset, .unset, .unset] [(.long r34)]
  refine w_lstore ok at_153 (L' := #[.val (.long xl), .second, .val (.int a), .val (.int b), .val (.int c), .val (.int va), .val (.int vb), .val (.int vc), .val (.int va), .val (.int vb), .val (.int vc), .val (.long p), .second, .val (.ref b1), .val (.ref b3), .val (.ref b6), .val (.ref b10), .val (.ref b15), .val (.ref b20), .val (.long r28), .second, .val (.long r31), .second, .val (.long r34), .second, .unset, .unset, .unset, .unset, .unset, .unset, .unset, .unset, .unset, .unset, .unset, .unset, .unset, .unset, .unset, .unset]) rfl ?_
  show W K l _ n0 _ h25 6 45 155 #[.val (.long xl), .second, .val (.int a), .val (.int b), .val (.int c), .val (.int va), .val (.int vb), .val (.int vc), .val (.int va), .val (.int vb), .val (.int vc), .val (.long p), .second, .val (.ref b1), .val (.ref b3), .val (.ref b6), .val (.ref b10), .val (.ref b15), .val (.ref b20), .val (.long r28), .second, .val (.long r31), .second, .val (.long r34), .second, .unset, .unset, .unset, .unset, .unset, .unset, .unset, .unset, .unset, .unset, .unset, .unset, .unset, .unset, .unset, .unset] []
  refine w_aload ok at_155 rfl rfl ?_
  show W K l _ n0 _ h25 6 45 157 #[.val (.long xl), .second, .val (.int a), .val (.int b), .val (.int c), .val (.int va), .val (.int vb), .val (.int vc), .val (.int va), .val (.int vb), .val (.int vc), .val (.long p), .second, .val (.ref b1), .val (.ref b3), .val (.ref b6), .val (.ref b10), .val (.ref b15), .val (.ref b20), .val (.long r28), .second, .val (.long r31), .second, .val (.long r34), .second, .unset, .unset, .unset, .unset, .unset, .unset, .unset, .unset, .unset, .unset, .unset, .unset, .unset, .unset, .unset, .unset] [(.ref b10)]
  refine w_callS ok (y := (⟨"com/example/turnstile/turnstile/server/Commands", "parseCount", "([B)J"⟩ : MethodName)) (argsL := [(.ref b10)]) (rest := []) at_157 (hw _ (List.mem_of_getElem? (i := 28) rfl)) (hw _ (List.mem_of_getElem? (i := 29) rfl)) (hw _ (List.mem_of_getElem? (i := 30) rfl)) (hw _ (List.mem_of_getElem? (i := 31) rfl)) (by decide) pd_285bB29J rfl rfl (by decide) (Nat.le_of_ble_eq_true rfl) (by decide) (by decide) (fun z0 => rm_pc l Z a0 hw [] n0 h25 z0 b10 [va, vb, vc] A_b10) (fun v35 h36 qv35 => ?_)
  obtain ⟨r37, rfl, h_r37, rfl⟩ := qv35
  show W K l _ n0 _ h25 6 45 160 #[.val (.long xl), .second, .val (.int a), .val (.int b), .val (.int c), .val (.int va), .val (.int vb), .val (.int vc), .val (.int va), .val (.int vb), .val (.int vc), .val (.long p), .second, .val (.ref b1), .val (.ref b3), .val (.ref b6), .val (.ref b10), .val (.ref b15), .val (.ref b20), .val (.long r28), .second, .val (.long r31), .second, .val (.long r34), .second, .unset, .unset, .unset, .unset, .unset, .unset, .unset, .unset, .unset, .unset, .unset, .unset, .unset, .unset, .unset, .unset] [(.long r37)]
  refine w_lstore ok at_160 (L' := #[.val (.long xl), .second, .val (.int a), .val (.int b), .val (.int c), .val (.int va), .val (.int vb), .val (.int vc), .val (.int va), .val (.int vb), .val (.int vc), .val (.long p), .second, .val (.ref b1), .val (.ref b3), .val (.ref b6), .val (.ref b10), .val (.ref b15), .val (.ref b20), .val (.long r28), .second, .val (.long r31), .second, .val (.long r34), .second, .val (.long r37), .second, .unset, .unset, .unset, .unset, .unset, .unset, .unset, .unset, .unset, .unset, .unset, .unset, .unset, .unset]) rfl ?_
  show W K l _ n0 _ h25 6 45 162 #[.val (.long xl), .second, .val (.int a), .val (.int b), .val (.int c), .val (.int va), .val (.int vb), .val (.int vc), .val (.int va), .val (.int vb), .val (.int vc), .val (.long p), .second, .val (.ref b1), .val (.ref b3), .val (.ref b6), .val (.ref b10), .val (.ref b15), .val (.ref b20), .val (.long r28), .second, .val (.long r31), .second, .val (.long r34), .second, .val (.long r37), .second, .unset, .unset, .unset, .unset, .unset, .unset, .unset, .unset, .unset, .unset, .unset, .unset, .unset, .unset] []
  refine w_aload ok at_162 rfl rfl ?_
  show W K l _ n0 _ h25 6 45 164 #[.val (.long xl), .second, .val (.int a), .val (.int b), .val (.int c), .val (.int va), .val (.int vb), .val (.int vc), .val (.int va), .val (.int vb), .val (.int vc), .val (.long p), .second, .val (.ref b1), .val (.ref b3), .val (.ref b6), .val (.ref b10), .val (.ref b15), .val (.ref b20), .val (.long r28), .second, .val (.long r31), .second, .val (.long r34), .second, .val (.long r37), .second, .unset, .unset, .unset, .unset, .unset, .unset, .unset, .unset, .unset, .unset, .unset, .unset, .unset, .unset] [(.ref b15)]
  refine w_callS ok (y := (⟨"com/example/turnstile/turnstile/server/Commands", "parseCount", "([B)J"⟩ : MethodName)) (argsL := [(.ref b15)]) (rest := []) at_164 (hw _ (List.mem_of_getElem? (i := 28) rfl)) (hw _ (List.mem_of_getElem? (i := 29) rfl)) (hw _ (List.mem_of_getElem? (i := 30) rfl)) (hw _ (List.mem_of_getElem? (i := 31) rfl)) (by decide) pd_285bB29J rfl rfl (by decide) (Nat.le_of_ble_eq_true rfl) (by decide) (by decide) (fun z0 => rm_pc l Z a0 hw [] n0 h25 z0 b15 [own_d p.toInt 100000000000000000, own_d p.toInt 10000000000000000, own_d p.toInt 1000000000000000, own_d p.toInt 100000000000000, own_d p.toInt 10000000000000, own_d p.toInt 1000000000000, own_d p.toInt 100000000000, own_d p.toInt 10000000000, own_d p.toInt 1000000000, own_d p.toInt 100000000, own_d p.toInt 10000000, own_d p.toInt 1000000, own_d p.toInt 100000, own_d p.toInt 10000, own_d p.toInt 1000, own_d p.toInt 100, own_d p.toInt 10, own_d p.toInt 1, vc] A_b15) (fun v38 h39 qv38 => ?_)
  obtain ⟨r40, rfl, h_r40, rfl⟩ := qv38
  show W K l _ n0 _ h25 6 45 167 #[.val (.long xl), .second, .val (.int a), .val (.int b), .val (.int c), .val (.int va), .val (.int vb), .val (.int vc), .val (.int va), .val (.int vb), .val (.int vc), .val (.long p), .second, .val (.ref b1), .val (.ref b3), .val (.ref b6), .val (.ref b10), .val (.ref b15), .val (.ref b20), .val (.long r28), .second, .val (.long r31), .second, .val (.long r34), .second, .val (.long r37), .second, .unset, .unset, .unset, .unset, .unset, .unset, .unset, .unset, .unset, .unset, .unset, .unset, .unset, .unset] [(.long r40)]
  refine w_lstore ok at_167 (L' := #[.val (.long xl), .second, .val (.int a), .val (.int b), .val (.int c), .val (.int va), .val (.int vb), .val (.int vc), .val (.int va), .val (.int vb), .val (.int vc), .val (.long p), .second, .val (.ref b1), .val (.ref b3), .val (.ref b6), .val (.ref b10), .val (.ref b15), .val (.ref b20), .val (.long r28), .second, .val (.long r31), .second, .val (.long r34), .second, .val (.long r37), .second, .val (.long r40), .second, .unset, .unset, .unset, .unset, .unset, .unset, .unset, .unset, .unset, .unset, .unset, .unset]) rfl ?_
  show W K l _ n0 _ h25 6 45 169 #[.val (.long xl), .second, .val (.int a), .val (.int b), .val (.int c), .val (.int va), .val (.int vb), .val (.int vc), .val (.int va), .val (.int vb), .val (.int vc), .val (.long p), .second, .val (.ref b1), .val (.ref b3), .val (.ref b6), .val (.ref b10), .val (.ref b15), .val (.ref b20), .val (.long r28), .second, .val (.long r31), .second, .val (.long r34), .second, .val (.long r37), .second, .val (.long r40), .second, .unset, .unset, .unset, .unset, .unset, .unset, .unset, .unset, .unset, .unset, .unset, .unset] []
  refine w_aload ok at_169 rfl rfl ?_
  show W K l _ n0 _ h25 6 45 171 #[.val (.long xl), .second, .val (.int a), .val (.int b), .val (.int c), .val (.int va), .val (.int vb), .val (.int vc), .val (.int va), .val (.int vb), .val (.int vc), .val (.long p), .second, .val (.ref b1), .val (.ref b3), .val (.ref b6), .val (.ref b10), .val (.ref b15), .val (.ref b20), .val (.long r28), .second, .val (.long r31), .second, .val (.long r34), .second, .val (.long r37), .second, .val (.long r40), .second, .unset, .unset, .unset, .unset, .unset, .unset, .unset, .unset, .unset, .unset, .unset, .unset] [(.ref b20)]
  refine w_callS ok (y := (⟨"com/example/turnstile/turnstile/server/Commands", "parseCount", "([B)J"⟩ : MethodName)) (argsL := [(.ref b20)]) (rest := []) at_171 (hw _ (List.mem_of_getElem? (i := 28) rfl)) (hw _ (List.mem_of_getElem? (i := 29) rfl)) (hw _ (List.mem_of_getElem? (i := 30) rfl)) (hw _ (List.mem_of_getElem? (i := 31) rfl)) (by decide) pd_285bB29J rfl rfl (by decide) (Nat.le_of_ble_eq_true rfl) (by decide) (by decide) (fun z0 => rm_pc l Z a0 hw [] n0 h25 z0 b20 [va, own_d p.toInt 100000000000000000, own_d p.toInt 10000000000000000, own_d p.toInt 1000000000000000, own_d p.toInt 100000000000000, own_d p.toInt 10000000000000, own_d p.toInt 1000000000000, own_d p.toInt 100000000000, own_d p.toInt 10000000000, own_d p.toInt 1000000000, own_d p.toInt 100000000, own_d p.toInt 10000000, own_d p.toInt 1000000, own_d p.toInt 100000, own_d p.toInt 10000, own_d p.toInt 1000, own_d p.toInt 100, own_d p.toInt 10, own_d p.toInt 1, vc] A_b20) (fun v41 h42 qv41 => ?_)
  obtain ⟨r43, rfl, h_r43, rfl⟩ := qv41
  show W K l _ n0 _ h25 6 45 174 #[.val (.long xl), .second, .val (.int a), .val (.int b), .val (.int c), .val (.int va), .val (.int vb), .val (.int vc), .val (.int va), .val (.int vb), .val (.int vc), .val (.long p), .second, .val (.ref b1), .val (.ref b3), .val (.ref b6), .val (.ref b10), .val (.ref b15), .val (.ref b20), .val (.long r28), .second, .val (.long r31), .second, .val (.long r34), .second, .val (.long r37), .second, .val (.long r40), .second, .unset, .unset, .unset, .unset, .unset, .unset, .unset, .unset, .unset, .unset, .unset, .unset] [(.long r43)]
  refine w_lstore ok at_174 (L' := #[.val (.long xl), .second, .val (.int a), .val (.int b), .val (.int c), .val (.int va), .val (.int vb), .val (.int vc), .val (.int va), .val (.int vb), .val (.int vc), .val (.long p), .second, .val (.ref b1), .val (.ref b3), .val (.ref b6), .val (.ref b10), .val (.ref b15), .val (.ref b20), .val (.long r28), .second, .val (.long r31), .second, .val (.long r34), .second, .val (.long r37), .second, .val (.long r40), .second, .val (.long r43), .second, .unset, .unset, .unset, .unset, .unset, .unset, .unset, .unset, .unset, .unset]) rfl ?_
  show W K l _ n0 _ h25 6 45 176 #[.val (.long xl), .second, .val (.int a), .val (.int b), .val (.int c), .val (.int va), .val (.int vb), .val (.int vc), .val (.int va), .val (.int vb), .val (.int vc), .val (.long p), .second, .val (.ref b1), .val (.ref b3), .val (.ref b6), .val (.ref b10), .val (.ref b15), .val (.ref b20), .val (.long r28), .second, .val (.long r31), .second, .val (.long r34), .second, .val (.long r37), .second, .val (.long r40), .second, .val (.long r43), .second, .unset, .unset, .unset, .unset, .unset, .unset, .unset, .unset, .unset, .unset] []
  refine w_iload ok at_176 rfl ?_
  show W K l _ n0 _ h25 6 45 178 #[.val (.long xl), .second, .val (.int a), .val (.int b), .val (.int c), .val (.int va), .val (.int vb), .val (.int vc), .val (.int va), .val (.int vb), .val (.int vc), .val (.long p), .second, .val (.ref b1), .val (.ref b3), .val (.ref b6), .val (.ref b10), .val (.ref b15), .val (.ref b20), .val (.long r28), .second, .val (.long r31), .second, .val (.long r34), .second, .val (.long r37), .second, .val (.long r40), .second, .val (.long r43), .second, .unset, .unset, .unset, .unset, .unset, .unset, .unset, .unset, .unset, .unset] [(.int va)]
  refine w_callS ok (y := (⟨"com/example/turnstile/turnstile/server/CommandsParseCountPinLaw", "dig", "(I)Z"⟩ : MethodName)) (argsL := [(.int va)]) (rest := []) at_178 (hw _ (List.mem_of_getElem? (i := 35) rfl)) (hw _ (List.mem_of_getElem? (i := 36) rfl)) (hw _ (List.mem_of_getElem? (i := 5) rfl)) (hw _ (List.mem_of_getElem? (i := 37) rfl)) (by decide) pd_28I29Z rfl rfl (by decide) (Nat.le_of_ble_eq_true rfl) (by decide) (by decide) (fun z0 => rm_dig l Z a0 hw [] n0 h25 z0 va) (fun v44 h45 qv44 => ?_)
  obtain ⟨rfl, rfl⟩ := qv44
  show W K l _ n0 _ h25 6 45 181 #[.val (.long xl), .second, .val (.int a), .val (.int b), .val (.int c), .val (.int va), .val (.int vb), .val (.int vc), .val (.int va), .val (.int vb), .val (.int vc), .val (.long p), .second, .val (.ref b1), .val (.ref b3), .val (.ref b6), .val (.ref b10), .val (.ref b15), .val (.ref b20), .val (.long r28), .second, .val (.long r31), .second, .val (.long r34), .second, .val (.long r37), .second, .val (.long r40), .second, .val (.long r43), .second, .unset, .unset, .unset, .unset, .unset, .unset, .unset, .unset, .unset, .unset] [(.int (own_dig va))]
  refine w_if_eq ok at_181 (pc' := 193) (by decide) (fun hc47 => ?_) (fun hc47 => ?_)
  · show W K l _ n0 _ h25 6 45 193 #[.val (.long xl), .second, .val (.int a), .val (.int b), .val (.int c), .val (.int va), .val (.int vb), .val (.int vc), .val (.int va), .val (.int vb), .val (.int vc), .val (.long p), .second, .val (.ref b1), .val (.ref b3), .val (.ref b6), .val (.ref b10), .val (.ref b15), .val (.ref b20), .val (.long r28), .second, .val (.long r31), .second, .val (.long r34), .second, .val (.long r37), .second, .val (.long r40), .second, .val (.long r43), .second, .unset, .unset, .unset, .unset, .unset, .unset, .unset, .unset, .unset, .unset] []
    refine w_ldc2J (v := (-1 : Int64)) ok at_193 (hw _ (List.mem_of_getElem? (i := 38) rfl)) ?_
    show W K l _ n0 _ h25 6 45 196 #[.val (.long xl), .second, .val (.int a), .val (.int b), .val (.int c), .val (.int va), .val (.int vb), .val (.int vc), .val (.int va), .val (.int vb), .val (.int vc), .val (.long p), .second, .val (.ref b1), .val (.ref b3), .val (.ref b6), .val (.ref b10), .val (.ref b15), .val (.ref b20), .val (.long r28), .second, .val (.long r31), .second, .val (.long r34), .second, .val (.long r37), .second, .val (.long r40), .second, .val (.long r43), .second, .unset, .unset, .unset, .unset, .unset, .unset, .unset, .unset, .unset, .unset] [(.long (-1 : Int64))]
    refine w_lstore ok at_196 (L' := #[.val (.long xl), .second, .val (.int a), .val (.int b), .val (.int c), .val (.int va), .val (.int vb), .val (.int vc), .val (.int va), .val (.int vb), .val (.int vc), .val (.long p), .second, .val (.ref b1), .val (.ref b3), .val (.ref b6), .val (.ref b10), .val (.ref b15), .val (.ref b20), .val (.long r28), .second, .val (.long r31), .second, .val (.long r34), .second, .val (.long r37), .second, .val (.long r40), .second, .val (.long r43), .second, .val (.long (-1 : Int64)), .second, .unset, .unset, .unset, .unset, .unset, .unset, .unset, .unset]) rfl ?_
    show W K l _ n0 _ h25 6 45 198 #[.val (.long xl), .second, .val (.int a), .val (.int b), .val (.int c), .val (.int va), .val (.int vb), .val (.int vc), .val (.int va), .val (.int vb), .val (.int vc), .val (.long p), .second, .val (.ref b1), .val (.ref b3), .val (.ref b6), .val (.ref b10), .val (.ref b15), .val (.ref b20), .val (.long r28), .second, .val (.long r31), .second, .val (.long r34), .second, .val (.long r37), .second, .val (.long r40), .second, .val (.long r43), .second, .val (.long (-1 : Int64)), .second, .unset, .unset, .unset, .unset, .unset, .unset, .unset, .unset] []
    refine w_iload ok at_198 rfl ?_
    show W K l _ n0 _ h25 6 45 200 #[.val (.long xl), .second, .val (.int a), .val (.int b), .val (.int c), .val (.int va), .val (.int vb), .val (.int vc), .val (.int va), .val (.int vb), .val (.int vc), .val (.long p), .second, .val (.ref b1), .val (.ref b3), .val (.ref b6), .val (.ref b10), .val (.ref b15), .val (.ref b20), .val (.long r28), .second, .val (.long r31), .second, .val (.long r34), .second, .val (.long r37), .second, .val (.long r40), .second, .val (.long r43), .second, .val (.long (-1 : Int64)), .second, .unset, .unset, .unset, .unset, .unset, .unset, .unset, .unset] [(.int va)]
    refine w_callS ok (y := (⟨"com/example/turnstile/turnstile/server/CommandsParseCountPinLaw", "dig", "(I)Z"⟩ : MethodName)) (argsL := [(.int va)]) (rest := []) at_200 (hw _ (List.mem_of_getElem? (i := 35) rfl)) (hw _ (List.mem_of_getElem? (i := 36) rfl)) (hw _ (List.mem_of_getElem? (i := 5) rfl)) (hw _ (List.mem_of_getElem? (i := 37) rfl)) (by decide) pd_28I29Z rfl rfl (by decide) (Nat.le_of_ble_eq_true rfl) (by decide) (by decide) (fun z0 => rm_dig l Z a0 hw [] n0 h25 z0 va) (fun v48 h49 qv48 => ?_)
    obtain ⟨rfl, rfl⟩ := qv48
    show W K l _ n0 _ h25 6 45 203 #[.val (.long xl), .second, .val (.int a), .val (.int b), .val (.int c), .val (.int va), .val (.int vb), .val (.int vc), .val (.int va), .val (.int vb), .val (.int vc), .val (.long p), .second, .val (.ref b1), .val (.ref b3), .val (.ref b6), .val (.ref b10), .val (.ref b15), .val (.ref b20), .val (.long r28), .second, .val (.long r31), .second, .val (.long r34), .second, .val (.long r37), .second, .val (.long r40), .second, .val (.long r43), .second, .val (.long (-1 : Int64)), .second, .unset, .unset, .unset, .unset, .unset, .unset, .unset, .unset] [(.int (own_dig va))]
    refine w_if_eq ok at_203 (pc' := 232) (by decide) (fun hc51 => ?_) (fun hc51 => False.elim (by exact hc51 hc47))
    show W K l _ n0 _ h25 6 45 232 #[.val (.long xl), .second, .val (.int a), .val (.int b), .val (.int c), .val (.int va), .val (.int vb), .val (.int vc), .val (.int va), .val (.int vb), .val (.int vc), .val (.long p), .second, .val (.ref b1), .val (.ref b3), .val (.ref b6), .val (.ref b10), .val (.ref b15), .val (.ref b20), .val (.long r28), .second, .val (.long r31), .second, .val (.long r34), .second, .val (.long r37), .second, .val (.long r40), .second, .val (.long r43), .second, .val (.long (-1 : Int64)), .second, .unset, .unset, .unset, .unset, .unset, .unset, .unset, .unset] []
    refine w_ldc2J (v := (-1 : Int64)) ok at_232 (hw _ (List.mem_of_getElem? (i := 38) rfl)) ?_
    show W K l _ n0 _ h25 6 45 235 #[.val (.long xl), .second, .val (.int a), .val (.int b), .val (.int c), .val (.int va), .val (.int vb), .val (.int vc), .val (.int va), .val (.int vb), .val (.int vc), .val (.long p), .second, .val (.ref b1), .val (.ref b3), .val (.ref b6), .val (.ref b10), .val (.ref b15), .val (.ref b20), .val (.long r28), .second, .val (.long r31), .second, .val (.long r34), .second, .val (.long r37), .second, .val (.long r40), .second, .val (.long r43), .second, .val (.long (-1 : Int64)), .second, .unset, .unset, .unset, .unset, .unset, .unset, .unset, .unset] [(.long (-1 : Int64))]
    refine w_lstore ok at_235 (L' := #[.val (.long xl), .second, .val (.int a), .val (.int b), .val (.int c), .val (.int va), .val (.int vb), .val (.int vc), .val (.int va), .val (.int vb), .val (.int vc), .val (.long p), .second, .val (.ref b1), .val (.ref b3), .val (.ref b6), .val (.ref b10), .val (.ref b15), .val (.ref b20), .val (.long r28), .second, .val (.long r31), .second, .val (.long r34), .second, .val (.long r37), .second, .val (.long r40), .second, .val (.long r43), .second, .val (.long (-1 : Int64)), .second, .val (.long (-1 : Int64)), .second, .unset, .unset, .unset, .unset, .unset, .unset]) rfl ?_
    show W K l _ n0 _ h25 6 45 237 #[.val (.long xl), .second, .val (.int a), .val (.int b), .val (.int c), .val (.int va), .val (.int vb), .val (.int vc), .val (.int va), .val (.int vb), .val (.int vc), .val (.long p), .second, .val (.ref b1), .val (.ref b3), .val (.ref b6), .val (.ref b10), .val (.ref b15), .val (.ref b20), .val (.long r28), .second, .val (.long r31), .second, .val (.long r34), .second, .val (.long r37), .second, .val (.long r40), .second, .val (.long r43), .second, .val (.long (-1 : Int64)), .second, .val (.long (-1 : Int64)), .second, .unset, .unset, .unset, .unset, .unset, .unset] []
    refine w_iload ok at_237 rfl ?_
    show W K l _ n0 _ h25 6 45 239 #[.val (.long xl), .second, .val (.int a), .val (.int b), .val (.int c), .val (.int va), .val (.int vb), .val (.int vc), .val (.int va), .val (.int vb), .val (.int vc), .val (.long p), .second, .val (.ref b1), .val (.ref b3), .val (.ref b6), .val (.ref b10), .val (.ref b15), .val (.ref b20), .val (.long r28), .second, .val (.long r31), .second, .val (.long r34), .second, .val (.long r37), .second, .val (.long r40), .second, .val (.long r43), .second, .val (.long (-1 : Int64)), .second, .val (.long (-1 : Int64)), .second, .unset, .unset, .unset, .unset, .unset, .unset] [(.int va)]
    refine w_callS ok (y := (⟨"com/example/turnstile/turnstile/server/CommandsParseCountPinLaw", "dig", "(I)Z"⟩ : MethodName)) (argsL := [(.int va)]) (rest := []) at_239 (hw _ (List.mem_of_getElem? (i := 35) rfl)) (hw _ (List.mem_of_getElem? (i := 36) rfl)) (hw _ (List.mem_of_getElem? (i := 5) rfl)) (hw _ (List.mem_of_getElem? (i := 37) rfl)) (by decide) pd_28I29Z rfl rfl (by decide) (Nat.le_of_ble_eq_true rfl) (by decide) (by decide) (fun z0 => rm_dig l Z a0 hw [] n0 h25 z0 va) (fun v52 h53 qv52 => ?_)
    obtain ⟨rfl, rfl⟩ := qv52
    show W K l _ n0 _ h25 6 45 242 #[.val (.long xl), .second, .val (.int a), .val (.int b), .val (.int c), .val (.int va), .val (.int vb), .val (.int vc), .val (.int va), .val (.int vb), .val (.int vc), .val (.long p), .second, .val (.ref b1), .val (.ref b3), .val (.ref b6), .val (.ref b10), .val (.ref b15), .val (.ref b20), .val (.long r28), .second, .val (.long r31), .second, .val (.long r34), .second, .val (.long r37), .second, .val (.long r40), .second, .val (.long r43), .second, .val (.long (-1 : Int64)), .second, .val (.long (-1 : Int64)), .second, .unset, .unset, .unset, .unset, .unset, .unset] [(.int (own_dig va))]
    refine w_if_eq ok at_242 (pc' := 288) (by decide) (fun hc55 => ?_) (fun hc55 => False.elim (by exact hc55 hc47))
    show W K l _ n0 _ h25 6 45 288 #[.val (.long xl), .second, .val (.int a), .val (.int b), .val (.int c), .val (.int va), .val (.int vb), .val (.int vc), .val (.int va), .val (.int vb), .val (.int vc), .val (.long p), .second, .val (.ref b1), .val (.ref b3), .val (.ref b6), .val (.ref b10), .val (.ref b15), .val (.ref b20), .val (.long r28), .second, .val (.long r31), .second, .val (.long r34), .second, .val (.long r37), .second, .val (.long r40), .second, .val (.long r43), .second, .val (.long (-1 : Int64)), .second, .val (.long (-1 : Int64)), .second, .unset, .unset, .unset, .unset, .unset, .unset] []
    refine w_ldc2J (v := (-1 : Int64)) ok at_288 (hw _ (List.mem_of_getElem? (i := 38) rfl)) ?_
    show W K l _ n0 _ h25 6 45 291 #[.val (.long xl), .second, .val (.int a), .val (.int b), .val (.int c), .val (.int va), .val (.int vb), .val (.int vc), .val (.int va), .val (.int vb), .val (.int vc), .val (.long p), .second, .val (.ref b1), .val (.ref b3), .val (.ref b6), .val (.ref b10), .val (.ref b15), .val (.ref b20), .val (.long r28), .second, .val (.long r31), .second, .val (.long r34), .second, .val (.long r37), .second, .val (.long r40), .second, .val (.long r43), .second, .val (.long (-1 : Int64)), .second, .val (.long (-1 : Int64)), .second, .unset, .unset, .unset, .unset, .unset, .unset] [(.long (-1 : Int64))]
    refine w_lstore ok at_291 (L' := #[.val (.long xl), .second, .val (.int a), .val (.int b), .val (.int c), .val (.int va), .val (.int vb), .val (.int vc), .val (.int va), .val (.int vb), .val (.int vc), .val (.long p), .second, .val (.ref b1), .val (.ref b3), .val (.ref b6), .val (.ref b10), .val (.ref b15), .val (.ref b20), .val (.long r28), .second, .val (.long r31), .second, .val (.long r34), .second, .val (.long r37), .second, .val (.long r40), .second, .val (.long r43), .second, .val (.long (-1 : Int64)), .second, .val (.long (-1 : Int64)), .second, .val (.long (-1 : Int64)), .second, .unset, .unset, .unset, .unset]) rfl ?_
    show W K l _ n0 _ h25 6 45 293 #[.val (.long xl), .second, .val (.int a), .val (.int b), .val (.int c), .val (.int va), .val (.int vb), .val (.int vc), .val (.int va), .val (.int vb), .val (.int vc), .val (.long p), .second, .val (.ref b1), .val (.ref b3), .val (.ref b6), .val (.ref b10), .val (.ref b15), .val (.ref b20), .val (.long r28), .second, .val (.long r31), .second, .val (.long r34), .second, .val (.long r37), .second, .val (.long r40), .second, .val (.long r43), .second, .val (.long (-1 : Int64)), .second, .val (.long (-1 : Int64)), .second, .val (.long (-1 : Int64)), .second, .unset, .unset, .unset, .unset] []
    refine w_lload ok at_293 rfl ?_
    show W K l _ n0 _ h25 6 45 295 #[.val (.long xl), .second, .val (.int a), .val (.int b), .val (.int c), .val (.int va), .val (.int vb), .val (.int vc), .val (.int va), .val (.int vb), .val (.int vc), .val (.long p), .second, .val (.ref b1), .val (.ref b3), .val (.ref b6), .val (.ref b10), .val (.ref b15), .val (.ref b20), .val (.long r28), .second, .val (.long r31), .second, .val (.long r34), .second, .val (.long r37), .second, .val (.long r40), .second, .val (.long r43), .second, .val (.long (-1 : Int64)), .second, .val (.long (-1 : Int64)), .second, .val (.long (-1 : Int64)), .second, .unset, .unset, .unset, .unset] [(.long p)]
    refine w_iload ok at_295 rfl ?_
    show W K l _ n0 _ h25 6 45 297 #[.val (.long xl), .second, .val (.int a), .val (.int b), .val (.int c), .val (.int va), .val (.int vb), .val (.int vc), .val (.int va), .val (.int vb), .val (.int vc), .val (.long p), .second, .val (.ref b1), .val (.ref b3), .val (.ref b6), .val (.ref b10), .val (.ref b15), .val (.ref b20), .val (.long r28), .second, .val (.long r31), .second, .val (.long r34), .second, .val (.long r37), .second, .val (.long r40), .second, .val (.long r43), .second, .val (.long (-1 : Int64)), .second, .val (.long (-1 : Int64)), .second, .val (.long (-1 : Int64)), .second, .unset, .unset, .unset, .unset] [(.int vc), (.long p)]
    refine w_callS ok (y := (⟨"com/example/turnstile/turnstile/server/CommandsParseCountPinLaw", "exp19", "(JI)J"⟩ : MethodName)) (argsL := [(.long p), (.int vc)]) (rest := []) at_297 (hw _ (List.mem_of_getElem? (i := 39) rfl)) (hw _ (List.mem_of_getElem? (i := 40) rfl)) (hw _ (List.mem_of_getElem? (i := 5) rfl)) (hw _ (List.mem_of_getElem? (i := 41) rfl)) (by decide) pd_28JI29J rfl rfl (by decide) (Nat.le_of_ble_eq_true rfl) (by decide) (by decide) (fun z0 => rm_e19 l Z a0 hw [] n0 h25 z0 p vc hp0 hp2) (fun v56 h57 qv56 => ?_)
    obtain ⟨r58, rfl, h_r58, rfl⟩ := qv56
    show W K l _ n0 _ h25 6 45 300 #[.val (.long xl), .second, .val (.int a), .val (.int b), .val (.int c), .val (.int va), .val (.int vb), .val (.int vc), .val (.int va), .val (.int vb), .val (.int vc), .val (.long p), .second, .val (.ref b1), .val (.ref b3), .val (.ref b6), .val (.ref b10), .val (.ref b15), .val (.ref b20), .val (.long r28), .second, .val (.long r31), .second, .val (.long r34), .second, .val (.long r37), .second, .val (.long r40), .second, .val (.long r43), .second, .val (.long (-1 : Int64)), .second, .val (.long (-1 : Int64)), .second, .val (.long (-1 : Int64)), .second, .unset, .unset, .unset, .unset] [(.long r58)]
    refine w_lstore ok at_300 (L' := #[.val (.long xl), .second, .val (.int a), .val (.int b), .val (.int c), .val (.int va), .val (.int vb), .val (.int vc), .val (.int va), .val (.int vb), .val (.int vc), .val (.long p), .second, .val (.ref b1), .val (.ref b3), .val (.ref b6), .val (.ref b10), .val (.ref b15), .val (.ref b20), .val (.long r28), .second, .val (.long r31), .second, .val (.long r34), .second, .val (.long r37), .second, .val (.long r40), .second, .val (.long r43), .second, .val (.long (-1 : Int64)), .second, .val (.long (-1 : Int64)), .second, .val (.long (-1 : Int64)), .second, .val (.long r58), .second, .unset, .unset]) rfl ?_
    show W K l _ n0 _ h25 6 45 302 #[.val (.long xl), .second, .val (.int a), .val (.int b), .val (.int c), .val (.int va), .val (.int vb), .val (.int vc), .val (.int va), .val (.int vb), .val (.int vc), .val (.long p), .second, .val (.ref b1), .val (.ref b3), .val (.ref b6), .val (.ref b10), .val (.ref b15), .val (.ref b20), .val (.long r28), .second, .val (.long r31), .second, .val (.long r34), .second, .val (.long r37), .second, .val (.long r40), .second, .val (.long r43), .second, .val (.long (-1 : Int64)), .second, .val (.long (-1 : Int64)), .second, .val (.long (-1 : Int64)), .second, .val (.long r58), .second, .unset, .unset] []
    refine w_iload ok at_302 rfl ?_
    show W K l _ n0 _ h25 6 45 304 #[.val (.long xl), .second, .val (.int a), .val (.int b), .val (.int c), .val (.int va), .val (.int vb), .val (.int vc), .val (.int va), .val (.int vb), .val (.int vc), .val (.long p), .second, .val (.ref b1), .val (.ref b3), .val (.ref b6), .val (.ref b10), .val (.ref b15), .val (.ref b20), .val (.long r28), .second, .val (.long r31), .second, .val (.long r34), .second, .val (.long r37), .second, .val (.long r40), .second, .val (.long r43), .second, .val (.long (-1 : Int64)), .second, .val (.long (-1 : Int64)), .second, .val (.long (-1 : Int64)), .second, .val (.long r58), .second, .unset, .unset] [(.int va)]
    refine w_callS ok (y := (⟨"com/example/turnstile/turnstile/server/CommandsParseCountPinLaw", "dig", "(I)Z"⟩ : MethodName)) (argsL := [(.int va)]) (rest := []) at_304 (hw _ (List.mem_of_getElem? (i := 35) rfl)) (hw _ (List.mem_of_getElem? (i := 36) rfl)) (hw _ (List.mem_of_getElem? (i := 5) rfl)) (hw _ (List.mem_of_getElem? (i := 37) rfl)) (by decide) pd_28I29Z rfl rfl (by decide) (Nat.le_of_ble_eq_true rfl) (by decide) (by decide) (fun z0 => rm_dig l Z a0 hw [] n0 h25 z0 va) (fun v59 h60 qv59 => ?_)
    obtain ⟨rfl, rfl⟩ := qv59
    show W K l _ n0 _ h25 6 45 307 #[.val (.long xl), .second, .val (.int a), .val (.int b), .val (.int c), .val (.int va), .val (.int vb), .val (.int vc), .val (.int va), .val (.int vb), .val (.int vc), .val (.long p), .second, .val (.ref b1), .val (.ref b3), .val (.ref b6), .val (.ref b10), .val (.ref b15), .val (.ref b20), .val (.long r28), .second, .val (.long r31), .second, .val (.long r34), .second, .val (.long r37), .second, .val (.long r40), .second, .val (.long r43), .second, .val (.long (-1 : Int64)), .second, .val (.long (-1 : Int64)), .second, .val (.long (-1 : Int64)), .second, .val (.long r58), .second, .unset, .unset] [(.int (own_dig va))]
    refine w_if_ne ok at_307 (pc' := 318) (by decide) (fun hc62 => False.elim (by exact hc62 hc47)) (fun hc62 => ?_)
    show W K l _ n0 _ h25 6 45 310 #[.val (.long xl), .second, .val (.int a), .val (.int b), .val (.int c), .val (.int va), .val (.int vb), .val (.int vc), .val (.int va), .val (.int vb), .val (.int vc), .val (.long p), .second, .val (.ref b1), .val (.ref b3), .val (.ref b6), .val (.ref b10), .val (.ref b15), .val (.ref b20), .val (.long r28), .second, .val (.long r31), .second, .val (.long r34), .second, .val (.long r37), .second, .val (.long r40), .second, .val (.long r43), .second, .val (.long (-1 : Int64)), .second, .val (.long (-1 : Int64)), .second, .val (.long (-1 : Int64)), .second, .val (.long r58), .second, .unset, .unset] []
    refine w_ldc2J (v := (-1 : Int64)) ok at_310 (hw _ (List.mem_of_getElem? (i := 38) rfl)) ?_
    show W K l _ n0 _ h25 6 45 313 #[.val (.long xl), .second, .val (.int a), .val (.int b), .val (.int c), .val (.int va), .val (.int vb), .val (.int vc), .val (.int va), .val (.int vb), .val (.int vc), .val (.long p), .second, .val (.ref b1), .val (.ref b3), .val (.ref b6), .val (.ref b10), .val (.ref b15), .val (.ref b20), .val (.long r28), .second, .val (.long r31), .second, .val (.long r34), .second, .val (.long r37), .second, .val (.long r40), .second, .val (.long r43), .second, .val (.long (-1 : Int64)), .second, .val (.long (-1 : Int64)), .second, .val (.long (-1 : Int64)), .second, .val (.long r58), .second, .unset, .unset] [(.long (-1 : Int64))]
    refine w_lstore ok at_313 (L' := #[.val (.long xl), .second, .val (.int a), .val (.int b), .val (.int c), .val (.int va), .val (.int vb), .val (.int vc), .val (.int va), .val (.int vb), .val (.int vc), .val (.long p), .second, .val (.ref b1), .val (.ref b3), .val (.ref b6), .val (.ref b10), .val (.ref b15), .val (.ref b20), .val (.long r28), .second, .val (.long r31), .second, .val (.long r34), .second, .val (.long r37), .second, .val (.long r40), .second, .val (.long r43), .second, .val (.long (-1 : Int64)), .second, .val (.long (-1 : Int64)), .second, .val (.long (-1 : Int64)), .second, .val (.long r58), .second, .val (.long (-1 : Int64)), .second]) rfl ?_
    show W K l _ n0 _ h25 6 45 315 #[.val (.long xl), .second, .val (.int a), .val (.int b), .val (.int c), .val (.int va), .val (.int vb), .val (.int vc), .val (.int va), .val (.int vb), .val (.int vc), .val (.long p), .second, .val (.ref b1), .val (.ref b3), .val (.ref b6), .val (.ref b10), .val (.ref b15), .val (.ref b20), .val (.long r28), .second, .val (.long r31), .second, .val (.long r34), .second, .val (.long r37), .second, .val (.long r40), .second, .val (.long r43), .second, .val (.long (-1 : Int64)), .second, .val (.long (-1 : Int64)), .second, .val (.long (-1 : Int64)), .second, .val (.long r58), .second, .val (.long (-1 : Int64)), .second] []
    refine w_goto ok at_315 (pc' := 337) (by decide) ?_
    show W K l _ n0 _ h25 6 45 337 #[.val (.long xl), .second, .val (.int a), .val (.int b), .val (.int c), .val (.int va), .val (.int vb), .val (.int vc), .val (.int va), .val (.int vb), .val (.int vc), .val (.long p), .second, .val (.ref b1), .val (.ref b3), .val (.ref b6), .val (.ref b10), .val (.ref b15), .val (.ref b20), .val (.long r28), .second, .val (.long r31), .second, .val (.long r34), .second, .val (.long r37), .second, .val (.long r40), .second, .val (.long r43), .second, .val (.long (-1 : Int64)), .second, .val (.long (-1 : Int64)), .second, .val (.long (-1 : Int64)), .second, .val (.long r58), .second, .val (.long (-1 : Int64)), .second] []
    refine w_lload ok at_337 rfl ?_
    show W K l _ n0 _ h25 6 45 339 #[.val (.long xl), .second, .val (.int a), .val (.int b), .val (.int c), .val (.int va), .val (.int vb), .val (.int vc), .val (.int va), .val (.int vb), .val (.int vc), .val (.long p), .second, .val (.ref b1), .val (.ref b3), .val (.ref b6), .val (.ref b10), .val (.ref b15), .val (.ref b20), .val (.long r28), .second, .val (.long r31), .second, .val (.long r34), .second, .val (.long r37), .second, .val (.long r40), .second, .val (.long r43), .second, .val (.long (-1 : Int64)), .second, .val (.long (-1 : Int64)), .second, .val (.long (-1 : Int64)), .second, .val (.long r58), .second, .val (.long (-1 : Int64)), .second] [(.long r28)]
    refine w_ldc2J (v := (-1 : Int64)) ok at_339 (hw _ (List.mem_of_getElem? (i := 38) rfl)) ?_
    show W K l _ n0 _ h25 6 45 342 #[.val (.long xl), .second, .val (.int a), .val (.int b), .val (.int c), .val (.int va), .val (.int vb), .val (.int vc), .val (.int va), .val (.int vb), .val (.int vc), .val (.long p), .second, .val (.ref b1), .val (.ref b3), .val (.ref b6), .val (.ref b10), .val (.ref b15), .val (.ref b20), .val (.long r28), .second, .val (.long r31), .second, .val (.long r34), .second, .val (.long r37), .second, .val (.long r40), .second, .val (.long r43), .second, .val (.long (-1 : Int64)), .second, .val (.long (-1 : Int64)), .second, .val (.long (-1 : Int64)), .second, .val (.long r58), .second, .val (.long (-1 : Int64)), .second] [(.long (-1 : Int64)), (.long r28)]
    refine w_lcmp_ne ok at_342 at_343 (pc' := 390) (by decide) (fun hc64 => False.elim (by exact hc64 (Int64.toInt_inj.mp (by rw [h_r28] <;> rfl)))) (fun hc64 => ?_)
    show W K l _ n0 _ h25 6 45 346 #[.val (.long xl), .second, .val (.int a), .val (.int b), .val (.int c), .val (.int va), .val (.int vb), .val (.int vc), .val (.int va), .val (.int vb), .val (.int vc), .val (.long p), .second, .val (.ref b1), .val (.ref b3), .val (.ref b6), .val (.ref b10), .val (.ref b15), .val (.ref b20), .val (.long r28), .second, .val (.long r31), .second, .val (.long r34), .second, .val (.long r37), .second, .val (.long r40), .second, .val (.long r43), .second, .val (.long (-1 : Int64)), .second, .val (.long (-1 : Int64)), .second, .val (.long (-1 : Int64)), .second, .val (.long r58), .second, .val (.long (-1 : Int64)), .second] []
    refine w_lload ok at_346 rfl ?_
    show W K l _ n0 _ h25 6 45 348 #[.val (.long xl), .second, .val (.int a), .val (.int b), .val (.int c), .val (.int va), .val (.int vb), .val (.int vc), .val (.int va), .val (.int vb), .val (.int vc), .val (.long p), .second, .val (.ref b1), .val (.ref b3), .val (.ref b6), .val (.ref b10), .val (.ref b15), .val (.ref b20), .val (.long r28), .second, .val (.long r31), .second, .val (.long r34), .second, .val (.long r37), .second, .val (.long r40), .second, .val (.long r43), .second, .val (.long (-1 : Int64)), .second, .val (.long (-1 : Int64)), .second, .val (.long (-1 : Int64)), .second, .val (.long r58), .second, .val (.long (-1 : Int64)), .second] [(.long r31)]
    refine w_lload ok at_348 rfl ?_
    show W K l _ n0 _ h25 6 45 350 #[.val (.long xl), .second, .val (.int a), .val (.int b), .val (.int c), .val (.int va), .val (.int vb), .val (.int vc), .val (.int va), .val (.int vb), .val (.int vc), .val (.long p), .second, .val (.ref b1), .val (.ref b3), .val (.ref b6), .val (.ref b10), .val (.ref b15), .val (.ref b20), .val (.long r28), .second, .val (.long r31), .second, .val (.long r34), .second, .val (.long r37), .second, .val (.long r40), .second, .val (.long r43), .second, .val (.long (-1 : Int64)), .second, .val (.long (-1 : Int64)), .second, .val (.long (-1 : Int64)), .second, .val (.long r58), .second, .val (.long (-1 : Int64)), .second] [(.long (-1 : Int64)), (.long r31)]
    refine w_lcmp_ne ok at_350 at_351 (pc' := 390) (by decide) (fun hc66 => False.elim (by exact hc66 (Int64.toInt_inj.mp (by rw [h_r31, own_r1f (own_dig_f hc47)] <;> rfl)))) (fun hc66 => ?_)
    show W K l _ n0 _ h25 6 45 354 #[.val (.long xl), .second, .val (.int a), .val (.int b), .val (.int c), .val (.int va), .val (.int vb), .val (.int vc), .val (.int va), .val (.int vb), .val (.int vc), .val (.long p), .second, .val (.ref b1), .val (.ref b3), .val (.ref b6), .val (.ref b10), .val (.ref b15), .val (.ref b20), .val (.long r28), .second, .val (.long r31), .second, .val (.long r34), .second, .val (.long r37), .second, .val (.long r40), .second, .val (.long r43), .second, .val (.long (-1 : Int64)), .second, .val (.long (-1 : Int64)), .second, .val (.long (-1 : Int64)), .second, .val (.long r58), .second, .val (.long (-1 : Int64)), .second] []
    refine w_lload ok at_354 rfl ?_
    show W K l _ n0 _ h25 6 45 356 #[.val (.long xl), .second, .val (.int a), .val (.int b), .val (.int c), .val (.int va), .val (.int vb), .val (.int vc), .val (.int va), .val (.int vb), .val (.int vc), .val (.long p), .second, .val (.ref b1), .val (.ref b3), .val (.ref b6), .val (.ref b10), .val (.ref b15), .val (.ref b20), .val (.long r28), .second, .val (.long r31), .second, .val (.long r34), .second, .val (.long r37), .second, .val (.long r40), .second, .val (.long r43), .second, .val (.long (-1 : Int64)), .second, .val (.long (-1 : Int64)), .second, .val (.long (-1 : Int64)), .second, .val (.long r58), .second, .val (.long (-1 : Int64)), .second] [(.long r34)]
    refine w_lload ok at_356 rfl ?_
    show W K l _ n0 _ h25 6 45 358 #[.val (.long xl), .second, .val (.int a), .val (.int b), .val (.int c), .val (.int va), .val (.int vb), .val (.int vc), .val (.int va), .val (.int vb), .val (.int vc), .val (.long p), .second, .val (.ref b1), .val (.ref b3), .val (.ref b6), .val (.ref b10), .val (.ref b15), .val (.ref b20), .val (.long r28), .second, .val (.long r31), .second, .val (.long r34), .second, .val (.long r37), .second, .val (.long r40), .second, .val (.long r43), .second, .val (.long (-1 : Int64)), .second, .val (.long (-1 : Int64)), .second, .val (.long (-1 : Int64)), .second, .val (.long r58), .second, .val (.long (-1 : Int64)), .second] [(.long (-1 : Int64)), (.long r34)]
    refine w_lcmp_ne ok at_358 at_359 (pc' := 390) (by decide) (fun hc68 => False.elim (by exact hc68 (Int64.toInt_inj.mp (by rw [h_r34, own_r2a (own_dig_f hc47)] <;> rfl)))) (fun hc68 => ?_)
    show W K l _ n0 _ h25 6 45 362 #[.val (.long xl), .second, .val (.int a), .val (.int b), .val (.int c), .val (.int va), .val (.int vb), .val (.int vc), .val (.int va), .val (.int vb), .val (.int vc), .val (.long p), .second, .val (.ref b1), .val (.ref b3), .val (.ref b6), .val (.ref b10), .val (.ref b15), .val (.ref b20), .val (.long r28), .second, .val (.long r31), .second, .val (.long r34), .second, .val (.long r37), .second, .val (.long r40), .second, .val (.long r43), .second, .val (.long (-1 : Int64)), .second, .val (.long (-1 : Int64)), .second, .val (.long (-1 : Int64)), .second, .val (.long r58), .second, .val (.long (-1 : Int64)), .second] []
    refine w_lload ok at_362 rfl ?_
    show W K l _ n0 _ h25 6 45 364 #[.val (.long xl), .second, .val (.int a), .val (.int b), .val (.int c), .val (.int va), .val (.int vb), .val (.int vc), .val (.int va), .val (.int vb), .val (.int vc), .val (.long p), .second, .val (.ref b1), .val (.ref b3), .val (.ref b6), .val (.ref b10), .val (.ref b15), .val (.ref b20), .val (.long r28), .second, .val (.long r31), .second, .val (.long r34), .second, .val (.long r37), .second, .val (.long r40), .second, .val (.long r43), .second, .val (.long (-1 : Int64)), .second, .val (.long (-1 : Int64)), .second, .val (.long (-1 : Int64)), .second, .val (.long r58), .second, .val (.long (-1 : Int64)), .second] [(.long r37)]
    refine w_lload ok at_364 rfl ?_
    show W K l _ n0 _ h25 6 45 366 #[.val (.long xl), .second, .val (.int a), .val (.int b), .val (.int c), .val (.int va), .val (.int vb), .val (.int vc), .val (.int va), .val (.int vb), .val (.int vc), .val (.long p), .second, .val (.ref b1), .val (.ref b3), .val (.ref b6), .val (.ref b10), .val (.ref b15), .val (.ref b20), .val (.long r28), .second, .val (.long r31), .second, .val (.long r34), .second, .val (.long r37), .second, .val (.long r40), .second, .val (.long r43), .second, .val (.long (-1 : Int64)), .second, .val (.long (-1 : Int64)), .second, .val (.long (-1 : Int64)), .second, .val (.long r58), .second, .val (.long (-1 : Int64)), .second] [(.long (-1 : Int64)), (.long r37)]
    refine w_lcmp_ne ok at_366 at_367 (pc' := 390) (by decide) (fun hc70 => False.elim (by exact hc70 (Int64.toInt_inj.mp (by rw [h_r37, own_r3a (own_dig_f hc47)] <;> rfl)))) (fun hc70 => ?_)
    show W K l _ n0 _ h25 6 45 370 #[.val (.long xl), .second, .val (.int a), .val (.int b), .val (.int c), .val (.int va), .val (.int vb), .val (.int vc), .val (.int va), .val (.int vb), .val (.int vc), .val (.long p), .second, .val (.ref b1), .val (.ref b3), .val (.ref b6), .val (.ref b10), .val (.ref b15), .val (.ref b20), .val (.long r28), .second, .val (.long r31), .second, .val (.long r34), .second, .val (.long r37), .second, .val (.long r40), .second, .val (.long r43), .second, .val (.long (-1 : Int64)), .second, .val (.long (-1 : Int64)), .second, .val (.long (-1 : Int64)), .second, .val (.long r58), .second, .val (.long (-1 : Int64)), .second] []
    refine w_lload ok at_370 rfl ?_
    show W K l _ n0 _ h25 6 45 372 #[.val (.long xl), .second, .val (.int a), .val (.int b), .val (.int c), .val (.int va), .val (.int vb), .val (.int vc), .val (.int va), .val (.int vb), .val (.int vc), .val (.long p), .second, .val (.ref b1), .val (.ref b3), .val (.ref b6), .val (.ref b10), .val (.ref b15), .val (.ref b20), .val (.long r28), .second, .val (.long r31), .second, .val (.long r34), .second, .val (.long r37), .second, .val (.long r40), .second, .val (.long r43), .second, .val (.long (-1 : Int64)), .second, .val (.long (-1 : Int64)), .second, .val (.long (-1 : Int64)), .second, .val (.long r58), .second, .val (.long (-1 : Int64)), .second] [(.long r40)]
    refine w_lload ok at_372 rfl ?_
    show W K l _ n0 _ h25 6 45 374 #[.val (.long xl), .second, .val (.int a), .val (.int b), .val (.int c), .val (.int va), .val (.int vb), .val (.int vc), .val (.int va), .val (.int vb), .val (.int vc), .val (.long p), .second, .val (.ref b1), .val (.ref b3), .val (.ref b6), .val (.ref b10), .val (.ref b15), .val (.ref b20), .val (.long r28), .second, .val (.long r31), .second, .val (.long r34), .second, .val (.long r37), .second, .val (.long r40), .second, .val (.long r43), .second, .val (.long (-1 : Int64)), .second, .val (.long (-1 : Int64)), .second, .val (.long (-1 : Int64)), .second, .val (.long r58), .second, .val (.long (-1 : Int64)), .second] [(.long r58), (.long r40)]
    refine w_lcmp_ne ok at_374 at_375 (pc' := 390) (by decide) (fun hc72 => False.elim (by exact hc72 (Int64.toInt_inj.mp (by rw [h_r40, h_r58, own_l19, own_r19 p.toInt hp0 hp2 vc])))) (fun hc72 => ?_)
    show W K l _ n0 _ h25 6 45 378 #[.val (.long xl), .second, .val (.int a), .val (.int b), .val (.int c), .val (.int va), .val (.int vb), .val (.int vc), .val (.int va), .val (.int vb), .val (.int vc), .val (.long p), .second, .val (.ref b1), .val (.ref b3), .val (.ref b6), .val (.ref b10), .val (.ref b15), .val (.ref b20), .val (.long r28), .second, .val (.long r31), .second, .val (.long r34), .second, .val (.long r37), .second, .val (.long r40), .second, .val (.long r43), .second, .val (.long (-1 : Int64)), .second, .val (.long (-1 : Int64)), .second, .val (.long (-1 : Int64)), .second, .val (.long r58), .second, .val (.long (-1 : Int64)), .second] []
    refine w_lload ok at_378 rfl ?_
    show W K l _ n0 _ h25 6 45 380 #[.val (.long xl), .second, .val (.int a), .val (.int b), .val (.int c), .val (.int va), .val (.int vb), .val (.int vc), .val (.int va), .val (.int vb), .val (.int vc), .val (.long p), .second, .val (.ref b1), .val (.ref b3), .val (.ref b6), .val (.ref b10), .val (.ref b15), .val (.ref b20), .val (.long r28), .second, .val (.long r31), .second, .val (.long r34), .second, .val (.long r37), .second, .val (.long r40), .second, .val (.long r43), .second, .val (.long (-1 : Int64)), .second, .val (.long (-1 : Int64)), .second, .val (.long (-1 : Int64)), .second, .val (.long r58), .second, .val (.long (-1 : Int64)), .second] [(.long r43)]
    refine w_lload ok at_380 rfl ?_
    show W K l _ n0 _ h25 6 45 382 #[.val (.long xl), .second, .val (.int a), .val (.int b), .val (.int c), .val (.int va), .val (.int vb), .val (.int vc), .val (.int va), .val (.int vb), .val (.int vc), .val (.long p), .second, .val (.ref b1), .val (.ref b3), .val (.ref b6), .val (.ref b10), .val (.ref b15), .val (.ref b20), .val (.long r28), .second, .val (.long r31), .second, .val (.long r34), .second, .val (.long r37), .second, .val (.long r40), .second, .val (.long r43), .second, .val (.long (-1 : Int64)), .second, .val (.long (-1 : Int64)), .second, .val (.long (-1 : Int64)), .second, .val (.long r58), .second, .val (.long (-1 : Int64)), .second] [(.long (-1 : Int64)), (.long r43)]
    refine w_lcmp_ne ok at_382 at_383 (pc' := 390) (by decide) (fun hc74 => False.elim (by exact hc74 (Int64.toInt_inj.mp (by rw [h_r43, own_l19, own_r20 p.toInt hp0 hp2 va vc, if_neg (own_48n (own_dig_f hc47))] <;> rfl)))) (fun hc74 => ?_)
    show W K l _ n0 _ h25 6 45 386 #[.val (.long xl), .second, .val (.int a), .val (.int b), .val (.int c), .val (.int va), .val (.int vb), .val (.int vc), .val (.int va), .val (.int vb), .val (.int vc), .val (.long p), .second, .val (.ref b1), .val (.ref b3), .val (.ref b6), .val (.ref b10), .val (.ref b15), .val (.ref b20), .val (.long r28), .second, .val (.long r31), .second, .val (.long r34), .second, .val (.long r37), .second, .val (.long r40), .second, .val (.long r43), .second, .val (.long (-1 : Int64)), .second, .val (.long (-1 : Int64)), .second, .val (.long (-1 : Int64)), .second, .val (.long r58), .second, .val (.long (-1 : Int64)), .second] []
    refine w_iconst ok at_386 (v := (1 : Int32)) rfl ?_
    show W K l _ n0 _ h25 6 45 387 #[.val (.long xl), .second, .val (.int a), .val (.int b), .val (.int c), .val (.int va), .val (.int vb), .val (.int vc), .val (.int va), .val (.int vb), .val (.int vc), .val (.long p), .second, .val (.ref b1), .val (.ref b3), .val (.ref b6), .val (.ref b10), .val (.ref b15), .val (.ref b20), .val (.long r28), .second, .val (.long r31), .second, .val (.long r34), .second, .val (.long r37), .second, .val (.long r40), .second, .val (.long r43), .second, .val (.long (-1 : Int64)), .second, .val (.long (-1 : Int64)), .second, .val (.long (-1 : Int64)), .second, .val (.long r58), .second, .val (.long (-1 : Int64)), .second] [(.int (1 : Int32))]
    refine w_goto ok at_387 (pc' := 391) (by decide) ?_
    show W K l _ n0 _ h25 6 45 391 #[.val (.long xl), .second, .val (.int a), .val (.int b), .val (.int c), .val (.int va), .val (.int vb), .val (.int vc), .val (.int va), .val (.int vb), .val (.int vc), .val (.long p), .second, .val (.ref b1), .val (.ref b3), .val (.ref b6), .val (.ref b10), .val (.ref b15), .val (.ref b20), .val (.long r28), .second, .val (.long r31), .second, .val (.long r34), .second, .val (.long r37), .second, .val (.long r40), .second, .val (.long r43), .second, .val (.long (-1 : Int64)), .second, .val (.long (-1 : Int64)), .second, .val (.long (-1 : Int64)), .second, .val (.long r58), .second, .val (.long (-1 : Int64)), .second] [(.int (1 : Int32))]
    refine w_bret ok (by simp) at_391 (by decide) (by decide) ?_
    exact rfl
  · show W K l _ n0 _ h25 6 45 184 #[.val (.long xl), .second, .val (.int a), .val (.int b), .val (.int c), .val (.int va), .val (.int vb), .val (.int vc), .val (.int va), .val (.int vb), .val (.int vc), .val (.long p), .second, .val (.ref b1), .val (.ref b3), .val (.ref b6), .val (.ref b10), .val (.ref b15), .val (.ref b20), .val (.long r28), .second, .val (.long r31), .second, .val (.long r34), .second, .val (.long r37), .second, .val (.long r40), .second, .val (.long r43), .second, .unset, .unset, .unset, .unset, .unset, .unset, .unset, .unset, .unset, .unset] []
    refine w_iload ok at_184 rfl ?_
    show W K l _ n0 _ h25 6 45 186 #[.val (.long xl), .second, .val (.int a), .val (.int b), .val (.int c), .val (.int va), .val (.int vb), .val (.int vc), .val (.int va), .val (.int vb), .val (.int vc), .val (.long p), .second, .val (.ref b1), .val (.ref b3), .val (.ref b6), .val (.ref b10), .val (.ref b15), .val (.ref b20), .val (.long r28), .second, .val (.long r31), .second, .val (.long r34), .second, .val (.long r37), .second, .val (.long r40), .second, .val (.long r43), .second, .unset, .unset, .unset, .unset, .unset, .unset, .unset, .unset, .unset, .unset] [(.int va)]
    refine w_bipush ok at_186 (v := (48 : Int32)) rfl ?_
    show W K l _ n0 _ h25 6 45 188 #[.val (.long xl), .second, .val (.int a), .val (.int b), .val (.int c), .val (.int va), .val (.int vb), .val (.int vc), .val (.int va), .val (.int vb), .val (.int vc), .val (.long p), .second, .val (.ref b1), .val (.ref b3), .val (.ref b6), .val (.ref b10), .val (.ref b15), .val (.ref b20), .val (.long r28), .second, .val (.long r31), .second, .val (.long r34), .second, .val (.long r37), .second, .val (.long r40), .second, .val (.long r43), .second, .unset, .unset, .unset, .unset, .unset, .unset, .unset, .unset, .unset, .unset] [(.int (48 : Int32)), (.int va)]
    refine w_isub ok at_188 ?_
    show W K l _ n0 _ h25 6 45 189 #[.val (.long xl), .second, .val (.int a), .val (.int b), .val (.int c), .val (.int va), .val (.int vb), .val (.int vc), .val (.int va), .val (.int vb), .val (.int vc), .val (.long p), .second, .val (.ref b1), .val (.ref b3), .val (.ref b6), .val (.ref b10), .val (.ref b15), .val (.ref b20), .val (.long r28), .second, .val (.long r31), .second, .val (.long r34), .second, .val (.long r37), .second, .val (.long r40), .second, .val (.long r43), .second, .unset, .unset, .unset, .unset, .unset, .unset, .unset, .unset, .unset, .unset] [(.int (va - (48 : Int32)))]
    refine w_i2l ok at_189 ?_
    show W K l _ n0 _ h25 6 45 190 #[.val (.long xl), .second, .val (.int a), .val (.int b), .val (.int c), .val (.int va), .val (.int vb), .val (.int vc), .val (.int va), .val (.int vb), .val (.int vc), .val (.long p), .second, .val (.ref b1), .val (.ref b3), .val (.ref b6), .val (.ref b10), .val (.ref b15), .val (.ref b20), .val (.long r28), .second, .val (.long r31), .second, .val (.long r34), .second, .val (.long r37), .second, .val (.long r40), .second, .val (.long r43), .second, .unset, .unset, .unset, .unset, .unset, .unset, .unset, .unset, .unset, .unset] [(.long ((va - (48 : Int32)).toInt64))]
    refine w_goto ok at_190 (pc' := 196) (by decide) ?_
    show W K l _ n0 _ h25 6 45 196 #[.val (.long xl), .second, .val (.int a), .val (.int b), .val (.int c), .val (.int va), .val (.int vb), .val (.int vc), .val (.int va), .val (.int vb), .val (.int vc), .val (.long p), .second, .val (.ref b1), .val (.ref b3), .val (.ref b6), .val (.ref b10), .val (.ref b15), .val (.ref b20), .val (.long r28), .second, .val (.long r31), .second, .val (.long r34), .second, .val (.long r37), .second, .val (.long r40), .second, .val (.long r43), .second, .unset, .unset, .unset, .unset, .unset, .unset, .unset, .unset, .unset, .unset] [(.long ((va - (48 : Int32)).toInt64))]
    refine w_lstore ok at_196 (L' := #[.val (.long xl), .second, .val (.int a), .val (.int b), .val (.int c), .val (.int va), .val (.int vb), .val (.int vc), .val (.int va), .val (.int vb), .val (.int vc), .val (.long p), .second, .val (.ref b1), .val (.ref b3), .val (.ref b6), .val (.ref b10), .val (.ref b15), .val (.ref b20), .val (.long r28), .second, .val (.long r31), .second, .val (.long r34), .second, .val (.long r37), .second, .val (.long r40), .second, .val (.long r43), .second, .val (.long ((va - (48 : Int32)).toInt64)), .second, .unset, .unset, .unset, .unset, .unset, .unset, .unset, .unset]) rfl ?_
    show W K l _ n0 _ h25 6 45 198 #[.val (.long xl), .second, .val (.int a), .val (.int b), .val (.int c), .val (.int va), .val (.int vb), .val (.int vc), .val (.int va), .val (.int vb), .val (.int vc), .val (.long p), .second, .val (.ref b1), .val (.ref b3), .val (.ref b6), .val (.ref b10), .val (.ref b15), .val (.ref b20), .val (.long r28), .second, .val (.long r31), .second, .val (.long r34), .second, .val (.long r37), .second, .val (.long r40), .second, .val (.long r43), .second, .val (.long ((va - (48 : Int32)).toInt64)), .second, .unset, .unset, .unset, .unset, .unset, .unset, .unset, .unset] []
    refine w_iload ok at_198 rfl ?_
    show W K l _ n0 _ h25 6 45 200 #[.val (.long xl), .second, .val (.int a), .val (.int b), .val (.int c), .val (.int va), .val (.int vb), .val (.int vc), .val (.int va), .val (.int vb), .val (.int vc), .val (.long p), .second, .val (.ref b1), .val (.ref b3), .val (.ref b6), .val (.ref b10), .val (.ref b15), .val (.ref b20), .val (.long r28), .second, .val (.long r31), .second, .val (.long r34), .second, .val (.long r37), .second, .val (.long r40), .second, .val (.long r43), .second, .val (.long ((va - (48 : Int32)).toInt64)), .second, .unset, .unset, .unset, .unset, .unset, .unset, .unset, .unset] [(.int va)]
    refine w_callS ok (y := (⟨"com/example/turnstile/turnstile/server/CommandsParseCountPinLaw", "dig", "(I)Z"⟩ : MethodName)) (argsL := [(.int va)]) (rest := []) at_200 (hw _ (List.mem_of_getElem? (i := 35) rfl)) (hw _ (List.mem_of_getElem? (i := 36) rfl)) (hw _ (List.mem_of_getElem? (i := 5) rfl)) (hw _ (List.mem_of_getElem? (i := 37) rfl)) (by decide) pd_28I29Z rfl rfl (by decide) (Nat.le_of_ble_eq_true rfl) (by decide) (by decide) (fun z0 => rm_dig l Z a0 hw [] n0 h25 z0 va) (fun v75 h76 qv75 => ?_)
    obtain ⟨rfl, rfl⟩ := qv75
    show W K l _ n0 _ h25 6 45 203 #[.val (.long xl), .second, .val (.int a), .val (.int b), .val (.int c), .val (.int va), .val (.int vb), .val (.int vc), .val (.int va), .val (.int vb), .val (.int vc), .val (.long p), .second, .val (.ref b1), .val (.ref b3), .val (.ref b6), .val (.ref b10), .val (.ref b15), .val (.ref b20), .val (.long r28), .second, .val (.long r31), .second, .val (.long r34), .second, .val (.long r37), .second, .val (.long r40), .second, .val (.long r43), .second, .val (.long ((va - (48 : Int32)).toInt64)), .second, .unset, .unset, .unset, .unset, .unset, .unset, .unset, .unset] [(.int (own_dig va))]
    refine w_if_eq ok at_203 (pc' := 232) (by decide) (fun hc78 => False.elim (by exact hc47 hc78)) (fun hc78 => ?_)
    show W K l _ n0 _ h25 6 45 206 #[.val (.long xl), .second, .val (.int a), .val (.int b), .val (.int c), .val (.int va), .val (.int vb), .val (.int vc), .val (.int va), .val (.int vb), .val (.int vc), .val (.long p), .second, .val (.ref b1), .val (.ref b3), .val (.ref b6), .val (.ref b10), .val (.ref b15), .val (.ref b20), .val (.long r28), .second, .val (.long r31), .second, .val (.long r34), .second, .val (.long r37), .second, .val (.long r40), .second, .val (.long r43), .second, .val (.long ((va - (48 : Int32)).toInt64)), .second, .unset, .unset, .unset, .unset, .unset, .unset, .unset, .unset] []
    refine w_iload ok at_206 rfl ?_
    show W K l _ n0 _ h25 6 45 208 #[.val (.long xl), .second, .val (.int a), .val (.int b), .val (.int c), .val (.int va), .val (.int vb), .val (.int vc), .val (.int va), .val (.int vb), .val (.int vc), .val (.long p), .second, .val (.ref b1), .val (.ref b3), .val (.ref b6), .val (.ref b10), .val (.ref b15), .val (.ref b20), .val (.long r28), .second, .val (.long r31), .second, .val (.long r34), .second, .val (.long r37), .second, .val (.long r40), .second, .val (.long r43), .second, .val (.long ((va - (48 : Int32)).toInt64)), .second, .unset, .unset, .unset, .unset, .unset, .unset, .unset, .unset] [(.int vb)]
    refine w_callS ok (y := (⟨"com/example/turnstile/turnstile/server/CommandsParseCountPinLaw", "dig", "(I)Z"⟩ : MethodName)) (argsL := [(.int vb)]) (rest := []) at_208 (hw _ (List.mem_of_getElem? (i := 35) rfl)) (hw _ (List.mem_of_getElem? (i := 36) rfl)) (hw _ (List.mem_of_getElem? (i := 5) rfl)) (hw _ (List.mem_of_getElem? (i := 37) rfl)) (by decide) pd_28I29Z rfl rfl (by decide) (Nat.le_of_ble_eq_true rfl) (by decide) (by decide) (fun z0 => rm_dig l Z a0 hw [] n0 h25 z0 vb) (fun v79 h80 qv79 => ?_)
    obtain ⟨rfl, rfl⟩ := qv79
    show W K l _ n0 _ h25 6 45 211 #[.val (.long xl), .second, .val (.int a), .val (.int b), .val (.int c), .val (.int va), .val (.int vb), .val (.int vc), .val (.int va), .val (.int vb), .val (.int vc), .val (.long p), .second, .val (.ref b1), .val (.ref b3), .val (.ref b6), .val (.ref b10), .val (.ref b15), .val (.ref b20), .val (.long r28), .second, .val (.long r31), .second, .val (.long r34), .second, .val (.long r37), .second, .val (.long r40), .second, .val (.long r43), .second, .val (.long ((va - (48 : Int32)).toInt64)), .second, .unset, .unset, .unset, .unset, .unset, .unset, .unset, .unset] [(.int (own_dig vb))]
    refine w_if_eq ok at_211 (pc' := 232) (by decide) (fun hc82 => ?_) (fun hc82 => ?_)
    · show W K l _ n0 _ h25 6 45 232 #[.val (.long xl), .second, .val (.int a), .val (.int b), .val (.int c), .val (.int va), .val (.int vb), .val (.int vc), .val (.int va), .val (.int vb), .val (.int vc), .val (.long p), .second, .val (.ref b1), .val (.ref b3), .val (.ref b6), .val (.ref b10), .val (.ref b15), .val (.ref b20), .val (.long r28), .second, .val (.long r31), .second, .val (.long r34), .second, .val (.long r37), .second, .val (.long r40), .second, .val (.long r43), .second, .val (.long ((va - (48 : Int32)).toInt64)), .second, .unset, .unset, .unset, .unset, .unset, .unset, .unset, .unset] []
      refine w_ldc2J (v := (-1 : Int64)) ok at_232 (hw _ (List.mem_of_getElem? (i := 38) rfl)) ?_
      show W K l _ n0 _ h25 6 45 235 #[.val (.long xl), .second, .val (.int a), .val (.int b), .val (.int c), .val (.int va), .val (.int vb), .val (.int vc), .val (.int va), .val (.int vb), .val (.int vc), .val (.long p), .second, .val (.ref b1), .val (.ref b3), .val (.ref b6), .val (.ref b10), .val (.ref b15), .val (.ref b20), .val (.long r28), .second, .val (.long r31), .second, .val (.long r34), .second, .val (.long r37), .second, .val (.long r40), .second, .val (.long r43), .second, .val (.long ((va - (48 : Int32)).toInt64)), .second, .unset, .unset, .unset, .unset, .unset, .unset, .unset, .unset] [(.long (-1 : Int64))]
      refine w_lstore ok at_235 (L' := #[.val (.long xl), .second, .val (.int a), .val (.int b), .val (.int c), .val (.int va), .val (.int vb), .val (.int vc), .val (.int va), .val (.int vb), .val (.int vc), .val (.long p), .second, .val (.ref b1), .val (.ref b3), .val (.ref b6), .val (.ref b10), .val (.ref b15), .val (.ref b20), .val (.long r28), .second, .val (.long r31), .second, .val (.long r34), .second, .val (.long r37), .second, .val (.long r40), .second, .val (.long r43), .second, .val (.long ((va - (48 : Int32)).toInt64)), .second, .val (.long (-1 : Int64)), .second, .unset, .unset, .unset, .unset, .unset, .unset]) rfl ?_
      show W K l _ n0 _ h25 6 45 237 #[.val (.long xl), .second, .val (.int a), .val (.int b), .val (.int c), .val (.int va), .val (.int vb), .val (.int vc), .val (.int va), .val (.int vb), .val (.int vc), .val (.long p), .second, .val (.ref b1), .val (.ref b3), .val (.ref b6), .val (.ref b10), .val (.ref b15), .val (.ref b20), .val (.long r28), .second, .val (.long r31), .second, .val (.long r34), .second, .val (.long r37), .second, .val (.long r40), .second, .val (.long r43), .second, .val (.long ((va - (48 : Int32)).toInt64)), .second, .val (.long (-1 : Int64)), .second, .unset, .unset, .unset, .unset, .unset, .unset] []
      refine w_iload ok at_237 rfl ?_
      show W K l _ n0 _ h25 6 45 239 #[.val (.long xl), .second, .val (.int a), .val (.int b), .val (.int c), .val (.int va), .val (.int vb), .val (.int vc), .val (.int va), .val (.int vb), .val (.int vc), .val (.long p), .second, .val (.ref b1), .val (.ref b3), .val (.ref b6), .val (.ref b10), .val (.ref b15), .val (.ref b20), .val (.long r28), .second, .val (.long r31), .second, .val (.long r34), .second, .val (.long r37), .second, .val (.long r40), .second, .val (.long r43), .second, .val (.long ((va - (48 : Int32)).toInt64)), .second, .val (.long (-1 : Int64)), .second, .unset, .unset, .unset, .unset, .unset, .unset] [(.int va)]
      refine w_callS ok (y := (⟨"com/example/turnstile/turnstile/server/CommandsParseCountPinLaw", "dig", "(I)Z"⟩ : MethodName)) (argsL := [(.int va)]) (rest := []) at_239 (hw _ (List.mem_of_getElem? (i := 35) rfl)) (hw _ (List.mem_of_getElem? (i := 36) rfl)) (hw _ (List.mem_of_getElem? (i := 5) rfl)) (hw _ (List.mem_of_getElem? (i := 37) rfl)) (by decide) pd_28I29Z rfl rfl (by decide) (Nat.le_of_ble_eq_true rfl) (by decide) (by decide) (fun z0 => rm_dig l Z a0 hw [] n0 h25 z0 va) (fun v83 h84 qv83 => ?_)
      obtain ⟨rfl, rfl⟩ := qv83
      show W K l _ n0 _ h25 6 45 242 #[.val (.long xl), .second, .val (.int a), .val (.int b), .val (.int c), .val (.int va), .val (.int vb), .val (.int vc), .val (.int va), .val (.int vb), .val (.int vc), .val (.long p), .second, .val (.ref b1), .val (.ref b3), .val (.ref b6), .val (.ref b10), .val (.ref b15), .val (.ref b20), .val (.long r28), .second, .val (.long r31), .second, .val (.long r34), .second, .val (.long r37), .second, .val (.long r40), .second, .val (.long r43), .second, .val (.long ((va - (48 : Int32)).toInt64)), .second, .val (.long (-1 : Int64)), .second, .unset, .unset, .unset, .unset, .unset, .unset] [(.int (own_dig va))]
      refine w_if_eq ok at_242 (pc' := 288) (by decide) (fun hc86 => False.elim (by exact hc47 hc86)) (fun hc86 => ?_)
      show W K l _ n0 _ h25 6 45 245 #[.val (.long xl), .second, .val (.int a), .val (.int b), .val (.int c), .val (.int va), .val (.int vb), .val (.int vc), .val (.int va), .val (.int vb), .val (.int vc), .val (.long p), .second, .val (.ref b1), .val (.ref b3), .val (.ref b6), .val (.ref b10), .val (.ref b15), .val (.ref b20), .val (.long r28), .second, .val (.long r31), .second, .val (.long r34), .second, .val (.long r37), .second, .val (.long r40), .second, .val (.long r43), .second, .val (.long ((va - (48 : Int32)).toInt64)), .second, .val (.long (-1 : Int64)), .second, .unset, .unset, .unset, .unset, .unset, .unset] []
      refine w_iload ok at_245 rfl ?_
      show W K l _ n0 _ h25 6 45 247 #[.val (.long xl), .second, .val (.int a), .val (.int b), .val (.int c), .val (.int va), .val (.int vb), .val (.int vc), .val (.int va), .val (.int vb), .val (.int vc), .val (.long p), .second, .val (.ref b1), .val (.ref b3), .val (.ref b6), .val (.ref b10), .val (.ref b15), .val (.ref b20), .val (.long r28), .second, .val (.long r31), .second, .val (.long r34), .second, .val (.long r37), .second, .val (.long r40), .second, .val (.long r43), .second, .val (.long ((va - (48 : Int32)).toInt64)), .second, .val (.long (-1 : Int64)), .second, .unset, .unset, .unset, .unset, .unset, .unset] [(.int vb)]
      refine w_callS ok (y := (⟨"com/example/turnstile/turnstile/server/CommandsParseCountPinLaw", "dig", "(I)Z"⟩ : MethodName)) (argsL := [(.int vb)]) (rest := []) at_247 (hw _ (List.mem_of_getElem? (i := 35) rfl)) (hw _ (List.mem_of_getElem? (i := 36) rfl)) (hw _ (List.mem_of_getElem? (i := 5) rfl)) (hw _ (List.mem_of_getElem? (i := 37) rfl)) (by decide) pd_28I29Z rfl rfl (by decide) (Nat.le_of_ble_eq_true rfl) (by decide) (by decide) (fun z0 => rm_dig l Z a0 hw [] n0 h25 z0 vb) (fun v87 h88 qv87 => ?_)
      obtain ⟨rfl, rfl⟩ := qv87
      show W K l _ n0 _ h25 6 45 250 #[.val (.long xl), .second, .val (.int a), .val (.int b), .val (.int c), .val (.int va), .val (.int vb), .val (.int vc), .val (.int va), .val (.int vb), .val (.int vc), .val (.long p), .second, .val (.ref b1), .val (.ref b3), .val (.ref b6), .val (.ref b10), .val (.ref b15), .val (.ref b20), .val (.long r28), .second, .val (.long r31), .second, .val (.long r34), .second, .val (.long r37), .second, .val (.long r40), .second, .val (.long r43), .second, .val (.long ((va - (48 : Int32)).toInt64)), .second, .val (.long (-1 : Int64)), .second, .unset, .unset, .unset, .unset, .unset, .unset] [(.int (own_dig vb))]
      refine w_if_eq ok at_250 (pc' := 288) (by decide) (fun hc90 => ?_) (fun hc90 => False.elim (by exact hc90 hc82))
      show W K l _ n0 _ h25 6 45 288 #[.val (.long xl), .second, .val (.int a), .val (.int b), .val (.int c), .val (.int va), .val (.int vb), .val (.int vc), .val (.int va), .val (.int vb), .val (.int vc), .val (.long p), .second, .val (.ref b1), .val (.ref b3), .val (.ref b6), .val (.ref b10), .val (.ref b15), .val (.ref b20), .val (.long r28), .second, .val (.long r31), .second, .val (.long r34), .second, .val (.long r37), .second, .val (.long r40), .second, .val (.long r43), .second, .val (.long ((va - (48 : Int32)).toInt64)), .second, .val (.long (-1 : Int64)), .second, .unset, .unset, .unset, .unset, .unset, .unset] []
      refine w_ldc2J (v := (-1 : Int64)) ok at_288 (hw _ (List.mem_of_getElem? (i := 38) rfl)) ?_
      show W K l _ n0 _ h25 6 45 291 #[.val (.long xl), .second, .val (.int a), .val (.int b), .val (.int c), .val (.int va), .val (.int vb), .val (.int vc), .val (.int va), .val (.int vb), .val (.int vc), .val (.long p), .second, .val (.ref b1), .val (.ref b3), .val (.ref b6), .val (.ref b10), .val (.ref b15), .val (.ref b20), .val (.long r28), .second, .val (.long r31), .second, .val (.long r34), .second, .val (.long r37), .second, .val (.long r40), .second, .val (.long r43), .second, .val (.long ((va - (48 : Int32)).toInt64)), .second, .val (.long (-1 : Int64)), .second, .unset, .unset, .unset, .unset, .unset, .unset] [(.long (-1 : Int64))]
      refine w_lstore ok at_291 (L' := #[.val (.long xl), .second, .val (.int a), .val (.int b), .val (.int c), .val (.int va), .val (.int vb), .val (.int vc), .val (.int va), .val (.int vb), .val (.int vc), .val (.long p), .second, .val (.ref b1), .val (.ref b3), .val (.ref b6), .val (.ref b10), .val (.ref b15), .val (.ref b20), .val (.long r28), .second, .val (.long r31), .second, .val (.long r34), .second, .val (.long r37), .second, .val (.long r40), .second, .val (.long r43), .second, .val (.long ((va - (48 : Int32)).toInt64)), .second, .val (.long (-1 : Int64)), .second, .val (.long (-1 : Int64)), .second, .unset, .unset, .unset, .unset]) rfl ?_
      show W K l _ n0 _ h25 6 45 293 #[.val (.long xl), .second, .val (.int a), .val (.int b), .val (.int c), .val (.int va), .val (.int vb), .val (.int vc), .val (.int va), .val (.int vb), .val (.int vc), .val (.long p), .second, .val (.ref b1), .val (.ref b3), .val (.ref b6), .val (.ref b10), .val (.ref b15), .val (.ref b20), .val (.long r28), .second, .val (.long r31), .second, .val (.long r34), .second, .val (.long r37), .second, .val (.long r40), .second, .val (.long r43), .second, .val (.long ((va - (48 : Int32)).toInt64)), .second, .val (.long (-1 : Int64)), .second, .val (.long (-1 : Int64)), .second, .unset, .unset, .unset, .unset] []
      refine w_lload ok at_293 rfl ?_
      show W K l _ n0 _ h25 6 45 295 #[.val (.long xl), .second, .val (.int a), .val (.int b), .val (.int c), .val (.int va), .val (.int vb), .val (.int vc), .val (.int va), .val (.int vb), .val (.int vc), .val (.long p), .second, .val (.ref b1), .val (.ref b3), .val (.ref b6), .val (.ref b10), .val (.ref b15), .val (.ref b20), .val (.long r28), .second, .val (.long r31), .second, .val (.long r34), .second, .val (.long r37), .second, .val (.long r40), .second, .val (.long r43), .second, .val (.long ((va - (48 : Int32)).toInt64)), .second, .val (.long (-1 : Int64)), .second, .val (.long (-1 : Int64)), .second, .unset, .unset, .unset, .unset] [(.long p)]
      refine w_iload ok at_295 rfl ?_
      show W K l _ n0 _ h25 6 45 297 #[.val (.long xl), .second, .val (.int a), .val (.int b), .val (.int c), .val (.int va), .val (.int vb), .val (.int vc), .val (.int va), .val (.int vb), .val (.int vc), .val (.long p), .second, .val (.ref b1), .val (.ref b3), .val (.ref b6), .val (.ref b10), .val (.ref b15), .val (.ref b20), .val (.long r28), .second, .val (.long r31), .second, .val (.long r34), .second, .val (.long r37), .second, .val (.long r40), .second, .val (.long r43), .second, .val (.long ((va - (48 : Int32)).toInt64)), .second, .val (.long (-1 : Int64)), .second, .val (.long (-1 : Int64)), .second, .unset, .unset, .unset, .unset] [(.int vc), (.long p)]
      refine w_callS ok (y := (⟨"com/example/turnstile/turnstile/server/CommandsParseCountPinLaw", "exp19", "(JI)J"⟩ : MethodName)) (argsL := [(.long p), (.int vc)]) (rest := []) at_297 (hw _ (List.mem_of_getElem? (i := 39) rfl)) (hw _ (List.mem_of_getElem? (i := 40) rfl)) (hw _ (List.mem_of_getElem? (i := 5) rfl)) (hw _ (List.mem_of_getElem? (i := 41) rfl)) (by decide) pd_28JI29J rfl rfl (by decide) (Nat.le_of_ble_eq_true rfl) (by decide) (by decide) (fun z0 => rm_e19 l Z a0 hw [] n0 h25 z0 p vc hp0 hp2) (fun v91 h92 qv91 => ?_)
      obtain ⟨r93, rfl, h_r93, rfl⟩ := qv91
      show W K l _ n0 _ h25 6 45 300 #[.val (.long xl), .second, .val (.int a), .val (.int b), .val (.int c), .val (.int va), .val (.int vb), .val (.int vc), .val (.int va), .val (.int vb), .val (.int vc), .val (.long p), .second, .val (.ref b1), .val (.ref b3), .val (.ref b6), .val (.ref b10), .val (.ref b15), .val (.ref b20), .val (.long r28), .second, .val (.long r31), .second, .val (.long r34), .second, .val (.long r37), .second, .val (.long r40), .second, .val (.long r43), .second, .val (.long ((va - (48 : Int32)).toInt64)), .second, .val (.long (-1 : Int64)), .second, .val (.long (-1 : Int64)), .second, .unset, .unset, .unset, .unset] [(.long r93)]
      refine w_lstore ok at_300 (L' := #[.val (.long xl), .second, .val (.int a), .val (.int b), .val (.int c), .val (.int va), .val (.int vb), .val (.int vc), .val (.int va), .val (.int vb), .val (.int vc), .val (.long p), .second, .val (.ref b1), .val (.ref b3), .val (.ref b6), .val (.ref b10), .val (.ref b15), .val (.ref b20), .val (.long r28), .second, .val (.long r31), .second, .val (.long r34), .second, .val (.long r37), .second, .val (.long r40), .second, .val (.long r43), .second, .val (.long ((va - (48 : Int32)).toInt64)), .second, .val (.long (-1 : Int64)), .second, .val (.long (-1 : Int64)), .second, .val (.long r93), .second, .unset, .unset]) rfl ?_
      show W K l _ n0 _ h25 6 45 302 #[.val (.long xl), .second, .val (.int a), .val (.int b), .val (.int c), .val (.int va), .val (.int vb), .val (.int vc), .val (.int va), .val (.int vb), .val (.int vc), .val (.long p), .second, .val (.ref b1), .val (.ref b3), .val (.ref b6), .val (.ref b10), .val (.ref b15), .val (.ref b20), .val (.long r28), .second, .val (.long r31), .second, .val (.long r34), .second, .val (.long r37), .second, .val (.long r40), .second, .val (.long r43), .second, .val (.long ((va - (48 : Int32)).toInt64)), .second, .val (.long (-1 : Int64)), .second, .val (.long (-1 : Int64)), .second, .val (.long r93), .second, .unset, .unset] []
      refine w_iload ok at_302 rfl ?_
      show W K l _ n0 _ h25 6 45 304 #[.val (.long xl), .second, .val (.int a), .val (.int b), .val (.int c), .val (.int va), .val (.int vb), .val (.int vc), .val (.int va), .val (.int vb), .val (.int vc), .val (.long p), .second, .val (.ref b1), .val (.ref b3), .val (.ref b6), .val (.ref b10), .val (.ref b15), .val (.ref b20), .val (.long r28), .second, .val (.long r31), .second, .val (.long r34), .second, .val (.long r37), .second, .val (.long r40), .second, .val (.long r43), .second, .val (.long ((va - (48 : Int32)).toInt64)), .second, .val (.long (-1 : Int64)), .second, .val (.long (-1 : Int64)), .second, .val (.long r93), .second, .unset, .unset] [(.int va)]
      refine w_callS ok (y := (⟨"com/example/turnstile/turnstile/server/CommandsParseCountPinLaw", "dig", "(I)Z"⟩ : MethodName)) (argsL := [(.int va)]) (rest := []) at_304 (hw _ (List.mem_of_getElem? (i := 35) rfl)) (hw _ (List.mem_of_getElem? (i := 36) rfl)) (hw _ (List.mem_of_getElem? (i := 5) rfl)) (hw _ (List.mem_of_getElem? (i := 37) rfl)) (by decide) pd_28I29Z rfl rfl (by decide) (Nat.le_of_ble_eq_true rfl) (by decide) (by decide) (fun z0 => rm_dig l Z a0 hw [] n0 h25 z0 va) (fun v94 h95 qv94 => ?_)
      obtain ⟨rfl, rfl⟩ := qv94
      show W K l _ n0 _ h25 6 45 307 #[.val (.long xl), .second, .val (.int a), .val (.int b), .val (.int c), .val (.int va), .val (.int vb), .val (.int vc), .val (.int va), .val (.int vb), .val (.int vc), .val (.long p), .second, .val (.ref b1), .val (.ref b3), .val (.ref b6), .val (.ref b10), .val (.ref b15), .val (.ref b20), .val (.long r28), .second, .val (.long r31), .second, .val (.long r34), .second, .val (.long r37), .second, .val (.long r40), .second, .val (.long r43), .second, .val (.long ((va - (48 : Int32)).toInt64)), .second, .val (.long (-1 : Int64)), .second, .val (.long (-1 : Int64)), .second, .val (.long r93), .second, .unset, .unset] [(.int (own_dig va))]
      refine w_if_ne ok at_307 (pc' := 318) (by decide) (fun hc97 => ?_) (fun hc97 => False.elim (by exact hc47 hc97))
      show W K l _ n0 _ h25 6 45 318 #[.val (.long xl), .second, .val (.int a), .val (.int b), .val (.int c), .val (.int va), .val (.int vb), .val (.int vc), .val (.int va), .val (.int vb), .val (.int vc), .val (.long p), .second, .val (.ref b1), .val (.ref b3), .val (.ref b6), .val (.ref b10), .val (.ref b15), .val (.ref b20), .val (.long r28), .second, .val (.long r31), .second, .val (.long r34), .second, .val (.long r37), .second, .val (.long r40), .second, .val (.long r43), .second, .val (.long ((va - (48 : Int32)).toInt64)), .second, .val (.long (-1 : Int64)), .second, .val (.long (-1 : Int64)), .second, .val (.long r93), .second, .unset, .unset] []
      refine w_iload ok at_318 rfl ?_
      show W K l _ n0 _ h25 6 45 320 #[.val (.long xl), .second, .val (.int a), .val (.int b), .val (.int c), .val (.int va), .val (.int vb), .val (.int vc), .val (.int va), .val (.int vb), .val (.int vc), .val (.long p), .second, .val (.ref b1), .val (.ref b3), .val (.ref b6), .val (.ref b10), .val (.ref b15), .val (.ref b20), .val (.long r28), .second, .val (.long r31), .second, .val (.long r34), .second, .val (.long r37), .second, .val (.long r40), .second, .val (.long r43), .second, .val (.long ((va - (48 : Int32)).toInt64)), .second, .val (.long (-1 : Int64)), .second, .val (.long (-1 : Int64)), .second, .val (.long r93), .second, .unset, .unset] [(.int va)]
      refine w_bipush ok at_320 (v := (48 : Int32)) rfl ?_
      show W K l _ n0 _ h25 6 45 322 #[.val (.long xl), .second, .val (.int a), .val (.int b), .val (.int c), .val (.int va), .val (.int vb), .val (.int vc), .val (.int va), .val (.int vb), .val (.int vc), .val (.long p), .second, .val (.ref b1), .val (.ref b3), .val (.ref b6), .val (.ref b10), .val (.ref b15), .val (.ref b20), .val (.long r28), .second, .val (.long r31), .second, .val (.long r34), .second, .val (.long r37), .second, .val (.long r40), .second, .val (.long r43), .second, .val (.long ((va - (48 : Int32)).toInt64)), .second, .val (.long (-1 : Int64)), .second, .val (.long (-1 : Int64)), .second, .val (.long r93), .second, .unset, .unset] [(.int (48 : Int32)), (.int va)]
      refine w_icmp_ne ok at_322 (pc' := 332) (by decide) (fun hc99 => ?_) (fun hc99 => ?_)
      · show W K l _ n0 _ h25 6 45 332 #[.val (.long xl), .second, .val (.int a), .val (.int b), .val (.int c), .val (.int va), .val (.int vb), .val (.int vc), .val (.int va), .val (.int vb), .val (.int vc), .val (.long p), .second, .val (.ref b1), .val (.ref b3), .val (.ref b6), .val (.ref b10), .val (.ref b15), .val (.ref b20), .val (.long r28), .second, .val (.long r31), .second, .val (.long r34), .second, .val (.long r37), .second, .val (.long r40), .second, .val (.long r43), .second, .val (.long ((va - (48 : Int32)).toInt64)), .second, .val (.long (-1 : Int64)), .second, .val (.long (-1 : Int64)), .second, .val (.long r93), .second, .unset, .unset] []
        refine w_ldc2J (v := (-1 : Int64)) ok at_332 (hw _ (List.mem_of_getElem? (i := 38) rfl)) ?_
        show W K l _ n0 _ h25 6 45 335 #[.val (.long xl), .second, .val (.int a), .val (.int b), .val (.int c), .val (.int va), .val (.int vb), .val (.int vc), .val (.int va), .val (.int vb), .val (.int vc), .val (.long p), .second, .val (.ref b1), .val (.ref b3), .val (.ref b6), .val (.ref b10), .val (.ref b15), .val (.ref b20), .val (.long r28), .second, .val (.long r31), .second, .val (.long r34), .second, .val (.long r37), .second, .val (.long r40), .second, .val (.long r43), .second, .val (.long ((va - (48 : Int32)).toInt64)), .second, .val (.long (-1 : Int64)), .second, .val (.long (-1 : Int64)), .second, .val (.long r93), .second, .unset, .unset] [(.long (-1 : Int64))]
        refine w_lstore ok at_335 (L' := #[.val (.long xl), .second, .val (.int a), .val (.int b), .val (.int c), .val (.int va), .val (.int vb), .val (.int vc), .val (.int va), .val (.int vb), .val (.int vc), .val (.long p), .second, .val (.ref b1), .val (.ref b3), .val (.ref b6), .val (.ref b10), .val (.ref b15), .val (.ref b20), .val (.long r28), .second, .val (.long r31), .second, .val (.long r34), .second, .val (.long r37), .second, .val (.long r40), .second, .val (.long r43), .second, .val (.long ((va - (48 : Int32)).toInt64)), .second, .val (.long (-1 : Int64)), .second, .val (.long (-1 : Int64)), .second, .val (.long r93), .second, .val (.long (-1 : Int64)), .second]) rfl ?_
        show W K l _ n0 _ h25 6 45 337 #[.val (.long xl), .second, .val (.int a), .val (.int b), .val (.int c), .val (.int va), .val (.int vb), .val (.int vc), .val (.int va), .val (.int vb), .val (.int vc), .val (.long p), .second, .val (.ref b1), .val (.ref b3), .val (.ref b6), .val (.ref b10), .val (.ref b15), .val (.ref b20), .val (.long r28), .second, .val (.long r31), .second, .val (.long r34), .second, .val (.long r37), .second, .val (.long r40), .second, .val (.long r43), .second, .val (.long ((va - (48 : Int32)).toInt64)), .second, .val (.long (-1 : Int64)), .second, .val (.long (-1 : Int64)), .second, .val (.long r93), .second, .val (.long (-1 : Int64)), .second] []
        refine w_lload ok at_337 rfl ?_
        show W K l _ n0 _ h25 6 45 339 #[.val (.long xl), .second, .val (.int a), .val (.int b), .val (.int c), .val (.int va), .val (.int vb), .val (.int vc), .val (.int va), .val (.int vb), .val (.int vc), .val (.long p), .second, .val (.ref b1), .val (.ref b3), .val (.ref b6), .val (.ref b10), .val (.ref b15), .val (.ref b20), .val (.long r28), .second, .val (.long r31), .second, .val (.long r34), .second, .val (.long r37), .second, .val (.long r40), .second, .val (.long r43), .second, .val (.long ((va - (48 : Int32)).toInt64)), .second, .val (.long (-1 : Int64)), .second, .val (.long (-1 : Int64)), .second, .val (.long r93), .second, .val (.long (-1 : Int64)), .second] [(.long r28)]
        refine w_ldc2J (v := (-1 : Int64)) ok at_339 (hw _ (List.mem_of_getElem? (i := 38) rfl)) ?_
        show W K l _ n0 _ h25 6 45 342 #[.val (.long xl), .second, .val (.int a), .val (.int b), .val (.int c), .val (.int va), .val (.int vb), .val (.int vc), .val (.int va), .val (.int vb), .val (.int vc), .val (.long p), .second, .val (.ref b1), .val (.ref b3), .val (.ref b6), .val (.ref b10), .val (.ref b15), .val (.ref b20), .val (.long r28), .second, .val (.long r31), .second, .val (.long r34), .second, .val (.long r37), .second, .val (.long r40), .second, .val (.long r43), .second, .val (.long ((va - (48 : Int32)).toInt64)), .second, .val (.long (-1 : Int64)), .second, .val (.long (-1 : Int64)), .second, .val (.long r93), .second, .val (.long (-1 : Int64)), .second] [(.long (-1 : Int64)), (.long r28)]
        refine w_lcmp_ne ok at_342 at_343 (pc' := 390) (by decide) (fun hc101 => False.elim (by exact hc101 (Int64.toInt_inj.mp (by rw [h_r28] <;> rfl)))) (fun hc101 => ?_)
        show W K l _ n0 _ h25 6 45 346 #[.val (.long xl), .second, .val (.int a), .val (.int b), .val (.int c), .val (.int va), .val (.int vb), .val (.int vc), .val (.int va), .val (.int vb), .val (.int vc), .val (.long p), .second, .val (.ref b1), .val (.ref b3), .val (.ref b6), .val (.ref b10), .val (.ref b15), .val (.ref b20), .val (.long r28), .second, .val (.long r31), .second, .val (.long r34), .second, .val (.long r37), .second, .val (.long r40), .second, .val (.long r43), .second, .val (.long ((va - (48 : Int32)).toInt64)), .second, .val (.long (-1 : Int64)), .second, .val (.long (-1 : Int64)), .second, .val (.long r93), .second, .val (.long (-1 : Int64)), .second] []
        refine w_lload ok at_346 rfl ?_
        show W K l _ n0 _ h25 6 45 348 #[.val (.long xl), .second, .val (.int a), .val (.int b), .val (.int c), .val (.int va), .val (.int vb), .val (.int vc), .val (.int va), .val (.int vb), .val (.int vc), .val (.long p), .second, .val (.ref b1), .val (.ref b3), .val (.ref b6), .val (.ref b10), .val (.ref b15), .val (.ref b20), .val (.long r28), .second, .val (.long r31), .second, .val (.long r34), .second, .val (.long r37), .second, .val (.long r40), .second, .val (.long r43), .second, .val (.long ((va - (48 : Int32)).toInt64)), .second, .val (.long (-1 : Int64)), .second, .val (.long (-1 : Int64)), .second, .val (.long r93), .second, .val (.long (-1 : Int64)), .second] [(.long r31)]
        refine w_lload ok at_348 rfl ?_
        show W K l _ n0 _ h25 6 45 350 #[.val (.long xl), .second, .val (.int a), .val (.int b), .val (.int c), .val (.int va), .val (.int vb), .val (.int vc), .val (.int va), .val (.int vb), .val (.int vc), .val (.long p), .second, .val (.ref b1), .val (.ref b3), .val (.ref b6), .val (.ref b10), .val (.ref b15), .val (.ref b20), .val (.long r28), .second, .val (.long r31), .second, .val (.long r34), .second, .val (.long r37), .second, .val (.long r40), .second, .val (.long r43), .second, .val (.long ((va - (48 : Int32)).toInt64)), .second, .val (.long (-1 : Int64)), .second, .val (.long (-1 : Int64)), .second, .val (.long r93), .second, .val (.long (-1 : Int64)), .second] [(.long ((va - (48 : Int32)).toInt64)), (.long r31)]
        refine w_lcmp_ne ok at_350 at_351 (pc' := 390) (by decide) (fun hc103 => False.elim (by exact hc103 (Int64.toInt_inj.mp (by rw [h_r31, own_r1t (own_dig_t hc47), own_c1 va rva])))) (fun hc103 => ?_)
        show W K l _ n0 _ h25 6 45 354 #[.val (.long xl), .second, .val (.int a), .val (.int b), .val (.int c), .val (.int va), .val (.int vb), .val (.int vc), .val (.int va), .val (.int vb), .val (.int vc), .val (.long p), .second, .val (.ref b1), .val (.ref b3), .val (.ref b6), .val (.ref b10), .val (.ref b15), .val (.ref b20), .val (.long r28), .second, .val (.long r31), .second, .val (.long r34), .second, .val (.long r37), .second, .val (.long r40), .second, .val (.long r43), .second, .val (.long ((va - (48 : Int32)).toInt64)), .second, .val (.long (-1 : Int64)), .second, .val (.long (-1 : Int64)), .second, .val (.long r93), .second, .val (.long (-1 : Int64)), .second] []
        refine w_lload ok at_354 rfl ?_
        show W K l _ n0 _ h25 6 45 356 #[.val (.long xl), .second, .val (.int a), .val (.int b), .val (.int c), .val (.int va), .val (.int vb), .val (.int vc), .val (.int va), .val (.int vb), .val (.int vc), .val (.long p), .second, .val (.ref b1), .val (.ref b3), .val (.ref b6), .val (.ref b10), .val (.ref b15), .val (.ref b20), .val (.long r28), .second, .val (.long r31), .second, .val (.long r34), .second, .val (.long r37), .second, .val (.long r40), .second, .val (.long r43), .second, .val (.long ((va - (48 : Int32)).toInt64)), .second, .val (.long (-1 : Int64)), .second, .val (.long (-1 : Int64)), .second, .val (.long r93), .second, .val (.long (-1 : Int64)), .second] [(.long r34)]
        refine w_lload ok at_356 rfl ?_
        show W K l _ n0 _ h25 6 45 358 #[.val (.long xl), .second, .val (.int a), .val (.int b), .val (.int c), .val (.int va), .val (.int vb), .val (.int vc), .val (.int va), .val (.int vb), .val (.int vc), .val (.long p), .second, .val (.ref b1), .val (.ref b3), .val (.ref b6), .val (.ref b10), .val (.ref b15), .val (.ref b20), .val (.long r28), .second, .val (.long r31), .second, .val (.long r34), .second, .val (.long r37), .second, .val (.long r40), .second, .val (.long r43), .second, .val (.long ((va - (48 : Int32)).toInt64)), .second, .val (.long (-1 : Int64)), .second, .val (.long (-1 : Int64)), .second, .val (.long r93), .second, .val (.long (-1 : Int64)), .second] [(.long (-1 : Int64)), (.long r34)]
        refine w_lcmp_ne ok at_358 at_359 (pc' := 390) (by decide) (fun hc105 => False.elim (by exact hc105 (Int64.toInt_inj.mp (by rw [h_r34, own_r2b (own_dig_t hc47) (own_dig_f hc82)] <;> rfl)))) (fun hc105 => ?_)
        show W K l _ n0 _ h25 6 45 362 #[.val (.long xl), .second, .val (.int a), .val (.int b), .val (.int c), .val (.int va), .val (.int vb), .val (.int vc), .val (.int va), .val (.int vb), .val (.int vc), .val (.long p), .second, .val (.ref b1), .val (.ref b3), .val (.ref b6), .val (.ref b10), .val (.ref b15), .val (.ref b20), .val (.long r28), .second, .val (.long r31), .second, .val (.long r34), .second, .val (.long r37), .second, .val (.long r40), .second, .val (.long r43), .second, .val (.long ((va - (48 : Int32)).toInt64)), .second, .val (.long (-1 : Int64)), .second, .val (.long (-1 : Int64)), .second, .val (.long r93), .second, .val (.long (-1 : Int64)), .second] []
        refine w_lload ok at_362 rfl ?_
        show W K l _ n0 _ h25 6 45 364 #[.val (.long xl), .second, .val (.int a), .val (.int b), .val (.int c), .val (.int va), .val (.int vb), .val (.int vc), .val (.int va), .val (.int vb), .val (.int vc), .val (.long p), .second, .val (.ref b1), .val (.ref b3), .val (.ref b6), .val (.ref b10), .val (.ref b15), .val (.ref b20), .val (.long r28), .second, .val (.long r31), .second, .val (.long r34), .second, .val (.long r37), .second, .val (.long r40), .second, .val (.long r43), .second, .val (.long ((va - (48 : Int32)).toInt64)), .second, .val (.long (-1 : Int64)), .second, .val (.long (-1 : Int64)), .second, .val (.long r93), .second, .val (.long (-1 : Int64)), .second] [(.long r37)]
        refine w_lload ok at_364 rfl ?_
        show W K l _ n0 _ h25 6 45 366 #[.val (.long xl), .second, .val (.int a), .val (.int b), .val (.int c), .val (.int va), .val (.int vb), .val (.int vc), .val (.int va), .val (.int vb), .val (.int vc), .val (.long p), .second, .val (.ref b1), .val (.ref b3), .val (.ref b6), .val (.ref b10), .val (.ref b15), .val (.ref b20), .val (.long r28), .second, .val (.long r31), .second, .val (.long r34), .second, .val (.long r37), .second, .val (.long r40), .second, .val (.long r43), .second, .val (.long ((va - (48 : Int32)).toInt64)), .second, .val (.long (-1 : Int64)), .second, .val (.long (-1 : Int64)), .second, .val (.long r93), .second, .val (.long (-1 : Int64)), .second] [(.long (-1 : Int64)), (.long r37)]
        refine w_lcmp_ne ok at_366 at_367 (pc' := 390) (by decide) (fun hc107 => False.elim (by exact hc107 (Int64.toInt_inj.mp (by rw [h_r37, own_r3b (own_dig_t hc47) (own_dig_f hc82)] <;> rfl)))) (fun hc107 => ?_)
        show W K l _ n0 _ h25 6 45 370 #[.val (.long xl), .second, .val (.int a), .val (.int b), .val (.int c), .val (.int va), .val (.int vb), .val (.int vc), .val (.int va), .val (.int vb), .val (.int vc), .val (.long p), .second, .val (.ref b1), .val (.ref b3), .val (.ref b6), .val (.ref b10), .val (.ref b15), .val (.ref b20), .val (.long r28), .second, .val (.long r31), .second, .val (.long r34), .second, .val (.long r37), .second, .val (.long r40), .second, .val (.long r43), .second, .val (.long ((va - (48 : Int32)).toInt64)), .second, .val (.long (-1 : Int64)), .second, .val (.long (-1 : Int64)), .second, .val (.long r93), .second, .val (.long (-1 : Int64)), .second] []
        refine w_lload ok at_370 rfl ?_
        show W K l _ n0 _ h25 6 45 372 #[.val (.long xl), .second, .val (.int a), .val (.int b), .val (.int c), .val (.int va), .val (.int vb), .val (.int vc), .val (.int va), .val (.int vb), .val (.int vc), .val (.long p), .second, .val (.ref b1), .val (.ref b3), .val (.ref b6), .val (.ref b10), .val (.ref b15), .val (.ref b20), .val (.long r28), .second, .val (.long r31), .second, .val (.long r34), .second, .val (.long r37), .second, .val (.long r40), .second, .val (.long r43), .second, .val (.long ((va - (48 : Int32)).toInt64)), .second, .val (.long (-1 : Int64)), .second, .val (.long (-1 : Int64)), .second, .val (.long r93), .second, .val (.long (-1 : Int64)), .second] [(.long r40)]
        refine w_lload ok at_372 rfl ?_
        show W K l _ n0 _ h25 6 45 374 #[.val (.long xl), .second, .val (.int a), .val (.int b), .val (.int c), .val (.int va), .val (.int vb), .val (.int vc), .val (.int va), .val (.int vb), .val (.int vc), .val (.long p), .second, .val (.ref b1), .val (.ref b3), .val (.ref b6), .val (.ref b10), .val (.ref b15), .val (.ref b20), .val (.long r28), .second, .val (.long r31), .second, .val (.long r34), .second, .val (.long r37), .second, .val (.long r40), .second, .val (.long r43), .second, .val (.long ((va - (48 : Int32)).toInt64)), .second, .val (.long (-1 : Int64)), .second, .val (.long (-1 : Int64)), .second, .val (.long r93), .second, .val (.long (-1 : Int64)), .second] [(.long r93), (.long r40)]
        refine w_lcmp_ne ok at_374 at_375 (pc' := 390) (by decide) (fun hc109 => False.elim (by exact hc109 (Int64.toInt_inj.mp (by rw [h_r40, h_r93, own_l19, own_r19 p.toInt hp0 hp2 vc])))) (fun hc109 => ?_)
        show W K l _ n0 _ h25 6 45 378 #[.val (.long xl), .second, .val (.int a), .val (.int b), .val (.int c), .val (.int va), .val (.int vb), .val (.int vc), .val (.int va), .val (.int vb), .val (.int vc), .val (.long p), .second, .val (.ref b1), .val (.ref b3), .val (.ref b6), .val (.ref b10), .val (.ref b15), .val (.ref b20), .val (.long r28), .second, .val (.long r31), .second, .val (.long r34), .second, .val (.long r37), .second, .val (.long r40), .second, .val (.long r43), .second, .val (.long ((va - (48 : Int32)).toInt64)), .second, .val (.long (-1 : Int64)), .second, .val (.long (-1 : Int64)), .second, .val (.long r93), .second, .val (.long (-1 : Int64)), .second] []
        refine w_lload ok at_378 rfl ?_
        show W K l _ n0 _ h25 6 45 380 #[.val (.long xl), .second, .val (.int a), .val (.int b), .val (.int c), .val (.int va), .val (.int vb), .val (.int vc), .val (.int va), .val (.int vb), .val (.int vc), .val (.long p), .second, .val (.ref b1), .val (.ref b3), .val (.ref b6), .val (.ref b10), .val (.ref b15), .val (.ref b20), .val (.long r28), .second, .val (.long r31), .second, .val (.long r34), .second, .val (.long r37), .second, .val (.long r40), .second, .val (.long r43), .second, .val (.long ((va - (48 : Int32)).toInt64)), .second, .val (.long (-1 : Int64)), .second, .val (.long (-1 : Int64)), .second, .val (.long r93), .second, .val (.long (-1 : Int64)), .second] [(.long r43)]
        refine w_lload ok at_380 rfl ?_
        show W K l _ n0 _ h25 6 45 382 #[.val (.long xl), .second, .val (.int a), .val (.int b), .val (.int c), .val (.int va), .val (.int vb), .val (.int vc), .val (.int va), .val (.int vb), .val (.int vc), .val (.long p), .second, .val (.ref b1), .val (.ref b3), .val (.ref b6), .val (.ref b10), .val (.ref b15), .val (.ref b20), .val (.long r28), .second, .val (.long r31), .second, .val (.long r34), .second, .val (.long r37), .second, .val (.long r40), .second, .val (.long r43), .second, .val (.long ((va - (48 : Int32)).toInt64)), .second, .val (.long (-1 : Int64)), .second, .val (.long (-1 : Int64)), .second, .val (.long r93), .second, .val (.long (-1 : Int64)), .second] [(.long (-1 : Int64)), (.long r43)]
        refine w_lcmp_ne ok at_382 at_383 (pc' := 390) (by decide) (fun hc111 => False.elim (by exact hc111 (Int64.toInt_inj.mp (by rw [h_r43, own_l19, own_r20 p.toInt hp0 hp2 va vc, if_neg (own_48 hc99)] <;> rfl)))) (fun hc111 => ?_)
        show W K l _ n0 _ h25 6 45 386 #[.val (.long xl), .second, .val (.int a), .val (.int b), .val (.int c), .val (.int va), .val (.int vb), .val (.int vc), .val (.int va), .val (.int vb), .val (.int vc), .val (.long p), .second, .val (.ref b1), .val (.ref b3), .val (.ref b6), .val (.ref b10), .val (.ref b15), .val (.ref b20), .val (.long r28), .second, .val (.long r31), .second, .val (.long r34), .second, .val (.long r37), .second, .val (.long r40), .second, .val (.long r43), .second, .val (.long ((va - (48 : Int32)).toInt64)), .second, .val (.long (-1 : Int64)), .second, .val (.long (-1 : Int64)), .second, .val (.long r93), .second, .val (.long (-1 : Int64)), .second] []
        refine w_iconst ok at_386 (v := (1 : Int32)) rfl ?_
        show W K l _ n0 _ h25 6 45 387 #[.val (.long xl), .second, .val (.int a), .val (.int b), .val (.int c), .val (.int va), .val (.int vb), .val (.int vc), .val (.int va), .val (.int vb), .val (.int vc), .val (.long p), .second, .val (.ref b1), .val (.ref b3), .val (.ref b6), .val (.ref b10), .val (.ref b15), .val (.ref b20), .val (.long r28), .second, .val (.long r31), .second, .val (.long r34), .second, .val (.long r37), .second, .val (.long r40), .second, .val (.long r43), .second, .val (.long ((va - (48 : Int32)).toInt64)), .second, .val (.long (-1 : Int64)), .second, .val (.long (-1 : Int64)), .second, .val (.long r93), .second, .val (.long (-1 : Int64)), .second] [(.int (1 : Int32))]
        refine w_goto ok at_387 (pc' := 391) (by decide) ?_
        show W K l _ n0 _ h25 6 45 391 #[.val (.long xl), .second, .val (.int a), .val (.int b), .val (.int c), .val (.int va), .val (.int vb), .val (.int vc), .val (.int va), .val (.int vb), .val (.int vc), .val (.long p), .second, .val (.ref b1), .val (.ref b3), .val (.ref b6), .val (.ref b10), .val (.ref b15), .val (.ref b20), .val (.long r28), .second, .val (.long r31), .second, .val (.long r34), .second, .val (.long r37), .second, .val (.long r40), .second, .val (.long r43), .second, .val (.long ((va - (48 : Int32)).toInt64)), .second, .val (.long (-1 : Int64)), .second, .val (.long (-1 : Int64)), .second, .val (.long r93), .second, .val (.long (-1 : Int64)), .second] [(.int (1 : Int32))]
        refine w_bret ok (by simp) at_391 (by decide) (by decide) ?_
        exact rfl
      · show W K l _ n0 _ h25 6 45 325 #[.val (.long xl), .second, .val (.int a), .val (.int b), .val (.int c), .val (.int va), .val (.int vb), .val (.int vc), .val (.int va), .val (.int vb), .val (.int vc), .val (.long p), .second, .val (.ref b1), .val (.ref b3), .val (.ref b6), .val (.ref b10), .val (.ref b15), .val (.ref b20), .val (.long r28), .second, .val (.long r31), .second, .val (.long r34), .second, .val (.long r37), .second, .val (.long r40), .second, .val (.long r43), .second, .val (.long ((va - (48 : Int32)).toInt64)), .second, .val (.long (-1 : Int64)), .second, .val (.long (-1 : Int64)), .second, .val (.long r93), .second, .unset, .unset] []
        refine w_lload ok at_325 rfl ?_
        show W K l _ n0 _ h25 6 45 327 #[.val (.long xl), .second, .val (.int a), .val (.int b), .val (.int c), .val (.int va), .val (.int vb), .val (.int vc), .val (.int va), .val (.int vb), .val (.int vc), .val (.long p), .second, .val (.ref b1), .val (.ref b3), .val (.ref b6), .val (.ref b10), .val (.ref b15), .val (.ref b20), .val (.long r28), .second, .val (.long r31), .second, .val (.long r34), .second, .val (.long r37), .second, .val (.long r40), .second, .val (.long r43), .second, .val (.long ((va - (48 : Int32)).toInt64)), .second, .val (.long (-1 : Int64)), .second, .val (.long (-1 : Int64)), .second, .val (.long r93), .second, .unset, .unset] [(.long r93)]
        refine w_lstore ok at_327 (L' := #[.val (.long xl), .second, .val (.int a), .val (.int b), .val (.int c), .val (.int va), .val (.int vb), .val (.int vc), .val (.int va), .val (.int vb), .val (.int vc), .val (.long p), .second, .val (.ref b1), .val (.ref b3), .val (.ref b6), .val (.ref b10), .val (.ref b15), .val (.ref b20), .val (.long r28), .second, .val (.long r31), .second, .val (.long r34), .second, .val (.long r37), .second, .val (.long r40), .second, .val (.long r43), .second, .val (.long ((va - (48 : Int32)).toInt64)), .second, .val (.long (-1 : Int64)), .second, .val (.long (-1 : Int64)), .second, .val (.long r93), .second, .val (.long r93), .second]) rfl ?_
        show W K l _ n0 _ h25 6 45 329 #[.val (.long xl), .second, .val (.int a), .val (.int b), .val (.int c), .val (.int va), .val (.int vb), .val (.int vc), .val (.int va), .val (.int vb), .val (.int vc), .val (.long p), .second, .val (.ref b1), .val (.ref b3), .val (.ref b6), .val (.ref b10), .val (.ref b15), .val (.ref b20), .val (.long r28), .second, .val (.long r31), .second, .val (.long r34), .second, .val (.long r37), .second, .val (.long r40), .second, .val (.long r43), .second, .val (.long ((va - (48 : Int32)).toInt64)), .second, .val (.long (-1 : Int64)), .second, .val (.long (-1 : Int64)), .second, .val (.long r93), .second, .val (.long r93), .second] []
        refine w_goto ok at_329 (pc' := 337) (by decide) ?_
        show W K l _ n0 _ h25 6 45 337 #[.val (.long xl), .second, .val (.int a), .val (.int b), .val (.int c), .val (.int va), .val (.int vb), .val (.int vc), .val (.int va), .val (.int vb), .val (.int vc), .val (.long p), .second, .val (.ref b1), .val (.ref b3), .val (.ref b6), .val (.ref b10), .val (.ref b15), .val (.ref b20), .val (.long r28), .second, .val (.long r31), .second, .val (.long r34), .second, .val (.long r37), .second, .val (.long r40), .second, .val (.long r43), .second, .val (.long ((va - (48 : Int32)).toInt64)), .second, .val (.long (-1 : Int64)), .second, .val (.long (-1 : Int64)), .second, .val (.long r93), .second, .val (.long r93), .second] []
        refine w_lload ok at_337 rfl ?_
        show W K l _ n0 _ h25 6 45 339 #[.val (.long xl), .second, .val (.int a), .val (.int b), .val (.int c), .val (.int va), .val (.int vb), .val (.int vc), .val (.int va), .val (.int vb), .val (.int vc), .val (.long p), .second, .val (.ref b1), .val (.ref b3), .val (.ref b6), .val (.ref b10), .val (.ref b15), .val (.ref b20), .val (.long r28), .second, .val (.long r31), .second, .val (.long r34), .second, .val (.long r37), .second, .val (.long r40), .second, .val (.long r43), .second, .val (.long ((va - (48 : Int32)).toInt64)), .second, .val (.long (-1 : Int64)), .second, .val (.long (-1 : Int64)), .second, .val (.long r93), .second, .val (.long r93), .second] [(.long r28)]
        refine w_ldc2J (v := (-1 : Int64)) ok at_339 (hw _ (List.mem_of_getElem? (i := 38) rfl)) ?_
        show W K l _ n0 _ h25 6 45 342 #[.val (.long xl), .second, .val (.int a), .val (.int b), .val (.int c), .val (.int va), .val (.int vb), .val (.int vc), .val (.int va), .val (.int vb), .val (.int vc), .val (.long p), .second, .val (.ref b1), .val (.ref b3), .val (.ref b6), .val (.ref b10), .val (.ref b15), .val (.ref b20), .val (.long r28), .second, .val (.long r31), .second, .val (.long r34), .second, .val (.long r37), .second, .val (.long r40), .second, .val (.long r43), .second, .val (.long ((va - (48 : Int32)).toInt64)), .second, .val (.long (-1 : Int64)), .second, .val (.long (-1 : Int64)), .second, .val (.long r93), .second, .val (.long r93), .second] [(.long (-1 : Int64)), (.long r28)]
        refine w_lcmp_ne ok at_342 at_343 (pc' := 390) (by decide) (fun hc113 => False.elim (by exact hc113 (Int64.toInt_inj.mp (by rw [h_r28] <;> rfl)))) (fun hc113 => ?_)
        show W K l _ n0 _ h25 6 45 346 #[.val (.long xl), .second, .val (.int a), .val (.int b), .val (.int c), .val (.int va), .val (.int vb), .val (.int vc), .val (.int va), .val (.int vb), .val (.int vc), .val (.long p), .second, .val (.ref b1), .val (.ref b3), .val (.ref b6), .val (.ref b10), .val (.ref b15), .val (.ref b20), .val (.long r28), .second, .val (.long r31), .second, .val (.long r34), .second, .val (.long r37), .second, .val (.long r40), .second, .val (.long r43), .second, .val (.long ((va - (48 : Int32)).toInt64)), .second, .val (.long (-1 : Int64)), .second, .val (.long (-1 : Int64)), .second, .val (.long r93), .second, .val (.long r93), .second] []
        refine w_lload ok at_346 rfl ?_
        show W K l _ n0 _ h25 6 45 348 #[.val (.long xl), .second, .val (.int a), .val (.int b), .val (.int c), .val (.int va), .val (.int vb), .val (.int vc), .val (.int va), .val (.int vb), .val (.int vc), .val (.long p), .second, .val (.ref b1), .val (.ref b3), .val (.ref b6), .val (.ref b10), .val (.ref b15), .val (.ref b20), .val (.long r28), .second, .val (.long r31), .second, .val (.long r34), .second, .val (.long r37), .second, .val (.long r40), .second, .val (.long r43), .second, .val (.long ((va - (48 : Int32)).toInt64)), .second, .val (.long (-1 : Int64)), .second, .val (.long (-1 : Int64)), .second, .val (.long r93), .second, .val (.long r93), .second] [(.long r31)]
        refine w_lload ok at_348 rfl ?_
        show W K l _ n0 _ h25 6 45 350 #[.val (.long xl), .second, .val (.int a), .val (.int b), .val (.int c), .val (.int va), .val (.int vb), .val (.int vc), .val (.int va), .val (.int vb), .val (.int vc), .val (.long p), .second, .val (.ref b1), .val (.ref b3), .val (.ref b6), .val (.ref b10), .val (.ref b15), .val (.ref b20), .val (.long r28), .second, .val (.long r31), .second, .val (.long r34), .second, .val (.long r37), .second, .val (.long r40), .second, .val (.long r43), .second, .val (.long ((va - (48 : Int32)).toInt64)), .second, .val (.long (-1 : Int64)), .second, .val (.long (-1 : Int64)), .second, .val (.long r93), .second, .val (.long r93), .second] [(.long ((va - (48 : Int32)).toInt64)), (.long r31)]
        refine w_lcmp_ne ok at_350 at_351 (pc' := 390) (by decide) (fun hc115 => False.elim (by exact hc115 (Int64.toInt_inj.mp (by rw [h_r31, own_r1t (own_dig_t hc47), own_c1 va rva])))) (fun hc115 => ?_)
        show W K l _ n0 _ h25 6 45 354 #[.val (.long xl), .second, .val (.int a), .val (.int b), .val (.int c), .val (.int va), .val (.int vb), .val (.int vc), .val (.int va), .val (.int vb), .val (.int vc), .val (.long p), .second, .val (.ref b1), .val (.ref b3), .val (.ref b6), .val (.ref b10), .val (.ref b15), .val (.ref b20), .val (.long r28), .second, .val (.long r31), .second, .val (.long r34), .second, .val (.long r37), .second, .val (.long r40), .second, .val (.long r43), .second, .val (.long ((va - (48 : Int32)).toInt64)), .second, .val (.long (-1 : Int64)), .second, .val (.long (-1 : Int64)), .second, .val (.long r93), .second, .val (.long r93), .second] []
        refine w_lload ok at_354 rfl ?_
        show W K l _ n0 _ h25 6 45 356 #[.val (.long xl), .second, .val (.int a), .val (.int b), .val (.int c), .val (.int va), .val (.int vb), .val (.int vc), .val (.int va), .val (.int vb), .val (.int vc), .val (.long p), .second, .val (.ref b1), .val (.ref b3), .val (.ref b6), .val (.ref b10), .val (.ref b15), .val (.ref b20), .val (.long r28), .second, .val (.long r31), .second, .val (.long r34), .second, .val (.long r37), .second, .val (.long r40), .second, .val (.long r43), .second, .val (.long ((va - (48 : Int32)).toInt64)), .second, .val (.long (-1 : Int64)), .second, .val (.long (-1 : Int64)), .second, .val (.long r93), .second, .val (.long r93), .second] [(.long r34)]
        refine w_lload ok at_356 rfl ?_
        show W K l _ n0 _ h25 6 45 358 #[.val (.long xl), .second, .val (.int a), .val (.int b), .val (.int c), .val (.int va), .val (.int vb), .val (.int vc), .val (.int va), .val (.int vb), .val (.int vc), .val (.long p), .second, .val (.ref b1), .val (.ref b3), .val (.ref b6), .val (.ref b10), .val (.ref b15), .val (.ref b20), .val (.long r28), .second, .val (.long r31), .second, .val (.long r34), .second, .val (.long r37), .second, .val (.long r40), .second, .val (.long r43), .second, .val (.long ((va - (48 : Int32)).toInt64)), .second, .val (.long (-1 : Int64)), .second, .val (.long (-1 : Int64)), .second, .val (.long r93), .second, .val (.long r93), .second] [(.long (-1 : Int64)), (.long r34)]
        refine w_lcmp_ne ok at_358 at_359 (pc' := 390) (by decide) (fun hc117 => False.elim (by exact hc117 (Int64.toInt_inj.mp (by rw [h_r34, own_r2b (own_dig_t hc47) (own_dig_f hc82)] <;> rfl)))) (fun hc117 => ?_)
        show W K l _ n0 _ h25 6 45 362 #[.val (.long xl), .second, .val (.int a), .val (.int b), .val (.int c), .val (.int va), .val (.int vb), .val (.int vc), .val (.int va), .val (.int vb), .val (.int vc), .val (.long p), .second, .val (.ref b1), .val (.ref b3), .val (.ref b6), .val (.ref b10), .val (.ref b15), .val (.ref b20), .val (.long r28), .second, .val (.long r31), .second, .val (.long r34), .second, .val (.long r37), .second, .val (.long r40), .second, .val (.long r43), .second, .val (.long ((va - (48 : Int32)).toInt64)), .second, .val (.long (-1 : Int64)), .second, .val (.long (-1 : Int64)), .second, .val (.long r93), .second, .val (.long r93), .second] []
        refine w_lload ok at_362 rfl ?_
        show W K l _ n0 _ h25 6 45 364 #[.val (.long xl), .second, .val (.int a), .val (.int b), .val (.int c), .val (.int va), .val (.int vb), .val (.int vc), .val (.int va), .val (.int vb), .val (.int vc), .val (.long p), .second, .val (.ref b1), .val (.ref b3), .val (.ref b6), .val (.ref b10), .val (.ref b15), .val (.ref b20), .val (.long r28), .second, .val (.long r31), .second, .val (.long r34), .second, .val (.long r37), .second, .val (.long r40), .second, .val (.long r43), .second, .val (.long ((va - (48 : Int32)).toInt64)), .second, .val (.long (-1 : Int64)), .second, .val (.long (-1 : Int64)), .second, .val (.long r93), .second, .val (.long r93), .second] [(.long r37)]
        refine w_lload ok at_364 rfl ?_
        show W K l _ n0 _ h25 6 45 366 #[.val (.long xl), .second, .val (.int a), .val (.int b), .val (.int c), .val (.int va), .val (.int vb), .val (.int vc), .val (.int va), .val (.int vb), .val (.int vc), .val (.long p), .second, .val (.ref b1), .val (.ref b3), .val (.ref b6), .val (.ref b10), .val (.ref b15), .val (.ref b20), .val (.long r28), .second, .val (.long r31), .second, .val (.long r34), .second, .val (.long r37), .second, .val (.long r40), .second, .val (.long r43), .second, .val (.long ((va - (48 : Int32)).toInt64)), .second, .val (.long (-1 : Int64)), .second, .val (.long (-1 : Int64)), .second, .val (.long r93), .second, .val (.long r93), .second] [(.long (-1 : Int64)), (.long r37)]
        refine w_lcmp_ne ok at_366 at_367 (pc' := 390) (by decide) (fun hc119 => False.elim (by exact hc119 (Int64.toInt_inj.mp (by rw [h_r37, own_r3b (own_dig_t hc47) (own_dig_f hc82)] <;> rfl)))) (fun hc119 => ?_)
        show W K l _ n0 _ h25 6 45 370 #[.val (.long xl), .second, .val (.int a), .val (.int b), .val (.int c), .val (.int va), .val (.int vb), .val (.int vc), .val (.int va), .val (.int vb), .val (.int vc), .val (.long p), .second, .val (.ref b1), .val (.ref b3), .val (.ref b6), .val (.ref b10), .val (.ref b15), .val (.ref b20), .val (.long r28), .second, .val (.long r31), .second, .val (.long r34), .second, .val (.long r37), .second, .val (.long r40), .second, .val (.long r43), .second, .val (.long ((va - (48 : Int32)).toInt64)), .second, .val (.long (-1 : Int64)), .second, .val (.long (-1 : Int64)), .second, .val (.long r93), .second, .val (.long r93), .second] []
        refine w_lload ok at_370 rfl ?_
        show W K l _ n0 _ h25 6 45 372 #[.val (.long xl), .second, .val (.int a), .val (.int b), .val (.int c), .val (.int va), .val (.int vb), .val (.int vc), .val (.int va), .val (.int vb), .val (.int vc), .val (.long p), .second, .val (.ref b1), .val (.ref b3), .val (.ref b6), .val (.ref b10), .val (.ref b15), .val (.ref b20), .val (.long r28), .second, .val (.long r31), .second, .val (.long r34), .second, .val (.long r37), .second, .val (.long r40), .second, .val (.long r43), .second, .val (.long ((va - (48 : Int32)).toInt64)), .second, .val (.long (-1 : Int64)), .second, .val (.long (-1 : Int64)), .second, .val (.long r93), .second, .val (.long r93), .second] [(.long r40)]
        refine w_lload ok at_372 rfl ?_
        show W K l _ n0 _ h25 6 45 374 #[.val (.long xl), .second, .val (.int a), .val (.int b), .val (.int c), .val (.int va), .val (.int vb), .val (.int vc), .val (.int va), .val (.int vb), .val (.int vc), .val (.long p), .second, .val (.ref b1), .val (.ref b3), .val (.ref b6), .val (.ref b10), .val (.ref b15), .val (.ref b20), .val (.long r28), .second, .val (.long r31), .second, .val (.long r34), .second, .val (.long r37), .second, .val (.long r40), .second, .val (.long r43), .second, .val (.long ((va - (48 : Int32)).toInt64)), .second, .val (.long (-1 : Int64)), .second, .val (.long (-1 : Int64)), .second, .val (.long r93), .second, .val (.long r93), .second] [(.long r93), (.long r40)]
        refine w_lcmp_ne ok at_374 at_375 (pc' := 390) (by decide) (fun hc121 => False.elim (by exact hc121 (Int64.toInt_inj.mp (by rw [h_r40, h_r93, own_l19, own_r19 p.toInt hp0 hp2 vc])))) (fun hc121 => ?_)
        show W K l _ n0 _ h25 6 45 378 #[.val (.long xl), .second, .val (.int a), .val (.int b), .val (.int c), .val (.int va), .val (.int vb), .val (.int vc), .val (.int va), .val (.int vb), .val (.int vc), .val (.long p), .second, .val (.ref b1), .val (.ref b3), .val (.ref b6), .val (.ref b10), .val (.ref b15), .val (.ref b20), .val (.long r28), .second, .val (.long r31), .second, .val (.long r34), .second, .val (.long r37), .second, .val (.long r40), .second, .val (.long r43), .second, .val (.long ((va - (48 : Int32)).toInt64)), .second, .val (.long (-1 : Int64)), .second, .val (.long (-1 : Int64)), .second, .val (.long r93), .second, .val (.long r93), .second] []
        refine w_lload ok at_378 rfl ?_
        show W K l _ n0 _ h25 6 45 380 #[.val (.long xl), .second, .val (.int a), .val (.int b), .val (.int c), .val (.int va), .val (.int vb), .val (.int vc), .val (.int va), .val (.int vb), .val (.int vc), .val (.long p), .second, .val (.ref b1), .val (.ref b3), .val (.ref b6), .val (.ref b10), .val (.ref b15), .val (.ref b20), .val (.long r28), .second, .val (.long r31), .second, .val (.long r34), .second, .val (.long r37), .second, .val (.long r40), .second, .val (.long r43), .second, .val (.long ((va - (48 : Int32)).toInt64)), .second, .val (.long (-1 : Int64)), .second, .val (.long (-1 : Int64)), .second, .val (.long r93), .second, .val (.long r93), .second] [(.long r43)]
        refine w_lload ok at_380 rfl ?_
        show W K l _ n0 _ h25 6 45 382 #[.val (.long xl), .second, .val (.int a), .val (.int b), .val (.int c), .val (.int va), .val (.int vb), .val (.int vc), .val (.int va), .val (.int vb), .val (.int vc), .val (.long p), .second, .val (.ref b1), .val (.ref b3), .val (.ref b6), .val (.ref b10), .val (.ref b15), .val (.ref b20), .val (.long r28), .second, .val (.long r31), .second, .val (.long r34), .second, .val (.long r37), .second, .val (.long r40), .second, .val (.long r43), .second, .val (.long ((va - (48 : Int32)).toInt64)), .second, .val (.long (-1 : Int64)), .second, .val (.long (-1 : Int64)), .second, .val (.long r93), .second, .val (.long r93), .second] [(.long r93), (.long r43)]
        refine w_lcmp_ne ok at_382 at_383 (pc' := 390) (by decide) (fun hc123 => False.elim (by exact hc123 (Int64.toInt_inj.mp (by rw [h_r43, h_r93, own_l19, own_r20 p.toInt hp0 hp2 va vc, if_pos (own_48' hc99)])))) (fun hc123 => ?_)
        show W K l _ n0 _ h25 6 45 386 #[.val (.long xl), .second, .val (.int a), .val (.int b), .val (.int c), .val (.int va), .val (.int vb), .val (.int vc), .val (.int va), .val (.int vb), .val (.int vc), .val (.long p), .second, .val (.ref b1), .val (.ref b3), .val (.ref b6), .val (.ref b10), .val (.ref b15), .val (.ref b20), .val (.long r28), .second, .val (.long r31), .second, .val (.long r34), .second, .val (.long r37), .second, .val (.long r40), .second, .val (.long r43), .second, .val (.long ((va - (48 : Int32)).toInt64)), .second, .val (.long (-1 : Int64)), .second, .val (.long (-1 : Int64)), .second, .val (.long r93), .second, .val (.long r93), .second] []
        refine w_iconst ok at_386 (v := (1 : Int32)) rfl ?_
        show W K l _ n0 _ h25 6 45 387 #[.val (.long xl), .second, .val (.int a), .val (.int b), .val (.int c), .val (.int va), .val (.int vb), .val (.int vc), .val (.int va), .val (.int vb), .val (.int vc), .val (.long p), .second, .val (.ref b1), .val (.ref b3), .val (.ref b6), .val (.ref b10), .val (.ref b15), .val (.ref b20), .val (.long r28), .second, .val (.long r31), .second, .val (.long r34), .second, .val (.long r37), .second, .val (.long r40), .second, .val (.long r43), .second, .val (.long ((va - (48 : Int32)).toInt64)), .second, .val (.long (-1 : Int64)), .second, .val (.long (-1 : Int64)), .second, .val (.long r93), .second, .val (.long r93), .second] [(.int (1 : Int32))]
        refine w_goto ok at_387 (pc' := 391) (by decide) ?_
        show W K l _ n0 _ h25 6 45 391 #[.val (.long xl), .second, .val (.int a), .val (.int b), .val (.int c), .val (.int va), .val (.int vb), .val (.int vc), .val (.int va), .val (.int vb), .val (.int vc), .val (.long p), .second, .val (.ref b1), .val (.ref b3), .val (.ref b6), .val (.ref b10), .val (.ref b15), .val (.ref b20), .val (.long r28), .second, .val (.long r31), .second, .val (.long r34), .second, .val (.long r37), .second, .val (.long r40), .second, .val (.long r43), .second, .val (.long ((va - (48 : Int32)).toInt64)), .second, .val (.long (-1 : Int64)), .second, .val (.long (-1 : Int64)), .second, .val (.long r93), .second, .val (.long r93), .second] [(.int (1 : Int32))]
        refine w_bret ok (by simp) at_391 (by decide) (by decide) ?_
        exact rfl
    · show W K l _ n0 _ h25 6 45 214 #[.val (.long xl), .second, .val (.int a), .val (.int b), .val (.int c), .val (.int va), .val (.int vb), .val (.int vc), .val (.int va), .val (.int vb), .val (.int vc), .val (.long p), .second, .val (.ref b1), .val (.ref b3), .val (.ref b6), .val (.ref b10), .val (.ref b15), .val (.ref b20), .val (.long r28), .second, .val (.long r31), .second, .val (.long r34), .second, .val (.long r37), .second, .val (.long r40), .second, .val (.long r43), .second, .val (.long ((va - (48 : Int32)).toInt64)), .second, .unset, .unset, .unset, .unset, .unset, .unset, .unset, .unset] []
      refine w_iload ok at_214 rfl ?_
      show W K l _ n0 _ h25 6 45 216 #[.val (.long xl), .second, .val (.int a), .val (.int b), .val (.int c), .val (.int va), .val (.int vb), .val (.int vc), .val (.int va), .val (.int vb), .val (.int vc), .val (.long p), .second, .val (.ref b1), .val (.ref b3), .val (.ref b6), .val (.ref b10), .val (.ref b15), .val (.ref b20), .val (.long r28), .second, .val (.long r31), .second, .val (.long r34), .second, .val (.long r37), .second, .val (.long r40), .second, .val (.long r43), .second, .val (.long ((va - (48 : Int32)).toInt64)), .second, .unset, .unset, .unset, .unset, .unset, .unset, .unset, .unset] [(.int va)]
      refine w_bipush ok at_216 (v := (48 : Int32)) rfl ?_
      show W K l _ n0 _ h25 6 45 218 #[.val (.long xl), .second, .val (.int a), .val (.int b), .val (.int c), .val (.int va), .val (.int vb), .val (.int vc), .val (.int va), .val (.int vb), .val (.int vc), .val (.long p), .second, .val (.ref b1), .val (.ref b3), .val (.ref b6), .val (.ref b10), .val (.ref b15), .val (.ref b20), .val (.long r28), .second, .val (.long r31), .second, .val (.long r34), .second, .val (.long r37), .second, .val (.long r40), .second, .val (.long r43), .second, .val (.long ((va - (48 : Int32)).toInt64)), .second, .unset, .unset, .unset, .unset, .unset, .unset, .unset, .unset] [(.int (48 : Int32)), (.int va)]
      refine w_isub ok at_218 ?_
      show W K l _ n0 _ h25 6 45 219 #[.val (.long xl), .second, .val (.int a), .val (.int b), .val (.int c), .val (.int va), .val (.int vb), .val (.int vc), .val (.int va), .val (.int vb), .val (.int vc), .val (.long p), .second, .val (.ref b1), .val (.ref b3), .val (.ref b6), .val (.ref b10), .val (.ref b15), .val (.ref b20), .val (.long r28), .second, .val (.long r31), .second, .val (.long r34), .second, .val (.long r37), .second, .val (.long r40), .second, .val (.long r43), .second, .val (.long ((va - (48 : Int32)).toInt64)), .second, .unset, .unset, .unset, .unset, .unset, .unset, .unset, .unset] [(.int (va - (48 : Int32)))]
      refine w_bipush ok at_219 (v := (10 : Int32)) rfl ?_
      show W K l _ n0 _ h25 6 45 221 #[.val (.long xl), .second, .val (.int a), .val (.int b), .val (.int c), .val (.int va), .val (.int vb), .val (.int vc), .val (.int va), .val (.int vb), .val (.int vc), .val (.long p), .second, .val (.ref b1), .val (.ref b3), .val (.ref b6), .val (.ref b10), .val (.ref b15), .val (.ref b20), .val (.long r28), .second, .val (.long r31), .second, .val (.long r34), .second, .val (.long r37), .second, .val (.long r40), .second, .val (.long r43), .second, .val (.long ((va - (48 : Int32)).toInt64)), .second, .unset, .unset, .unset, .unset, .unset, .unset, .unset, .unset] [(.int (10 : Int32)), (.int (va - (48 : Int32)))]
      refine w_imul ok at_221 ?_
      show W K l _ n0 _ h25 6 45 222 #[.val (.long xl), .second, .val (.int a), .val (.int b), .val (.int c), .val (.int va), .val (.int vb), .val (.int vc), .val (.int va), .val (.int vb), .val (.int vc), .val (.long p), .second, .val (.ref b1), .val (.ref b3), .val (.ref b6), .val (.ref b10), .val (.ref b15), .val (.ref b20), .val (.long r28), .second, .val (.long r31), .second, .val (.long r34), .second, .val (.long r37), .second, .val (.long r40), .second, .val (.long r43), .second, .val (.long ((va - (48 : Int32)).toInt64)), .second, .unset, .unset, .unset, .unset, .unset, .unset, .unset, .unset] [(.int ((va - (48 : Int32)) * (10 : Int32)))]
      refine w_iload ok at_222 rfl ?_
      show W K l _ n0 _ h25 6 45 224 #[.val (.long xl), .second, .val (.int a), .val (.int b), .val (.int c), .val (.int va), .val (.int vb), .val (.int vc), .val (.int va), .val (.int vb), .val (.int vc), .val (.long p), .second, .val (.ref b1), .val (.ref b3), .val (.ref b6), .val (.ref b10), .val (.ref b15), .val (.ref b20), .val (.long r28), .second, .val (.long r31), .second, .val (.long r34), .second, .val (.long r37), .second, .val (.long r40), .second, .val (.long r43), .second, .val (.long ((va - (48 : Int32)).toInt64)), .second, .unset, .unset, .unset, .unset, .unset, .unset, .unset, .unset] [(.int vb), (.int ((va - (48 : Int32)) * (10 : Int32)))]
      refine w_bipush ok at_224 (v := (48 : Int32)) rfl ?_
      show W K l _ n0 _ h25 6 45 226 #[.val (.long xl), .second, .val (.int a), .val (.int b), .val (.int c), .val (.int va), .val (.int vb), .val (.int vc), .val (.int va), .val (.int vb), .val (.int vc), .val (.long p), .second, .val (.ref b1), .val (.ref b3), .val (.ref b6), .val (.ref b10), .val (.ref b15), .val (.ref b20), .val (.long r28), .second, .val (.long r31), .second, .val (.long r34), .second, .val (.long r37), .second, .val (.long r40), .second, .val (.long r43), .second, .val (.long ((va - (48 : Int32)).toInt64)), .second, .unset, .unset, .unset, .unset, .unset, .unset, .unset, .unset] [(.int (48 : Int32)), (.int vb), (.int ((va - (48 : Int32)) * (10 : Int32)))]
      refine w_isub ok at_226 ?_
      show W K l _ n0 _ h25 6 45 227 #[.val (.long xl), .second, .val (.int a), .val (.int b), .val (.int c), .val (.int va), .val (.int vb), .val (.int vc), .val (.int va), .val (.int vb), .val (.int vc), .val (.long p), .second, .val (.ref b1), .val (.ref b3), .val (.ref b6), .val (.ref b10), .val (.ref b15), .val (.ref b20), .val (.long r28), .second, .val (.long r31), .second, .val (.long r34), .second, .val (.long r37), .second, .val (.long r40), .second, .val (.long r43), .second, .val (.long ((va - (48 : Int32)).toInt64)), .second, .unset, .unset, .unset, .unset, .unset, .unset, .unset, .unset] [(.int (vb - (48 : Int32))), (.int ((va - (48 : Int32)) * (10 : Int32)))]
      refine w_iadd ok at_227 ?_
      show W K l _ n0 _ h25 6 45 228 #[.val (.long xl), .second, .val (.int a), .val (.int b), .val (.int c), .val (.int va), .val (.int vb), .val (.int vc), .val (.int va), .val (.int vb), .val (.int vc), .val (.long p), .second, .val (.ref b1), .val (.ref b3), .val (.ref b6), .val (.ref b10), .val (.ref b15), .val (.ref b20), .val (.long r28), .second, .val (.long r31), .second, .val (.long r34), .second, .val (.long r37), .second, .val (.long r40), .second, .val (.long r43), .second, .val (.long ((va - (48 : Int32)).toInt64)), .second, .unset, .unset, .unset, .unset, .unset, .unset, .unset, .unset] [(.int (((va - (48 : Int32)) * (10 : Int32)) + (vb - (48 : Int32))))]
      refine w_i2l ok at_228 ?_
      show W K l _ n0 _ h25 6 45 229 #[.val (.long xl), .second, .val (.int a), .val (.int b), .val (.int c), .val (.int va), .val (.int vb), .val (.int vc), .val (.int va), .val (.int vb), .val (.int vc), .val (.long p), .second, .val (.ref b1), .val (.ref b3), .val (.ref b6), .val (.ref b10), .val (.ref b15), .val (.ref b20), .val (.long r28), .second, .val (.long r31), .second, .val (.long r34), .second, .val (.long r37), .second, .val (.long r40), .second, .val (.long r43), .second, .val (.long ((va - (48 : Int32)).toInt64)), .second, .unset, .unset, .unset, .unset, .unset, .unset, .unset, .unset] [(.long ((((va - (48 : Int32)) * (10 : Int32)) + (vb - (48 : Int32))).toInt64))]
      refine w_goto ok at_229 (pc' := 235) (by decide) ?_
      show W K l _ n0 _ h25 6 45 235 #[.val (.long xl), .second, .val (.int a), .val (.int b), .val (.int c), .val (.int va), .val (.int vb), .val (.int vc), .val (.int va), .val (.int vb), .val (.int vc), .val (.long p), .second, .val (.ref b1), .val (.ref b3), .val (.ref b6), .val (.ref b10), .val (.ref b15), .val (.ref b20), .val (.long r28), .second, .val (.long r31), .second, .val (.long r34), .second, .val (.long r37), .second, .val (.long r40), .second, .val (.long r43), .second, .val (.long ((va - (48 : Int32)).toInt64)), .second, .unset, .unset, .unset, .unset, .unset, .unset, .unset, .unset] [(.long ((((va - (48 : Int32)) * (10 : Int32)) + (vb - (48 : Int32))).toInt64))]
      refine w_lstore ok at_235 (L' := #[.val (.long xl), .second, .val (.int a), .val (.int b), .val (.int c), .val (.int va), .val (.int vb), .val (.int vc), .val (.int va), .val (.int vb), .val (.int vc), .val (.long p), .second, .val (.ref b1), .val (.ref b3), .val (.ref b6), .val (.ref b10), .val (.ref b15), .val (.ref b20), .val (.long r28), .second, .val (.long r31), .second, .val (.long r34), .second, .val (.long r37), .second, .val (.long r40), .second, .val (.long r43), .second, .val (.long ((va - (48 : Int32)).toInt64)), .second, .val (.long ((((va - (48 : Int32)) * (10 : Int32)) + (vb - (48 : Int32))).toInt64)), .second, .unset, .unset, .unset, .unset, .unset, .unset]) rfl ?_
      show W K l _ n0 _ h25 6 45 237 #[.val (.long xl), .second, .val (.int a), .val (.int b), .val (.int c), .val (.int va), .val (.int vb), .val (.int vc), .val (.int va), .val (.int vb), .val (.int vc), .val (.long p), .second, .val (.ref b1), .val (.ref b3), .val (.ref b6), .val (.ref b10), .val (.ref b15), .val (.ref b20), .val (.long r28), .second, .val (.long r31), .second, .val (.long r34), .second, .val (.long r37), .second, .val (.long r40), .second, .val (.long r43), .second, .val (.long ((va - (48 : Int32)).toInt64)), .second, .val (.long ((((va - (48 : Int32)) * (10 : Int32)) + (vb - (48 : Int32))).toInt64)), .second, .unset, .unset, .unset, .unset, .unset, .unset] []
      refine w_iload ok at_237 rfl ?_
      show W K l _ n0 _ h25 6 45 239 #[.val (.long xl), .second, .val (.int a), .val (.int b), .val (.int c), .val (.int va), .val (.int vb), .val (.int vc), .val (.int va), .val (.int vb), .val (.int vc), .val (.long p), .second, .val (.ref b1), .val (.ref b3), .val (.ref b6), .val (.ref b10), .val (.ref b15), .val (.ref b20), .val (.long r28), .second, .val (.long r31), .second, .val (.long r34), .second, .val (.long r37), .second, .val (.long r40), .second, .val (.long r43), .second, .val (.long ((va - (48 : Int32)).toInt64)), .second, .val (.long ((((va - (48 : Int32)) * (10 : Int32)) + (vb - (48 : Int32))).toInt64)), .second, .unset, .unset, .unset, .unset, .unset, .unset] [(.int va)]
      refine w_callS ok (y := (⟨"com/example/turnstile/turnstile/server/CommandsParseCountPinLaw", "dig", "(I)Z"⟩ : MethodName)) (argsL := [(.int va)]) (rest := []) at_239 (hw _ (List.mem_of_getElem? (i := 35) rfl)) (hw _ (List.mem_of_getElem? (i := 36) rfl)) (hw _ (List.mem_of_getElem? (i := 5) rfl)) (hw _ (List.mem_of_getElem? (i := 37) rfl)) (by decide) pd_28I29Z rfl rfl (by decide) (Nat.le_of_ble_eq_true rfl) (by decide) (by decide) (fun z0 => rm_dig l Z a0 hw [] n0 h25 z0 va) (fun v124 h125 qv124 => ?_)
      obtain ⟨rfl, rfl⟩ := qv124
      show W K l _ n0 _ h25 6 45 242 #[.val (.long xl), .second, .val (.int a), .val (.int b), .val (.int c), .val (.int va), .val (.int vb), .val (.int vc), .val (.int va), .val (.int vb), .val (.int vc), .val (.long p), .second, .val (.ref b1), .val (.ref b3), .val (.ref b6), .val (.ref b10), .val (.ref b15), .val (.ref b20), .val (.long r28), .second, .val (.long r31), .second, .val (.long r34), .second, .val (.long r37), .second, .val (.long r40), .second, .val (.long r43), .second, .val (.long ((va - (48 : Int32)).toInt64)), .second, .val (.long ((((va - (48 : Int32)) * (10 : Int32)) + (vb - (48 : Int32))).toInt64)), .second, .unset, .unset, .unset, .unset, .unset, .unset] [(.int (own_dig va))]
      refine w_if_eq ok at_242 (pc' := 288) (by decide) (fun hc127 => False.elim (by exact hc47 hc127)) (fun hc127 => ?_)
      show W K l _ n0 _ h25 6 45 245 #[.val (.long xl), .second, .val (.int a), .val (.int b), .val (.int c), .val (.int va), .val (.int vb), .val (.int vc), .val (.int va), .val (.int vb), .val (.int vc), .val (.long p), .second, .val (.ref b1), .val (.ref b3), .val (.ref b6), .val (.ref b10), .val (.ref b15), .val (.ref b20), .val (.long r28), .second, .val (.long r31), .second, .val (.long r34), .second, .val (.long r37), .second, .val (.long r40), .second, .val (.long r43), .second, .val (.long ((va - (48 : Int32)).toInt64)), .second, .val (.long ((((va - (48 : Int32)) * (10 : Int32)) + (vb - (48 : Int32))).toInt64)), .second, .unset, .unset, .unset, .unset, .unset, .unset] []
      refine w_iload ok at_245 rfl ?_
      show W K l _ n0 _ h25 6 45 247 #[.val (.long xl), .second, .val (.int a), .val (.int b), .val (.int c), .val (.int va), .val (.int vb), .val (.int vc), .val (.int va), .val (.int vb), .val (.int vc), .val (.long p), .second, .val (.ref b1), .val (.ref b3), .val (.ref b6), .val (.ref b10), .val (.ref b15), .val (.ref b20), .val (.long r28), .second, .val (.long r31), .second, .val (.long r34), .second, .val (.long r37), .second, .val (.long r40), .second, .val (.long r43), .second, .val (.long ((va - (48 : Int32)).toInt64)), .second, .val (.long ((((va - (48 : Int32)) * (10 : Int32)) + (vb - (48 : Int32))).toInt64)), .second, .unset, .unset, .unset, .unset, .unset, .unset] [(.int vb)]
      refine w_callS ok (y := (⟨"com/example/turnstile/turnstile/server/CommandsParseCountPinLaw", "dig", "(I)Z"⟩ : MethodName)) (argsL := [(.int vb)]) (rest := []) at_247 (hw _ (List.mem_of_getElem? (i := 35) rfl)) (hw _ (List.mem_of_getElem? (i := 36) rfl)) (hw _ (List.mem_of_getElem? (i := 5) rfl)) (hw _ (List.mem_of_getElem? (i := 37) rfl)) (by decide) pd_28I29Z rfl rfl (by decide) (Nat.le_of_ble_eq_true rfl) (by decide) (by decide) (fun z0 => rm_dig l Z a0 hw [] n0 h25 z0 vb) (fun v128 h129 qv128 => ?_)
      obtain ⟨rfl, rfl⟩ := qv128
      show W K l _ n0 _ h25 6 45 250 #[.val (.long xl), .second, .val (.int a), .val (.int b), .val (.int c), .val (.int va), .val (.int vb), .val (.int vc), .val (.int va), .val (.int vb), .val (.int vc), .val (.long p), .second, .val (.ref b1), .val (.ref b3), .val (.ref b6), .val (.ref b10), .val (.ref b15), .val (.ref b20), .val (.long r28), .second, .val (.long r31), .second, .val (.long r34), .second, .val (.long r37), .second, .val (.long r40), .second, .val (.long r43), .second, .val (.long ((va - (48 : Int32)).toInt64)), .second, .val (.long ((((va - (48 : Int32)) * (10 : Int32)) + (vb - (48 : Int32))).toInt64)), .second, .unset, .unset, .unset, .unset, .unset, .unset] [(.int (own_dig vb))]
      refine w_if_eq ok at_250 (pc' := 288) (by decide) (fun hc131 => False.elim (by exact hc82 hc131)) (fun hc131 => ?_)
      show W K l _ n0 _ h25 6 45 253 #[.val (.long xl), .second, .val (.int a), .val (.int b), .val (.int c), .val (.int va), .val (.int vb), .val (.int vc), .val (.int va), .val (.int vb), .val (.int vc), .val (.long p), .second, .val (.ref b1), .val (.ref b3), .val (.ref b6), .val (.ref b10), .val (.ref b15), .val (.ref b20), .val (.long r28), .second, .val (.long r31), .second, .val (.long r34), .second, .val (.long r37), .second, .val (.long r40), .second, .val (.long r43), .second, .val (.long ((va - (48 : Int32)).toInt64)), .second, .val (.long ((((va - (48 : Int32)) * (10 : Int32)) + (vb - (48 : Int32))).toInt64)), .second, .unset, .unset, .unset, .unset, .unset, .unset] []
      refine w_iload ok at_253 rfl ?_
      show W K l _ n0 _ h25 6 45 255 #[.val (.long xl), .second, .val (.int a), .val (.int b), .val (.int c), .val (.int va), .val (.int vb), .val (.int vc), .val (.int va), .val (.int vb), .val (.int vc), .val (.long p), .second, .val (.ref b1), .val (.ref b3), .val (.ref b6), .val (.ref b10), .val (.ref b15), .val (.ref b20), .val (.long r28), .second, .val (.long r31), .second, .val (.long r34), .second, .val (.long r37), .second, .val (.long r40), .second, .val (.long r43), .second, .val (.long ((va - (48 : Int32)).toInt64)), .second, .val (.long ((((va - (48 : Int32)) * (10 : Int32)) + (vb - (48 : Int32))).toInt64)), .second, .unset, .unset, .unset, .unset, .unset, .unset] [(.int vc)]
      refine w_callS ok (y := (⟨"com/example/turnstile/turnstile/server/CommandsParseCountPinLaw", "dig", "(I)Z"⟩ : MethodName)) (argsL := [(.int vc)]) (rest := []) at_255 (hw _ (List.mem_of_getElem? (i := 35) rfl)) (hw _ (List.mem_of_getElem? (i := 36) rfl)) (hw _ (List.mem_of_getElem? (i := 5) rfl)) (hw _ (List.mem_of_getElem? (i := 37) rfl)) (by decide) pd_28I29Z rfl rfl (by decide) (Nat.le_of_ble_eq_true rfl) (by decide) (by decide) (fun z0 => rm_dig l Z a0 hw [] n0 h25 z0 vc) (fun v132 h133 qv132 => ?_)
      obtain ⟨rfl, rfl⟩ := qv132
      show W K l _ n0 _ h25 6 45 258 #[.val (.long xl), .second, .val (.int a), .val (.int b), .val (.int c), .val (.int va), .val (.int vb), .val (.int vc), .val (.int va), .val (.int vb), .val (.int vc), .val (.long p), .second, .val (.ref b1), .val (.ref b3), .val (.ref b6), .val (.ref b10), .val (.ref b15), .val (.ref b20), .val (.long r28), .second, .val (.long r31), .second, .val (.long r34), .second, .val (.long r37), .second, .val (.long r40), .second, .val (.long r43), .second, .val (.long ((va - (48 : Int32)).toInt64)), .second, .val (.long ((((va - (48 : Int32)) * (10 : Int32)) + (vb - (48 : Int32))).toInt64)), .second, .unset, .unset, .unset, .unset, .unset, .unset] [(.int (own_dig vc))]
      refine w_if_eq ok at_258 (pc' := 288) (by decide) (fun hc135 => ?_) (fun hc135 => ?_)
      · show W K l _ n0 _ h25 6 45 288 #[.val (.long xl), .second, .val (.int a), .val (.int b), .val (.int c), .val (.int va), .val (.int vb), .val (.int vc), .val (.int va), .val (.int vb), .val (.int vc), .val (.long p), .second, .val (.ref b1), .val (.ref b3), .val (.ref b6), .val (.ref b10), .val (.ref b15), .val (.ref b20), .val (.long r28), .second, .val (.long r31), .second, .val (.long r34), .second, .val (.long r37), .second, .val (.long r40), .second, .val (.long r43), .second, .val (.long ((va - (48 : Int32)).toInt64)), .second, .val (.long ((((va - (48 : Int32)) * (10 : Int32)) + (vb - (48 : Int32))).toInt64)), .second, .unset, .unset, .unset, .unset, .unset, .unset] []
        refine w_ldc2J (v := (-1 : Int64)) ok at_288 (hw _ (List.mem_of_getElem? (i := 38) rfl)) ?_
        show W K l _ n0 _ h25 6 45 291 #[.val (.long xl), .second, .val (.int a), .val (.int b), .val (.int c), .val (.int va), .val (.int vb), .val (.int vc), .val (.int va), .val (.int vb), .val (.int vc), .val (.long p), .second, .val (.ref b1), .val (.ref b3), .val (.ref b6), .val (.ref b10), .val (.ref b15), .val (.ref b20), .val (.long r28), .second, .val (.long r31), .second, .val (.long r34), .second, .val (.long r37), .second, .val (.long r40), .second, .val (.long r43), .second, .val (.long ((va - (48 : Int32)).toInt64)), .second, .val (.long ((((va - (48 : Int32)) * (10 : Int32)) + (vb - (48 : Int32))).toInt64)), .second, .unset, .unset, .unset, .unset, .unset, .unset] [(.long (-1 : Int64))]
        refine w_lstore ok at_291 (L' := #[.val (.long xl), .second, .val (.int a), .val (.int b), .val (.int c), .val (.int va), .val (.int vb), .val (.int vc), .val (.int va), .val (.int vb), .val (.int vc), .val (.long p), .second, .val (.ref b1), .val (.ref b3), .val (.ref b6), .val (.ref b10), .val (.ref b15), .val (.ref b20), .val (.long r28), .second, .val (.long r31), .second, .val (.long r34), .second, .val (.long r37), .second, .val (.long r40), .second, .val (.long r43), .second, .val (.long ((va - (48 : Int32)).toInt64)), .second, .val (.long ((((va - (48 : Int32)) * (10 : Int32)) + (vb - (48 : Int32))).toInt64)), .second, .val (.long (-1 : Int64)), .second, .unset, .unset, .unset, .unset]) rfl ?_
        show W K l _ n0 _ h25 6 45 293 #[.val (.long xl), .second, .val (.int a), .val (.int b), .val (.int c), .val (.int va), .val (.int vb), .val (.int vc), .val (.int va), .val (.int vb), .val (.int vc), .val (.long p), .second, .val (.ref b1), .val (.ref b3), .val (.ref b6), .val (.ref b10), .val (.ref b15), .val (.ref b20), .val (.long r28), .second, .val (.long r31), .second, .val (.long r34), .second, .val (.long r37), .second, .val (.long r40), .second, .val (.long r43), .second, .val (.long ((va - (48 : Int32)).toInt64)), .second, .val (.long ((((va - (48 : Int32)) * (10 : Int32)) + (vb - (48 : Int32))).toInt64)), .second, .val (.long (-1 : Int64)), .second, .unset, .unset, .unset, .unset] []
        refine w_lload ok at_293 rfl ?_
        show W K l _ n0 _ h25 6 45 295 #[.val (.long xl), .second, .val (.int a), .val (.int b), .val (.int c), .val (.int va), .val (.int vb), .val (.int vc), .val (.int va), .val (.int vb), .val (.int vc), .val (.long p), .second, .val (.ref b1), .val (.ref b3), .val (.ref b6), .val (.ref b10), .val (.ref b15), .val (.ref b20), .val (.long r28), .second, .val (.long r31), .second, .val (.long r34), .second, .val (.long r37), .second, .val (.long r40), .second, .val (.long r43), .second, .val (.long ((va - (48 : Int32)).toInt64)), .second, .val (.long ((((va - (48 : Int32)) * (10 : Int32)) + (vb - (48 : Int32))).toInt64)), .second, .val (.long (-1 : Int64)), .second, .unset, .unset, .unset, .unset] [(.long p)]
        refine w_iload ok at_295 rfl ?_
        show W K l _ n0 _ h25 6 45 297 #[.val (.long xl), .second, .val (.int a), .val (.int b), .val (.int c), .val (.int va), .val (.int vb), .val (.int vc), .val (.int va), .val (.int vb), .val (.int vc), .val (.long p), .second, .val (.ref b1), .val (.ref b3), .val (.ref b6), .val (.ref b10), .val (.ref b15), .val (.ref b20), .val (.long r28), .second, .val (.long r31), .second, .val (.long r34), .second, .val (.long r37), .second, .val (.long r40), .second, .val (.long r43), .second, .val (.long ((va - (48 : Int32)).toInt64)), .second, .val (.long ((((va - (48 : Int32)) * (10 : Int32)) + (vb - (48 : Int32))).toInt64)), .second, .val (.long (-1 : Int64)), .second, .unset, .unset, .unset, .unset] [(.int vc), (.long p)]
        refine w_callS ok (y := (⟨"com/example/turnstile/turnstile/server/CommandsParseCountPinLaw", "exp19", "(JI)J"⟩ : MethodName)) (argsL := [(.long p), (.int vc)]) (rest := []) at_297 (hw _ (List.mem_of_getElem? (i := 39) rfl)) (hw _ (List.mem_of_getElem? (i := 40) rfl)) (hw _ (List.mem_of_getElem? (i := 5) rfl)) (hw _ (List.mem_of_getElem? (i := 41) rfl)) (by decide) pd_28JI29J rfl rfl (by decide) (Nat.le_of_ble_eq_true rfl) (by decide) (by decide) (fun z0 => rm_e19 l Z a0 hw [] n0 h25 z0 p vc hp0 hp2) (fun v136 h137 qv136 => ?_)
        obtain ⟨r138, rfl, h_r138, rfl⟩ := qv136
        show W K l _ n0 _ h25 6 45 300 #[.val (.long xl), .second, .val (.int a), .val (.int b), .val (.int c), .val (.int va), .val (.int vb), .val (.int vc), .val (.int va), .val (.int vb), .val (.int vc), .val (.long p), .second, .val (.ref b1), .val (.ref b3), .val (.ref b6), .val (.ref b10), .val (.ref b15), .val (.ref b20), .val (.long r28), .second, .val (.long r31), .second, .val (.long r34), .second, .val (.long r37), .second, .val (.long r40), .second, .val (.long r43), .second, .val (.long ((va - (48 : Int32)).toInt64)), .second, .val (.long ((((va - (48 : Int32)) * (10 : Int32)) + (vb - (48 : Int32))).toInt64)), .second, .val (.long (-1 : Int64)), .second, .unset, .unset, .unset, .unset] [(.long r138)]
        refine w_lstore ok at_300 (L' := #[.val (.long xl), .second, .val (.int a), .val (.int b), .val (.int c), .val (.int va), .val (.int vb), .val (.int vc), .val (.int va), .val (.int vb), .val (.int vc), .val (.long p), .second, .val (.ref b1), .val (.ref b3), .val (.ref b6), .val (.ref b10), .val (.ref b15), .val (.ref b20), .val (.long r28), .second, .val (.long r31), .second, .val (.long r34), .second, .val (.long r37), .second, .val (.long r40), .second, .val (.long r43), .second, .val (.long ((va - (48 : Int32)).toInt64)), .second, .val (.long ((((va - (48 : Int32)) * (10 : Int32)) + (vb - (48 : Int32))).toInt64)), .second, .val (.long (-1 : Int64)), .second, .val (.long r138), .second, .unset, .unset]) rfl ?_
        show W K l _ n0 _ h25 6 45 302 #[.val (.long xl), .second, .val (.int a), .val (.int b), .val (.int c), .val (.int va), .val (.int vb), .val (.int vc), .val (.int va), .val (.int vb), .val (.int vc), .val (.long p), .second, .val (.ref b1), .val (.ref b3), .val (.ref b6), .val (.ref b10), .val (.ref b15), .val (.ref b20), .val (.long r28), .second, .val (.long r31), .second, .val (.long r34), .second, .val (.long r37), .second, .val (.long r40), .second, .val (.long r43), .second, .val (.long ((va - (48 : Int32)).toInt64)), .second, .val (.long ((((va - (48 : Int32)) * (10 : Int32)) + (vb - (48 : Int32))).toInt64)), .second, .val (.long (-1 : Int64)), .second, .val (.long r138), .second, .unset, .unset] []
        refine w_iload ok at_302 rfl ?_
        show W K l _ n0 _ h25 6 45 304 #[.val (.long xl), .second, .val (.int a), .val (.int b), .val (.int c), .val (.int va), .val (.int vb), .val (.int vc), .val (.int va), .val (.int vb), .val (.int vc), .val (.long p), .second, .val (.ref b1), .val (.ref b3), .val (.ref b6), .val (.ref b10), .val (.ref b15), .val (.ref b20), .val (.long r28), .second, .val (.long r31), .second, .val (.long r34), .second, .val (.long r37), .second, .val (.long r40), .second, .val (.long r43), .second, .val (.long ((va - (48 : Int32)).toInt64)), .second, .val (.long ((((va - (48 : Int32)) * (10 : Int32)) + (vb - (48 : Int32))).toInt64)), .second, .val (.long (-1 : Int64)), .second, .val (.long r138), .second, .unset, .unset] [(.int va)]
        refine w_callS ok (y := (⟨"com/example/turnstile/turnstile/server/CommandsParseCountPinLaw", "dig", "(I)Z"⟩ : MethodName)) (argsL := [(.int va)]) (rest := []) at_304 (hw _ (List.mem_of_getElem? (i := 35) rfl)) (hw _ (List.mem_of_getElem? (i := 36) rfl)) (hw _ (List.mem_of_getElem? (i := 5) rfl)) (hw _ (List.mem_of_getElem? (i := 37) rfl)) (by decide) pd_28I29Z rfl rfl (by decide) (Nat.le_of_ble_eq_true rfl) (by decide) (by decide) (fun z0 => rm_dig l Z a0 hw [] n0 h25 z0 va) (fun v139 h140 qv139 => ?_)
        obtain ⟨rfl, rfl⟩ := qv139
        show W K l _ n0 _ h25 6 45 307 #[.val (.long xl), .second, .val (.int a), .val (.int b), .val (.int c), .val (.int va), .val (.int vb), .val (.int vc), .val (.int va), .val (.int vb), .val (.int vc), .val (.long p), .second, .val (.ref b1), .val (.ref b3), .val (.ref b6), .val (.ref b10), .val (.ref b15), .val (.ref b20), .val (.long r28), .second, .val (.long r31), .second, .val (.long r34), .second, .val (.long r37), .second, .val (.long r40), .second, .val (.long r43), .second, .val (.long ((va - (48 : Int32)).toInt64)), .second, .val (.long ((((va - (48 : Int32)) * (10 : Int32)) + (vb - (48 : Int32))).toInt64)), .second, .val (.long (-1 : Int64)), .second, .val (.long r138), .second, .unset, .unset] [(.int (own_dig va))]
        refine w_if_ne ok at_307 (pc' := 318) (by decide) (fun hc142 => ?_) (fun hc142 => False.elim (by exact hc47 hc142))
        show W K l _ n0 _ h25 6 45 318 #[.val (.long xl), .second, .val (.int a), .val (.int b), .val (.int c), .val (.int va), .val (.int vb), .val (.int vc), .val (.int va), .val (.int vb), .val (.int vc), .val (.long p), .second, .val (.ref b1), .val (.ref b3), .val (.ref b6), .val (.ref b10), .val (.ref b15), .val (.ref b20), .val (.long r28), .second, .val (.long r31), .second, .val (.long r34), .second, .val (.long r37), .second, .val (.long r40), .second, .val (.long r43), .second, .val (.long ((va - (48 : Int32)).toInt64)), .second, .val (.long ((((va - (48 : Int32)) * (10 : Int32)) + (vb - (48 : Int32))).toInt64)), .second, .val (.long (-1 : Int64)), .second, .val (.long r138), .second, .unset, .unset] []
        refine w_iload ok at_318 rfl ?_
        show W K l _ n0 _ h25 6 45 320 #[.val (.long xl), .second, .val (.int a), .val (.int b), .val (.int c), .val (.int va), .val (.int vb), .val (.int vc), .val (.int va), .val (.int vb), .val (.int vc), .val (.long p), .second, .val (.ref b1), .val (.ref b3), .val (.ref b6), .val (.ref b10), .val (.ref b15), .val (.ref b20), .val (.long r28), .second, .val (.long r31), .second, .val (.long r34), .second, .val (.long r37), .second, .val (.long r40), .second, .val (.long r43), .second, .val (.long ((va - (48 : Int32)).toInt64)), .second, .val (.long ((((va - (48 : Int32)) * (10 : Int32)) + (vb - (48 : Int32))).toInt64)), .second, .val (.long (-1 : Int64)), .second, .val (.long r138), .second, .unset, .unset] [(.int va)]
        refine w_bipush ok at_320 (v := (48 : Int32)) rfl ?_
        show W K l _ n0 _ h25 6 45 322 #[.val (.long xl), .second, .val (.int a), .val (.int b), .val (.int c), .val (.int va), .val (.int vb), .val (.int vc), .val (.int va), .val (.int vb), .val (.int vc), .val (.long p), .second, .val (.ref b1), .val (.ref b3), .val (.ref b6), .val (.ref b10), .val (.ref b15), .val (.ref b20), .val (.long r28), .second, .val (.long r31), .second, .val (.long r34), .second, .val (.long r37), .second, .val (.long r40), .second, .val (.long r43), .second, .val (.long ((va - (48 : Int32)).toInt64)), .second, .val (.long ((((va - (48 : Int32)) * (10 : Int32)) + (vb - (48 : Int32))).toInt64)), .second, .val (.long (-1 : Int64)), .second, .val (.long r138), .second, .unset, .unset] [(.int (48 : Int32)), (.int va)]
        refine w_icmp_ne ok at_322 (pc' := 332) (by decide) (fun hc144 => ?_) (fun hc144 => ?_)
        · show W K l _ n0 _ h25 6 45 332 #[.val (.long xl), .second, .val (.int a), .val (.int b), .val (.int c), .val (.int va), .val (.int vb), .val (.int vc), .val (.int va), .val (.int vb), .val (.int vc), .val (.long p), .second, .val (.ref b1), .val (.ref b3), .val (.ref b6), .val (.ref b10), .val (.ref b15), .val (.ref b20), .val (.long r28), .second, .val (.long r31), .second, .val (.long r34), .second, .val (.long r37), .second, .val (.long r40), .second, .val (.long r43), .second, .val (.long ((va - (48 : Int32)).toInt64)), .second, .val (.long ((((va - (48 : Int32)) * (10 : Int32)) + (vb - (48 : Int32))).toInt64)), .second, .val (.long (-1 : Int64)), .second, .val (.long r138), .second, .unset, .unset] []
          refine w_ldc2J (v := (-1 : Int64)) ok at_332 (hw _ (List.mem_of_getElem? (i := 38) rfl)) ?_
          show W K l _ n0 _ h25 6 45 335 #[.val (.long xl), .second, .val (.int a), .val (.int b), .val (.int c), .val (.int va), .val (.int vb), .val (.int vc), .val (.int va), .val (.int vb), .val (.int vc), .val (.long p), .second, .val (.ref b1), .val (.ref b3), .val (.ref b6), .val (.ref b10), .val (.ref b15), .val (.ref b20), .val (.long r28), .second, .val (.long r31), .second, .val (.long r34), .second, .val (.long r37), .second, .val (.long r40), .second, .val (.long r43), .second, .val (.long ((va - (48 : Int32)).toInt64)), .second, .val (.long ((((va - (48 : Int32)) * (10 : Int32)) + (vb - (48 : Int32))).toInt64)), .second, .val (.long (-1 : Int64)), .second, .val (.long r138), .second, .unset, .unset] [(.long (-1 : Int64))]
          refine w_lstore ok at_335 (L' := #[.val (.long xl), .second, .val (.int a), .val (.int b), .val (.int c), .val (.int va), .val (.int vb), .val (.int vc), .val (.int va), .val (.int vb), .val (.int vc), .val (.long p), .second, .val (.ref b1), .val (.ref b3), .val (.ref b6), .val (.ref b10), .val (.ref b15), .val (.ref b20), .val (.long r28), .second, .val (.long r31), .second, .val (.long r34), .second, .val (.long r37), .second, .val (.long r40), .second, .val (.long r43), .second, .val (.long ((va - (48 : Int32)).toInt64)), .second, .val (.long ((((va - (48 : Int32)) * (10 : Int32)) + (vb - (48 : Int32))).toInt64)), .second, .val (.long (-1 : Int64)), .second, .val (.long r138), .second, .val (.long (-1 : Int64)), .second]) rfl ?_
          show W K l _ n0 _ h25 6 45 337 #[.val (.long xl), .second, .val (.int a), .val (.int b), .val (.int c), .val (.int va), .val (.int vb), .val (.int vc), .val (.int va), .val (.int vb), .val (.int vc), .val (.long p), .second, .val (.ref b1), .val (.ref b3), .val (.ref b6), .val (.ref b10), .val (.ref b15), .val (.ref b20), .val (.long r28), .second, .val (.long r31), .second, .val (.long r34), .second, .val (.long r37), .second, .val (.long r40), .second, .val (.long r43), .second, .val (.long ((va - (48 : Int32)).toInt64)), .second, .val (.long ((((va - (48 : Int32)) * (10 : Int32)) + (vb - (48 : Int32))).toInt64)), .second, .val (.long (-1 : Int64)), .second, .val (.long r138), .second, .val (.long (-1 : Int64)), .second] []
          refine w_lload ok at_337 rfl ?_
          show W K l _ n0 _ h25 6 45 339 #[.val (.long xl), .second, .val (.int a), .val (.int b), .val (.int c), .val (.int va), .val (.int vb), .val (.int vc), .val (.int va), .val (.int vb), .val (.int vc), .val (.long p), .second, .val (.ref b1), .val (.ref b3), .val (.ref b6), .val (.ref b10), .val (.ref b15), .val (.ref b20), .val (.long r28), .second, .val (.long r31), .second, .val (.long r34), .second, .val (.long r37), .second, .val (.long r40), .second, .val (.long r43), .second, .val (.long ((va - (48 : Int32)).toInt64)), .second, .val (.long ((((va - (48 : Int32)) * (10 : Int32)) + (vb - (48 : Int32))).toInt64)), .second, .val (.long (-1 : Int64)), .second, .val (.long r138), .second, .val (.long (-1 : Int64)), .second] [(.long r28)]
          refine w_ldc2J (v := (-1 : Int64)) ok at_339 (hw _ (List.mem_of_getElem? (i := 38) rfl)) ?_
          show W K l _ n0 _ h25 6 45 342 #[.val (.long xl), .second, .val (.int a), .val (.int b), .val (.int c), .val (.int va), .val (.int vb), .val (.int vc), .val (.int va), .val (.int vb), .val (.int vc), .val (.long p), .second, .val (.ref b1), .val (.ref b3), .val (.ref b6), .val (.ref b10), .val (.ref b15), .val (.ref b20), .val (.long r28), .second, .val (.long r31), .second, .val (.long r34), .second, .val (.long r37), .second, .val (.long r40), .second, .val (.long r43), .second, .val (.long ((va - (48 : Int32)).toInt64)), .second, .val (.long ((((va - (48 : Int32)) * (10 : Int32)) + (vb - (48 : Int32))).toInt64)), .second, .val (.long (-1 : Int64)), .second, .val (.long r138), .second, .val (.long (-1 : Int64)), .second] [(.long (-1 : Int64)), (.long r28)]
          refine w_lcmp_ne ok at_342 at_343 (pc' := 390) (by decide) (fun hc146 => False.elim (by exact hc146 (Int64.toInt_inj.mp (by rw [h_r28] <;> rfl)))) (fun hc146 => ?_)
          show W K l _ n0 _ h25 6 45 346 #[.val (.long xl), .second, .val (.int a), .val (.int b), .val (.int c), .val (.int va), .val (.int vb), .val (.int vc), .val (.int va), .val (.int vb), .val (.int vc), .val (.long p), .second, .val (.ref b1), .val (.ref b3), .val (.ref b6), .val (.ref b10), .val (.ref b15), .val (.ref b20), .val (.long r28), .second, .val (.long r31), .second, .val (.long r34), .second, .val (.long r37), .second, .val (.long r40), .second, .val (.long r43), .second, .val (.long ((va - (48 : Int32)).toInt64)), .second, .val (.long ((((va - (48 : Int32)) * (10 : Int32)) + (vb - (48 : Int32))).toInt64)), .second, .val (.long (-1 : Int64)), .second, .val (.long r138), .second, .val (.long (-1 : Int64)), .second] []
          refine w_lload ok at_346 rfl ?_
          show W K l _ n0 _ h25 6 45 348 #[.val (.long xl), .second, .val (.int a), .val (.int b), .val (.int c), .val (.int va), .val (.int vb), .val (.int vc), .val (.int va), .val (.int vb), .val (.int vc), .val (.long p), .second, .val (.ref b1), .val (.ref b3), .val (.ref b6), .val (.ref b10), .val (.ref b15), .val (.ref b20), .val (.long r28), .second, .val (.long r31), .second, .val (.long r34), .second, .val (.long r37), .second, .val (.long r40), .second, .val (.long r43), .second, .val (.long ((va - (48 : Int32)).toInt64)), .second, .val (.long ((((va - (48 : Int32)) * (10 : Int32)) + (vb - (48 : Int32))).toInt64)), .second, .val (.long (-1 : Int64)), .second, .val (.long r138), .second, .val (.long (-1 : Int64)), .second] [(.long r31)]
          refine w_lload ok at_348 rfl ?_
          show W K l _ n0 _ h25 6 45 350 #[.val (.long xl), .second, .val (.int a), .val (.int b), .val (.int c), .val (.int va), .val (.int vb), .val (.int vc), .val (.int va), .val (.int vb), .val (.int vc), .val (.long p), .second, .val (.ref b1), .val (.ref b3), .val (.ref b6), .val (.ref b10), .val (.ref b15), .val (.ref b20), .val (.long r28), .second, .val (.long r31), .second, .val (.long r34), .second, .val (.long r37), .second, .val (.long r40), .second, .val (.long r43), .second, .val (.long ((va - (48 : Int32)).toInt64)), .second, .val (.long ((((va - (48 : Int32)) * (10 : Int32)) + (vb - (48 : Int32))).toInt64)), .second, .val (.long (-1 : Int64)), .second, .val (.long r138), .second, .val (.long (-1 : Int64)), .second] [(.long ((va - (48 : Int32)).toInt64)), (.long r31)]
          refine w_lcmp_ne ok at_350 at_351 (pc' := 390) (by decide) (fun hc148 => False.elim (by exact hc148 (Int64.toInt_inj.mp (by rw [h_r31, own_r1t (own_dig_t hc47), own_c1 va rva])))) (fun hc148 => ?_)
          show W K l _ n0 _ h25 6 45 354 #[.val (.long xl), .second, .val (.int a), .val (.int b), .val (.int c), .val (.int va), .val (.int vb), .val (.int vc), .val (.int va), .val (.int vb), .val (.int vc), .val (.long p), .second, .val (.ref b1), .val (.ref b3), .val (.ref b6), .val (.ref b10), .val (.ref b15), .val (.ref b20), .val (.long r28), .second, .val (.long r31), .second, .val (.long r34), .second, .val (.long r37), .second, .val (.long r40), .second, .val (.long r43), .second, .val (.long ((va - (48 : Int32)).toInt64)), .second, .val (.long ((((va - (48 : Int32)) * (10 : Int32)) + (vb - (48 : Int32))).toInt64)), .second, .val (.long (-1 : Int64)), .second, .val (.long r138), .second, .val (.long (-1 : Int64)), .second] []
          refine w_lload ok at_354 rfl ?_
          show W K l _ n0 _ h25 6 45 356 #[.val (.long xl), .second, .val (.int a), .val (.int b), .val (.int c), .val (.int va), .val (.int vb), .val (.int vc), .val (.int va), .val (.int vb), .val (.int vc), .val (.long p), .second, .val (.ref b1), .val (.ref b3), .val (.ref b6), .val (.ref b10), .val (.ref b15), .val (.ref b20), .val (.long r28), .second, .val (.long r31), .second, .val (.long r34), .second, .val (.long r37), .second, .val (.long r40), .second, .val (.long r43), .second, .val (.long ((va - (48 : Int32)).toInt64)), .second, .val (.long ((((va - (48 : Int32)) * (10 : Int32)) + (vb - (48 : Int32))).toInt64)), .second, .val (.long (-1 : Int64)), .second, .val (.long r138), .second, .val (.long (-1 : Int64)), .second] [(.long r34)]
          refine w_lload ok at_356 rfl ?_
          show W K l _ n0 _ h25 6 45 358 #[.val (.long xl), .second, .val (.int a), .val (.int b), .val (.int c), .val (.int va), .val (.int vb), .val (.int vc), .val (.int va), .val (.int vb), .val (.int vc), .val (.long p), .second, .val (.ref b1), .val (.ref b3), .val (.ref b6), .val (.ref b10), .val (.ref b15), .val (.ref b20), .val (.long r28), .second, .val (.long r31), .second, .val (.long r34), .second, .val (.long r37), .second, .val (.long r40), .second, .val (.long r43), .second, .val (.long ((va - (48 : Int32)).toInt64)), .second, .val (.long ((((va - (48 : Int32)) * (10 : Int32)) + (vb - (48 : Int32))).toInt64)), .second, .val (.long (-1 : Int64)), .second, .val (.long r138), .second, .val (.long (-1 : Int64)), .second] [(.long ((((va - (48 : Int32)) * (10 : Int32)) + (vb - (48 : Int32))).toInt64)), (.long r34)]
          refine w_lcmp_ne ok at_358 at_359 (pc' := 390) (by decide) (fun hc150 => False.elim (by exact hc150 (Int64.toInt_inj.mp (by rw [h_r34, own_r2t (own_dig_t hc47) (own_dig_t hc82), own_c2 va vb rva rvb])))) (fun hc150 => ?_)
          show W K l _ n0 _ h25 6 45 362 #[.val (.long xl), .second, .val (.int a), .val (.int b), .val (.int c), .val (.int va), .val (.int vb), .val (.int vc), .val (.int va), .val (.int vb), .val (.int vc), .val (.long p), .second, .val (.ref b1), .val (.ref b3), .val (.ref b6), .val (.ref b10), .val (.ref b15), .val (.ref b20), .val (.long r28), .second, .val (.long r31), .second, .val (.long r34), .second, .val (.long r37), .second, .val (.long r40), .second, .val (.long r43), .second, .val (.long ((va - (48 : Int32)).toInt64)), .second, .val (.long ((((va - (48 : Int32)) * (10 : Int32)) + (vb - (48 : Int32))).toInt64)), .second, .val (.long (-1 : Int64)), .second, .val (.long r138), .second, .val (.long (-1 : Int64)), .second] []
          refine w_lload ok at_362 rfl ?_
          show W K l _ n0 _ h25 6 45 364 #[.val (.long xl), .second, .val (.int a), .val (.int b), .val (.int c), .val (.int va), .val (.int vb), .val (.int vc), .val (.int va), .val (.int vb), .val (.int vc), .val (.long p), .second, .val (.ref b1), .val (.ref b3), .val (.ref b6), .val (.ref b10), .val (.ref b15), .val (.ref b20), .val (.long r28), .second, .val (.long r31), .second, .val (.long r34), .second, .val (.long r37), .second, .val (.long r40), .second, .val (.long r43), .second, .val (.long ((va - (48 : Int32)).toInt64)), .second, .val (.long ((((va - (48 : Int32)) * (10 : Int32)) + (vb - (48 : Int32))).toInt64)), .second, .val (.long (-1 : Int64)), .second, .val (.long r138), .second, .val (.long (-1 : Int64)), .second] [(.long r37)]
          refine w_lload ok at_364 rfl ?_
          show W K l _ n0 _ h25 6 45 366 #[.val (.long xl), .second, .val (.int a), .val (.int b), .val (.int c), .val (.int va), .val (.int vb), .val (.int vc), .val (.int va), .val (.int vb), .val (.int vc), .val (.long p), .second, .val (.ref b1), .val (.ref b3), .val (.ref b6), .val (.ref b10), .val (.ref b15), .val (.ref b20), .val (.long r28), .second, .val (.long r31), .second, .val (.long r34), .second, .val (.long r37), .second, .val (.long r40), .second, .val (.long r43), .second, .val (.long ((va - (48 : Int32)).toInt64)), .second, .val (.long ((((va - (48 : Int32)) * (10 : Int32)) + (vb - (48 : Int32))).toInt64)), .second, .val (.long (-1 : Int64)), .second, .val (.long r138), .second, .val (.long (-1 : Int64)), .second] [(.long (-1 : Int64)), (.long r37)]
          refine w_lcmp_ne ok at_366 at_367 (pc' := 390) (by decide) (fun hc152 => False.elim (by exact hc152 (Int64.toInt_inj.mp (by rw [h_r37, own_r3c (own_dig_t hc47) (own_dig_t hc82) (own_dig_f hc135)] <;> rfl)))) (fun hc152 => ?_)
          show W K l _ n0 _ h25 6 45 370 #[.val (.long xl), .second, .val (.int a), .val (.int b), .val (.int c), .val (.int va), .val (.int vb), .val (.int vc), .val (.int va), .val (.int vb), .val (.int vc), .val (.long p), .second, .val (.ref b1), .val (.ref b3), .val (.ref b6), .val (.ref b10), .val (.ref b15), .val (.ref b20), .val (.long r28), .second, .val (.long r31), .second, .val (.long r34), .second, .val (.long r37), .second, .val (.long r40), .second, .val (.long r43), .second, .val (.long ((va - (48 : Int32)).toInt64)), .second, .val (.long ((((va - (48 : Int32)) * (10 : Int32)) + (vb - (48 : Int32))).toInt64)), .second, .val (.long (-1 : Int64)), .second, .val (.long r138), .second, .val (.long (-1 : Int64)), .second] []
          refine w_lload ok at_370 rfl ?_
          show W K l _ n0 _ h25 6 45 372 #[.val (.long xl), .second, .val (.int a), .val (.int b), .val (.int c), .val (.int va), .val (.int vb), .val (.int vc), .val (.int va), .val (.int vb), .val (.int vc), .val (.long p), .second, .val (.ref b1), .val (.ref b3), .val (.ref b6), .val (.ref b10), .val (.ref b15), .val (.ref b20), .val (.long r28), .second, .val (.long r31), .second, .val (.long r34), .second, .val (.long r37), .second, .val (.long r40), .second, .val (.long r43), .second, .val (.long ((va - (48 : Int32)).toInt64)), .second, .val (.long ((((va - (48 : Int32)) * (10 : Int32)) + (vb - (48 : Int32))).toInt64)), .second, .val (.long (-1 : Int64)), .second, .val (.long r138), .second, .val (.long (-1 : Int64)), .second] [(.long r40)]
          refine w_lload ok at_372 rfl ?_
          show W K l _ n0 _ h25 6 45 374 #[.val (.long xl), .second, .val (.int a), .val (.int b), .val (.int c), .val (.int va), .val (.int vb), .val (.int vc), .val (.int va), .val (.int vb), .val (.int vc), .val (.long p), .second, .val (.ref b1), .val (.ref b3), .val (.ref b6), .val (.ref b10), .val (.ref b15), .val (.ref b20), .val (.long r28), .second, .val (.long r31), .second, .val (.long r34), .second, .val (.long r37), .second, .val (.long r40), .second, .val (.long r43), .second, .val (.long ((va - (48 : Int32)).toInt64)), .second, .val (.long ((((va - (48 : Int32)) * (10 : Int32)) + (vb - (48 : Int32))).toInt64)), .second, .val (.long (-1 : Int64)), .second, .val (.long r138), .second, .val (.long (-1 : Int64)), .second] [(.long r138), (.long r40)]
          refine w_lcmp_ne ok at_374 at_375 (pc' := 390) (by decide) (fun hc154 => False.elim (by exact hc154 (Int64.toInt_inj.mp (by rw [h_r40, h_r138, own_l19, own_r19 p.toInt hp0 hp2 vc])))) (fun hc154 => ?_)
          show W K l _ n0 _ h25 6 45 378 #[.val (.long xl), .second, .val (.int a), .val (.int b), .val (.int c), .val (.int va), .val (.int vb), .val (.int vc), .val (.int va), .val (.int vb), .val (.int vc), .val (.long p), .second, .val (.ref b1), .val (.ref b3), .val (.ref b6), .val (.ref b10), .val (.ref b15), .val (.ref b20), .val (.long r28), .second, .val (.long r31), .second, .val (.long r34), .second, .val (.long r37), .second, .val (.long r40), .second, .val (.long r43), .second, .val (.long ((va - (48 : Int32)).toInt64)), .second, .val (.long ((((va - (48 : Int32)) * (10 : Int32)) + (vb - (48 : Int32))).toInt64)), .second, .val (.long (-1 : Int64)), .second, .val (.long r138), .second, .val (.long (-1 : Int64)), .second] []
          refine w_lload ok at_378 rfl ?_
          show W K l _ n0 _ h25 6 45 380 #[.val (.long xl), .second, .val (.int a), .val (.int b), .val (.int c), .val (.int va), .val (.int vb), .val (.int vc), .val (.int va), .val (.int vb), .val (.int vc), .val (.long p), .second, .val (.ref b1), .val (.ref b3), .val (.ref b6), .val (.ref b10), .val (.ref b15), .val (.ref b20), .val (.long r28), .second, .val (.long r31), .second, .val (.long r34), .second, .val (.long r37), .second, .val (.long r40), .second, .val (.long r43), .second, .val (.long ((va - (48 : Int32)).toInt64)), .second, .val (.long ((((va - (48 : Int32)) * (10 : Int32)) + (vb - (48 : Int32))).toInt64)), .second, .val (.long (-1 : Int64)), .second, .val (.long r138), .second, .val (.long (-1 : Int64)), .second] [(.long r43)]
          refine w_lload ok at_380 rfl ?_
          show W K l _ n0 _ h25 6 45 382 #[.val (.long xl), .second, .val (.int a), .val (.int b), .val (.int c), .val (.int va), .val (.int vb), .val (.int vc), .val (.int va), .val (.int vb), .val (.int vc), .val (.long p), .second, .val (.ref b1), .val (.ref b3), .val (.ref b6), .val (.ref b10), .val (.ref b15), .val (.ref b20), .val (.long r28), .second, .val (.long r31), .second, .val (.long r34), .second, .val (.long r37), .second, .val (.long r40), .second, .val (.long r43), .second, .val (.long ((va - (48 : Int32)).toInt64)), .second, .val (.long ((((va - (48 : Int32)) * (10 : Int32)) + (vb - (48 : Int32))).toInt64)), .second, .val (.long (-1 : Int64)), .second, .val (.long r138), .second, .val (.long (-1 : Int64)), .second] [(.long (-1 : Int64)), (.long r43)]
          refine w_lcmp_ne ok at_382 at_383 (pc' := 390) (by decide) (fun hc156 => False.elim (by exact hc156 (Int64.toInt_inj.mp (by rw [h_r43, own_l19, own_r20 p.toInt hp0 hp2 va vc, if_neg (own_48 hc144)] <;> rfl)))) (fun hc156 => ?_)
          show W K l _ n0 _ h25 6 45 386 #[.val (.long xl), .second, .val (.int a), .val (.int b), .val (.int c), .val (.int va), .val (.int vb), .val (.int vc), .val (.int va), .val (.int vb), .val (.int vc), .val (.long p), .second, .val (.ref b1), .val (.ref b3), .val (.ref b6), .val (.ref b10), .val (.ref b15), .val (.ref b20), .val (.long r28), .second, .val (.long r31), .second, .val (.long r34), .second, .val (.long r37), .second, .val (.long r40), .second, .val (.long r43), .second, .val (.long ((va - (48 : Int32)).toInt64)), .second, .val (.long ((((va - (48 : Int32)) * (10 : Int32)) + (vb - (48 : Int32))).toInt64)), .second, .val (.long (-1 : Int64)), .second, .val (.long r138), .second, .val (.long (-1 : Int64)), .second] []
          refine w_iconst ok at_386 (v := (1 : Int32)) rfl ?_
          show W K l _ n0 _ h25 6 45 387 #[.val (.long xl), .second, .val (.int a), .val (.int b), .val (.int c), .val (.int va), .val (.int vb), .val (.int vc), .val (.int va), .val (.int vb), .val (.int vc), .val (.long p), .second, .val (.ref b1), .val (.ref b3), .val (.ref b6), .val (.ref b10), .val (.ref b15), .val (.ref b20), .val (.long r28), .second, .val (.long r31), .second, .val (.long r34), .second, .val (.long r37), .second, .val (.long r40), .second, .val (.long r43), .second, .val (.long ((va - (48 : Int32)).toInt64)), .second, .val (.long ((((va - (48 : Int32)) * (10 : Int32)) + (vb - (48 : Int32))).toInt64)), .second, .val (.long (-1 : Int64)), .second, .val (.long r138), .second, .val (.long (-1 : Int64)), .second] [(.int (1 : Int32))]
          refine w_goto ok at_387 (pc' := 391) (by decide) ?_
          show W K l _ n0 _ h25 6 45 391 #[.val (.long xl), .second, .val (.int a), .val (.int b), .val (.int c), .val (.int va), .val (.int vb), .val (.int vc), .val (.int va), .val (.int vb), .val (.int vc), .val (.long p), .second, .val (.ref b1), .val (.ref b3), .val (.ref b6), .val (.ref b10), .val (.ref b15), .val (.ref b20), .val (.long r28), .second, .val (.long r31), .second, .val (.long r34), .second, .val (.long r37), .second, .val (.long r40), .second, .val (.long r43), .second, .val (.long ((va - (48 : Int32)).toInt64)), .second, .val (.long ((((va - (48 : Int32)) * (10 : Int32)) + (vb - (48 : Int32))).toInt64)), .second, .val (.long (-1 : Int64)), .second, .val (.long r138), .second, .val (.long (-1 : Int64)), .second] [(.int (1 : Int32))]
          refine w_bret ok (by simp) at_391 (by decide) (by decide) ?_
          exact rfl
        · show W K l _ n0 _ h25 6 45 325 #[.val (.long xl), .second, .val (.int a), .val (.int b), .val (.int c), .val (.int va), .val (.int vb), .val (.int vc), .val (.int va), .val (.int vb), .val (.int vc), .val (.long p), .second, .val (.ref b1), .val (.ref b3), .val (.ref b6), .val (.ref b10), .val (.ref b15), .val (.ref b20), .val (.long r28), .second, .val (.long r31), .second, .val (.long r34), .second, .val (.long r37), .second, .val (.long r40), .second, .val (.long r43), .second, .val (.long ((va - (48 : Int32)).toInt64)), .second, .val (.long ((((va - (48 : Int32)) * (10 : Int32)) + (vb - (48 : Int32))).toInt64)), .second, .val (.long (-1 : Int64)), .second, .val (.long r138), .second, .unset, .unset] []
          refine w_lload ok at_325 rfl ?_
          show W K l _ n0 _ h25 6 45 327 #[.val (.long xl), .second, .val (.int a), .val (.int b), .val (.int c), .val (.int va), .val (.int vb), .val (.int vc), .val (.int va), .val (.int vb), .val (.int vc), .val (.long p), .second, .val (.ref b1), .val (.ref b3), .val (.ref b6), .val (.ref b10), .val (.ref b15), .val (.ref b20), .val (.long r28), .second, .val (.long r31), .second, .val (.long r34), .second, .val (.long r37), .second, .val (.long r40), .second, .val (.long r43), .second, .val (.long ((va - (48 : Int32)).toInt64)), .second, .val (.long ((((va - (48 : Int32)) * (10 : Int32)) + (vb - (48 : Int32))).toInt64)), .second, .val (.long (-1 : Int64)), .second, .val (.long r138), .second, .unset, .unset] [(.long r138)]
          refine w_lstore ok at_327 (L' := #[.val (.long xl), .second, .val (.int a), .val (.int b), .val (.int c), .val (.int va), .val (.int vb), .val (.int vc), .val (.int va), .val (.int vb), .val (.int vc), .val (.long p), .second, .val (.ref b1), .val (.ref b3), .val (.ref b6), .val (.ref b10), .val (.ref b15), .val (.ref b20), .val (.long r28), .second, .val (.long r31), .second, .val (.long r34), .second, .val (.long r37), .second, .val (.long r40), .second, .val (.long r43), .second, .val (.long ((va - (48 : Int32)).toInt64)), .second, .val (.long ((((va - (48 : Int32)) * (10 : Int32)) + (vb - (48 : Int32))).toInt64)), .second, .val (.long (-1 : Int64)), .second, .val (.long r138), .second, .val (.long r138), .second]) rfl ?_
          show W K l _ n0 _ h25 6 45 329 #[.val (.long xl), .second, .val (.int a), .val (.int b), .val (.int c), .val (.int va), .val (.int vb), .val (.int vc), .val (.int va), .val (.int vb), .val (.int vc), .val (.long p), .second, .val (.ref b1), .val (.ref b3), .val (.ref b6), .val (.ref b10), .val (.ref b15), .val (.ref b20), .val (.long r28), .second, .val (.long r31), .second, .val (.long r34), .second, .val (.long r37), .second, .val (.long r40), .second, .val (.long r43), .second, .val (.long ((va - (48 : Int32)).toInt64)), .second, .val (.long ((((va - (48 : Int32)) * (10 : Int32)) + (vb - (48 : Int32))).toInt64)), .second, .val (.long (-1 : Int64)), .second, .val (.long r138), .second, .val (.long r138), .second] []
          refine w_goto ok at_329 (pc' := 337) (by decide) ?_
          show W K l _ n0 _ h25 6 45 337 #[.val (.long xl), .second, .val (.int a), .val (.int b), .val (.int c), .val (.int va), .val (.int vb), .val (.int vc), .val (.int va), .val (.int vb), .val (.int vc), .val (.long p), .second, .val (.ref b1), .val (.ref b3), .val (.ref b6), .val (.ref b10), .val (.ref b15), .val (.ref b20), .val (.long r28), .second, .val (.long r31), .second, .val (.long r34), .second, .val (.long r37), .second, .val (.long r40), .second, .val (.long r43), .second, .val (.long ((va - (48 : Int32)).toInt64)), .second, .val (.long ((((va - (48 : Int32)) * (10 : Int32)) + (vb - (48 : Int32))).toInt64)), .second, .val (.long (-1 : Int64)), .second, .val (.long r138), .second, .val (.long r138), .second] []
          refine w_lload ok at_337 rfl ?_
          show W K l _ n0 _ h25 6 45 339 #[.val (.long xl), .second, .val (.int a), .val (.int b), .val (.int c), .val (.int va), .val (.int vb), .val (.int vc), .val (.int va), .val (.int vb), .val (.int vc), .val (.long p), .second, .val (.ref b1), .val (.ref b3), .val (.ref b6), .val (.ref b10), .val (.ref b15), .val (.ref b20), .val (.long r28), .second, .val (.long r31), .second, .val (.long r34), .second, .val (.long r37), .second, .val (.long r40), .second, .val (.long r43), .second, .val (.long ((va - (48 : Int32)).toInt64)), .second, .val (.long ((((va - (48 : Int32)) * (10 : Int32)) + (vb - (48 : Int32))).toInt64)), .second, .val (.long (-1 : Int64)), .second, .val (.long r138), .second, .val (.long r138), .second] [(.long r28)]
          refine w_ldc2J (v := (-1 : Int64)) ok at_339 (hw _ (List.mem_of_getElem? (i := 38) rfl)) ?_
          show W K l _ n0 _ h25 6 45 342 #[.val (.long xl), .second, .val (.int a), .val (.int b), .val (.int c), .val (.int va), .val (.int vb), .val (.int vc), .val (.int va), .val (.int vb), .val (.int vc), .val (.long p), .second, .val (.ref b1), .val (.ref b3), .val (.ref b6), .val (.ref b10), .val (.ref b15), .val (.ref b20), .val (.long r28), .second, .val (.long r31), .second, .val (.long r34), .second, .val (.long r37), .second, .val (.long r40), .second, .val (.long r43), .second, .val (.long ((va - (48 : Int32)).toInt64)), .second, .val (.long ((((va - (48 : Int32)) * (10 : Int32)) + (vb - (48 : Int32))).toInt64)), .second, .val (.long (-1 : Int64)), .second, .val (.long r138), .second, .val (.long r138), .second] [(.long (-1 : Int64)), (.long r28)]
          refine w_lcmp_ne ok at_342 at_343 (pc' := 390) (by decide) (fun hc158 => False.elim (by exact hc158 (Int64.toInt_inj.mp (by rw [h_r28] <;> rfl)))) (fun hc158 => ?_)
          show W K l _ n0 _ h25 6 45 346 #[.val (.long xl), .second, .val (.int a), .val (.int b), .val (.int c), .val (.int va), .val (.int vb), .val (.int vc), .val (.int va), .val (.int vb), .val (.int vc), .val (.long p), .second, .val (.ref b1), .val (.ref b3), .val (.ref b6), .val (.ref b10), .val (.ref b15), .val (.ref b20), .val (.long r28), .second, .val (.long r31), .second, .val (.long r34), .second, .val (.long r37), .second, .val (.long r40), .second, .val (.long r43), .second, .val (.long ((va - (48 : Int32)).toInt64)), .second, .val (.long ((((va - (48 : Int32)) * (10 : Int32)) + (vb - (48 : Int32))).toInt64)), .second, .val (.long (-1 : Int64)), .second, .val (.long r138), .second, .val (.long r138), .second] []
          refine w_lload ok at_346 rfl ?_
          show W K l _ n0 _ h25 6 45 348 #[.val (.long xl), .second, .val (.int a), .val (.int b), .val (.int c), .val (.int va), .val (.int vb), .val (.int vc), .val (.int va), .val (.int vb), .val (.int vc), .val (.long p), .second, .val (.ref b1), .val (.ref b3), .val (.ref b6), .val (.ref b10), .val (.ref b15), .val (.ref b20), .val (.long r28), .second, .val (.long r31), .second, .val (.long r34), .second, .val (.long r37), .second, .val (.long r40), .second, .val (.long r43), .second, .val (.long ((va - (48 : Int32)).toInt64)), .second, .val (.long ((((va - (48 : Int32)) * (10 : Int32)) + (vb - (48 : Int32))).toInt64)), .second, .val (.long (-1 : Int64)), .second, .val (.long r138), .second, .val (.long r138), .second] [(.long r31)]
          refine w_lload ok at_348 rfl ?_
          show W K l _ n0 _ h25 6 45 350 #[.val (.long xl), .second, .val (.int a), .val (.int b), .val (.int c), .val (.int va), .val (.int vb), .val (.int vc), .val (.int va), .val (.int vb), .val (.int vc), .val (.long p), .second, .val (.ref b1), .val (.ref b3), .val (.ref b6), .val (.ref b10), .val (.ref b15), .val (.ref b20), .val (.long r28), .second, .val (.long r31), .second, .val (.long r34), .second, .val (.long r37), .second, .val (.long r40), .second, .val (.long r43), .second, .val (.long ((va - (48 : Int32)).toInt64)), .second, .val (.long ((((va - (48 : Int32)) * (10 : Int32)) + (vb - (48 : Int32))).toInt64)), .second, .val (.long (-1 : Int64)), .second, .val (.long r138), .second, .val (.long r138), .second] [(.long ((va - (48 : Int32)).toInt64)), (.long r31)]
          refine w_lcmp_ne ok at_350 at_351 (pc' := 390) (by decide) (fun hc160 => False.elim (by exact hc160 (Int64.toInt_inj.mp (by rw [h_r31, own_r1t (own_dig_t hc47), own_c1 va rva])))) (fun hc160 => ?_)
          show W K l _ n0 _ h25 6 45 354 #[.val (.long xl), .second, .val (.int a), .val (.int b), .val (.int c), .val (.int va), .val (.int vb), .val (.int vc), .val (.int va), .val (.int vb), .val (.int vc), .val (.long p), .second, .val (.ref b1), .val (.ref b3), .val (.ref b6), .val (.ref b10), .val (.ref b15), .val (.ref b20), .val (.long r28), .second, .val (.long r31), .second, .val (.long r34), .second, .val (.long r37), .second, .val (.long r40), .second, .val (.long r43), .second, .val (.long ((va - (48 : Int32)).toInt64)), .second, .val (.long ((((va - (48 : Int32)) * (10 : Int32)) + (vb - (48 : Int32))).toInt64)), .second, .val (.long (-1 : Int64)), .second, .val (.long r138), .second, .val (.long r138), .second] []
          refine w_lload ok at_354 rfl ?_
          show W K l _ n0 _ h25 6 45 356 #[.val (.long xl), .second, .val (.int a), .val (.int b), .val (.int c), .val (.int va), .val (.int vb), .val (.int vc), .val (.int va), .val (.int vb), .val (.int vc), .val (.long p), .second, .val (.ref b1), .val (.ref b3), .val (.ref b6), .val (.ref b10), .val (.ref b15), .val (.ref b20), .val (.long r28), .second, .val (.long r31), .second, .val (.long r34), .second, .val (.long r37), .second, .val (.long r40), .second, .val (.long r43), .second, .val (.long ((va - (48 : Int32)).toInt64)), .second, .val (.long ((((va - (48 : Int32)) * (10 : Int32)) + (vb - (48 : Int32))).toInt64)), .second, .val (.long (-1 : Int64)), .second, .val (.long r138), .second, .val (.long r138), .second] [(.long r34)]
          refine w_lload ok at_356 rfl ?_
          show W K l _ n0 _ h25 6 45 358 #[.val (.long xl), .second, .val (.int a), .val (.int b), .val (.int c), .val (.int va), .val (.int vb), .val (.int vc), .val (.int va), .val (.int vb), .val (.int vc), .val (.long p), .second, .val (.ref b1), .val (.ref b3), .val (.ref b6), .val (.ref b10), .val (.ref b15), .val (.ref b20), .val (.long r28), .second, .val (.long r31), .second, .val (.long r34), .second, .val (.long r37), .second, .val (.long r40), .second, .val (.long r43), .second, .val (.long ((va - (48 : Int32)).toInt64)), .second, .val (.long ((((va - (48 : Int32)) * (10 : Int32)) + (vb - (48 : Int32))).toInt64)), .second, .val (.long (-1 : Int64)), .second, .val (.long r138), .second, .val (.long r138), .second] [(.long ((((va - (48 : Int32)) * (10 : Int32)) + (vb - (48 : Int32))).toInt64)), (.long r34)]
          refine w_lcmp_ne ok at_358 at_359 (pc' := 390) (by decide) (fun hc162 => False.elim (by exact hc162 (Int64.toInt_inj.mp (by rw [h_r34, own_r2t (own_dig_t hc47) (own_dig_t hc82), own_c2 va vb rva rvb])))) (fun hc162 => ?_)
          show W K l _ n0 _ h25 6 45 362 #[.val (.long xl), .second, .val (.int a), .val (.int b), .val (.int c), .val (.int va), .val (.int vb), .val (.int vc), .val (.int va), .val (.int vb), .val (.int vc), .val (.long p), .second, .val (.ref b1), .val (.ref b3), .val (.ref b6), .val (.ref b10), .val (.ref b15), .val (.ref b20), .val (.long r28), .second, .val (.long r31), .second, .val (.long r34), .second, .val (.long r37), .second, .val (.long r40), .second, .val (.long r43), .second, .val (.long ((va - (48 : Int32)).toInt64)), .second, .val (.long ((((va - (48 : Int32)) * (10 : Int32)) + (vb - (48 : Int32))).toInt64)), .second, .val (.long (-1 : Int64)), .second, .val (.long r138), .second, .val (.long r138), .second] []
          refine w_lload ok at_362 rfl ?_
          show W K l _ n0 _ h25 6 45 364 #[.val (.long xl), .second, .val (.int a), .val (.int b), .val (.int c), .val (.int va), .val (.int vb), .val (.int vc), .val (.int va), .val (.int vb), .val (.int vc), .val (.long p), .second, .val (.ref b1), .val (.ref b3), .val (.ref b6), .val (.ref b10), .val (.ref b15), .val (.ref b20), .val (.long r28), .second, .val (.long r31), .second, .val (.long r34), .second, .val (.long r37), .second, .val (.long r40), .second, .val (.long r43), .second, .val (.long ((va - (48 : Int32)).toInt64)), .second, .val (.long ((((va - (48 : Int32)) * (10 : Int32)) + (vb - (48 : Int32))).toInt64)), .second, .val (.long (-1 : Int64)), .second, .val (.long r138), .second, .val (.long r138), .second] [(.long r37)]
          refine w_lload ok at_364 rfl ?_
          show W K l _ n0 _ h25 6 45 366 #[.val (.long xl), .second, .val (.int a), .val (.int b), .val (.int c), .val (.int va), .val (.int vb), .val (.int vc), .val (.int va), .val (.int vb), .val (.int vc), .val (.long p), .second, .val (.ref b1), .val (.ref b3), .val (.ref b6), .val (.ref b10), .val (.ref b15), .val (.ref b20), .val (.long r28), .second, .val (.long r31), .second, .val (.long r34), .second, .val (.long r37), .second, .val (.long r40), .second, .val (.long r43), .second, .val (.long ((va - (48 : Int32)).toInt64)), .second, .val (.long ((((va - (48 : Int32)) * (10 : Int32)) + (vb - (48 : Int32))).toInt64)), .second, .val (.long (-1 : Int64)), .second, .val (.long r138), .second, .val (.long r138), .second] [(.long (-1 : Int64)), (.long r37)]
          refine w_lcmp_ne ok at_366 at_367 (pc' := 390) (by decide) (fun hc164 => False.elim (by exact hc164 (Int64.toInt_inj.mp (by rw [h_r37, own_r3c (own_dig_t hc47) (own_dig_t hc82) (own_dig_f hc135)] <;> rfl)))) (fun hc164 => ?_)
          show W K l _ n0 _ h25 6 45 370 #[.val (.long xl), .second, .val (.int a), .val (.int b), .val (.int c), .val (.int va), .val (.int vb), .val (.int vc), .val (.int va), .val (.int vb), .val (.int vc), .val (.long p), .second, .val (.ref b1), .val (.ref b3), .val (.ref b6), .val (.ref b10), .val (.ref b15), .val (.ref b20), .val (.long r28), .second, .val (.long r31), .second, .val (.long r34), .second, .val (.long r37), .second, .val (.long r40), .second, .val (.long r43), .second, .val (.long ((va - (48 : Int32)).toInt64)), .second, .val (.long ((((va - (48 : Int32)) * (10 : Int32)) + (vb - (48 : Int32))).toInt64)), .second, .val (.long (-1 : Int64)), .second, .val (.long r138), .second, .val (.long r138), .second] []
          refine w_lload ok at_370 rfl ?_
          show W K l _ n0 _ h25 6 45 372 #[.val (.long xl), .second, .val (.int a), .val (.int b), .val (.int c), .val (.int va), .val (.int vb), .val (.int vc), .val (.int va), .val (.int vb), .val (.int vc), .val (.long p), .second, .val (.ref b1), .val (.ref b3), .val (.ref b6), .val (.ref b10), .val (.ref b15), .val (.ref b20), .val (.long r28), .second, .val (.long r31), .second, .val (.long r34), .second, .val (.long r37), .second, .val (.long r40), .second, .val (.long r43), .second, .val (.long ((va - (48 : Int32)).toInt64)), .second, .val (.long ((((va - (48 : Int32)) * (10 : Int32)) + (vb - (48 : Int32))).toInt64)), .second, .val (.long (-1 : Int64)), .second, .val (.long r138), .second, .val (.long r138), .second] [(.long r40)]
          refine w_lload ok at_372 rfl ?_
          show W K l _ n0 _ h25 6 45 374 #[.val (.long xl), .second, .val (.int a), .val (.int b), .val (.int c), .val (.int va), .val (.int vb), .val (.int vc), .val (.int va), .val (.int vb), .val (.int vc), .val (.long p), .second, .val (.ref b1), .val (.ref b3), .val (.ref b6), .val (.ref b10), .val (.ref b15), .val (.ref b20), .val (.long r28), .second, .val (.long r31), .second, .val (.long r34), .second, .val (.long r37), .second, .val (.long r40), .second, .val (.long r43), .second, .val (.long ((va - (48 : Int32)).toInt64)), .second, .val (.long ((((va - (48 : Int32)) * (10 : Int32)) + (vb - (48 : Int32))).toInt64)), .second, .val (.long (-1 : Int64)), .second, .val (.long r138), .second, .val (.long r138), .second] [(.long r138), (.long r40)]
          refine w_lcmp_ne ok at_374 at_375 (pc' := 390) (by decide) (fun hc166 => False.elim (by exact hc166 (Int64.toInt_inj.mp (by rw [h_r40, h_r138, own_l19, own_r19 p.toInt hp0 hp2 vc])))) (fun hc166 => ?_)
          show W K l _ n0 _ h25 6 45 378 #[.val (.long xl), .second, .val (.int a), .val (.int b), .val (.int c), .val (.int va), .val (.int vb), .val (.int vc), .val (.int va), .val (.int vb), .val (.int vc), .val (.long p), .second, .val (.ref b1), .val (.ref b3), .val (.ref b6), .val (.ref b10), .val (.ref b15), .val (.ref b20), .val (.long r28), .second, .val (.long r31), .second, .val (.long r34), .second, .val (.long r37), .second, .val (.long r40), .second, .val (.long r43), .second, .val (.long ((va - (48 : Int32)).toInt64)), .second, .val (.long ((((va - (48 : Int32)) * (10 : Int32)) + (vb - (48 : Int32))).toInt64)), .second, .val (.long (-1 : Int64)), .second, .val (.long r138), .second, .val (.long r138), .second] []
          refine w_lload ok at_378 rfl ?_
          show W K l _ n0 _ h25 6 45 380 #[.val (.long xl), .second, .val (.int a), .val (.int b), .val (.int c), .val (.int va), .val (.int vb), .val (.int vc), .val (.int va), .val (.int vb), .val (.int vc), .val (.long p), .second, .val (.ref b1), .val (.ref b3), .val (.ref b6), .val (.ref b10), .val (.ref b15), .val (.ref b20), .val (.long r28), .second, .val (.long r31), .second, .val (.long r34), .second, .val (.long r37), .second, .val (.long r40), .second, .val (.long r43), .second, .val (.long ((va - (48 : Int32)).toInt64)), .second, .val (.long ((((va - (48 : Int32)) * (10 : Int32)) + (vb - (48 : Int32))).toInt64)), .second, .val (.long (-1 : Int64)), .second, .val (.long r138), .second, .val (.long r138), .second] [(.long r43)]
          refine w_lload ok at_380 rfl ?_
          show W K l _ n0 _ h25 6 45 382 #[.val (.long xl), .second, .val (.int a), .val (.int b), .val (.int c), .val (.int va), .val (.int vb), .val (.int vc), .val (.int va), .val (.int vb), .val (.int vc), .val (.long p), .second, .val (.ref b1), .val (.ref b3), .val (.ref b6), .val (.ref b10), .val (.ref b15), .val (.ref b20), .val (.long r28), .second, .val (.long r31), .second, .val (.long r34), .second, .val (.long r37), .second, .val (.long r40), .second, .val (.long r43), .second, .val (.long ((va - (48 : Int32)).toInt64)), .second, .val (.long ((((va - (48 : Int32)) * (10 : Int32)) + (vb - (48 : Int32))).toInt64)), .second, .val (.long (-1 : Int64)), .second, .val (.long r138), .second, .val (.long r138), .second] [(.long r138), (.long r43)]
          refine w_lcmp_ne ok at_382 at_383 (pc' := 390) (by decide) (fun hc168 => False.elim (by exact hc168 (Int64.toInt_inj.mp (by rw [h_r43, h_r138, own_l19, own_r20 p.toInt hp0 hp2 va vc, if_pos (own_48' hc144)])))) (fun hc168 => ?_)
          show W K l _ n0 _ h25 6 45 386 #[.val (.long xl), .second, .val (.int a), .val (.int b), .val (.int c), .val (.int va), .val (.int vb), .val (.int vc), .val (.int va), .val (.int vb), .val (.int vc), .val (.long p), .second, .val (.ref b1), .val (.ref b3), .val (.ref b6), .val (.ref b10), .val (.ref b15), .val (.ref b20), .val (.long r28), .second, .val (.long r31), .second, .val (.long r34), .second, .val (.long r37), .second, .val (.long r40), .second, .val (.long r43), .second, .val (.long ((va - (48 : Int32)).toInt64)), .second, .val (.long ((((va - (48 : Int32)) * (10 : Int32)) + (vb - (48 : Int32))).toInt64)), .second, .val (.long (-1 : Int64)), .second, .val (.long r138), .second, .val (.long r138), .second] []
          refine w_iconst ok at_386 (v := (1 : Int32)) rfl ?_
          show W K l _ n0 _ h25 6 45 387 #[.val (.long xl), .second, .val (.int a), .val (.int b), .val (.int c), .val (.int va), .val (.int vb), .val (.int vc), .val (.int va), .val (.int vb), .val (.int vc), .val (.long p), .second, .val (.ref b1), .val (.ref b3), .val (.ref b6), .val (.ref b10), .val (.ref b15), .val (.ref b20), .val (.long r28), .second, .val (.long r31), .second, .val (.long r34), .second, .val (.long r37), .second, .val (.long r40), .second, .val (.long r43), .second, .val (.long ((va - (48 : Int32)).toInt64)), .second, .val (.long ((((va - (48 : Int32)) * (10 : Int32)) + (vb - (48 : Int32))).toInt64)), .second, .val (.long (-1 : Int64)), .second, .val (.long r138), .second, .val (.long r138), .second] [(.int (1 : Int32))]
          refine w_goto ok at_387 (pc' := 391) (by decide) ?_
          show W K l _ n0 _ h25 6 45 391 #[.val (.long xl), .second, .val (.int a), .val (.int b), .val (.int c), .val (.int va), .val (.int vb), .val (.int vc), .val (.int va), .val (.int vb), .val (.int vc), .val (.long p), .second, .val (.ref b1), .val (.ref b3), .val (.ref b6), .val (.ref b10), .val (.ref b15), .val (.ref b20), .val (.long r28), .second, .val (.long r31), .second, .val (.long r34), .second, .val (.long r37), .second, .val (.long r40), .second, .val (.long r43), .second, .val (.long ((va - (48 : Int32)).toInt64)), .second, .val (.long ((((va - (48 : Int32)) * (10 : Int32)) + (vb - (48 : Int32))).toInt64)), .second, .val (.long (-1 : Int64)), .second, .val (.long r138), .second, .val (.long r138), .second] [(.int (1 : Int32))]
          refine w_bret ok (by simp) at_391 (by decide) (by decide) ?_
          exact rfl
      · show W K l _ n0 _ h25 6 45 261 #[.val (.long xl), .second, .val (.int a), .val (.int b), .val (.int c), .val (.int va), .val (.int vb), .val (.int vc), .val (.int va), .val (.int vb), .val (.int vc), .val (.long p), .second, .val (.ref b1), .val (.ref b3), .val (.ref b6), .val (.ref b10), .val (.ref b15), .val (.ref b20), .val (.long r28), .second, .val (.long r31), .second, .val (.long r34), .second, .val (.long r37), .second, .val (.long r40), .second, .val (.long r43), .second, .val (.long ((va - (48 : Int32)).toInt64)), .second, .val (.long ((((va - (48 : Int32)) * (10 : Int32)) + (vb - (48 : Int32))).toInt64)), .second, .unset, .unset, .unset, .unset, .unset, .unset] []
        refine w_iload ok at_261 rfl ?_
        show W K l _ n0 _ h25 6 45 263 #[.val (.long xl), .second, .val (.int a), .val (.int b), .val (.int c), .val (.int va), .val (.int vb), .val (.int vc), .val (.int va), .val (.int vb), .val (.int vc), .val (.long p), .second, .val (.ref b1), .val (.ref b3), .val (.ref b6), .val (.ref b10), .val (.ref b15), .val (.ref b20), .val (.long r28), .second, .val (.long r31), .second, .val (.long r34), .second, .val (.long r37), .second, .val (.long r40), .second, .val (.long r43), .second, .val (.long ((va - (48 : Int32)).toInt64)), .second, .val (.long ((((va - (48 : Int32)) * (10 : Int32)) + (vb - (48 : Int32))).toInt64)), .second, .unset, .unset, .unset, .unset, .unset, .unset] [(.int va)]
        refine w_bipush ok at_263 (v := (48 : Int32)) rfl ?_
        show W K l _ n0 _ h25 6 45 265 #[.val (.long xl), .second, .val (.int a), .val (.int b), .val (.int c), .val (.int va), .val (.int vb), .val (.int vc), .val (.int va), .val (.int vb), .val (.int vc), .val (.long p), .second, .val (.ref b1), .val (.ref b3), .val (.ref b6), .val (.ref b10), .val (.ref b15), .val (.ref b20), .val (.long r28), .second, .val (.long r31), .second, .val (.long r34), .second, .val (.long r37), .second, .val (.long r40), .second, .val (.long r43), .second, .val (.long ((va - (48 : Int32)).toInt64)), .second, .val (.long ((((va - (48 : Int32)) * (10 : Int32)) + (vb - (48 : Int32))).toInt64)), .second, .unset, .unset, .unset, .unset, .unset, .unset] [(.int (48 : Int32)), (.int va)]
        refine w_isub ok at_265 ?_
        show W K l _ n0 _ h25 6 45 266 #[.val (.long xl), .second, .val (.int a), .val (.int b), .val (.int c), .val (.int va), .val (.int vb), .val (.int vc), .val (.int va), .val (.int vb), .val (.int vc), .val (.long p), .second, .val (.ref b1), .val (.ref b3), .val (.ref b6), .val (.ref b10), .val (.ref b15), .val (.ref b20), .val (.long r28), .second, .val (.long r31), .second, .val (.long r34), .second, .val (.long r37), .second, .val (.long r40), .second, .val (.long r43), .second, .val (.long ((va - (48 : Int32)).toInt64)), .second, .val (.long ((((va - (48 : Int32)) * (10 : Int32)) + (vb - (48 : Int32))).toInt64)), .second, .unset, .unset, .unset, .unset, .unset, .unset] [(.int (va - (48 : Int32)))]
        refine w_bipush ok at_266 (v := (100 : Int32)) rfl ?_
        show W K l _ n0 _ h25 6 45 268 #[.val (.long xl), .second, .val (.int a), .val (.int b), .val (.int c), .val (.int va), .val (.int vb), .val (.int vc), .val (.int va), .val (.int vb), .val (.int vc), .val (.long p), .second, .val (.ref b1), .val (.ref b3), .val (.ref b6), .val (.ref b10), .val (.ref b15), .val (.ref b20), .val (.long r28), .second, .val (.long r31), .second, .val (.long r34), .second, .val (.long r37), .second, .val (.long r40), .second, .val (.long r43), .second, .val (.long ((va - (48 : Int32)).toInt64)), .second, .val (.long ((((va - (48 : Int32)) * (10 : Int32)) + (vb - (48 : Int32))).toInt64)), .second, .unset, .unset, .unset, .unset, .unset, .unset] [(.int (100 : Int32)), (.int (va - (48 : Int32)))]
        refine w_imul ok at_268 ?_
        show W K l _ n0 _ h25 6 45 269 #[.val (.long xl), .second, .val (.int a), .val (.int b), .val (.int c), .val (.int va), .val (.int vb), .val (.int vc), .val (.int va), .val (.int vb), .val (.int vc), .val (.long p), .second, .val (.ref b1), .val (.ref b3), .val (.ref b6), .val (.ref b10), .val (.ref b15), .val (.ref b20), .val (.long r28), .second, .val (.long r31), .second, .val (.long r34), .second, .val (.long r37), .second, .val (.long r40), .second, .val (.long r43), .second, .val (.long ((va - (48 : Int32)).toInt64)), .second, .val (.long ((((va - (48 : Int32)) * (10 : Int32)) + (vb - (48 : Int32))).toInt64)), .second, .unset, .unset, .unset, .unset, .unset, .unset] [(.int ((va - (48 : Int32)) * (100 : Int32)))]
        refine w_iload ok at_269 rfl ?_
        show W K l _ n0 _ h25 6 45 271 #[.val (.long xl), .second, .val (.int a), .val (.int b), .val (.int c), .val (.int va), .val (.int vb), .val (.int vc), .val (.int va), .val (.int vb), .val (.int vc), .val (.long p), .second, .val (.ref b1), .val (.ref b3), .val (.ref b6), .val (.ref b10), .val (.ref b15), .val (.ref b20), .val (.long r28), .second, .val (.long r31), .second, .val (.long r34), .second, .val (.long r37), .second, .val (.long r40), .second, .val (.long r43), .second, .val (.long ((va - (48 : Int32)).toInt64)), .second, .val (.long ((((va - (48 : Int32)) * (10 : Int32)) + (vb - (48 : Int32))).toInt64)), .second, .unset, .unset, .unset, .unset, .unset, .unset] [(.int vb), (.int ((va - (48 : Int32)) * (100 : Int32)))]
        refine w_bipush ok at_271 (v := (48 : Int32)) rfl ?_
        show W K l _ n0 _ h25 6 45 273 #[.val (.long xl), .second, .val (.int a), .val (.int b), .val (.int c), .val (.int va), .val (.int vb), .val (.int vc), .val (.int va), .val (.int vb), .val (.int vc), .val (.long p), .second, .val (.ref b1), .val (.ref b3), .val (.ref b6), .val (.ref b10), .val (.ref b15), .val (.ref b20), .val (.long r28), .second, .val (.long r31), .second, .val (.long r34), .second, .val (.long r37), .second, .val (.long r40), .second, .val (.long r43), .second, .val (.long ((va - (48 : Int32)).toInt64)), .second, .val (.long ((((va - (48 : Int32)) * (10 : Int32)) + (vb - (48 : Int32))).toInt64)), .second, .unset, .unset, .unset, .unset, .unset, .unset] [(.int (48 : Int32)), (.int vb), (.int ((va - (48 : Int32)) * (100 : Int32)))]
        refine w_isub ok at_273 ?_
        show W K l _ n0 _ h25 6 45 274 #[.val (.long xl), .second, .val (.int a), .val (.int b), .val (.int c), .val (.int va), .val (.int vb), .val (.int vc), .val (.int va), .val (.int vb), .val (.int vc), .val (.long p), .second, .val (.ref b1), .val (.ref b3), .val (.ref b6), .val (.ref b10), .val (.ref b15), .val (.ref b20), .val (.long r28), .second, .val (.long r31), .second, .val (.long r34), .second, .val (.long r37), .second, .val (.long r40), .second, .val (.long r43), .second, .val (.long ((va - (48 : Int32)).toInt64)), .second, .val (.long ((((va - (48 : Int32)) * (10 : Int32)) + (vb - (48 : Int32))).toInt64)), .second, .unset, .unset, .unset, .unset, .unset, .unset] [(.int (vb - (48 : Int32))), (.int ((va - (48 : Int32)) * (100 : Int32)))]
        refine w_bipush ok at_274 (v := (10 : Int32)) rfl ?_
        show W K l _ n0 _ h25 6 45 276 #[.val (.long xl), .second, .val (.int a), .val (.int b), .val (.int c), .val (.int va), .val (.int vb), .val (.int vc), .val (.int va), .val (.int vb), .val (.int vc), .val (.long p), .second, .val (.ref b1), .val (.ref b3), .val (.ref b6), .val (.ref b10), .val (.ref b15), .val (.ref b20), .val (.long r28), .second, .val (.long r31), .second, .val (.long r34), .second, .val (.long r37), .second, .val (.long r40), .second, .val (.long r43), .second, .val (.long ((va - (48 : Int32)).toInt64)), .second, .val (.long ((((va - (48 : Int32)) * (10 : Int32)) + (vb - (48 : Int32))).toInt64)), .second, .unset, .unset, .unset, .unset, .unset, .unset] [(.int (10 : Int32)), (.int (vb - (48 : Int32))), (.int ((va - (48 : Int32)) * (100 : Int32)))]
        refine w_imul ok at_276 ?_
        show W K l _ n0 _ h25 6 45 277 #[.val (.long xl), .second, .val (.int a), .val (.int b), .val (.int c), .val (.int va), .val (.int vb), .val (.int vc), .val (.int va), .val (.int vb), .val (.int vc), .val (.long p), .second, .val (.ref b1), .val (.ref b3), .val (.ref b6), .val (.ref b10), .val (.ref b15), .val (.ref b20), .val (.long r28), .second, .val (.long r31), .second, .val (.long r34), .second, .val (.long r37), .second, .val (.long r40), .second, .val (.long r43), .second, .val (.long ((va - (48 : Int32)).toInt64)), .second, .val (.long ((((va - (48 : Int32)) * (10 : Int32)) + (vb - (48 : Int32))).toInt64)), .second, .unset, .unset, .unset, .unset, .unset, .unset] [(.int ((vb - (48 : Int32)) * (10 : Int32))), (.int ((va - (48 : Int32)) * (100 : Int32)))]
        refine w_iadd ok at_277 ?_
        show W K l _ n0 _ h25 6 45 278 #[.val (.long xl), .second, .val (.int a), .val (.int b), .val (.int c), .val (.int va), .val (.int vb), .val (.int vc), .val (.int va), .val (.int vb), .val (.int vc), .val (.long p), .second, .val (.ref b1), .val (.ref b3), .val (.ref b6), .val (.ref b10), .val (.ref b15), .val (.ref b20), .val (.long r28), .second, .val (.long r31), .second, .val (.long r34), .second, .val (.long r37), .second, .val (.long r40), .second, .val (.long r43), .second, .val (.long ((va - (48 : Int32)).toInt64)), .second, .val (.long ((((va - (48 : Int32)) * (10 : Int32)) + (vb - (48 : Int32))).toInt64)), .second, .unset, .unset, .unset, .unset, .unset, .unset] [(.int (((va - (48 : Int32)) * (100 : Int32)) + ((vb - (48 : Int32)) * (10 : Int32))))]
        refine w_iload ok at_278 rfl ?_
        show W K l _ n0 _ h25 6 45 280 #[.val (.long xl), .second, .val (.int a), .val (.int b), .val (.int c), .val (.int va), .val (.int vb), .val (.int vc), .val (.int va), .val (.int vb), .val (.int vc), .val (.long p), .second, .val (.ref b1), .val (.ref b3), .val (.ref b6), .val (.ref b10), .val (.ref b15), .val (.ref b20), .val (.long r28), .second, .val (.long r31), .second, .val (.long r34), .second, .val (.long r37), .second, .val (.long r40), .second, .val (.long r43), .second, .val (.long ((va - (48 : Int32)).toInt64)), .second, .val (.long ((((va - (48 : Int32)) * (10 : Int32)) + (vb - (48 : Int32))).toInt64)), .second, .unset, .unset, .unset, .unset, .unset, .unset] [(.int vc), (.int (((va - (48 : Int32)) * (100 : Int32)) + ((vb - (48 : Int32)) * (10 : Int32))))]
        refine w_bipush ok at_280 (v := (48 : Int32)) rfl ?_
        show W K l _ n0 _ h25 6 45 282 #[.val (.long xl), .second, .val (.int a), .val (.int b), .val (.int c), .val (.int va), .val (.int vb), .val (.int vc), .val (.int va), .val (.int vb), .val (.int vc), .val (.long p), .second, .val (.ref b1), .val (.ref b3), .val (.ref b6), .val (.ref b10), .val (.ref b15), .val (.ref b20), .val (.long r28), .second, .val (.long r31), .second, .val (.long r34), .second, .val (.long r37), .second, .val (.long r40), .second, .val (.long r43), .second, .val (.long ((va - (48 : Int32)).toInt64)), .second, .val (.long ((((va - (48 : Int32)) * (10 : Int32)) + (vb - (48 : Int32))).toInt64)), .second, .unset, .unset, .unset, .unset, .unset, .unset] [(.int (48 : Int32)), (.int vc), (.int (((va - (48 : Int32)) * (100 : Int32)) + ((vb - (48 : Int32)) * (10 : Int32))))]
        refine w_isub ok at_282 ?_
        show W K l _ n0 _ h25 6 45 283 #[.val (.long xl), .second, .val (.int a), .val (.int b), .val (.int c), .val (.int va), .val (.int vb), .val (.int vc), .val (.int va), .val (.int vb), .val (.int vc), .val (.long p), .second, .val (.ref b1), .val (.ref b3), .val (.ref b6), .val (.ref b10), .val (.ref b15), .val (.ref b20), .val (.long r28), .second, .val (.long r31), .second, .val (.long r34), .second, .val (.long r37), .second, .val (.long r40), .second, .val (.long r43), .second, .val (.long ((va - (48 : Int32)).toInt64)), .second, .val (.long ((((va - (48 : Int32)) * (10 : Int32)) + (vb - (48 : Int32))).toInt64)), .second, .unset, .unset, .unset, .unset, .unset, .unset] [(.int (vc - (48 : Int32))), (.int (((va - (48 : Int32)) * (100 : Int32)) + ((vb - (48 : Int32)) * (10 : Int32))))]
        refine w_iadd ok at_283 ?_
        show W K l _ n0 _ h25 6 45 284 #[.val (.long xl), .second, .val (.int a), .val (.int b), .val (.int c), .val (.int va), .val (.int vb), .val (.int vc), .val (.int va), .val (.int vb), .val (.int vc), .val (.long p), .second, .val (.ref b1), .val (.ref b3), .val (.ref b6), .val (.ref b10), .val (.ref b15), .val (.ref b20), .val (.long r28), .second, .val (.long r31), .second, .val (.long r34), .second, .val (.long r37), .second, .val (.long r40), .second, .val (.long r43), .second, .val (.long ((va - (48 : Int32)).toInt64)), .second, .val (.long ((((va - (48 : Int32)) * (10 : Int32)) + (vb - (48 : Int32))).toInt64)), .second, .unset, .unset, .unset, .unset, .unset, .unset] [(.int ((((va - (48 : Int32)) * (100 : Int32)) + ((vb - (48 : Int32)) * (10 : Int32))) + (vc - (48 : Int32))))]
        refine w_i2l ok at_284 ?_
        show W K l _ n0 _ h25 6 45 285 #[.val (.long xl), .second, .val (.int a), .val (.int b), .val (.int c), .val (.int va), .val (.int vb), .val (.int vc), .val (.int va), .val (.int vb), .val (.int vc), .val (.long p), .second, .val (.ref b1), .val (.ref b3), .val (.ref b6), .val (.ref b10), .val (.ref b15), .val (.ref b20), .val (.long r28), .second, .val (.long r31), .second, .val (.long r34), .second, .val (.long r37), .second, .val (.long r40), .second, .val (.long r43), .second, .val (.long ((va - (48 : Int32)).toInt64)), .second, .val (.long ((((va - (48 : Int32)) * (10 : Int32)) + (vb - (48 : Int32))).toInt64)), .second, .unset, .unset, .unset, .unset, .unset, .unset] [(.long (((((va - (48 : Int32)) * (100 : Int32)) + ((vb - (48 : Int32)) * (10 : Int32))) + (vc - (48 : Int32))).toInt64))]
        refine w_goto ok at_285 (pc' := 291) (by decide) ?_
        show W K l _ n0 _ h25 6 45 291 #[.val (.long xl), .second, .val (.int a), .val (.int b), .val (.int c), .val (.int va), .val (.int vb), .val (.int vc), .val (.int va), .val (.int vb), .val (.int vc), .val (.long p), .second, .val (.ref b1), .val (.ref b3), .val (.ref b6), .val (.ref b10), .val (.ref b15), .val (.ref b20), .val (.long r28), .second, .val (.long r31), .second, .val (.long r34), .second, .val (.long r37), .second, .val (.long r40), .second, .val (.long r43), .second, .val (.long ((va - (48 : Int32)).toInt64)), .second, .val (.long ((((va - (48 : Int32)) * (10 : Int32)) + (vb - (48 : Int32))).toInt64)), .second, .unset, .unset, .unset, .unset, .unset, .unset] [(.long (((((va - (48 : Int32)) * (100 : Int32)) + ((vb - (48 : Int32)) * (10 : Int32))) + (vc - (48 : Int32))).toInt64))]
        refine w_lstore ok at_291 (L' := #[.val (.long xl), .second, .val (.int a), .val (.int b), .val (.int c), .val (.int va), .val (.int vb), .val (.int vc), .val (.int va), .val (.int vb), .val (.int vc), .val (.long p), .second, .val (.ref b1), .val (.ref b3), .val (.ref b6), .val (.ref b10), .val (.ref b15), .val (.ref b20), .val (.long r28), .second, .val (.long r31), .second, .val (.long r34), .second, .val (.long r37), .second, .val (.long r40), .second, .val (.long r43), .second, .val (.long ((va - (48 : Int32)).toInt64)), .second, .val (.long ((((va - (48 : Int32)) * (10 : Int32)) + (vb - (48 : Int32))).toInt64)), .second, .val (.long (((((va - (48 : Int32)) * (100 : Int32)) + ((vb - (48 : Int32)) * (10 : Int32))) + (vc - (48 : Int32))).toInt64)), .second, .unset, .unset, .unset, .unset]) rfl ?_
        show W K l _ n0 _ h25 6 45 293 #[.val (.long xl), .second, .val (.int a), .val (.int b), .val (.int c), .val (.int va), .val (.int vb), .val (.int vc), .val (.int va), .val (.int vb), .val (.int vc), .val (.long p), .second, .val (.ref b1), .val (.ref b3), .val (.ref b6), .val (.ref b10), .val (.ref b15), .val (.ref b20), .val (.long r28), .second, .val (.long r31), .second, .val (.long r34), .second, .val (.long r37), .second, .val (.long r40), .second, .val (.long r43), .second, .val (.long ((va - (48 : Int32)).toInt64)), .second, .val (.long ((((va - (48 : Int32)) * (10 : Int32)) + (vb - (48 : Int32))).toInt64)), .second, .val (.long (((((va - (48 : Int32)) * (100 : Int32)) + ((vb - (48 : Int32)) * (10 : Int32))) + (vc - (48 : Int32))).toInt64)), .second, .unset, .unset, .unset, .unset] []
        refine w_lload ok at_293 rfl ?_
        show W K l _ n0 _ h25 6 45 295 #[.val (.long xl), .second, .val (.int a), .val (.int b), .val (.int c), .val (.int va), .val (.int vb), .val (.int vc), .val (.int va), .val (.int vb), .val (.int vc), .val (.long p), .second, .val (.ref b1), .val (.ref b3), .val (.ref b6), .val (.ref b10), .val (.ref b15), .val (.ref b20), .val (.long r28), .second, .val (.long r31), .second, .val (.long r34), .second, .val (.long r37), .second, .val (.long r40), .second, .val (.long r43), .second, .val (.long ((va - (48 : Int32)).toInt64)), .second, .val (.long ((((va - (48 : Int32)) * (10 : Int32)) + (vb - (48 : Int32))).toInt64)), .second, .val (.long (((((va - (48 : Int32)) * (100 : Int32)) + ((vb - (48 : Int32)) * (10 : Int32))) + (vc - (48 : Int32))).toInt64)), .second, .unset, .unset, .unset, .unset] [(.long p)]
        refine w_iload ok at_295 rfl ?_
        show W K l _ n0 _ h25 6 45 297 #[.val (.long xl), .second, .val (.int a), .val (.int b), .val (.int c), .val (.int va), .val (.int vb), .val (.int vc), .val (.int va), .val (.int vb), .val (.int vc), .val (.long p), .second, .val (.ref b1), .val (.ref b3), .val (.ref b6), .val (.ref b10), .val (.ref b15), .val (.ref b20), .val (.long r28), .second, .val (.long r31), .second, .val (.long r34), .second, .val (.long r37), .second, .val (.long r40), .second, .val (.long r43), .second, .val (.long ((va - (48 : Int32)).toInt64)), .second, .val (.long ((((va - (48 : Int32)) * (10 : Int32)) + (vb - (48 : Int32))).toInt64)), .second, .val (.long (((((va - (48 : Int32)) * (100 : Int32)) + ((vb - (48 : Int32)) * (10 : Int32))) + (vc - (48 : Int32))).toInt64)), .second, .unset, .unset, .unset, .unset] [(.int vc), (.long p)]
        refine w_callS ok (y := (⟨"com/example/turnstile/turnstile/server/CommandsParseCountPinLaw", "exp19", "(JI)J"⟩ : MethodName)) (argsL := [(.long p), (.int vc)]) (rest := []) at_297 (hw _ (List.mem_of_getElem? (i := 39) rfl)) (hw _ (List.mem_of_getElem? (i := 40) rfl)) (hw _ (List.mem_of_getElem? (i := 5) rfl)) (hw _ (List.mem_of_getElem? (i := 41) rfl)) (by decide) pd_28JI29J rfl rfl (by decide) (Nat.le_of_ble_eq_true rfl) (by decide) (by decide) (fun z0 => rm_e19 l Z a0 hw [] n0 h25 z0 p vc hp0 hp2) (fun v169 h170 qv169 => ?_)
        obtain ⟨r171, rfl, h_r171, rfl⟩ := qv169
        show W K l _ n0 _ h25 6 45 300 #[.val (.long xl), .second, .val (.int a), .val (.int b), .val (.int c), .val (.int va), .val (.int vb), .val (.int vc), .val (.int va), .val (.int vb), .val (.int vc), .val (.long p), .second, .val (.ref b1), .val (.ref b3), .val (.ref b6), .val (.ref b10), .val (.ref b15), .val (.ref b20), .val (.long r28), .second, .val (.long r31), .second, .val (.long r34), .second, .val (.long r37), .second, .val (.long r40), .second, .val (.long r43), .second, .val (.long ((va - (48 : Int32)).toInt64)), .second, .val (.long ((((va - (48 : Int32)) * (10 : Int32)) + (vb - (48 : Int32))).toInt64)), .second, .val (.long (((((va - (48 : Int32)) * (100 : Int32)) + ((vb - (48 : Int32)) * (10 : Int32))) + (vc - (48 : Int32))).toInt64)), .second, .unset, .unset, .unset, .unset] [(.long r171)]
        refine w_lstore ok at_300 (L' := #[.val (.long xl), .second, .val (.int a), .val (.int b), .val (.int c), .val (.int va), .val (.int vb), .val (.int vc), .val (.int va), .val (.int vb), .val (.int vc), .val (.long p), .second, .val (.ref b1), .val (.ref b3), .val (.ref b6), .val (.ref b10), .val (.ref b15), .val (.ref b20), .val (.long r28), .second, .val (.long r31), .second, .val (.long r34), .second, .val (.long r37), .second, .val (.long r40), .second, .val (.long r43), .second, .val (.long ((va - (48 : Int32)).toInt64)), .second, .val (.long ((((va - (48 : Int32)) * (10 : Int32)) + (vb - (48 : Int32))).toInt64)), .second, .val (.long (((((va - (48 : Int32)) * (100 : Int32)) + ((vb - (48 : Int32)) * (10 : Int32))) + (vc - (48 : Int32))).toInt64)), .second, .val (.long r171), .second, .unset, .unset]) rfl ?_
        show W K l _ n0 _ h25 6 45 302 #[.val (.long xl), .second, .val (.int a), .val (.int b), .val (.int c), .val (.int va), .val (.int vb), .val (.int vc), .val (.int va), .val (.int vb), .val (.int vc), .val (.long p), .second, .val (.ref b1), .val (.ref b3), .val (.ref b6), .val (.ref b10), .val (.ref b15), .val (.ref b20), .val (.long r28), .second, .val (.long r31), .second, .val (.long r34), .second, .val (.long r37), .second, .val (.long r40), .second, .val (.long r43), .second, .val (.long ((va - (48 : Int32)).toInt64)), .second, .val (.long ((((va - (48 : Int32)) * (10 : Int32)) + (vb - (48 : Int32))).toInt64)), .second, .val (.long (((((va - (48 : Int32)) * (100 : Int32)) + ((vb - (48 : Int32)) * (10 : Int32))) + (vc - (48 : Int32))).toInt64)), .second, .val (.long r171), .second, .unset, .unset] []
        refine w_iload ok at_302 rfl ?_
        show W K l _ n0 _ h25 6 45 304 #[.val (.long xl), .second, .val (.int a), .val (.int b), .val (.int c), .val (.int va), .val (.int vb), .val (.int vc), .val (.int va), .val (.int vb), .val (.int vc), .val (.long p), .second, .val (.ref b1), .val (.ref b3), .val (.ref b6), .val (.ref b10), .val (.ref b15), .val (.ref b20), .val (.long r28), .second, .val (.long r31), .second, .val (.long r34), .second, .val (.long r37), .second, .val (.long r40), .second, .val (.long r43), .second, .val (.long ((va - (48 : Int32)).toInt64)), .second, .val (.long ((((va - (48 : Int32)) * (10 : Int32)) + (vb - (48 : Int32))).toInt64)), .second, .val (.long (((((va - (48 : Int32)) * (100 : Int32)) + ((vb - (48 : Int32)) * (10 : Int32))) + (vc - (48 : Int32))).toInt64)), .second, .val (.long r171), .second, .unset, .unset] [(.int va)]
        refine w_callS ok (y := (⟨"com/example/turnstile/turnstile/server/CommandsParseCountPinLaw", "dig", "(I)Z"⟩ : MethodName)) (argsL := [(.int va)]) (rest := []) at_304 (hw _ (List.mem_of_getElem? (i := 35) rfl)) (hw _ (List.mem_of_getElem? (i := 36) rfl)) (hw _ (List.mem_of_getElem? (i := 5) rfl)) (hw _ (List.mem_of_getElem? (i := 37) rfl)) (by decide) pd_28I29Z rfl rfl (by decide) (Nat.le_of_ble_eq_true rfl) (by decide) (by decide) (fun z0 => rm_dig l Z a0 hw [] n0 h25 z0 va) (fun v172 h173 qv172 => ?_)
        obtain ⟨rfl, rfl⟩ := qv172
        show W K l _ n0 _ h25 6 45 307 #[.val (.long xl), .second, .val (.int a), .val (.int b), .val (.int c), .val (.int va), .val (.int vb), .val (.int vc), .val (.int va), .val (.int vb), .val (.int vc), .val (.long p), .second, .val (.ref b1), .val (.ref b3), .val (.ref b6), .val (.ref b10), .val (.ref b15), .val (.ref b20), .val (.long r28), .second, .val (.long r31), .second, .val (.long r34), .second, .val (.long r37), .second, .val (.long r40), .second, .val (.long r43), .second, .val (.long ((va - (48 : Int32)).toInt64)), .second, .val (.long ((((va - (48 : Int32)) * (10 : Int32)) + (vb - (48 : Int32))).toInt64)), .second, .val (.long (((((va - (48 : Int32)) * (100 : Int32)) + ((vb - (48 : Int32)) * (10 : Int32))) + (vc - (48 : Int32))).toInt64)), .second, .val (.long r171), .second, .unset, .unset] [(.int (own_dig va))]
        refine w_if_ne ok at_307 (pc' := 318) (by decide) (fun hc175 => ?_) (fun hc175 => False.elim (by exact hc47 hc175))
        show W K l _ n0 _ h25 6 45 318 #[.val (.long xl), .second, .val (.int a), .val (.int b), .val (.int c), .val (.int va), .val (.int vb), .val (.int vc), .val (.int va), .val (.int vb), .val (.int vc), .val (.long p), .second, .val (.ref b1), .val (.ref b3), .val (.ref b6), .val (.ref b10), .val (.ref b15), .val (.ref b20), .val (.long r28), .second, .val (.long r31), .second, .val (.long r34), .second, .val (.long r37), .second, .val (.long r40), .second, .val (.long r43), .second, .val (.long ((va - (48 : Int32)).toInt64)), .second, .val (.long ((((va - (48 : Int32)) * (10 : Int32)) + (vb - (48 : Int32))).toInt64)), .second, .val (.long (((((va - (48 : Int32)) * (100 : Int32)) + ((vb - (48 : Int32)) * (10 : Int32))) + (vc - (48 : Int32))).toInt64)), .second, .val (.long r171), .second, .unset, .unset] []
        refine w_iload ok at_318 rfl ?_
        show W K l _ n0 _ h25 6 45 320 #[.val (.long xl), .second, .val (.int a), .val (.int b), .val (.int c), .val (.int va), .val (.int vb), .val (.int vc), .val (.int va), .val (.int vb), .val (.int vc), .val (.long p), .second, .val (.ref b1), .val (.ref b3), .val (.ref b6), .val (.ref b10), .val (.ref b15), .val (.ref b20), .val (.long r28), .second, .val (.long r31), .second, .val (.long r34), .second, .val (.long r37), .second, .val (.long r40), .second, .val (.long r43), .second, .val (.long ((va - (48 : Int32)).toInt64)), .second, .val (.long ((((va - (48 : Int32)) * (10 : Int32)) + (vb - (48 : Int32))).toInt64)), .second, .val (.long (((((va - (48 : Int32)) * (100 : Int32)) + ((vb - (48 : Int32)) * (10 : Int32))) + (vc - (48 : Int32))).toInt64)), .second, .val (.long r171), .second, .unset, .unset] [(.int va)]
        refine w_bipush ok at_320 (v := (48 : Int32)) rfl ?_
        show W K l _ n0 _ h25 6 45 322 #[.val (.long xl), .second, .val (.int a), .val (.int b), .val (.int c), .val (.int va), .val (.int vb), .val (.int vc), .val (.int va), .val (.int vb), .val (.int vc), .val (.long p), .second, .val (.ref b1), .val (.ref b3), .val (.ref b6), .val (.ref b10), .val (.ref b15), .val (.ref b20), .val (.long r28), .second, .val (.long r31), .second, .val (.long r34), .second, .val (.long r37), .second, .val (.long r40), .second, .val (.long r43), .second, .val (.long ((va - (48 : Int32)).toInt64)), .second, .val (.long ((((va - (48 : Int32)) * (10 : Int32)) + (vb - (48 : Int32))).toInt64)), .second, .val (.long (((((va - (48 : Int32)) * (100 : Int32)) + ((vb - (48 : Int32)) * (10 : Int32))) + (vc - (48 : Int32))).toInt64)), .second, .val (.long r171), .second, .unset, .unset] [(.int (48 : Int32)), (.int va)]
        refine w_icmp_ne ok at_322 (pc' := 332) (by decide) (fun hc177 => ?_) (fun hc177 => ?_)
        · show W K l _ n0 _ h25 6 45 332 #[.val (.long xl), .second, .val (.int a), .val (.int b), .val (.int c), .val (.int va), .val (.int vb), .val (.int vc), .val (.int va), .val (.int vb), .val (.int vc), .val (.long p), .second, .val (.ref b1), .val (.ref b3), .val (.ref b6), .val (.ref b10), .val (.ref b15), .val (.ref b20), .val (.long r28), .second, .val (.long r31), .second, .val (.long r34), .second, .val (.long r37), .second, .val (.long r40), .second, .val (.long r43), .second, .val (.long ((va - (48 : Int32)).toInt64)), .second, .val (.long ((((va - (48 : Int32)) * (10 : Int32)) + (vb - (48 : Int32))).toInt64)), .second, .val (.long (((((va - (48 : Int32)) * (100 : Int32)) + ((vb - (48 : Int32)) * (10 : Int32))) + (vc - (48 : Int32))).toInt64)), .second, .val (.long r171), .second, .unset, .unset] []
          refine w_ldc2J (v := (-1 : Int64)) ok at_332 (hw _ (List.mem_of_getElem? (i := 38) rfl)) ?_
          show W K l _ n0 _ h25 6 45 335 #[.val (.long xl), .second, .val (.int a), .val (.int b), .val (.int c), .val (.int va), .val (.int vb), .val (.int vc), .val (.int va), .val (.int vb), .val (.int vc), .val (.long p), .second, .val (.ref b1), .val (.ref b3), .val (.ref b6), .val (.ref b10), .val (.ref b15), .val (.ref b20), .val (.long r28), .second, .val (.long r31), .second, .val (.long r34), .second, .val (.long r37), .second, .val (.long r40), .second, .val (.long r43), .second, .val (.long ((va - (48 : Int32)).toInt64)), .second, .val (.long ((((va - (48 : Int32)) * (10 : Int32)) + (vb - (48 : Int32))).toInt64)), .second, .val (.long (((((va - (48 : Int32)) * (100 : Int32)) + ((vb - (48 : Int32)) * (10 : Int32))) + (vc - (48 : Int32))).toInt64)), .second, .val (.long r171), .second, .unset, .unset] [(.long (-1 : Int64))]
          refine w_lstore ok at_335 (L' := #[.val (.long xl), .second, .val (.int a), .val (.int b), .val (.int c), .val (.int va), .val (.int vb), .val (.int vc), .val (.int va), .val (.int vb), .val (.int vc), .val (.long p), .second, .val (.ref b1), .val (.ref b3), .val (.ref b6), .val (.ref b10), .val (.ref b15), .val (.ref b20), .val (.long r28), .second, .val (.long r31), .second, .val (.long r34), .second, .val (.long r37), .second, .val (.long r40), .second, .val (.long r43), .second, .val (.long ((va - (48 : Int32)).toInt64)), .second, .val (.long ((((va - (48 : Int32)) * (10 : Int32)) + (vb - (48 : Int32))).toInt64)), .second, .val (.long (((((va - (48 : Int32)) * (100 : Int32)) + ((vb - (48 : Int32)) * (10 : Int32))) + (vc - (48 : Int32))).toInt64)), .second, .val (.long r171), .second, .val (.long (-1 : Int64)), .second]) rfl ?_
          show W K l _ n0 _ h25 6 45 337 #[.val (.long xl), .second, .val (.int a), .val (.int b), .val (.int c), .val (.int va), .val (.int vb), .val (.int vc), .val (.int va), .val (.int vb), .val (.int vc), .val (.long p), .second, .val (.ref b1), .val (.ref b3), .val (.ref b6), .val (.ref b10), .val (.ref b15), .val (.ref b20), .val (.long r28), .second, .val (.long r31), .second, .val (.long r34), .second, .val (.long r37), .second, .val (.long r40), .second, .val (.long r43), .second, .val (.long ((va - (48 : Int32)).toInt64)), .second, .val (.long ((((va - (48 : Int32)) * (10 : Int32)) + (vb - (48 : Int32))).toInt64)), .second, .val (.long (((((va - (48 : Int32)) * (100 : Int32)) + ((vb - (48 : Int32)) * (10 : Int32))) + (vc - (48 : Int32))).toInt64)), .second, .val (.long r171), .second, .val (.long (-1 : Int64)), .second] []
          refine w_lload ok at_337 rfl ?_
          show W K l _ n0 _ h25 6 45 339 #[.val (.long xl), .second, .val (.int a), .val (.int b), .val (.int c), .val (.int va), .val (.int vb), .val (.int vc), .val (.int va), .val (.int vb), .val (.int vc), .val (.long p), .second, .val (.ref b1), .val (.ref b3), .val (.ref b6), .val (.ref b10), .val (.ref b15), .val (.ref b20), .val (.long r28), .second, .val (.long r31), .second, .val (.long r34), .second, .val (.long r37), .second, .val (.long r40), .second, .val (.long r43), .second, .val (.long ((va - (48 : Int32)).toInt64)), .second, .val (.long ((((va - (48 : Int32)) * (10 : Int32)) + (vb - (48 : Int32))).toInt64)), .second, .val (.long (((((va - (48 : Int32)) * (100 : Int32)) + ((vb - (48 : Int32)) * (10 : Int32))) + (vc - (48 : Int32))).toInt64)), .second, .val (.long r171), .second, .val (.long (-1 : Int64)), .second] [(.long r28)]
          refine w_ldc2J (v := (-1 : Int64)) ok at_339 (hw _ (List.mem_of_getElem? (i := 38) rfl)) ?_
          show W K l _ n0 _ h25 6 45 342 #[.val (.long xl), .second, .val (.int a), .val (.int b), .val (.int c), .val (.int va), .val (.int vb), .val (.int vc), .val (.int va), .val (.int vb), .val (.int vc), .val (.long p), .second, .val (.ref b1), .val (.ref b3), .val (.ref b6), .val (.ref b10), .val (.ref b15), .val (.ref b20), .val (.long r28), .second, .val (.long r31), .second, .val (.long r34), .second, .val (.long r37), .second, .val (.long r40), .second, .val (.long r43), .second, .val (.long ((va - (48 : Int32)).toInt64)), .second, .val (.long ((((va - (48 : Int32)) * (10 : Int32)) + (vb - (48 : Int32))).toInt64)), .second, .val (.long (((((va - (48 : Int32)) * (100 : Int32)) + ((vb - (48 : Int32)) * (10 : Int32))) + (vc - (48 : Int32))).toInt64)), .second, .val (.long r171), .second, .val (.long (-1 : Int64)), .second] [(.long (-1 : Int64)), (.long r28)]
          refine w_lcmp_ne ok at_342 at_343 (pc' := 390) (by decide) (fun hc179 => False.elim (by exact hc179 (Int64.toInt_inj.mp (by rw [h_r28] <;> rfl)))) (fun hc179 => ?_)
          show W K l _ n0 _ h25 6 45 346 #[.val (.long xl), .second, .val (.int a), .val (.int b), .val (.int c), .val (.int va), .val (.int vb), .val (.int vc), .val (.int va), .val (.int vb), .val (.int vc), .val (.long p), .second, .val (.ref b1), .val (.ref b3), .val (.ref b6), .val (.ref b10), .val (.ref b15), .val (.ref b20), .val (.long r28), .second, .val (.long r31), .second, .val (.long r34), .second, .val (.long r37), .second, .val (.long r40), .second, .val (.long r43), .second, .val (.long ((va - (48 : Int32)).toInt64)), .second, .val (.long ((((va - (48 : Int32)) * (10 : Int32)) + (vb - (48 : Int32))).toInt64)), .second, .val (.long (((((va - (48 : Int32)) * (100 : Int32)) + ((vb - (48 : Int32)) * (10 : Int32))) + (vc - (48 : Int32))).toInt64)), .second, .val (.long r171), .second, .val (.long (-1 : Int64)), .second] []
          refine w_lload ok at_346 rfl ?_
          show W K l _ n0 _ h25 6 45 348 #[.val (.long xl), .second, .val (.int a), .val (.int b), .val (.int c), .val (.int va), .val (.int vb), .val (.int vc), .val (.int va), .val (.int vb), .val (.int vc), .val (.long p), .second, .val (.ref b1), .val (.ref b3), .val (.ref b6), .val (.ref b10), .val (.ref b15), .val (.ref b20), .val (.long r28), .second, .val (.long r31), .second, .val (.long r34), .second, .val (.long r37), .second, .val (.long r40), .second, .val (.long r43), .second, .val (.long ((va - (48 : Int32)).toInt64)), .second, .val (.long ((((va - (48 : Int32)) * (10 : Int32)) + (vb - (48 : Int32))).toInt64)), .second, .val (.long (((((va - (48 : Int32)) * (100 : Int32)) + ((vb - (48 : Int32)) * (10 : Int32))) + (vc - (48 : Int32))).toInt64)), .second, .val (.long r171), .second, .val (.long (-1 : Int64)), .second] [(.long r31)]
          refine w_lload ok at_348 rfl ?_
          show W K l _ n0 _ h25 6 45 350 #[.val (.long xl), .second, .val (.int a), .val (.int b), .val (.int c), .val (.int va), .val (.int vb), .val (.int vc), .val (.int va), .val (.int vb), .val (.int vc), .val (.long p), .second, .val (.ref b1), .val (.ref b3), .val (.ref b6), .val (.ref b10), .val (.ref b15), .val (.ref b20), .val (.long r28), .second, .val (.long r31), .second, .val (.long r34), .second, .val (.long r37), .second, .val (.long r40), .second, .val (.long r43), .second, .val (.long ((va - (48 : Int32)).toInt64)), .second, .val (.long ((((va - (48 : Int32)) * (10 : Int32)) + (vb - (48 : Int32))).toInt64)), .second, .val (.long (((((va - (48 : Int32)) * (100 : Int32)) + ((vb - (48 : Int32)) * (10 : Int32))) + (vc - (48 : Int32))).toInt64)), .second, .val (.long r171), .second, .val (.long (-1 : Int64)), .second] [(.long ((va - (48 : Int32)).toInt64)), (.long r31)]
          refine w_lcmp_ne ok at_350 at_351 (pc' := 390) (by decide) (fun hc181 => False.elim (by exact hc181 (Int64.toInt_inj.mp (by rw [h_r31, own_r1t (own_dig_t hc47), own_c1 va rva])))) (fun hc181 => ?_)
          show W K l _ n0 _ h25 6 45 354 #[.val (.long xl), .second, .val (.int a), .val (.int b), .val (.int c), .val (.int va), .val (.int vb), .val (.int vc), .val (.int va), .val (.int vb), .val (.int vc), .val (.long p), .second, .val (.ref b1), .val (.ref b3), .val (.ref b6), .val (.ref b10), .val (.ref b15), .val (.ref b20), .val (.long r28), .second, .val (.long r31), .second, .val (.long r34), .second, .val (.long r37), .second, .val (.long r40), .second, .val (.long r43), .second, .val (.long ((va - (48 : Int32)).toInt64)), .second, .val (.long ((((va - (48 : Int32)) * (10 : Int32)) + (vb - (48 : Int32))).toInt64)), .second, .val (.long (((((va - (48 : Int32)) * (100 : Int32)) + ((vb - (48 : Int32)) * (10 : Int32))) + (vc - (48 : Int32))).toInt64)), .second, .val (.long r171), .second, .val (.long (-1 : Int64)), .second] []
          refine w_lload ok at_354 rfl ?_
          show W K l _ n0 _ h25 6 45 356 #[.val (.long xl), .second, .val (.int a), .val (.int b), .val (.int c), .val (.int va), .val (.int vb), .val (.int vc), .val (.int va), .val (.int vb), .val (.int vc), .val (.long p), .second, .val (.ref b1), .val (.ref b3), .val (.ref b6), .val (.ref b10), .val (.ref b15), .val (.ref b20), .val (.long r28), .second, .val (.long r31), .second, .val (.long r34), .second, .val (.long r37), .second, .val (.long r40), .second, .val (.long r43), .second, .val (.long ((va - (48 : Int32)).toInt64)), .second, .val (.long ((((va - (48 : Int32)) * (10 : Int32)) + (vb - (48 : Int32))).toInt64)), .second, .val (.long (((((va - (48 : Int32)) * (100 : Int32)) + ((vb - (48 : Int32)) * (10 : Int32))) + (vc - (48 : Int32))).toInt64)), .second, .val (.long r171), .second, .val (.long (-1 : Int64)), .second] [(.long r34)]
          refine w_lload ok at_356 rfl ?_
          show W K l _ n0 _ h25 6 45 358 #[.val (.long xl), .second, .val (.int a), .val (.int b), .val (.int c), .val (.int va), .val (.int vb), .val (.int vc), .val (.int va), .val (.int vb), .val (.int vc), .val (.long p), .second, .val (.ref b1), .val (.ref b3), .val (.ref b6), .val (.ref b10), .val (.ref b15), .val (.ref b20), .val (.long r28), .second, .val (.long r31), .second, .val (.long r34), .second, .val (.long r37), .second, .val (.long r40), .second, .val (.long r43), .second, .val (.long ((va - (48 : Int32)).toInt64)), .second, .val (.long ((((va - (48 : Int32)) * (10 : Int32)) + (vb - (48 : Int32))).toInt64)), .second, .val (.long (((((va - (48 : Int32)) * (100 : Int32)) + ((vb - (48 : Int32)) * (10 : Int32))) + (vc - (48 : Int32))).toInt64)), .second, .val (.long r171), .second, .val (.long (-1 : Int64)), .second] [(.long ((((va - (48 : Int32)) * (10 : Int32)) + (vb - (48 : Int32))).toInt64)), (.long r34)]
          refine w_lcmp_ne ok at_358 at_359 (pc' := 390) (by decide) (fun hc183 => False.elim (by exact hc183 (Int64.toInt_inj.mp (by rw [h_r34, own_r2t (own_dig_t hc47) (own_dig_t hc82), own_c2 va vb rva rvb])))) (fun hc183 => ?_)
          show W K l _ n0 _ h25 6 45 362 #[.val (.long xl), .second, .val (.int a), .val (.int b), .val (.int c), .val (.int va), .val (.int vb), .val (.int vc), .val (.int va), .val (.int vb), .val (.int vc), .val (.long p), .second, .val (.ref b1), .val (.ref b3), .val (.ref b6), .val (.ref b10), .val (.ref b15), .val (.ref b20), .val (.long r28), .second, .val (.long r31), .second, .val (.long r34), .second, .val (.long r37), .second, .val (.long r40), .second, .val (.long r43), .second, .val (.long ((va - (48 : Int32)).toInt64)), .second, .val (.long ((((va - (48 : Int32)) * (10 : Int32)) + (vb - (48 : Int32))).toInt64)), .second, .val (.long (((((va - (48 : Int32)) * (100 : Int32)) + ((vb - (48 : Int32)) * (10 : Int32))) + (vc - (48 : Int32))).toInt64)), .second, .val (.long r171), .second, .val (.long (-1 : Int64)), .second] []
          refine w_lload ok at_362 rfl ?_
          show W K l _ n0 _ h25 6 45 364 #[.val (.long xl), .second, .val (.int a), .val (.int b), .val (.int c), .val (.int va), .val (.int vb), .val (.int vc), .val (.int va), .val (.int vb), .val (.int vc), .val (.long p), .second, .val (.ref b1), .val (.ref b3), .val (.ref b6), .val (.ref b10), .val (.ref b15), .val (.ref b20), .val (.long r28), .second, .val (.long r31), .second, .val (.long r34), .second, .val (.long r37), .second, .val (.long r40), .second, .val (.long r43), .second, .val (.long ((va - (48 : Int32)).toInt64)), .second, .val (.long ((((va - (48 : Int32)) * (10 : Int32)) + (vb - (48 : Int32))).toInt64)), .second, .val (.long (((((va - (48 : Int32)) * (100 : Int32)) + ((vb - (48 : Int32)) * (10 : Int32))) + (vc - (48 : Int32))).toInt64)), .second, .val (.long r171), .second, .val (.long (-1 : Int64)), .second] [(.long r37)]
          refine w_lload ok at_364 rfl ?_
          show W K l _ n0 _ h25 6 45 366 #[.val (.long xl), .second, .val (.int a), .val (.int b), .val (.int c), .val (.int va), .val (.int vb), .val (.int vc), .val (.int va), .val (.int vb), .val (.int vc), .val (.long p), .second, .val (.ref b1), .val (.ref b3), .val (.ref b6), .val (.ref b10), .val (.ref b15), .val (.ref b20), .val (.long r28), .second, .val (.long r31), .second, .val (.long r34), .second, .val (.long r37), .second, .val (.long r40), .second, .val (.long r43), .second, .val (.long ((va - (48 : Int32)).toInt64)), .second, .val (.long ((((va - (48 : Int32)) * (10 : Int32)) + (vb - (48 : Int32))).toInt64)), .second, .val (.long (((((va - (48 : Int32)) * (100 : Int32)) + ((vb - (48 : Int32)) * (10 : Int32))) + (vc - (48 : Int32))).toInt64)), .second, .val (.long r171), .second, .val (.long (-1 : Int64)), .second] [(.long (((((va - (48 : Int32)) * (100 : Int32)) + ((vb - (48 : Int32)) * (10 : Int32))) + (vc - (48 : Int32))).toInt64)), (.long r37)]
          refine w_lcmp_ne ok at_366 at_367 (pc' := 390) (by decide) (fun hc185 => False.elim (by exact hc185 (Int64.toInt_inj.mp (by rw [h_r37, own_r3t (own_dig_t hc47) (own_dig_t hc82) (own_dig_t hc135), own_c3 va vb vc rva rvb rvc])))) (fun hc185 => ?_)
          show W K l _ n0 _ h25 6 45 370 #[.val (.long xl), .second, .val (.int a), .val (.int b), .val (.int c), .val (.int va), .val (.int vb), .val (.int vc), .val (.int va), .val (.int vb), .val (.int vc), .val (.long p), .second, .val (.ref b1), .val (.ref b3), .val (.ref b6), .val (.ref b10), .val (.ref b15), .val (.ref b20), .val (.long r28), .second, .val (.long r31), .second, .val (.long r34), .second, .val (.long r37), .second, .val (.long r40), .second, .val (.long r43), .second, .val (.long ((va - (48 : Int32)).toInt64)), .second, .val (.long ((((va - (48 : Int32)) * (10 : Int32)) + (vb - (48 : Int32))).toInt64)), .second, .val (.long (((((va - (48 : Int32)) * (100 : Int32)) + ((vb - (48 : Int32)) * (10 : Int32))) + (vc - (48 : Int32))).toInt64)), .second, .val (.long r171), .second, .val (.long (-1 : Int64)), .second] []
          refine w_lload ok at_370 rfl ?_
          show W K l _ n0 _ h25 6 45 372 #[.val (.long xl), .second, .val (.int a), .val (.int b), .val (.int c), .val (.int va), .val (.int vb), .val (.int vc), .val (.int va), .val (.int vb), .val (.int vc), .val (.long p), .second, .val (.ref b1), .val (.ref b3), .val (.ref b6), .val (.ref b10), .val (.ref b15), .val (.ref b20), .val (.long r28), .second, .val (.long r31), .second, .val (.long r34), .second, .val (.long r37), .second, .val (.long r40), .second, .val (.long r43), .second, .val (.long ((va - (48 : Int32)).toInt64)), .second, .val (.long ((((va - (48 : Int32)) * (10 : Int32)) + (vb - (48 : Int32))).toInt64)), .second, .val (.long (((((va - (48 : Int32)) * (100 : Int32)) + ((vb - (48 : Int32)) * (10 : Int32))) + (vc - (48 : Int32))).toInt64)), .second, .val (.long r171), .second, .val (.long (-1 : Int64)), .second] [(.long r40)]
          refine w_lload ok at_372 rfl ?_
          show W K l _ n0 _ h25 6 45 374 #[.val (.long xl), .second, .val (.int a), .val (.int b), .val (.int c), .val (.int va), .val (.int vb), .val (.int vc), .val (.int va), .val (.int vb), .val (.int vc), .val (.long p), .second, .val (.ref b1), .val (.ref b3), .val (.ref b6), .val (.ref b10), .val (.ref b15), .val (.ref b20), .val (.long r28), .second, .val (.long r31), .second, .val (.long r34), .second, .val (.long r37), .second, .val (.long r40), .second, .val (.long r43), .second, .val (.long ((va - (48 : Int32)).toInt64)), .second, .val (.long ((((va - (48 : Int32)) * (10 : Int32)) + (vb - (48 : Int32))).toInt64)), .second, .val (.long (((((va - (48 : Int32)) * (100 : Int32)) + ((vb - (48 : Int32)) * (10 : Int32))) + (vc - (48 : Int32))).toInt64)), .second, .val (.long r171), .second, .val (.long (-1 : Int64)), .second] [(.long r171), (.long r40)]
          refine w_lcmp_ne ok at_374 at_375 (pc' := 390) (by decide) (fun hc187 => False.elim (by exact hc187 (Int64.toInt_inj.mp (by rw [h_r40, h_r171, own_l19, own_r19 p.toInt hp0 hp2 vc])))) (fun hc187 => ?_)
          show W K l _ n0 _ h25 6 45 378 #[.val (.long xl), .second, .val (.int a), .val (.int b), .val (.int c), .val (.int va), .val (.int vb), .val (.int vc), .val (.int va), .val (.int vb), .val (.int vc), .val (.long p), .second, .val (.ref b1), .val (.ref b3), .val (.ref b6), .val (.ref b10), .val (.ref b15), .val (.ref b20), .val (.long r28), .second, .val (.long r31), .second, .val (.long r34), .second, .val (.long r37), .second, .val (.long r40), .second, .val (.long r43), .second, .val (.long ((va - (48 : Int32)).toInt64)), .second, .val (.long ((((va - (48 : Int32)) * (10 : Int32)) + (vb - (48 : Int32))).toInt64)), .second, .val (.long (((((va - (48 : Int32)) * (100 : Int32)) + ((vb - (48 : Int32)) * (10 : Int32))) + (vc - (48 : Int32))).toInt64)), .second, .val (.long r171), .second, .val (.long (-1 : Int64)), .second] []
          refine w_lload ok at_378 rfl ?_
          show W K l _ n0 _ h25 6 45 380 #[.val (.long xl), .second, .val (.int a), .val (.int b), .val (.int c), .val (.int va), .val (.int vb), .val (.int vc), .val (.int va), .val (.int vb), .val (.int vc), .val (.long p), .second, .val (.ref b1), .val (.ref b3), .val (.ref b6), .val (.ref b10), .val (.ref b15), .val (.ref b20), .val (.long r28), .second, .val (.long r31), .second, .val (.long r34), .second, .val (.long r37), .second, .val (.long r40), .second, .val (.long r43), .second, .val (.long ((va - (48 : Int32)).toInt64)), .second, .val (.long ((((va - (48 : Int32)) * (10 : Int32)) + (vb - (48 : Int32))).toInt64)), .second, .val (.long (((((va - (48 : Int32)) * (100 : Int32)) + ((vb - (48 : Int32)) * (10 : Int32))) + (vc - (48 : Int32))).toInt64)), .second, .val (.long r171), .second, .val (.long (-1 : Int64)), .second] [(.long r43)]
          refine w_lload ok at_380 rfl ?_
          show W K l _ n0 _ h25 6 45 382 #[.val (.long xl), .second, .val (.int a), .val (.int b), .val (.int c), .val (.int va), .val (.int vb), .val (.int vc), .val (.int va), .val (.int vb), .val (.int vc), .val (.long p), .second, .val (.ref b1), .val (.ref b3), .val (.ref b6), .val (.ref b10), .val (.ref b15), .val (.ref b20), .val (.long r28), .second, .val (.long r31), .second, .val (.long r34), .second, .val (.long r37), .second, .val (.long r40), .second, .val (.long r43), .second, .val (.long ((va - (48 : Int32)).toInt64)), .second, .val (.long ((((va - (48 : Int32)) * (10 : Int32)) + (vb - (48 : Int32))).toInt64)), .second, .val (.long (((((va - (48 : Int32)) * (100 : Int32)) + ((vb - (48 : Int32)) * (10 : Int32))) + (vc - (48 : Int32))).toInt64)), .second, .val (.long r171), .second, .val (.long (-1 : Int64)), .second] [(.long (-1 : Int64)), (.long r43)]
          refine w_lcmp_ne ok at_382 at_383 (pc' := 390) (by decide) (fun hc189 => False.elim (by exact hc189 (Int64.toInt_inj.mp (by rw [h_r43, own_l19, own_r20 p.toInt hp0 hp2 va vc, if_neg (own_48 hc177)] <;> rfl)))) (fun hc189 => ?_)
          show W K l _ n0 _ h25 6 45 386 #[.val (.long xl), .second, .val (.int a), .val (.int b), .val (.int c), .val (.int va), .val (.int vb), .val (.int vc), .val (.int va), .val (.int vb), .val (.int vc), .val (.long p), .second, .val (.ref b1), .val (.ref b3), .val (.ref b6), .val (.ref b10), .val (.ref b15), .val (.ref b20), .val (.long r28), .second, .val (.long r31), .second, .val (.long r34), .second, .val (.long r37), .second, .val (.long r40), .second, .val (.long r43), .second, .val (.long ((va - (48 : Int32)).toInt64)), .second, .val (.long ((((va - (48 : Int32)) * (10 : Int32)) + (vb - (48 : Int32))).toInt64)), .second, .val (.long (((((va - (48 : Int32)) * (100 : Int32)) + ((vb - (48 : Int32)) * (10 : Int32))) + (vc - (48 : Int32))).toInt64)), .second, .val (.long r171), .second, .val (.long (-1 : Int64)), .second] []
          refine w_iconst ok at_386 (v := (1 : Int32)) rfl ?_
          show W K l _ n0 _ h25 6 45 387 #[.val (.long xl), .second, .val (.int a), .val (.int b), .val (.int c), .val (.int va), .val (.int vb), .val (.int vc), .val (.int va), .val (.int vb), .val (.int vc), .val (.long p), .second, .val (.ref b1), .val (.ref b3), .val (.ref b6), .val (.ref b10), .val (.ref b15), .val (.ref b20), .val (.long r28), .second, .val (.long r31), .second, .val (.long r34), .second, .val (.long r37), .second, .val (.long r40), .second, .val (.long r43), .second, .val (.long ((va - (48 : Int32)).toInt64)), .second, .val (.long ((((va - (48 : Int32)) * (10 : Int32)) + (vb - (48 : Int32))).toInt64)), .second, .val (.long (((((va - (48 : Int32)) * (100 : Int32)) + ((vb - (48 : Int32)) * (10 : Int32))) + (vc - (48 : Int32))).toInt64)), .second, .val (.long r171), .second, .val (.long (-1 : Int64)), .second] [(.int (1 : Int32))]
          refine w_goto ok at_387 (pc' := 391) (by decide) ?_
          show W K l _ n0 _ h25 6 45 391 #[.val (.long xl), .second, .val (.int a), .val (.int b), .val (.int c), .val (.int va), .val (.int vb), .val (.int vc), .val (.int va), .val (.int vb), .val (.int vc), .val (.long p), .second, .val (.ref b1), .val (.ref b3), .val (.ref b6), .val (.ref b10), .val (.ref b15), .val (.ref b20), .val (.long r28), .second, .val (.long r31), .second, .val (.long r34), .second, .val (.long r37), .second, .val (.long r40), .second, .val (.long r43), .second, .val (.long ((va - (48 : Int32)).toInt64)), .second, .val (.long ((((va - (48 : Int32)) * (10 : Int32)) + (vb - (48 : Int32))).toInt64)), .second, .val (.long (((((va - (48 : Int32)) * (100 : Int32)) + ((vb - (48 : Int32)) * (10 : Int32))) + (vc - (48 : Int32))).toInt64)), .second, .val (.long r171), .second, .val (.long (-1 : Int64)), .second] [(.int (1 : Int32))]
          refine w_bret ok (by simp) at_391 (by decide) (by decide) ?_
          exact rfl
        · show W K l _ n0 _ h25 6 45 325 #[.val (.long xl), .second, .val (.int a), .val (.int b), .val (.int c), .val (.int va), .val (.int vb), .val (.int vc), .val (.int va), .val (.int vb), .val (.int vc), .val (.long p), .second, .val (.ref b1), .val (.ref b3), .val (.ref b6), .val (.ref b10), .val (.ref b15), .val (.ref b20), .val (.long r28), .second, .val (.long r31), .second, .val (.long r34), .second, .val (.long r37), .second, .val (.long r40), .second, .val (.long r43), .second, .val (.long ((va - (48 : Int32)).toInt64)), .second, .val (.long ((((va - (48 : Int32)) * (10 : Int32)) + (vb - (48 : Int32))).toInt64)), .second, .val (.long (((((va - (48 : Int32)) * (100 : Int32)) + ((vb - (48 : Int32)) * (10 : Int32))) + (vc - (48 : Int32))).toInt64)), .second, .val (.long r171), .second, .unset, .unset] []
          refine w_lload ok at_325 rfl ?_
          show W K l _ n0 _ h25 6 45 327 #[.val (.long xl), .second, .val (.int a), .val (.int b), .val (.int c), .val (.int va), .val (.int vb), .val (.int vc), .val (.int va), .val (.int vb), .val (.int vc), .val (.long p), .second, .val (.ref b1), .val (.ref b3), .val (.ref b6), .val (.ref b10), .val (.ref b15), .val (.ref b20), .val (.long r28), .second, .val (.long r31), .second, .val (.long r34), .second, .val (.long r37), .second, .val (.long r40), .second, .val (.long r43), .second, .val (.long ((va - (48 : Int32)).toInt64)), .second, .val (.long ((((va - (48 : Int32)) * (10 : Int32)) + (vb - (48 : Int32))).toInt64)), .second, .val (.long (((((va - (48 : Int32)) * (100 : Int32)) + ((vb - (48 : Int32)) * (10 : Int32))) + (vc - (48 : Int32))).toInt64)), .second, .val (.long r171), .second, .unset, .unset] [(.long r171)]
          refine w_lstore ok at_327 (L' := #[.val (.long xl), .second, .val (.int a), .val (.int b), .val (.int c), .val (.int va), .val (.int vb), .val (.int vc), .val (.int va), .val (.int vb), .val (.int vc), .val (.long p), .second, .val (.ref b1), .val (.ref b3), .val (.ref b6), .val (.ref b10), .val (.ref b15), .val (.ref b20), .val (.long r28), .second, .val (.long r31), .second, .val (.long r34), .second, .val (.long r37), .second, .val (.long r40), .second, .val (.long r43), .second, .val (.long ((va - (48 : Int32)).toInt64)), .second, .val (.long ((((va - (48 : Int32)) * (10 : Int32)) + (vb - (48 : Int32))).toInt64)), .second, .val (.long (((((va - (48 : Int32)) * (100 : Int32)) + ((vb - (48 : Int32)) * (10 : Int32))) + (vc - (48 : Int32))).toInt64)), .second, .val (.long r171), .second, .val (.long r171), .second]) rfl ?_
          show W K l _ n0 _ h25 6 45 329 #[.val (.long xl), .second, .val (.int a), .val (.int b), .val (.int c), .val (.int va), .val (.int vb), .val (.int vc), .val (.int va), .val (.int vb), .val (.int vc), .val (.long p), .second, .val (.ref b1), .val (.ref b3), .val (.ref b6), .val (.ref b10), .val (.ref b15), .val (.ref b20), .val (.long r28), .second, .val (.long r31), .second, .val (.long r34), .second, .val (.long r37), .second, .val (.long r40), .second, .val (.long r43), .second, .val (.long ((va - (48 : Int32)).toInt64)), .second, .val (.long ((((va - (48 : Int32)) * (10 : Int32)) + (vb - (48 : Int32))).toInt64)), .second, .val (.long (((((va - (48 : Int32)) * (100 : Int32)) + ((vb - (48 : Int32)) * (10 : Int32))) + (vc - (48 : Int32))).toInt64)), .second, .val (.long r171), .second, .val (.long r171), .second] []
          refine w_goto ok at_329 (pc' := 337) (by decide) ?_
          show W K l _ n0 _ h25 6 45 337 #[.val (.long xl), .second, .val (.int a), .val (.int b), .val (.int c), .val (.int va), .val (.int vb), .val (.int vc), .val (.int va), .val (.int vb), .val (.int vc), .val (.long p), .second, .val (.ref b1), .val (.ref b3), .val (.ref b6), .val (.ref b10), .val (.ref b15), .val (.ref b20), .val (.long r28), .second, .val (.long r31), .second, .val (.long r34), .second, .val (.long r37), .second, .val (.long r40), .second, .val (.long r43), .second, .val (.long ((va - (48 : Int32)).toInt64)), .second, .val (.long ((((va - (48 : Int32)) * (10 : Int32)) + (vb - (48 : Int32))).toInt64)), .second, .val (.long (((((va - (48 : Int32)) * (100 : Int32)) + ((vb - (48 : Int32)) * (10 : Int32))) + (vc - (48 : Int32))).toInt64)), .second, .val (.long r171), .second, .val (.long r171), .second] []
          refine w_lload ok at_337 rfl ?_
          show W K l _ n0 _ h25 6 45 339 #[.val (.long xl), .second, .val (.int a), .val (.int b), .val (.int c), .val (.int va), .val (.int vb), .val (.int vc), .val (.int va), .val (.int vb), .val (.int vc), .val (.long p), .second, .val (.ref b1), .val (.ref b3), .val (.ref b6), .val (.ref b10), .val (.ref b15), .val (.ref b20), .val (.long r28), .second, .val (.long r31), .second, .val (.long r34), .second, .val (.long r37), .second, .val (.long r40), .second, .val (.long r43), .second, .val (.long ((va - (48 : Int32)).toInt64)), .second, .val (.long ((((va - (48 : Int32)) * (10 : Int32)) + (vb - (48 : Int32))).toInt64)), .second, .val (.long (((((va - (48 : Int32)) * (100 : Int32)) + ((vb - (48 : Int32)) * (10 : Int32))) + (vc - (48 : Int32))).toInt64)), .second, .val (.long r171), .second, .val (.long r171), .second] [(.long r28)]
          refine w_ldc2J (v := (-1 : Int64)) ok at_339 (hw _ (List.mem_of_getElem? (i := 38) rfl)) ?_
          show W K l _ n0 _ h25 6 45 342 #[.val (.long xl), .second, .val (.int a), .val (.int b), .val (.int c), .val (.int va), .val (.int vb), .val (.int vc), .val (.int va), .val (.int vb), .val (.int vc), .val (.long p), .second, .val (.ref b1), .val (.ref b3), .val (.ref b6), .val (.ref b10), .val (.ref b15), .val (.ref b20), .val (.long r28), .second, .val (.long r31), .second, .val (.long r34), .second, .val (.long r37), .second, .val (.long r40), .second, .val (.long r43), .second, .val (.long ((va - (48 : Int32)).toInt64)), .second, .val (.long ((((va - (48 : Int32)) * (10 : Int32)) + (vb - (48 : Int32))).toInt64)), .second, .val (.long (((((va - (48 : Int32)) * (100 : Int32)) + ((vb - (48 : Int32)) * (10 : Int32))) + (vc - (48 : Int32))).toInt64)), .second, .val (.long r171), .second, .val (.long r171), .second] [(.long (-1 : Int64)), (.long r28)]
          refine w_lcmp_ne ok at_342 at_343 (pc' := 390) (by decide) (fun hc191 => False.elim (by exact hc191 (Int64.toInt_inj.mp (by rw [h_r28] <;> rfl)))) (fun hc191 => ?_)
          show W K l _ n0 _ h25 6 45 346 #[.val (.long xl), .second, .val (.int a), .val (.int b), .val (.int c), .val (.int va), .val (.int vb), .val (.int vc), .val (.int va), .val (.int vb), .val (.int vc), .val (.long p), .second, .val (.ref b1), .val (.ref b3), .val (.ref b6), .val (.ref b10), .val (.ref b15), .val (.ref b20), .val (.long r28), .second, .val (.long r31), .second, .val (.long r34), .second, .val (.long r37), .second, .val (.long r40), .second, .val (.long r43), .second, .val (.long ((va - (48 : Int32)).toInt64)), .second, .val (.long ((((va - (48 : Int32)) * (10 : Int32)) + (vb - (48 : Int32))).toInt64)), .second, .val (.long (((((va - (48 : Int32)) * (100 : Int32)) + ((vb - (48 : Int32)) * (10 : Int32))) + (vc - (48 : Int32))).toInt64)), .second, .val (.long r171), .second, .val (.long r171), .second] []
          refine w_lload ok at_346 rfl ?_
          show W K l _ n0 _ h25 6 45 348 #[.val (.long xl), .second, .val (.int a), .val (.int b), .val (.int c), .val (.int va), .val (.int vb), .val (.int vc), .val (.int va), .val (.int vb), .val (.int vc), .val (.long p), .second, .val (.ref b1), .val (.ref b3), .val (.ref b6), .val (.ref b10), .val (.ref b15), .val (.ref b20), .val (.long r28), .second, .val (.long r31), .second, .val (.long r34), .second, .val (.long r37), .second, .val (.long r40), .second, .val (.long r43), .second, .val (.long ((va - (48 : Int32)).toInt64)), .second, .val (.long ((((va - (48 : Int32)) * (10 : Int32)) + (vb - (48 : Int32))).toInt64)), .second, .val (.long (((((va - (48 : Int32)) * (100 : Int32)) + ((vb - (48 : Int32)) * (10 : Int32))) + (vc - (48 : Int32))).toInt64)), .second, .val (.long r171), .second, .val (.long r171), .second] [(.long r31)]
          refine w_lload ok at_348 rfl ?_
          show W K l _ n0 _ h25 6 45 350 #[.val (.long xl), .second, .val (.int a), .val (.int b), .val (.int c), .val (.int va), .val (.int vb), .val (.int vc), .val (.int va), .val (.int vb), .val (.int vc), .val (.long p), .second, .val (.ref b1), .val (.ref b3), .val (.ref b6), .val (.ref b10), .val (.ref b15), .val (.ref b20), .val (.long r28), .second, .val (.long r31), .second, .val (.long r34), .second, .val (.long r37), .second, .val (.long r40), .second, .val (.long r43), .second, .val (.long ((va - (48 : Int32)).toInt64)), .second, .val (.long ((((va - (48 : Int32)) * (10 : Int32)) + (vb - (48 : Int32))).toInt64)), .second, .val (.long (((((va - (48 : Int32)) * (100 : Int32)) + ((vb - (48 : Int32)) * (10 : Int32))) + (vc - (48 : Int32))).toInt64)), .second, .val (.long r171), .second, .val (.long r171), .second] [(.long ((va - (48 : Int32)).toInt64)), (.long r31)]
          refine w_lcmp_ne ok at_350 at_351 (pc' := 390) (by decide) (fun hc193 => False.elim (by exact hc193 (Int64.toInt_inj.mp (by rw [h_r31, own_r1t (own_dig_t hc47), own_c1 va rva])))) (fun hc193 => ?_)
          show W K l _ n0 _ h25 6 45 354 #[.val (.long xl), .second, .val (.int a), .val (.int b), .val (.int c), .val (.int va), .val (.int vb), .val (.int vc), .val (.int va), .val (.int vb), .val (.int vc), .val (.long p), .second, .val (.ref b1), .val (.ref b3), .val (.ref b6), .val (.ref b10), .val (.ref b15), .val (.ref b20), .val (.long r28), .second, .val (.long r31), .second, .val (.long r34), .second, .val (.long r37), .second, .val (.long r40), .second, .val (.long r43), .second, .val (.long ((va - (48 : Int32)).toInt64)), .second, .val (.long ((((va - (48 : Int32)) * (10 : Int32)) + (vb - (48 : Int32))).toInt64)), .second, .val (.long (((((va - (48 : Int32)) * (100 : Int32)) + ((vb - (48 : Int32)) * (10 : Int32))) + (vc - (48 : Int32))).toInt64)), .second, .val (.long r171), .second, .val (.long r171), .second] []
          refine w_lload ok at_354 rfl ?_
          show W K l _ n0 _ h25 6 45 356 #[.val (.long xl), .second, .val (.int a), .val (.int b), .val (.int c), .val (.int va), .val (.int vb), .val (.int vc), .val (.int va), .val (.int vb), .val (.int vc), .val (.long p), .second, .val (.ref b1), .val (.ref b3), .val (.ref b6), .val (.ref b10), .val (.ref b15), .val (.ref b20), .val (.long r28), .second, .val (.long r31), .second, .val (.long r34), .second, .val (.long r37), .second, .val (.long r40), .second, .val (.long r43), .second, .val (.long ((va - (48 : Int32)).toInt64)), .second, .val (.long ((((va - (48 : Int32)) * (10 : Int32)) + (vb - (48 : Int32))).toInt64)), .second, .val (.long (((((va - (48 : Int32)) * (100 : Int32)) + ((vb - (48 : Int32)) * (10 : Int32))) + (vc - (48 : Int32))).toInt64)), .second, .val (.long r171), .second, .val (.long r171), .second] [(.long r34)]
          refine w_lload ok at_356 rfl ?_
          show W K l _ n0 _ h25 6 45 358 #[.val (.long xl), .second, .val (.int a), .val (.int b), .val (.int c), .val (.int va), .val (.int vb), .val (.int vc), .val (.int va), .val (.int vb), .val (.int vc), .val (.long p), .second, .val (.ref b1), .val (.ref b3), .val (.ref b6), .val (.ref b10), .val (.ref b15), .val (.ref b20), .val (.long r28), .second, .val (.long r31), .second, .val (.long r34), .second, .val (.long r37), .second, .val (.long r40), .second, .val (.long r43), .second, .val (.long ((va - (48 : Int32)).toInt64)), .second, .val (.long ((((va - (48 : Int32)) * (10 : Int32)) + (vb - (48 : Int32))).toInt64)), .second, .val (.long (((((va - (48 : Int32)) * (100 : Int32)) + ((vb - (48 : Int32)) * (10 : Int32))) + (vc - (48 : Int32))).toInt64)), .second, .val (.long r171), .second, .val (.long r171), .second] [(.long ((((va - (48 : Int32)) * (10 : Int32)) + (vb - (48 : Int32))).toInt64)), (.long r34)]
          refine w_lcmp_ne ok at_358 at_359 (pc' := 390) (by decide) (fun hc195 => False.elim (by exact hc195 (Int64.toInt_inj.mp (by rw [h_r34, own_r2t (own_dig_t hc47) (own_dig_t hc82), own_c2 va vb rva rvb])))) (fun hc195 => ?_)
          show W K l _ n0 _ h25 6 45 362 #[.val (.long xl), .second, .val (.int a), .val (.int b), .val (.int c), .val (.int va), .val (.int vb), .val (.int vc), .val (.int va), .val (.int vb), .val (.int vc), .val (.long p), .second, .val (.ref b1), .val (.ref b3), .val (.ref b6), .val (.ref b10), .val (.ref b15), .val (.ref b20), .val (.long r28), .second, .val (.long r31), .second, .val (.long r34), .second, .val (.long r37), .second, .val (.long r40), .second, .val (.long r43), .second, .val (.long ((va - (48 : Int32)).toInt64)), .second, .val (.long ((((va - (48 : Int32)) * (10 : Int32)) + (vb - (48 : Int32))).toInt64)), .second, .val (.long (((((va - (48 : Int32)) * (100 : Int32)) + ((vb - (48 : Int32)) * (10 : Int32))) + (vc - (48 : Int32))).toInt64)), .second, .val (.long r171), .second, .val (.long r171), .second] []
          refine w_lload ok at_362 rfl ?_
          show W K l _ n0 _ h25 6 45 364 #[.val (.long xl), .second, .val (.int a), .val (.int b), .val (.int c), .val (.int va), .val (.int vb), .val (.int vc), .val (.int va), .val (.int vb), .val (.int vc), .val (.long p), .second, .val (.ref b1), .val (.ref b3), .val (.ref b6), .val (.ref b10), .val (.ref b15), .val (.ref b20), .val (.long r28), .second, .val (.long r31), .second, .val (.long r34), .second, .val (.long r37), .second, .val (.long r40), .second, .val (.long r43), .second, .val (.long ((va - (48 : Int32)).toInt64)), .second, .val (.long ((((va - (48 : Int32)) * (10 : Int32)) + (vb - (48 : Int32))).toInt64)), .second, .val (.long (((((va - (48 : Int32)) * (100 : Int32)) + ((vb - (48 : Int32)) * (10 : Int32))) + (vc - (48 : Int32))).toInt64)), .second, .val (.long r171), .second, .val (.long r171), .second] [(.long r37)]
          refine w_lload ok at_364 rfl ?_
          show W K l _ n0 _ h25 6 45 366 #[.val (.long xl), .second, .val (.int a), .val (.int b), .val (.int c), .val (.int va), .val (.int vb), .val (.int vc), .val (.int va), .val (.int vb), .val (.int vc), .val (.long p), .second, .val (.ref b1), .val (.ref b3), .val (.ref b6), .val (.ref b10), .val (.ref b15), .val (.ref b20), .val (.long r28), .second, .val (.long r31), .second, .val (.long r34), .second, .val (.long r37), .second, .val (.long r40), .second, .val (.long r43), .second, .val (.long ((va - (48 : Int32)).toInt64)), .second, .val (.long ((((va - (48 : Int32)) * (10 : Int32)) + (vb - (48 : Int32))).toInt64)), .second, .val (.long (((((va - (48 : Int32)) * (100 : Int32)) + ((vb - (48 : Int32)) * (10 : Int32))) + (vc - (48 : Int32))).toInt64)), .second, .val (.long r171), .second, .val (.long r171), .second] [(.long (((((va - (48 : Int32)) * (100 : Int32)) + ((vb - (48 : Int32)) * (10 : Int32))) + (vc - (48 : Int32))).toInt64)), (.long r37)]
          refine w_lcmp_ne ok at_366 at_367 (pc' := 390) (by decide) (fun hc197 => False.elim (by exact hc197 (Int64.toInt_inj.mp (by rw [h_r37, own_r3t (own_dig_t hc47) (own_dig_t hc82) (own_dig_t hc135), own_c3 va vb vc rva rvb rvc])))) (fun hc197 => ?_)
          show W K l _ n0 _ h25 6 45 370 #[.val (.long xl), .second, .val (.int a), .val (.int b), .val (.int c), .val (.int va), .val (.int vb), .val (.int vc), .val (.int va), .val (.int vb), .val (.int vc), .val (.long p), .second, .val (.ref b1), .val (.ref b3), .val (.ref b6), .val (.ref b10), .val (.ref b15), .val (.ref b20), .val (.long r28), .second, .val (.long r31), .second, .val (.long r34), .second, .val (.long r37), .second, .val (.long r40), .second, .val (.long r43), .second, .val (.long ((va - (48 : Int32)).toInt64)), .second, .val (.long ((((va - (48 : Int32)) * (10 : Int32)) + (vb - (48 : Int32))).toInt64)), .second, .val (.long (((((va - (48 : Int32)) * (100 : Int32)) + ((vb - (48 : Int32)) * (10 : Int32))) + (vc - (48 : Int32))).toInt64)), .second, .val (.long r171), .second, .val (.long r171), .second] []
          refine w_lload ok at_370 rfl ?_
          show W K l _ n0 _ h25 6 45 372 #[.val (.long xl), .second, .val (.int a), .val (.int b), .val (.int c), .val (.int va), .val (.int vb), .val (.int vc), .val (.int va), .val (.int vb), .val (.int vc), .val (.long p), .second, .val (.ref b1), .val (.ref b3), .val (.ref b6), .val (.ref b10), .val (.ref b15), .val (.ref b20), .val (.long r28), .second, .val (.long r31), .second, .val (.long r34), .second, .val (.long r37), .second, .val (.long r40), .second, .val (.long r43), .second, .val (.long ((va - (48 : Int32)).toInt64)), .second, .val (.long ((((va - (48 : Int32)) * (10 : Int32)) + (vb - (48 : Int32))).toInt64)), .second, .val (.long (((((va - (48 : Int32)) * (100 : Int32)) + ((vb - (48 : Int32)) * (10 : Int32))) + (vc - (48 : Int32))).toInt64)), .second, .val (.long r171), .second, .val (.long r171), .second] [(.long r40)]
          refine w_lload ok at_372 rfl ?_
          show W K l _ n0 _ h25 6 45 374 #[.val (.long xl), .second, .val (.int a), .val (.int b), .val (.int c), .val (.int va), .val (.int vb), .val (.int vc), .val (.int va), .val (.int vb), .val (.int vc), .val (.long p), .second, .val (.ref b1), .val (.ref b3), .val (.ref b6), .val (.ref b10), .val (.ref b15), .val (.ref b20), .val (.long r28), .second, .val (.long r31), .second, .val (.long r34), .second, .val (.long r37), .second, .val (.long r40), .second, .val (.long r43), .second, .val (.long ((va - (48 : Int32)).toInt64)), .second, .val (.long ((((va - (48 : Int32)) * (10 : Int32)) + (vb - (48 : Int32))).toInt64)), .second, .val (.long (((((va - (48 : Int32)) * (100 : Int32)) + ((vb - (48 : Int32)) * (10 : Int32))) + (vc - (48 : Int32))).toInt64)), .second, .val (.long r171), .second, .val (.long r171), .second] [(.long r171), (.long r40)]
          refine w_lcmp_ne ok at_374 at_375 (pc' := 390) (by decide) (fun hc199 => False.elim (by exact hc199 (Int64.toInt_inj.mp (by rw [h_r40, h_r171, own_l19, own_r19 p.toInt hp0 hp2 vc])))) (fun hc199 => ?_)
          show W K l _ n0 _ h25 6 45 378 #[.val (.long xl), .second, .val (.int a), .val (.int b), .val (.int c), .val (.int va), .val (.int vb), .val (.int vc), .val (.int va), .val (.int vb), .val (.int vc), .val (.long p), .second, .val (.ref b1), .val (.ref b3), .val (.ref b6), .val (.ref b10), .val (.ref b15), .val (.ref b20), .val (.long r28), .second, .val (.long r31), .second, .val (.long r34), .second, .val (.long r37), .second, .val (.long r40), .second, .val (.long r43), .second, .val (.long ((va - (48 : Int32)).toInt64)), .second, .val (.long ((((va - (48 : Int32)) * (10 : Int32)) + (vb - (48 : Int32))).toInt64)), .second, .val (.long (((((va - (48 : Int32)) * (100 : Int32)) + ((vb - (48 : Int32)) * (10 : Int32))) + (vc - (48 : Int32))).toInt64)), .second, .val (.long r171), .second, .val (.long r171), .second] []
          refine w_lload ok at_378 rfl ?_
          show W K l _ n0 _ h25 6 45 380 #[.val (.long xl), .second, .val (.int a), .val (.int b), .val (.int c), .val (.int va), .val (.int vb), .val (.int vc), .val (.int va), .val (.int vb), .val (.int vc), .val (.long p), .second, .val (.ref b1), .val (.ref b3), .val (.ref b6), .val (.ref b10), .val (.ref b15), .val (.ref b20), .val (.long r28), .second, .val (.long r31), .second, .val (.long r34), .second, .val (.long r37), .second, .val (.long r40), .second, .val (.long r43), .second, .val (.long ((va - (48 : Int32)).toInt64)), .second, .val (.long ((((va - (48 : Int32)) * (10 : Int32)) + (vb - (48 : Int32))).toInt64)), .second, .val (.long (((((va - (48 : Int32)) * (100 : Int32)) + ((vb - (48 : Int32)) * (10 : Int32))) + (vc - (48 : Int32))).toInt64)), .second, .val (.long r171), .second, .val (.long r171), .second] [(.long r43)]
          refine w_lload ok at_380 rfl ?_
          show W K l _ n0 _ h25 6 45 382 #[.val (.long xl), .second, .val (.int a), .val (.int b), .val (.int c), .val (.int va), .val (.int vb), .val (.int vc), .val (.int va), .val (.int vb), .val (.int vc), .val (.long p), .second, .val (.ref b1), .val (.ref b3), .val (.ref b6), .val (.ref b10), .val (.ref b15), .val (.ref b20), .val (.long r28), .second, .val (.long r31), .second, .val (.long r34), .second, .val (.long r37), .second, .val (.long r40), .second, .val (.long r43), .second, .val (.long ((va - (48 : Int32)).toInt64)), .second, .val (.long ((((va - (48 : Int32)) * (10 : Int32)) + (vb - (48 : Int32))).toInt64)), .second, .val (.long (((((va - (48 : Int32)) * (100 : Int32)) + ((vb - (48 : Int32)) * (10 : Int32))) + (vc - (48 : Int32))).toInt64)), .second, .val (.long r171), .second, .val (.long r171), .second] [(.long r171), (.long r43)]
          refine w_lcmp_ne ok at_382 at_383 (pc' := 390) (by decide) (fun hc201 => False.elim (by exact hc201 (Int64.toInt_inj.mp (by rw [h_r43, h_r171, own_l19, own_r20 p.toInt hp0 hp2 va vc, if_pos (own_48' hc177)])))) (fun hc201 => ?_)
          show W K l _ n0 _ h25 6 45 386 #[.val (.long xl), .second, .val (.int a), .val (.int b), .val (.int c), .val (.int va), .val (.int vb), .val (.int vc), .val (.int va), .val (.int vb), .val (.int vc), .val (.long p), .second, .val (.ref b1), .val (.ref b3), .val (.ref b6), .val (.ref b10), .val (.ref b15), .val (.ref b20), .val (.long r28), .second, .val (.long r31), .second, .val (.long r34), .second, .val (.long r37), .second, .val (.long r40), .second, .val (.long r43), .second, .val (.long ((va - (48 : Int32)).toInt64)), .second, .val (.long ((((va - (48 : Int32)) * (10 : Int32)) + (vb - (48 : Int32))).toInt64)), .second, .val (.long (((((va - (48 : Int32)) * (100 : Int32)) + ((vb - (48 : Int32)) * (10 : Int32))) + (vc - (48 : Int32))).toInt64)), .second, .val (.long r171), .second, .val (.long r171), .second] []
          refine w_iconst ok at_386 (v := (1 : Int32)) rfl ?_
          show W K l _ n0 _ h25 6 45 387 #[.val (.long xl), .second, .val (.int a), .val (.int b), .val (.int c), .val (.int va), .val (.int vb), .val (.int vc), .val (.int va), .val (.int vb), .val (.int vc), .val (.long p), .second, .val (.ref b1), .val (.ref b3), .val (.ref b6), .val (.ref b10), .val (.ref b15), .val (.ref b20), .val (.long r28), .second, .val (.long r31), .second, .val (.long r34), .second, .val (.long r37), .second, .val (.long r40), .second, .val (.long r43), .second, .val (.long ((va - (48 : Int32)).toInt64)), .second, .val (.long ((((va - (48 : Int32)) * (10 : Int32)) + (vb - (48 : Int32))).toInt64)), .second, .val (.long (((((va - (48 : Int32)) * (100 : Int32)) + ((vb - (48 : Int32)) * (10 : Int32))) + (vc - (48 : Int32))).toInt64)), .second, .val (.long r171), .second, .val (.long r171), .second] [(.int (1 : Int32))]
          refine w_goto ok at_387 (pc' := 391) (by decide) ?_
          show W K l _ n0 _ h25 6 45 391 #[.val (.long xl), .second, .val (.int a), .val (.int b), .val (.int c), .val (.int va), .val (.int vb), .val (.int vc), .val (.int va), .val (.int vb), .val (.int vc), .val (.long p), .second, .val (.ref b1), .val (.ref b3), .val (.ref b6), .val (.ref b10), .val (.ref b15), .val (.ref b20), .val (.long r28), .second, .val (.long r31), .second, .val (.long r34), .second, .val (.long r37), .second, .val (.long r40), .second, .val (.long r43), .second, .val (.long ((va - (48 : Int32)).toInt64)), .second, .val (.long ((((va - (48 : Int32)) * (10 : Int32)) + (vb - (48 : Int32))).toInt64)), .second, .val (.long (((((va - (48 : Int32)) * (100 : Int32)) + ((vb - (48 : Int32)) * (10 : Int32))) + (vc - (48 : Int32))).toInt64)), .second, .val (.long r171), .second, .val (.long r171), .second] [(.int (1 : Int32))]
          refine w_bret ok (by simp) at_391 (by decide) (by decide) ?_
          exact rfl
set_option maxRecDepth 65536 in
set_option maxHeartbeats 40000000 in
theorem comes_1 {Post : Tables → Env → Array Value → State → Outcome → State → Prop} (hpost : ∀ tb e args s v u, (limb_1_1.after args s (.returned v) u = true ∧ limb_1_2.after args s (.returned v) u = true) → FrameEnd s (.returned v) u (Jvm.fieldLocs frame_1_writes args s ++ Jvm.arrayLocs frame_1_arrays args s ++ Jvm.staticLocs frame_1_statics s) 24 192 → Post tb e args s (.returned v) u) :
    ArmFor flags0 classFile x code maxLocals ret World_1 tables_1 room_1 Calls_1 rest_1 Pre_1 Post := by
  intro l hfl _ _ p e ha hc hk s m args below hf hA hF happ hP
  obtain ⟨hcalls, hrest, hpre⟩ := hP
  obtain ⟨-, -, -, hnamed, -, -, -, hat⟩ := (Spec.applies_iff hf).mp happ
  obtain ⟨hg, hn⟩ := and_e (Cond.before_iff.mp (show (Jvm.Cond.and given_1 narrow_1).before args s = true from hpre))
  obtain ⟨g0, r0⟩ := and_e hg
  obtain ⟨g1, r1⟩ := and_e r0
  obtain ⟨g2, r2⟩ := and_e r1
  obtain ⟨g3, r3⟩ := and_e r2
  obtain ⟨w0, w1, w2, w3, rfl⟩ : ∃ w0 w1 w2 w3 : Value, args = #[w0, w1, w2, w3] := by
    have hs : args.size = 4 := by simpa [Cond.value, given_1] using g0
    obtain ⟨L⟩ := args
    match L, hs with
    | [w0, w1, w2, w3], _ => exact ⟨w0, w1, w2, w3, rfl⟩
  have hw := fun d (hd : d ∈ tables_1) => atoms_spec (ws := Jvm.Cond.code x code maxLocals ret :: tables_1) hat d (List.mem_cons_of_mem _ hd)
  have hfit : Fit s := fun {y c} hc i hi => by
    obtain ⟨ha, rfl⟩ := Array.getElem?_eq_some_iff.mp hc
    have q := List.all_eq_true.mp ((Array.all_eq_true_iff_forall_mem.mp hF) _ (Array.getElem_mem ha)) i (List.mem_range.mpr hi)
    simpa [Array.getElem?_eq_getElem hi] using q
  obtain ⟨i0, ei0⟩ := isL_v g1
  obtain rfl : w0 = (.long i0) := Option.some.inj ei0
  obtain ⟨i1, ei1⟩ := is_v g2
  obtain rfl : w1 = (.int i1) := Option.some.inj ei1
  obtain ⟨i2, ei2⟩ := is_v g3
  obtain rfl : w2 = (.int i2) := Option.some.inj ei2
  obtain ⟨i3, ei3⟩ := is_v r3
  obtain rfl : w3 = (.int i3) := Option.some.inj ei3
  obtain ⟨n, o, h1, h2, h3, _, L, rfl, ⟨rfl, N⟩, hq⟩ := rm0 l s _ hw tables_1 s.heap.size s.heap (Old.start s) i0 i1 i2 i3  p e ha hc hk s m _ below hf ((Spec.applies_iff_loose hf).mp happ).1 ⟨rfl, State.Warmed39.refl s, rfl⟩ trivial
  exact ⟨n, _, h1, h2, h3, hpost _ _ _ _ _ _ ⟨Cond.after_iff.mpr rfl, Cond.after_iff.mpr (eq_i res_at (Term.int_eval (1)) rfl)⟩ (frame_fin hq N (by decide) (by decide))⟩
theorem main_1_1 : Claimed_1_1 := comes_1 fun _ _ _ _ _ _ h hF => ⟨h.1, hF⟩
theorem main_1_2 : Claimed_1_2 := comes_1 fun _ _ _ _ _ _ h hF => ⟨h.2, hF⟩
end Jvm.Pilot.@@N@@
namespace Jvm.Pilot.@@N@@
open Jvm Jvm.ClassFile Sem Op Lib Jvm.Free Jvm.Stand Jvm.Pilot.@@N@@.Jvm.D
/-! MADE BY PROGRAM (witnessworld.py) out of the Statement's table words and the real class files: 9 classes; the members and pool entries that the words name. The judged class is class 1, her method 1. -/
namespace start1
open Jvm.ClassFile
def u (s : String) : CpInfo := .utf8 (stringToUtf16 s)
/-- a pool by its gaps: so many unusable entries, then the entry; so many at the end -/
def gap : Nat → List CpInfo → List CpInfo
  | 0, r => r
  | n + 1, r => .unusable :: gap n r
def poolList (es : List (Nat × CpInfo)) (last : Nat) : List CpInfo := es.foldr (fun e r => gap e.1 (e.2 :: r)) (gap last [])
def pool (es : List (Nat × CpInfo)) (last : Nat) : Array CpInfo := ⟨poolList es last⟩
def fileOf (pool : Array CpInfo) (this : Nat) (attrs : Array Attribute := #[]) (ms : Array MethodInfo := #[]) (fl : Nat := 33) (sup : Nat := 0) (ifs : Array Nat := #[]) (fds : Array FieldInfo := #[]) : ClassFile where
  minorVersion := 0
  majorVersion := 65
  constantPool := pool
  accessFlags := fl
  thisClass := this
  superClass := sup
  interfaces := ifs
  fields := fds
  methods := ms
  attributes := attrs
def plain (name : String) (sup : Option ClassId) : Class where
  name := name
  kind := .ordinary
  loader := none
  accessFlags := 33
  super := sup
  interfaces := #[]
  cf := none
  fields := #[]
  methods := #[]
  instanceTypes := #[]
  staticTypes := #[]
  resolved := #[]
  callSites := []
  init := .initialized
  statics := none
  mirror := none

def pool0 : Array CpInfo := pool [(5, u "<init>"), (0, u "()V"), (1, .class_ 10), (1, u "java/lang/Object")] 113

def k0m0 : Method := { name := "<init>", desc := "()V", sig := { parameters := [], returnType := none }, accessFlags := 1, code := none }
/-- java/lang/Object -/
def k0 : Class := { plain "java/lang/Object" none with
  accessFlags := 33
  interfaces := #[]
  cf := some (fileOf pool0 8 #[] #[{ accessFlags := 1, nameIndex := 5, descriptorIndex := 6, attributes := #[] }] 33 0 #[] #[])
  fields := #[]
  methods := #[k0m0]
  instanceTypes := #[]
  staticTypes := #[]
  resolved := Array.replicate 124 none
  statics := none }

def pool1 : Array CpInfo := pool [(2, .class_ 4), (1, u "java/lang/Object"), (0, u "<init>"), (0, u "()V"), (2, .long 9223372036854775807), (1, .long 1000000000000000000), (1, .methodref 14 15), (0, .class_ 16), (0, .nameAndType 17 18), (0, u "com/example/turnstile/turnstile/server/CommandsParseCountPinLaw"), (0, u "put18"), (0, u "([BIJ)V"), (0, .methodref 20 21), (0, .class_ 22), (0, .nameAndType 23 24), (0, u "com/example/turnstile/turnstile/server/Commands"), (0, u "parseCount"), (0, u "([B)J"), (0, .methodref 14 26), (0, .nameAndType 27 28), (0, u "dig"), (0, u "(I)Z"), (0, .long 18446744073709551615), (1, .methodref 14 32), (0, .nameAndType 33 34), (0, u "exp19"), (0, u "(JI)J"), (0, .long 922337203685477580), (1, .long 7), (1, .long 10), (1, .long 48), (1, .long 100000000000000000), (1, .methodref 14 46), (0, .nameAndType 47 48), (0, u "d"), (0, u "(JJ)B"), (0, .long 10000000000000000), (1, .long 1000000000000000), (1, .long 100000000000000), (1, .long 10000000000000), (1, .long 1000000000000), (1, .long 100000000000), (1, .long 10000000000), (1, .long 1000000000), (1, .long 100000000), (1, .long 10000000), (1, .long 1000000), (1, .long 100000), (1, .long 10000), (1, .long 1000), (1, .long 100), (3, u "law"), (0, u "(JIII)Z")] 5

def k1m0 : Method := { name := "<init>", desc := "()V", sig := { parameters := [], returnType := none }, accessFlags := 2, code := none }
def k1c1 : Code := { maxStack := 4, maxLocals := 41, code := code, exceptionTable := #[], attributes := #[] }
def k1m1 : Method := { name := "law", desc := "(JIII)Z", sig := { parameters := [.long, .int, .int, .int], returnType := some .boolean }, accessFlags := 9, code := some k1c1 }
def k1c2 : Code := { maxStack := 2, maxLocals := 1, code := method_3_code, exceptionTable := #[], attributes := #[] }
def k1m2 : Method := { name := "dig", desc := "(I)Z", sig := { parameters := [.int], returnType := some .boolean }, accessFlags := 10, code := some k1c2 }
def k1c3 : Code := { maxStack := 4, maxLocals := 7, code := method_4_code, exceptionTable := #[], attributes := #[] }
def k1m3 : Method := { name := "exp19", desc := "(JI)J", sig := { parameters := [.long, .int], returnType := some .long }, accessFlags := 10, code := some k1c3 }
def k1c4 : Code := { maxStack := 6, maxLocals := 4, code := method_5_code, exceptionTable := #[], attributes := #[] }
def k1m4 : Method := { name := "d", desc := "(JJ)B", sig := { parameters := [.long, .long], returnType := some .byte }, accessFlags := 10, code := some k1c4 }
def k1c5 : Code := { maxStack := 6, maxLocals := 4, code := method_6_code, exceptionTable := #[], attributes := #[] }
def k1m5 : Method := { name := "put18", desc := "([BIJ)V", sig := { parameters := [(.array .byte), .int, .long], returnType := none }, accessFlags := 10, code := some k1c5 }
/-- com/example/turnstile/turnstile/server/CommandsParseCountPinLaw -/
def k1 : Class := { plain "com/example/turnstile/turnstile/server/CommandsParseCountPinLaw" (some 0) with
  accessFlags := 49
  interfaces := #[]
  cf := some (fileOf pool1 14 #[] #[{ accessFlags := 2, nameIndex := 5, descriptorIndex := 6, attributes := #[] }, { accessFlags := 9, nameIndex := 81, descriptorIndex := 82, attributes := #[] }, { accessFlags := 10, nameIndex := 27, descriptorIndex := 28, attributes := #[] }, { accessFlags := 10, nameIndex := 33, descriptorIndex := 34, attributes := #[] }, { accessFlags := 10, nameIndex := 47, descriptorIndex := 48, attributes := #[] }, { accessFlags := 10, nameIndex := 17, descriptorIndex := 18, attributes := #[] }] 49 2 #[] #[])
  fields := #[]
  methods := #[k1m0, k1m1, k1m2, k1m3, k1m4, k1m5]
  instanceTypes := #[]
  staticTypes := #[]
  resolved := Array.replicate 88 none
  statics := none }

def pool2 : Array CpInfo := pool [(2, .class_ 4), (1, u "com/example/turnstile/turnstile/server/Commands"), (3, .class_ 10), (1, u "java/lang/Object"), (21, u "version"), (0, u "[B"), (0, .class_ 35), (0, u "com/example/turnstile/turnstile/server/Commands$Named"), (27, u "HELLO"), (3, u "AUTH"), (29, u "byName"), (0, u "[Lcom/example/turnstile/turnstile/server/Commands$Named;"), (2, u "timers"), (0, u "Lcom/example/turnstile/turnstile/server/Timers;"), (2, u "stats"), (0, u "Lcom/example/turnstile/turnstile/server/Stats;"), (5, u "password"), (2, u "group"), (0, u "Lcom/example/turnstile/turnstile/server/Group;"), (7, u "locks"), (0, u "Lcom/example/turnstile/turnstile/server/LockTable;"), (7, u "sessions"), (0, u "Lcom/example/turnstile/turnstile/server/Sessions;"), (15, u "CONNECTION_HOLDS_KEPT_NANOS"), (0, u "J"), (79, .class_ 233), (1, u "com/example/turnstile/turnstile/server/Commands$Command"), (55, u "SETNAME"), (13, u "parseCount"), (0, u "([B)J"), (33, u "USER"), (21, u "CLIENT_SUBCOMMANDS"), (17, u "LIB_NAME"), (2, u "LIB_VER"), (60, u "Ljava/lang/String;"), (31, .class_ 476), (1, u "com/example/turnstile/turnstile/server/Commands$LockOptions"), (6, .long 18446744073709551615), (71, u "NO_METADATA"), (2, u "SHARED"), (2, u "LIMIT"), (7, u "WAIT"), (4, u "META"), (35, .class_ 612), (1, u "com/example/turnstile/turnstile/server/Commands$1"), (158, .long 9223372036854775807), (1, .long 10), (54, u "MAX_ECHO"), (0, u "I"), (2, u "MAX_CLIENT_NAME"), (1, u "LOCK_BROKEN"), (0, u "NOT_VISIBLE_ASCII")] 180

def k2c0 : Code := { maxStack := 6, maxLocals := 7, code := prog_71_method_43_code, exceptionTable := #[], attributes := #[] }
def k2m0 : Method := { name := "parseCount", desc := "([B)J", sig := { parameters := [(.array .byte)], returnType := some .long }, accessFlags := 8, code := some k2c0 }
/-- com/example/turnstile/turnstile/server/Commands -/
def k2 : Class := { plain "com/example/turnstile/turnstile/server/Commands" (some 0) with
  accessFlags := 48
  interfaces := #[]
  cf := some (fileOf pool2 2 #[.nestMembers #[610, 474, 34, 231]] #[{ accessFlags := 8, nameIndex := 303, descriptorIndex := 304, attributes := #[] }] 48 8 #[] #[{ accessFlags := 26, nameIndex := 828, descriptorIndex := 829, attributes := #[] }, { accessFlags := 26, nameIndex := 555, descriptorIndex := 33, attributes := #[] }, { accessFlags := 26, nameIndex := 832, descriptorIndex := 829, attributes := #[] }, { accessFlags := 26, nameIndex := 834, descriptorIndex := 442, attributes := #[] }, { accessFlags := 26, nameIndex := 835, descriptorIndex := 442, attributes := #[] }, { accessFlags := 26, nameIndex := 150, descriptorIndex := 151, attributes := #[] }, { accessFlags := 18, nameIndex := 32, descriptorIndex := 33, attributes := #[] }, { accessFlags := 26, nameIndex := 558, descriptorIndex := 33, attributes := #[] }, { accessFlags := 26, nameIndex := 561, descriptorIndex := 33, attributes := #[] }, { accessFlags := 26, nameIndex := 569, descriptorIndex := 33, attributes := #[] }, { accessFlags := 26, nameIndex := 574, descriptorIndex := 33, attributes := #[] }, { accessFlags := 26, nameIndex := 289, descriptorIndex := 33, attributes := #[] }, { accessFlags := 26, nameIndex := 67, descriptorIndex := 33, attributes := #[] }, { accessFlags := 26, nameIndex := 63, descriptorIndex := 33, attributes := #[] }, { accessFlags := 26, nameIndex := 338, descriptorIndex := 33, attributes := #[] }, { accessFlags := 26, nameIndex := 378, descriptorIndex := 33, attributes := #[] }, { accessFlags := 26, nameIndex := 381, descriptorIndex := 33, attributes := #[] }, { accessFlags := 26, nameIndex := 360, descriptorIndex := 98, attributes := #[] }, { accessFlags := 18, nameIndex := 105, descriptorIndex := 106, attributes := #[] }, { accessFlags := 18, nameIndex := 101, descriptorIndex := 102, attributes := #[] }, { accessFlags := 18, nameIndex := 124, descriptorIndex := 125, attributes := #[] }, { accessFlags := 18, nameIndex := 133, descriptorIndex := 134, attributes := #[] }, { accessFlags := 18, nameIndex := 112, descriptorIndex := 33, attributes := #[] }, { accessFlags := 18, nameIndex := 115, descriptorIndex := 116, attributes := #[] }, { accessFlags := 18, nameIndex := 97, descriptorIndex := 98, attributes := #[] }])
  fields := #[{ name := "MAX_ECHO", type := .int, accessFlags := 26, slot := 0, constantValue := 0 }, { name := "NO_METADATA", type := (.array .byte), accessFlags := 26, slot := 1, constantValue := 0 }, { name := "MAX_CLIENT_NAME", type := .int, accessFlags := 26, slot := 2, constantValue := 0 }, { name := "LOCK_BROKEN", type := (.object "java/lang/String"), accessFlags := 26, slot := 3, constantValue := 0 }, { name := "NOT_VISIBLE_ASCII", type := (.object "java/lang/String"), accessFlags := 26, slot := 4, constantValue := 0 }, { name := "CONNECTION_HOLDS_KEPT_NANOS", type := .long, accessFlags := 26, slot := 5, constantValue := 0 }, { name := "version", type := (.array .byte), accessFlags := 18, slot := 0, constantValue := 0 }, { name := "SHARED", type := (.array .byte), accessFlags := 26, slot := 6, constantValue := 0 }, { name := "LIMIT", type := (.array .byte), accessFlags := 26, slot := 7, constantValue := 0 }, { name := "WAIT", type := (.array .byte), accessFlags := 26, slot := 8, constantValue := 0 }, { name := "META", type := (.array .byte), accessFlags := 26, slot := 9, constantValue := 0 }, { name := "SETNAME", type := (.array .byte), accessFlags := 26, slot := 10, constantValue := 0 }, { name := "AUTH", type := (.array .byte), accessFlags := 26, slot := 11, constantValue := 0 }, { name := "HELLO", type := (.array .byte), accessFlags := 26, slot := 12, constantValue := 0 }, { name := "USER", type := (.array .byte), accessFlags := 26, slot := 13, constantValue := 0 }, { name := "LIB_NAME", type := (.array .byte), accessFlags := 26, slot := 14, constantValue := 0 }, { name := "LIB_VER", type := (.array .byte), accessFlags := 26, slot := 15, constantValue := 0 }, { name := "CLIENT_SUBCOMMANDS", type := (.array (.object "com/example/turnstile/turnstile/server/Commands$Named")), accessFlags := 26, slot := 16, constantValue := 0 }, { name := "stats", type := (.object "com/example/turnstile/turnstile/server/Stats"), accessFlags := 18, slot := 1, constantValue := 0 }, { name := "timers", type := (.object "com/example/turnstile/turnstile/server/Timers"), accessFlags := 18, slot := 2, constantValue := 0 }, { name := "locks", type := (.object "com/example/turnstile/turnstile/server/LockTable"), accessFlags := 18, slot := 3, constantValue := 0 }, { name := "sessions", type := (.object "com/example/turnstile/turnstile/server/Sessions"), accessFlags := 18, slot := 4, constantValue := 0 }, { name := "password", type := (.array .byte), accessFlags := 18, slot := 5, constantValue := 0 }, { name := "group", type := (.object "com/example/turnstile/turnstile/server/Group"), accessFlags := 18, slot := 6, constantValue := 0 }, { name := "byName", type := (.array (.object "com/example/turnstile/turnstile/server/Commands$Named")), accessFlags := 18, slot := 7, constantValue := 0 }]
  methods := #[k2m0]
  instanceTypes := #[(.array .byte), (.object "com/example/turnstile/turnstile/server/Stats"), (.object "com/example/turnstile/turnstile/server/Timers"), (.object "com/example/turnstile/turnstile/server/LockTable"), (.object "com/example/turnstile/turnstile/server/Sessions"), (.array .byte), (.object "com/example/turnstile/turnstile/server/Group"), (.array (.object "com/example/turnstile/turnstile/server/Commands$Named"))]
  staticTypes := #[.int, (.array .byte), .int, (.object "java/lang/String"), (.object "java/lang/String"), .long, (.array .byte), (.array .byte), (.array .byte), (.array .byte), (.array .byte), (.array .byte), (.array .byte), (.array .byte), (.array .byte), (.array .byte), (.array (.object "com/example/turnstile/turnstile/server/Commands$Named"))]
  resolved := Array.replicate 1016 none
  statics := none }

def pool3 : Array CpInfo := pool [(1, u "java/lang/Cloneable"), (0, .class_ 1), (0, u "java/lang/Object"), (0, .class_ 3)] 3

/-- java/lang/Cloneable -/
def k3 : Class := { plain "java/lang/Cloneable" (some 0) with
  accessFlags := 1537
  interfaces := #[]
  cf := some (fileOf pool3 2 #[] #[] 1537 4 #[] #[])
  fields := #[]
  methods := #[]
  instanceTypes := #[]
  staticTypes := #[]
  resolved := Array.replicate 8 none
  statics := none }

def pool4 : Array CpInfo := pool [(1, u "java/io/Serializable"), (0, .class_ 1), (0, u "java/lang/Object"), (0, .class_ 3)] 3

/-- java/io/Serializable -/
def k4 : Class := { plain "java/io/Serializable" (some 0) with
  accessFlags := 1537
  interfaces := #[]
  cf := some (fileOf pool4 2 #[] #[] 1537 4 #[] #[])
  fields := #[]
  methods := #[]
  instanceTypes := #[]
  staticTypes := #[]
  resolved := Array.replicate 8 none
  statics := none }

/-- the primitive byte -/
def k5 : Class := { plain "byte" none with kind := .primitive 'B', accessFlags := 0x411 }
/-- [B -/
def k6 : Class := { plain "[B" (some 0) with kind := .array 5 .byte, interfaces := #[3, 4], accessFlags := 1041 }

/-- the primitive int -/
def k7 : Class := { plain "int" none with kind := .primitive 'I', accessFlags := 0x411 }
/-- [I -/
def k8 : Class := { plain "[I" (some 0) with kind := .array 7 .int, interfaces := #[3, 4], accessFlags := 1041 }

def heap : Heap := #[]
def classes : Array Class := #[k0, k1, k2, k3, k4, k5, k6, k7, k8]
def interned : List (Array UInt16 × Addr) := []
def slotsUsed : Nat := 0
def theMethod : MethodId := ⟨1, 1⟩
def args0 : Array Value := #[.long 5, .int 49, .int 50, .int 51]
def aboutOver (below : List Frame) : State where
  vm := { classes := classes, interned := interned.toArray }
  heap := heap
  slotsUsed := slotsUsed
  threads := #[{ frames := .invoking theMethod args0 :: below }]
def below0 : List Frame := [.native { method := ⟨0, 0⟩, args := #[] }]
def about1 : State := aboutOver below0
def p0 : Program := .bare "" "" ""
def e0 : Env := launch0.env 0 0 0
theorem w_frames : about1.frames = Frame.invoking theMethod args0 :: below0 := rfl
set_option maxRecDepth 65536 in
theorem w_args : argsFit about1.vm theMethod args0 = true := by decide +kernel
set_option maxRecDepth 65536 in
theorem w_heap : heapFits about1 = true := by decide +kernel
set_option maxRecDepth 65536 in
theorem w_runnable : about1.curStatus? = some .runnable := by decide +kernel
set_option maxRecDepth 65536 in
theorem w_alone : about1.alone = true := by decide +kernel
set_option maxRecDepth 65536 in
theorem w_named : about1.methodNamed? x = some theMethod := by decide +kernel
set_option maxRecDepth 65536 in
theorem w_hears : about1.hears theMethod below0 = true := by decide +kernel
set_option maxRecDepth 65536 in
theorem w_ripe : about1.ripe theMethod args0 below0 = true := by decide +kernel
theorem w_running : about1.status = .running := rfl
set_option maxRecDepth 65536 in
theorem w_room : about1.hasRoom e0.platform room_1 = true :=
  launch0.hasRoom_least _ room_1 (by decide +kernel) (by decide +kernel) (by decide +kernel) (by decide +kernel) (by decide +kernel) (by decide +kernel)
theorem allAtoms_all (ts : List Jvm.Cond) (a : Array Jvm.Value) (st : Jvm.State) : (allAtoms ts).before a st = ts.all (fun c => c.before a st) := by
  induction ts with
  | nil => rfl
  | cons c t ih =>
    show (Jvm.Cond.and c (allAtoms t)).before a st = _
    rw [Jvm.Cond.before_and, ih, List.all_cons]
def words1 : List Jvm.Cond := Jvm.Cond.code x code maxLocals ret :: tables_1
/-- a 'code' word, met by the world's own term for the bytes: nothing is compared byte by byte -/
theorem code_word {y : MethodName} {bytes : ByteArray} {mx : Nat} {rt : Option FieldType} {a : Array Value} {s : State} {m : MethodId} {meth : Method} {c : Code} (h1 : s.methodNamed? y = some m) (h2 : s.vm.method? m = some meth) (h3 : meth.code = some c) (h4 : c.code = bytes)
    (h5 : (c.maxLocals == mx && c.exceptionTable.isEmpty && decide (c.maxStack ≤ mostOperands) && decide (meth.sig.returnType = rt) && !meth.locks && decide (parseMethodDescriptor y.desc = some meth.sig)) = true) : (Jvm.Cond.code y bytes mx rt).before a s = true := by
  simp only [Bool.and_eq_true, beq_iff_eq, Bool.not_eq_true', decide_eq_true_eq] at h5
  obtain ⟨⟨⟨⟨⟨g1, g2⟩, g3⟩, g4⟩, g5⟩, g6⟩ := h5
  simp [Cond.before, Cond.holds, Cond.value, h1, h2, h3, h4, g1, g2, g3, g4, g5, g6]
def isCode : Jvm.Cond → Bool
  | .code _ _ _ _ => true
  | _ => false
theorem all_split {L : List Jvm.Cond} {P : Jvm.Cond → Bool} (h1 : L.all (fun c => isCode c || P c) = true) (h2 : ∀ c ∈ L.filter isCode, P c = true) : L.all P = true := by
  refine List.all_eq_true.mpr fun c hc => ?_
  have h := List.all_eq_true.mp h1 c hc
  rcases Bool.eq_false_or_eq_true (isCode c) with hi | hi
  · exact h2 c (List.mem_filter.mpr ⟨hc, hi⟩)
  · simpa [hi] using h
set_option maxRecDepth 65536 in
theorem w_c0 : (Jvm.Cond.code x code maxLocals ret).before args0 about1 = true := code_word (m := ⟨1, 1⟩) (meth := k1m1) (c := k1c1) (by decide +kernel) rfl rfl rfl (by decide +kernel)
set_option maxRecDepth 65536 in
theorem w_c1 : (Jvm.Cond.code ({ cls := "com/example/turnstile/turnstile/server/CommandsParseCountPinLaw", name := "put18", desc := "([BIJ)V" } : Jvm.MethodName) method_6_code (4 : Nat) (Option.none : Option Jvm.ClassFile.FieldType)).before args0 about1 = true := code_word (m := ⟨1, 5⟩) (meth := k1m5) (c := k1c5) (by decide +kernel) rfl rfl rfl (by decide +kernel)
set_option maxRecDepth 65536 in
theorem w_c2 : (Jvm.Cond.code ({ cls := "com/example/turnstile/turnstile/server/CommandsParseCountPinLaw", name := "d", desc := "(JJ)B" } : Jvm.MethodName) method_5_code (4 : Nat) (Option.some Jvm.ClassFile.FieldType.byte)).before args0 about1 = true := code_word (m := ⟨1, 4⟩) (meth := k1m4) (c := k1c4) (by decide +kernel) rfl rfl rfl (by decide +kernel)
set_option maxRecDepth 65536 in
theorem w_c3 : (Jvm.Cond.code ({ cls := "com/example/turnstile/turnstile/server/Commands", name := "parseCount", desc := "([B)J" } : Jvm.MethodName) prog_71_method_43_code (7 : Nat) (Option.some Jvm.ClassFile.FieldType.long)).before args0 about1 = true := code_word (m := ⟨2, 0⟩) (meth := k2m0) (c := k2c0) (by decide +kernel) rfl rfl rfl (by decide +kernel)
set_option maxRecDepth 65536 in
theorem w_c4 : (Jvm.Cond.code ({ cls := "com/example/turnstile/turnstile/server/CommandsParseCountPinLaw", name := "dig", desc := "(I)Z" } : Jvm.MethodName) method_3_code (1 : Nat) (Option.some Jvm.ClassFile.FieldType.boolean)).before args0 about1 = true := code_word (m := ⟨1, 2⟩) (meth := k1m2) (c := k1c2) (by decide +kernel) rfl rfl rfl (by decide +kernel)
set_option maxRecDepth 65536 in
theorem w_c5 : (Jvm.Cond.code ({ cls := "com/example/turnstile/turnstile/server/CommandsParseCountPinLaw", name := "exp19", desc := "(JI)J" } : Jvm.MethodName) method_4_code (7 : Nat) (Option.some Jvm.ClassFile.FieldType.long)).before args0 about1 = true := code_word (m := ⟨1, 3⟩) (meth := k1m3) (c := k1c3) (by decide +kernel) rfl rfl rfl (by decide +kernel)
def codes1 : List Jvm.Cond := [Jvm.Cond.code x code maxLocals ret, Jvm.Cond.code ({ cls := "com/example/turnstile/turnstile/server/CommandsParseCountPinLaw", name := "put18", desc := "([BIJ)V" } : Jvm.MethodName) method_6_code (4 : Nat) (Option.none : Option Jvm.ClassFile.FieldType), Jvm.Cond.code ({ cls := "com/example/turnstile/turnstile/server/CommandsParseCountPinLaw", name := "d", desc := "(JJ)B" } : Jvm.MethodName) method_5_code (4 : Nat) (Option.some Jvm.ClassFile.FieldType.byte), Jvm.Cond.code ({ cls := "com/example/turnstile/turnstile/server/Commands", name := "parseCount", desc := "([B)J" } : Jvm.MethodName) prog_71_method_43_code (7 : Nat) (Option.some Jvm.ClassFile.FieldType.long), Jvm.Cond.code ({ cls := "com/example/turnstile/turnstile/server/CommandsParseCountPinLaw", name := "dig", desc := "(I)Z" } : Jvm.MethodName) method_3_code (1 : Nat) (Option.some Jvm.ClassFile.FieldType.boolean), Jvm.Cond.code ({ cls := "com/example/turnstile/turnstile/server/CommandsParseCountPinLaw", name := "exp19", desc := "(JI)J" } : Jvm.MethodName) method_4_code (7 : Nat) (Option.some Jvm.ClassFile.FieldType.long)]
set_option maxRecDepth 65536 in
theorem codes_eq : words1.filter isCode = codes1 := rfl
theorem w_codes : ∀ c ∈ words1.filter isCode, c.before args0 about1 = true := by
  rw [codes_eq]
  intro c hc
  simp only [codes1, List.mem_cons, List.not_mem_nil, or_false] at hc
  rcases hc with rfl | rfl | rfl | rfl | rfl | rfl
  · exact w_c0
  · exact w_c1
  · exact w_c2
  · exact w_c3
  · exact w_c4
  · exact w_c5
set_option maxRecDepth 65536 in
theorem w_t1 : (words1.take 24).all (fun c => isCode c || c.before args0 about1) = true := by decide +kernel
set_option maxRecDepth 65536 in
theorem w_t2 : (words1.drop 24).all (fun c => isCode c || c.before args0 about1) = true := by decide +kernel
theorem w_tables : (allAtoms (Jvm.Cond.code x code maxLocals ret :: tables_1)).before args0 about1 = true := by
  rw [allAtoms_all]
  show words1.all (fun c => c.before args0 about1) = true
  refine all_split ?_ w_codes
  rw [← List.take_append_drop 24 words1, List.all_append, w_t1, w_t2]
  rfl
set_option maxRecDepth 65536 in
theorem w_case : (Jvm.Cond.and given_1 narrow_1).before args0 about1 = true := by decide +kernel
theorem w_applies : (headSpec (Jvm.Cond.code x code maxLocals ret :: tables_1) room_1).applies x e0.platform about1 = true :=
  (Spec.applies_iff w_frames).mpr ⟨w_running, w_runnable, w_alone, w_named, w_hears, w_ripe, w_room, w_tables⟩
theorem atStart : AtStart classFile x code maxLocals ret World_1 tables_1 room_1 Calls_1 rest_1 Pre_1 launch0 p0 e0 about1 theMethod args0 below0 :=
  ⟨lists_1, trivial, launch0.admits_env _ _ _, launch0.least_env, fairChoices_fair.cas, fairChoices_fair.clock, w_frames, w_args, w_heap, w_applies, trivial, trivial, w_case⟩
end start1
theorem witness_1 : WitnessClaimed_1 := ⟨start1.p0, start1.e0, start1.about1, start1.theMethod, start1.args0, start1.below0, start1.atStart⟩
end Jvm.Pilot.@@N@@
