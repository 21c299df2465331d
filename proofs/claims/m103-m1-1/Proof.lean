import JvmDerived
import JvmDerived.Pilot.@@N@@Statement
import JvmDerived.Pilot.@@N@@Code
set_option linter.unusedVariables false
set_option linter.unusedSimpArgs false
namespace Jvm.OwnKit
open Sem ClassFile Op Lib Jvm.Stand Jvm.Free Jvm.LawKit Jvm.RoadKit Bundle
/-- the run's own things: program, environment, start state, method, arguments, frames below, its record, its code -/
abbrev Cx := Program × Env × State × MethodId × Array Value × List Frame × Method × Code
def Ok (K : Cx) (Z : State) (n0 : Nat) (own : String) (code : ByteArray) (maxL : Nat) (ret : Option FieldType) (nm : String) : Prop :=
  match K with
  | (p, _, s, m, _, _, meth, c) => p.tables.exec = Jvm.exec ∧ Z.Warmed39 s.vm ∧ s.vm.findClass own = some m.cls ∧ c.code = code ∧ c.maxLocals = maxL ∧ meth.sig.returnType = ret ∧ meth.name = nm ∧ meth.locks = false ∧ Old Z n0 s.heap
/-- from heap h, with k cells and n slots made, at pc with locals L and stack S, the run comes to a return that P likes -/
def W (K : Cx) (l : Launch) (R : Room) (n0 : Nat) (P : Option Value → Heap → Prop) (h : Heap) (k n pc : Nat) (L : Array Slot) (S : List Value) : Prop :=
  match K with
  | (p, e, s, m, args, below, meth, c) => ∀ T locs, Stand p l e R s m args below meth c T locs k n → T.heap = h → Fr n0 locs →
    ∃ s₂ o, Steps p.tables e below (T.setTop (mkF m pc L S)) s₂ ∧ s₂.status = .running ∧ Ended s₂ below o ∧ ∃ v L', o = .returned v ∧ (P v s₂.heap ∧ Fr n0 L') ∧ FrameEnd s o s₂ L' R.cells R.slots
/-- a method's contract: called with as' at heap h it returns what Q likes -/
abbrev Met (l : Launch) (Z : State) (n0 : Nat) (y : MethodName) (bytes : ByteArray) (mL : Nat) (rt : Option FieldType) (ws : List Cond) (rm : Room) (as' : Array Value) (h : Heap) (Q : Option Value → Heap → Prop) : Prop :=
  MetFree l y (head1 (Cond.code y bytes mL rt :: ws) rm) (fun a U => a = as' ∧ Z.Warmed39 U.vm ∧ U.heap = h) (fun _ _ _ _ _ => True) (fun _ U o U' => ∃ v L, o = .returned v ∧ (Q v U'.heap ∧ Fr n0 L) ∧ FrameEnd U o U' L rm.cells rm.slots)
theorem old_now {p : Program} {l : Launch} {e : Env} {R : Room} {s : State} {m : MethodId} {args : Array Value} {below : List Frame} {meth : Method} {c : Code} {T : State} {locs : List Loc} {k n : Nat} {Z : State} {n0 : Nat} (O : Old Z n0 s.heap) (X : Stand p l e R s m args below meth c T locs k n) (N : Fr n0 locs) : Old Z n0 T.heap := by
  refine ⟨O.1, Nat.le_trans O.2.1 X.same.2.1, fun a c hc => ?_⟩
  have h1 := O.2.2 a c hc
  have ha : a < n0 := O.1 ▸ (Array.getElem?_eq_some_iff.mp hc).1
  obtain ⟨c', q1, q2, q3, q4⟩ := X.same.2.2.2.2.2 a c h1
  have q5 : c'.slots = c.slots := Array.ext_getElem? fun i => q4 i fun hm => Nat.lt_irrefl _ (Nat.lt_of_lt_of_le ha (N _ hm))
  rw [q5] at q2
  have q6 : T.heap[a]? = some c' := q1
  rw [q6, q2]
theorem old_ge {p : Program} {l : Launch} {e : Env} {R : Room} {s : State} {m : MethodId} {args : Array Value} {below : List Frame} {meth : Method} {c : Code} {T : State} {locs : List Loc} {k n : Nat} {Z : State} {n0 : Nat} (O : Old Z n0 s.heap) (X : Stand p l e R s m args below meth c T locs k n) (N : Fr n0 locs) : n0 ≤ T.heap.size := by
  have q := old_now O X N
  rw [← q.1]; exact q.2.1
theorem met_of {l : Launch} {Z : State} {n0 : Nat} {y : MethodName} {bytes : ByteArray} {mL : Nat} {rt : Option FieldType} {ws : List Cond} {rm : Room} {as' : Array Value} {h : Heap} {Q : Option Value → Heap → Prop} (Z0 : Old Z n0 h) (pn : plainFor y = true) {Ls : Array Slot} (ef : ∀ m, entryFrame m as' mL = mkF m 0 Ls [])
    (H : ∀ K, Ok K Z n0 y.cls bytes mL rt y.name → W K l rm n0 Q h 0 0 0 Ls []) : Met l Z n0 y bytes mL rt ws rm as' h Q := by
  refine MetFree.of_bodySF pn hisR ?_
  intro p e s m args below meth c s₁ Bd hml0 hP hK
  obtain ⟨rfl, hZ, hh⟩ := hP
  have hnm := (name_of_methodNamed Bd.named Bd.method).1
  have X0 : Stand p l e rm s m args below meth c s₁ [] 0 0 := Stand.of_body Bd
  have e0 : s₁.heap = h := by rw [← hh, Bd.state]; rfl
  obtain ⟨s₂, o, st, r⟩ := H (p, e, s, m, args, below, meth, c) ⟨Bd.exec, hZ, findClass_of_methodNamed Bd.named, Bd.bytes, hml0, Bd.returns, hnm, Bd.notSynchronized, by show Old Z n0 s.heap; rw [hh]; exact Z0⟩ s₁ [] X0 e0 (Fr.nil n0)
  exact ⟨s₂, o, castTop (ef m) st, r⟩
section S
variable {K : Cx} {l : Launch} {R : Room} {Z : State} {n0 : Nat} {P : Option Value → Heap → Prop} {h : Heap} {k n pc : Nat} {L : Array Slot} {S : List Value} {own : String} {code : ByteArray} {maxL : Nat} {ret : Option FieldType} {nm : String} {a0 : Array Value}
theorem W.mono {P' : Option Value → Heap → Prop} (q : ∀ v h, P v h → P' v h) (w : W K l R n0 P h k n pc L S) : W K l R n0 P' h k n pc L S := by
  obtain ⟨p, e, s, m, args, below, meth, c⟩ := K
  intro T locs X eT N
  obtain ⟨s₂, o, st, r1, r2, v, L', r3, ⟨r4, r5⟩, r6⟩ := w T locs X eT N
  exact ⟨s₂, o, st, r1, r2, v, L', r3, ⟨q _ _ r4, r5⟩, r6⟩
theorem W.more {k' n' : Nat} (w : W K l R n0 P h k' n' pc L S) (hk : k ≤ k') (hn : n ≤ n') : W K l R n0 P h k n pc L S := by
  obtain ⟨p, e, s, m, args, below, meth, c⟩ := K
  intro T locs X eT N
  exact w T locs (X.more hk hn) eT N
theorem w_iloadN (ok : Ok K Z n0 own code maxL ret nm) {i : Fin 4} {v : Int32} (hd : decode code pc = .ok (.iload_n i, 1)) (hl : L[i.val]? = some (.val (.int v))) (w : W K l R n0 P h k n (pc + 1) L (.int v :: S)) : W K l R n0 P h k n pc L (S) := by
  obtain ⟨p, e, s, m, args, below, meth, c⟩ := K
  obtain ⟨hx, hZ, hown, hby, -⟩ := ok
  intro T locs X eT N
  obtain ⟨s₂, o, st, r⟩ := w T locs X eT N
  exact ⟨s₂, o, XS.iloadN X.here hx rfl (hb hby hd) hl st, r⟩
theorem w_iload (ok : Ok K Z n0 own code maxL ret nm) {i : Nat} {v : Int32} (hd : decode code pc = .ok (.iload i, 2)) (hl : L[i]? = some (.val (.int v))) (w : W K l R n0 P h k n (pc + 2) L (.int v :: S)) : W K l R n0 P h k n pc L (S) := by
  obtain ⟨p, e, s, m, args, below, meth, c⟩ := K
  obtain ⟨hx, hZ, hown, hby, -⟩ := ok
  intro T locs X eT N
  obtain ⟨s₂, o, st, r⟩ := w T locs X eT N
  exact ⟨s₂, o, XS.iload X.here hx rfl (hb hby hd) hl st, r⟩
theorem w_istoreN (ok : Ok K Z n0 own code maxL ret nm) {i : Fin 4} {v : Int32} {L' : Array Slot} (hd : decode code pc = .ok (.istore_n i, 1)) (hl : storeLocals L i.val (.int v) = some L') (w : W K l R n0 P h k n (pc + 1) L' (S)) : W K l R n0 P h k n pc L (.int v :: S) := by
  obtain ⟨p, e, s, m, args, below, meth, c⟩ := K
  obtain ⟨hx, hZ, hown, hby, -⟩ := ok
  intro T locs X eT N
  obtain ⟨s₂, o, st, r⟩ := w T locs X eT N
  exact ⟨s₂, o, XS.istoreN X.here hx rfl (hb hby hd) rfl hl st, r⟩
theorem w_istore (ok : Ok K Z n0 own code maxL ret nm) {i : Nat} {v : Int32} {L' : Array Slot} (hd : decode code pc = .ok (.istore i, 2)) (hl : storeLocals L i (.int v) = some L') (w : W K l R n0 P h k n (pc + 2) L' (S)) : W K l R n0 P h k n pc L (.int v :: S) := by
  obtain ⟨p, e, s, m, args, below, meth, c⟩ := K
  obtain ⟨hx, hZ, hown, hby, -⟩ := ok
  intro T locs X eT N
  obtain ⟨s₂, o, st, r⟩ := w T locs X eT N
  exact ⟨s₂, o, XS.istore X.here hx rfl (hb hby hd) rfl hl st, r⟩
theorem w_lloadN (ok : Ok K Z n0 own code maxL ret nm) {i : Fin 4} {v : Int64} (hd : decode code pc = .ok (.lload_n i, 1)) (hl : L[i.val]? = some (.val (.long v))) (w : W K l R n0 P h k n (pc + 1) L (.long v :: S)) : W K l R n0 P h k n pc L (S) := by
  obtain ⟨p, e, s, m, args, below, meth, c⟩ := K
  obtain ⟨hx, hZ, hown, hby, -⟩ := ok
  intro T locs X eT N
  obtain ⟨s₂, o, st, r⟩ := w T locs X eT N
  exact ⟨s₂, o, XS.lloadN X.here hx rfl (hb hby hd) hl st, r⟩
theorem w_lload (ok : Ok K Z n0 own code maxL ret nm) {i : Nat} {v : Int64} (hd : decode code pc = .ok (.lload i, 2)) (hl : L[i]? = some (.val (.long v))) (w : W K l R n0 P h k n (pc + 2) L (.long v :: S)) : W K l R n0 P h k n pc L (S) := by
  obtain ⟨p, e, s, m, args, below, meth, c⟩ := K
  obtain ⟨hx, hZ, hown, hby, -⟩ := ok
  intro T locs X eT N
  obtain ⟨s₂, o, st, r⟩ := w T locs X eT N
  exact ⟨s₂, o, XS.lload X.here hx rfl (hb hby hd) hl st, r⟩
theorem w_lstoreN (ok : Ok K Z n0 own code maxL ret nm) {i : Fin 4} {v : Int64} {L' : Array Slot} (hd : decode code pc = .ok (.lstore_n i, 1)) (hl : storeLocals L i.val (.long v) = some L') (w : W K l R n0 P h k n (pc + 1) L' (S)) : W K l R n0 P h k n pc L (.long v :: S) := by
  obtain ⟨p, e, s, m, args, below, meth, c⟩ := K
  obtain ⟨hx, hZ, hown, hby, -⟩ := ok
  intro T locs X eT N
  obtain ⟨s₂, o, st, r⟩ := w T locs X eT N
  exact ⟨s₂, o, XS.lstoreN X.here hx rfl (hb hby hd) rfl hl st, r⟩
theorem w_lstore (ok : Ok K Z n0 own code maxL ret nm) {i : Nat} {v : Int64} {L' : Array Slot} (hd : decode code pc = .ok (.lstore i, 2)) (hl : storeLocals L i (.long v) = some L') (w : W K l R n0 P h k n (pc + 2) L' (S)) : W K l R n0 P h k n pc L (.long v :: S) := by
  obtain ⟨p, e, s, m, args, below, meth, c⟩ := K
  obtain ⟨hx, hZ, hown, hby, -⟩ := ok
  intro T locs X eT N
  obtain ⟨s₂, o, st, r⟩ := w T locs X eT N
  exact ⟨s₂, o, XS.lstore X.here hx rfl (hb hby hd) rfl hl st, r⟩
theorem w_aloadN (ok : Ok K Z n0 own code maxL ret nm) {i : Fin 4} {v : Value} (hd : decode code pc = .ok (.aload_n i, 1)) (hl : L[i.val]? = some (.val v)) (hv : v.isRef = true) (w : W K l R n0 P h k n (pc + 1) L (v :: S)) : W K l R n0 P h k n pc L (S) := by
  obtain ⟨p, e, s, m, args, below, meth, c⟩ := K
  obtain ⟨hx, hZ, hown, hby, -⟩ := ok
  intro T locs X eT N
  obtain ⟨s₂, o, st, r⟩ := w T locs X eT N
  exact ⟨s₂, o, XS.aloadN X.here hx rfl (hb hby hd) hl hv st, r⟩
theorem w_aload (ok : Ok K Z n0 own code maxL ret nm) {i : Nat} {v : Value} (hd : decode code pc = .ok (.aload i, 2)) (hl : L[i]? = some (.val v)) (hv : v.isRef = true) (w : W K l R n0 P h k n (pc + 2) L (v :: S)) : W K l R n0 P h k n pc L (S) := by
  obtain ⟨p, e, s, m, args, below, meth, c⟩ := K
  obtain ⟨hx, hZ, hown, hby, -⟩ := ok
  intro T locs X eT N
  obtain ⟨s₂, o, st, r⟩ := w T locs X eT N
  exact ⟨s₂, o, XS.aload X.here hx rfl (hb hby hd) hl hv st, r⟩
theorem w_astoreN (ok : Ok K Z n0 own code maxL ret nm) {i : Fin 4} {v : Value} {L' : Array Slot} (hd : decode code pc = .ok (.astore_n i, 1)) (hv : v.isRef = true) (hl : storeLocals L i.val v = some L') (w : W K l R n0 P h k n (pc + 1) L' (S)) : W K l R n0 P h k n pc L (v :: S) := by
  obtain ⟨p, e, s, m, args, below, meth, c⟩ := K
  obtain ⟨hx, hZ, hown, hby, -⟩ := ok
  intro T locs X eT N
  obtain ⟨s₂, o, st, r⟩ := w T locs X eT N
  exact ⟨s₂, o, XS.astoreN X.here hx rfl (hb hby hd) rfl hv hl st, r⟩
theorem w_astore (ok : Ok K Z n0 own code maxL ret nm) {i : Nat} {v : Value} {L' : Array Slot} (hd : decode code pc = .ok (.astore i, 2)) (hv : v.isRef = true) (hl : storeLocals L i v = some L') (w : W K l R n0 P h k n (pc + 2) L' (S)) : W K l R n0 P h k n pc L (v :: S) := by
  obtain ⟨p, e, s, m, args, below, meth, c⟩ := K
  obtain ⟨hx, hZ, hown, hby, -⟩ := ok
  intro T locs X eT N
  obtain ⟨s₂, o, st, r⟩ := w T locs X eT N
  exact ⟨s₂, o, XS.astore X.here hx rfl (hb hby hd) rfl hv hl st, r⟩
theorem w_iconst (ok : Ok K Z n0 own code maxL ret nm) {i : Int} {v : Int32} (hd : decode code pc = .ok (.iconst i, 1)) (hv : Int32.ofInt i = v) (w : W K l R n0 P h k n (pc + 1) L (.int v :: S)) : W K l R n0 P h k n pc L (S) := by
  obtain ⟨p, e, s, m, args, below, meth, c⟩ := K
  obtain ⟨hx, hZ, hown, hby, -⟩ := ok
  intro T locs X eT N
  obtain ⟨s₂, o, st, r⟩ := w T locs X eT N
  exact ⟨s₂, o, XS.iconst X.here hx rfl (hb hby hd) (hv ▸ st), r⟩
theorem w_bipush (ok : Ok K Z n0 own code maxL ret nm) {i : Int} {v : Int32} (hd : decode code pc = .ok (.bipush i, 2)) (hv : (Int8.ofInt i).toInt32 = v) (w : W K l R n0 P h k n (pc + 2) L (.int v :: S)) : W K l R n0 P h k n pc L (S) := by
  obtain ⟨p, e, s, m, args, below, meth, c⟩ := K
  obtain ⟨hx, hZ, hown, hby, -⟩ := ok
  intro T locs X eT N
  obtain ⟨s₂, o, st, r⟩ := w T locs X eT N
  exact ⟨s₂, o, XS.bipush X.here hx rfl (hb hby hd) (hv ▸ st), r⟩
theorem w_sipush (ok : Ok K Z n0 own code maxL ret nm) {i : Int} {v : Int32} (hd : decode code pc = .ok (.sipush i, 3)) (hv : (Int16.ofInt i).toInt32 = v) (w : W K l R n0 P h k n (pc + 3) L (.int v :: S)) : W K l R n0 P h k n pc L (S) := by
  obtain ⟨p, e, s, m, args, below, meth, c⟩ := K
  obtain ⟨hx, hZ, hown, hby, -⟩ := ok
  intro T locs X eT N
  obtain ⟨s₂, o, st, r⟩ := w T locs X eT N
  exact ⟨s₂, o, XS.sipush X.here hx rfl (hb hby hd) (hv ▸ st), r⟩
theorem w_lconst (ok : Ok K Z n0 own code maxL ret nm) {i : Fin 2} {v : Int64} (hd : decode code pc = .ok (.lconst i, 1)) (hv : Int64.ofNat i = v) (w : W K l R n0 P h k n (pc + 1) L (.long v :: S)) : W K l R n0 P h k n pc L (S) := by
  obtain ⟨p, e, s, m, args, below, meth, c⟩ := K
  obtain ⟨hx, hZ, hown, hby, -⟩ := ok
  intro T locs X eT N
  obtain ⟨s₂, o, st, r⟩ := w T locs X eT N
  exact ⟨s₂, o, XS.lconst X.here hx rfl (hb hby hd) (hv ▸ st), r⟩
theorem w_aconstNull (ok : Ok K Z n0 own code maxL ret nm)  (hd : decode code pc = .ok (.aconst_null, 1)) (w : W K l R n0 P h k n (pc + 1) L (.null :: S)) : W K l R n0 P h k n pc L (S) := by
  obtain ⟨p, e, s, m, args, below, meth, c⟩ := K
  obtain ⟨hx, hZ, hown, hby, -⟩ := ok
  intro T locs X eT N
  obtain ⟨s₂, o, st, r⟩ := w T locs X eT N
  exact ⟨s₂, o, XS.aconstNull X.here hx rfl (hb hby hd)  st, r⟩
theorem w_dup (ok : Ok K Z n0 own code maxL ret nm) {v : Value} (hd : decode code pc = .ok (.dup, 1)) (hv : v.category = 1) (w : W K l R n0 P h k n (pc + 1) L (v :: v :: S)) : W K l R n0 P h k n pc L (v :: S) := by
  obtain ⟨p, e, s, m, args, below, meth, c⟩ := K
  obtain ⟨hx, hZ, hown, hby, -⟩ := ok
  intro T locs X eT N
  obtain ⟨s₂, o, st, r⟩ := w T locs X eT N
  exact ⟨s₂, o, XS.dup X.here hx rfl (hb hby hd) rfl hv st, r⟩
theorem w_dupX1 (ok : Ok K Z n0 own code maxL ret nm) {v u : Value} (hd : decode code pc = .ok (.dup_x1, 1)) (hv : v.category = 1) (hu : u.category = 1) (w : W K l R n0 P h k n (pc + 1) L (v :: u :: v :: S)) : W K l R n0 P h k n pc L (v :: u :: S) := by
  obtain ⟨p, e, s, m, args, below, meth, c⟩ := K
  obtain ⟨hx, hZ, hown, hby, -⟩ := ok
  intro T locs X eT N
  obtain ⟨s₂, o, st, r⟩ := w T locs X eT N
  exact ⟨s₂, o, XS.dupX1 X.here hx rfl (hb hby hd) rfl hv hu st, r⟩
theorem w_pop (ok : Ok K Z n0 own code maxL ret nm) {v : Value} (hd : decode code pc = .ok (.pop, 1)) (hv : v.category = 1) (w : W K l R n0 P h k n (pc + 1) L (S)) : W K l R n0 P h k n pc L (v :: S) := by
  obtain ⟨p, e, s, m, args, below, meth, c⟩ := K
  obtain ⟨hx, hZ, hown, hby, -⟩ := ok
  intro T locs X eT N
  obtain ⟨s₂, o, st, r⟩ := w T locs X eT N
  exact ⟨s₂, o, XS.pop X.here hx rfl (hb hby hd) rfl hv st, r⟩
theorem w_dup2 (ok : Ok K Z n0 own code maxL ret nm) {v u : Value} (hd : decode code pc = .ok (.dup2, 1)) (hv : v.category = 1) (hu : u.category = 1) (w : W K l R n0 P h k n (pc + 1) L (v :: u :: v :: u :: S)) : W K l R n0 P h k n pc L (v :: u :: S) := by
  obtain ⟨p, e, s, m, args, below, meth, c⟩ := K
  obtain ⟨hx, hZ, hown, hby, -⟩ := ok
  intro T locs X eT N
  obtain ⟨s₂, o, st, r⟩ := w T locs X eT N
  exact ⟨s₂, o, XT.dup2 X.here hx rfl (hb hby hd) rfl hv hu st, r⟩
theorem w_iinc (ok : Ok K Z n0 own code maxL ret nm) {i : Nat} {c : Int} {v u : Int32} {L' : Array Slot} (hd : decode code pc = .ok (.iinc i c, 3)) (hu : Int32.ofInt c = u) (hl : L[i]? = some (.val (.int v))) (hl' : storeLocals L i (.int (v + u)) = some L') (w : W K l R n0 P h k n (pc + 3) L' (S)) : W K l R n0 P h k n pc L (S) := by
  obtain ⟨p, e, s, m, args, below, meth, c⟩ := K
  obtain ⟨hx, hZ, hown, hby, -⟩ := ok
  intro T locs X eT N
  obtain ⟨s₂, o, st, r⟩ := w T locs X eT N
  exact ⟨s₂, o, XS.iinc X.here hx rfl (hb hby hd) hl (by rw [hu]; exact hl') st, r⟩
theorem w_iadd (ok : Ok K Z n0 own code maxL ret nm) {x y : Int32} (hd : decode code pc = .ok (.iadd, 1)) (w : W K l R n0 P h k n (pc + 1) L (.int (x + y) :: S)) : W K l R n0 P h k n pc L (.int y :: .int x :: S) := by
  obtain ⟨p, e, s, m, args, below, meth, c⟩ := K
  obtain ⟨hx, hZ, hown, hby, -⟩ := ok
  intro T locs X eT N
  obtain ⟨s₂, o, st, r⟩ := w T locs X eT N
  exact ⟨s₂, o, XS.iadd X.here hx rfl (hb hby hd) rfl st, r⟩
theorem w_isub (ok : Ok K Z n0 own code maxL ret nm) {x y : Int32} (hd : decode code pc = .ok (.isub, 1)) (w : W K l R n0 P h k n (pc + 1) L (.int (x - y) :: S)) : W K l R n0 P h k n pc L (.int y :: .int x :: S) := by
  obtain ⟨p, e, s, m, args, below, meth, c⟩ := K
  obtain ⟨hx, hZ, hown, hby, -⟩ := ok
  intro T locs X eT N
  obtain ⟨s₂, o, st, r⟩ := w T locs X eT N
  exact ⟨s₂, o, XS.isub X.here hx rfl (hb hby hd) rfl st, r⟩
theorem w_imul (ok : Ok K Z n0 own code maxL ret nm) {x y : Int32} (hd : decode code pc = .ok (.imul, 1)) (w : W K l R n0 P h k n (pc + 1) L (.int (x * y) :: S)) : W K l R n0 P h k n pc L (.int y :: .int x :: S) := by
  obtain ⟨p, e, s, m, args, below, meth, c⟩ := K
  obtain ⟨hx, hZ, hown, hby, -⟩ := ok
  intro T locs X eT N
  obtain ⟨s₂, o, st, r⟩ := w T locs X eT N
  exact ⟨s₂, o, XS.imul X.here hx rfl (hb hby hd) rfl st, r⟩
theorem w_iand (ok : Ok K Z n0 own code maxL ret nm) {x y : Int32} (hd : decode code pc = .ok (.iand, 1)) (w : W K l R n0 P h k n (pc + 1) L (.int (x &&& y) :: S)) : W K l R n0 P h k n pc L (.int y :: .int x :: S) := by
  obtain ⟨p, e, s, m, args, below, meth, c⟩ := K
  obtain ⟨hx, hZ, hown, hby, -⟩ := ok
  intro T locs X eT N
  obtain ⟨s₂, o, st, r⟩ := w T locs X eT N
  exact ⟨s₂, o, XS.iand X.here hx rfl (hb hby hd) rfl st, r⟩
theorem w_ior (ok : Ok K Z n0 own code maxL ret nm) {x y : Int32} (hd : decode code pc = .ok (.ior, 1)) (w : W K l R n0 P h k n (pc + 1) L (.int (x ||| y) :: S)) : W K l R n0 P h k n pc L (.int y :: .int x :: S) := by
  obtain ⟨p, e, s, m, args, below, meth, c⟩ := K
  obtain ⟨hx, hZ, hown, hby, -⟩ := ok
  intro T locs X eT N
  obtain ⟨s₂, o, st, r⟩ := w T locs X eT N
  exact ⟨s₂, o, XS.ior X.here hx rfl (hb hby hd) rfl st, r⟩
theorem w_ixor (ok : Ok K Z n0 own code maxL ret nm) {x y : Int32} (hd : decode code pc = .ok (.ixor, 1)) (w : W K l R n0 P h k n (pc + 1) L (.int (x ^^^ y) :: S)) : W K l R n0 P h k n pc L (.int y :: .int x :: S) := by
  obtain ⟨p, e, s, m, args, below, meth, c⟩ := K
  obtain ⟨hx, hZ, hown, hby, -⟩ := ok
  intro T locs X eT N
  obtain ⟨s₂, o, st, r⟩ := w T locs X eT N
  exact ⟨s₂, o, XS.ixor X.here hx rfl (hb hby hd) rfl st, r⟩
theorem w_ishl (ok : Ok K Z n0 own code maxL ret nm) {x y : Int32} (hd : decode code pc = .ok (.ishl, 1)) (w : W K l R n0 P h k n (pc + 1) L (.int (x <<< (y &&& 31)) :: S)) : W K l R n0 P h k n pc L (.int y :: .int x :: S) := by
  obtain ⟨p, e, s, m, args, below, meth, c⟩ := K
  obtain ⟨hx, hZ, hown, hby, -⟩ := ok
  intro T locs X eT N
  obtain ⟨s₂, o, st, r⟩ := w T locs X eT N
  exact ⟨s₂, o, XS.ishl X.here hx rfl (hb hby hd) rfl st, r⟩
theorem w_ishr (ok : Ok K Z n0 own code maxL ret nm) {x y : Int32} (hd : decode code pc = .ok (.ishr, 1)) (w : W K l R n0 P h k n (pc + 1) L (.int (x >>> (y &&& 31)) :: S)) : W K l R n0 P h k n pc L (.int y :: .int x :: S) := by
  obtain ⟨p, e, s, m, args, below, meth, c⟩ := K
  obtain ⟨hx, hZ, hown, hby, -⟩ := ok
  intro T locs X eT N
  obtain ⟨s₂, o, st, r⟩ := w T locs X eT N
  exact ⟨s₂, o, XS.ishr X.here hx rfl (hb hby hd) rfl st, r⟩
theorem w_iushr (ok : Ok K Z n0 own code maxL ret nm) {x y : Int32} (hd : decode code pc = .ok (.iushr, 1)) (w : W K l R n0 P h k n (pc + 1) L (.int (XT.ushr x y) :: S)) : W K l R n0 P h k n pc L (.int y :: .int x :: S) := by
  obtain ⟨p, e, s, m, args, below, meth, c⟩ := K
  obtain ⟨hx, hZ, hown, hby, -⟩ := ok
  intro T locs X eT N
  obtain ⟨s₂, o, st, r⟩ := w T locs X eT N
  exact ⟨s₂, o, XS.iushr X.here hx rfl (hb hby hd) rfl st, r⟩
theorem w_ladd (ok : Ok K Z n0 own code maxL ret nm) {x y : Int64} (hd : decode code pc = .ok (.ladd, 1)) (w : W K l R n0 P h k n (pc + 1) L (.long (x + y) :: S)) : W K l R n0 P h k n pc L (.long y :: .long x :: S) := by
  obtain ⟨p, e, s, m, args, below, meth, c⟩ := K
  obtain ⟨hx, hZ, hown, hby, -⟩ := ok
  intro T locs X eT N
  obtain ⟨s₂, o, st, r⟩ := w T locs X eT N
  exact ⟨s₂, o, XS.ladd X.here hx rfl (hb hby hd) rfl st, r⟩
theorem w_lsub (ok : Ok K Z n0 own code maxL ret nm) {x y : Int64} (hd : decode code pc = .ok (.lsub, 1)) (w : W K l R n0 P h k n (pc + 1) L (.long (x - y) :: S)) : W K l R n0 P h k n pc L (.long y :: .long x :: S) := by
  obtain ⟨p, e, s, m, args, below, meth, c⟩ := K
  obtain ⟨hx, hZ, hown, hby, -⟩ := ok
  intro T locs X eT N
  obtain ⟨s₂, o, st, r⟩ := w T locs X eT N
  exact ⟨s₂, o, XS.lsub X.here hx rfl (hb hby hd) rfl st, r⟩
theorem w_lmul (ok : Ok K Z n0 own code maxL ret nm) {x y : Int64} (hd : decode code pc = .ok (.lmul, 1)) (w : W K l R n0 P h k n (pc + 1) L (.long (x * y) :: S)) : W K l R n0 P h k n pc L (.long y :: .long x :: S) := by
  obtain ⟨p, e, s, m, args, below, meth, c⟩ := K
  obtain ⟨hx, hZ, hown, hby, -⟩ := ok
  intro T locs X eT N
  obtain ⟨s₂, o, st, r⟩ := w T locs X eT N
  exact ⟨s₂, o, XS.lmul X.here hx rfl (hb hby hd) rfl st, r⟩
theorem w_land (ok : Ok K Z n0 own code maxL ret nm) {x y : Int64} (hd : decode code pc = .ok (.land, 1)) (w : W K l R n0 P h k n (pc + 1) L (.long (x &&& y) :: S)) : W K l R n0 P h k n pc L (.long y :: .long x :: S) := by
  obtain ⟨p, e, s, m, args, below, meth, c⟩ := K
  obtain ⟨hx, hZ, hown, hby, -⟩ := ok
  intro T locs X eT N
  obtain ⟨s₂, o, st, r⟩ := w T locs X eT N
  exact ⟨s₂, o, XS.land X.here hx rfl (hb hby hd) rfl st, r⟩
theorem w_lor (ok : Ok K Z n0 own code maxL ret nm) {x y : Int64} (hd : decode code pc = .ok (.lor, 1)) (w : W K l R n0 P h k n (pc + 1) L (.long (x ||| y) :: S)) : W K l R n0 P h k n pc L (.long y :: .long x :: S) := by
  obtain ⟨p, e, s, m, args, below, meth, c⟩ := K
  obtain ⟨hx, hZ, hown, hby, -⟩ := ok
  intro T locs X eT N
  obtain ⟨s₂, o, st, r⟩ := w T locs X eT N
  exact ⟨s₂, o, XS.lor X.here hx rfl (hb hby hd) rfl st, r⟩
theorem w_lxor (ok : Ok K Z n0 own code maxL ret nm) {x y : Int64} (hd : decode code pc = .ok (.lxor, 1)) (w : W K l R n0 P h k n (pc + 1) L (.long (x ^^^ y) :: S)) : W K l R n0 P h k n pc L (.long y :: .long x :: S) := by
  obtain ⟨p, e, s, m, args, below, meth, c⟩ := K
  obtain ⟨hx, hZ, hown, hby, -⟩ := ok
  intro T locs X eT N
  obtain ⟨s₂, o, st, r⟩ := w T locs X eT N
  exact ⟨s₂, o, XS.lxor X.here hx rfl (hb hby hd) rfl st, r⟩
theorem w_lshl (ok : Ok K Z n0 own code maxL ret nm) {x : Int64} {y : Int32} (hd : decode code pc = .ok (.lshl, 1)) (w : W K l R n0 P h k n (pc + 1) L (.long (x <<< (y &&& 0x3f).toInt64) :: S)) : W K l R n0 P h k n pc L (.int y :: .long x :: S) := by
  obtain ⟨p, e, s, m, args, below, meth, c⟩ := K
  obtain ⟨hx, hZ, hown, hby, -⟩ := ok
  intro T locs X eT N
  obtain ⟨s₂, o, st, r⟩ := w T locs X eT N
  exact ⟨s₂, o, XS.lshl X.here hx rfl (hb hby hd) rfl st, r⟩
theorem w_lshr (ok : Ok K Z n0 own code maxL ret nm) {x : Int64} {y : Int32} (hd : decode code pc = .ok (.lshr, 1)) (w : W K l R n0 P h k n (pc + 1) L (.long (x >>> (y &&& 0x3f).toInt64) :: S)) : W K l R n0 P h k n pc L (.int y :: .long x :: S) := by
  obtain ⟨p, e, s, m, args, below, meth, c⟩ := K
  obtain ⟨hx, hZ, hown, hby, -⟩ := ok
  intro T locs X eT N
  obtain ⟨s₂, o, st, r⟩ := w T locs X eT N
  exact ⟨s₂, o, XS.lshr X.here hx rfl (hb hby hd) rfl st, r⟩
theorem w_lushr (ok : Ok K Z n0 own code maxL ret nm) {x : Int64} {y : Int32} (hd : decode code pc = .ok (.lushr, 1)) (w : W K l R n0 P h k n (pc + 1) L (.long ((x.toUInt64 >>> (y &&& 0x3f).toInt64.toUInt64).toInt64) :: S)) : W K l R n0 P h k n pc L (.int y :: .long x :: S) := by
  obtain ⟨p, e, s, m, args, below, meth, c⟩ := K
  obtain ⟨hx, hZ, hown, hby, -⟩ := ok
  intro T locs X eT N
  obtain ⟨s₂, o, st, r⟩ := w T locs X eT N
  exact ⟨s₂, o, XS.lushr X.here hx rfl (hb hby hd) rfl st, r⟩
theorem w_i2l (ok : Ok K Z n0 own code maxL ret nm) {x : Int32} (hd : decode code pc = .ok (.i2l, 1)) (w : W K l R n0 P h k n (pc + 1) L (.long (x.toInt64) :: S)) : W K l R n0 P h k n pc L (.int x :: S) := by
  obtain ⟨p, e, s, m, args, below, meth, c⟩ := K
  obtain ⟨hx, hZ, hown, hby, -⟩ := ok
  intro T locs X eT N
  obtain ⟨s₂, o, st, r⟩ := w T locs X eT N
  exact ⟨s₂, o, XS.i2l X.here hx rfl (hb hby hd) rfl st, r⟩
theorem w_l2i (ok : Ok K Z n0 own code maxL ret nm) {x : Int64} (hd : decode code pc = .ok (.l2i, 1)) (w : W K l R n0 P h k n (pc + 1) L (.int (x.toInt32) :: S)) : W K l R n0 P h k n pc L (.long x :: S) := by
  obtain ⟨p, e, s, m, args, below, meth, c⟩ := K
  obtain ⟨hx, hZ, hown, hby, -⟩ := ok
  intro T locs X eT N
  obtain ⟨s₂, o, st, r⟩ := w T locs X eT N
  exact ⟨s₂, o, XS.l2i X.here hx rfl (hb hby hd) rfl st, r⟩
theorem w_i2b (ok : Ok K Z n0 own code maxL ret nm) {x : Int32} (hd : decode code pc = .ok (.i2b, 1)) (w : W K l R n0 P h k n (pc + 1) L (.int (x.toInt8.toInt32) :: S)) : W K l R n0 P h k n pc L (.int x :: S) := by
  obtain ⟨p, e, s, m, args, below, meth, c⟩ := K
  obtain ⟨hx, hZ, hown, hby, -⟩ := ok
  intro T locs X eT N
  obtain ⟨s₂, o, st, r⟩ := w T locs X eT N
  exact ⟨s₂, o, XS.i2b X.here hx rfl (hb hby hd) rfl st, r⟩
theorem w_i2c (ok : Ok K Z n0 own code maxL ret nm) {x : Int32} (hd : decode code pc = .ok (.i2c, 1)) (w : W K l R n0 P h k n (pc + 1) L (.int (x.toUInt32.toUInt16.toUInt32.toInt32) :: S)) : W K l R n0 P h k n pc L (.int x :: S) := by
  obtain ⟨p, e, s, m, args, below, meth, c⟩ := K
  obtain ⟨hx, hZ, hown, hby, -⟩ := ok
  intro T locs X eT N
  obtain ⟨s₂, o, st, r⟩ := w T locs X eT N
  exact ⟨s₂, o, XS.i2c X.here hx rfl (hb hby hd) rfl st, r⟩
theorem w_ineg (ok : Ok K Z n0 own code maxL ret nm) {x : Int32} (hd : decode code pc = .ok (.ineg, 1)) (w : W K l R n0 P h k n (pc + 1) L (.int (-x) :: S)) : W K l R n0 P h k n pc L (.int x :: S) := by
  obtain ⟨p, e, s, m, args, below, meth, c⟩ := K
  obtain ⟨hx, hZ, hown, hby, -⟩ := ok
  intro T locs X eT N
  obtain ⟨s₂, o, st, r⟩ := w T locs X eT N
  exact ⟨s₂, o, XS.ineg X.here hx rfl (hb hby hd) rfl st, r⟩
theorem w_idiv (ok : Ok K Z n0 own code maxL ret nm) {x y : Int32} (hd : decode code pc = .ok (.idiv, 1)) (hy : y ≠ 0) (w : W K l R n0 P h k n (pc + 1) L (.int (x / y) :: S)) : W K l R n0 P h k n pc L (.int y :: .int x :: S) := by
  obtain ⟨p, e, s, m, args, below, meth, c⟩ := K
  obtain ⟨hx, hZ, hown, hby, -⟩ := ok
  intro T locs X eT N
  obtain ⟨s₂, o, st, r⟩ := w T locs X eT N
  exact ⟨s₂, o, XS.idiv X.here hx rfl (hb hby hd) rfl hy st, r⟩
theorem w_irem (ok : Ok K Z n0 own code maxL ret nm) {x y : Int32} (hd : decode code pc = .ok (.irem, 1)) (hy : y ≠ 0) (w : W K l R n0 P h k n (pc + 1) L (.int (x % y) :: S)) : W K l R n0 P h k n pc L (.int y :: .int x :: S) := by
  obtain ⟨p, e, s, m, args, below, meth, c⟩ := K
  obtain ⟨hx, hZ, hown, hby, -⟩ := ok
  intro T locs X eT N
  obtain ⟨s₂, o, st, r⟩ := w T locs X eT N
  exact ⟨s₂, o, iremM X hx rfl (hb hby hd) rfl hy st, r⟩
theorem w_ldiv (ok : Ok K Z n0 own code maxL ret nm) {x y : Int64} (hd : decode code pc = .ok (.ldiv, 1)) (hy : y ≠ 0) (w : W K l R n0 P h k n (pc + 1) L (.long (x / y) :: S)) : W K l R n0 P h k n pc L (.long y :: .long x :: S) := by
  obtain ⟨p, e, s, m, args, below, meth, c⟩ := K
  obtain ⟨hx, hZ, hown, hby, -⟩ := ok
  intro T locs X eT N
  obtain ⟨s₂, o, st, r⟩ := w T locs X eT N
  exact ⟨s₂, o, XS.ldiv X.here hx rfl (hb hby hd) rfl hy st, r⟩
theorem w_lrem (ok : Ok K Z n0 own code maxL ret nm) {x y : Int64} (hd : decode code pc = .ok (.lrem, 1)) (hy : y ≠ 0) (w : W K l R n0 P h k n (pc + 1) L (.long (x % y) :: S)) : W K l R n0 P h k n pc L (.long y :: .long x :: S) := by
  obtain ⟨p, e, s, m, args, below, meth, c⟩ := K
  obtain ⟨hx, hZ, hown, hby, -⟩ := ok
  intro T locs X eT N
  obtain ⟨s₂, o, st, r⟩ := w T locs X eT N
  exact ⟨s₂, o, XS.lrem X.here hx rfl (hb hby hd) rfl hy (by rw [lrem_mod]; exact st), r⟩
theorem w_goto (ok : Ok K Z n0 own code maxL ret nm) {o : Int} {pc' : Nat} (hd : decode code pc = .ok (.goto o, 3)) (hp : (pc : Int) + o = (pc' : Int)) (w : W K l R n0 P h k n (pc') L (S)) : W K l R n0 P h k n pc L (S) := by
  obtain ⟨p, e, s, m, args, below, meth, c⟩ := K
  obtain ⟨hx, hZ, hown, hby, -⟩ := ok
  intro T locs X eT N
  obtain ⟨s₂, o, st, r⟩ := w T locs X eT N
  exact ⟨s₂, o, XS.goto X.here hx rfl (pc0 := pc) (pc' := pc') rfl (hb hby hd) (by rw [hp]; exact Int.natCast_nonneg _) (by rw [hp]; rfl) st, r⟩
theorem w_ldcI (ok : Ok K Z n0 own code maxL ret nm) {i : Nat} {v : Int32} (hd : decode code pc = .ok (.ldc i, 2)) (w1 : (Cond.constant own i v).before a0 Z = true) (w : W K l R n0 P h k n (pc + 2) L (.int v :: S)) : W K l R n0 P h k n pc L (S) := by
  obtain ⟨p, e, s, m, args, below, meth, c⟩ := K
  obtain ⟨hx, hZ, hown, hby, -⟩ := ok
  intro T locs X eT N
  obtain ⟨s₂, o, st, r⟩ := w T locs X eT N
  exact ⟨s₂, o, X.ldcInt hx hown (mvT hZ w1) (g := mkF m pc L S) rfl (hb hby hd) _ st, r⟩
theorem w_ldc2J (ok : Ok K Z n0 own code maxL ret nm) {i : Nat} {v : Int64} (hd : decode code pc = .ok (.ldc2_w i, 3)) (w1 : (Cond.constantLong own i v).before a0 Z = true) (w : W K l R n0 P h k n (pc + 3) L (.long v :: S)) : W K l R n0 P h k n pc L (S) := by
  obtain ⟨p, e, s, m, args, below, meth, c⟩ := K
  obtain ⟨hx, hZ, hown, hby, -⟩ := ok
  intro T locs X eT N
  obtain ⟨s₂, o, st, r⟩ := w T locs X eT N
  exact ⟨s₂, o, X.ldc2Long hx hown (mvT hZ w1) (g := mkF m pc L S) rfl (hb hby hd) _ st, r⟩
theorem w_icmp_eq (ok : Ok K Z n0 own code maxL ret nm) {x y : Int32} {o : Int} {pc' : Nat} (hd : decode code pc = .ok (.if_icmp .eq o, 3)) (hp : (pc : Int) + o = (pc' : Int)) (wy : x = y → W K l R n0 P h k n pc' L S) (wn : ¬ x = y → W K l R n0 P h k n (pc + 3) L S) : W K l R n0 P h k n pc L (.int y :: .int x :: S) := by
  obtain ⟨p, e, s, m, args, below, meth, c⟩ := K
  obtain ⟨hx, hZ, hown, hby, -⟩ := ok
  intro T locs X eT N
  by_cases hc : x = y
  · obtain ⟨s₂, o, st, r⟩ := wy hc T locs X eT N
    exact ⟨s₂, o, XS.icmpYes X.here hx rfl (pc0 := pc) (pc' := pc') rfl (hb hby hd) rfl (teq hc).1 (by rw [hp]; exact Int.natCast_nonneg _) (by rw [hp]; rfl) st, r⟩
  · obtain ⟨s₂, o, st, r⟩ := wn hc T locs X eT N
    exact ⟨s₂, o, XS.icmpNo X.here hx rfl (hb hby hd) rfl (feq hc).1 st, r⟩
theorem w_if_eq (ok : Ok K Z n0 own code maxL ret nm) {x : Int32} {o : Int} {pc' : Nat} (hd : decode code pc = .ok (.ifCond .eq o, 3)) (hp : (pc : Int) + o = (pc' : Int)) (wy : x = 0 → W K l R n0 P h k n pc' L S) (wn : ¬ x = 0 → W K l R n0 P h k n (pc + 3) L S) : W K l R n0 P h k n pc L (.int x :: S) := by
  obtain ⟨p, e, s, m, args, below, meth, c⟩ := K
  obtain ⟨hx, hZ, hown, hby, -⟩ := ok
  intro T locs X eT N
  by_cases hc : x = 0
  · obtain ⟨s₂, o, st, r⟩ := wy hc T locs X eT N
    exact ⟨s₂, o, XS.ifYes X.here hx rfl (pc0 := pc) (pc' := pc') rfl (hb hby hd) rfl ((if0 _ _).trans (teq hc).1) (by rw [hp]; exact Int.natCast_nonneg _) (by rw [hp]; rfl) st, r⟩
  · obtain ⟨s₂, o, st, r⟩ := wn hc T locs X eT N
    exact ⟨s₂, o, XS.ifNo X.here hx rfl (hb hby hd) rfl ((if0 _ _).trans (feq hc).1) st, r⟩
theorem w_icmp_ne (ok : Ok K Z n0 own code maxL ret nm) {x y : Int32} {o : Int} {pc' : Nat} (hd : decode code pc = .ok (.if_icmp .ne o, 3)) (hp : (pc : Int) + o = (pc' : Int)) (wy : ¬ x = y → W K l R n0 P h k n pc' L S) (wn : x = y → W K l R n0 P h k n (pc + 3) L S) : W K l R n0 P h k n pc L (.int y :: .int x :: S) := by
  obtain ⟨p, e, s, m, args, below, meth, c⟩ := K
  obtain ⟨hx, hZ, hown, hby, -⟩ := ok
  intro T locs X eT N
  by_cases hc : x = y
  · obtain ⟨s₂, o, st, r⟩ := wn hc T locs X eT N
    exact ⟨s₂, o, XS.icmpNo X.here hx rfl (hb hby hd) rfl (teq hc).2 st, r⟩
  · obtain ⟨s₂, o, st, r⟩ := wy hc T locs X eT N
    exact ⟨s₂, o, XS.icmpYes X.here hx rfl (pc0 := pc) (pc' := pc') rfl (hb hby hd) rfl (feq hc).2 (by rw [hp]; exact Int.natCast_nonneg _) (by rw [hp]; rfl) st, r⟩
theorem w_if_ne (ok : Ok K Z n0 own code maxL ret nm) {x : Int32} {o : Int} {pc' : Nat} (hd : decode code pc = .ok (.ifCond .ne o, 3)) (hp : (pc : Int) + o = (pc' : Int)) (wy : ¬ x = 0 → W K l R n0 P h k n pc' L S) (wn : x = 0 → W K l R n0 P h k n (pc + 3) L S) : W K l R n0 P h k n pc L (.int x :: S) := by
  obtain ⟨p, e, s, m, args, below, meth, c⟩ := K
  obtain ⟨hx, hZ, hown, hby, -⟩ := ok
  intro T locs X eT N
  by_cases hc : x = 0
  · obtain ⟨s₂, o, st, r⟩ := wn hc T locs X eT N
    exact ⟨s₂, o, XS.ifNo X.here hx rfl (hb hby hd) rfl ((if0 _ _).trans (teq hc).2) st, r⟩
  · obtain ⟨s₂, o, st, r⟩ := wy hc T locs X eT N
    exact ⟨s₂, o, XS.ifYes X.here hx rfl (pc0 := pc) (pc' := pc') rfl (hb hby hd) rfl ((if0 _ _).trans (feq hc).2) (by rw [hp]; exact Int.natCast_nonneg _) (by rw [hp]; rfl) st, r⟩
theorem w_icmp_lt (ok : Ok K Z n0 own code maxL ret nm) {x y : Int32} {o : Int} {pc' : Nat} (hd : decode code pc = .ok (.if_icmp .lt o, 3)) (hp : (pc : Int) + o = (pc' : Int)) (wy : x < y → W K l R n0 P h k n pc' L S) (wn : ¬ x < y → W K l R n0 P h k n (pc + 3) L S) : W K l R n0 P h k n pc L (.int y :: .int x :: S) := by
  obtain ⟨p, e, s, m, args, below, meth, c⟩ := K
  obtain ⟨hx, hZ, hown, hby, -⟩ := ok
  intro T locs X eT N
  by_cases hc : x < y
  · obtain ⟨s₂, o, st, r⟩ := wy hc T locs X eT N
    exact ⟨s₂, o, XS.icmpYes X.here hx rfl (pc0 := pc) (pc' := pc') rfl (hb hby hd) rfl (tlt hc).1 (by rw [hp]; exact Int.natCast_nonneg _) (by rw [hp]; rfl) st, r⟩
  · obtain ⟨s₂, o, st, r⟩ := wn hc T locs X eT N
    exact ⟨s₂, o, XS.icmpNo X.here hx rfl (hb hby hd) rfl (flt hc).1 st, r⟩
theorem w_if_lt (ok : Ok K Z n0 own code maxL ret nm) {x : Int32} {o : Int} {pc' : Nat} (hd : decode code pc = .ok (.ifCond .lt o, 3)) (hp : (pc : Int) + o = (pc' : Int)) (wy : x < 0 → W K l R n0 P h k n pc' L S) (wn : ¬ x < 0 → W K l R n0 P h k n (pc + 3) L S) : W K l R n0 P h k n pc L (.int x :: S) := by
  obtain ⟨p, e, s, m, args, below, meth, c⟩ := K
  obtain ⟨hx, hZ, hown, hby, -⟩ := ok
  intro T locs X eT N
  by_cases hc : x < 0
  · obtain ⟨s₂, o, st, r⟩ := wy hc T locs X eT N
    exact ⟨s₂, o, XS.ifYes X.here hx rfl (pc0 := pc) (pc' := pc') rfl (hb hby hd) rfl ((if0 _ _).trans (tlt hc).1) (by rw [hp]; exact Int.natCast_nonneg _) (by rw [hp]; rfl) st, r⟩
  · obtain ⟨s₂, o, st, r⟩ := wn hc T locs X eT N
    exact ⟨s₂, o, XS.ifNo X.here hx rfl (hb hby hd) rfl ((if0 _ _).trans (flt hc).1) st, r⟩
theorem w_icmp_ge (ok : Ok K Z n0 own code maxL ret nm) {x y : Int32} {o : Int} {pc' : Nat} (hd : decode code pc = .ok (.if_icmp .ge o, 3)) (hp : (pc : Int) + o = (pc' : Int)) (wy : ¬ x < y → W K l R n0 P h k n pc' L S) (wn : x < y → W K l R n0 P h k n (pc + 3) L S) : W K l R n0 P h k n pc L (.int y :: .int x :: S) := by
  obtain ⟨p, e, s, m, args, below, meth, c⟩ := K
  obtain ⟨hx, hZ, hown, hby, -⟩ := ok
  intro T locs X eT N
  by_cases hc : x < y
  · obtain ⟨s₂, o, st, r⟩ := wn hc T locs X eT N
    exact ⟨s₂, o, XS.icmpNo X.here hx rfl (hb hby hd) rfl (tlt hc).2.1 st, r⟩
  · obtain ⟨s₂, o, st, r⟩ := wy hc T locs X eT N
    exact ⟨s₂, o, XS.icmpYes X.here hx rfl (pc0 := pc) (pc' := pc') rfl (hb hby hd) rfl (flt hc).2.1 (by rw [hp]; exact Int.natCast_nonneg _) (by rw [hp]; rfl) st, r⟩
theorem w_if_ge (ok : Ok K Z n0 own code maxL ret nm) {x : Int32} {o : Int} {pc' : Nat} (hd : decode code pc = .ok (.ifCond .ge o, 3)) (hp : (pc : Int) + o = (pc' : Int)) (wy : ¬ x < 0 → W K l R n0 P h k n pc' L S) (wn : x < 0 → W K l R n0 P h k n (pc + 3) L S) : W K l R n0 P h k n pc L (.int x :: S) := by
  obtain ⟨p, e, s, m, args, below, meth, c⟩ := K
  obtain ⟨hx, hZ, hown, hby, -⟩ := ok
  intro T locs X eT N
  by_cases hc : x < 0
  · obtain ⟨s₂, o, st, r⟩ := wn hc T locs X eT N
    exact ⟨s₂, o, XS.ifNo X.here hx rfl (hb hby hd) rfl ((if0 _ _).trans (tlt hc).2.1) st, r⟩
  · obtain ⟨s₂, o, st, r⟩ := wy hc T locs X eT N
    exact ⟨s₂, o, XS.ifYes X.here hx rfl (pc0 := pc) (pc' := pc') rfl (hb hby hd) rfl ((if0 _ _).trans (flt hc).2.1) (by rw [hp]; exact Int.natCast_nonneg _) (by rw [hp]; rfl) st, r⟩
theorem w_icmp_gt (ok : Ok K Z n0 own code maxL ret nm) {x y : Int32} {o : Int} {pc' : Nat} (hd : decode code pc = .ok (.if_icmp .gt o, 3)) (hp : (pc : Int) + o = (pc' : Int)) (wy : y < x → W K l R n0 P h k n pc' L S) (wn : ¬ y < x → W K l R n0 P h k n (pc + 3) L S) : W K l R n0 P h k n pc L (.int y :: .int x :: S) := by
  obtain ⟨p, e, s, m, args, below, meth, c⟩ := K
  obtain ⟨hx, hZ, hown, hby, -⟩ := ok
  intro T locs X eT N
  by_cases hc : y < x
  · obtain ⟨s₂, o, st, r⟩ := wy hc T locs X eT N
    exact ⟨s₂, o, XS.icmpYes X.here hx rfl (pc0 := pc) (pc' := pc') rfl (hb hby hd) rfl (tlt hc).2.2.1 (by rw [hp]; exact Int.natCast_nonneg _) (by rw [hp]; rfl) st, r⟩
  · obtain ⟨s₂, o, st, r⟩ := wn hc T locs X eT N
    exact ⟨s₂, o, XS.icmpNo X.here hx rfl (hb hby hd) rfl (flt hc).2.2.1 st, r⟩
theorem w_if_gt (ok : Ok K Z n0 own code maxL ret nm) {x : Int32} {o : Int} {pc' : Nat} (hd : decode code pc = .ok (.ifCond .gt o, 3)) (hp : (pc : Int) + o = (pc' : Int)) (wy : 0 < x → W K l R n0 P h k n pc' L S) (wn : ¬ 0 < x → W K l R n0 P h k n (pc + 3) L S) : W K l R n0 P h k n pc L (.int x :: S) := by
  obtain ⟨p, e, s, m, args, below, meth, c⟩ := K
  obtain ⟨hx, hZ, hown, hby, -⟩ := ok
  intro T locs X eT N
  by_cases hc : 0 < x
  · obtain ⟨s₂, o, st, r⟩ := wy hc T locs X eT N
    exact ⟨s₂, o, XS.ifYes X.here hx rfl (pc0 := pc) (pc' := pc') rfl (hb hby hd) rfl ((if0 _ _).trans (tlt hc).2.2.1) (by rw [hp]; exact Int.natCast_nonneg _) (by rw [hp]; rfl) st, r⟩
  · obtain ⟨s₂, o, st, r⟩ := wn hc T locs X eT N
    exact ⟨s₂, o, XS.ifNo X.here hx rfl (hb hby hd) rfl ((if0 _ _).trans (flt hc).2.2.1) st, r⟩
theorem w_icmp_le (ok : Ok K Z n0 own code maxL ret nm) {x y : Int32} {o : Int} {pc' : Nat} (hd : decode code pc = .ok (.if_icmp .le o, 3)) (hp : (pc : Int) + o = (pc' : Int)) (wy : ¬ y < x → W K l R n0 P h k n pc' L S) (wn : y < x → W K l R n0 P h k n (pc + 3) L S) : W K l R n0 P h k n pc L (.int y :: .int x :: S) := by
  obtain ⟨p, e, s, m, args, below, meth, c⟩ := K
  obtain ⟨hx, hZ, hown, hby, -⟩ := ok
  intro T locs X eT N
  by_cases hc : y < x
  · obtain ⟨s₂, o, st, r⟩ := wn hc T locs X eT N
    exact ⟨s₂, o, XS.icmpNo X.here hx rfl (hb hby hd) rfl (tlt hc).2.2.2 st, r⟩
  · obtain ⟨s₂, o, st, r⟩ := wy hc T locs X eT N
    exact ⟨s₂, o, XS.icmpYes X.here hx rfl (pc0 := pc) (pc' := pc') rfl (hb hby hd) rfl (flt hc).2.2.2 (by rw [hp]; exact Int.natCast_nonneg _) (by rw [hp]; rfl) st, r⟩
theorem w_if_le (ok : Ok K Z n0 own code maxL ret nm) {x : Int32} {o : Int} {pc' : Nat} (hd : decode code pc = .ok (.ifCond .le o, 3)) (hp : (pc : Int) + o = (pc' : Int)) (wy : ¬ 0 < x → W K l R n0 P h k n pc' L S) (wn : 0 < x → W K l R n0 P h k n (pc + 3) L S) : W K l R n0 P h k n pc L (.int x :: S) := by
  obtain ⟨p, e, s, m, args, below, meth, c⟩ := K
  obtain ⟨hx, hZ, hown, hby, -⟩ := ok
  intro T locs X eT N
  by_cases hc : 0 < x
  · obtain ⟨s₂, o, st, r⟩ := wn hc T locs X eT N
    exact ⟨s₂, o, XS.ifNo X.here hx rfl (hb hby hd) rfl ((if0 _ _).trans (tlt hc).2.2.2) st, r⟩
  · obtain ⟨s₂, o, st, r⟩ := wy hc T locs X eT N
    exact ⟨s₂, o, XS.ifYes X.here hx rfl (pc0 := pc) (pc' := pc') rfl (hb hby hd) rfl ((if0 _ _).trans (flt hc).2.2.2) (by rw [hp]; exact Int.natCast_nonneg _) (by rw [hp]; rfl) st, r⟩
theorem w_lcmp (ok : Ok K Z n0 own code maxL ret nm) {x y : Int64} (hd : decode code pc = .ok (.lcmp, 1)) (w : W K l R n0 P h k n (pc + 1) L (.int (lcmpW x y) :: S)) : W K l R n0 P h k n pc L (.long y :: .long x :: S) := by
  obtain ⟨p, e, s, m, args, below, meth, c⟩ := K
  obtain ⟨hx, hZ, hown, hby, -⟩ := ok
  intro T locs X eT N
  obtain ⟨s₂, o, st, r⟩ := w T locs X eT N
  exact ⟨s₂, o, XS.lcmp X.here hx rfl (hb hby hd) rfl st, r⟩
theorem w_lcmp_eq (ok : Ok K Z n0 own code maxL ret nm) {x y : Int64} {o : Int} {pc' : Nat} (hd : decode code pc = .ok (.lcmp, 1)) (hd2 : decode code (pc + 1) = .ok (.ifCond .eq o, 3)) (hp : ((pc + 1 : Nat) : Int) + o = (pc' : Int)) (wy : x = y → W K l R n0 P h k n pc' L S) (wn : ¬ x = y → W K l R n0 P h k n (pc + 4) L S) : W K l R n0 P h k n pc L (.long y :: .long x :: S) :=
  w_lcmp ok hd (w_if_eq ok hd2 hp (fun hc => wy ((lw_eq x y).mp hc)) (fun hc => wn (fun q => hc ((lw_eq x y).mpr q))))
theorem w_lcmp_ne (ok : Ok K Z n0 own code maxL ret nm) {x y : Int64} {o : Int} {pc' : Nat} (hd : decode code pc = .ok (.lcmp, 1)) (hd2 : decode code (pc + 1) = .ok (.ifCond .ne o, 3)) (hp : ((pc + 1 : Nat) : Int) + o = (pc' : Int)) (wy : ¬ x = y → W K l R n0 P h k n pc' L S) (wn : x = y → W K l R n0 P h k n (pc + 4) L S) : W K l R n0 P h k n pc L (.long y :: .long x :: S) :=
  w_lcmp ok hd (w_if_ne ok hd2 hp (fun hc => wy (fun q => hc ((lw_eq x y).mpr q))) (fun hc => wn ((lw_eq x y).mp hc)))
theorem w_lcmp_lt (ok : Ok K Z n0 own code maxL ret nm) {x y : Int64} {o : Int} {pc' : Nat} (hd : decode code pc = .ok (.lcmp, 1)) (hd2 : decode code (pc + 1) = .ok (.ifCond .lt o, 3)) (hp : ((pc + 1 : Nat) : Int) + o = (pc' : Int)) (wy : x < y → W K l R n0 P h k n pc' L S) (wn : ¬ x < y → W K l R n0 P h k n (pc + 4) L S) : W K l R n0 P h k n pc L (.long y :: .long x :: S) :=
  w_lcmp ok hd (w_if_lt ok hd2 hp (fun hc => wy ((lw_lt x y).mp hc)) (fun hc => wn (fun q => hc ((lw_lt x y).mpr q))))
theorem w_lcmp_ge (ok : Ok K Z n0 own code maxL ret nm) {x y : Int64} {o : Int} {pc' : Nat} (hd : decode code pc = .ok (.lcmp, 1)) (hd2 : decode code (pc + 1) = .ok (.ifCond .ge o, 3)) (hp : ((pc + 1 : Nat) : Int) + o = (pc' : Int)) (wy : ¬ x < y → W K l R n0 P h k n pc' L S) (wn : x < y → W K l R n0 P h k n (pc + 4) L S) : W K l R n0 P h k n pc L (.long y :: .long x :: S) :=
  w_lcmp ok hd (w_if_ge ok hd2 hp (fun hc => wy (fun q => hc ((lw_lt x y).mpr q))) (fun hc => wn ((lw_lt x y).mp hc)))
theorem w_lcmp_gt (ok : Ok K Z n0 own code maxL ret nm) {x y : Int64} {o : Int} {pc' : Nat} (hd : decode code pc = .ok (.lcmp, 1)) (hd2 : decode code (pc + 1) = .ok (.ifCond .gt o, 3)) (hp : ((pc + 1 : Nat) : Int) + o = (pc' : Int)) (wy : y < x → W K l R n0 P h k n pc' L S) (wn : ¬ y < x → W K l R n0 P h k n (pc + 4) L S) : W K l R n0 P h k n pc L (.long y :: .long x :: S) :=
  w_lcmp ok hd (w_if_gt ok hd2 hp (fun hc => wy ((lw_gt x y).mp hc)) (fun hc => wn (fun q => hc ((lw_gt x y).mpr q))))
theorem w_lcmp_le (ok : Ok K Z n0 own code maxL ret nm) {x y : Int64} {o : Int} {pc' : Nat} (hd : decode code pc = .ok (.lcmp, 1)) (hd2 : decode code (pc + 1) = .ok (.ifCond .le o, 3)) (hp : ((pc + 1 : Nat) : Int) + o = (pc' : Int)) (wy : ¬ y < x → W K l R n0 P h k n pc' L S) (wn : y < x → W K l R n0 P h k n (pc + 4) L S) : W K l R n0 P h k n pc L (.long y :: .long x :: S) :=
  w_lcmp ok hd (w_if_le ok hd2 hp (fun hc => wy (fun q => hc ((lw_gt x y).mpr q))) (fun hc => wn ((lw_gt x y).mp hc)))
theorem w_out {t : FieldType} {i : Instr} {w : Value} (ok : Ok K Z n0 own code maxL (some t) nm) (hn : narrow t w = w) (hi : (i = .ireturn ∧ (t = .int ∨ t = .boolean ∨ t = .byte ∨ t = .char ∨ t = .short) ∧ ∃ z, w = .int z) ∨ (i = .lreturn ∧ t = .long ∧ ∃ z, w = .long z) ∨ (i = .dreturn ∧ t = .double ∧ ∃ z, w = .double z) ∨ (i = .freturn ∧ t = .float ∧ ∃ z, w = .float z) ∨ (i = .areturn ∧ t.isReference = true ∧ w.isRef = true))
    (hd : decode code pc = .ok (i, 1)) (hk : k ≤ R.cells) (hs : n ≤ R.slots) (hP : P (some w) h) : W K l R n0 P h k n pc L (w :: S) := by
  obtain ⟨p, e, s, m, args, below, meth, c⟩ := K
  obtain ⟨hx, hZ, hown, hby, hml, hret, hnm, hlk, hn0⟩ := ok
  intro T locs X eT N
  obtain ⟨fs, hr, hrun, hended, hW, hsame⟩ := X.leave (v := some w) (fun q => by rw [hret] at q; cases q)
  exact ⟨_, _, retOut X hx hret hn hi (hb hby hd) hr, hrun, hended, _, _, rfl, ⟨by show P (some w) T.heap; rw [eT]; exact hP, N⟩, ⟨_, rfl⟩, hW, hsame.mono hk hs⟩
theorem w_iret {z : Int32} (ok : Ok K Z n0 own code maxL (some .int) nm) (hd : decode code pc = .ok (.ireturn, 1)) (hk : k ≤ R.cells) (hs : n ≤ R.slots) (hP : P (some (.int z)) h) : W K l R n0 P h k n pc L (.int z :: S) :=
  w_out ok rfl (Or.inl ⟨rfl, by simp, z, rfl⟩) hd hk hs hP
theorem w_lret {z : Int64} (ok : Ok K Z n0 own code maxL (some .long) nm) (hd : decode code pc = .ok (.lreturn, 1)) (hk : k ≤ R.cells) (hs : n ≤ R.slots) (hP : P (some (.long z)) h) : W K l R n0 P h k n pc L (.long z :: S) :=
  w_out ok rfl (Or.inr (Or.inl ⟨rfl, rfl, z, rfl⟩)) hd hk hs hP
theorem w_aret {w : Value} {t : FieldType} (ok : Ok K Z n0 own code maxL (some t) nm) (ht : t.isReference = true) (hw : w.isRef = true) (hd : decode code pc = .ok (.areturn, 1)) (hk : k ≤ R.cells) (hs : n ≤ R.slots) (hP : P (some w) h) : W K l R n0 P h k n pc L (w :: S) :=
  w_out ok (by rcases ref_cases hw with rfl | ⟨_, rfl⟩ <;> cases t <;> first | rfl | cases ht) (Or.inr (Or.inr (Or.inr (Or.inr ⟨rfl, ht, hw⟩)))) hd hk hs hP
theorem w_bret {z : Int32} {t : FieldType} (ok : Ok K Z n0 own code maxL (some t) nm) (ht : t = .boolean ∨ t = .byte ∨ t = .char ∨ t = .short) (hd : decode code pc = .ok (.ireturn, 1)) (hk : k ≤ R.cells) (hs : n ≤ R.slots) (hP : P (some (.int (nar t z))) h) : W K l R n0 P h k n pc L (.int z :: S) := by
  obtain ⟨p, e, s, m, args, below, meth, c⟩ := K
  obtain ⟨hx, hZ, hown, hby, hml, hret, hnm, hlk, hn0⟩ := ok
  intro T locs X eT N
  obtain ⟨fs, hr, hrun, hended, hW, hsame⟩ := X.leave (v := some (.int (nar t z))) (fun q => by rw [hret] at q; cases q)
  exact ⟨_, _, retN X hx hret ht (hb hby hd) hr, hrun, hended, _, _, rfl, ⟨by show P (some (.int (nar t z))) T.heap; rw [eT]; exact hP, N⟩, ⟨_, rfl⟩, hW, hsame.mono hk hs⟩
theorem w_ret (ok : Ok K Z n0 own code maxL none nm) (hd : decode code pc = .ok (.return_, 1)) (hk : k ≤ R.cells) (hs : n ≤ R.slots) (hP : P none h) : W K l R n0 P h k n pc L [] := by
  obtain ⟨p, e, s, m, args, below, meth, c⟩ := K
  obtain ⟨hx, hZ, hown, hby, hml, hret, hnm, hlk, hn0⟩ := ok
  intro T locs X eT N
  obtain ⟨fs, hr, hrun, hended, hW, hsame⟩ := X.leave (v := none) (fun _ => rfl)
  exact ⟨_, _, X.returnOut hx hret (hb hby hd) hr, hrun, hended, _, _, rfl, ⟨by show P none T.heap; rw [eT]; exact hP, N⟩, ⟨_, rfl⟩, hW, hsame.mono hk hs⟩
abbrev notHandle (y : MethodName) : Prop := y.cls ≠ "java/lang/invoke/MethodHandle" ∧ y.cls ≠ "java/lang/invoke/VarHandle"
theorem w_callS (ok : Ok K Z n0 own code maxL ret nm) {index : Nat} {y : MethodName} {bytes : ByteArray} {mL : Nat} {rt : Option FieldType} {rm : Room} {argsL rest : List Value} {Q : Option Value → Heap → Prop} {ps : List FieldType} {r : Option FieldType}
    (hd : decode code pc = .ok (.invokestatic index, 3)) (w1 : (Cond.methodLink own index y).before a0 Z = true) (w2 : (Cond.static y).before a0 Z = true) (w3 : (Cond.initialized y.cls).before a0 Z = true) (w4 : (Cond.code y bytes mL rt).before a0 Z = true) (hy : notHandle y)
    (pd : parseMethodDescriptor y.desc = some ⟨ps, r⟩) (hlen : argsL.length = ps.length) (hL : L.size = maxL) (hf : rm.frames + 1 ≤ R.frames) (hl : (rest.map fun v => v.category).sum + (mL + 11) + rm.locals ≤ R.locals) (hc : k + rm.cells ≤ R.cells) (hs : n + rm.slots ≤ R.slots)
    (hM : Old Z n0 h → Met l Z n0 y bytes mL rt [] rm argsL.toArray h Q) (w : ∀ v h', Q v h' → W K l R n0 P h' (k + rm.cells) (n + rm.slots) (pc + 3) L (v.toList ++ rest)) : W K l R n0 P h k n pc L (argsL.reverse ++ rest) := by
  obtain ⟨p, e, s, m, args, below, meth, c⟩ := K
  obtain ⟨hx, hZ, hown, hby, hml, hret, hnm, hlk, hn0⟩ := ok
  intro T locs X eT N
  have hM := hM (by rw [← eT]; exact old_now hn0 X N)
  obtain ⟨v, _, ⟨T1, L1, k1, n1⟩, -, X1, ⟨Lc, ⟨hQ, N1⟩, l1, y1, z1⟩, st⟩ := Jvm.LawKit.callS X hx (y := y) hown (mvT hZ w1) (mvT hZ w2) (mvT hZ w3) (mvT hZ w4) hy (backOf (W := (rest.map fun v => v.category).sum) (Q := fun v h L => Q v h ∧ Fr n0 L) hM hZ w4 w3 hf hl) (g := mkF m pc L (argsL.reverse ++ rest)) rfl (hL.trans hml.symm) (argsL := argsL) (rest := rest) (lenOf pd hlen) rfl (by show 2 * 0 + _ ≤ _; omega) (hb hby hd) (fun _ _ => ⟨rfl, eT, hc, hs⟩)
  dsimp only [Pt.U, Pt.locs, Pt.cells, Pt.slots] at X1 l1 y1 z1 st hQ
  subst l1 y1 z1
  obtain ⟨s₂, o, st2, r2⟩ := w v _ hQ T1 _ X1 rfl (Fr.app N N1)
  exact ⟨s₂, o, st _ st2, r2⟩
theorem pa_z {N : Nat} (q : N < 2 ^ 31) : ∃ z : Int32, N = z.toNatClampNeg ∧ ¬ z < 0 := by
  have e : (Int32.ofNat N).toInt = N := Int32.toInt_ofNat_of_lt q
  refine ⟨Int32.ofNat N, ?_, ?_⟩
  · simp [Int32.toNatClampNeg, e]
  · rw [Int32.lt_iff_toInt_lt, e]; simp
def PA (ty : FieldType) (Z : State) (h : Heap) (a : Addr) (vs : List Value) : Prop := ∃ c : Cell, Arr Z h a c ty ∧ vs.length < 2 ^ 31 ∧ c.slots = vs.toArray ∧ ∀ v ∈ vs, fits ty v = true
theorem pa_in {c : Cell} {vs : List Value} {j : Int32} (q : c.slots = vs.toArray) (h0 : ¬ j < 0) (hj : j.toNatClampNeg < vs.length) : ¬ (j < 0 ∨ c.slots.size ≤ j.toNatClampNeg) := by
  rw [q]; rintro (y | y)
  · exact h0 y
  · simp at y; omega
section PAs
variable {ty : FieldType} {h' : Heap} {a b : Addr} {vs : List Value} {v : Value} {sl : Nat} {ws : List Addr}
theorem PA.lt (A : PA ty Z h a vs) : a < h.size := by obtain ⟨c, A, -⟩ := A; exact A.lt
theorem PA.len (A : PA ty Z h a vs) : vs.length < 2 ^ 31 := by obtain ⟨c, A, q, -⟩ := A; exact q
theorem PA.ext (A : PA ty Z h a vs) (E : Ext h h') : PA ty Z h' a vs := by obtain ⟨c, A, r⟩ := A; exact ⟨c, A.ext E, r⟩
theorem PA.other (A : PA ty Z h b vs) (W1 : Wr h h' a sl v) (ne : b ≠ a) : PA ty Z h' b vs := by obtain ⟨c, A, r⟩ := A; exact ⟨c, A.other W1 ne, r⟩
theorem PA.keep (A : PA ty Z h a vs) (K1 : Keep h h' ws) (q : a ∉ ws) : PA ty Z h' a vs := by obtain ⟨c, A, r⟩ := A; exact ⟨c, ⟨K1.2.1 a c A.1 q, A.2⟩, r⟩
theorem PA.set (A : PA ty Z h a vs) (W1 : Wr h h' a sl v) (hv : fits ty v = true) : PA ty Z h' a (vs.set sl v) := by
  obtain ⟨c, A, hl, hs, hf⟩ := A
  refine ⟨c.setSlot sl v, A.same W1, by rw [List.length_set]; exact hl, ?_, ?_⟩
  · show c.slots.setIfInBounds sl v = _
    rw [hs]; simp
  · intro u hu
    rcases List.mem_or_eq_of_mem_set hu with q | rfl
    · exact hf _ q
    · exact hv
theorem PA.arv (A : PA ty Z h a vs) {z : Int32} (hz : vs.length = z.toNatClampNeg) (hz0 : ¬ z < 0) (d : Value) : ∃ k, Arv Z h a k ty z vs d := by
  obtain ⟨c, A, hl, hs, hf⟩ := A
  refine ⟨c.cls, c, A, rfl, by rw [hs]; simpa using hz, hz0, fun i hi => ?_, fun i hi => ?_⟩
  · rw [hs] at hi ⊢
    simp at hi
    simp [List.getD_eq_getElem?_getD, List.getElem?_eq_getElem hi]
  · rw [hs] at hi
    simp at hi
    rw [List.getD_eq_getElem?_getD, List.getElem?_eq_getElem hi]
    exact hf _ (List.getElem_mem hi)
theorem PA.of_arv {k : ClassId} {z : Int32} {d : Value} (B : Arv Z h a k ty z vs d) (hl : vs.length = z.toNatClampNeg) : PA ty Z h a vs := by
  obtain ⟨c, A, -, S1, N1, H, G⟩ := B
  have e : c.slots = vs.toArray := by
    apply Array.ext_getElem?
    intro i
    by_cases q : i < c.slots.size
    · rw [H i q]
      have q2 : i < vs.length := by omega
      simp [List.getD_eq_getElem?_getD, List.getElem?_eq_getElem q2]
    · rw [Array.getElem?_eq_none (by omega)]
      simp; omega
  refine ⟨c, A, by have := (back32 N1).2; omega, e, fun v hv => ?_⟩
  obtain ⟨i, hi, rfl⟩ := List.getElem_of_mem hv
  have q := G i (by omega)
  rw [List.getD_eq_getElem?_getD, List.getElem?_eq_getElem hi] at q
  exact q
end PAs
theorem w_arraylength (ok : Ok K Z n0 own code maxL ret nm) {ty : FieldType} {a : Addr} {vs : List Value} {z : Int32} (hd : decode code pc = .ok (.arraylength, 1)) (A : PA ty Z h a vs) (hz : vs.length = z.toNatClampNeg) (hz0 : ¬ z < 0) (w : W K l R n0 P h k n (pc + 1) L (.int z :: S)) : W K l R n0 P h k n pc L (.ref a :: S) := by
  obtain ⟨p, e, s, m, args, below, meth, c⟩ := K
  obtain ⟨hx, hZ, hown, hby, -⟩ := ok
  intro T locs X eT N
  obtain ⟨s₂, o, st, r⟩ := w T locs X eT N
  obtain ⟨cl, A, q1, q2, q3⟩ := A
  have e1 : cl.slots.size.toInt32 = z := len_of (by rw [q2]; simpa using hz) hz0
  exact ⟨s₂, o, X.arraylength hx (by rw [eT]; exact A.1) (State.isArrayOf_alike hZ.alike A.2.1) (g := mkF m pc L (.ref a :: S)) rfl rfl (hb hby hd) _ (by rw [e1]; exact st), r⟩
theorem w_newarray (ok : Ok K Z n0 own code maxL ret nm) {aty : ArrayType} {z : Int32} (hd : decode code pc = .ok (.newarray aty, 2)) (w1 : (Cond.arrayClass (newarray.typeOf aty)).before a0 Z = true) (hz : ¬ z < 0) {cap : Nat} (hcap : z.toNatClampNeg ≤ cap) (hb1 : cap * 8 ≤ 536870912) (hc : k + 1 ≤ R.cells) (hl : n + cap ≤ R.slots)
    (w : ∀ h' a, a = h.size → n0 ≤ a → Ext h h' → PA (newarray.typeOf aty) Z h' a (List.replicate z.toNatClampNeg (defaultValue (newarray.typeOf aty))) → W K l R n0 P h' (k + 1) (n + cap) (pc + 2) L (.ref a :: S)) : W K l R n0 P h k n pc L (.int z :: S) := by
  obtain ⟨p, e, s, m, args, below, meth, c⟩ := K
  obtain ⟨hx, hZ, hown, hby, hml, hret, hnm, hlk, hn0⟩ := ok
  intro T locs X eT N
  obtain ⟨T1, h1, cA, X1, e1, E1, A1, st⟩ := newP X hx hZ w1 eT (g := mkF m pc L (.int z :: S)) rfl (hb hby hd) rfl hz hcap hb1 hc hl
  have A2 : PA (newarray.typeOf aty) Z h1 h.size (List.replicate z.toNatClampNeg (defaultValue (newarray.typeOf aty))) := by
    refine ⟨_, A1, by simpa using (back32 hz).2, by simp [newA], fun v hv => ?_⟩
    rw [List.eq_of_mem_replicate hv]
    cases aty <;> rfl
  obtain ⟨s₂, o, st2, r⟩ := w h1 h.size rfl (by rw [← eT]; exact old_ge hn0 X N) E1 A2 T1 _ X1 e1 N
  exact ⟨s₂, o, st _ st2, r⟩
theorem w_arraycopy (ok : Ok K Z n0 own code maxL ret nm) {index : Nat} {ty : FieldType} {a b : Addr} {vs vd : List Value} {sp dp nn : Int32} {sp' dp' nn' : Nat} (hd : decode code pc = .ok (.invokestatic index, 3)) (w1 : (Cond.methodLink own index Jvm.Stand.acN).before a0 Z = true) (w2 : (Cond.native Jvm.Stand.acN).before a0 Z = true) (w3 : (Cond.static Jvm.Stand.acN).before a0 Z = true) (w4 : (Cond.initialized "java/lang/System").before a0 Z = true)
    (A : PA ty Z h a vs) (B : PA ty Z h b vd) (hty : refKind ty = false) (ge : n0 ≤ b) (h1 : ¬ sp < 0) (h2 : ¬ dp < 0) (h3 : ¬ nn < 0) (es : sp.toNatClampNeg = sp') (ed : dp.toNatClampNeg = dp') (en : nn.toNatClampNeg = nn') (h4 : sp' + nn' ≤ vs.length) (h5 : dp' + nn' ≤ vd.length) (hL : L.size = maxL) (hf : 1 ≤ R.frames) (hlo : (S.map fun v => v.category).sum + (nativeFrameWords "java/lang/System" "arraycopy" 5 + 11) ≤ R.locals)
    (w : ∀ h', Keep h h' [b] → PA ty Z h' b (vd.take dp' ++ (vs.drop sp').take nn' ++ vd.drop (dp' + nn')) → W K l R n0 P h' k n (pc + 3) L S) : W K l R n0 P h k n pc L (.int nn :: .int dp :: .ref b :: .int sp :: .ref a :: S) := by
  obtain ⟨p, e, s, m, args, below, meth, c⟩ := K
  obtain ⟨hx, hZ, hown, hby, hml, hret, hnm, hlk, hn0⟩ := ok
  intro T locs X eT N
  subst es ed en
  obtain ⟨z1, hz1, hz2⟩ : ∃ z : Int32, vs.length = z.toNatClampNeg ∧ ¬ z < 0 := pa_z A.len
  obtain ⟨z3, hz3, hz4⟩ : ∃ z : Int32, vd.length = z.toNatClampNeg ∧ ¬ z < 0 := pa_z B.len
  obtain ⟨k1, A1⟩ := A.arv hz1 hz2 .null
  obtain ⟨k2, B1⟩ := B.arv hz3 hz4 .null
  obtain ⟨T1, h1', L1, X1, e1, N1, K1, B2, st⟩ := cpA X hx hZ hown w1 w2 w3 w4 eT A1 B1 (Or.inl ⟨rfl, hty⟩) h1 h2 h3 (by omega) (by omega) rfl h5 N ge (g := mkF m pc L (.int nn :: .int dp :: .ref b :: .int sp :: .ref a :: S)) rfl (hL.trans hml.symm) rfl (hb hby hd) hf (W := (S.map fun v => v.category).sum) (by show 2 * 0 + _ ≤ _; omega) hlo
  have e2 : ((List.range nn.toNatClampNeg).map fun i => vs.getD (sp.toNatClampNeg + i) Value.null) = (vs.drop sp.toNatClampNeg).take nn.toNatClampNeg := by
    apply List.ext_getElem
    · simp; omega
    · intro i q1 q2
      simp at q1
      simp [List.getD_eq_getElem?_getD, List.getElem?_eq_getElem (show sp.toNatClampNeg + i < vs.length by omega)]
  rw [e2] at B2
  obtain ⟨s₂, o, st2, r⟩ := w h1' K1 (PA.of_arv B2 (by simp; omega)) T1 _ X1 e1 N1
  exact ⟨s₂, o, st _ st2, r⟩
theorem w_iaload (ok : Ok K Z n0 own code maxL ret nm) {a : Addr} {vs : List Value} {j : Int32} {v : Value} (hd : decode code pc = .ok (.iaload, 1)) (A : PA .int Z h a vs) (h0 : ¬ j < 0) (hj : vs[j.toNatClampNeg]? = some v) (w : W K l R n0 P h k n (pc + 1) L (v :: S)) : W K l R n0 P h k n pc L (.int j :: .ref a :: S) := by
  obtain ⟨p, e, s, m, args, below, meth, c⟩ := K
  obtain ⟨hx, hZ, hown, hby, -⟩ := ok
  intro T locs X eT N
  obtain ⟨s₂, o, st, r⟩ := w T locs X eT N
  obtain ⟨cl, A, q1, q2, q3⟩ := A
  exact ⟨s₂, o, X.iaload hx (j := j) (v := v) (by rw [eT]; exact A.1) (State.isArrayOf_alike hZ.alike A.2.1) A.2.2 (pa_in q2 h0 (List.getElem?_eq_some_iff.mp hj).1) (by rw [q2]; simpa using hj) (g := mkF m pc L (.int j :: .ref a :: S)) rfl rfl (hb hby hd) _ st, r⟩
theorem w_laload (ok : Ok K Z n0 own code maxL ret nm) {a : Addr} {vs : List Value} {j : Int32} {v : Value} (hd : decode code pc = .ok (.laload, 1)) (A : PA .long Z h a vs) (h0 : ¬ j < 0) (hj : vs[j.toNatClampNeg]? = some v) (w : W K l R n0 P h k n (pc + 1) L (v :: S)) : W K l R n0 P h k n pc L (.int j :: .ref a :: S) := by
  obtain ⟨p, e, s, m, args, below, meth, c⟩ := K
  obtain ⟨hx, hZ, hown, hby, -⟩ := ok
  intro T locs X eT N
  obtain ⟨s₂, o, st, r⟩ := w T locs X eT N
  obtain ⟨cl, A, q1, q2, q3⟩ := A
  exact ⟨s₂, o, X.laload hx (j := j) (v := v) (by rw [eT]; exact A.1) (State.isArrayOf_alike hZ.alike A.2.1) A.2.2 (pa_in q2 h0 (List.getElem?_eq_some_iff.mp hj).1) (by rw [q2]; simpa using hj) (g := mkF m pc L (.int j :: .ref a :: S)) rfl rfl (hb hby hd) _ st, r⟩
theorem w_caload (ok : Ok K Z n0 own code maxL ret nm) {a : Addr} {vs : List Value} {j : Int32} {v : Value} (hd : decode code pc = .ok (.caload, 1)) (A : PA .char Z h a vs) (h0 : ¬ j < 0) (hj : vs[j.toNatClampNeg]? = some v) (w : W K l R n0 P h k n (pc + 1) L (v :: S)) : W K l R n0 P h k n pc L (.int j :: .ref a :: S) := by
  obtain ⟨p, e, s, m, args, below, meth, c⟩ := K
  obtain ⟨hx, hZ, hown, hby, -⟩ := ok
  intro T locs X eT N
  obtain ⟨s₂, o, st, r⟩ := w T locs X eT N
  obtain ⟨cl, A, q1, q2, q3⟩ := A
  exact ⟨s₂, o, X.caload hx (j := j) (v := v) (by rw [eT]; exact A.1) (State.isArrayOf_alike hZ.alike A.2.1) A.2.2 (pa_in q2 h0 (List.getElem?_eq_some_iff.mp hj).1) (by rw [q2]; simpa using hj) (g := mkF m pc L (.int j :: .ref a :: S)) rfl rfl (hb hby hd) _ st, r⟩
theorem w_baload (ok : Ok K Z n0 own code maxL ret nm) {a : Addr} {vs : List Value} {j : Int32} {v : Value} (hd : decode code pc = .ok (.baload, 1)) (A : PA .byte Z h a vs) (h0 : ¬ j < 0) (hj : vs[j.toNatClampNeg]? = some v) (w : W K l R n0 P h k n (pc + 1) L (v :: S)) : W K l R n0 P h k n pc L (.int j :: .ref a :: S) := by
  obtain ⟨p, e, s, m, args, below, meth, c⟩ := K
  obtain ⟨hx, hZ, hown, hby, -⟩ := ok
  intro T locs X eT N
  obtain ⟨s₂, o, st, r⟩ := w T locs X eT N
  obtain ⟨cl, A, q1, q2, q3⟩ := A
  exact ⟨s₂, o, X.baloadBytes hx (j := j) (v := v) (by rw [eT]; exact A.1) (State.isArrayOf_alike hZ.alike A.2.1) A.2.2 (pa_in q2 h0 (List.getElem?_eq_some_iff.mp hj).1) (by rw [q2]; simpa using hj) (g := mkF m pc L (.int j :: .ref a :: S)) rfl rfl (hb hby hd) _ st, r⟩
theorem w_zaload (ok : Ok K Z n0 own code maxL ret nm) {a : Addr} {vs : List Value} {j : Int32} {v : Value} (hd : decode code pc = .ok (.baload, 1)) (A : PA .boolean Z h a vs) (h0 : ¬ j < 0) (hj : vs[j.toNatClampNeg]? = some v) (w : W K l R n0 P h k n (pc + 1) L (v :: S)) : W K l R n0 P h k n pc L (.int j :: .ref a :: S) := by
  obtain ⟨p, e, s, m, args, below, meth, c⟩ := K
  obtain ⟨hx, hZ, hown, hby, -⟩ := ok
  intro T locs X eT N
  obtain ⟨s₂, o, st, r⟩ := w T locs X eT N
  obtain ⟨cl, A, q1, q2, q3⟩ := A
  exact ⟨s₂, o, X.baloadBooleans hx (j := j) (v := v) (by rw [eT]; exact A.1) (State.isArrayOf_alike hZ.alike A.2.1) A.2.2 (pa_in q2 h0 (List.getElem?_eq_some_iff.mp hj).1) (by rw [q2]; simpa using hj) (g := mkF m pc L (.int j :: .ref a :: S)) rfl rfl (hb hby hd) _ st, r⟩
theorem w_aaload (ok : Ok K Z n0 own code maxL ret nm) {ty : FieldType} {a : Addr} {vs : List Value} {j : Int32} {v : Value} (hd : decode code pc = .ok (.aaload, 1)) (A : PA ty Z h a vs) (ht : ty.isReference = true) (h0 : ¬ j < 0) (hj : vs[j.toNatClampNeg]? = some v) (w : W K l R n0 P h k n (pc + 1) L (v :: S)) : W K l R n0 P h k n pc L (.int j :: .ref a :: S) := by
  obtain ⟨p, e, s, m, args, below, meth, c⟩ := K
  obtain ⟨hx, hZ, hown, hby, -⟩ := ok
  intro T locs X eT N
  obtain ⟨s₂, o, st, r⟩ := w T locs X eT N
  obtain ⟨cl, A, q1, q2, q3⟩ := A
  exact ⟨s₂, o, X.aaload hx (j := j) (v := v) (by rw [eT]; exact A.1) (State.isArrayOf_alike hZ.alike A.2.1) ht A.2.2 (pa_in q2 h0 (List.getElem?_eq_some_iff.mp hj).1) (by rw [q2]; simpa using hj) (g := mkF m pc L (.int j :: .ref a :: S)) rfl rfl (hb hby hd) _ st, r⟩
theorem w_iastore (ok : Ok K Z n0 own code maxL ret nm) {a : Addr} {vs : List Value} {j : Int32} {x : Int32} (hd : decode code pc = .ok (.iastore, 1)) (A : PA .int Z h a vs) (ge : n0 ≤ a) (h0 : ¬ j < 0) (hj : j.toNatClampNeg < vs.length) (w : ∀ h', Wr h h' a j.toNatClampNeg (.int x) → PA .int Z h' a (vs.set j.toNatClampNeg (.int x)) → W K l R n0 P h' k n (pc + 1) L S) : W K l R n0 P h k n pc L (.int x :: .int j :: .ref a :: S) := by
  obtain ⟨p, e, s, m, args, below, meth, c⟩ := K
  obtain ⟨hx, hZ, hown, hby, -⟩ := ok
  intro T locs X eT N
  have A0 := A
  obtain ⟨cl, A, q1, q2, q3⟩ := A
  obtain ⟨T1, h1, X1, e1, W1, st⟩ := stI X hx hZ eT A (j := j) (pa_in q2 h0 hj) (g := mkF m pc L (.int x :: .int j :: .ref a :: S)) rfl rfl (hb hby hd)
  obtain ⟨s₂, o, st2, r⟩ := w h1 W1 (A0.set W1 rfl) T1 _ X1 e1 (Fr.snoc X1 N ge)
  exact ⟨s₂, o, st _ st2, r⟩
theorem w_lastore (ok : Ok K Z n0 own code maxL ret nm) {a : Addr} {vs : List Value} {j : Int32} {x : Int64} (hd : decode code pc = .ok (.lastore, 1)) (A : PA .long Z h a vs) (ge : n0 ≤ a) (h0 : ¬ j < 0) (hj : j.toNatClampNeg < vs.length) (w : ∀ h', Wr h h' a j.toNatClampNeg (.long x) → PA .long Z h' a (vs.set j.toNatClampNeg (.long x)) → W K l R n0 P h' k n (pc + 1) L S) : W K l R n0 P h k n pc L (.long x :: .int j :: .ref a :: S) := by
  obtain ⟨p, e, s, m, args, below, meth, c⟩ := K
  obtain ⟨hx, hZ, hown, hby, -⟩ := ok
  intro T locs X eT N
  have A0 := A
  obtain ⟨cl, A, q1, q2, q3⟩ := A
  obtain ⟨T1, h1, X1, e1, W1, st⟩ := stJ X hx hZ eT A (j := j) (pa_in q2 h0 hj) (g := mkF m pc L (.long x :: .int j :: .ref a :: S)) rfl rfl (hb hby hd)
  obtain ⟨s₂, o, st2, r⟩ := w h1 W1 (A0.set W1 rfl) T1 _ X1 e1 (Fr.snoc X1 N ge)
  exact ⟨s₂, o, st _ st2, r⟩
theorem w_castore (ok : Ok K Z n0 own code maxL ret nm) {a : Addr} {vs : List Value} {j : Int32} {x : Int32} (hd : decode code pc = .ok (.castore, 1)) (A : PA .char Z h a vs) (ge : n0 ≤ a) (h0 : ¬ j < 0) (hj : j.toNatClampNeg < vs.length) (w : ∀ h', Wr h h' a j.toNatClampNeg (.int (nar .char x)) → PA .char Z h' a (vs.set j.toNatClampNeg (.int (nar .char x))) → W K l R n0 P h' k n (pc + 1) L S) : W K l R n0 P h k n pc L (.int x :: .int j :: .ref a :: S) := by
  obtain ⟨p, e, s, m, args, below, meth, c⟩ := K
  obtain ⟨hx, hZ, hown, hby, -⟩ := ok
  intro T locs X eT N
  have A0 := A
  obtain ⟨cl, A, q1, q2, q3⟩ := A
  obtain ⟨T1, h1, X1, e1, W1, st⟩ := stC X hx hZ eT A (j := j) (pa_in q2 h0 hj) (g := mkF m pc L (.int x :: .int j :: .ref a :: S)) rfl rfl (hb hby hd)
  obtain ⟨s₂, o, st2, r⟩ := w h1 W1 (A0.set W1 (fits_nar_char x)) T1 _ X1 e1 (Fr.snoc X1 N ge)
  exact ⟨s₂, o, st _ st2, r⟩
theorem w_bastore (ok : Ok K Z n0 own code maxL ret nm) {a : Addr} {vs : List Value} {j : Int32} {x : Int32} (hd : decode code pc = .ok (.bastore, 1)) (A : PA .byte Z h a vs) (ge : n0 ≤ a) (h0 : ¬ j < 0) (hj : j.toNatClampNeg < vs.length) (w : ∀ h', Wr h h' a j.toNatClampNeg (.int (nar .byte x)) → PA .byte Z h' a (vs.set j.toNatClampNeg (.int (nar .byte x))) → W K l R n0 P h' k n (pc + 1) L S) : W K l R n0 P h k n pc L (.int x :: .int j :: .ref a :: S) := by
  obtain ⟨p, e, s, m, args, below, meth, c⟩ := K
  obtain ⟨hx, hZ, hown, hby, -⟩ := ok
  intro T locs X eT N
  have A0 := A
  obtain ⟨cl, A, q1, q2, q3⟩ := A
  obtain ⟨T1, h1, X1, e1, W1, st⟩ := stB X hx hZ eT A (j := j) (pa_in q2 h0 hj) (g := mkF m pc L (.int x :: .int j :: .ref a :: S)) rfl rfl (hb hby hd)
  obtain ⟨s₂, o, st2, r⟩ := w h1 W1 (A0.set W1 (fits_nar_byte x)) T1 _ X1 e1 (Fr.snoc X1 N ge)
  exact ⟨s₂, o, st _ st2, r⟩
theorem w_zastore (ok : Ok K Z n0 own code maxL ret nm) {a : Addr} {vs : List Value} {j : Int32} {x : Int32} (hd : decode code pc = .ok (.bastore, 1)) (A : PA .boolean Z h a vs) (ge : n0 ≤ a) (h0 : ¬ j < 0) (hj : j.toNatClampNeg < vs.length) (w : ∀ h', Wr h h' a j.toNatClampNeg (.int (nar .boolean x)) → PA .boolean Z h' a (vs.set j.toNatClampNeg (.int (nar .boolean x))) → W K l R n0 P h' k n (pc + 1) L S) : W K l R n0 P h k n pc L (.int x :: .int j :: .ref a :: S) := by
  obtain ⟨p, e, s, m, args, below, meth, c⟩ := K
  obtain ⟨hx, hZ, hown, hby, -⟩ := ok
  intro T locs X eT N
  have A0 := A
  obtain ⟨cl, A, q1, q2, q3⟩ := A
  obtain ⟨T1, h1, X1, e1, W1, st⟩ := stZ X hx hZ eT A (j := j) (pa_in q2 h0 hj) (g := mkF m pc L (.int x :: .int j :: .ref a :: S)) rfl rfl (hb hby hd)
  obtain ⟨s₂, o, st2, r⟩ := w h1 W1 (A0.set W1 (fits_nar_bool x)) T1 _ X1 e1 (Fr.snoc X1 N ge)
  exact ⟨s₂, o, st _ st2, r⟩
/-! objects -/
abbrev Fl := List (String × String × String × FieldType)
def Ob (Z : State) (h : Heap) (a : Addr) (C : String) (fl : Fl) (vals : List Value) : Prop := Exa Z h a C ∧ ∀ (i : Nat) f v, fl[i]? = some f → vals[i]? = some v → Fld Z h a f.1 f.2.1 f.2.2.1 v
def LA (Z : State) (a0 : Array Value) (C : String) (fl : Fl) : Prop := (∀ f ∈ fl, Laid Z a0 C f.1 f.2.1 f.2.2.1 ∧ parseFieldDescriptor f.2.2.1 = some f.2.2.2) ∧ (fl.map (·.2.1)).Nodup
section Obs
variable {h' : Heap} {a b : Addr} {C : String} {fl : Fl} {vals : List Value} {v : Value} {sl : Nat} {ws : List Addr}
theorem Ob.lt (O : Ob Z h a C fl vals) : a < h.size := O.1.lt
theorem Ob.ext (O : Ob Z h a C fl vals) (E : Ext h h') : Ob Z h' a C fl vals := ⟨O.1.ext E, fun i f v q r => (O.2 i f v q r).ext E⟩
theorem Ob.other (O : Ob Z h b C fl vals) (W1 : Wr h h' a sl v) (ne : b ≠ a) : Ob Z h' b C fl vals := ⟨O.1.wr W1, fun i f v q r => (O.2 i f v q r).other W1 (Or.inl ne)⟩
theorem Ob.keep (O : Ob Z h a C fl vals) (K1 : Keep h h' ws) (q : a ∉ ws) : Ob Z h' a C fl vals := ⟨O.1.keep K1, fun i f v r r' => (O.2 i f v r r').keep K1 q⟩
theorem Ob.put (O : Ob Z h a C fl vals) (LAs : LA Z a0 C fl) {i : Nat} {f : String × String × String × FieldType} {u : Value} (hf : fl[i]? = some f) (hv : vals[i]? = some u) (W1 : Wr h h' a (Jvm.RoadKit.slotOf Z f.1 f.2.1 f.2.2.1) v) : Ob Z h' a C fl (vals.set i v) := by
  refine ⟨O.1.wr W1, fun j g w hg hw => ?_⟩
  by_cases e : i = j
  · subst e
    cases hf.symm.trans hg
    rw [List.getElem?_set_self (List.getElem?_eq_some_iff.mp hv).1] at hw
    cases hw
    exact (O.2 i f u hf hv).same W1
  · rw [List.getElem?_set_ne e] at hw
    refine (O.2 j g w hg hw).other W1 (Or.inr ?_)
    have m1 := LAs.1 f (List.mem_of_getElem? hf)
    have m2 := LAs.1 g (List.mem_of_getElem? hg)
    refine slot_ne m2.1 m1.1 (fun q => e ?_) m2.2 m1.2
    have hi := (List.getElem?_eq_some_iff.mp hf)
    have hj := (List.getElem?_eq_some_iff.mp hg)
    have nd := LAs.2
    have q1 : (fl.map (·.2.1))[i]? = some f.2.1 := by simp [hf]
    have q2 : (fl.map (·.2.1))[j]? = some f.2.1 := by simp [hg, q]
    exact (List.getElem?_inj (by simpa using hi.1) nd).mp (q1.trans q2.symm)
end Obs
theorem w_getfield (ok : Ok K Z n0 own code maxL ret nm) {index : Nat} {a : Addr} {C R0 host : String} {fl : Fl} {vals : List Value} {v : Value} {f : String × String × String × FieldType} (i : Nat) (hd : decode code pc = .ok (.getfield index, 3)) (w1 : (Cond.fieldLink own index R0 f.2.1 f.2.2.1).before a0 Z = true ∨ (Cond.fieldLinkNest own index R0 f.2.1 f.2.2.1 host).before a0 Z = true) (via : Via Z R0 f.1 f.2.1 f.2.2.1) (O : Ob Z h a C fl vals) (hf : fl[i]? = some f) (hv : vals[i]? = some v)
    (w : W K l R n0 P h k n (pc + 3) L (v :: S)) : W K l R n0 P h k n pc L (.ref a :: S) := by
  obtain ⟨p, e, s, m, args, below, meth, c⟩ := K
  obtain ⟨hx, hZ, hown, hby, -⟩ := ok
  intro T locs X eT N
  obtain ⟨T1, X1, e1, st⟩ := getF X hx hZ hown w1 via eT (O.2 i f v hf hv) (g := mkF m pc L (.ref a :: S)) rfl rfl (hb hby hd)
  obtain ⟨s₂, o, st2, r⟩ := w T1 locs X1 e1 N
  exact ⟨s₂, o, st _ st2, r⟩
theorem w_putfield (ok : Ok K Z n0 own code maxL ret nm) {index kk : Nat} {a : Addr} {C R0 host : String} {fl : Fl} {vals : List Value} {v u : Value} {f : String × String × String × FieldType} (i : Nat) (hd : decode code pc = .ok (.putfield index, 3)) (w1 : (Cond.fieldLink own index R0 f.2.1 f.2.2.1).before a0 Z = true ∨ (Cond.fieldLinkNest own index R0 f.2.1 f.2.2.1 host).before a0 Z = true) (via : Via Z R0 f.1 f.2.1 f.2.2.1) (O : Ob Z h a C fl vals) (LAs : LA Z a0 C fl) (hf : fl[i]? = some f) (hv : vals[i]? = some u)
    (w2 : (Cond.lays C f.1 f.2.1 f.2.2.1).before a0 Z = true ∨ ((Cond.laysFinal C f.1 f.2.1 f.2.2.1).before a0 Z = true ∧ own = f.1 ∧ nm = "<init>")) (w3 : (Cond.instantiable C kk).before a0 Z = true) (hn : narrow f.2.2.2 v = v) (hfit : fits f.2.2.2 v = true) (ge : n0 ≤ a)
    (w : ∀ h', Wr h h' a (Jvm.RoadKit.slotOf Z f.1 f.2.1 f.2.2.1) v → Ob Z h' a C fl (vals.set i v) → W K l R n0 P h' k n (pc + 3) L S) : W K l R n0 P h k n pc L (v :: .ref a :: S) := by
  obtain ⟨p, e, s, m, args, below, meth, c⟩ := K
  obtain ⟨hx, hZ, hown, hby, hml, hret, hnm, hlk, hn0⟩ := ok
  intro T locs X eT N
  obtain ⟨T1, h1, X1, e1, W1, st⟩ := putF X hx hZ hown w1 via eT (O.2 i f u hf hv) O.1 (w2.imp id fun q => ⟨q.1, q.2.1, hnm.trans q.2.2⟩) w3 (LAs.1 f (List.mem_of_getElem? hf)).2 hn hfit (g := mkF m pc L (v :: .ref a :: S)) rfl rfl (hb hby hd)
  obtain ⟨s₂, o, st2, r⟩ := w h1 W1 (O.put LAs hf hv W1) T1 _ X1 e1 (Fr.snoc X1 N ge)
  exact ⟨s₂, o, st _ st2, r⟩
theorem w_new (ok : Ok K Z n0 own code maxL ret nm) {index kk : Nat} {C : String} {fl : Fl} (hd : decode code pc = .ok (.new index, 3)) (w1 : (Cond.classLink own index C).before a0 Z = true) (w2 : (Cond.instantiable C kk).before a0 Z = true) (w3 : (Cond.initialized C).before a0 Z = true) (LAs : LA Z a0 C fl) (hc : k + 1 ≤ R.cells) (hl : n + kk ≤ R.slots)
    (w : ∀ h' a, a = h.size → n0 ≤ a → Ext h h' → Ob Z h' a C fl (fl.map fun f => defaultValue f.2.2.2) → W K l R n0 P h' (k + 1) (n + kk) (pc + 3) L (.ref a :: S)) : W K l R n0 P h k n pc L S := by
  obtain ⟨p, e, s, m, args, below, meth, c⟩ := K
  obtain ⟨hx, hZ, hown, hby, hml, hret, hnm, hlk, hn0⟩ := ok
  intro T locs X eT N
  obtain ⟨T1, h1, X1, e1, E1, A1, D1, -, st⟩ := newO X hx hZ hown w1 w2 w3 eT (g := mkF m pc L S) rfl (hb hby hd) hc hl
  obtain ⟨s₂, o, st2, r⟩ := w h1 h.size rfl (by rw [← eT]; exact old_ge hn0 X N) E1 ⟨A1, fun i f v hf hv => by
    simp [hf] at hv; subst hv
    exact D1 (LAs.1 f (List.mem_of_getElem? hf)).1 (LAs.1 f (List.mem_of_getElem? hf)).2⟩ T1 _ X1 e1 N
  exact ⟨s₂, o, st _ st2, r⟩
theorem w_initO (ok : Ok K Z n0 own code maxL ret nm) {index : Nat} {a : Addr} (hd : decode code pc = .ok (.invokespecial index, 3)) (w1 : (Cond.methodLink own index Lib.objectInit).before a0 Z = true) (w2 : (Cond.instanceMethod Lib.objectInit).before a0 Z = true) (w3 : (Cond.code Lib.objectInit ⟨#[0xb1]⟩ 1 none).before a0 Z = true) (hL : L.size = maxL) (hf : 1 ≤ R.frames) (hl : (S.map fun v => v.category).sum + 12 ≤ R.locals)
    (w : W K l R n0 P h k n (pc + 3) L S) : W K l R n0 P h k n pc L (.ref a :: S) := by
  obtain ⟨p, e, s, m, args, below, meth, c⟩ := K
  obtain ⟨hx, hZ, hown, hby, hml, hret, hnm, hlk, hn0⟩ := ok
  intro T locs X eT N
  obtain ⟨T1, X1, e1, st⟩ := initO X hx hZ hown w1 w2 w3 eT (g := mkF m pc L (.ref a :: S)) rfl (hL.trans hml.symm) rfl (hb hby hd) hf (W := (S.map fun v => v.category).sum) (by show 2 * 0 + _ ≤ _; omega) hl
  obtain ⟨s₂, o, st2, r⟩ := w T1 locs X1 e1 N
  exact ⟨s₂, o, st _ st2, r⟩
theorem w_callI (ok : Ok K Z n0 own code maxL ret nm) {index : Nat} {y : MethodName} {bytes : ByteArray} {mL : Nat} {rm : Room} {a : Addr} {argsL rest : List Value} {Q : Option Value → Heap → Prop} {ps : List FieldType} {r : Option FieldType}
    (hd : decode code pc = .ok (.invokespecial index, 3)) (hy1 : y.name = "<init>") (w1 : (Cond.methodLink own index y).before a0 Z = true) (w2 : (Cond.instanceMethod y).before a0 Z = true) (w3 : (Cond.initialized y.cls).before a0 Z = true) (w4 : (Cond.code y bytes mL none).before a0 Z = true) (hy : notHandle y)
    (pd : parseMethodDescriptor y.desc = some ⟨ps, r⟩) (hlen : argsL.length = ps.length) (hL : L.size = maxL) (hf : rm.frames + 1 ≤ R.frames) (hl : (rest.map fun v => v.category).sum + (mL + 11) + rm.locals ≤ R.locals) (hc : k + rm.cells ≤ R.cells) (hs : n + rm.slots ≤ R.slots)
    (hM : Old Z n0 h → Met l Z n0 y bytes mL none [] rm (.ref a :: argsL).toArray h Q) (w : ∀ v h', Q v h' → W K l R n0 P h' (k + rm.cells) (n + rm.slots) (pc + 3) L (v.toList ++ rest)) : W K l R n0 P h k n pc L (argsL.reverse ++ .ref a :: rest) := by
  obtain ⟨p, e, s, m, args, below, meth, c⟩ := K
  obtain ⟨hx, hZ, hown, hby, hml, hret, hnm, hlk, hn0⟩ := ok
  intro T locs X eT N
  have hM := hM (by rw [← eT]; exact old_now hn0 X N)
  obtain ⟨v, _, ⟨T1, L1, k1, n1⟩, -, X1, ⟨Lc, ⟨hQ, N1⟩, l1, y1, z1⟩, st⟩ := X.specialBack hx (y := y) hy1 hown (mvT hZ w1) (mvT hZ w2) (mvT hZ w4) hy (backOf (W := (rest.map fun v => v.category).sum) (Q := fun v h L => Q v h ∧ Fr n0 L) hM hZ w4 w3 hf hl) (g := mkF m pc L (argsL.reverse ++ .ref a :: rest)) rfl (hL.trans hml.symm) (Steps.refl _) (a := a) (argsL := argsL) (rest := rest) (lenOf pd hlen) rfl (by show 2 * 0 + _ ≤ _; omega) (hb hby hd) (fun _ _ => ⟨rfl, eT, hc, hs⟩)
  dsimp only [Pt.U, Pt.locs, Pt.cells, Pt.slots] at X1 l1 y1 z1 st hQ
  subst l1 y1 z1
  obtain ⟨s₂, o, st2, r2⟩ := w v _ hQ T1 _ X1 rfl (Fr.app N N1)
  exact ⟨s₂, o, st.trans st2, r2⟩
theorem w_callV (ok : Ok K Z n0 own code maxL ret nm) {index : Nat} {C : String} {y : MethodName} {bytes : ByteArray} {mL : Nat} {rt : Option FieldType} {rm : Room} {a : Addr} {argsL rest : List Value} {Q : Option Value → Heap → Prop} {ps : List FieldType} {r : Option FieldType}
    (hd : decode code pc = .ok (.invokevirtual index, 3)) (w1 : (Cond.methodLink own index y).before a0 Z = true) (w2 : (Cond.declares y).before a0 Z = true) (w3 : (Cond.selects C y y).before a0 Z = true) (w4 : (Cond.instanceMethod y).before a0 Z = true) (w5 : (Cond.initialized y.cls).before a0 Z = true) (w6 : (Cond.code y bytes mL rt).before a0 Z = true) (hy : notHandle y)
    (E : Exa Z h a C) (pd : parseMethodDescriptor y.desc = some ⟨ps, r⟩) (hlen : argsL.length = ps.length) (hL : L.size = maxL) (hf : rm.frames + 1 ≤ R.frames) (hl : (rest.map fun v => v.category).sum + (mL + 11) + rm.locals ≤ R.locals) (hc : k + rm.cells ≤ R.cells) (hs : n + rm.slots ≤ R.slots)
    (hM : Old Z n0 h → Met l Z n0 y bytes mL rt [] rm (.ref a :: argsL).toArray h Q) (w : ∀ v h', Q v h' → W K l R n0 P h' (k + rm.cells) (n + rm.slots) (pc + 3) L (v.toList ++ rest)) : W K l R n0 P h k n pc L (argsL.reverse ++ .ref a :: rest) := by
  obtain ⟨p, e, s, m, args, below, meth, c⟩ := K
  obtain ⟨hx, hZ, hown, hby, hml, hret, hnm, hlk, hn0⟩ := ok
  intro T locs X eT N
  have hM := hM (by rw [← eT]; exact old_now hn0 X N)
  obtain ⟨cq, kq, qa, qb, qc⟩ := isOf hZ eT E
  obtain ⟨v, _, ⟨T1, L1, k1, n1⟩, -, X1, ⟨Lc, ⟨hQ, N1⟩, l1, y1, z1⟩, st⟩ := X.virtualBack hx (y := y) (z := y) hown (mvT hZ w1) (mvT hZ w2) (notFace_of_selects (args := #[]) (mvT hZ w3)) (mvT hZ w3) (mvT hZ w4) hy (backOf (W := (rest.map fun v => v.category).sum) (Q := fun v h L => Q v h ∧ Fr n0 L) hM hZ w6 w5 hf hl) qa qc (g := mkF m pc L (argsL.reverse ++ .ref a :: rest)) rfl (hL.trans hml.symm) (Steps.refl _) (argsL := argsL) (rest := rest) (lenOf pd hlen) rfl (by show 2 * 0 + _ ≤ _; omega) (hb hby hd) (fun _ _ => ⟨rfl, eT, hc, hs⟩)
  dsimp only [Pt.U, Pt.locs, Pt.cells, Pt.slots] at X1 l1 y1 z1 st hQ
  subst l1 y1 z1
  obtain ⟨s₂, o, st2, r2⟩ := w v _ hQ T1 _ X1 rfl (Fr.app N N1)
  exact ⟨s₂, o, st.trans st2, r2⟩
theorem w_callP (ok : Ok K Z n0 own code maxL ret nm) {index kk : Nat} {y : MethodName} {bytes : ByteArray} {mL : Nat} {rt : Option FieldType} {rm : Room} {a : Addr} {argsL rest : List Value} {Q : Option Value → Heap → Prop} {ps : List FieldType} {r : Option FieldType}
    (hd : decode code pc = .ok (.invokevirtual index, 3)) (w1 : (Cond.methodLink own index y).before a0 Z = true) (w2 : (Cond.instanceMethod y).before a0 Z = true) (w3 : (Cond.privateMethod y).before a0 Z = true) (w4 : (Cond.instantiable y.cls kk).before a0 Z = true) (w5 : (Cond.initialized y.cls).before a0 Z = true) (w6 : (Cond.code y bytes mL rt).before a0 Z = true) (hy : notHandle y)
    (E : Exa Z h a y.cls) (pd : parseMethodDescriptor y.desc = some ⟨ps, r⟩) (hlen : argsL.length = ps.length) (hL : L.size = maxL) (hf : rm.frames + 1 ≤ R.frames) (hl : (rest.map fun v => v.category).sum + (mL + 11) + rm.locals ≤ R.locals) (hc : k + rm.cells ≤ R.cells) (hs : n + rm.slots ≤ R.slots)
    (hM : Old Z n0 h → Met l Z n0 y bytes mL rt [] rm (.ref a :: argsL).toArray h Q) (w : ∀ v h', Q v h' → W K l R n0 P h' (k + rm.cells) (n + rm.slots) (pc + 3) L (v.toList ++ rest)) : W K l R n0 P h k n pc L (argsL.reverse ++ .ref a :: rest) := by
  obtain ⟨p, e, s, m, args, below, meth, c⟩ := K
  obtain ⟨hx, hZ, hown, hby, hml, hret, hnm, hlk, hn0⟩ := ok
  intro T locs X eT N
  have hM := hM (by rw [← eT]; exact old_now hn0 X N)
  have hP : s.PrivateAt y := Cond.privateMethod_at (mvP hZ w3 (args := #[]))
  obtain ⟨ci, ki, i1, i2, i3, i4, -⟩ := Cond.instantiable_spec (mvT (args := args) hZ w4)
  have hni : ki.isInterface = false := by
    cases q : ki.isInterface
    · rfl
    · rw [q] at i4; cases i4
  have hsel := selects_self_of_private (args := args) i1 i2 hni hP (mvT hZ w2) hy
  obtain ⟨cell, hcell, hobj⟩ := E.cell
  obtain ⟨v, _, ⟨T1, L1, k1, n1⟩, -, X1, ⟨Lc, ⟨hQ, N1⟩, l1, y1, z1⟩, st⟩ := X.privateBack hx (y := y) hown (mvT hZ w1) (mvT hZ w2) hsel hP (mvT hZ w6) hy (backOf (W := (rest.map fun v => v.category).sum) (Q := fun v h L => Q v h ∧ Fr n0 L) hM hZ w6 w5 hf hl) (g := mkF m pc L (argsL.reverse ++ .ref a :: rest)) rfl (hL.trans hml.symm) (Steps.refl _) (a := a) (by rw [eT]; exact hcell) hobj (argsL := argsL) (rest := rest) (lenOf pd hlen) rfl (by show 2 * 0 + _ ≤ _; omega) (hb hby hd) (fun _ _ => ⟨rfl, eT, hc, hs⟩)
  dsimp only [Pt.U, Pt.locs, Pt.cells, Pt.slots] at X1 l1 y1 z1 st hQ
  subst l1 y1 z1
  obtain ⟨s₂, o, st2, r2⟩ := w v _ hQ T1 _ X1 rfl (Fr.app N N1)
  exact ⟨s₂, o, st.trans st2, r2⟩
theorem w_getstatic (ok : Ok K Z n0 own code maxL ret nm) {index : Nat} {R0 O n' d : String} {v : Value} (hd : decode code pc = .ok (.getstatic index, 3)) (w1 : (Cond.fieldLink own index R0 n' d).before a0 Z = true) (via : Via Z R0 O n' d) (F : Sta Z Z.heap O n' d v) (w : W K l R n0 P h k n (pc + 3) L (v :: S)) : W K l R n0 P h k n pc L S := by
  obtain ⟨p, e, s, m, args, below, meth, c⟩ := K
  obtain ⟨hx, hZ, hown, hby, hml, hret, hnm, hlk, hn0⟩ := ok
  intro T locs X eT N
  have O := old_now hn0 X N
  obtain ⟨T1, X1, e1, st⟩ := getS (host := "") X hx hZ hown w1 via rfl (F.ext O.2) (g := mkF m pc L S) rfl (hb hby hd)
  obtain ⟨s₂, o, st2, r⟩ := w T1 locs X1 (e1.trans eT) N
  exact ⟨s₂, o, st _ st2, r⟩
theorem w_acmp (ok : Ok K Z n0 own code maxL ret nm) {cd : ACond} {x y : Value} {o : Int} {pc1 pc' : Nat} (hd : decode code pc = .ok (.if_acmp cd o, 3)) (hp : (pc : Int) + o = (pc1 : Int)) (h1 : x.isRef = true) (h2 : y.isRef = true) (same : Bool) (hq : decide (x = y) = same) (hpc : pc' = if acV cd same = true then pc1 else pc + 3) (w : W K l R n0 P h k n pc' L S) : W K l R n0 P h k n pc L (y :: x :: S) := by
  obtain ⟨p, e, s, m, args, below, meth, c⟩ := K
  obtain ⟨hx, hZ, hown, hby, -⟩ := ok
  intro T locs X eT N
  obtain ⟨s₂, o, st, r⟩ := w T locs X eT N
  exact ⟨s₂, o, acmp X hx rfl h1 h2 (pc0 := pc) (pc' := pc') (same := same) rfl (hb hby hd) rfl hq (by rw [hp]; exact Int.natCast_nonneg _) (by rw [hp]; exact hpc) st, r⟩
theorem w_ifnullY (ok : Ok K Z n0 own code maxL ret nm) {o : Int} {pc' : Nat} (hd : decode code pc = .ok (.ifnull o, 3)) (hp : (pc : Int) + o = (pc' : Int)) (w : W K l R n0 P h k n pc' L S) : W K l R n0 P h k n pc L (.null :: S) := by
  obtain ⟨p, e, s, m, args, below, meth, c⟩ := K
  obtain ⟨hx, hZ, hown, hby, -⟩ := ok
  intro T locs X eT N
  obtain ⟨s₂, o, st, r⟩ := w T locs X eT N
  exact ⟨s₂, o, XS.ifnullYes X.here hx rfl (pc0 := pc) (pc' := pc') rfl (hb hby hd) rfl (by rw [hp]; exact Int.natCast_nonneg _) (by rw [hp]; rfl) st, r⟩
theorem w_ifnullN (ok : Ok K Z n0 own code maxL ret nm) {o : Int} {a : Addr} (hd : decode code pc = .ok (.ifnull o, 3)) (w : W K l R n0 P h k n (pc + 3) L S) : W K l R n0 P h k n pc L (.ref a :: S) := by
  obtain ⟨p, e, s, m, args, below, meth, c⟩ := K
  obtain ⟨hx, hZ, hown, hby, -⟩ := ok
  intro T locs X eT N
  obtain ⟨s₂, o, st, r⟩ := w T locs X eT N
  exact ⟨s₂, o, XS.ifnullNo X.here hx rfl (hb hby hd) rfl st, r⟩
theorem w_ifnonnullY (ok : Ok K Z n0 own code maxL ret nm) {o : Int} {pc' : Nat} {a : Addr} (hd : decode code pc = .ok (.ifnonnull o, 3)) (hp : (pc : Int) + o = (pc' : Int)) (w : W K l R n0 P h k n pc' L S) : W K l R n0 P h k n pc L (.ref a :: S) := by
  obtain ⟨p, e, s, m, args, below, meth, c⟩ := K
  obtain ⟨hx, hZ, hown, hby, -⟩ := ok
  intro T locs X eT N
  obtain ⟨s₂, o, st, r⟩ := w T locs X eT N
  exact ⟨s₂, o, XS.ifnonnullYes X.here hx rfl (pc0 := pc) (pc' := pc') rfl (hb hby hd) rfl (by rw [hp]; exact Int.natCast_nonneg _) (by rw [hp]; rfl) st, r⟩
theorem w_ifnonnullN (ok : Ok K Z n0 own code maxL ret nm) {o : Int} (hd : decode code pc = .ok (.ifnonnull o, 3)) (w : W K l R n0 P h k n (pc + 3) L S) : W K l R n0 P h k n pc L (.null :: S) := by
  obtain ⟨p, e, s, m, args, below, meth, c⟩ := K
  obtain ⟨hx, hZ, hown, hby, -⟩ := ok
  intro T locs X eT N
  obtain ⟨s₂, o, st, r⟩ := w T locs X eT N
  exact ⟨s₂, o, XS.ifnonnullNo X.here hx rfl (hb hby hd) rfl st, r⟩
/-- what may lie in the array at a: objects of C -/
def OvA (Z : State) (h : Heap) (a : Addr) (C : String) : Prop := ∃ c : Cell, h[a]? = some c ∧ Ovr Z c.cls C
theorem OvA.ext {h' : Heap} {a : Addr} {C : String} (A : OvA Z h a C) (E : Ext h h') : OvA Z h' a C := by obtain ⟨c, q, r⟩ := A; exact ⟨c, E.2 _ _ q, r⟩
theorem OvA.keep {h' : Heap} {a : Addr} {C : String} {ws : List Addr} (A : OvA Z h a C) (K1 : Keep h h' ws) : OvA Z h' a C := by obtain ⟨c, q, r⟩ := A; obtain ⟨c', q', r1, r2⟩ := K1.2.2 a c q; exact ⟨c', q', by rw [r1]; exact r⟩
theorem w_anewarray (ok : Ok K Z n0 own code maxL ret nm) {index : Nat} {C : String} {z : Int32} (hd : decode code pc = .ok (.anewarray index, 3)) (w1 : (Cond.classLink own index C).before a0 Z = true) (w2 : (Cond.arrayOver (.object C)).before a0 Z = true) (hz : ¬ z < 0) {cap : Nat} (hcap : z.toNatClampNeg ≤ cap) (hb1 : cap * 8 ≤ 536870912) (hc : k + 1 ≤ R.cells) (hl : n + cap ≤ R.slots)
    (w : ∀ h' a, a = h.size → n0 ≤ a → Ext h h' → PA (.object C) Z h' a (List.replicate z.toNatClampNeg .null) → OvA Z h' a C → W K l R n0 P h' (k + 1) (n + cap) (pc + 3) L (.ref a :: S)) : W K l R n0 P h k n pc L (.int z :: S) := by
  obtain ⟨p, e, s, m, args, below, meth, c⟩ := K
  obtain ⟨hx, hZ, hown, hby, hml, hret, hnm, hlk, hn0⟩ := ok
  intro T locs X eT N
  obtain ⟨T1, h1, cA, X1, e1, E1, A1, O1, st⟩ := newR X hx hZ hown w1 w2 eT (g := mkF m pc L (.int z :: S)) rfl (hb hby hd) rfl hz hcap hb1 hc hl
  have A2 : PA (.object C) Z h1 h.size (List.replicate z.toNatClampNeg .null) := by
    refine ⟨_, A1, by simpa using (back32 hz).2, by simp [newA, defaultValue], fun v hv => ?_⟩
    rw [List.eq_of_mem_replicate hv]; rfl
  obtain ⟨s₂, o, st2, r⟩ := w h1 h.size rfl (by rw [← eT]; exact old_ge hn0 X N) E1 A2 ⟨_, A1.1, O1⟩ T1 _ X1 e1 N
  exact ⟨s₂, o, st _ st2, r⟩
theorem w_aastore (ok : Ok K Z n0 own code maxL ret nm) {ty : FieldType} {C : String} {a b : Addr} {vs : List Value} {j : Int32} (hd : decode code pc = .ok (.aastore, 1)) (A : PA ty Z h a vs) (OA : OvA Z h a C) (I1 : Ins Z h b C true) (hty : ty.isReference = true) (hfit : fits ty (.ref b) = true) (ge : n0 ≤ a) (h0 : ¬ j < 0) (hj : j.toNatClampNeg < vs.length)
    (w : ∀ h', Wr h h' a j.toNatClampNeg (.ref b) → PA ty Z h' a (vs.set j.toNatClampNeg (.ref b)) → W K l R n0 P h' k n (pc + 1) L S) : W K l R n0 P h k n pc L (.ref b :: .int j :: .ref a :: S) := by
  obtain ⟨p, e, s, m, args, below, meth, c⟩ := K
  obtain ⟨hx, hZ, hown, hby, -⟩ := ok
  intro T locs X eT N
  have A0 := A
  obtain ⟨cl, A, q1, q2, q3⟩ := A
  obtain ⟨c2, y1, y2⟩ := OA
  cases A.1.symm.trans y1
  obtain ⟨T1, h1, X1, e1, W1, st⟩ := stR X hx hZ eT A (j := j) (pa_in q2 h0 hj) hty (Sto.of A y2 I1) (g := mkF m pc L (.ref b :: .int j :: .ref a :: S)) rfl rfl (hb hby hd)
  obtain ⟨s₂, o, st2, r⟩ := w h1 W1 (A0.set W1 hfit) T1 _ X1 e1 (Fr.snoc X1 N ge)
  exact ⟨s₂, o, st _ st2, r⟩
theorem frame_fin {s u : State} {L L' : List Loc} {v : Option Value} {c c' n n' : Nat} (hq : FrameEnd s (.returned v) u L c n) (N : Fr s.heap.size L) (h1 : c ≤ c') (h2 : n ≤ n') : FrameEnd s (.returned v) u L' c' n' :=
  ⟨hq.1, hq.2.1, (hq.2.2.sift fun y hy => Or.inr (N y hy)).mono h1 h2⟩
end S
end Jvm.OwnKit
namespace Jvm.Pilot.@@N@@
open Jvm Jvm.ClassFile Sem Op Lib Jvm.Free Jvm.Stand Jvm.LawKit Jvm.RoadKit Bundle Jvm.OwnKit Jvm.Pilot.@@N@@.Jvm.D
abbrev fl_String : Fl := [("java/lang/String", "value", "[B", (.array .byte)), ("java/lang/String", "coder", "B", .byte)]
theorem la_String {Z : State} {a0 : Array Value} (hw : ∀ d ∈ tables_1, d.before a0 Z = true) : LA Z a0 "java/lang/String" fl_String := by
  refine ⟨fun f hf => ?_, by decide⟩
  simp only [fl_String, List.mem_cons, List.not_mem_nil, or_false] at hf
  rcases hf with rfl | rfl
  · exact ⟨Or.inr (hw _ (List.mem_of_getElem? (i := 4) rfl)), by decide⟩
  · exact ⟨Or.inr (hw _ (List.mem_of_getElem? (i := 5) rfl)), by decide⟩
abbrev bys (xs : List Int32) : List Value := xs.map Value.int
abbrev loB : List Int32 := [48, 49, 50, 51, 52, 53, 54, 55, 56, 57, 97, 98, 99, 100, 101, 102]
abbrev upB : List Int32 := [48, 49, 50, 51, 52, 53, 54, 55, 56, 57, 65, 66, 67, 68, 69, 70]
theorem own_ofNat {j : Nat} (h : j < 2147483648) : (Int32.ofNat j).toInt = j := Int32.toInt_ofNat_of_lt h
theorem own_clamp {z : Int32} {n : Nat} (h : z.toInt = n) : z.toNatClampNeg = n := by rw [Int32.toNatClampNeg, h]; rfl
theorem own_nn {z : Int32} {n : Nat} (h : z.toInt = n) : ¬ z < 0 := by rw [Int32.lt_iff_toInt_lt, h]; show ¬ (n : Int) < 0; omega
theorem own_ix {j : Nat} (h : j < 100) : (Int32.ofNat j).toNatClampNeg = j := own_clamp (own_ofNat (by omega))
theorem own_ix0 {j : Nat} (h : j < 100) : ¬ Int32.ofNat j < 0 := own_nn (own_ofNat (by omega))
theorem own_lt {a b : Nat} (ha : a < 100) (hb : b < 100) : Int32.ofNat a < Int32.ofNat b ↔ a < b := by
  rw [Int32.lt_iff_toInt_lt, own_ofNat (by omega), own_ofNat (by omega)]; omega
theorem own_len {xs : List Int32} (h : xs.length < 100) : (bys xs).length = (Int32.ofNat xs.length).toNatClampNeg := by rw [own_ix h]; simp [bys]
theorem own_rdx {xs : List Int32} {j : Nat} (h : j < xs.length) (hl : xs.length < 100) : (bys xs)[(Int32.ofNat j).toNatClampNeg]? = some (.int (xs.getD j 0)) := by
  rw [own_ix (by omega)]; simp [bys, List.getD, h]
def own_ch (x : Int32) : Int32 := nar .char (nar .char ((x &&& 255).toUInt32.toUInt16.toUInt32.toInt32))
def own_hex (c : Int32) : Int32 := if ¬ c < 48 ∧ ¬ 57 < c then c - 48 else if ¬ c < 97 ∧ ¬ 102 < c then c - 97 + 10 else if ¬ c < 65 ∧ ¬ 70 < c then c - 65 + 10 else -1
theorem d6_0 : decode prog_47_method_18_code 0 = .ok (.iload_n 0, 1) := by decide +kernel
theorem d6_1 : decode prog_47_method_18_code 1 = .ok (.bipush 48, 2) := by decide +kernel
theorem d6_3 : decode prog_47_method_18_code 3 = .ok (.if_icmp .lt 14, 3) := by decide +kernel
theorem d6_6 : decode prog_47_method_18_code 6 = .ok (.iload_n 0, 1) := by decide +kernel
theorem d6_7 : decode prog_47_method_18_code 7 = .ok (.bipush 57, 2) := by decide +kernel
theorem d6_9 : decode prog_47_method_18_code 9 = .ok (.if_icmp .gt 8, 3) := by decide +kernel
theorem d6_12 : decode prog_47_method_18_code 12 = .ok (.iload_n 0, 1) := by decide +kernel
theorem d6_13 : decode prog_47_method_18_code 13 = .ok (.bipush 48, 2) := by decide +kernel
theorem d6_15 : decode prog_47_method_18_code 15 = .ok (.isub, 1) := by decide +kernel
theorem d6_16 : decode prog_47_method_18_code 16 = .ok (.ireturn, 1) := by decide +kernel
theorem d6_17 : decode prog_47_method_18_code 17 = .ok (.iload_n 0, 1) := by decide +kernel
theorem d6_18 : decode prog_47_method_18_code 18 = .ok (.bipush 97, 2) := by decide +kernel
theorem d6_20 : decode prog_47_method_18_code 20 = .ok (.if_icmp .lt 17, 3) := by decide +kernel
theorem d6_23 : decode prog_47_method_18_code 23 = .ok (.iload_n 0, 1) := by decide +kernel
theorem d6_24 : decode prog_47_method_18_code 24 = .ok (.bipush 102, 2) := by decide +kernel
theorem d6_26 : decode prog_47_method_18_code 26 = .ok (.if_icmp .gt 11, 3) := by decide +kernel
theorem d6_29 : decode prog_47_method_18_code 29 = .ok (.iload_n 0, 1) := by decide +kernel
theorem d6_30 : decode prog_47_method_18_code 30 = .ok (.bipush 97, 2) := by decide +kernel
theorem d6_32 : decode prog_47_method_18_code 32 = .ok (.isub, 1) := by decide +kernel
theorem d6_33 : decode prog_47_method_18_code 33 = .ok (.bipush 10, 2) := by decide +kernel
theorem d6_35 : decode prog_47_method_18_code 35 = .ok (.iadd, 1) := by decide +kernel
theorem d6_36 : decode prog_47_method_18_code 36 = .ok (.ireturn, 1) := by decide +kernel
theorem d6_37 : decode prog_47_method_18_code 37 = .ok (.iload_n 0, 1) := by decide +kernel
theorem d6_38 : decode prog_47_method_18_code 38 = .ok (.bipush 65, 2) := by decide +kernel
theorem d6_40 : decode prog_47_method_18_code 40 = .ok (.if_icmp .lt 17, 3) := by decide +kernel
theorem d6_43 : decode prog_47_method_18_code 43 = .ok (.iload_n 0, 1) := by decide +kernel
theorem d6_44 : decode prog_47_method_18_code 44 = .ok (.bipush 70, 2) := by decide +kernel
theorem d6_46 : decode prog_47_method_18_code 46 = .ok (.if_icmp .gt 11, 3) := by decide +kernel
theorem d6_49 : decode prog_47_method_18_code 49 = .ok (.iload_n 0, 1) := by decide +kernel
theorem d6_50 : decode prog_47_method_18_code 50 = .ok (.bipush 65, 2) := by decide +kernel
theorem d6_52 : decode prog_47_method_18_code 52 = .ok (.isub, 1) := by decide +kernel
theorem d6_53 : decode prog_47_method_18_code 53 = .ok (.bipush 10, 2) := by decide +kernel
theorem d6_55 : decode prog_47_method_18_code 55 = .ok (.iadd, 1) := by decide +kernel
theorem d6_56 : decode prog_47_method_18_code 56 = .ok (.ireturn, 1) := by decide +kernel
theorem d6_57 : decode prog_47_method_18_code 57 = .ok (.iconst (-1), 1) := by decide +kernel
theorem d6_58 : decode prog_47_method_18_code 58 = .ok (.ireturn, 1) := by decide +kernel
theorem pn_com_example_acedstream_acedstream_JsonReader : plainName "com/example/acedstream/acedstream/JsonReader" = true := by first | (simp [plainName, overriddenIn]; done) | decide +kernel
set_option maxRecDepth 65536 in
set_option maxHeartbeats 40000000 in
theorem rm_hex (l : Launch) (Z : State) (a0 : Array Value) (hw : ∀ d ∈ tables_1, d.before a0 Z = true) (ws : List Jvm.Cond) (n0 : Nat) (h0 : Heap) (Z0 : Old Z n0 h0) (c : Int32)  :
    Met l Z n0 (⟨"com/example/acedstream/acedstream/JsonReader", "hexDigit", "(I)I"⟩ : MethodName) prog_47_method_18_code 1 (some .int) ws ({ frames := 0, cells := 0, slots := 0, locals := 0 } : Room) #[(.int c)] h0 (fun u h => u = some (.int (own_hex c)) ∧ h0 = h) := by
  refine met_of Z0 (plainFor_of_name pn_com_example_acedstream_acedstream_JsonReader) (Ls := #[.val (.int c)]) (fun m => by first | (simp [entryFrame, mkF, argsToLocals, Value.category]; done) | rfl) ?_
  intro K ok
  show W K l _ n0 _ h0 0 0 0 #[.val (.int c)] []
  refine w_iloadN ok d6_0 rfl ?_
  refine w_bipush ok d6_1 (v := (48 : Int32)) rfl ?_
  refine w_icmp_lt ok d6_3 (pc' := 17) (by decide) (fun hc1 => ?_) (fun hc1 => ?_)
  · show W K l _ n0 _ h0 0 0 17 #[.val (.int c)] []
    refine w_iloadN ok d6_17 rfl ?_
    refine w_bipush ok d6_18 (v := (97 : Int32)) rfl ?_
    refine w_icmp_lt ok d6_20 (pc' := 37) (by decide) (fun hc3 => ?_) (fun hc3 => ?_)
    · show W K l _ n0 _ h0 0 0 37 #[.val (.int c)] []
      refine w_iloadN ok d6_37 rfl ?_
      refine w_bipush ok d6_38 (v := (65 : Int32)) rfl ?_
      refine w_icmp_lt ok d6_40 (pc' := 57) (by decide) (fun hc5 => ?_) (fun hc5 => ?_)
      · show W K l _ n0 _ h0 0 0 57 #[.val (.int c)] []
        refine w_iconst ok d6_57 (v := (-1 : Int32)) rfl ?_
        refine w_iret ok d6_58 (by decide) (by decide) ?_
        refine ⟨?_, rfl⟩
        unfold own_hex
        simp [hc1, hc3, hc5]
      · show W K l _ n0 _ h0 0 0 43 #[.val (.int c)] []
        refine w_iloadN ok d6_43 rfl ?_
        refine w_bipush ok d6_44 (v := (70 : Int32)) rfl ?_
        refine w_icmp_gt ok d6_46 (pc' := 57) (by decide) (fun hc7 => ?_) (fun hc7 => ?_)
        · show W K l _ n0 _ h0 0 0 57 #[.val (.int c)] []
          refine w_iconst ok d6_57 (v := (-1 : Int32)) rfl ?_
          refine w_iret ok d6_58 (by decide) (by decide) ?_
          refine ⟨?_, rfl⟩
          unfold own_hex
          simp [hc1, hc3, hc5, hc7]
        · show W K l _ n0 _ h0 0 0 49 #[.val (.int c)] []
          refine w_iloadN ok d6_49 rfl ?_
          refine w_bipush ok d6_50 (v := (65 : Int32)) rfl ?_
          refine w_isub ok d6_52 ?_
          refine w_bipush ok d6_53 (v := (10 : Int32)) rfl ?_
          refine w_iadd ok d6_55 ?_
          refine w_iret ok d6_56 (by decide) (by decide) ?_
          refine ⟨?_, rfl⟩
          unfold own_hex
          simp [hc1, hc3, hc5, hc7]
    · show W K l _ n0 _ h0 0 0 23 #[.val (.int c)] []
      refine w_iloadN ok d6_23 rfl ?_
      refine w_bipush ok d6_24 (v := (102 : Int32)) rfl ?_
      refine w_icmp_gt ok d6_26 (pc' := 37) (by decide) (fun hc9 => ?_) (fun hc9 => ?_)
      · show W K l _ n0 _ h0 0 0 37 #[.val (.int c)] []
        refine w_iloadN ok d6_37 rfl ?_
        refine w_bipush ok d6_38 (v := (65 : Int32)) rfl ?_
        refine w_icmp_lt ok d6_40 (pc' := 57) (by decide) (fun hc11 => ?_) (fun hc11 => ?_)
        · show W K l _ n0 _ h0 0 0 57 #[.val (.int c)] []
          refine w_iconst ok d6_57 (v := (-1 : Int32)) rfl ?_
          refine w_iret ok d6_58 (by decide) (by decide) ?_
          refine ⟨?_, rfl⟩
          unfold own_hex
          simp [hc1, hc3, hc9, hc11]
        · show W K l _ n0 _ h0 0 0 43 #[.val (.int c)] []
          refine w_iloadN ok d6_43 rfl ?_
          refine w_bipush ok d6_44 (v := (70 : Int32)) rfl ?_
          refine w_icmp_gt ok d6_46 (pc' := 57) (by decide) (fun hc13 => ?_) (fun hc13 => ?_)
          · show W K l _ n0 _ h0 0 0 57 #[.val (.int c)] []
            refine w_iconst ok d6_57 (v := (-1 : Int32)) rfl ?_
            refine w_iret ok d6_58 (by decide) (by decide) ?_
            refine ⟨?_, rfl⟩
            unfold own_hex
            simp [hc1, hc3, hc9, hc11, hc13]
          · show W K l _ n0 _ h0 0 0 49 #[.val (.int c)] []
            refine w_iloadN ok d6_49 rfl ?_
            refine w_bipush ok d6_50 (v := (65 : Int32)) rfl ?_
            refine w_isub ok d6_52 ?_
            refine w_bipush ok d6_53 (v := (10 : Int32)) rfl ?_
            refine w_iadd ok d6_55 ?_
            refine w_iret ok d6_56 (by decide) (by decide) ?_
            refine ⟨?_, rfl⟩
            unfold own_hex
            simp [hc1, hc3, hc9, hc11, hc13]
      · show W K l _ n0 _ h0 0 0 29 #[.val (.int c)] []
        refine w_iloadN ok d6_29 rfl ?_
        refine w_bipush ok d6_30 (v := (97 : Int32)) rfl ?_
        refine w_isub ok d6_32 ?_
        refine w_bipush ok d6_33 (v := (10 : Int32)) rfl ?_
        refine w_iadd ok d6_35 ?_
        refine w_iret ok d6_36 (by decide) (by decide) ?_
        refine ⟨?_, rfl⟩
        unfold own_hex
        simp [hc1, hc3, hc9]
  · show W K l _ n0 _ h0 0 0 6 #[.val (.int c)] []
    refine w_iloadN ok d6_6 rfl ?_
    refine w_bipush ok d6_7 (v := (57 : Int32)) rfl ?_
    refine w_icmp_gt ok d6_9 (pc' := 17) (by decide) (fun hc15 => ?_) (fun hc15 => ?_)
    · show W K l _ n0 _ h0 0 0 17 #[.val (.int c)] []
      refine w_iloadN ok d6_17 rfl ?_
      refine w_bipush ok d6_18 (v := (97 : Int32)) rfl ?_
      refine w_icmp_lt ok d6_20 (pc' := 37) (by decide) (fun hc17 => ?_) (fun hc17 => ?_)
      · show W K l _ n0 _ h0 0 0 37 #[.val (.int c)] []
        refine w_iloadN ok d6_37 rfl ?_
        refine w_bipush ok d6_38 (v := (65 : Int32)) rfl ?_
        refine w_icmp_lt ok d6_40 (pc' := 57) (by decide) (fun hc19 => ?_) (fun hc19 => ?_)
        · show W K l _ n0 _ h0 0 0 57 #[.val (.int c)] []
          refine w_iconst ok d6_57 (v := (-1 : Int32)) rfl ?_
          refine w_iret ok d6_58 (by decide) (by decide) ?_
          refine ⟨?_, rfl⟩
          unfold own_hex
          simp [hc1, hc15, hc17, hc19]
        · show W K l _ n0 _ h0 0 0 43 #[.val (.int c)] []
          refine w_iloadN ok d6_43 rfl ?_
          refine w_bipush ok d6_44 (v := (70 : Int32)) rfl ?_
          refine w_icmp_gt ok d6_46 (pc' := 57) (by decide) (fun hc21 => ?_) (fun hc21 => ?_)
          · show W K l _ n0 _ h0 0 0 57 #[.val (.int c)] []
            refine w_iconst ok d6_57 (v := (-1 : Int32)) rfl ?_
            refine w_iret ok d6_58 (by decide) (by decide) ?_
            refine ⟨?_, rfl⟩
            unfold own_hex
            simp [hc1, hc15, hc17, hc19, hc21]
          · show W K l _ n0 _ h0 0 0 49 #[.val (.int c)] []
            refine w_iloadN ok d6_49 rfl ?_
            refine w_bipush ok d6_50 (v := (65 : Int32)) rfl ?_
            refine w_isub ok d6_52 ?_
            refine w_bipush ok d6_53 (v := (10 : Int32)) rfl ?_
            refine w_iadd ok d6_55 ?_
            refine w_iret ok d6_56 (by decide) (by decide) ?_
            refine ⟨?_, rfl⟩
            unfold own_hex
            simp [hc1, hc15, hc17, hc19, hc21]
      · show W K l _ n0 _ h0 0 0 23 #[.val (.int c)] []
        refine w_iloadN ok d6_23 rfl ?_
        refine w_bipush ok d6_24 (v := (102 : Int32)) rfl ?_
        refine w_icmp_gt ok d6_26 (pc' := 37) (by decide) (fun hc23 => ?_) (fun hc23 => ?_)
        · show W K l _ n0 _ h0 0 0 37 #[.val (.int c)] []
          refine w_iloadN ok d6_37 rfl ?_
          refine w_bipush ok d6_38 (v := (65 : Int32)) rfl ?_
          refine w_icmp_lt ok d6_40 (pc' := 57) (by decide) (fun hc25 => ?_) (fun hc25 => ?_)
          · show W K l _ n0 _ h0 0 0 57 #[.val (.int c)] []
            refine w_iconst ok d6_57 (v := (-1 : Int32)) rfl ?_
            refine w_iret ok d6_58 (by decide) (by decide) ?_
            refine ⟨?_, rfl⟩
            unfold own_hex
            simp [hc1, hc15, hc17, hc23, hc25]
          · show W K l _ n0 _ h0 0 0 43 #[.val (.int c)] []
            refine w_iloadN ok d6_43 rfl ?_
            refine w_bipush ok d6_44 (v := (70 : Int32)) rfl ?_
            refine w_icmp_gt ok d6_46 (pc' := 57) (by decide) (fun hc27 => ?_) (fun hc27 => ?_)
            · show W K l _ n0 _ h0 0 0 57 #[.val (.int c)] []
              refine w_iconst ok d6_57 (v := (-1 : Int32)) rfl ?_
              refine w_iret ok d6_58 (by decide) (by decide) ?_
              refine ⟨?_, rfl⟩
              unfold own_hex
              simp [hc1, hc15, hc17, hc23, hc25, hc27]
            · show W K l _ n0 _ h0 0 0 49 #[.val (.int c)] []
              refine w_iloadN ok d6_49 rfl ?_
              refine w_bipush ok d6_50 (v := (65 : Int32)) rfl ?_
              refine w_isub ok d6_52 ?_
              refine w_bipush ok d6_53 (v := (10 : Int32)) rfl ?_
              refine w_iadd ok d6_55 ?_
              refine w_iret ok d6_56 (by decide) (by decide) ?_
              refine ⟨?_, rfl⟩
              unfold own_hex
              simp [hc1, hc15, hc17, hc23, hc25, hc27]
        · show W K l _ n0 _ h0 0 0 29 #[.val (.int c)] []
          refine w_iloadN ok d6_29 rfl ?_
          refine w_bipush ok d6_30 (v := (97 : Int32)) rfl ?_
          refine w_isub ok d6_32 ?_
          refine w_bipush ok d6_33 (v := (10 : Int32)) rfl ?_
          refine w_iadd ok d6_35 ?_
          refine w_iret ok d6_36 (by decide) (by decide) ?_
          refine ⟨?_, rfl⟩
          unfold own_hex
          simp [hc1, hc15, hc17, hc23]
    · show W K l _ n0 _ h0 0 0 12 #[.val (.int c)] []
      refine w_iloadN ok d6_12 rfl ?_
      refine w_bipush ok d6_13 (v := (48 : Int32)) rfl ?_
      refine w_isub ok d6_15 ?_
      refine w_iret ok d6_16 (by decide) (by decide) ?_
      refine ⟨?_, rfl⟩
      unfold own_hex
      simp [hc1, hc15]
theorem d2_0 : decode jdk_42_method_154_code 0 = .ok (.getstatic 38, 3) := by decide +kernel
theorem d2_3 : decode jdk_42_method_154_code 3 = .ok (.ifCond .eq 14, 3) := by decide +kernel
theorem d2_6 : decode jdk_42_method_154_code 6 = .ok (.aload_n 0, 1) := by decide +kernel
theorem d2_7 : decode jdk_42_method_154_code 7 = .ok (.getfield 15, 3) := by decide +kernel
theorem d2_10 : decode jdk_42_method_154_code 10 = .ok (.ifCond .ne 7, 3) := by decide +kernel
theorem d2_13 : decode jdk_42_method_154_code 13 = .ok (.iconst 1, 1) := by decide +kernel
theorem d2_14 : decode jdk_42_method_154_code 14 = .ok (.goto 4, 3) := by decide +kernel
theorem d2_17 : decode jdk_42_method_154_code 17 = .ok (.iconst 0, 1) := by decide +kernel
theorem d2_18 : decode jdk_42_method_154_code 18 = .ok (.ireturn, 1) := by decide +kernel
theorem pn_java_lang_String : plainName "java/lang/String" = true := by first | (simp [plainName, overriddenIn]; done) | decide +kernel
set_option maxRecDepth 65536 in
set_option maxHeartbeats 40000000 in
theorem rm_l1 (l : Launch) (Z : State) (a0 : Array Value) (hw : ∀ d ∈ tables_1, d.before a0 Z = true) (ws : List Jvm.Cond) (n0 : Nat) (h0 : Heap) (Z0 : Old Z n0 h0) (cs : Int32) (S1 : Sta Z Z.heap "java/lang/String" "COMPACT_STRINGS" "Z" (.int cs)) (hcs : ¬ cs = 0) (a b : Addr) (A_a : Ob Z h0 a "java/lang/String" fl_String [.ref b, .int 0])  :
    Met l Z n0 (⟨"java/lang/String", "isLatin1", "()Z"⟩ : MethodName) jdk_42_method_154_code 1 (some .boolean) ws ({ frames := 0, cells := 0, slots := 0, locals := 0 } : Room) #[(.ref a)] h0 (fun u h => u = some (.int 1) ∧ h0 = h) := by
  refine met_of Z0 (plainFor_of_name pn_java_lang_String) (Ls := #[.val (.ref a)]) (fun m => by first | (simp [entryFrame, mkF, argsToLocals, Value.category]; done) | rfl) ?_
  intro K ok
  show W K l _ n0 _ h0 0 0 0 #[.val (.ref a)] []
  refine w_getstatic ok (v := (.int cs)) d2_0 (hw _ (List.mem_of_getElem? (i := 19) rfl)) Via.refl S1 ?_
  refine w_if_eq ok d2_3 (pc' := 17) (by decide) (fun hc1 => False.elim (by exact hcs hc1)) (fun hc1 => ?_)
  show W K l _ n0 _ h0 0 0 6 #[.val (.ref a)] []
  refine w_aloadN ok d2_6 rfl rfl ?_
  refine w_getfield ok (v := (.int (0 : Int32))) (host := "") (f := ("java/lang/String", "coder", "B", .byte)) 1 d2_7 (Or.inl (hw _ (List.mem_of_getElem? (i := 20) rfl))) Via.refl A_a rfl rfl ?_
  refine w_if_ne ok d2_10 (pc' := 17) (by decide) (fun hc3 => False.elim (by revert hc3; decide)) (fun hc3 => ?_)
  show W K l _ n0 _ h0 0 0 13 #[.val (.ref a)] []
  refine w_iconst ok d2_13 (v := (1 : Int32)) rfl ?_
  refine w_goto ok d2_14 (pc' := 18) (by decide) ?_
  refine w_bret ok (by simp) d2_18 (by decide) (by decide) ?_
  exact ⟨rfl, rfl⟩
theorem own_lo : ∀ j, j < 16 → own_hex (own_ch (loB.getD j 0)) = Int32.ofNat j := by decide +kernel
theorem own_up : ∀ j, j < 16 → own_hex (own_ch (upB.getD j 0)) = Int32.ofNat j := by decide +kernel
theorem own_and15 (x : Int32) : ∃ r, r < 16 ∧ x &&& 15 = Int32.ofNat r := by
  have e5 := c_mask x 15 4 (by decide) (by decide)
  refine ⟨(x &&& 15).toInt.toNat, by omega, ?_⟩
  apply Int32.toInt_inj.mp
  rw [own_ofNat (by omega)]; omega
theorem own_in {c lo hi : Int32} {a b : Nat} (ha : lo.toInt = a) (hb : hi.toInt = b) (h : ¬ c < lo ∧ ¬ hi < c) : ∃ n, a ≤ n ∧ n ≤ b ∧ c = Int32.ofNat n := by
  rw [Int32.lt_iff_toInt_lt, Int32.lt_iff_toInt_lt] at h
  have r := rng32 c
  refine ⟨c.toInt.toNat, by omega, by omega, ?_⟩
  apply Int32.toInt_inj.mp
  rw [own_ofNat (by omega)]; omega
theorem own_d1 : ∀ n, n < 58 → 48 ≤ n → own_hex (Int32.ofNat n) = Int32.ofNat (n - 48) ∧ own_ch (loB.getD (n - 48) 0) = Int32.ofNat n := by decide +kernel
theorem own_d2 : ∀ n, n < 103 → 97 ≤ n → own_hex (Int32.ofNat n) = Int32.ofNat (n - 87) ∧ own_ch (loB.getD (n - 87) 0) = Int32.ofNat n := by decide +kernel
theorem own_d3 : ∀ n, n < 71 → 65 ≤ n → own_hex (Int32.ofNat n) = Int32.ofNat (n - 55) ∧ own_ch (upB.getD (n - 55) 0) = Int32.ofNat n := by decide +kernel
theorem own_back (c : Int32) : own_hex c = -1 ∨ ∃ j, j < 16 ∧ own_hex c = Int32.ofNat j ∧ (c = own_ch (loB.getD j 0) ∨ c = own_ch (upB.getD j 0)) := by
  by_cases h1 : ¬ c < 48 ∧ ¬ 57 < c
  · obtain ⟨n, a, b, rfl⟩ := own_in (a := 48) (b := 57) rfl rfl h1
    have q := own_d1 n (by omega) a
    exact Or.inr ⟨n - 48, by omega, q.1, Or.inl q.2.symm⟩
  · by_cases h2 : ¬ c < 97 ∧ ¬ 102 < c
    · obtain ⟨n, a, b, rfl⟩ := own_in (a := 97) (b := 102) rfl rfl h2
      have q := own_d2 n (by omega) a
      exact Or.inr ⟨n - 87, by omega, q.1, Or.inl q.2.symm⟩
    · by_cases h3 : ¬ c < 65 ∧ ¬ 70 < c
      · obtain ⟨n, a, b, rfl⟩ := own_in (a := 65) (b := 70) rfl rfl h3
        have q := own_d3 n (by omega) a
        exact Or.inr ⟨n - 55, by omega, q.1, Or.inr q.2.symm⟩
      · exact Or.inl (by rw [own_hex, if_neg h1, if_neg h2, if_neg h3])
theorem d5_0 : decode jdk_41_method_11_code 0 = .ok (.iload_n 0, 1) := by decide +kernel
theorem d5_1 : decode jdk_41_method_11_code 1 = .ok (.ifCond .lt 8, 3) := by decide +kernel
theorem d5_4 : decode jdk_41_method_11_code 4 = .ok (.iload_n 0, 1) := by decide +kernel
theorem d5_5 : decode jdk_41_method_11_code 5 = .ok (.iload_n 1, 1) := by decide +kernel
theorem d5_6 : decode jdk_41_method_11_code 6 = .ok (.if_icmp .lt 10, 3) := by decide +kernel
theorem d5_9 : decode jdk_41_method_11_code 9 = .ok (.aload_n 2, 1) := by decide +kernel
theorem d5_10 : decode jdk_41_method_11_code 10 = .ok (.iload_n 0, 1) := by decide +kernel
theorem d5_11 : decode jdk_41_method_11_code 11 = .ok (.iload_n 1, 1) := by decide +kernel
theorem d5_12 : decode jdk_41_method_11_code 12 = .ok (.invokestatic 95, 3) := by decide +kernel
theorem d5_16 : decode jdk_41_method_11_code 16 = .ok (.iload_n 0, 1) := by decide +kernel
theorem d5_17 : decode jdk_41_method_11_code 17 = .ok (.ireturn, 1) := by decide +kernel
theorem pn_jdk_internal_util_Preconditions : plainName "jdk/internal/util/Preconditions" = true := by first | (simp [plainName, overriddenIn]; done) | decide +kernel
set_option maxRecDepth 65536 in
set_option maxHeartbeats 40000000 in
theorem rm_pcR (l : Launch) (Z : State) (a0 : Array Value) (hw : ∀ d ∈ tables_1, d.before a0 Z = true) (ws : List Jvm.Cond) (n0 : Nat) (h0 : Heap) (Z0 : Old Z n0 h0) (fa : Addr) (j m : Nat) (hj : j < m) (hm : m < 100)  :
    Met l Z n0 (⟨"jdk/internal/util/Preconditions", "checkIndex", "(IILjava/util/function/BiFunction;)I"⟩ : MethodName) jdk_41_method_11_code 3 (some .int) ws ({ frames := 0, cells := 0, slots := 0, locals := 0 } : Room) #[(.int (Int32.ofNat j)), (.int (Int32.ofNat m)), (.ref fa)] h0 (fun u h => u = some (.int (Int32.ofNat j)) ∧ h0 = h) := by
  refine met_of Z0 (plainFor_of_name pn_jdk_internal_util_Preconditions) (Ls := #[.val (.int (Int32.ofNat j)), .val (.int (Int32.ofNat m)), .val (.ref fa)]) (fun m => by first | (simp [entryFrame, mkF, argsToLocals, Value.category]; done) | rfl) ?_
  intro K ok
  show W K l _ n0 _ h0 0 0 0 #[.val (.int (Int32.ofNat j)), .val (.int (Int32.ofNat m)), .val (.ref fa)] []
  refine w_iloadN ok d5_0 rfl ?_
  refine w_if_lt ok d5_1 (pc' := 9) (by decide) (fun hc1 => False.elim (by exact own_ix0 (by omega) hc1)) (fun hc1 => ?_)
  show W K l _ n0 _ h0 0 0 4 #[.val (.int (Int32.ofNat j)), .val (.int (Int32.ofNat m)), .val (.ref fa)] []
  refine w_iloadN ok d5_4 rfl ?_
  refine w_iloadN ok d5_5 rfl ?_
  refine w_icmp_lt ok d5_6 (pc' := 16) (by decide) (fun hc3 => ?_) (fun hc3 => False.elim (by exact hc3 ((own_lt (by omega) (by omega)).mpr hj)))
  show W K l _ n0 _ h0 0 0 16 #[.val (.int (Int32.ofNat j)), .val (.int (Int32.ofNat m)), .val (.ref fa)] []
  refine w_iloadN ok d5_16 rfl ?_
  refine w_iret ok d5_17 (by decide) (by decide) ?_
  exact ⟨rfl, rfl⟩
theorem d4_0 : decode jdk_42_method_155_code 0 = .ok (.iload_n 0, 1) := by decide +kernel
theorem d4_1 : decode jdk_42_method_155_code 1 = .ok (.iload_n 1, 1) := by decide +kernel
theorem d4_2 : decode jdk_42_method_155_code 2 = .ok (.getstatic 1053, 3) := by decide +kernel
theorem d4_5 : decode jdk_42_method_155_code 5 = .ok (.invokestatic 1059, 3) := by decide +kernel
theorem d4_8 : decode jdk_42_method_155_code 8 = .ok (.pop, 1) := by decide +kernel
theorem d4_9 : decode jdk_42_method_155_code 9 = .ok (.return_, 1) := by decide +kernel
theorem pd_28IILjava2futil2ffunction2fBiFunction3b29I : parseMethodDescriptor "(IILjava/util/function/BiFunction;)I" = some ⟨[.int, .int, (.object "java/util/function/BiFunction")], some .int⟩ := by decide +kernel
set_option maxRecDepth 65536 in
set_option maxHeartbeats 40000000 in
theorem rm_ckR (l : Launch) (Z : State) (a0 : Array Value) (hw : ∀ d ∈ tables_1, d.before a0 Z = true) (ws : List Jvm.Cond) (n0 : Nat) (h0 : Heap) (Z0 : Old Z n0 h0) (fa : Addr) (S2 : Sta Z Z.heap "jdk/internal/util/Preconditions" "SIOOBE_FORMATTER" "Ljava/util/function/BiFunction;" (.ref fa)) (j m : Nat) (hj : j < m) (hm : m < 100)  :
    Met l Z n0 (⟨"java/lang/String", "checkIndex", "(II)V"⟩ : MethodName) jdk_42_method_155_code 2 none ws ({ frames := 1, cells := 0, slots := 0, locals := 14 } : Room) #[(.int (Int32.ofNat j)), (.int (Int32.ofNat m))] h0 (fun u h => u = none ∧ h0 = h) := by
  refine met_of Z0 (plainFor_of_name pn_java_lang_String) (Ls := #[.val (.int (Int32.ofNat j)), .val (.int (Int32.ofNat m))]) (fun m => by first | (simp [entryFrame, mkF, argsToLocals, Value.category]; done) | rfl) ?_
  intro K ok
  show W K l _ n0 _ h0 0 0 0 #[.val (.int (Int32.ofNat j)), .val (.int (Int32.ofNat m))] []
  refine w_iloadN ok d4_0 rfl ?_
  refine w_iloadN ok d4_1 rfl ?_
  refine w_getstatic ok (v := (.ref fa)) d4_2 (hw _ (List.mem_of_getElem? (i := 29) rfl)) Via.refl S2 ?_
  refine w_callS ok (y := (⟨"jdk/internal/util/Preconditions", "checkIndex", "(IILjava/util/function/BiFunction;)I"⟩ : MethodName)) (argsL := [(.int (Int32.ofNat j)), (.int (Int32.ofNat m)), (.ref fa)]) (rest := []) d4_5 (hw _ (List.mem_of_getElem? (i := 31) rfl)) (hw _ (List.mem_of_getElem? (i := 32) rfl)) (hw _ (List.mem_of_getElem? (i := 30) rfl)) (hw _ (List.mem_of_getElem? (i := 33) rfl)) (by decide) pd_28IILjava2futil2ffunction2fBiFunction3b29I rfl rfl (by decide) (Nat.le_of_ble_eq_true rfl) (by decide) (by decide) (fun z0 => rm_pcR l Z a0 hw [] n0 h0 z0 fa j m hj hm) (fun v1 h2 qv1 => ?_)
  obtain ⟨rfl, rfl⟩ := qv1
  show W K l _ n0 _ h0 0 0 8 #[.val (.int (Int32.ofNat j)), .val (.int (Int32.ofNat m))] [(.int (Int32.ofNat j))]
  refine w_pop ok d4_8 rfl ?_
  refine w_ret ok d4_9 (by decide) (by decide) ?_
  exact ⟨rfl, rfl⟩
theorem d3_0 : decode jdk_43_method_2_code 0 = .ok (.iload_n 1, 1) := by decide +kernel
theorem d3_1 : decode jdk_43_method_2_code 1 = .ok (.aload_n 0, 1) := by decide +kernel
theorem d3_2 : decode jdk_43_method_2_code 2 = .ok (.arraylength, 1) := by decide +kernel
theorem d3_3 : decode jdk_43_method_2_code 3 = .ok (.invokestatic 9, 3) := by decide +kernel
theorem d3_6 : decode jdk_43_method_2_code 6 = .ok (.aload_n 0, 1) := by decide +kernel
theorem d3_7 : decode jdk_43_method_2_code 7 = .ok (.iload_n 1, 1) := by decide +kernel
theorem d3_8 : decode jdk_43_method_2_code 8 = .ok (.baload, 1) := by decide +kernel
theorem d3_9 : decode jdk_43_method_2_code 9 = .ok (.sipush 255, 3) := by decide +kernel
theorem d3_12 : decode jdk_43_method_2_code 12 = .ok (.iand, 1) := by decide +kernel
theorem d3_13 : decode jdk_43_method_2_code 13 = .ok (.i2c, 1) := by decide +kernel
theorem d3_14 : decode jdk_43_method_2_code 14 = .ok (.ireturn, 1) := by decide +kernel
theorem pn_java_lang_StringLatin1 : plainName "java/lang/StringLatin1" = true := by first | (simp [plainName, overriddenIn]; done) | decide +kernel
theorem pd_28II29V : parseMethodDescriptor "(II)V" = some ⟨[.int, .int], none⟩ := by decide +kernel
set_option maxRecDepth 65536 in
set_option maxHeartbeats 40000000 in
theorem rm_lcR (l : Launch) (Z : State) (a0 : Array Value) (hw : ∀ d ∈ tables_1, d.before a0 Z = true) (ws : List Jvm.Cond) (n0 : Nat) (h0 : Heap) (Z0 : Old Z n0 h0) (fa : Addr) (S2 : Sta Z Z.heap "jdk/internal/util/Preconditions" "SIOOBE_FORMATTER" "Ljava/util/function/BiFunction;" (.ref fa)) (b : Addr) (xs : List Int32) (A_b : PA .byte Z h0 b (bys xs)) (j : Nat) (hj : j < xs.length) (hl : xs.length < 100)  :
    Met l Z n0 (⟨"java/lang/StringLatin1", "charAt", "([BI)C"⟩ : MethodName) jdk_43_method_2_code 2 (some .char) ws ({ frames := 2, cells := 0, slots := 0, locals := 27 } : Room) #[(.ref b), (.int (Int32.ofNat j))] h0 (fun u h => u = some (.int (nar .char ((xs.getD j 0 &&& 255).toUInt32.toUInt16.toUInt32.toInt32))) ∧ h0 = h) := by
  refine met_of Z0 (plainFor_of_name pn_java_lang_StringLatin1) (Ls := #[.val (.ref b), .val (.int (Int32.ofNat j))]) (fun m => by first | (simp [entryFrame, mkF, argsToLocals, Value.category]; done) | rfl) ?_
  intro K ok
  show W K l _ n0 _ h0 0 0 0 #[.val (.ref b), .val (.int (Int32.ofNat j))] []
  refine w_iloadN ok d3_0 rfl ?_
  refine w_aloadN ok d3_1 rfl rfl ?_
  refine w_arraylength ok (z := Int32.ofNat xs.length) d3_2 A_b (own_len hl) (own_ix0 hl) ?_
  show W K l _ n0 _ h0 0 0 3 #[.val (.ref b), .val (.int (Int32.ofNat j))] [(.int (Int32.ofNat xs.length)), (.int (Int32.ofNat j))]
  refine w_callS ok (y := (⟨"java/lang/String", "checkIndex", "(II)V"⟩ : MethodName)) (argsL := [(.int (Int32.ofNat j)), (.int (Int32.ofNat xs.length))]) (rest := []) d3_3 (hw _ (List.mem_of_getElem? (i := 26) rfl)) (hw _ (List.mem_of_getElem? (i := 27) rfl)) (hw _ (List.mem_of_getElem? (i := 1) rfl)) (hw _ (List.mem_of_getElem? (i := 28) rfl)) (by decide) pd_28II29V rfl rfl (by decide) (Nat.le_of_ble_eq_true rfl) (by decide) (by decide) (fun z0 => rm_ckR l Z a0 hw [] n0 h0 z0 fa S2 j xs.length hj hl) (fun v1 h2 qv1 => ?_)
  obtain ⟨rfl, rfl⟩ := qv1
  show W K l _ n0 _ h0 0 0 6 #[.val (.ref b), .val (.int (Int32.ofNat j))] []
  refine w_aloadN ok d3_6 rfl rfl ?_
  refine w_iloadN ok d3_7 rfl ?_
  refine w_baload ok (v := (.int (xs.getD j 0))) d3_8 A_b (own_ix0 (by omega)) (own_rdx hj hl) ?_
  refine w_sipush ok d3_9 (v := (255 : Int32)) rfl ?_
  refine w_iand ok d3_12 ?_
  refine w_i2c ok d3_13 ?_
  refine w_bret ok (by simp) d3_14 (by decide) (by decide) ?_
  exact ⟨rfl, rfl⟩
theorem d1_0 : decode jdk_42_method_56_code 0 = .ok (.aload_n 0, 1) := by decide +kernel
theorem d1_1 : decode jdk_42_method_56_code 1 = .ok (.invokevirtual 492, 3) := by decide +kernel
theorem d1_4 : decode jdk_42_method_56_code 4 = .ok (.ifCond .eq 12, 3) := by decide +kernel
theorem d1_7 : decode jdk_42_method_56_code 7 = .ok (.aload_n 0, 1) := by decide +kernel
theorem d1_8 : decode jdk_42_method_56_code 8 = .ok (.getfield 9, 3) := by decide +kernel
theorem d1_11 : decode jdk_42_method_56_code 11 = .ok (.iload_n 1, 1) := by decide +kernel
theorem d1_12 : decode jdk_42_method_56_code 12 = .ok (.invokestatic 495, 3) := by decide +kernel
theorem d1_15 : decode jdk_42_method_56_code 15 = .ok (.ireturn, 1) := by decide +kernel
theorem d1_16 : decode jdk_42_method_56_code 16 = .ok (.aload_n 0, 1) := by decide +kernel
theorem d1_17 : decode jdk_42_method_56_code 17 = .ok (.getfield 9, 3) := by decide +kernel
theorem d1_20 : decode jdk_42_method_56_code 20 = .ok (.iload_n 1, 1) := by decide +kernel
theorem d1_21 : decode jdk_42_method_56_code 21 = .ok (.invokestatic 498, 3) := by decide +kernel
theorem d1_24 : decode jdk_42_method_56_code 24 = .ok (.ireturn, 1) := by decide +kernel
theorem pd_2829Z : parseMethodDescriptor "()Z" = some ⟨[], some .boolean⟩ := by decide +kernel
theorem pd_285bBI29C : parseMethodDescriptor "([BI)C" = some ⟨[(.array .byte), .int], some .char⟩ := by decide +kernel
set_option maxRecDepth 65536 in
set_option maxHeartbeats 40000000 in
theorem rm_caR (l : Launch) (Z : State) (a0 : Array Value) (hw : ∀ d ∈ tables_1, d.before a0 Z = true) (ws : List Jvm.Cond) (n0 : Nat) (h0 : Heap) (Z0 : Old Z n0 h0) (cs : Int32) (S1 : Sta Z Z.heap "java/lang/String" "COMPACT_STRINGS" "Z" (.int cs)) (hcs : ¬ cs = 0) (fa : Addr) (S2 : Sta Z Z.heap "jdk/internal/util/Preconditions" "SIOOBE_FORMATTER" "Ljava/util/function/BiFunction;" (.ref fa)) (a b : Addr) (A_a : Ob Z h0 a "java/lang/String" fl_String [.ref b, .int 0]) (xs : List Int32) (A_b : PA .byte Z h0 b (bys xs)) (j : Nat) (hj : j < xs.length) (hl : xs.length < 100)  :
    Met l Z n0 (⟨"java/lang/String", "charAt", "(I)C"⟩ : MethodName) jdk_42_method_56_code 2 (some .char) ws ({ frames := 3, cells := 0, slots := 0, locals := 40 } : Room) #[(.ref a), (.int (Int32.ofNat j))] h0 (fun u h => u = some (.int (own_ch (xs.getD j 0))) ∧ h0 = h) := by
  refine met_of Z0 (plainFor_of_name pn_java_lang_String) (Ls := #[.val (.ref a), .val (.int (Int32.ofNat j))]) (fun m => by first | (simp [entryFrame, mkF, argsToLocals, Value.category]; done) | rfl) ?_
  intro K ok
  show W K l _ n0 _ h0 0 0 0 #[.val (.ref a), .val (.int (Int32.ofNat j))] []
  refine w_aloadN ok d1_0 rfl rfl ?_
  refine w_callV ok (y := (⟨"java/lang/String", "isLatin1", "()Z"⟩ : MethodName)) (a := a) (argsL := []) (rest := []) d1_1 (hw _ (List.mem_of_getElem? (i := 14) rfl)) (hw _ (List.mem_of_getElem? (i := 15) rfl)) (hw _ (List.mem_of_getElem? (i := 17) rfl)) (hw _ (List.mem_of_getElem? (i := 16) rfl)) (hw _ (List.mem_of_getElem? (i := 1) rfl)) (hw _ (List.mem_of_getElem? (i := 18) rfl)) (by decide) A_a.1 pd_2829Z rfl rfl (by decide) (Nat.le_of_ble_eq_true rfl) (by decide) (by decide) (fun z0 => rm_l1 l Z a0 hw [] n0 h0 z0 cs S1 hcs a b A_a) (fun v1 h2 qv1 => ?_)
  obtain ⟨rfl, rfl⟩ := qv1
  show W K l _ n0 _ h0 0 0 4 #[.val (.ref a), .val (.int (Int32.ofNat j))] [(.int (1 : Int32))]
  refine w_if_eq ok d1_4 (pc' := 16) (by decide) (fun hc4 => False.elim (by revert hc4; decide)) (fun hc4 => ?_)
  show W K l _ n0 _ h0 0 0 7 #[.val (.ref a), .val (.int (Int32.ofNat j))] []
  refine w_aloadN ok d1_7 rfl rfl ?_
  refine w_getfield ok (v := (.ref b)) (host := "") (f := ("java/lang/String", "value", "[B", (.array .byte))) 0 d1_8 (Or.inl (hw _ (List.mem_of_getElem? (i := 21) rfl))) Via.refl A_a rfl rfl ?_
  refine w_iloadN ok d1_11 rfl ?_
  refine w_callS ok (y := (⟨"java/lang/StringLatin1", "charAt", "([BI)C"⟩ : MethodName)) (argsL := [(.ref b), (.int (Int32.ofNat j))]) (rest := []) d1_12 (hw _ (List.mem_of_getElem? (i := 22) rfl)) (hw _ (List.mem_of_getElem? (i := 23) rfl)) (hw _ (List.mem_of_getElem? (i := 24) rfl)) (hw _ (List.mem_of_getElem? (i := 25) rfl)) (by decide) pd_285bBI29C rfl rfl (by decide) (Nat.le_of_ble_eq_true rfl) (by decide) (by decide) (fun z0 => rm_lcR l Z a0 hw [] n0 h0 z0 fa S2 b xs A_b j hj hl) (fun v5 h6 qv5 => ?_)
  obtain ⟨rfl, rfl⟩ := qv5
  show W K l _ n0 _ h0 0 0 15 #[.val (.ref a), .val (.int (Int32.ofNat j))] [(.int (nar .char ((xs.getD j 0 &&& 255).toUInt32.toUInt16.toUInt32.toInt32)))]
  refine w_bret ok (by simp) d1_15 (by decide) (by decide) ?_
  exact ⟨rfl, rfl⟩
theorem pn_com_example_acedstream_acedstream_JsonReaderHexDigitPinLaw : plainName "com/example/acedstream/acedstream/JsonReaderHexDigitPinLaw" = true := by first | (simp [plainName, overriddenIn]; done) | decide +kernel
theorem own_m1 {r : Nat} (h : r < 16) (q : Int32.ofNat r = -1) : False := by
  have := congrArg Int32.toInt q
  rw [own_ofNat (by omega)] at this
  have e : (-1 : Int32).toInt = -1 := rfl
  omega
theorem pd_28I29C : parseMethodDescriptor "(I)C" = some ⟨[.int], some .char⟩ := by decide +kernel
theorem pd_28I29I : parseMethodDescriptor "(I)I" = some ⟨[.int], some .int⟩ := by decide +kernel
set_option maxRecDepth 65536 in
set_option maxHeartbeats 40000000 in
theorem c6R (l : Launch) (Z : State) (a0 : Array Value) (hw : ∀ d ∈ tables_1, d.before a0 Z = true) (n0 : Nat) (h0 : Heap) (K : Cx) (ok : Ok K Z n0 x.cls code maxLocals ret x.name) (cs : Int32) (S1 : Sta Z Z.heap "java/lang/String" "COMPACT_STRINGS" "Z" (.int cs)) (hcs : ¬ cs = 0) (fa : Addr) (S2 : Sta Z Z.heap "jdk/internal/util/Preconditions" "SIOOBE_FORMATTER" "Ljava/util/function/BiFunction;" (.ref fa)) (a1 b1 a2 b2 : Addr) (A_a1 : Ob Z h0 a1 "java/lang/String" fl_String [.ref b1, .int 0]) (A_b1 : PA .byte Z h0 b1 (bys loB)) (A_a2 : Ob Z h0 a2 "java/lang/String" fl_String [.ref b2, .int 0]) (A_b2 : PA .byte Z h0 b2 (bys upB)) (c d : Int32) :
    W K l room_1 n0 (fun u h => u = some (.int 1) ∧ h0 = h) h0 4 136 6 #[.val (.int c), .val (.int d), .val (.ref a1), .val (.ref a2), .unset, .unset] [] := by
  show W K l _ n0 _ h0 4 136 6 #[.val (.int c), .val (.int d), .val (.ref a1), .val (.ref a2), .unset, .unset] []
  refine w_iloadN ok at_6 rfl ?_
  refine w_bipush ok at_7 (v := (15 : Int32)) rfl ?_
  refine w_iand ok at_9 ?_
  refine w_istore ok at_10 (L' := #[.val (.int c), .val (.int d), .val (.ref a1), .val (.ref a2), .val (.int (d &&& (15 : Int32))), .unset]) rfl ?_
  show W K l _ n0 _ h0 4 136 12 #[.val (.int c), .val (.int d), .val (.ref a1), .val (.ref a2), .val (.int (d &&& (15 : Int32))), .unset] []
  obtain ⟨k, hk, ek⟩ := own_and15 d
  rw [ek]
  show W K l _ n0 _ h0 4 136 12 #[.val (.int c), .val (.int d), .val (.ref a1), .val (.ref a2), .val (.int (Int32.ofNat k)), .unset] []
  refine w_aloadN ok at_12 rfl rfl ?_
  refine w_iload ok at_13 rfl ?_
  refine w_callV ok (y := (⟨"java/lang/String", "charAt", "(I)C"⟩ : MethodName)) (a := a1) (argsL := [(.int (Int32.ofNat k))]) (rest := []) at_15 (hw _ (List.mem_of_getElem? (i := 9) rfl)) (hw _ (List.mem_of_getElem? (i := 10) rfl)) (hw _ (List.mem_of_getElem? (i := 12) rfl)) (hw _ (List.mem_of_getElem? (i := 11) rfl)) (hw _ (List.mem_of_getElem? (i := 1) rfl)) (hw _ (List.mem_of_getElem? (i := 13) rfl)) (by decide) A_a1.1 pd_28I29C rfl rfl (by decide) (Nat.le_of_ble_eq_true rfl) (by decide) (by decide) (fun z0 => rm_caR l Z a0 hw [] n0 h0 z0 cs S1 hcs fa S2 a1 b1 A_a1 loB A_b1 k (show k < 16 by omega) (by decide)) (fun v1 h2 qv1 => ?_)
  obtain ⟨rfl, rfl⟩ := qv1
  show W K l _ n0 _ h0 4 136 18 #[.val (.int c), .val (.int d), .val (.ref a1), .val (.ref a2), .val (.int (Int32.ofNat k)), .unset] [(.int (own_ch (loB.getD k 0)))]
  refine w_callS ok (y := (⟨"com/example/acedstream/acedstream/JsonReader", "hexDigit", "(I)I"⟩ : MethodName)) (argsL := [(.int (own_ch (loB.getD k 0)))]) (rest := []) at_18 (hw _ (List.mem_of_getElem? (i := 34) rfl)) (hw _ (List.mem_of_getElem? (i := 35) rfl)) (hw _ (List.mem_of_getElem? (i := 36) rfl)) (hw _ (List.mem_of_getElem? (i := 37) rfl)) (by decide) pd_28I29I rfl rfl (by decide) (Nat.le_of_ble_eq_true rfl) (by decide) (by decide) (fun z0 => rm_hex l Z a0 hw [] n0 h0 z0 (own_ch (loB.getD k 0))) (fun v3 h4 qv3 => ?_)
  obtain ⟨rfl, rfl⟩ := qv3
  show W K l _ n0 _ h0 4 136 21 #[.val (.int c), .val (.int d), .val (.ref a1), .val (.ref a2), .val (.int (Int32.ofNat k)), .unset] [(.int (own_hex (own_ch (loB.getD k 0))))]
  refine w_iload ok at_21 rfl ?_
  refine w_icmp_eq ok at_23 (pc' := 28) (by decide) (fun hc6 => ?_) (fun hc6 => False.elim (by exact hc6 (own_lo k hk)))
  show W K l _ n0 _ h0 4 136 28 #[.val (.int c), .val (.int d), .val (.ref a1), .val (.ref a2), .val (.int (Int32.ofNat k)), .unset] []
  refine w_aloadN ok at_28 rfl rfl ?_
  refine w_iload ok at_29 rfl ?_
  refine w_callV ok (y := (⟨"java/lang/String", "charAt", "(I)C"⟩ : MethodName)) (a := a2) (argsL := [(.int (Int32.ofNat k))]) (rest := []) at_31 (hw _ (List.mem_of_getElem? (i := 9) rfl)) (hw _ (List.mem_of_getElem? (i := 10) rfl)) (hw _ (List.mem_of_getElem? (i := 12) rfl)) (hw _ (List.mem_of_getElem? (i := 11) rfl)) (hw _ (List.mem_of_getElem? (i := 1) rfl)) (hw _ (List.mem_of_getElem? (i := 13) rfl)) (by decide) A_a2.1 pd_28I29C rfl rfl (by decide) (Nat.le_of_ble_eq_true rfl) (by decide) (by decide) (fun z0 => rm_caR l Z a0 hw [] n0 h0 z0 cs S1 hcs fa S2 a2 b2 A_a2 upB A_b2 k (show k < 16 by omega) (by decide)) (fun v7 h8 qv7 => ?_)
  obtain ⟨rfl, rfl⟩ := qv7
  show W K l _ n0 _ h0 4 136 34 #[.val (.int c), .val (.int d), .val (.ref a1), .val (.ref a2), .val (.int (Int32.ofNat k)), .unset] [(.int (own_ch (upB.getD k 0)))]
  refine w_callS ok (y := (⟨"com/example/acedstream/acedstream/JsonReader", "hexDigit", "(I)I"⟩ : MethodName)) (argsL := [(.int (own_ch (upB.getD k 0)))]) (rest := []) at_34 (hw _ (List.mem_of_getElem? (i := 34) rfl)) (hw _ (List.mem_of_getElem? (i := 35) rfl)) (hw _ (List.mem_of_getElem? (i := 36) rfl)) (hw _ (List.mem_of_getElem? (i := 37) rfl)) (by decide) pd_28I29I rfl rfl (by decide) (Nat.le_of_ble_eq_true rfl) (by decide) (by decide) (fun z0 => rm_hex l Z a0 hw [] n0 h0 z0 (own_ch (upB.getD k 0))) (fun v9 h10 qv9 => ?_)
  obtain ⟨rfl, rfl⟩ := qv9
  show W K l _ n0 _ h0 4 136 37 #[.val (.int c), .val (.int d), .val (.ref a1), .val (.ref a2), .val (.int (Int32.ofNat k)), .unset] [(.int (own_hex (own_ch (upB.getD k 0))))]
  refine w_iload ok at_37 rfl ?_
  refine w_icmp_eq ok at_39 (pc' := 44) (by decide) (fun hc12 => ?_) (fun hc12 => False.elim (by exact hc12 (own_up k hk)))
  show W K l _ n0 _ h0 4 136 44 #[.val (.int c), .val (.int d), .val (.ref a1), .val (.ref a2), .val (.int (Int32.ofNat k)), .unset] []
  refine w_iloadN ok at_44 rfl ?_
  refine w_callS ok (y := (⟨"com/example/acedstream/acedstream/JsonReader", "hexDigit", "(I)I"⟩ : MethodName)) (argsL := [(.int c)]) (rest := []) at_45 (hw _ (List.mem_of_getElem? (i := 34) rfl)) (hw _ (List.mem_of_getElem? (i := 35) rfl)) (hw _ (List.mem_of_getElem? (i := 36) rfl)) (hw _ (List.mem_of_getElem? (i := 37) rfl)) (by decide) pd_28I29I rfl rfl (by decide) (Nat.le_of_ble_eq_true rfl) (by decide) (by decide) (fun z0 => rm_hex l Z a0 hw [] n0 h0 z0 c) (fun v13 h14 qv13 => ?_)
  obtain ⟨rfl, rfl⟩ := qv13
  show W K l _ n0 _ h0 4 136 48 #[.val (.int c), .val (.int d), .val (.ref a1), .val (.ref a2), .val (.int (Int32.ofNat k)), .unset] [(.int (own_hex c))]
  refine w_istore ok at_48 (L' := #[.val (.int c), .val (.int d), .val (.ref a1), .val (.ref a2), .val (.int (Int32.ofNat k)), .val (.int (own_hex c))]) rfl ?_
  show W K l _ n0 _ h0 4 136 50 #[.val (.int c), .val (.int d), .val (.ref a1), .val (.ref a2), .val (.int (Int32.ofNat k)), .val (.int (own_hex c))] []
  rcases own_back c with e1 | ⟨r, hr, e1, e2⟩
  · skip
    rw [e1]
    show W K l _ n0 _ h0 4 136 50 #[.val (.int c), .val (.int d), .val (.ref a1), .val (.ref a2), .val (.int (Int32.ofNat k)), .val (.int (-1 : Int32))] []
    refine w_iload ok at_50 rfl ?_
    refine w_iconst ok at_52 (v := (-1 : Int32)) rfl ?_
    refine w_icmp_ne ok at_53 (pc' := 58) (by decide) (fun hc16 => False.elim (by revert hc16; decide)) (fun hc16 => ?_)
    show W K l _ n0 _ h0 4 136 56 #[.val (.int c), .val (.int d), .val (.ref a1), .val (.ref a2), .val (.int (Int32.ofNat k)), .val (.int (-1 : Int32))] []
    refine w_iconst ok at_56 (v := (1 : Int32)) rfl ?_
    refine w_bret ok (by simp) at_57 (by decide) (by decide) ?_
    exact ⟨rfl, rfl⟩
  · skip
    rw [e1]
    show W K l _ n0 _ h0 4 136 50 #[.val (.int c), .val (.int d), .val (.ref a1), .val (.ref a2), .val (.int (Int32.ofNat k)), .val (.int (Int32.ofNat r))] []
    refine w_iload ok at_50 rfl ?_
    refine w_iconst ok at_52 (v := (-1 : Int32)) rfl ?_
    refine w_icmp_ne ok at_53 (pc' := 58) (by decide) (fun hc18 => ?_) (fun hc18 => False.elim (by exact own_m1 hr hc18))
    show W K l _ n0 _ h0 4 136 58 #[.val (.int c), .val (.int d), .val (.ref a1), .val (.ref a2), .val (.int (Int32.ofNat k)), .val (.int (Int32.ofNat r))] []
    refine w_iload ok at_58 rfl ?_
    refine w_if_lt ok at_60 (pc' := 70) (by decide) (fun hc20 => False.elim (by exact own_ix0 (by omega) hc20)) (fun hc20 => ?_)
    show W K l _ n0 _ h0 4 136 63 #[.val (.int c), .val (.int d), .val (.ref a1), .val (.ref a2), .val (.int (Int32.ofNat k)), .val (.int (Int32.ofNat r))] []
    refine w_iload ok at_63 rfl ?_
    refine w_bipush ok at_65 (v := (15 : Int32)) rfl ?_
    refine w_icmp_le ok at_67 (pc' := 72) (by decide) (fun hc22 => ?_) (fun hc22 => False.elim (by exact absurd ((own_lt (a := 15) (by decide) (by omega)).mp hc22) (by omega)))
    show W K l _ n0 _ h0 4 136 72 #[.val (.int c), .val (.int d), .val (.ref a1), .val (.ref a2), .val (.int (Int32.ofNat k)), .val (.int (Int32.ofNat r))] []
    refine w_iloadN ok at_72 rfl ?_
    refine w_aloadN ok at_73 rfl rfl ?_
    refine w_iload ok at_74 rfl ?_
    refine w_callV ok (y := (⟨"java/lang/String", "charAt", "(I)C"⟩ : MethodName)) (a := a1) (argsL := [(.int (Int32.ofNat r))]) (rest := [(.int c)]) at_76 (hw _ (List.mem_of_getElem? (i := 9) rfl)) (hw _ (List.mem_of_getElem? (i := 10) rfl)) (hw _ (List.mem_of_getElem? (i := 12) rfl)) (hw _ (List.mem_of_getElem? (i := 11) rfl)) (hw _ (List.mem_of_getElem? (i := 1) rfl)) (hw _ (List.mem_of_getElem? (i := 13) rfl)) (by decide) A_a1.1 pd_28I29C rfl rfl (by decide) (Nat.le_of_ble_eq_true rfl) (by decide) (by decide) (fun z0 => rm_caR l Z a0 hw [] n0 h0 z0 cs S1 hcs fa S2 a1 b1 A_a1 loB A_b1 r (show r < 16 by omega) (by decide)) (fun v23 h24 qv23 => ?_)
    obtain ⟨rfl, rfl⟩ := qv23
    show W K l _ n0 _ h0 4 136 79 #[.val (.int c), .val (.int d), .val (.ref a1), .val (.ref a2), .val (.int (Int32.ofNat k)), .val (.int (Int32.ofNat r))] [(.int (own_ch (loB.getD r 0))), (.int c)]
    refine w_icmp_eq ok at_79 (pc' := 92) (by decide) (fun hc26 => ?_) (fun hc26 => ?_)
    · show W K l _ n0 _ h0 4 136 92 #[.val (.int c), .val (.int d), .val (.ref a1), .val (.ref a2), .val (.int (Int32.ofNat k)), .val (.int (Int32.ofNat r))] []
      refine w_iconst ok at_92 (v := (1 : Int32)) rfl ?_
      refine w_goto ok at_93 (pc' := 97) (by decide) ?_
      refine w_bret ok (by simp) at_97 (by decide) (by decide) ?_
      exact ⟨rfl, rfl⟩
    · show W K l _ n0 _ h0 4 136 82 #[.val (.int c), .val (.int d), .val (.ref a1), .val (.ref a2), .val (.int (Int32.ofNat k)), .val (.int (Int32.ofNat r))] []
      refine w_iloadN ok at_82 rfl ?_
      refine w_aloadN ok at_83 rfl rfl ?_
      refine w_iload ok at_84 rfl ?_
      refine w_callV ok (y := (⟨"java/lang/String", "charAt", "(I)C"⟩ : MethodName)) (a := a2) (argsL := [(.int (Int32.ofNat r))]) (rest := [(.int c)]) at_86 (hw _ (List.mem_of_getElem? (i := 9) rfl)) (hw _ (List.mem_of_getElem? (i := 10) rfl)) (hw _ (List.mem_of_getElem? (i := 12) rfl)) (hw _ (List.mem_of_getElem? (i := 11) rfl)) (hw _ (List.mem_of_getElem? (i := 1) rfl)) (hw _ (List.mem_of_getElem? (i := 13) rfl)) (by decide) A_a2.1 pd_28I29C rfl rfl (by decide) (Nat.le_of_ble_eq_true rfl) (by decide) (by decide) (fun z0 => rm_caR l Z a0 hw [] n0 h0 z0 cs S1 hcs fa S2 a2 b2 A_a2 upB A_b2 r (show r < 16 by omega) (by decide)) (fun v27 h28 qv27 => ?_)
      obtain ⟨rfl, rfl⟩ := qv27
      show W K l _ n0 _ h0 4 136 89 #[.val (.int c), .val (.int d), .val (.ref a1), .val (.ref a2), .val (.int (Int32.ofNat k)), .val (.int (Int32.ofNat r))] [(.int (own_ch (upB.getD r 0))), (.int c)]
      refine w_icmp_ne ok at_89 (pc' := 96) (by decide) (fun hc30 => False.elim (by exact e2.elim hc26 hc30)) (fun hc30 => ?_)
      show W K l _ n0 _ h0 4 136 92 #[.val (.int c), .val (.int d), .val (.ref a1), .val (.ref a2), .val (.int (Int32.ofNat k)), .val (.int (Int32.ofNat r))] []
      refine w_iconst ok at_92 (v := (1 : Int32)) rfl ?_
      refine w_goto ok at_93 (pc' := 97) (by decide) ?_
      refine w_bret ok (by simp) at_97 (by decide) (by decide) ?_
      exact ⟨rfl, rfl⟩
set_option maxRecDepth 65536 in
set_option maxHeartbeats 40000000 in
theorem rm_pcN (l : Launch) (Z : State) (a0 : Array Value) (hw : ∀ d ∈ tables_1, d.before a0 Z = true) (ws : List Jvm.Cond) (n0 : Nat) (h0 : Heap) (Z0 : Old Z n0 h0) (j m : Nat) (hj : j < m) (hm : m < 100)  :
    Met l Z n0 (⟨"jdk/internal/util/Preconditions", "checkIndex", "(IILjava/util/function/BiFunction;)I"⟩ : MethodName) jdk_41_method_11_code 3 (some .int) ws ({ frames := 0, cells := 0, slots := 0, locals := 0 } : Room) #[(.int (Int32.ofNat j)), (.int (Int32.ofNat m)), .null] h0 (fun u h => u = some (.int (Int32.ofNat j)) ∧ h0 = h) := by
  refine met_of Z0 (plainFor_of_name pn_jdk_internal_util_Preconditions) (Ls := #[.val (.int (Int32.ofNat j)), .val (.int (Int32.ofNat m)), .val .null]) (fun m => by first | (simp [entryFrame, mkF, argsToLocals, Value.category]; done) | rfl) ?_
  intro K ok
  show W K l _ n0 _ h0 0 0 0 #[.val (.int (Int32.ofNat j)), .val (.int (Int32.ofNat m)), .val .null] []
  refine w_iloadN ok d5_0 rfl ?_
  refine w_if_lt ok d5_1 (pc' := 9) (by decide) (fun hc1 => False.elim (by exact own_ix0 (by omega) hc1)) (fun hc1 => ?_)
  show W K l _ n0 _ h0 0 0 4 #[.val (.int (Int32.ofNat j)), .val (.int (Int32.ofNat m)), .val .null] []
  refine w_iloadN ok d5_4 rfl ?_
  refine w_iloadN ok d5_5 rfl ?_
  refine w_icmp_lt ok d5_6 (pc' := 16) (by decide) (fun hc3 => ?_) (fun hc3 => False.elim (by exact hc3 ((own_lt (by omega) (by omega)).mpr hj)))
  show W K l _ n0 _ h0 0 0 16 #[.val (.int (Int32.ofNat j)), .val (.int (Int32.ofNat m)), .val .null] []
  refine w_iloadN ok d5_16 rfl ?_
  refine w_iret ok d5_17 (by decide) (by decide) ?_
  exact ⟨rfl, rfl⟩
set_option maxRecDepth 65536 in
set_option maxHeartbeats 40000000 in
theorem rm_ckN (l : Launch) (Z : State) (a0 : Array Value) (hw : ∀ d ∈ tables_1, d.before a0 Z = true) (ws : List Jvm.Cond) (n0 : Nat) (h0 : Heap) (Z0 : Old Z n0 h0) (S2 : Sta Z Z.heap "jdk/internal/util/Preconditions" "SIOOBE_FORMATTER" "Ljava/util/function/BiFunction;" .null) (j m : Nat) (hj : j < m) (hm : m < 100)  :
    Met l Z n0 (⟨"java/lang/String", "checkIndex", "(II)V"⟩ : MethodName) jdk_42_method_155_code 2 none ws ({ frames := 1, cells := 0, slots := 0, locals := 14 } : Room) #[(.int (Int32.ofNat j)), (.int (Int32.ofNat m))] h0 (fun u h => u = none ∧ h0 = h) := by
  refine met_of Z0 (plainFor_of_name pn_java_lang_String) (Ls := #[.val (.int (Int32.ofNat j)), .val (.int (Int32.ofNat m))]) (fun m => by first | (simp [entryFrame, mkF, argsToLocals, Value.category]; done) | rfl) ?_
  intro K ok
  show W K l _ n0 _ h0 0 0 0 #[.val (.int (Int32.ofNat j)), .val (.int (Int32.ofNat m))] []
  refine w_iloadN ok d4_0 rfl ?_
  refine w_iloadN ok d4_1 rfl ?_
  refine w_getstatic ok (v := .null) d4_2 (hw _ (List.mem_of_getElem? (i := 29) rfl)) Via.refl S2 ?_
  refine w_callS ok (y := (⟨"jdk/internal/util/Preconditions", "checkIndex", "(IILjava/util/function/BiFunction;)I"⟩ : MethodName)) (argsL := [(.int (Int32.ofNat j)), (.int (Int32.ofNat m)), .null]) (rest := []) d4_5 (hw _ (List.mem_of_getElem? (i := 31) rfl)) (hw _ (List.mem_of_getElem? (i := 32) rfl)) (hw _ (List.mem_of_getElem? (i := 30) rfl)) (hw _ (List.mem_of_getElem? (i := 33) rfl)) (by decide) pd_28IILjava2futil2ffunction2fBiFunction3b29I rfl rfl (by decide) (Nat.le_of_ble_eq_true rfl) (by decide) (by decide) (fun z0 => rm_pcN l Z a0 hw [] n0 h0 z0 j m hj hm) (fun v1 h2 qv1 => ?_)
  obtain ⟨rfl, rfl⟩ := qv1
  show W K l _ n0 _ h0 0 0 8 #[.val (.int (Int32.ofNat j)), .val (.int (Int32.ofNat m))] [(.int (Int32.ofNat j))]
  refine w_pop ok d4_8 rfl ?_
  refine w_ret ok d4_9 (by decide) (by decide) ?_
  exact ⟨rfl, rfl⟩
set_option maxRecDepth 65536 in
set_option maxHeartbeats 40000000 in
theorem rm_lcN (l : Launch) (Z : State) (a0 : Array Value) (hw : ∀ d ∈ tables_1, d.before a0 Z = true) (ws : List Jvm.Cond) (n0 : Nat) (h0 : Heap) (Z0 : Old Z n0 h0) (S2 : Sta Z Z.heap "jdk/internal/util/Preconditions" "SIOOBE_FORMATTER" "Ljava/util/function/BiFunction;" .null) (b : Addr) (xs : List Int32) (A_b : PA .byte Z h0 b (bys xs)) (j : Nat) (hj : j < xs.length) (hl : xs.length < 100)  :
    Met l Z n0 (⟨"java/lang/StringLatin1", "charAt", "([BI)C"⟩ : MethodName) jdk_43_method_2_code 2 (some .char) ws ({ frames := 2, cells := 0, slots := 0, locals := 27 } : Room) #[(.ref b), (.int (Int32.ofNat j))] h0 (fun u h => u = some (.int (nar .char ((xs.getD j 0 &&& 255).toUInt32.toUInt16.toUInt32.toInt32))) ∧ h0 = h) := by
  refine met_of Z0 (plainFor_of_name pn_java_lang_StringLatin1) (Ls := #[.val (.ref b), .val (.int (Int32.ofNat j))]) (fun m => by first | (simp [entryFrame, mkF, argsToLocals, Value.category]; done) | rfl) ?_
  intro K ok
  show W K l _ n0 _ h0 0 0 0 #[.val (.ref b), .val (.int (Int32.ofNat j))] []
  refine w_iloadN ok d3_0 rfl ?_
  refine w_aloadN ok d3_1 rfl rfl ?_
  refine w_arraylength ok (z := Int32.ofNat xs.length) d3_2 A_b (own_len hl) (own_ix0 hl) ?_
  show W K l _ n0 _ h0 0 0 3 #[.val (.ref b), .val (.int (Int32.ofNat j))] [(.int (Int32.ofNat xs.length)), (.int (Int32.ofNat j))]
  refine w_callS ok (y := (⟨"java/lang/String", "checkIndex", "(II)V"⟩ : MethodName)) (argsL := [(.int (Int32.ofNat j)), (.int (Int32.ofNat xs.length))]) (rest := []) d3_3 (hw _ (List.mem_of_getElem? (i := 26) rfl)) (hw _ (List.mem_of_getElem? (i := 27) rfl)) (hw _ (List.mem_of_getElem? (i := 1) rfl)) (hw _ (List.mem_of_getElem? (i := 28) rfl)) (by decide) pd_28II29V rfl rfl (by decide) (Nat.le_of_ble_eq_true rfl) (by decide) (by decide) (fun z0 => rm_ckN l Z a0 hw [] n0 h0 z0 S2 j xs.length hj hl) (fun v1 h2 qv1 => ?_)
  obtain ⟨rfl, rfl⟩ := qv1
  show W K l _ n0 _ h0 0 0 6 #[.val (.ref b), .val (.int (Int32.ofNat j))] []
  refine w_aloadN ok d3_6 rfl rfl ?_
  refine w_iloadN ok d3_7 rfl ?_
  refine w_baload ok (v := (.int (xs.getD j 0))) d3_8 A_b (own_ix0 (by omega)) (own_rdx hj hl) ?_
  refine w_sipush ok d3_9 (v := (255 : Int32)) rfl ?_
  refine w_iand ok d3_12 ?_
  refine w_i2c ok d3_13 ?_
  refine w_bret ok (by simp) d3_14 (by decide) (by decide) ?_
  exact ⟨rfl, rfl⟩
set_option maxRecDepth 65536 in
set_option maxHeartbeats 40000000 in
theorem rm_caN (l : Launch) (Z : State) (a0 : Array Value) (hw : ∀ d ∈ tables_1, d.before a0 Z = true) (ws : List Jvm.Cond) (n0 : Nat) (h0 : Heap) (Z0 : Old Z n0 h0) (cs : Int32) (S1 : Sta Z Z.heap "java/lang/String" "COMPACT_STRINGS" "Z" (.int cs)) (hcs : ¬ cs = 0) (S2 : Sta Z Z.heap "jdk/internal/util/Preconditions" "SIOOBE_FORMATTER" "Ljava/util/function/BiFunction;" .null) (a b : Addr) (A_a : Ob Z h0 a "java/lang/String" fl_String [.ref b, .int 0]) (xs : List Int32) (A_b : PA .byte Z h0 b (bys xs)) (j : Nat) (hj : j < xs.length) (hl : xs.length < 100)  :
    Met l Z n0 (⟨"java/lang/String", "charAt", "(I)C"⟩ : MethodName) jdk_42_method_56_code 2 (some .char) ws ({ frames := 3, cells := 0, slots := 0, locals := 40 } : Room) #[(.ref a), (.int (Int32.ofNat j))] h0 (fun u h => u = some (.int (own_ch (xs.getD j 0))) ∧ h0 = h) := by
  refine met_of Z0 (plainFor_of_name pn_java_lang_String) (Ls := #[.val (.ref a), .val (.int (Int32.ofNat j))]) (fun m => by first | (simp [entryFrame, mkF, argsToLocals, Value.category]; done) | rfl) ?_
  intro K ok
  show W K l _ n0 _ h0 0 0 0 #[.val (.ref a), .val (.int (Int32.ofNat j))] []
  refine w_aloadN ok d1_0 rfl rfl ?_
  refine w_callV ok (y := (⟨"java/lang/String", "isLatin1", "()Z"⟩ : MethodName)) (a := a) (argsL := []) (rest := []) d1_1 (hw _ (List.mem_of_getElem? (i := 14) rfl)) (hw _ (List.mem_of_getElem? (i := 15) rfl)) (hw _ (List.mem_of_getElem? (i := 17) rfl)) (hw _ (List.mem_of_getElem? (i := 16) rfl)) (hw _ (List.mem_of_getElem? (i := 1) rfl)) (hw _ (List.mem_of_getElem? (i := 18) rfl)) (by decide) A_a.1 pd_2829Z rfl rfl (by decide) (Nat.le_of_ble_eq_true rfl) (by decide) (by decide) (fun z0 => rm_l1 l Z a0 hw [] n0 h0 z0 cs S1 hcs a b A_a) (fun v1 h2 qv1 => ?_)
  obtain ⟨rfl, rfl⟩ := qv1
  show W K l _ n0 _ h0 0 0 4 #[.val (.ref a), .val (.int (Int32.ofNat j))] [(.int (1 : Int32))]
  refine w_if_eq ok d1_4 (pc' := 16) (by decide) (fun hc4 => False.elim (by revert hc4; decide)) (fun hc4 => ?_)
  show W K l _ n0 _ h0 0 0 7 #[.val (.ref a), .val (.int (Int32.ofNat j))] []
  refine w_aloadN ok d1_7 rfl rfl ?_
  refine w_getfield ok (v := (.ref b)) (host := "") (f := ("java/lang/String", "value", "[B", (.array .byte))) 0 d1_8 (Or.inl (hw _ (List.mem_of_getElem? (i := 21) rfl))) Via.refl A_a rfl rfl ?_
  refine w_iloadN ok d1_11 rfl ?_
  refine w_callS ok (y := (⟨"java/lang/StringLatin1", "charAt", "([BI)C"⟩ : MethodName)) (argsL := [(.ref b), (.int (Int32.ofNat j))]) (rest := []) d1_12 (hw _ (List.mem_of_getElem? (i := 22) rfl)) (hw _ (List.mem_of_getElem? (i := 23) rfl)) (hw _ (List.mem_of_getElem? (i := 24) rfl)) (hw _ (List.mem_of_getElem? (i := 25) rfl)) (by decide) pd_285bBI29C rfl rfl (by decide) (Nat.le_of_ble_eq_true rfl) (by decide) (by decide) (fun z0 => rm_lcN l Z a0 hw [] n0 h0 z0 S2 b xs A_b j hj hl) (fun v5 h6 qv5 => ?_)
  obtain ⟨rfl, rfl⟩ := qv5
  show W K l _ n0 _ h0 0 0 15 #[.val (.ref a), .val (.int (Int32.ofNat j))] [(.int (nar .char ((xs.getD j 0 &&& 255).toUInt32.toUInt16.toUInt32.toInt32)))]
  refine w_bret ok (by simp) d1_15 (by decide) (by decide) ?_
  exact ⟨rfl, rfl⟩
set_option maxRecDepth 65536 in
set_option maxHeartbeats 40000000 in
theorem c6N (l : Launch) (Z : State) (a0 : Array Value) (hw : ∀ d ∈ tables_1, d.before a0 Z = true) (n0 : Nat) (h0 : Heap) (K : Cx) (ok : Ok K Z n0 x.cls code maxLocals ret x.name) (cs : Int32) (S1 : Sta Z Z.heap "java/lang/String" "COMPACT_STRINGS" "Z" (.int cs)) (hcs : ¬ cs = 0) (S2 : Sta Z Z.heap "jdk/internal/util/Preconditions" "SIOOBE_FORMATTER" "Ljava/util/function/BiFunction;" .null) (a1 b1 a2 b2 : Addr) (A_a1 : Ob Z h0 a1 "java/lang/String" fl_String [.ref b1, .int 0]) (A_b1 : PA .byte Z h0 b1 (bys loB)) (A_a2 : Ob Z h0 a2 "java/lang/String" fl_String [.ref b2, .int 0]) (A_b2 : PA .byte Z h0 b2 (bys upB)) (c d : Int32) :
    W K l room_1 n0 (fun u h => u = some (.int 1) ∧ h0 = h) h0 4 136 6 #[.val (.int c), .val (.int d), .val (.ref a1), .val (.ref a2), .unset, .unset] [] := by
  show W K l _ n0 _ h0 4 136 6 #[.val (.int c), .val (.int d), .val (.ref a1), .val (.ref a2), .unset, .unset] []
  refine w_iloadN ok at_6 rfl ?_
  refine w_bipush ok at_7 (v := (15 : Int32)) rfl ?_
  refine w_iand ok at_9 ?_
  refine w_istore ok at_10 (L' := #[.val (.int c), .val (.int d), .val (.ref a1), .val (.ref a2), .val (.int (d &&& (15 : Int32))), .unset]) rfl ?_
  show W K l _ n0 _ h0 4 136 12 #[.val (.int c), .val (.int d), .val (.ref a1), .val (.ref a2), .val (.int (d &&& (15 : Int32))), .unset] []
  obtain ⟨k, hk, ek⟩ := own_and15 d
  rw [ek]
  show W K l _ n0 _ h0 4 136 12 #[.val (.int c), .val (.int d), .val (.ref a1), .val (.ref a2), .val (.int (Int32.ofNat k)), .unset] []
  refine w_aloadN ok at_12 rfl rfl ?_
  refine w_iload ok at_13 rfl ?_
  refine w_callV ok (y := (⟨"java/lang/String", "charAt", "(I)C"⟩ : MethodName)) (a := a1) (argsL := [(.int (Int32.ofNat k))]) (rest := []) at_15 (hw _ (List.mem_of_getElem? (i := 9) rfl)) (hw _ (List.mem_of_getElem? (i := 10) rfl)) (hw _ (List.mem_of_getElem? (i := 12) rfl)) (hw _ (List.mem_of_getElem? (i := 11) rfl)) (hw _ (List.mem_of_getElem? (i := 1) rfl)) (hw _ (List.mem_of_getElem? (i := 13) rfl)) (by decide) A_a1.1 pd_28I29C rfl rfl (by decide) (Nat.le_of_ble_eq_true rfl) (by decide) (by decide) (fun z0 => rm_caN l Z a0 hw [] n0 h0 z0 cs S1 hcs S2 a1 b1 A_a1 loB A_b1 k (show k < 16 by omega) (by decide)) (fun v1 h2 qv1 => ?_)
  obtain ⟨rfl, rfl⟩ := qv1
  show W K l _ n0 _ h0 4 136 18 #[.val (.int c), .val (.int d), .val (.ref a1), .val (.ref a2), .val (.int (Int32.ofNat k)), .unset] [(.int (own_ch (loB.getD k 0)))]
  refine w_callS ok (y := (⟨"com/example/acedstream/acedstream/JsonReader", "hexDigit", "(I)I"⟩ : MethodName)) (argsL := [(.int (own_ch (loB.getD k 0)))]) (rest := []) at_18 (hw _ (List.mem_of_getElem? (i := 34) rfl)) (hw _ (List.mem_of_getElem? (i := 35) rfl)) (hw _ (List.mem_of_getElem? (i := 36) rfl)) (hw _ (List.mem_of_getElem? (i := 37) rfl)) (by decide) pd_28I29I rfl rfl (by decide) (Nat.le_of_ble_eq_true rfl) (by decide) (by decide) (fun z0 => rm_hex l Z a0 hw [] n0 h0 z0 (own_ch (loB.getD k 0))) (fun v3 h4 qv3 => ?_)
  obtain ⟨rfl, rfl⟩ := qv3
  show W K l _ n0 _ h0 4 136 21 #[.val (.int c), .val (.int d), .val (.ref a1), .val (.ref a2), .val (.int (Int32.ofNat k)), .unset] [(.int (own_hex (own_ch (loB.getD k 0))))]
  refine w_iload ok at_21 rfl ?_
  refine w_icmp_eq ok at_23 (pc' := 28) (by decide) (fun hc6 => ?_) (fun hc6 => False.elim (by exact hc6 (own_lo k hk)))
  show W K l _ n0 _ h0 4 136 28 #[.val (.int c), .val (.int d), .val (.ref a1), .val (.ref a2), .val (.int (Int32.ofNat k)), .unset] []
  refine w_aloadN ok at_28 rfl rfl ?_
  refine w_iload ok at_29 rfl ?_
  refine w_callV ok (y := (⟨"java/lang/String", "charAt", "(I)C"⟩ : MethodName)) (a := a2) (argsL := [(.int (Int32.ofNat k))]) (rest := []) at_31 (hw _ (List.mem_of_getElem? (i := 9) rfl)) (hw _ (List.mem_of_getElem? (i := 10) rfl)) (hw _ (List.mem_of_getElem? (i := 12) rfl)) (hw _ (List.mem_of_getElem? (i := 11) rfl)) (hw _ (List.mem_of_getElem? (i := 1) rfl)) (hw _ (List.mem_of_getElem? (i := 13) rfl)) (by decide) A_a2.1 pd_28I29C rfl rfl (by decide) (Nat.le_of_ble_eq_true rfl) (by decide) (by decide) (fun z0 => rm_caN l Z a0 hw [] n0 h0 z0 cs S1 hcs S2 a2 b2 A_a2 upB A_b2 k (show k < 16 by omega) (by decide)) (fun v7 h8 qv7 => ?_)
  obtain ⟨rfl, rfl⟩ := qv7
  show W K l _ n0 _ h0 4 136 34 #[.val (.int c), .val (.int d), .val (.ref a1), .val (.ref a2), .val (.int (Int32.ofNat k)), .unset] [(.int (own_ch (upB.getD k 0)))]
  refine w_callS ok (y := (⟨"com/example/acedstream/acedstream/JsonReader", "hexDigit", "(I)I"⟩ : MethodName)) (argsL := [(.int (own_ch (upB.getD k 0)))]) (rest := []) at_34 (hw _ (List.mem_of_getElem? (i := 34) rfl)) (hw _ (List.mem_of_getElem? (i := 35) rfl)) (hw _ (List.mem_of_getElem? (i := 36) rfl)) (hw _ (List.mem_of_getElem? (i := 37) rfl)) (by decide) pd_28I29I rfl rfl (by decide) (Nat.le_of_ble_eq_true rfl) (by decide) (by decide) (fun z0 => rm_hex l Z a0 hw [] n0 h0 z0 (own_ch (upB.getD k 0))) (fun v9 h10 qv9 => ?_)
  obtain ⟨rfl, rfl⟩ := qv9
  show W K l _ n0 _ h0 4 136 37 #[.val (.int c), .val (.int d), .val (.ref a1), .val (.ref a2), .val (.int (Int32.ofNat k)), .unset] [(.int (own_hex (own_ch (upB.getD k 0))))]
  refine w_iload ok at_37 rfl ?_
  refine w_icmp_eq ok at_39 (pc' := 44) (by decide) (fun hc12 => ?_) (fun hc12 => False.elim (by exact hc12 (own_up k hk)))
  show W K l _ n0 _ h0 4 136 44 #[.val (.int c), .val (.int d), .val (.ref a1), .val (.ref a2), .val (.int (Int32.ofNat k)), .unset] []
  refine w_iloadN ok at_44 rfl ?_
  refine w_callS ok (y := (⟨"com/example/acedstream/acedstream/JsonReader", "hexDigit", "(I)I"⟩ : MethodName)) (argsL := [(.int c)]) (rest := []) at_45 (hw _ (List.mem_of_getElem? (i := 34) rfl)) (hw _ (List.mem_of_getElem? (i := 35) rfl)) (hw _ (List.mem_of_getElem? (i := 36) rfl)) (hw _ (List.mem_of_getElem? (i := 37) rfl)) (by decide) pd_28I29I rfl rfl (by decide) (Nat.le_of_ble_eq_true rfl) (by decide) (by decide) (fun z0 => rm_hex l Z a0 hw [] n0 h0 z0 c) (fun v13 h14 qv13 => ?_)
  obtain ⟨rfl, rfl⟩ := qv13
  show W K l _ n0 _ h0 4 136 48 #[.val (.int c), .val (.int d), .val (.ref a1), .val (.ref a2), .val (.int (Int32.ofNat k)), .unset] [(.int (own_hex c))]
  refine w_istore ok at_48 (L' := #[.val (.int c), .val (.int d), .val (.ref a1), .val (.ref a2), .val (.int (Int32.ofNat k)), .val (.int (own_hex c))]) rfl ?_
  show W K l _ n0 _ h0 4 136 50 #[.val (.int c), .val (.int d), .val (.ref a1), .val (.ref a2), .val (.int (Int32.ofNat k)), .val (.int (own_hex c))] []
  rcases own_back c with e1 | ⟨r, hr, e1, e2⟩
  · skip
    rw [e1]
    show W K l _ n0 _ h0 4 136 50 #[.val (.int c), .val (.int d), .val (.ref a1), .val (.ref a2), .val (.int (Int32.ofNat k)), .val (.int (-1 : Int32))] []
    refine w_iload ok at_50 rfl ?_
    refine w_iconst ok at_52 (v := (-1 : Int32)) rfl ?_
    refine w_icmp_ne ok at_53 (pc' := 58) (by decide) (fun hc16 => False.elim (by revert hc16; decide)) (fun hc16 => ?_)
    show W K l _ n0 _ h0 4 136 56 #[.val (.int c), .val (.int d), .val (.ref a1), .val (.ref a2), .val (.int (Int32.ofNat k)), .val (.int (-1 : Int32))] []
    refine w_iconst ok at_56 (v := (1 : Int32)) rfl ?_
    refine w_bret ok (by simp) at_57 (by decide) (by decide) ?_
    exact ⟨rfl, rfl⟩
  · skip
    rw [e1]
    show W K l _ n0 _ h0 4 136 50 #[.val (.int c), .val (.int d), .val (.ref a1), .val (.ref a2), .val (.int (Int32.ofNat k)), .val (.int (Int32.ofNat r))] []
    refine w_iload ok at_50 rfl ?_
    refine w_iconst ok at_52 (v := (-1 : Int32)) rfl ?_
    refine w_icmp_ne ok at_53 (pc' := 58) (by decide) (fun hc18 => ?_) (fun hc18 => False.elim (by exact own_m1 hr hc18))
    show W K l _ n0 _ h0 4 136 58 #[.val (.int c), .val (.int d), .val (.ref a1), .val (.ref a2), .val (.int (Int32.ofNat k)), .val (.int (Int32.ofNat r))] []
    refine w_iload ok at_58 rfl ?_
    refine w_if_lt ok at_60 (pc' := 70) (by decide) (fun hc20 => False.elim (by exact own_ix0 (by omega) hc20)) (fun hc20 => ?_)
    show W K l _ n0 _ h0 4 136 63 #[.val (.int c), .val (.int d), .val (.ref a1), .val (.ref a2), .val (.int (Int32.ofNat k)), .val (.int (Int32.ofNat r))] []
    refine w_iload ok at_63 rfl ?_
    refine w_bipush ok at_65 (v := (15 : Int32)) rfl ?_
    refine w_icmp_le ok at_67 (pc' := 72) (by decide) (fun hc22 => ?_) (fun hc22 => False.elim (by exact absurd ((own_lt (a := 15) (by decide) (by omega)).mp hc22) (by omega)))
    show W K l _ n0 _ h0 4 136 72 #[.val (.int c), .val (.int d), .val (.ref a1), .val (.ref a2), .val (.int (Int32.ofNat k)), .val (.int (Int32.ofNat r))] []
    refine w_iloadN ok at_72 rfl ?_
    refine w_aloadN ok at_73 rfl rfl ?_
    refine w_iload ok at_74 rfl ?_
    refine w_callV ok (y := (⟨"java/lang/String", "charAt", "(I)C"⟩ : MethodName)) (a := a1) (argsL := [(.int (Int32.ofNat r))]) (rest := [(.int c)]) at_76 (hw _ (List.mem_of_getElem? (i := 9) rfl)) (hw _ (List.mem_of_getElem? (i := 10) rfl)) (hw _ (List.mem_of_getElem? (i := 12) rfl)) (hw _ (List.mem_of_getElem? (i := 11) rfl)) (hw _ (List.mem_of_getElem? (i := 1) rfl)) (hw _ (List.mem_of_getElem? (i := 13) rfl)) (by decide) A_a1.1 pd_28I29C rfl rfl (by decide) (Nat.le_of_ble_eq_true rfl) (by decide) (by decide) (fun z0 => rm_caN l Z a0 hw [] n0 h0 z0 cs S1 hcs S2 a1 b1 A_a1 loB A_b1 r (show r < 16 by omega) (by decide)) (fun v23 h24 qv23 => ?_)
    obtain ⟨rfl, rfl⟩ := qv23
    show W K l _ n0 _ h0 4 136 79 #[.val (.int c), .val (.int d), .val (.ref a1), .val (.ref a2), .val (.int (Int32.ofNat k)), .val (.int (Int32.ofNat r))] [(.int (own_ch (loB.getD r 0))), (.int c)]
    refine w_icmp_eq ok at_79 (pc' := 92) (by decide) (fun hc26 => ?_) (fun hc26 => ?_)
    · show W K l _ n0 _ h0 4 136 92 #[.val (.int c), .val (.int d), .val (.ref a1), .val (.ref a2), .val (.int (Int32.ofNat k)), .val (.int (Int32.ofNat r))] []
      refine w_iconst ok at_92 (v := (1 : Int32)) rfl ?_
      refine w_goto ok at_93 (pc' := 97) (by decide) ?_
      refine w_bret ok (by simp) at_97 (by decide) (by decide) ?_
      exact ⟨rfl, rfl⟩
    · show W K l _ n0 _ h0 4 136 82 #[.val (.int c), .val (.int d), .val (.ref a1), .val (.ref a2), .val (.int (Int32.ofNat k)), .val (.int (Int32.ofNat r))] []
      refine w_iloadN ok at_82 rfl ?_
      refine w_aloadN ok at_83 rfl rfl ?_
      refine w_iload ok at_84 rfl ?_
      refine w_callV ok (y := (⟨"java/lang/String", "charAt", "(I)C"⟩ : MethodName)) (a := a2) (argsL := [(.int (Int32.ofNat r))]) (rest := [(.int c)]) at_86 (hw _ (List.mem_of_getElem? (i := 9) rfl)) (hw _ (List.mem_of_getElem? (i := 10) rfl)) (hw _ (List.mem_of_getElem? (i := 12) rfl)) (hw _ (List.mem_of_getElem? (i := 11) rfl)) (hw _ (List.mem_of_getElem? (i := 1) rfl)) (hw _ (List.mem_of_getElem? (i := 13) rfl)) (by decide) A_a2.1 pd_28I29C rfl rfl (by decide) (Nat.le_of_ble_eq_true rfl) (by decide) (by decide) (fun z0 => rm_caN l Z a0 hw [] n0 h0 z0 cs S1 hcs S2 a2 b2 A_a2 upB A_b2 r (show r < 16 by omega) (by decide)) (fun v27 h28 qv27 => ?_)
      obtain ⟨rfl, rfl⟩ := qv27
      show W K l _ n0 _ h0 4 136 89 #[.val (.int c), .val (.int d), .val (.ref a1), .val (.ref a2), .val (.int (Int32.ofNat k)), .val (.int (Int32.ofNat r))] [(.int (own_ch (upB.getD r 0))), (.int c)]
      refine w_icmp_ne ok at_89 (pc' := 96) (by decide) (fun hc30 => False.elim (by exact e2.elim hc26 hc30)) (fun hc30 => ?_)
      show W K l _ n0 _ h0 4 136 92 #[.val (.int c), .val (.int d), .val (.ref a1), .val (.ref a2), .val (.int (Int32.ofNat k)), .val (.int (Int32.ofNat r))] []
      refine w_iconst ok at_92 (v := (1 : Int32)) rfl ?_
      refine w_goto ok at_93 (pc' := 97) (by decide) ?_
      refine w_bret ok (by simp) at_97 (by decide) (by decide) ?_
      exact ⟨rfl, rfl⟩
theorem own_pa {Z : State} {h : Heap} {b : Addr} {k : ClassId} {z : Int32} {vs : List Value} (A : Arv Z h b k .byte z vs (.int 0)) (hl : z.toNatClampNeg = vs.length) (h31 : vs.length < 2 ^ 31) : PA .byte Z h b vs := by
  obtain ⟨c, A1, -, hs, -, H, hf⟩ := A
  refine ⟨c, A1, h31, ?_, fun v hv => ?_⟩
  · apply Array.ext_getElem?
    intro i
    by_cases hi : i < vs.length
    · rw [H i (by omega)]; simp [List.getD, hi]
    · rw [Array.getElem?_eq_none (by omega)]; simp; omega
  · obtain ⟨i, hi, rfl⟩ := List.getElem_of_mem hv
    have := hf i (by omega)
    simpa [List.getD, hi] using this
theorem own_ob {Z : State} {h : Heap} {a b : Addr} (x1 : Exa Z h a "java/lang/String") (f1 : Fld Z h a "java/lang/String" "coder" "B" (.int 0)) (g1 : Fld Z h a "java/lang/String" "value" "[B" (.ref b)) : Ob Z h a "java/lang/String" fl_String [.ref b, .int 0] :=
  ⟨x1, fun i f v q r => by
    match i, q, r with
    | 0, q, r => cases Option.some.inj q; cases Option.some.inj r; exact g1
    | 1, q, r => cases Option.some.inj q; cases Option.some.inj r; exact f1
    | n + 2, q, r => simp [fl_String] at q⟩
set_option maxRecDepth 65536 in
set_option maxHeartbeats 40000000 in
theorem runsR (l : Launch) (s0 : State) (c d : Int32) (hw : ∀ w ∈ tables_1, w.before #[.int c, .int d] s0 = true) (h7 : Jvm.Lit.constHeld s0 "com/example/acedstream/acedstream/JsonReaderHexDigitPinLaw" 7) (h9 : Jvm.Lit.constHeld s0 "com/example/acedstream/acedstream/JsonReaderHexDigitPinLaw" 9) (hcw : Jvm.Lit.compactW.before #[.int c, .int d] s0 = true) (cs : Int32) (S1 : Sta s0 s0.heap "java/lang/String" "COMPACT_STRINGS" "Z" (.int cs)) (hcs : ¬ cs = 0) (fa : Addr) (S2 : Sta s0 s0.heap "jdk/internal/util/Preconditions" "SIOOBE_FORMATTER" "Ljava/util/function/BiFunction;" (.ref fa)) :
    MetFree l x (head1 (Cond.code x code maxLocals ret :: tables_1) room_1) (fun a U => a = #[.int c, .int d] ∧ s0 = U) (fun _ _ _ _ _ => True) (fun _ U o U' => o = .returned (some (.int 1)) ∧ FramedW U o U' [] 8 2112) := by
  refine MetFree.of_bodySF (plainFor_of_name pn_com_example_acedstream_acedstream_JsonReaderHexDigitPinLaw) hisR ?_
  intro p e s m args below meth cc s₁ Bd hml0 hP hK
  obtain ⟨rfl, rfl⟩ := hP
  have hnm := (name_of_methodNamed Bd.named Bd.method).1
  have hown : s0.vm.findClass "com/example/acedstream/acedstream/JsonReaderHexDigitPinLaw" = some m.cls := findClass_of_methodNamed Bd.named
  have X0 : Stand p l e room_1 s0 m #[.int c, .int d] below meth cc s₁ [] 0 0 := Stand.of_body Bd
  have e0 : s₁.heap = s0.heap := by rw [Bd.state]; rfl
  have wS : ∀ a ∈ Bundle.stringAtoms, a.before #[.int c, .int d] s0 = true := (fun a ha => by
    simp only [Bundle.stringAtoms, Bundle.sN, List.mem_cons, List.not_mem_nil, or_false] at ha
    rcases ha with rfl | rfl | rfl | rfl | rfl | rfl | rfl
    · exact hw _ (List.mem_of_getElem? (i := 1) rfl)
    · exact hw _ (List.mem_of_getElem? (i := 2) rfl)
    · exact hw _ (List.mem_of_getElem? (i := 3) rfl)
    · exact hw _ (List.mem_of_getElem? (i := 4) rfl)
    · exact hw _ (List.mem_of_getElem? (i := 5) rfl)
    · exact hw _ (List.mem_of_getElem? (i := 6) rfl)
    · exact hw _ (List.mem_of_getElem? (i := 7) rfl))
  obtain ⟨a1, T1, h1, k1, b1, kk1, X1, t1, E1, hS1, hk1, hZ1, hown1, x1, f1, g1, r1, -, -, I1, st1⟩ := ldcSV (s := s0) (Z := s0) (a0 := #[.int c, .int d]) (vm0 := s0.vm) (own := "com/example/acedstream/acedstream/JsonReaderHexDigitPinLaw") (text := "0123456789abcdef") (index := 7) (vs := bys loB) (z := 16) (n := 64) X0 Bd.exec (State.Warmed39.refl s0) hown (hw _ (List.mem_of_getElem? (i := 0) rfl)) wS e0 ((State.WarmedH.refl s0).since s0.heap.size) (Nat.le_refl _) (Fr.nil _) (fun _ _ q => q) IB.start (by simp) h7 hcw ⟨by decide, by decide⟩ (by decide) (by decide) (g := mkF m 0 #[.val (.int c), .val (.int d), .unset, .unset, .unset, .unset] []) rfl (hb Bd.bytes at_0) (by decide) (by decide) (by decide) (by decide)
  obtain ⟨a2, T2, h2, k2, b2, kk2, X2, t2, E2, hS2, hk2, hZ2, hown2, x2, f2, g2, r2, -, -, I2, st2⟩ := ldcSV (s := s0) (Z := s0) (a0 := #[.int c, .int d]) (vm0 := T1.vm) (own := "com/example/acedstream/acedstream/JsonReaderHexDigitPinLaw") (text := "0123456789ABCDEF") (index := 9) (vs := bys upB) (z := 16) (n := 64) X1 Bd.exec hZ1 hown1 (hw _ (List.mem_of_getElem? (i := 8) rfl)) wS t1 hS1 hk1 (Fr.nil _) (fun _ _ q => q) I1 (by decide) h9 hcw ⟨by decide, by decide⟩ (by decide) (by decide) (g := mkF m 3 #[.val (.int c), .val (.int d), .val (.ref a1), .unset, .unset, .unset] []) rfl (hb Bd.bytes at_3) (by decide) (by decide) (by decide) (by decide)
  have A_a1 := (own_ob x1 f1 g1).ext E2
  have A_b1 := (own_pa r1 (by decide) (by decide)).ext E2
  have A_a2 := own_ob x2 f2 g2
  have A_b2 := own_pa r2 (by decide) (by decide)
  have ok : Ok (p, e, s0.setVm T2.vm, m, #[.int c, .int d], below, meth, cc) s0 s0.heap.size x.cls code maxLocals ret x.name := ⟨Bd.exec, hZ2, hown2, Bd.bytes, hml0, Bd.returns, hnm, Bd.notSynchronized, Old.start s0⟩
  obtain ⟨s₂, o, st, run, ended, v, L', rfl, ⟨⟨hv, hh⟩, N⟩, hq⟩ := c6R l s0 #[.int c, .int d] hw s0.heap.size h2 (p, e, s0.setVm T2.vm, m, #[.int c, .int d], below, meth, cc) ok cs S1 hcs fa S2 a1 b1 a2 b2 A_a1 A_b1 A_a2 A_b2 c d T2 [] X2 t2 (Fr.nil _)
  have hf := frame_fin (L' := []) (c' := 8) (n' := 2112) hq N (by decide) (by decide)
  obtain ⟨q1, q2, q3⟩ := hS2.ended (U := s₂) hf.2.1 (by rw [← hh]; exact hk2) hf.2.2
  refine ⟨s₂, _, ?_, run, ended, by rw [hv], ⟨_, rfl⟩, q1, q2, q3⟩
  refine castTop (show entryFrame m #[.int c, .int d] maxLocals = mkF m 0 #[.val (.int c), .val (.int d), .unset, .unset, .unset, .unset] [] by first | (simp [entryFrame, mkF, argsToLocals, Value.category, maxLocals]; done) | rfl) ?_
  refine st1 _ (XS.astoreN (g := mkF m 2 #[.val (.int c), .val (.int d), .unset, .unset, .unset, .unset] [.ref a1]) X1.here Bd.exec rfl (hb Bd.bytes at_2) rfl rfl (show storeLocals #[.val (.int c), .val (.int d), .unset, .unset, .unset, .unset] 2 (.ref a1) = some #[.val (.int c), .val (.int d), .val (.ref a1), .unset, .unset, .unset] from rfl) ?_)
  exact st2 _ (XS.astoreN (g := mkF m 5 #[.val (.int c), .val (.int d), .val (.ref a1), .unset, .unset, .unset] [.ref a2]) X2.here Bd.exec rfl (hb Bd.bytes at_5) rfl rfl (show storeLocals #[.val (.int c), .val (.int d), .val (.ref a1), .unset, .unset, .unset] 3 (.ref a2) = some #[.val (.int c), .val (.int d), .val (.ref a1), .val (.ref a2), .unset, .unset] from rfl) st)
set_option maxRecDepth 65536 in
set_option maxHeartbeats 40000000 in
theorem runsN (l : Launch) (s0 : State) (c d : Int32) (hw : ∀ w ∈ tables_1, w.before #[.int c, .int d] s0 = true) (h7 : Jvm.Lit.constHeld s0 "com/example/acedstream/acedstream/JsonReaderHexDigitPinLaw" 7) (h9 : Jvm.Lit.constHeld s0 "com/example/acedstream/acedstream/JsonReaderHexDigitPinLaw" 9) (hcw : Jvm.Lit.compactW.before #[.int c, .int d] s0 = true) (cs : Int32) (S1 : Sta s0 s0.heap "java/lang/String" "COMPACT_STRINGS" "Z" (.int cs)) (hcs : ¬ cs = 0) (S2 : Sta s0 s0.heap "jdk/internal/util/Preconditions" "SIOOBE_FORMATTER" "Ljava/util/function/BiFunction;" .null) :
    MetFree l x (head1 (Cond.code x code maxLocals ret :: tables_1) room_1) (fun a U => a = #[.int c, .int d] ∧ s0 = U) (fun _ _ _ _ _ => True) (fun _ U o U' => o = .returned (some (.int 1)) ∧ FramedW U o U' [] 8 2112) := by
  refine MetFree.of_bodySF (plainFor_of_name pn_com_example_acedstream_acedstream_JsonReaderHexDigitPinLaw) hisR ?_
  intro p e s m args below meth cc s₁ Bd hml0 hP hK
  obtain ⟨rfl, rfl⟩ := hP
  have hnm := (name_of_methodNamed Bd.named Bd.method).1
  have hown : s0.vm.findClass "com/example/acedstream/acedstream/JsonReaderHexDigitPinLaw" = some m.cls := findClass_of_methodNamed Bd.named
  have X0 : Stand p l e room_1 s0 m #[.int c, .int d] below meth cc s₁ [] 0 0 := Stand.of_body Bd
  have e0 : s₁.heap = s0.heap := by rw [Bd.state]; rfl
  have wS : ∀ a ∈ Bundle.stringAtoms, a.before #[.int c, .int d] s0 = true := (fun a ha => by
    simp only [Bundle.stringAtoms, Bundle.sN, List.mem_cons, List.not_mem_nil, or_false] at ha
    rcases ha with rfl | rfl | rfl | rfl | rfl | rfl | rfl
    · exact hw _ (List.mem_of_getElem? (i := 1) rfl)
    · exact hw _ (List.mem_of_getElem? (i := 2) rfl)
    · exact hw _ (List.mem_of_getElem? (i := 3) rfl)
    · exact hw _ (List.mem_of_getElem? (i := 4) rfl)
    · exact hw _ (List.mem_of_getElem? (i := 5) rfl)
    · exact hw _ (List.mem_of_getElem? (i := 6) rfl)
    · exact hw _ (List.mem_of_getElem? (i := 7) rfl))
  obtain ⟨a1, T1, h1, k1, b1, kk1, X1, t1, E1, hS1, hk1, hZ1, hown1, x1, f1, g1, r1, -, -, I1, st1⟩ := ldcSV (s := s0) (Z := s0) (a0 := #[.int c, .int d]) (vm0 := s0.vm) (own := "com/example/acedstream/acedstream/JsonReaderHexDigitPinLaw") (text := "0123456789abcdef") (index := 7) (vs := bys loB) (z := 16) (n := 64) X0 Bd.exec (State.Warmed39.refl s0) hown (hw _ (List.mem_of_getElem? (i := 0) rfl)) wS e0 ((State.WarmedH.refl s0).since s0.heap.size) (Nat.le_refl _) (Fr.nil _) (fun _ _ q => q) IB.start (by simp) h7 hcw ⟨by decide, by decide⟩ (by decide) (by decide) (g := mkF m 0 #[.val (.int c), .val (.int d), .unset, .unset, .unset, .unset] []) rfl (hb Bd.bytes at_0) (by decide) (by decide) (by decide) (by decide)
  obtain ⟨a2, T2, h2, k2, b2, kk2, X2, t2, E2, hS2, hk2, hZ2, hown2, x2, f2, g2, r2, -, -, I2, st2⟩ := ldcSV (s := s0) (Z := s0) (a0 := #[.int c, .int d]) (vm0 := T1.vm) (own := "com/example/acedstream/acedstream/JsonReaderHexDigitPinLaw") (text := "0123456789ABCDEF") (index := 9) (vs := bys upB) (z := 16) (n := 64) X1 Bd.exec hZ1 hown1 (hw _ (List.mem_of_getElem? (i := 8) rfl)) wS t1 hS1 hk1 (Fr.nil _) (fun _ _ q => q) I1 (by decide) h9 hcw ⟨by decide, by decide⟩ (by decide) (by decide) (g := mkF m 3 #[.val (.int c), .val (.int d), .val (.ref a1), .unset, .unset, .unset] []) rfl (hb Bd.bytes at_3) (by decide) (by decide) (by decide) (by decide)
  have A_a1 := (own_ob x1 f1 g1).ext E2
  have A_b1 := (own_pa r1 (by decide) (by decide)).ext E2
  have A_a2 := own_ob x2 f2 g2
  have A_b2 := own_pa r2 (by decide) (by decide)
  have ok : Ok (p, e, s0.setVm T2.vm, m, #[.int c, .int d], below, meth, cc) s0 s0.heap.size x.cls code maxLocals ret x.name := ⟨Bd.exec, hZ2, hown2, Bd.bytes, hml0, Bd.returns, hnm, Bd.notSynchronized, Old.start s0⟩
  obtain ⟨s₂, o, st, run, ended, v, L', rfl, ⟨⟨hv, hh⟩, N⟩, hq⟩ := c6N l s0 #[.int c, .int d] hw s0.heap.size h2 (p, e, s0.setVm T2.vm, m, #[.int c, .int d], below, meth, cc) ok cs S1 hcs S2 a1 b1 a2 b2 A_a1 A_b1 A_a2 A_b2 c d T2 [] X2 t2 (Fr.nil _)
  have hf := frame_fin (L' := []) (c' := 8) (n' := 2112) hq N (by decide) (by decide)
  obtain ⟨q1, q2, q3⟩ := hS2.ended (U := s₂) hf.2.1 (by rw [← hh]; exact hk2) hf.2.2
  refine ⟨s₂, _, ?_, run, ended, by rw [hv], ⟨_, rfl⟩, q1, q2, q3⟩
  refine castTop (show entryFrame m #[.int c, .int d] maxLocals = mkF m 0 #[.val (.int c), .val (.int d), .unset, .unset, .unset, .unset] [] by first | (simp [entryFrame, mkF, argsToLocals, Value.category, maxLocals]; done) | rfl) ?_
  refine st1 _ (XS.astoreN (g := mkF m 2 #[.val (.int c), .val (.int d), .unset, .unset, .unset, .unset] [.ref a1]) X1.here Bd.exec rfl (hb Bd.bytes at_2) rfl rfl (show storeLocals #[.val (.int c), .val (.int d), .unset, .unset, .unset, .unset] 2 (.ref a1) = some #[.val (.int c), .val (.int d), .val (.ref a1), .unset, .unset, .unset] from rfl) ?_)
  exact st2 _ (XS.astoreN (g := mkF m 5 #[.val (.int c), .val (.int d), .val (.ref a1), .unset, .unset, .unset] [.ref a2]) X2.here Bd.exec rfl (hb Bd.bytes at_5) rfl rfl (show storeLocals #[.val (.int c), .val (.int d), .val (.ref a1), .unset, .unset, .unset] 3 (.ref a2) = some #[.val (.int c), .val (.int d), .val (.ref a1), .val (.ref a2), .unset, .unset] from rfl) st)
theorem own_cs {s : State} {args : Array Value} {t : Term} {cs : Int32} (e : t.eval args s none [] s = some (.int cs)) (w : (Cond.not (Cond.eq t (Term.int 0))).before args s = true) : ¬ cs = 0 := by
  rintro rfl
  have w9 := Cond.before_iff.mp w
  have q2 : (Jvm.Term.int 0).eval args s none [] s = some (.int 0) := rfl
  simp [Cond.value, e, q2] at w9
theorem own_rf {s : State} {args : Array Value} {t : Term} (w : (Cond.isRef t).before args s = true) : ∃ v, t.eval args s none [] s = some v ∧ v.isRef = true := by
  have w9 := Cond.before_iff.mp w
  cases h : t.eval args s none [] s with
  | none => simp [Cond.value, h] at w9
  | some v => exact ⟨v, rfl, by simp [Cond.value, h] at w9; cases v <;> first | rfl | cases w9⟩
set_option maxRecDepth 65536 in
set_option maxHeartbeats 40000000 in
theorem comes_1 {Post : Tables → Env → Array Value → State → Outcome → State → Prop} (hpost : ∀ tb e args s v u, (limb_1_1.after args s (.returned v) u = true ∧ limb_1_2.after args s (.returned v) u = true) → FramedW s (.returned v) u (Jvm.fieldLocs frame_1_writes args s ++ Jvm.arrayLocs frame_1_arrays args s ++ Jvm.staticLocs frame_1_statics s) 8 2112 → Post tb e args s (.returned v) u) :
    ArmFor flags0 classFile x code maxLocals ret World_1 tables_1 room_1 Calls_1 rest_1 Pre_1 Post := by
  intro l hfl _ _ p e ha hc hk s m args below hf hA hF happ hP
  obtain ⟨hcalls, hrest, hpre⟩ := hP
  obtain ⟨-, -, -, hnamed, -, -, -, hat⟩ := (Spec.applies_iff hf).mp happ
  obtain ⟨hg, hn⟩ := and_e (Cond.before_iff.mp (show (Jvm.Cond.and given_1 narrow_1).before args s = true from hpre))
  obtain ⟨g0, r0⟩ := and_e hg
  obtain ⟨g1, r1⟩ := and_e r0
  obtain ⟨w0, w1, rfl⟩ : ∃ w0 w1 : Value, args = #[w0, w1] := by
    have hs : args.size = 2 := by simpa [Cond.value, given_1] using g0
    obtain ⟨L⟩ := args
    match L, hs with
    | [w0, w1], _ => exact ⟨w0, w1, rfl⟩
  have hw := fun d (hd : d ∈ tables_1) => atoms_spec (ws := Jvm.Cond.code x code maxLocals ret :: tables_1) hat d (List.mem_cons_of_mem _ hd)
  have hfit : Fit s := fun {y c} hc i hi => by
    obtain ⟨ha, rfl⟩ := Array.getElem?_eq_some_iff.mp hc
    have q := List.all_eq_true.mp ((Array.all_eq_true_iff_forall_mem.mp hF) _ (Array.getElem_mem ha)) i (List.mem_range.mpr hi)
    simpa [Array.getElem?_eq_getElem hi] using q
  obtain ⟨i0, ei0⟩ := is_v g1
  obtain rfl : w0 = (.int i0) := Option.some.inj ei0
  obtain ⟨i1, ei1⟩ := is_v r1
  obtain rfl : w1 = (.int i1) := Option.some.inj ei1
  obtain ⟨hsets, hown0⟩ := atoms_of _ (rest_1_c_eq ▸ (show rest_1_c.before _ s = true from hrest))
  obtain ⟨cs, ecs⟩ := is_v (Cond.before_iff.mp (hsets _ (List.mem_of_getElem? (i := 1) rfl)))
  have hcs := own_cs ecs (hsets _ (List.mem_of_getElem? (i := 2) rfl))
  have S1 := Sta.start ecs (Or.inl (hsets _ (List.mem_of_getElem? (i := 0) rfl)))
  obtain ⟨fv, efv, rfv⟩ := own_rf (hsets _ (List.mem_of_getElem? (i := 8) rfl))
  have S2 := Sta.start efv (Or.inl (hsets _ (List.mem_of_getElem? (i := 7) rfl)))
  have hcc : Jvm.Lit.constsHeld consts_1 s := hcalls.1
  have h7 := hcc ("com/example/acedstream/acedstream/JsonReaderHexDigitPinLaw", 7) (List.mem_of_getElem? (i := 0) rfl)
  have h9 := hcc ("com/example/acedstream/acedstream/JsonReaderHexDigitPinLaw", 9) (List.mem_of_getElem? (i := 1) rfl)
  have key : ∃ n o, (∀ k, k < n → Within (stepsAlone p.tables e k s) below) ∧ (stepsAlone p.tables e n s).status = Status.running ∧ Ended (stepsAlone p.tables e n s) below o ∧ o = .returned (some (.int 1)) ∧ FramedW s o (stepsAlone p.tables e n s) [] 8 2112 := by
    rcases ref_cases rfv with rfl | ⟨fa, rfl⟩
    · exact runsN l s i0 i1 hw h7 h9 (hsets _ (List.mem_of_getElem? (i := 2) rfl)) cs S1 hcs S2 p e ha hc hk s m _ below hf ((Spec.applies_iff_loose hf).mp happ).1 ⟨rfl, rfl⟩ trivial
    · exact runsR l s i0 i1 hw h7 h9 (hsets _ (List.mem_of_getElem? (i := 2) rfl)) cs S1 hcs fa S2 p e ha hc hk s m _ below hf ((Spec.applies_iff_loose hf).mp happ).1 ⟨rfl, rfl⟩ trivial
  obtain ⟨n, o, h1, h2, h3, rfl, hq⟩ := key
  exact ⟨n, _, h1, h2, h3, hpost _ _ _ _ _ _ ⟨Cond.after_iff.mpr rfl, Cond.after_iff.mpr (eq_i res_at (Term.int_eval (1)) rfl)⟩ hq⟩
theorem main_1_1 : Claimed_1_1 := comes_1 fun _ _ _ _ _ _ h hF => ⟨h.1, hF⟩
theorem main_1_2 : Claimed_1_2 := comes_1 fun _ _ _ _ _ _ h hF => ⟨h.2, hF⟩
end Jvm.Pilot.@@N@@
namespace Jvm.Pilot.@@N@@
open Jvm Jvm.ClassFile Sem Op Lib Jvm.Free Jvm.Stand Jvm.Pilot.@@N@@.Jvm.D
/-! MADE BY PROGRAM (witnessworld.py) out of the Statement's table words and the real class files: 17 classes; the members and pool entries that the words name. The judged class is class 1, her method 1. -/
namespace start1
open Jvm.ClassFile
def u (s : String) : CpInfo := .utf8 (stringToUtf16 s)
/-- a pool by its gaps: so many unusable entries, then the entry; so many at the end -/
def gap : Nat → List CpInfo → List CpInfo
  | 0, r => r
  | n + 1, r => .unusable :: gap n r
def poolList (es : List (Nat × CpInfo)) (last : Nat) : List CpInfo := es.foldr (fun e r => gap e.1 (e.2 :: r)) (gap last [])
def pool (es : List (Nat × CpInfo)) (last : Nat) : Array CpInfo := ⟨poolList es last⟩
def fileOf (pool : Array CpInfo) (this : Nat) (attrs : Array Attribute := #[]) (ms : Array MethodInfo := #[]) (fl : Nat := 33) (sup : Nat := 0) (ifs : Array Nat := #[]) (fds : Array FieldInfo := #[]) : ClassFile where
  minorVersion := 0
  majorVersion := 65
  constantPool := pool
  accessFlags := fl
  thisClass := this
  superClass := sup
  interfaces := ifs
  fields := fds
  methods := ms
  attributes := attrs
def plain (name : String) (sup : Option ClassId) : Class where
  name := name
  kind := .ordinary
  loader := none
  accessFlags := 33
  super := sup
  interfaces := #[]
  cf := none
  fields := #[]
  methods := #[]
  instanceTypes := #[]
  staticTypes := #[]
  resolved := #[]
  callSites := []
  init := .initialized
  statics := none
  mirror := none

def pool0 : Array CpInfo := pool [(5, u "<init>"), (0, u "()V"), (1, .class_ 10), (1, u "java/lang/Object")] 113

def k0m0 : Method := { name := "<init>", desc := "()V", sig := { parameters := [], returnType := none }, accessFlags := 1, code := none }
/-- java/lang/Object -/
def k0 : Class := { plain "java/lang/Object" none with
  accessFlags := 33
  interfaces := #[]
  cf := some (fileOf pool0 8 #[] #[{ accessFlags := 1, nameIndex := 5, descriptorIndex := 6, attributes := #[] }] 33 0 #[] #[])
  fields := #[]
  methods := #[k0m0]
  instanceTypes := #[]
  staticTypes := #[]
  resolved := Array.replicate 124 none
  statics := none }

def pool1 : Array CpInfo := pool [(2, .class_ 4), (1, u "java/lang/Object"), (0, u "<init>"), (0, u "()V"), (0, .string 8), (0, u "0123456789abcdef"), (0, .string 10), (0, u "0123456789ABCDEF"), (0, .methodref 12 13), (0, .class_ 14), (0, .nameAndType 15 16), (0, u "java/lang/String"), (0, u "charAt"), (0, u "(I)C"), (0, .methodref 18 19), (0, .class_ 20), (0, .nameAndType 21 22), (0, u "com/example/acedstream/acedstream/JsonReader"), (0, u "hexDigit"), (0, u "(I)I"), (0, .class_ 24), (0, u "com/example/acedstream/acedstream/JsonReaderHexDigitPinLaw"), (2, u "law"), (0, u "(II)Z")] 3

def k1m0 : Method := { name := "<init>", desc := "()V", sig := { parameters := [], returnType := none }, accessFlags := 1, code := none }
def k1c1 : Code := { maxStack := 3, maxLocals := 6, code := code, exceptionTable := #[], attributes := #[] }
def k1m1 : Method := { name := "law", desc := "(II)Z", sig := { parameters := [.int, .int], returnType := some .boolean }, accessFlags := 9, code := some k1c1 }
/-- com/example/acedstream/acedstream/JsonReaderHexDigitPinLaw -/
def k1 : Class := { plain "com/example/acedstream/acedstream/JsonReaderHexDigitPinLaw" (some 0) with
  accessFlags := 49
  interfaces := #[]
  cf := some (fileOf pool1 23 #[] #[{ accessFlags := 1, nameIndex := 5, descriptorIndex := 6, attributes := #[] }, { accessFlags := 9, nameIndex := 27, descriptorIndex := 28, attributes := #[] }] 49 2 #[] #[])
  fields := #[]
  methods := #[k1m0, k1m1]
  instanceTypes := #[]
  staticTypes := #[]
  resolved := Array.replicate 32 none
  statics := none }

def pool2 : Array CpInfo := pool [(1, .class_ 2), (0, u "java/io/Serializable"), (0, .class_ 4), (0, u "java/lang/Object")] 2

/-- java/io/Serializable -/
def k2 : Class := { plain "java/io/Serializable" (some 0) with
  accessFlags := 1537
  interfaces := #[]
  cf := some (fileOf pool2 1 #[] #[] 1537 3 #[] #[])
  fields := #[]
  methods := #[]
  instanceTypes := #[]
  staticTypes := #[]
  resolved := Array.replicate 7 none
  statics := none }

def pool3 : Array CpInfo := pool [(1, .class_ 2), (0, u "java/lang/Comparable"), (0, .class_ 4), (0, u "java/lang/Object")] 7

/-- java/lang/Comparable -/
def k3 : Class := { plain "java/lang/Comparable" (some 0) with
  accessFlags := 1537
  interfaces := #[]
  cf := some (fileOf pool3 1 #[] #[] 1537 3 #[] #[])
  fields := #[]
  methods := #[]
  instanceTypes := #[]
  staticTypes := #[]
  resolved := Array.replicate 12 none
  statics := none }

def pool4 : Array CpInfo := pool [(2, .class_ 4), (1, u "java/lang/CharSequence"), (42, .class_ 48), (0, u "java/lang/CharSequence$1CodePointIterator"), (10, .class_ 60), (0, u "java/lang/CharSequence$1CharIterator"), (5, .class_ 67), (0, u "java/lang/Object")] 63

/-- java/lang/CharSequence -/
def k4 : Class := { plain "java/lang/CharSequence" (some 0) with
  accessFlags := 1537
  interfaces := #[]
  cf := some (fileOf pool4 2 #[.nestMembers #[47, 59]] #[] 1537 66 #[] #[])
  fields := #[]
  methods := #[]
  instanceTypes := #[]
  staticTypes := #[]
  resolved := Array.replicate 131 none
  statics := none }

def pool5 : Array CpInfo := pool [(1, .class_ 2), (0, u "java/lang/constant/Constable"), (0, .class_ 4), (0, u "java/lang/Object")] 6

/-- java/lang/constant/Constable -/
def k5 : Class := { plain "java/lang/constant/Constable" (some 0) with
  accessFlags := 1537
  interfaces := #[]
  cf := some (fileOf pool5 1 #[] #[] 1537 3 #[] #[])
  fields := #[]
  methods := #[]
  instanceTypes := #[]
  staticTypes := #[]
  resolved := Array.replicate 11 none
  statics := none }

def pool6 : Array CpInfo := pool [(1, .class_ 2), (0, u "java/lang/constant/ConstantDesc"), (0, .class_ 4), (0, u "java/lang/Object")] 32

/-- java/lang/constant/ConstantDesc -/
def k6 : Class := { plain "java/lang/constant/ConstantDesc" (some 0) with
  accessFlags := 1537
  interfaces := #[]
  cf := some (fileOf pool6 1 #[] #[] 1537 3 #[] #[])
  fields := #[]
  methods := #[]
  instanceTypes := #[]
  staticTypes := #[]
  resolved := Array.replicate 37 none
  statics := none }

def pool7 : Array CpInfo := pool [(2, .class_ 4), (1, u "java/lang/Object"), (0, u "<init>"), (0, u "()V"), (2, .fieldref 10 11), (0, .class_ 12), (0, .nameAndType 13 14), (0, u "java/lang/String"), (0, u "value"), (0, u "[B"), (0, .fieldref 10 16), (0, .nameAndType 17 18), (0, u "coder"), (0, u "B"), (2, u "hash"), (0, u "I"), (2, u "hashIsZero"), (0, u "Z"), (11, .fieldref 10 39), (0, .nameAndType 40 26), (0, u "COMPACT_STRINGS"), (66, .class_ 109), (1, u "java/lang/StringLatin1"), (32, u "()Z"), (220, u "([BI)C"), (27, u "(II)V"), (35, u "(I)C"), (64, .methodref 10 493), (0, .nameAndType 494 142), (0, u "isLatin1"), (0, .methodref 107 496), (0, .nameAndType 497 363), (0, u "charAt"), (3, u "checkIndex"), (73, .class_ 576), (0, u "java/lang/CharSequence"), (22, u "CASE_INSENSITIVE_ORDER"), (0, u "Ljava/util/Comparator;"), (452, .fieldref 1054 1055), (0, .class_ 1056), (0, .nameAndType 1057 1058), (0, u "jdk/internal/util/Preconditions"), (0, u "SIOOBE_FORMATTER"), (0, u "Ljava/util/function/BiFunction;"), (0, .methodref 1054 1060), (0, .nameAndType 501 1061), (0, u "(IILjava/util/function/BiFunction;)I"), (39, u "serialPersistentFields"), (0, u "[Ljava/io/ObjectStreamField;"), (0, .class_ 1104), (0, u "java/lang/String$CaseInsensitiveComparator"), (1, .class_ 1107), (0, u "java/io/Serializable"), (0, .class_ 1109), (0, u "java/lang/Comparable"), (0, .class_ 1111), (0, u "java/lang/constant/Constable"), (0, .class_ 1113), (0, u "java/lang/constant/ConstantDesc"), (2, u "serialVersionUID"), (0, u "J"), (3, u "REPL"), (0, u "C"), (2, u "LATIN1"), (1, u "UTF16")] 323

def k7m0 : Method := { name := "<init>", desc := "()V", sig := { parameters := [], returnType := none }, accessFlags := 1, code := none }
def k7c1 : Code := { maxStack := 2, maxLocals := 2, code := jdk_42_method_56_code, exceptionTable := #[], attributes := #[] }
def k7m1 : Method := { name := "charAt", desc := "(I)C", sig := { parameters := [.int], returnType := some .char }, accessFlags := 1, code := some k7c1 }
def k7c2 : Code := { maxStack := 1, maxLocals := 1, code := jdk_42_method_154_code, exceptionTable := #[], attributes := #[] }
def k7m2 : Method := { name := "isLatin1", desc := "()Z", sig := { parameters := [], returnType := some .boolean }, accessFlags := 0, code := some k7c2 }
def k7c3 : Code := { maxStack := 3, maxLocals := 2, code := jdk_42_method_155_code, exceptionTable := #[], attributes := #[] }
def k7m3 : Method := { name := "checkIndex", desc := "(II)V", sig := { parameters := [.int, .int], returnType := none }, accessFlags := 8, code := some k7c3 }
/-- java/lang/String -/
def k7 : Class := { plain "java/lang/String" (some 0) with
  accessFlags := 49
  interfaces := #[2, 3, 4, 5, 6]
  cf := some (fileOf pool7 10 #[.nestMembers #[1103]] #[{ accessFlags := 1, nameIndex := 5, descriptorIndex := 6, attributes := #[] }, { accessFlags := 1, nameIndex := 497, descriptorIndex := 427, attributes := #[] }, { accessFlags := 0, nameIndex := 494, descriptorIndex := 142, attributes := #[] }, { accessFlags := 8, nameIndex := 501, descriptorIndex := 391, attributes := #[] }] 49 2 #[1106, 1108, 575, 1110, 1112] #[{ accessFlags := 18, nameIndex := 13, descriptorIndex := 14, attributes := #[] }, { accessFlags := 18, nameIndex := 17, descriptorIndex := 18, attributes := #[] }, { accessFlags := 2, nameIndex := 21, descriptorIndex := 22, attributes := #[] }, { accessFlags := 2, nameIndex := 25, descriptorIndex := 26, attributes := #[] }, { accessFlags := 26, nameIndex := 1116, descriptorIndex := 1117, attributes := #[] }, { accessFlags := 24, nameIndex := 40, descriptorIndex := 26, attributes := #[] }, { accessFlags := 26, nameIndex := 1101, descriptorIndex := 1102, attributes := #[] }, { accessFlags := 26, nameIndex := 1121, descriptorIndex := 1122, attributes := #[] }, { accessFlags := 25, nameIndex := 599, descriptorIndex := 600, attributes := #[] }, { accessFlags := 24, nameIndex := 1125, descriptorIndex := 18, attributes := #[] }, { accessFlags := 24, nameIndex := 1127, descriptorIndex := 18, attributes := #[] }])
  fields := #[{ name := "value", type := (.array .byte), accessFlags := 18, slot := 0, constantValue := 0 }, { name := "coder", type := .byte, accessFlags := 18, slot := 1, constantValue := 0 }, { name := "hash", type := .int, accessFlags := 2, slot := 2, constantValue := 0 }, { name := "hashIsZero", type := .boolean, accessFlags := 2, slot := 3, constantValue := 0 }, { name := "serialVersionUID", type := .long, accessFlags := 26, slot := 0, constantValue := 0 }, { name := "COMPACT_STRINGS", type := .boolean, accessFlags := 24, slot := 1, constantValue := 0 }, { name := "serialPersistentFields", type := (.array (.object "java/io/ObjectStreamField")), accessFlags := 26, slot := 2, constantValue := 0 }, { name := "REPL", type := .char, accessFlags := 26, slot := 3, constantValue := 0 }, { name := "CASE_INSENSITIVE_ORDER", type := (.object "java/util/Comparator"), accessFlags := 25, slot := 4, constantValue := 0 }, { name := "LATIN1", type := .byte, accessFlags := 24, slot := 5, constantValue := 0 }, { name := "UTF16", type := .byte, accessFlags := 24, slot := 6, constantValue := 0 }]
  methods := #[k7m0, k7m1, k7m2, k7m3]
  instanceTypes := #[(.array .byte), .byte, .int, .boolean]
  staticTypes := #[.long, .boolean, (.array (.object "java/io/ObjectStreamField")), .char, (.object "java/util/Comparator"), .byte, .byte]
  resolved := Array.replicate 1451 none
  statics := some 0 }

def pool8 : Array CpInfo := pool [(1, .class_ 2), (0, u "java/lang/String"), (1, .class_ 6), (1, u "java/lang/Object"), (0, u "<init>"), (0, u "()V"), (0, .methodref 1 10), (0, .nameAndType 11 12), (0, u "checkIndex"), (0, u "(II)V"), (1, .class_ 16), (1, u "java/lang/StringLatin1"), (36, u "([BI)C"), (67, u "$assertionsDisabled"), (0, u "Z"), (98, .class_ 223), (1, u "java/lang/StringLatin1$LinesSpliterator"), (28, u "charAt"), (137, .class_ 391), (0, u "java/lang/StringLatin1$CharsSpliterator")] 3

def k8m0 : Method := { name := "<init>", desc := "()V", sig := { parameters := [], returnType := none }, accessFlags := 0, code := none }
def k8c1 : Code := { maxStack := 2, maxLocals := 2, code := jdk_43_method_2_code, exceptionTable := #[], attributes := #[] }
def k8m1 : Method := { name := "charAt", desc := "([BI)C", sig := { parameters := [(.array .byte), .int], returnType := some .char }, accessFlags := 9, code := some k8c1 }
/-- java/lang/StringLatin1 -/
def k8 : Class := { plain "java/lang/StringLatin1" (some 0) with
  accessFlags := 48
  interfaces := #[]
  cf := some (fileOf pool8 14 #[.nestMembers #[390, 221]] #[{ accessFlags := 0, nameIndex := 7, descriptorIndex := 8, attributes := #[] }, { accessFlags := 9, nameIndex := 252, descriptorIndex := 53, attributes := #[] }] 48 4 #[] #[{ accessFlags := 4120, nameIndex := 121, descriptorIndex := 122, attributes := #[] }])
  fields := #[{ name := "$assertionsDisabled", type := .boolean, accessFlags := 4120, slot := 0, constantValue := 0 }]
  methods := #[k8m0, k8m1]
  instanceTypes := #[]
  staticTypes := #[.boolean]
  resolved := Array.replicate 395 none
  statics := none }

def pool9 : Array CpInfo := pool [(2, .class_ 4), (1, u "java/lang/Object"), (0, u "<init>"), (0, u "()V"), (17, .class_ 26), (1, u "jdk/internal/util/Preconditions"), (6, u "checkIndex"), (21, .class_ 56), (0, u "jdk/internal/util/Preconditions$4"), (57, .class_ 115), (0, u "jdk/internal/util/Preconditions$1"), (7, u "SIOOBE_FORMATTER"), (0, u "Ljava/util/function/BiFunction;"), (0, .class_ 126), (0, u "jdk/internal/util/Preconditions$2"), (3, u "AIOOBE_FORMATTER"), (0, .class_ 132), (0, u "jdk/internal/util/Preconditions$3"), (3, u "IOOBE_FORMATTER"), (41, u "(IILjava/util/function/BiFunction;)I")] 15

def k9m0 : Method := { name := "<init>", desc := "()V", sig := { parameters := [], returnType := none }, accessFlags := 1, code := none }
def k9c1 : Code := { maxStack := 3, maxLocals := 3, code := jdk_41_method_11_code, exceptionTable := #[], attributes := #[] }
def k9m1 : Method := { name := "checkIndex", desc := "(IILjava/util/function/BiFunction;)I", sig := { parameters := [.int, .int, (.object "java/util/function/BiFunction")], returnType := some .int }, accessFlags := 9, code := some k9c1 }
/-- jdk/internal/util/Preconditions -/
def k9 : Class := { plain "jdk/internal/util/Preconditions" (some 0) with
  accessFlags := 33
  interfaces := #[]
  cf := some (fileOf pool9 24 #[.nestMembers #[55, 131, 125, 114]] #[{ accessFlags := 1, nameIndex := 5, descriptorIndex := 6, attributes := #[] }, { accessFlags := 9, nameIndex := 33, descriptorIndex := 178, attributes := #[] }] 33 2 #[] #[{ accessFlags := 25, nameIndex := 123, descriptorIndex := 124, attributes := #[] }, { accessFlags := 25, nameIndex := 130, descriptorIndex := 124, attributes := #[] }, { accessFlags := 25, nameIndex := 136, descriptorIndex := 124, attributes := #[] }])
  fields := #[{ name := "SIOOBE_FORMATTER", type := (.object "java/util/function/BiFunction"), accessFlags := 25, slot := 0, constantValue := 0 }, { name := "AIOOBE_FORMATTER", type := (.object "java/util/function/BiFunction"), accessFlags := 25, slot := 1, constantValue := 0 }, { name := "IOOBE_FORMATTER", type := (.object "java/util/function/BiFunction"), accessFlags := 25, slot := 2, constantValue := 0 }]
  methods := #[k9m0, k9m1]
  instanceTypes := #[]
  staticTypes := #[(.object "java/util/function/BiFunction"), (.object "java/util/function/BiFunction"), (.object "java/util/function/BiFunction")]
  resolved := Array.replicate 194 none
  statics := some 1 }

def pool10 : Array CpInfo := pool [(2, .class_ 4), (1, u "java/lang/Object"), (2, .class_ 8), (0, u "com/example/acedstream/acedstream/JsonReader"), (2, u "peeked"), (0, u "I"), (2, u "line"), (0, u "J"), (7, u "in"), (0, u "Lcom/example/acedstream/acedstream/Utf8Input;"), (8, u "first"), (0, u "Z"), (177, u "hexDigit"), (0, u "(I)I"), (37, u "newline"), (2, u "column"), (26, u "NONE")] 46

def k10c0 : Code := { maxStack := 2, maxLocals := 1, code := prog_47_method_18_code, exceptionTable := #[], attributes := #[] }
def k10m0 : Method := { name := "hexDigit", desc := "(I)I", sig := { parameters := [.int], returnType := some .int }, accessFlags := 8, code := some k10c0 }
/-- com/example/acedstream/acedstream/JsonReader -/
def k10 : Class := { plain "com/example/acedstream/acedstream/JsonReader" (some 0) with
  accessFlags := 48
  interfaces := #[]
  cf := some (fileOf pool10 7 #[] #[{ accessFlags := 8, nameIndex := 213, descriptorIndex := 214, attributes := #[] }] 48 2 #[] #[{ accessFlags := 26, nameIndex := 282, descriptorIndex := 12, attributes := #[] }, { accessFlags := 18, nameIndex := 24, descriptorIndex := 25, attributes := #[] }, { accessFlags := 2, nameIndex := 11, descriptorIndex := 12, attributes := #[] }, { accessFlags := 2, nameIndex := 15, descriptorIndex := 16, attributes := #[] }, { accessFlags := 2, nameIndex := 255, descriptorIndex := 16, attributes := #[] }, { accessFlags := 2, nameIndex := 252, descriptorIndex := 35, attributes := #[] }, { accessFlags := 2, nameIndex := 34, descriptorIndex := 35, attributes := #[] }])
  fields := #[{ name := "NONE", type := .int, accessFlags := 26, slot := 0, constantValue := 0 }, { name := "in", type := (.object "com/example/acedstream/acedstream/Utf8Input"), accessFlags := 18, slot := 0, constantValue := 0 }, { name := "peeked", type := .int, accessFlags := 2, slot := 1, constantValue := 0 }, { name := "line", type := .long, accessFlags := 2, slot := 2, constantValue := 0 }, { name := "column", type := .long, accessFlags := 2, slot := 3, constantValue := 0 }, { name := "newline", type := .boolean, accessFlags := 2, slot := 4, constantValue := 0 }, { name := "first", type := .boolean, accessFlags := 2, slot := 5, constantValue := 0 }]
  methods := #[k10m0]
  instanceTypes := #[(.object "com/example/acedstream/acedstream/Utf8Input"), .int, .long, .long, .boolean, .boolean]
  staticTypes := #[.int]
  resolved := Array.replicate 329 none
  statics := none }

def pool11 : Array CpInfo := pool [(9, u "<init>"), (6, .class_ 18), (1, u "java/lang/Object"), (0, u "()V"), (1, .class_ 23), (1, u "jdk/internal/util/ArraysSupport"), (0, u "LOG2_ARRAY_LONG_INDEX_SCALE"), (0, u "I"), (2, u "U"), (0, u "Ljdk/internal/misc/Unsafe;"), (8, u "BIG_ENDIAN"), (0, u "Z"), (8, u "LOG2_BYTE_BIT_SIZE"), (4, u "LOG2_ARRAY_INT_INDEX_SCALE"), (54, u "JLA"), (0, u "Ljdk/internal/access/JavaLangAccess;"), (11, u "LOG2_ARRAY_BOOLEAN_INDEX_SCALE"), (9, u "LOG2_ARRAY_BYTE_INDEX_SCALE"), (5, u "LOG2_ARRAY_CHAR_INDEX_SCALE"), (5, u "LOG2_ARRAY_SHORT_INDEX_SCALE"), (18, u "LOG2_ARRAY_FLOAT_INDEX_SCALE"), (24, u "LOG2_ARRAY_DOUBLE_INDEX_SCALE"), (89, u "T_BOOLEAN"), (2, u "T_CHAR"), (1, u "T_FLOAT"), (1, u "T_DOUBLE"), (1, u "T_BYTE"), (1, u "T_SHORT"), (1, u "T_INT"), (1, u "T_LONG"), (1, u "SOFT_MAX_ARRAY_LENGTH")] 83

def k11m0 : Method := { name := "<init>", desc := "()V", sig := { parameters := [], returnType := none }, accessFlags := 2, code := none }
/-- jdk/internal/util/ArraysSupport -/
def k11 : Class := { plain "jdk/internal/util/ArraysSupport" (some 0) with
  accessFlags := 33
  interfaces := #[]
  cf := some (fileOf pool11 21 #[] #[{ accessFlags := 2, nameIndex := 9, descriptorIndex := 19, attributes := #[] }] 33 16 #[] #[{ accessFlags := 24, nameIndex := 28, descriptorIndex := 29, attributes := #[] }, { accessFlags := 26, nameIndex := 38, descriptorIndex := 39, attributes := #[] }, { accessFlags := 25, nameIndex := 121, descriptorIndex := 25, attributes := #[] }, { accessFlags := 25, nameIndex := 131, descriptorIndex := 25, attributes := #[] }, { accessFlags := 25, nameIndex := 137, descriptorIndex := 25, attributes := #[] }, { accessFlags := 25, nameIndex := 143, descriptorIndex := 25, attributes := #[] }, { accessFlags := 25, nameIndex := 53, descriptorIndex := 25, attributes := #[] }, { accessFlags := 25, nameIndex := 24, descriptorIndex := 25, attributes := #[] }, { accessFlags := 25, nameIndex := 162, descriptorIndex := 25, attributes := #[] }, { accessFlags := 25, nameIndex := 187, descriptorIndex := 25, attributes := #[] }, { accessFlags := 26, nameIndex := 48, descriptorIndex := 25, attributes := #[] }, { accessFlags := 25, nameIndex := 277, descriptorIndex := 25, attributes := #[] }, { accessFlags := 25, nameIndex := 280, descriptorIndex := 25, attributes := #[] }, { accessFlags := 25, nameIndex := 282, descriptorIndex := 25, attributes := #[] }, { accessFlags := 25, nameIndex := 284, descriptorIndex := 25, attributes := #[] }, { accessFlags := 25, nameIndex := 286, descriptorIndex := 25, attributes := #[] }, { accessFlags := 25, nameIndex := 288, descriptorIndex := 25, attributes := #[] }, { accessFlags := 25, nameIndex := 290, descriptorIndex := 25, attributes := #[] }, { accessFlags := 25, nameIndex := 292, descriptorIndex := 25, attributes := #[] }, { accessFlags := 26, nameIndex := 108, descriptorIndex := 109, attributes := #[] }, { accessFlags := 25, nameIndex := 294, descriptorIndex := 25, attributes := #[] }])
  fields := #[{ name := "U", type := (.object "jdk/internal/misc/Unsafe"), accessFlags := 24, slot := 0, constantValue := 0 }, { name := "BIG_ENDIAN", type := .boolean, accessFlags := 26, slot := 1, constantValue := 0 }, { name := "LOG2_ARRAY_BOOLEAN_INDEX_SCALE", type := .int, accessFlags := 25, slot := 2, constantValue := 0 }, { name := "LOG2_ARRAY_BYTE_INDEX_SCALE", type := .int, accessFlags := 25, slot := 3, constantValue := 0 }, { name := "LOG2_ARRAY_CHAR_INDEX_SCALE", type := .int, accessFlags := 25, slot := 4, constantValue := 0 }, { name := "LOG2_ARRAY_SHORT_INDEX_SCALE", type := .int, accessFlags := 25, slot := 5, constantValue := 0 }, { name := "LOG2_ARRAY_INT_INDEX_SCALE", type := .int, accessFlags := 25, slot := 6, constantValue := 0 }, { name := "LOG2_ARRAY_LONG_INDEX_SCALE", type := .int, accessFlags := 25, slot := 7, constantValue := 0 }, { name := "LOG2_ARRAY_FLOAT_INDEX_SCALE", type := .int, accessFlags := 25, slot := 8, constantValue := 0 }, { name := "LOG2_ARRAY_DOUBLE_INDEX_SCALE", type := .int, accessFlags := 25, slot := 9, constantValue := 0 }, { name := "LOG2_BYTE_BIT_SIZE", type := .int, accessFlags := 26, slot := 10, constantValue := 0 }, { name := "T_BOOLEAN", type := .int, accessFlags := 25, slot := 11, constantValue := 0 }, { name := "T_CHAR", type := .int, accessFlags := 25, slot := 12, constantValue := 0 }, { name := "T_FLOAT", type := .int, accessFlags := 25, slot := 13, constantValue := 0 }, { name := "T_DOUBLE", type := .int, accessFlags := 25, slot := 14, constantValue := 0 }, { name := "T_BYTE", type := .int, accessFlags := 25, slot := 15, constantValue := 0 }, { name := "T_SHORT", type := .int, accessFlags := 25, slot := 16, constantValue := 0 }, { name := "T_INT", type := .int, accessFlags := 25, slot := 17, constantValue := 0 }, { name := "T_LONG", type := .int, accessFlags := 25, slot := 18, constantValue := 0 }, { name := "JLA", type := (.object "jdk/internal/access/JavaLangAccess"), accessFlags := 26, slot := 19, constantValue := 0 }, { name := "SOFT_MAX_ARRAY_LENGTH", type := .int, accessFlags := 25, slot := 20, constantValue := 0 }]
  methods := #[k11m0]
  instanceTypes := #[]
  staticTypes := #[(.object "jdk/internal/misc/Unsafe"), .boolean, .int, .int, .int, .int, .int, .int, .int, .int, .int, .int, .int, .int, .int, .int, .int, .int, .int, (.object "jdk/internal/access/JavaLangAccess"), .int]
  resolved := Array.replicate 378 none
  statics := none }

def pool12 : Array CpInfo := pool [(1, u "java/lang/Cloneable"), (0, .class_ 1), (0, u "java/lang/Object"), (0, .class_ 3)] 3

/-- java/lang/Cloneable -/
def k12 : Class := { plain "java/lang/Cloneable" (some 0) with
  accessFlags := 1537
  interfaces := #[]
  cf := some (fileOf pool12 2 #[] #[] 1537 4 #[] #[])
  fields := #[]
  methods := #[]
  instanceTypes := #[]
  staticTypes := #[]
  resolved := Array.replicate 8 none
  statics := none }

/-- the primitive byte -/
def k13 : Class := { plain "byte" none with kind := .primitive 'B', accessFlags := 0x411 }
/-- [B -/
def k14 : Class := { plain "[B" (some 0) with kind := .array 13 .byte, interfaces := #[12, 2], accessFlags := 1041 }

/-- the primitive int -/
def k15 : Class := { plain "int" none with kind := .primitive 'I', accessFlags := 0x411 }
/-- [I -/
def k16 : Class := { plain "[I" (some 0) with kind := .array 15 .int, interfaces := #[12, 2], accessFlags := 1041 }

def heap : Heap := #[{ cls := 7, slots := #[.long 0, .int 1, .null, .int 0, .null, .int 0, .int 0], vm := .statics 7 },
  { cls := 9, slots := #[.null, .null, .null], vm := .statics 9 }]
def classes : Array Class := #[k0, k1, k2, k3, k4, k5, k6, k7, k8, k9, k10, k11, k12, k13, k14, k15, k16]
def interned : List (Array UInt16 × Addr) := []
def slotsUsed : Nat := 10
def theMethod : MethodId := ⟨1, 1⟩
def args0 : Array Value := #[.int 5, .int 7]
def aboutOver (below : List Frame) : State where
  vm := { classes := classes, interned := interned.toArray }
  heap := heap
  slotsUsed := slotsUsed
  threads := #[{ frames := .invoking theMethod args0 :: below }]
def below0 : List Frame := [.native { method := ⟨0, 0⟩, args := #[] }]
def about1 : State := aboutOver below0
def p0 : Program := .bare "" "" ""
def e0 : Env := launch0.env 0 0 0
theorem w_frames : about1.frames = Frame.invoking theMethod args0 :: below0 := rfl
set_option maxRecDepth 65536 in
theorem w_args : argsFit about1.vm theMethod args0 = true := by decide +kernel
set_option maxRecDepth 65536 in
theorem w_heap : heapFits about1 = true := by decide +kernel
set_option maxRecDepth 65536 in
theorem w_runnable : about1.curStatus? = some .runnable := by decide +kernel
set_option maxRecDepth 65536 in
theorem w_alone : about1.alone = true := by decide +kernel
set_option maxRecDepth 65536 in
theorem w_named : about1.methodNamed? x = some theMethod := by decide +kernel
set_option maxRecDepth 65536 in
theorem w_hears : about1.hears theMethod below0 = true := by decide +kernel
set_option maxRecDepth 65536 in
theorem w_ripe : about1.ripe theMethod args0 below0 = true := by decide +kernel
theorem w_running : about1.status = .running := rfl
set_option maxRecDepth 65536 in
theorem w_room : about1.hasRoom e0.platform room_1 = true :=
  launch0.hasRoom_least _ room_1 (by decide +kernel) (by decide +kernel) (by decide +kernel) (by decide +kernel) (by decide +kernel) (by decide +kernel)
theorem allAtoms_all (ts : List Jvm.Cond) (a : Array Jvm.Value) (st : Jvm.State) : (allAtoms ts).before a st = ts.all (fun c => c.before a st) := by
  induction ts with
  | nil => rfl
  | cons c t ih =>
    show (Jvm.Cond.and c (allAtoms t)).before a st = _
    rw [Jvm.Cond.before_and, ih, List.all_cons]
def words1 : List Jvm.Cond := Jvm.Cond.code x code maxLocals ret :: tables_1
/-- a 'code' word, met by the world's own term for the bytes: nothing is compared byte by byte -/
theorem code_word {y : MethodName} {bytes : ByteArray} {mx : Nat} {rt : Option FieldType} {a : Array Value} {s : State} {m : MethodId} {meth : Method} {c : Code} (h1 : s.methodNamed? y = some m) (h2 : s.vm.method? m = some meth) (h3 : meth.code = some c) (h4 : c.code = bytes)
    (h5 : (c.maxLocals == mx && c.exceptionTable.isEmpty && decide (c.maxStack ≤ mostOperands) && decide (meth.sig.returnType = rt) && !meth.locks && decide (parseMethodDescriptor y.desc = some meth.sig)) = true) : (Jvm.Cond.code y bytes mx rt).before a s = true := by
  simp only [Bool.and_eq_true, beq_iff_eq, Bool.not_eq_true', decide_eq_true_eq] at h5
  obtain ⟨⟨⟨⟨⟨g1, g2⟩, g3⟩, g4⟩, g5⟩, g6⟩ := h5
  simp [Cond.before, Cond.holds, Cond.value, h1, h2, h3, h4, g1, g2, g3, g4, g5, g6]
def isCode : Jvm.Cond → Bool
  | .code _ _ _ _ => true
  | _ => false
theorem all_split {L : List Jvm.Cond} {P : Jvm.Cond → Bool} (h1 : L.all (fun c => isCode c || P c) = true) (h2 : ∀ c ∈ L.filter isCode, P c = true) : L.all P = true := by
  refine List.all_eq_true.mpr fun c hc => ?_
  have h := List.all_eq_true.mp h1 c hc
  rcases Bool.eq_false_or_eq_true (isCode c) with hi | hi
  · exact h2 c (List.mem_filter.mpr ⟨hc, hi⟩)
  · simpa [hi] using h
set_option maxRecDepth 65536 in
theorem w_c0 : (Jvm.Cond.code x code maxLocals ret).before args0 about1 = true := code_word (m := ⟨1, 1⟩) (meth := k1m1) (c := k1c1) (by decide +kernel) rfl rfl rfl (by decide +kernel)
set_option maxRecDepth 65536 in
theorem w_c1 : (Jvm.Cond.code ({ cls := "java/lang/String", name := "charAt", desc := "(I)C" } : Jvm.MethodName) jdk_42_method_56_code (2 : Nat) (Option.some Jvm.ClassFile.FieldType.char)).before args0 about1 = true := code_word (m := ⟨7, 1⟩) (meth := k7m1) (c := k7c1) (by decide +kernel) rfl rfl rfl (by decide +kernel)
set_option maxRecDepth 65536 in
theorem w_c2 : (Jvm.Cond.code ({ cls := "java/lang/String", name := "isLatin1", desc := "()Z" } : Jvm.MethodName) jdk_42_method_154_code (1 : Nat) (Option.some Jvm.ClassFile.FieldType.boolean)).before args0 about1 = true := code_word (m := ⟨7, 2⟩) (meth := k7m2) (c := k7c2) (by decide +kernel) rfl rfl rfl (by decide +kernel)
set_option maxRecDepth 65536 in
theorem w_c3 : (Jvm.Cond.code ({ cls := "java/lang/StringLatin1", name := "charAt", desc := "([BI)C" } : Jvm.MethodName) jdk_43_method_2_code (2 : Nat) (Option.some Jvm.ClassFile.FieldType.char)).before args0 about1 = true := code_word (m := ⟨8, 1⟩) (meth := k8m1) (c := k8c1) (by decide +kernel) rfl rfl rfl (by decide +kernel)
set_option maxRecDepth 65536 in
theorem w_c4 : (Jvm.Cond.code ({ cls := "java/lang/String", name := "checkIndex", desc := "(II)V" } : Jvm.MethodName) jdk_42_method_155_code (2 : Nat) (Option.none : Option Jvm.ClassFile.FieldType)).before args0 about1 = true := code_word (m := ⟨7, 3⟩) (meth := k7m3) (c := k7c3) (by decide +kernel) rfl rfl rfl (by decide +kernel)
set_option maxRecDepth 65536 in
theorem w_c5 : (Jvm.Cond.code ({ cls := "jdk/internal/util/Preconditions", name := "checkIndex", desc := "(IILjava/util/function/BiFunction;)I" } : Jvm.MethodName) jdk_41_method_11_code (3 : Nat) (Option.some Jvm.ClassFile.FieldType.int)).before args0 about1 = true := code_word (m := ⟨9, 1⟩) (meth := k9m1) (c := k9c1) (by decide +kernel) rfl rfl rfl (by decide +kernel)
set_option maxRecDepth 65536 in
theorem w_c6 : (Jvm.Cond.code ({ cls := "com/example/acedstream/acedstream/JsonReader", name := "hexDigit", desc := "(I)I" } : Jvm.MethodName) prog_47_method_18_code (1 : Nat) (Option.some Jvm.ClassFile.FieldType.int)).before args0 about1 = true := code_word (m := ⟨10, 0⟩) (meth := k10m0) (c := k10c0) (by decide +kernel) rfl rfl rfl (by decide +kernel)
def codes1 : List Jvm.Cond := [Jvm.Cond.code x code maxLocals ret, Jvm.Cond.code ({ cls := "java/lang/String", name := "charAt", desc := "(I)C" } : Jvm.MethodName) jdk_42_method_56_code (2 : Nat) (Option.some Jvm.ClassFile.FieldType.char), Jvm.Cond.code ({ cls := "java/lang/String", name := "isLatin1", desc := "()Z" } : Jvm.MethodName) jdk_42_method_154_code (1 : Nat) (Option.some Jvm.ClassFile.FieldType.boolean), Jvm.Cond.code ({ cls := "java/lang/StringLatin1", name := "charAt", desc := "([BI)C" } : Jvm.MethodName) jdk_43_method_2_code (2 : Nat) (Option.some Jvm.ClassFile.FieldType.char), Jvm.Cond.code ({ cls := "java/lang/String", name := "checkIndex", desc := "(II)V" } : Jvm.MethodName) jdk_42_method_155_code (2 : Nat) (Option.none : Option Jvm.ClassFile.FieldType), Jvm.Cond.code ({ cls := "jdk/internal/util/Preconditions", name := "checkIndex", desc := "(IILjava/util/function/BiFunction;)I" } : Jvm.MethodName) jdk_41_method_11_code (3 : Nat) (Option.some Jvm.ClassFile.FieldType.int), Jvm.Cond.code ({ cls := "com/example/acedstream/acedstream/JsonReader", name := "hexDigit", desc := "(I)I" } : Jvm.MethodName) prog_47_method_18_code (1 : Nat) (Option.some Jvm.ClassFile.FieldType.int)]
set_option maxRecDepth 65536 in
theorem codes_eq : words1.filter isCode = codes1 := rfl
theorem w_codes : ∀ c ∈ words1.filter isCode, c.before args0 about1 = true := by
  rw [codes_eq]
  intro c hc
  simp only [codes1, List.mem_cons, List.not_mem_nil, or_false] at hc
  rcases hc with rfl | rfl | rfl | rfl | rfl | rfl | rfl
  · exact w_c0
  · exact w_c1
  · exact w_c2
  · exact w_c3
  · exact w_c4
  · exact w_c5
  · exact w_c6
set_option maxRecDepth 65536 in
theorem w_t1 : (words1.take 24).all (fun c => isCode c || c.before args0 about1) = true := by decide +kernel
set_option maxRecDepth 65536 in
theorem w_t2 : (words1.drop 24).all (fun c => isCode c || c.before args0 about1) = true := by decide +kernel
theorem w_tables : (allAtoms (Jvm.Cond.code x code maxLocals ret :: tables_1)).before args0 about1 = true := by
  rw [allAtoms_all]
  show words1.all (fun c => c.before args0 about1) = true
  refine all_split ?_ w_codes
  rw [← List.take_append_drop 24 words1, List.all_append, w_t1, w_t2]
  rfl
set_option maxRecDepth 65536 in
theorem w_rest : rest_1_c.before args0 about1 = true := by decide +kernel
set_option maxRecDepth 65536 in
theorem w_case : (Jvm.Cond.and given_1 narrow_1).before args0 about1 = true := by decide +kernel
set_option maxRecDepth 65536 in
theorem w_consts : constsHeld consts_1 about1 := Jvm.Lit.constsHeldB_iff.mp (by decide +kernel)
theorem w_applies : (headSpec (Jvm.Cond.code x code maxLocals ret :: tables_1) room_1).applies x e0.platform about1 = true :=
  (Spec.applies_iff w_frames).mpr ⟨w_running, w_runnable, w_alone, w_named, w_hears, w_ripe, w_room, w_tables⟩
theorem atStart : AtStart classFile x code maxLocals ret World_1 tables_1 room_1 Calls_1 rest_1 Pre_1 launch0 p0 e0 about1 theMethod args0 below0 :=
  ⟨lists_1, trivial, launch0.admits_env _ _ _, launch0.least_env, fairChoices_fair.cas, fairChoices_fair.clock, w_frames, w_args, w_heap, w_applies, ⟨w_consts, trivial⟩, w_rest, w_case⟩
end start1
theorem witness_1 : WitnessClaimed_1 := ⟨start1.p0, start1.e0, start1.about1, start1.theMethod, start1.args0, start1.below0, start1.atStart⟩
end Jvm.Pilot.@@N@@
