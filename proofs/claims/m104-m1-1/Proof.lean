import JvmDerived
import JvmDerived.Pilot.@@N@@Statement
import JvmDerived.Pilot.@@N@@Code
set_option linter.unusedVariables false
set_option linter.unusedSimpArgs false
namespace Jvm.OwnKit
open Sem ClassFile Op Lib Jvm.Stand Jvm.Free Jvm.LawKit Jvm.RoadKit Bundle
/-- the run's own things: program, environment, start state, method, arguments, frames below, its record, its code -/
abbrev Cx := Program × Env × State × MethodId × Array Value × List Frame × Method × Code
def Ok (K : Cx) (Z : State) (n0 : Nat) (own : String) (code : ByteArray) (maxL : Nat) (ret : Option FieldType) (nm : String) : Prop :=
  match K with
  | (p, _, s, m, _, _, meth, c) => p.tables.exec = Jvm.exec ∧ Z.Warmed39 s.vm ∧ s.vm.findClass own = some m.cls ∧ c.code = code ∧ c.maxLocals = maxL ∧ meth.sig.returnType = ret ∧ meth.name = nm ∧ meth.locks = false ∧ Old Z n0 s.heap
/-- from heap h, with k cells and n slots made, at pc with locals L and stack S, the run comes to a return that P likes -/
def W (K : Cx) (l : Launch) (R : Room) (n0 : Nat) (P : Option Value → Heap → Prop) (h : Heap) (k n pc : Nat) (L : Array Slot) (S : List Value) : Prop :=
  match K with
  | (p, e, s, m, args, below, meth, c) => ∀ T locs, Stand p l e R s m args below meth c T locs k n → T.heap = h → Fr n0 locs →
    ∃ s₂ o, Steps p.tables e below (T.setTop (mkF m pc L S)) s₂ ∧ s₂.status = .running ∧ Ended s₂ below o ∧ ∃ v L', o = .returned v ∧ (P v s₂.heap ∧ Fr n0 L') ∧ FrameEnd s o s₂ L' R.cells R.slots
/-- a method's contract: called with as' at heap h it returns what Q likes -/
abbrev Met (l : Launch) (Z : State) (n0 : Nat) (y : MethodName) (bytes : ByteArray) (mL : Nat) (rt : Option FieldType) (ws : List Cond) (rm : Room) (as' : Array Value) (h : Heap) (Q : Option Value → Heap → Prop) : Prop :=
  MetFree l y (head1 (Cond.code y bytes mL rt :: ws) rm) (fun a U => a = as' ∧ Z.Warmed39 U.vm ∧ U.heap = h) (fun _ _ _ _ _ => True) (fun _ U o U' => ∃ v L, o = .returned v ∧ (Q v U'.heap ∧ Fr n0 L) ∧ FrameEnd U o U' L rm.cells rm.slots)
theorem old_now {p : Program} {l : Launch} {e : Env} {R : Room} {s : State} {m : MethodId} {args : Array Value} {below : List Frame} {meth : Method} {c : Code} {T : State} {locs : List Loc} {k n : Nat} {Z : State} {n0 : Nat} (O : Old Z n0 s.heap) (X : Stand p l e R s m args below meth c T locs k n) (N : Fr n0 locs) : Old Z n0 T.heap := by
  refine ⟨O.1, Nat.le_trans O.2.1 X.same.2.1, fun a c hc => ?_⟩
  have h1 := O.2.2 a c hc
  have ha : a < n0 := O.1 ▸ (Array.getElem?_eq_some_iff.mp hc).1
  obtain ⟨c', q1, q2, q3, q4⟩ := X.same.2.2.2.2.2 a c h1
  have q5 : c'.slots = c.slots := Array.ext_getElem? fun i => q4 i fun hm => Nat.lt_irrefl _ (Nat.lt_of_lt_of_le ha (N _ hm))
  rw [q5] at q2
  have q6 : T.heap[a]? = some c' := q1
  rw [q6, q2]
theorem old_ge {p : Program} {l : Launch} {e : Env} {R : Room} {s : State} {m : MethodId} {args : Array Value} {below : List Frame} {meth : Method} {c : Code} {T : State} {locs : List Loc} {k n : Nat} {Z : State} {n0 : Nat} (O : Old Z n0 s.heap) (X : Stand p l e R s m args below meth c T locs k n) (N : Fr n0 locs) : n0 ≤ T.heap.size := by
  have q := old_now O X N
  rw [← q.1]; exact q.2.1
theorem met_of {l : Launch} {Z : State} {n0 : Nat} {y : MethodName} {bytes : ByteArray} {mL : Nat} {rt : Option FieldType} {ws : List Cond} {rm : Room} {as' : Array Value} {h : Heap} {Q : Option Value → Heap → Prop} (Z0 : Old Z n0 h) (pn : plainFor y = true) {Ls : Array Slot} (ef : ∀ m, entryFrame m as' mL = mkF m 0 Ls [])
    (H : ∀ K, Ok K Z n0 y.cls bytes mL rt y.name → W K l rm n0 Q h 0 0 0 Ls []) : Met l Z n0 y bytes mL rt ws rm as' h Q := by
  refine MetFree.of_bodySF pn hisR ?_
  intro p e s m args below meth c s₁ Bd hml0 hP hK
  obtain ⟨rfl, hZ, hh⟩ := hP
  have hnm := (name_of_methodNamed Bd.named Bd.method).1
  have X0 : Stand p l e rm s m args below meth c s₁ [] 0 0 := Stand.of_body Bd
  have e0 : s₁.heap = h := by rw [← hh, Bd.state]; rfl
  obtain ⟨s₂, o, st, r⟩ := H (p, e, s, m, args, below, meth, c) ⟨Bd.exec, hZ, findClass_of_methodNamed Bd.named, Bd.bytes, hml0, Bd.returns, hnm, Bd.notSynchronized, by show Old Z n0 s.heap; rw [hh]; exact Z0⟩ s₁ [] X0 e0 (Fr.nil n0)
  exact ⟨s₂, o, castTop (ef m) st, r⟩
section S
variable {K : Cx} {l : Launch} {R : Room} {Z : State} {n0 : Nat} {P : Option Value → Heap → Prop} {h : Heap} {k n pc : Nat} {L : Array Slot} {S : List Value} {own : String} {code : ByteArray} {maxL : Nat} {ret : Option FieldType} {nm : String} {a0 : Array Value}
theorem W.mono {P' : Option Value → Heap → Prop} (q : ∀ v h, P v h → P' v h) (w : W K l R n0 P h k n pc L S) : W K l R n0 P' h k n pc L S := by
  obtain ⟨p, e, s, m, args, below, meth, c⟩ := K
  intro T locs X eT N
  obtain ⟨s₂, o, st, r1, r2, v, L', r3, ⟨r4, r5⟩, r6⟩ := w T locs X eT N
  exact ⟨s₂, o, st, r1, r2, v, L', r3, ⟨q _ _ r4, r5⟩, r6⟩
theorem W.more {k' n' : Nat} (w : W K l R n0 P h k' n' pc L S) (hk : k ≤ k') (hn : n ≤ n') : W K l R n0 P h k n pc L S := by
  obtain ⟨p, e, s, m, args, below, meth, c⟩ := K
  intro T locs X eT N
  exact w T locs (X.more hk hn) eT N
theorem w_iloadN (ok : Ok K Z n0 own code maxL ret nm) {i : Fin 4} {v : Int32} (hd : decode code pc = .ok (.iload_n i, 1)) (hl : L[i.val]? = some (.val (.int v))) (w : W K l R n0 P h k n (pc + 1) L (.int v :: S)) : W K l R n0 P h k n pc L (S) := by
  obtain ⟨p, e, s, m, args, below, meth, c⟩ := K
  obtain ⟨hx, hZ, hown, hby, -⟩ := ok
  intro T locs X eT N
  obtain ⟨s₂, o, st, r⟩ := w T locs X eT N
  exact ⟨s₂, o, XS.iloadN X.here hx rfl (hb hby hd) hl st, r⟩
theorem w_iload (ok : Ok K Z n0 own code maxL ret nm) {i : Nat} {v : Int32} (hd : decode code pc = .ok (.iload i, 2)) (hl : L[i]? = some (.val (.int v))) (w : W K l R n0 P h k n (pc + 2) L (.int v :: S)) : W K l R n0 P h k n pc L (S) := by
  obtain ⟨p, e, s, m, args, below, meth, c⟩ := K
  obtain ⟨hx, hZ, hown, hby, -⟩ := ok
  intro T locs X eT N
  obtain ⟨s₂, o, st, r⟩ := w T locs X eT N
  exact ⟨s₂, o, XS.iload X.here hx rfl (hb hby hd) hl st, r⟩
theorem w_istoreN (ok : Ok K Z n0 own code maxL ret nm) {i : Fin 4} {v : Int32} {L' : Array Slot} (hd : decode code pc = .ok (.istore_n i, 1)) (hl : storeLocals L i.val (.int v) = some L') (w : W K l R n0 P h k n (pc + 1) L' (S)) : W K l R n0 P h k n pc L (.int v :: S) := by
  obtain ⟨p, e, s, m, args, below, meth, c⟩ := K
  obtain ⟨hx, hZ, hown, hby, -⟩ := ok
  intro T locs X eT N
  obtain ⟨s₂, o, st, r⟩ := w T locs X eT N
  exact ⟨s₂, o, XS.istoreN X.here hx rfl (hb hby hd) rfl hl st, r⟩
theorem w_istore (ok : Ok K Z n0 own code maxL ret nm) {i : Nat} {v : Int32} {L' : Array Slot} (hd : decode code pc = .ok (.istore i, 2)) (hl : storeLocals L i (.int v) = some L') (w : W K l R n0 P h k n (pc + 2) L' (S)) : W K l R n0 P h k n pc L (.int v :: S) := by
  obtain ⟨p, e, s, m, args, below, meth, c⟩ := K
  obtain ⟨hx, hZ, hown, hby, -⟩ := ok
  intro T locs X eT N
  obtain ⟨s₂, o, st, r⟩ := w T locs X eT N
  exact ⟨s₂, o, XS.istore X.here hx rfl (hb hby hd) rfl hl st, r⟩
theorem w_lloadN (ok : Ok K Z n0 own code maxL ret nm) {i : Fin 4} {v : Int64} (hd : decode code pc = .ok (.lload_n i, 1)) (hl : L[i.val]? = some (.val (.long v))) (w : W K l R n0 P h k n (pc + 1) L (.long v :: S)) : W K l R n0 P h k n pc L (S) := by
  obtain ⟨p, e, s, m, args, below, meth, c⟩ := K
  obtain ⟨hx, hZ, hown, hby, -⟩ := ok
  intro T locs X eT N
  obtain ⟨s₂, o, st, r⟩ := w T locs X eT N
  exact ⟨s₂, o, XS.lloadN X.here hx rfl (hb hby hd) hl st, r⟩
theorem w_lload (ok : Ok K Z n0 own code maxL ret nm) {i : Nat} {v : Int64} (hd : decode code pc = .ok (.lload i, 2)) (hl : L[i]? = some (.val (.long v))) (w : W K l R n0 P h k n (pc + 2) L (.long v :: S)) : W K l R n0 P h k n pc L (S) := by
  obtain ⟨p, e, s, m, args, below, meth, c⟩ := K
  obtain ⟨hx, hZ, hown, hby, -⟩ := ok
  intro T locs X eT N
  obtain ⟨s₂, o, st, r⟩ := w T locs X eT N
  exact ⟨s₂, o, XS.lload X.here hx rfl (hb hby hd) hl st, r⟩
theorem w_lstoreN (ok : Ok K Z n0 own code maxL ret nm) {i : Fin 4} {v : Int64} {L' : Array Slot} (hd : decode code pc = .ok (.lstore_n i, 1)) (hl : storeLocals L i.val (.long v) = some L') (w : W K l R n0 P h k n (pc + 1) L' (S)) : W K l R n0 P h k n pc L (.long v :: S) := by
  obtain ⟨p, e, s, m, args, below, meth, c⟩ := K
  obtain ⟨hx, hZ, hown, hby, -⟩ := ok
  intro T locs X eT N
  obtain ⟨s₂, o, st, r⟩ := w T locs X eT N
  exact ⟨s₂, o, XS.lstoreN X.here hx rfl (hb hby hd) rfl hl st, r⟩
theorem w_lstore (ok : Ok K Z n0 own code maxL ret nm) {i : Nat} {v : Int64} {L' : Array Slot} (hd : decode code pc = .ok (.lstore i, 2)) (hl : storeLocals L i (.long v) = some L') (w : W K l R n0 P h k n (pc + 2) L' (S)) : W K l R n0 P h k n pc L (.long v :: S) := by
  obtain ⟨p, e, s, m, args, below, meth, c⟩ := K
  obtain ⟨hx, hZ, hown, hby, -⟩ := ok
  intro T locs X eT N
  obtain ⟨s₂, o, st, r⟩ := w T locs X eT N
  exact ⟨s₂, o, XS.lstore X.here hx rfl (hb hby hd) rfl hl st, r⟩
theorem w_aloadN (ok : Ok K Z n0 own code maxL ret nm) {i : Fin 4} {v : Value} (hd : decode code pc = .ok (.aload_n i, 1)) (hl : L[i.val]? = some (.val v)) (hv : v.isRef = true) (w : W K l R n0 P h k n (pc + 1) L (v :: S)) : W K l R n0 P h k n pc L (S) := by
  obtain ⟨p, e, s, m, args, below, meth, c⟩ := K
  obtain ⟨hx, hZ, hown, hby, -⟩ := ok
  intro T locs X eT N
  obtain ⟨s₂, o, st, r⟩ := w T locs X eT N
  exact ⟨s₂, o, XS.aloadN X.here hx rfl (hb hby hd) hl hv st, r⟩
theorem w_aload (ok : Ok K Z n0 own code maxL ret nm) {i : Nat} {v : Value} (hd : decode code pc = .ok (.aload i, 2)) (hl : L[i]? = some (.val v)) (hv : v.isRef = true) (w : W K l R n0 P h k n (pc + 2) L (v :: S)) : W K l R n0 P h k n pc L (S) := by
  obtain ⟨p, e, s, m, args, below, meth, c⟩ := K
  obtain ⟨hx, hZ, hown, hby, -⟩ := ok
  intro T locs X eT N
  obtain ⟨s₂, o, st, r⟩ := w T locs X eT N
  exact ⟨s₂, o, XS.aload X.here hx rfl (hb hby hd) hl hv st, r⟩
theorem w_astoreN (ok : Ok K Z n0 own code maxL ret nm) {i : Fin 4} {v : Value} {L' : Array Slot} (hd : decode code pc = .ok (.astore_n i, 1)) (hv : v.isRef = true) (hl : storeLocals L i.val v = some L') (w : W K l R n0 P h k n (pc + 1) L' (S)) : W K l R n0 P h k n pc L (v :: S) := by
  obtain ⟨p, e, s, m, args, below, meth, c⟩ := K
  obtain ⟨hx, hZ, hown, hby, -⟩ := ok
  intro T locs X eT N
  obtain ⟨s₂, o, st, r⟩ := w T locs X eT N
  exact ⟨s₂, o, XS.astoreN X.here hx rfl (hb hby hd) rfl hv hl st, r⟩
theorem w_astore (ok : Ok K Z n0 own code maxL ret nm) {i : Nat} {v : Value} {L' : Array Slot} (hd : decode code pc = .ok (.astore i, 2)) (hv : v.isRef = true) (hl : storeLocals L i v = some L') (w : W K l R n0 P h k n (pc + 2) L' (S)) : W K l R n0 P h k n pc L (v :: S) := by
  obtain ⟨p, e, s, m, args, below, meth, c⟩ := K
  obtain ⟨hx, hZ, hown, hby, -⟩ := ok
  intro T locs X eT N
  obtain ⟨s₂, o, st, r⟩ := w T locs X eT N
  exact ⟨s₂, o, XS.astore X.here hx rfl (hb hby hd) rfl hv hl st, r⟩
theorem w_iconst (ok : Ok K Z n0 own code maxL ret nm) {i : Int} {v : Int32} (hd : decode code pc = .ok (.iconst i, 1)) (hv : Int32.ofInt i = v) (w : W K l R n0 P h k n (pc + 1) L (.int v :: S)) : W K l R n0 P h k n pc L (S) := by
  obtain ⟨p, e, s, m, args, below, meth, c⟩ := K
  obtain ⟨hx, hZ, hown, hby, -⟩ := ok
  intro T locs X eT N
  obtain ⟨s₂, o, st, r⟩ := w T locs X eT N
  exact ⟨s₂, o, XS.iconst X.here hx rfl (hb hby hd) (hv ▸ st), r⟩
theorem w_bipush (ok : Ok K Z n0 own code maxL ret nm) {i : Int} {v : Int32} (hd : decode code pc = .ok (.bipush i, 2)) (hv : (Int8.ofInt i).toInt32 = v) (w : W K l R n0 P h k n (pc + 2) L (.int v :: S)) : W K l R n0 P h k n pc L (S) := by
  obtain ⟨p, e, s, m, args, below, meth, c⟩ := K
  obtain ⟨hx, hZ, hown, hby, -⟩ := ok
  intro T locs X eT N
  obtain ⟨s₂, o, st, r⟩ := w T locs X eT N
  exact ⟨s₂, o, XS.bipush X.here hx rfl (hb hby hd) (hv ▸ st), r⟩
theorem w_sipush (ok : Ok K Z n0 own code maxL ret nm) {i : Int} {v : Int32} (hd : decode code pc = .ok (.sipush i, 3)) (hv : (Int16.ofInt i).toInt32 = v) (w : W K l R n0 P h k n (pc + 3) L (.int v :: S)) : W K l R n0 P h k n pc L (S) := by
  obtain ⟨p, e, s, m, args, below, meth, c⟩ := K
  obtain ⟨hx, hZ, hown, hby, -⟩ := ok
  intro T locs X eT N
  obtain ⟨s₂, o, st, r⟩ := w T locs X eT N
  exact ⟨s₂, o, XS.sipush X.here hx rfl (hb hby hd) (hv ▸ st), r⟩
theorem w_lconst (ok : Ok K Z n0 own code maxL ret nm) {i : Fin 2} {v : Int64} (hd : decode code pc = .ok (.lconst i, 1)) (hv : Int64.ofNat i = v) (w : W K l R n0 P h k n (pc + 1) L (.long v :: S)) : W K l R n0 P h k n pc L (S) := by
  obtain ⟨p, e, s, m, args, below, meth, c⟩ := K
  obtain ⟨hx, hZ, hown, hby, -⟩ := ok
  intro T locs X eT N
  obtain ⟨s₂, o, st, r⟩ := w T locs X eT N
  exact ⟨s₂, o, XS.lconst X.here hx rfl (hb hby hd) (hv ▸ st), r⟩
theorem w_aconstNull (ok : Ok K Z n0 own code maxL ret nm)  (hd : decode code pc = .ok (.aconst_null, 1)) (w : W K l R n0 P h k n (pc + 1) L (.null :: S)) : W K l R n0 P h k n pc L (S) := by
  obtain ⟨p, e, s, m, args, below, meth, c⟩ := K
  obtain ⟨hx, hZ, hown, hby, -⟩ := ok
  intro T locs X eT N
  obtain ⟨s₂, o, st, r⟩ := w T locs X eT N
  exact ⟨s₂, o, XS.aconstNull X.here hx rfl (hb hby hd)  st, r⟩
theorem w_dup (ok : Ok K Z n0 own code maxL ret nm) {v : Value} (hd : decode code pc = .ok (.dup, 1)) (hv : v.category = 1) (w : W K l R n0 P h k n (pc + 1) L (v :: v :: S)) : W K l R n0 P h k n pc L (v :: S) := by
  obtain ⟨p, e, s, m, args, below, meth, c⟩ := K
  obtain ⟨hx, hZ, hown, hby, -⟩ := ok
  intro T locs X eT N
  obtain ⟨s₂, o, st, r⟩ := w T locs X eT N
  exact ⟨s₂, o, XS.dup X.here hx rfl (hb hby hd) rfl hv st, r⟩
theorem w_dupX1 (ok : Ok K Z n0 own code maxL ret nm) {v u : Value} (hd : decode code pc = .ok (.dup_x1, 1)) (hv : v.category = 1) (hu : u.category = 1) (w : W K l R n0 P h k n (pc + 1) L (v :: u :: v :: S)) : W K l R n0 P h k n pc L (v :: u :: S) := by
  obtain ⟨p, e, s, m, args, below, meth, c⟩ := K
  obtain ⟨hx, hZ, hown, hby, -⟩ := ok
  intro T locs X eT N
  obtain ⟨s₂, o, st, r⟩ := w T locs X eT N
  exact ⟨s₂, o, XS.dupX1 X.here hx rfl (hb hby hd) rfl hv hu st, r⟩
theorem w_pop (ok : Ok K Z n0 own code maxL ret nm) {v : Value} (hd : decode code pc = .ok (.pop, 1)) (hv : v.category = 1) (w : W K l R n0 P h k n (pc + 1) L (S)) : W K l R n0 P h k n pc L (v :: S) := by
  obtain ⟨p, e, s, m, args, below, meth, c⟩ := K
  obtain ⟨hx, hZ, hown, hby, -⟩ := ok
  intro T locs X eT N
  obtain ⟨s₂, o, st, r⟩ := w T locs X eT N
  exact ⟨s₂, o, XS.pop X.here hx rfl (hb hby hd) rfl hv st, r⟩
theorem w_dup2 (ok : Ok K Z n0 own code maxL ret nm) {v u : Value} (hd : decode code pc = .ok (.dup2, 1)) (hv : v.category = 1) (hu : u.category = 1) (w : W K l R n0 P h k n (pc + 1) L (v :: u :: v :: u :: S)) : W K l R n0 P h k n pc L (v :: u :: S) := by
  obtain ⟨p, e, s, m, args, below, meth, c⟩ := K
  obtain ⟨hx, hZ, hown, hby, -⟩ := ok
  intro T locs X eT N
  obtain ⟨s₂, o, st, r⟩ := w T locs X eT N
  exact ⟨s₂, o, XT.dup2 X.here hx rfl (hb hby hd) rfl hv hu st, r⟩
theorem w_iinc (ok : Ok K Z n0 own code maxL ret nm) {i : Nat} {c : Int} {v u : Int32} {L' : Array Slot} (hd : decode code pc = .ok (.iinc i c, 3)) (hu : Int32.ofInt c = u) (hl : L[i]? = some (.val (.int v))) (hl' : storeLocals L i (.int (v + u)) = some L') (w : W K l R n0 P h k n (pc + 3) L' (S)) : W K l R n0 P h k n pc L (S) := by
  obtain ⟨p, e, s, m, args, below, meth, c⟩ := K
  obtain ⟨hx, hZ, hown, hby, -⟩ := ok
  intro T locs X eT N
  obtain ⟨s₂, o, st, r⟩ := w T locs X eT N
  exact ⟨s₂, o, XS.iinc X.here hx rfl (hb hby hd) hl (by rw [hu]; exact hl') st, r⟩
theorem w_iadd (ok : Ok K Z n0 own code maxL ret nm) {x y : Int32} (hd : decode code pc = .ok (.iadd, 1)) (w : W K l R n0 P h k n (pc + 1) L (.int (x + y) :: S)) : W K l R n0 P h k n pc L (.int y :: .int x :: S) := by
  obtain ⟨p, e, s, m, args, below, meth, c⟩ := K
  obtain ⟨hx, hZ, hown, hby, -⟩ := ok
  intro T locs X eT N
  obtain ⟨s₂, o, st, r⟩ := w T locs X eT N
  exact ⟨s₂, o, XS.iadd X.here hx rfl (hb hby hd) rfl st, r⟩
theorem w_isub (ok : Ok K Z n0 own code maxL ret nm) {x y : Int32} (hd : decode code pc = .ok (.isub, 1)) (w : W K l R n0 P h k n (pc + 1) L (.int (x - y) :: S)) : W K l R n0 P h k n pc L (.int y :: .int x :: S) := by
  obtain ⟨p, e, s, m, args, below, meth, c⟩ := K
  obtain ⟨hx, hZ, hown, hby, -⟩ := ok
  intro T locs X eT N
  obtain ⟨s₂, o, st, r⟩ := w T locs X eT N
  exact ⟨s₂, o, XS.isub X.here hx rfl (hb hby hd) rfl st, r⟩
theorem w_imul (ok : Ok K Z n0 own code maxL ret nm) {x y : Int32} (hd : decode code pc = .ok (.imul, 1)) (w : W K l R n0 P h k n (pc + 1) L (.int (x * y) :: S)) : W K l R n0 P h k n pc L (.int y :: .int x :: S) := by
  obtain ⟨p, e, s, m, args, below, meth, c⟩ := K
  obtain ⟨hx, hZ, hown, hby, -⟩ := ok
  intro T locs X eT N
  obtain ⟨s₂, o, st, r⟩ := w T locs X eT N
  exact ⟨s₂, o, XS.imul X.here hx rfl (hb hby hd) rfl st, r⟩
theorem w_iand (ok : Ok K Z n0 own code maxL ret nm) {x y : Int32} (hd : decode code pc = .ok (.iand, 1)) (w : W K l R n0 P h k n (pc + 1) L (.int (x &&& y) :: S)) : W K l R n0 P h k n pc L (.int y :: .int x :: S) := by
  obtain ⟨p, e, s, m, args, below, meth, c⟩ := K
  obtain ⟨hx, hZ, hown, hby, -⟩ := ok
  intro T locs X eT N
  obtain ⟨s₂, o, st, r⟩ := w T locs X eT N
  exact ⟨s₂, o, XS.iand X.here hx rfl (hb hby hd) rfl st, r⟩
theorem w_ior (ok : Ok K Z n0 own code maxL ret nm) {x y : Int32} (hd : decode code pc = .ok (.ior, 1)) (w : W K l R n0 P h k n (pc + 1) L (.int (x ||| y) :: S)) : W K l R n0 P h k n pc L (.int y :: .int x :: S) := by
  obtain ⟨p, e, s, m, args, below, meth, c⟩ := K
  obtain ⟨hx, hZ, hown, hby, -⟩ := ok
  intro T locs X eT N
  obtain ⟨s₂, o, st, r⟩ := w T locs X eT N
  exact ⟨s₂, o, XS.ior X.here hx rfl (hb hby hd) rfl st, r⟩
theorem w_ixor (ok : Ok K Z n0 own code maxL ret nm) {x y : Int32} (hd : decode code pc = .ok (.ixor, 1)) (w : W K l R n0 P h k n (pc + 1) L (.int (x ^^^ y) :: S)) : W K l R n0 P h k n pc L (.int y :: .int x :: S) := by
  obtain ⟨p, e, s, m, args, below, meth, c⟩ := K
  obtain ⟨hx, hZ, hown, hby, -⟩ := ok
  intro T locs X eT N
  obtain ⟨s₂, o, st, r⟩ := w T locs X eT N
  exact ⟨s₂, o, XS.ixor X.here hx rfl (hb hby hd) rfl st, r⟩
theorem w_ishl (ok : Ok K Z n0 own code maxL ret nm) {x y : Int32} (hd : decode code pc = .ok (.ishl, 1)) (w : W K l R n0 P h k n (pc + 1) L (.int (x <<< (y &&& 31)) :: S)) : W K l R n0 P h k n pc L (.int y :: .int x :: S) := by
  obtain ⟨p, e, s, m, args, below, meth, c⟩ := K
  obtain ⟨hx, hZ, hown, hby, -⟩ := ok
  intro T locs X eT N
  obtain ⟨s₂, o, st, r⟩ := w T locs X eT N
  exact ⟨s₂, o, XS.ishl X.here hx rfl (hb hby hd) rfl st, r⟩
theorem w_ishr (ok : Ok K Z n0 own code maxL ret nm) {x y : Int32} (hd : decode code pc = .ok (.ishr, 1)) (w : W K l R n0 P h k n (pc + 1) L (.int (x >>> (y &&& 31)) :: S)) : W K l R n0 P h k n pc L (.int y :: .int x :: S) := by
  obtain ⟨p, e, s, m, args, below, meth, c⟩ := K
  obtain ⟨hx, hZ, hown, hby, -⟩ := ok
  intro T locs X eT N
  obtain ⟨s₂, o, st, r⟩ := w T locs X eT N
  exact ⟨s₂, o, XS.ishr X.here hx rfl (hb hby hd) rfl st, r⟩
theorem w_iushr (ok : Ok K Z n0 own code maxL ret nm) {x y : Int32} (hd : decode code pc = .ok (.iushr, 1)) (w : W K l R n0 P h k n (pc + 1) L (.int (XT.ushr x y) :: S)) : W K l R n0 P h k n pc L (.int y :: .int x :: S) := by
  obtain ⟨p, e, s, m, args, below, meth, c⟩ := K
  obtain ⟨hx, hZ, hown, hby, -⟩ := ok
  intro T locs X eT N
  obtain ⟨s₂, o, st, r⟩ := w T locs X eT N
  exact ⟨s₂, o, XS.iushr X.here hx rfl (hb hby hd) rfl st, r⟩
theorem w_ladd (ok : Ok K Z n0 own code maxL ret nm) {x y : Int64} (hd : decode code pc = .ok (.ladd, 1)) (w : W K l R n0 P h k n (pc + 1) L (.long (x + y) :: S)) : W K l R n0 P h k n pc L (.long y :: .long x :: S) := by
  obtain ⟨p, e, s, m, args, below, meth, c⟩ := K
  obtain ⟨hx, hZ, hown, hby, -⟩ := ok
  intro T locs X eT N
  obtain ⟨s₂, o, st, r⟩ := w T locs X eT N
  exact ⟨s₂, o, XS.ladd X.here hx rfl (hb hby hd) rfl st, r⟩
theorem w_lsub (ok : Ok K Z n0 own code maxL ret nm) {x y : Int64} (hd : decode code pc = .ok (.lsub, 1)) (w : W K l R n0 P h k n (pc + 1) L (.long (x - y) :: S)) : W K l R n0 P h k n pc L (.long y :: .long x :: S) := by
  obtain ⟨p, e, s, m, args, below, meth, c⟩ := K
  obtain ⟨hx, hZ, hown, hby, -⟩ := ok
  intro T locs X eT N
  obtain ⟨s₂, o, st, r⟩ := w T locs X eT N
  exact ⟨s₂, o, XS.lsub X.here hx rfl (hb hby hd) rfl st, r⟩
theorem w_lmul (ok : Ok K Z n0 own code maxL ret nm) {x y : Int64} (hd : decode code pc = .ok (.lmul, 1)) (w : W K l R n0 P h k n (pc + 1) L (.long (x * y) :: S)) : W K l R n0 P h k n pc L (.long y :: .long x :: S) := by
  obtain ⟨p, e, s, m, args, below, meth, c⟩ := K
  obtain ⟨hx, hZ, hown, hby, -⟩ := ok
  intro T locs X eT N
  obtain ⟨s₂, o, st, r⟩ := w T locs X eT N
  exact ⟨s₂, o, XS.lmul X.here hx rfl (hb hby hd) rfl st, r⟩
theorem w_land (ok : Ok K Z n0 own code maxL ret nm) {x y : Int64} (hd : decode code pc = .ok (.land, 1)) (w : W K l R n0 P h k n (pc + 1) L (.long (x &&& y) :: S)) : W K l R n0 P h k n pc L (.long y :: .long x :: S) := by
  obtain ⟨p, e, s, m, args, below, meth, c⟩ := K
  obtain ⟨hx, hZ, hown, hby, -⟩ := ok
  intro T locs X eT N
  obtain ⟨s₂, o, st, r⟩ := w T locs X eT N
  exact ⟨s₂, o, XS.land X.here hx rfl (hb hby hd) rfl st, r⟩
theorem w_lor (ok : Ok K Z n0 own code maxL ret nm) {x y : Int64} (hd : decode code pc = .ok (.lor, 1)) (w : W K l R n0 P h k n (pc + 1) L (.long (x ||| y) :: S)) : W K l R n0 P h k n pc L (.long y :: .long x :: S) := by
  obtain ⟨p, e, s, m, args, below, meth, c⟩ := K
  obtain ⟨hx, hZ, hown, hby, -⟩ := ok
  intro T locs X eT N
  obtain ⟨s₂, o, st, r⟩ := w T locs X eT N
  exact ⟨s₂, o, XS.lor X.here hx rfl (hb hby hd) rfl st, r⟩
theorem w_lxor (ok : Ok K Z n0 own code maxL ret nm) {x y : Int64} (hd : decode code pc = .ok (.lxor, 1)) (w : W K l R n0 P h k n (pc + 1) L (.long (x ^^^ y) :: S)) : W K l R n0 P h k n pc L (.long y :: .long x :: S) := by
  obtain ⟨p, e, s, m, args, below, meth, c⟩ := K
  obtain ⟨hx, hZ, hown, hby, -⟩ := ok
  intro T locs X eT N
  obtain ⟨s₂, o, st, r⟩ := w T locs X eT N
  exact ⟨s₂, o, XS.lxor X.here hx rfl (hb hby hd) rfl st, r⟩
theorem w_lshl (ok : Ok K Z n0 own code maxL ret nm) {x : Int64} {y : Int32} (hd : decode code pc = .ok (.lshl, 1)) (w : W K l R n0 P h k n (pc + 1) L (.long (x <<< (y &&& 0x3f).toInt64) :: S)) : W K l R n0 P h k n pc L (.int y :: .long x :: S) := by
  obtain ⟨p, e, s, m, args, below, meth, c⟩ := K
  obtain ⟨hx, hZ, hown, hby, -⟩ := ok
  intro T locs X eT N
  obtain ⟨s₂, o, st, r⟩ := w T locs X eT N
  exact ⟨s₂, o, XS.lshl X.here hx rfl (hb hby hd) rfl st, r⟩
theorem w_lshr (ok : Ok K Z n0 own code maxL ret nm) {x : Int64} {y : Int32} (hd : decode code pc = .ok (.lshr, 1)) (w : W K l R n0 P h k n (pc + 1) L (.long (x >>> (y &&& 0x3f).toInt64) :: S)) : W K l R n0 P h k n pc L (.int y :: .long x :: S) := by
  obtain ⟨p, e, s, m, args, below, meth, c⟩ := K
  obtain ⟨hx, hZ, hown, hby, -⟩ := ok
  intro T locs X eT N
  obtain ⟨s₂, o, st, r⟩ := w T locs X eT N
  exact ⟨s₂, o, XS.lshr X.here hx rfl (hb hby hd) rfl st, r⟩
theorem w_lushr (ok : Ok K Z n0 own code maxL ret nm) {x : Int64} {y : Int32} (hd : decode code pc = .ok (.lushr, 1)) (w : W K l R n0 P h k n (pc + 1) L (.long ((x.toUInt64 >>> (y &&& 0x3f).toInt64.toUInt64).toInt64) :: S)) : W K l R n0 P h k n pc L (.int y :: .long x :: S) := by
  obtain ⟨p, e, s, m, args, below, meth, c⟩ := K
  obtain ⟨hx, hZ, hown, hby, -⟩ := ok
  intro T locs X eT N
  obtain ⟨s₂, o, st, r⟩ := w T locs X eT N
  exact ⟨s₂, o, XS.lushr X.here hx rfl (hb hby hd) rfl st, r⟩
theorem w_i2l (ok : Ok K Z n0 own code maxL ret nm) {x : Int32} (hd : decode code pc = .ok (.i2l, 1)) (w : W K l R n0 P h k n (pc + 1) L (.long (x.toInt64) :: S)) : W K l R n0 P h k n pc L (.int x :: S) := by
  obtain ⟨p, e, s, m, args, below, meth, c⟩ := K
  obtain ⟨hx, hZ, hown, hby, -⟩ := ok
  intro T locs X eT N
  obtain ⟨s₂, o, st, r⟩ := w T locs X eT N
  exact ⟨s₂, o, XS.i2l X.here hx rfl (hb hby hd) rfl st, r⟩
theorem w_l2i (ok : Ok K Z n0 own code maxL ret nm) {x : Int64} (hd : decode code pc = .ok (.l2i, 1)) (w : W K l R n0 P h k n (pc + 1) L (.int (x.toInt32) :: S)) : W K l R n0 P h k n pc L (.long x :: S) := by
  obtain ⟨p, e, s, m, args, below, meth, c⟩ := K
  obtain ⟨hx, hZ, hown, hby, -⟩ := ok
  intro T locs X eT N
  obtain ⟨s₂, o, st, r⟩ := w T locs X eT N
  exact ⟨s₂, o, XS.l2i X.here hx rfl (hb hby hd) rfl st, r⟩
theorem w_i2b (ok : Ok K Z n0 own code maxL ret nm) {x : Int32} (hd : decode code pc = .ok (.i2b, 1)) (w : W K l R n0 P h k n (pc + 1) L (.int (x.toInt8.toInt32) :: S)) : W K l R n0 P h k n pc L (.int x :: S) := by
  obtain ⟨p, e, s, m, args, below, meth, c⟩ := K
  obtain ⟨hx, hZ, hown, hby, -⟩ := ok
  intro T locs X eT N
  obtain ⟨s₂, o, st, r⟩ := w T locs X eT N
  exact ⟨s₂, o, XS.i2b X.here hx rfl (hb hby hd) rfl st, r⟩
theorem w_i2c (ok : Ok K Z n0 own code maxL ret nm) {x : Int32} (hd : decode code pc = .ok (.i2c, 1)) (w : W K l R n0 P h k n (pc + 1) L (.int (x.toUInt32.toUInt16.toUInt32.toInt32) :: S)) : W K l R n0 P h k n pc L (.int x :: S) := by
  obtain ⟨p, e, s, m, args, below, meth, c⟩ := K
  obtain ⟨hx, hZ, hown, hby, -⟩ := ok
  intro T locs X eT N
  obtain ⟨s₂, o, st, r⟩ := w T locs X eT N
  exact ⟨s₂, o, XS.i2c X.here hx rfl (hb hby hd) rfl st, r⟩
theorem w_ineg (ok : Ok K Z n0 own code maxL ret nm) {x : Int32} (hd : decode code pc = .ok (.ineg, 1)) (w : W K l R n0 P h k n (pc + 1) L (.int (-x) :: S)) : W K l R n0 P h k n pc L (.int x :: S) := by
  obtain ⟨p, e, s, m, args, below, meth, c⟩ := K
  obtain ⟨hx, hZ, hown, hby, -⟩ := ok
  intro T locs X eT N
  obtain ⟨s₂, o, st, r⟩ := w T locs X eT N
  exact ⟨s₂, o, XS.ineg X.here hx rfl (hb hby hd) rfl st, r⟩
theorem w_idiv (ok : Ok K Z n0 own code maxL ret nm) {x y : Int32} (hd : decode code pc = .ok (.idiv, 1)) (hy : y ≠ 0) (w : W K l R n0 P h k n (pc + 1) L (.int (x / y) :: S)) : W K l R n0 P h k n pc L (.int y :: .int x :: S) := by
  obtain ⟨p, e, s, m, args, below, meth, c⟩ := K
  obtain ⟨hx, hZ, hown, hby, -⟩ := ok
  intro T locs X eT N
  obtain ⟨s₂, o, st, r⟩ := w T locs X eT N
  exact ⟨s₂, o, XS.idiv X.here hx rfl (hb hby hd) rfl hy st, r⟩
theorem w_irem (ok : Ok K Z n0 own code maxL ret nm) {x y : Int32} (hd : decode code pc = .ok (.irem, 1)) (hy : y ≠ 0) (w : W K l R n0 P h k n (pc + 1) L (.int (x % y) :: S)) : W K l R n0 P h k n pc L (.int y :: .int x :: S) := by
  obtain ⟨p, e, s, m, args, below, meth, c⟩ := K
  obtain ⟨hx, hZ, hown, hby, -⟩ := ok
  intro T locs X eT N
  obtain ⟨s₂, o, st, r⟩ := w T locs X eT N
  exact ⟨s₂, o, iremM X hx rfl (hb hby hd) rfl hy st, r⟩
theorem w_ldiv (ok : Ok K Z n0 own code maxL ret nm) {x y : Int64} (hd : decode code pc = .ok (.ldiv, 1)) (hy : y ≠ 0) (w : W K l R n0 P h k n (pc + 1) L (.long (x / y) :: S)) : W K l R n0 P h k n pc L (.long y :: .long x :: S) := by
  obtain ⟨p, e, s, m, args, below, meth, c⟩ := K
  obtain ⟨hx, hZ, hown, hby, -⟩ := ok
  intro T locs X eT N
  obtain ⟨s₂, o, st, r⟩ := w T locs X eT N
  exact ⟨s₂, o, XS.ldiv X.here hx rfl (hb hby hd) rfl hy st, r⟩
theorem w_lrem (ok : Ok K Z n0 own code maxL ret nm) {x y : Int64} (hd : decode code pc = .ok (.lrem, 1)) (hy : y ≠ 0) (w : W K l R n0 P h k n (pc + 1) L (.long (x % y) :: S)) : W K l R n0 P h k n pc L (.long y :: .long x :: S) := by
  obtain ⟨p, e, s, m, args, below, meth, c⟩ := K
  obtain ⟨hx, hZ, hown, hby, -⟩ := ok
  intro T locs X eT N
  obtain ⟨s₂, o, st, r⟩ := w T locs X eT N
  exact ⟨s₂, o, XS.lrem X.here hx rfl (hb hby hd) rfl hy (by rw [lrem_mod]; exact st), r⟩
theorem w_goto (ok : Ok K Z n0 own code maxL ret nm) {o : Int} {pc' : Nat} (hd : decode code pc = .ok (.goto o, 3)) (hp : (pc : Int) + o = (pc' : Int)) (w : W K l R n0 P h k n (pc') L (S)) : W K l R n0 P h k n pc L (S) := by
  obtain ⟨p, e, s, m, args, below, meth, c⟩ := K
  obtain ⟨hx, hZ, hown, hby, -⟩ := ok
  intro T locs X eT N
  obtain ⟨s₂, o, st, r⟩ := w T locs X eT N
  exact ⟨s₂, o, XS.goto X.here hx rfl (pc0 := pc) (pc' := pc') rfl (hb hby hd) (by rw [hp]; exact Int.natCast_nonneg _) (by rw [hp]; rfl) st, r⟩
theorem w_ldcI (ok : Ok K Z n0 own code maxL ret nm) {i : Nat} {v : Int32} (hd : decode code pc = .ok (.ldc i, 2)) (w1 : (Cond.constant own i v).before a0 Z = true) (w : W K l R n0 P h k n (pc + 2) L (.int v :: S)) : W K l R n0 P h k n pc L (S) := by
  obtain ⟨p, e, s, m, args, below, meth, c⟩ := K
  obtain ⟨hx, hZ, hown, hby, -⟩ := ok
  intro T locs X eT N
  obtain ⟨s₂, o, st, r⟩ := w T locs X eT N
  exact ⟨s₂, o, X.ldcInt hx hown (mvT hZ w1) (g := mkF m pc L S) rfl (hb hby hd) _ st, r⟩
theorem w_ldc2J (ok : Ok K Z n0 own code maxL ret nm) {i : Nat} {v : Int64} (hd : decode code pc = .ok (.ldc2_w i, 3)) (w1 : (Cond.constantLong own i v).before a0 Z = true) (w : W K l R n0 P h k n (pc + 3) L (.long v :: S)) : W K l R n0 P h k n pc L (S) := by
  obtain ⟨p, e, s, m, args, below, meth, c⟩ := K
  obtain ⟨hx, hZ, hown, hby, -⟩ := ok
  intro T locs X eT N
  obtain ⟨s₂, o, st, r⟩ := w T locs X eT N
  exact ⟨s₂, o, X.ldc2Long hx hown (mvT hZ w1) (g := mkF m pc L S) rfl (hb hby hd) _ st, r⟩
theorem w_icmp_eq (ok : Ok K Z n0 own code maxL ret nm) {x y : Int32} {o : Int} {pc' : Nat} (hd : decode code pc = .ok (.if_icmp .eq o, 3)) (hp : (pc : Int) + o = (pc' : Int)) (wy : x = y → W K l R n0 P h k n pc' L S) (wn : ¬ x = y → W K l R n0 P h k n (pc + 3) L S) : W K l R n0 P h k n pc L (.int y :: .int x :: S) := by
  obtain ⟨p, e, s, m, args, below, meth, c⟩ := K
  obtain ⟨hx, hZ, hown, hby, -⟩ := ok
  intro T locs X eT N
  by_cases hc : x = y
  · obtain ⟨s₂, o, st, r⟩ := wy hc T locs X eT N
    exact ⟨s₂, o, XS.icmpYes X.here hx rfl (pc0 := pc) (pc' := pc') rfl (hb hby hd) rfl (teq hc).1 (by rw [hp]; exact Int.natCast_nonneg _) (by rw [hp]; rfl) st, r⟩
  · obtain ⟨s₂, o, st, r⟩ := wn hc T locs X eT N
    exact ⟨s₂, o, XS.icmpNo X.here hx rfl (hb hby hd) rfl (feq hc).1 st, r⟩
theorem w_if_eq (ok : Ok K Z n0 own code maxL ret nm) {x : Int32} {o : Int} {pc' : Nat} (hd : decode code pc = .ok (.ifCond .eq o, 3)) (hp : (pc : Int) + o = (pc' : Int)) (wy : x = 0 → W K l R n0 P h k n pc' L S) (wn : ¬ x = 0 → W K l R n0 P h k n (pc + 3) L S) : W K l R n0 P h k n pc L (.int x :: S) := by
  obtain ⟨p, e, s, m, args, below, meth, c⟩ := K
  obtain ⟨hx, hZ, hown, hby, -⟩ := ok
  intro T locs X eT N
  by_cases hc : x = 0
  · obtain ⟨s₂, o, st, r⟩ := wy hc T locs X eT N
    exact ⟨s₂, o, XS.ifYes X.here hx rfl (pc0 := pc) (pc' := pc') rfl (hb hby hd) rfl ((if0 _ _).trans (teq hc).1) (by rw [hp]; exact Int.natCast_nonneg _) (by rw [hp]; rfl) st, r⟩
  · obtain ⟨s₂, o, st, r⟩ := wn hc T locs X eT N
    exact ⟨s₂, o, XS.ifNo X.here hx rfl (hb hby hd) rfl ((if0 _ _).trans (feq hc).1) st, r⟩
theorem w_icmp_ne (ok : Ok K Z n0 own code maxL ret nm) {x y : Int32} {o : Int} {pc' : Nat} (hd : decode code pc = .ok (.if_icmp .ne o, 3)) (hp : (pc : Int) + o = (pc' : Int)) (wy : ¬ x = y → W K l R n0 P h k n pc' L S) (wn : x = y → W K l R n0 P h k n (pc + 3) L S) : W K l R n0 P h k n pc L (.int y :: .int x :: S) := by
  obtain ⟨p, e, s, m, args, below, meth, c⟩ := K
  obtain ⟨hx, hZ, hown, hby, -⟩ := ok
  intro T locs X eT N
  by_cases hc : x = y
  · obtain ⟨s₂, o, st, r⟩ := wn hc T locs X eT N
    exact ⟨s₂, o, XS.icmpNo X.here hx rfl (hb hby hd) rfl (teq hc).2 st, r⟩
  · obtain ⟨s₂, o, st, r⟩ := wy hc T locs X eT N
    exact ⟨s₂, o, XS.icmpYes X.here hx rfl (pc0 := pc) (pc' := pc') rfl (hb hby hd) rfl (feq hc).2 (by rw [hp]; exact Int.natCast_nonneg _) (by rw [hp]; rfl) st, r⟩
theorem w_if_ne (ok : Ok K Z n0 own code maxL ret nm) {x : Int32} {o : Int} {pc' : Nat} (hd : decode code pc = .ok (.ifCond .ne o, 3)) (hp : (pc : Int) + o = (pc' : Int)) (wy : ¬ x = 0 → W K l R n0 P h k n pc' L S) (wn : x = 0 → W K l R n0 P h k n (pc + 3) L S) : W K l R n0 P h k n pc L (.int x :: S) := by
  obtain ⟨p, e, s, m, args, below, meth, c⟩ := K
  obtain ⟨hx, hZ, hown, hby, -⟩ := ok
  intro T locs X eT N
  by_cases hc : x = 0
  · obtain ⟨s₂, o, st, r⟩ := wn hc T locs X eT N
    exact ⟨s₂, o, XS.ifNo X.here hx rfl (hb hby hd) rfl ((if0 _ _).trans (teq hc).2) st, r⟩
  · obtain ⟨s₂, o, st, r⟩ := wy hc T locs X eT N
    exact ⟨s₂, o, XS.ifYes X.here hx rfl (pc0 := pc) (pc' := pc') rfl (hb hby hd) rfl ((if0 _ _).trans (feq hc).2) (by rw [hp]; exact Int.natCast_nonneg _) (by rw [hp]; rfl) st, r⟩
theorem w_icmp_lt (ok : Ok K Z n0 own code maxL ret nm) {x y : Int32} {o : Int} {pc' : Nat} (hd : decode code pc = .ok (.if_icmp .lt o, 3)) (hp : (pc : Int) + o = (pc' : Int)) (wy : x < y → W K l R n0 P h k n pc' L S) (wn : ¬ x < y → W K l R n0 P h k n (pc + 3) L S) : W K l R n0 P h k n pc L (.int y :: .int x :: S) := by
  obtain ⟨p, e, s, m, args, below, meth, c⟩ := K
  obtain ⟨hx, hZ, hown, hby, -⟩ := ok
  intro T locs X eT N
  by_cases hc : x < y
  · obtain ⟨s₂, o, st, r⟩ := wy hc T locs X eT N
    exact ⟨s₂, o, XS.icmpYes X.here hx rfl (pc0 := pc) (pc' := pc') rfl (hb hby hd) rfl (tlt hc).1 (by rw [hp]; exact Int.natCast_nonneg _) (by rw [hp]; rfl) st, r⟩
  · obtain ⟨s₂, o, st, r⟩ := wn hc T locs X eT N
    exact ⟨s₂, o, XS.icmpNo X.here hx rfl (hb hby hd) rfl (flt hc).1 st, r⟩
theorem w_if_lt (ok : Ok K Z n0 own code maxL ret nm) {x : Int32} {o : Int} {pc' : Nat} (hd : decode code pc = .ok (.ifCond .lt o, 3)) (hp : (pc : Int) + o = (pc' : Int)) (wy : x < 0 → W K l R n0 P h k n pc' L S) (wn : ¬ x < 0 → W K l R n0 P h k n (pc + 3) L S) : W K l R n0 P h k n pc L (.int x :: S) := by
  obtain ⟨p, e, s, m, args, below, meth, c⟩ := K
  obtain ⟨hx, hZ, hown, hby, -⟩ := ok
  intro T locs X eT N
  by_cases hc : x < 0
  · obtain ⟨s₂, o, st, r⟩ := wy hc T locs X eT N
    exact ⟨s₂, o, XS.ifYes X.here hx rfl (pc0 := pc) (pc' := pc') rfl (hb hby hd) rfl ((if0 _ _).trans (tlt hc).1) (by rw [hp]; exact Int.natCast_nonneg _) (by rw [hp]; rfl) st, r⟩
  · obtain ⟨s₂, o, st, r⟩ := wn hc T locs X eT N
    exact ⟨s₂, o, XS.ifNo X.here hx rfl (hb hby hd) rfl ((if0 _ _).trans (flt hc).1) st, r⟩
theorem w_icmp_ge (ok : Ok K Z n0 own code maxL ret nm) {x y : Int32} {o : Int} {pc' : Nat} (hd : decode code pc = .ok (.if_icmp .ge o, 3)) (hp : (pc : Int) + o = (pc' : Int)) (wy : ¬ x < y → W K l R n0 P h k n pc' L S) (wn : x < y → W K l R n0 P h k n (pc + 3) L S) : W K l R n0 P h k n pc L (.int y :: .int x :: S) := by
  obtain ⟨p, e, s, m, args, below, meth, c⟩ := K
  obtain ⟨hx, hZ, hown, hby, -⟩ := ok
  intro T locs X eT N
  by_cases hc : x < y
  · obtain ⟨s₂, o, st, r⟩ := wn hc T locs X eT N
    exact ⟨s₂, o, XS.icmpNo X.here hx rfl (hb hby hd) rfl (tlt hc).2.1 st, r⟩
  · obtain ⟨s₂, o, st, r⟩ := wy hc T locs X eT N
    exact ⟨s₂, o, XS.icmpYes X.here hx rfl (pc0 := pc) (pc' := pc') rfl (hb hby hd) rfl (flt hc).2.1 (by rw [hp]; exact Int.natCast_nonneg _) (by rw [hp]; rfl) st, r⟩
theorem w_if_ge (ok : Ok K Z n0 own code maxL ret nm) {x : Int32} {o : Int} {pc' : Nat} (hd : decode code pc = .ok (.ifCond .ge o, 3)) (hp : (pc : Int) + o = (pc' : Int)) (wy : ¬ x < 0 → W K l R n0 P h k n pc' L S) (wn : x < 0 → W K l R n0 P h k n (pc + 3) L S) : W K l R n0 P h k n pc L (.int x :: S) := by
  obtain ⟨p, e, s, m, args, below, meth, c⟩ := K
  obtain ⟨hx, hZ, hown, hby, -⟩ := ok
  intro T locs X eT N
  by_cases hc : x < 0
  · obtain ⟨s₂, o, st, r⟩ := wn hc T locs X eT N
    exact ⟨s₂, o, XS.ifNo X.here hx rfl (hb hby hd) rfl ((if0 _ _).trans (tlt hc).2.1) st, r⟩
  · obtain ⟨s₂, o, st, r⟩ := wy hc T locs X eT N
    exact ⟨s₂, o, XS.ifYes X.here hx rfl (pc0 := pc) (pc' := pc') rfl (hb hby hd) rfl ((if0 _ _).trans (flt hc).2.1) (by rw [hp]; exact Int.natCast_nonneg _) (by rw [hp]; rfl) st, r⟩
theorem w_icmp_gt (ok : Ok K Z n0 own code maxL ret nm) {x y : Int32} {o : Int} {pc' : Nat} (hd : decode code pc = .ok (.if_icmp .gt o, 3)) (hp : (pc : Int) + o = (pc' : Int)) (wy : y < x → W K l R n0 P h k n pc' L S) (wn : ¬ y < x → W K l R n0 P h k n (pc + 3) L S) : W K l R n0 P h k n pc L (.int y :: .int x :: S) := by
  obtain ⟨p, e, s, m, args, below, meth, c⟩ := K
  obtain ⟨hx, hZ, hown, hby, -⟩ := ok
  intro T locs X eT N
  by_cases hc : y < x
  · obtain ⟨s₂, o, st, r⟩ := wy hc T locs X eT N
    exact ⟨s₂, o, XS.icmpYes X.here hx rfl (pc0 := pc) (pc' := pc') rfl (hb hby hd) rfl (tlt hc).2.2.1 (by rw [hp]; exact Int.natCast_nonneg _) (by rw [hp]; rfl) st, r⟩
  · obtain ⟨s₂, o, st, r⟩ := wn hc T locs X eT N
    exact ⟨s₂, o, XS.icmpNo X.here hx rfl (hb hby hd) rfl (flt hc).2.2.1 st, r⟩
theorem w_if_gt (ok : Ok K Z n0 own code maxL ret nm) {x : Int32} {o : Int} {pc' : Nat} (hd : decode code pc = .ok (.ifCond .gt o, 3)) (hp : (pc : Int) + o = (pc' : Int)) (wy : 0 < x → W K l R n0 P h k n pc' L S) (wn : ¬ 0 < x → W K l R n0 P h k n (pc + 3) L S) : W K l R n0 P h k n pc L (.int x :: S) := by
  obtain ⟨p, e, s, m, args, below, meth, c⟩ := K
  obtain ⟨hx, hZ, hown, hby, -⟩ := ok
  intro T locs X eT N
  by_cases hc : 0 < x
  · obtain ⟨s₂, o, st, r⟩ := wy hc T locs X eT N
    exact ⟨s₂, o, XS.ifYes X.here hx rfl (pc0 := pc) (pc' := pc') rfl (hb hby hd) rfl ((if0 _ _).trans (tlt hc).2.2.1) (by rw [hp]; exact Int.natCast_nonneg _) (by rw [hp]; rfl) st, r⟩
  · obtain ⟨s₂, o, st, r⟩ := wn hc T locs X eT N
    exact ⟨s₂, o, XS.ifNo X.here hx rfl (hb hby hd) rfl ((if0 _ _).trans (flt hc).2.2.1) st, r⟩
theorem w_icmp_le (ok : Ok K Z n0 own code maxL ret nm) {x y : Int32} {o : Int} {pc' : Nat} (hd : decode code pc = .ok (.if_icmp .le o, 3)) (hp : (pc : Int) + o = (pc' : Int)) (wy : ¬ y < x → W K l R n0 P h k n pc' L S) (wn : y < x → W K l R n0 P h k n (pc + 3) L S) : W K l R n0 P h k n pc L (.int y :: .int x :: S) := by
  obtain ⟨p, e, s, m, args, below, meth, c⟩ := K
  obtain ⟨hx, hZ, hown, hby, -⟩ := ok
  intro T locs X eT N
  by_cases hc : y < x
  · obtain ⟨s₂, o, st, r⟩ := wn hc T locs X eT N
    exact ⟨s₂, o, XS.icmpNo X.here hx rfl (hb hby hd) rfl (tlt hc).2.2.2 st, r⟩
  · obtain ⟨s₂, o, st, r⟩ := wy hc T locs X eT N
    exact ⟨s₂, o, XS.icmpYes X.here hx rfl (pc0 := pc) (pc' := pc') rfl (hb hby hd) rfl (flt hc).2.2.2 (by rw [hp]; exact Int.natCast_nonneg _) (by rw [hp]; rfl) st, r⟩
theorem w_if_le (ok : Ok K Z n0 own code maxL ret nm) {x : Int32} {o : Int} {pc' : Nat} (hd : decode code pc = .ok (.ifCond .le o, 3)) (hp : (pc : Int) + o = (pc' : Int)) (wy : ¬ 0 < x → W K l R n0 P h k n pc' L S) (wn : 0 < x → W K l R n0 P h k n (pc + 3) L S) : W K l R n0 P h k n pc L (.int x :: S) := by
  obtain ⟨p, e, s, m, args, below, meth, c⟩ := K
  obtain ⟨hx, hZ, hown, hby, -⟩ := ok
  intro T locs X eT N
  by_cases hc : 0 < x
  · obtain ⟨s₂, o, st, r⟩ := wn hc T locs X eT N
    exact ⟨s₂, o, XS.ifNo X.here hx rfl (hb hby hd) rfl ((if0 _ _).trans (tlt hc).2.2.2) st, r⟩
  · obtain ⟨s₂, o, st, r⟩ := wy hc T locs X eT N
    exact ⟨s₂, o, XS.ifYes X.here hx rfl (pc0 := pc) (pc' := pc') rfl (hb hby hd) rfl ((if0 _ _).trans (flt hc).2.2.2) (by rw [hp]; exact Int.natCast_nonneg _) (by rw [hp]; rfl) st, r⟩
theorem w_lcmp (ok : Ok K Z n0 own code maxL ret nm) {x y : Int64} (hd : decode code pc = .ok (.lcmp, 1)) (w : W K l R n0 P h k n (pc + 1) L (.int (lcmpW x y) :: S)) : W K l R n0 P h k n pc L (.long y :: .long x :: S) := by
  obtain ⟨p, e, s, m, args, below, meth, c⟩ := K
  obtain ⟨hx, hZ, hown, hby, -⟩ := ok
  intro T locs X eT N
  obtain ⟨s₂, o, st, r⟩ := w T locs X eT N
  exact ⟨s₂, o, XS.lcmp X.here hx rfl (hb hby hd) rfl st, r⟩
theorem w_lcmp_eq (ok : Ok K Z n0 own code maxL ret nm) {x y : Int64} {o : Int} {pc' : Nat} (hd : decode code pc = .ok (.lcmp, 1)) (hd2 : decode code (pc + 1) = .ok (.ifCond .eq o, 3)) (hp : ((pc + 1 : Nat) : Int) + o = (pc' : Int)) (wy : x = y → W K l R n0 P h k n pc' L S) (wn : ¬ x = y → W K l R n0 P h k n (pc + 4) L S) : W K l R n0 P h k n pc L (.long y :: .long x :: S) :=
  w_lcmp ok hd (w_if_eq ok hd2 hp (fun hc => wy ((lw_eq x y).mp hc)) (fun hc => wn (fun q => hc ((lw_eq x y).mpr q))))
theorem w_lcmp_ne (ok : Ok K Z n0 own code maxL ret nm) {x y : Int64} {o : Int} {pc' : Nat} (hd : decode code pc = .ok (.lcmp, 1)) (hd2 : decode code (pc + 1) = .ok (.ifCond .ne o, 3)) (hp : ((pc + 1 : Nat) : Int) + o = (pc' : Int)) (wy : ¬ x = y → W K l R n0 P h k n pc' L S) (wn : x = y → W K l R n0 P h k n (pc + 4) L S) : W K l R n0 P h k n pc L (.long y :: .long x :: S) :=
  w_lcmp ok hd (w_if_ne ok hd2 hp (fun hc => wy (fun q => hc ((lw_eq x y).mpr q))) (fun hc => wn ((lw_eq x y).mp hc)))
theorem w_lcmp_lt (ok : Ok K Z n0 own code maxL ret nm) {x y : Int64} {o : Int} {pc' : Nat} (hd : decode code pc = .ok (.lcmp, 1)) (hd2 : decode code (pc + 1) = .ok (.ifCond .lt o, 3)) (hp : ((pc + 1 : Nat) : Int) + o = (pc' : Int)) (wy : x < y → W K l R n0 P h k n pc' L S) (wn : ¬ x < y → W K l R n0 P h k n (pc + 4) L S) : W K l R n0 P h k n pc L (.long y :: .long x :: S) :=
  w_lcmp ok hd (w_if_lt ok hd2 hp (fun hc => wy ((lw_lt x y).mp hc)) (fun hc => wn (fun q => hc ((lw_lt x y).mpr q))))
theorem w_lcmp_ge (ok : Ok K Z n0 own code maxL ret nm) {x y : Int64} {o : Int} {pc' : Nat} (hd : decode code pc = .ok (.lcmp, 1)) (hd2 : decode code (pc + 1) = .ok (.ifCond .ge o, 3)) (hp : ((pc + 1 : Nat) : Int) + o = (pc' : Int)) (wy : ¬ x < y → W K l R n0 P h k n pc' L S) (wn : x < y → W K l R n0 P h k n (pc + 4) L S) : W K l R n0 P h k n pc L (.long y :: .long x :: S) :=
  w_lcmp ok hd (w_if_ge ok hd2 hp (fun hc => wy (fun q => hc ((lw_lt x y).mpr q))) (fun hc => wn ((lw_lt x y).mp hc)))
theorem w_lcmp_gt (ok : Ok K Z n0 own code maxL ret nm) {x y : Int64} {o : Int} {pc' : Nat} (hd : decode code pc = .ok (.lcmp, 1)) (hd2 : decode code (pc + 1) = .ok (.ifCond .gt o, 3)) (hp : ((pc + 1 : Nat) : Int) + o = (pc' : Int)) (wy : y < x → W K l R n0 P h k n pc' L S) (wn : ¬ y < x → W K l R n0 P h k n (pc + 4) L S) : W K l R n0 P h k n pc L (.long y :: .long x :: S) :=
  w_lcmp ok hd (w_if_gt ok hd2 hp (fun hc => wy ((lw_gt x y).mp hc)) (fun hc => wn (fun q => hc ((lw_gt x y).mpr q))))
theorem w_lcmp_le (ok : Ok K Z n0 own code maxL ret nm) {x y : Int64} {o : Int} {pc' : Nat} (hd : decode code pc = .ok (.lcmp, 1)) (hd2 : decode code (pc + 1) = .ok (.ifCond .le o, 3)) (hp : ((pc + 1 : Nat) : Int) + o = (pc' : Int)) (wy : ¬ y < x → W K l R n0 P h k n pc' L S) (wn : y < x → W K l R n0 P h k n (pc + 4) L S) : W K l R n0 P h k n pc L (.long y :: .long x :: S) :=
  w_lcmp ok hd (w_if_le ok hd2 hp (fun hc => wy (fun q => hc ((lw_gt x y).mpr q))) (fun hc => wn ((lw_gt x y).mp hc)))
theorem w_out {t : FieldType} {i : Instr} {w : Value} (ok : Ok K Z n0 own code maxL (some t) nm) (hn : narrow t w = w) (hi : (i = .ireturn ∧ (t = .int ∨ t = .boolean ∨ t = .byte ∨ t = .char ∨ t = .short) ∧ ∃ z, w = .int z) ∨ (i = .lreturn ∧ t = .long ∧ ∃ z, w = .long z) ∨ (i = .dreturn ∧ t = .double ∧ ∃ z, w = .double z) ∨ (i = .freturn ∧ t = .float ∧ ∃ z, w = .float z) ∨ (i = .areturn ∧ t.isReference = true ∧ w.isRef = true))
    (hd : decode code pc = .ok (i, 1)) (hk : k ≤ R.cells) (hs : n ≤ R.slots) (hP : P (some w) h) : W K l R n0 P h k n pc L (w :: S) := by
  obtain ⟨p, e, s, m, args, below, meth, c⟩ := K
  obtain ⟨hx, hZ, hown, hby, hml, hret, hnm, hlk, hn0⟩ := ok
  intro T locs X eT N
  obtain ⟨fs, hr, hrun, hended, hW, hsame⟩ := X.leave (v := some w) (fun q => by rw [hret] at q; cases q)
  exact ⟨_, _, retOut X hx hret hn hi (hb hby hd) hr, hrun, hended, _, _, rfl, ⟨by show P (some w) T.heap; rw [eT]; exact hP, N⟩, ⟨_, rfl⟩, hW, hsame.mono hk hs⟩
theorem w_iret {z : Int32} (ok : Ok K Z n0 own code maxL (some .int) nm) (hd : decode code pc = .ok (.ireturn, 1)) (hk : k ≤ R.cells) (hs : n ≤ R.slots) (hP : P (some (.int z)) h) : W K l R n0 P h k n pc L (.int z :: S) :=
  w_out ok rfl (Or.inl ⟨rfl, by simp, z, rfl⟩) hd hk hs hP
theorem w_lret {z : Int64} (ok : Ok K Z n0 own code maxL (some .long) nm) (hd : decode code pc = .ok (.lreturn, 1)) (hk : k ≤ R.cells) (hs : n ≤ R.slots) (hP : P (some (.long z)) h) : W K l R n0 P h k n pc L (.long z :: S) :=
  w_out ok rfl (Or.inr (Or.inl ⟨rfl, rfl, z, rfl⟩)) hd hk hs hP
theorem w_aret {w : Value} {t : FieldType} (ok : Ok K Z n0 own code maxL (some t) nm) (ht : t.isReference = true) (hw : w.isRef = true) (hd : decode code pc = .ok (.areturn, 1)) (hk : k ≤ R.cells) (hs : n ≤ R.slots) (hP : P (some w) h) : W K l R n0 P h k n pc L (w :: S) :=
  w_out ok (by rcases ref_cases hw with rfl | ⟨_, rfl⟩ <;> cases t <;> first | rfl | cases ht) (Or.inr (Or.inr (Or.inr (Or.inr ⟨rfl, ht, hw⟩)))) hd hk hs hP
theorem w_bret {z : Int32} {t : FieldType} (ok : Ok K Z n0 own code maxL (some t) nm) (ht : t = .boolean ∨ t = .byte ∨ t = .char ∨ t = .short) (hd : decode code pc = .ok (.ireturn, 1)) (hk : k ≤ R.cells) (hs : n ≤ R.slots) (hP : P (some (.int (nar t z))) h) : W K l R n0 P h k n pc L (.int z :: S) := by
  obtain ⟨p, e, s, m, args, below, meth, c⟩ := K
  obtain ⟨hx, hZ, hown, hby, hml, hret, hnm, hlk, hn0⟩ := ok
  intro T locs X eT N
  obtain ⟨fs, hr, hrun, hended, hW, hsame⟩ := X.leave (v := some (.int (nar t z))) (fun q => by rw [hret] at q; cases q)
  exact ⟨_, _, retN X hx hret ht (hb hby hd) hr, hrun, hended, _, _, rfl, ⟨by show P (some (.int (nar t z))) T.heap; rw [eT]; exact hP, N⟩, ⟨_, rfl⟩, hW, hsame.mono hk hs⟩
theorem w_ret (ok : Ok K Z n0 own code maxL none nm) (hd : decode code pc = .ok (.return_, 1)) (hk : k ≤ R.cells) (hs : n ≤ R.slots) (hP : P none h) : W K l R n0 P h k n pc L [] := by
  obtain ⟨p, e, s, m, args, below, meth, c⟩ := K
  obtain ⟨hx, hZ, hown, hby, hml, hret, hnm, hlk, hn0⟩ := ok
  intro T locs X eT N
  obtain ⟨fs, hr, hrun, hended, hW, hsame⟩ := X.leave (v := none) (fun _ => rfl)
  exact ⟨_, _, X.returnOut hx hret (hb hby hd) hr, hrun, hended, _, _, rfl, ⟨by show P none T.heap; rw [eT]; exact hP, N⟩, ⟨_, rfl⟩, hW, hsame.mono hk hs⟩
abbrev notHandle (y : MethodName) : Prop := y.cls ≠ "java/lang/invoke/MethodHandle" ∧ y.cls ≠ "java/lang/invoke/VarHandle"
theorem w_callS (ok : Ok K Z n0 own code maxL ret nm) {index : Nat} {y : MethodName} {bytes : ByteArray} {mL : Nat} {rt : Option FieldType} {rm : Room} {argsL rest : List Value} {Q : Option Value → Heap → Prop} {ps : List FieldType} {r : Option FieldType}
    (hd : decode code pc = .ok (.invokestatic index, 3)) (w1 : (Cond.methodLink own index y).before a0 Z = true) (w2 : (Cond.static y).before a0 Z = true) (w3 : (Cond.initialized y.cls).before a0 Z = true) (w4 : (Cond.code y bytes mL rt).before a0 Z = true) (hy : notHandle y)
    (pd : parseMethodDescriptor y.desc = some ⟨ps, r⟩) (hlen : argsL.length = ps.length) (hL : L.size = maxL) (hf : rm.frames + 1 ≤ R.frames) (hl : (rest.map fun v => v.category).sum + (mL + 11) + rm.locals ≤ R.locals) (hc : k + rm.cells ≤ R.cells) (hs : n + rm.slots ≤ R.slots)
    (hM : Old Z n0 h → Met l Z n0 y bytes mL rt [] rm argsL.toArray h Q) (w : ∀ v h', Q v h' → W K l R n0 P h' (k + rm.cells) (n + rm.slots) (pc + 3) L (v.toList ++ rest)) : W K l R n0 P h k n pc L (argsL.reverse ++ rest) := by
  obtain ⟨p, e, s, m, args, below, meth, c⟩ := K
  obtain ⟨hx, hZ, hown, hby, hml, hret, hnm, hlk, hn0⟩ := ok
  intro T locs X eT N
  have hM := hM (by rw [← eT]; exact old_now hn0 X N)
  obtain ⟨v, _, ⟨T1, L1, k1, n1⟩, -, X1, ⟨Lc, ⟨hQ, N1⟩, l1, y1, z1⟩, st⟩ := Jvm.LawKit.callS X hx (y := y) hown (mvT hZ w1) (mvT hZ w2) (mvT hZ w3) (mvT hZ w4) hy (backOf (W := (rest.map fun v => v.category).sum) (Q := fun v h L => Q v h ∧ Fr n0 L) hM hZ w4 w3 hf hl) (g := mkF m pc L (argsL.reverse ++ rest)) rfl (hL.trans hml.symm) (argsL := argsL) (rest := rest) (lenOf pd hlen) rfl (by show 2 * 0 + _ ≤ _; omega) (hb hby hd) (fun _ _ => ⟨rfl, eT, hc, hs⟩)
  dsimp only [Pt.U, Pt.locs, Pt.cells, Pt.slots] at X1 l1 y1 z1 st hQ
  subst l1 y1 z1
  obtain ⟨s₂, o, st2, r2⟩ := w v _ hQ T1 _ X1 rfl (Fr.app N N1)
  exact ⟨s₂, o, st _ st2, r2⟩
theorem pa_z {N : Nat} (q : N < 2 ^ 31) : ∃ z : Int32, N = z.toNatClampNeg ∧ ¬ z < 0 := by
  have e : (Int32.ofNat N).toInt = N := Int32.toInt_ofNat_of_lt q
  refine ⟨Int32.ofNat N, ?_, ?_⟩
  · simp [Int32.toNatClampNeg, e]
  · rw [Int32.lt_iff_toInt_lt, e]; simp
def PA (ty : FieldType) (Z : State) (h : Heap) (a : Addr) (vs : List Value) : Prop := ∃ c : Cell, Arr Z h a c ty ∧ vs.length < 2 ^ 31 ∧ c.slots = vs.toArray ∧ ∀ v ∈ vs, fits ty v = true
theorem pa_in {c : Cell} {vs : List Value} {j : Int32} (q : c.slots = vs.toArray) (h0 : ¬ j < 0) (hj : j.toNatClampNeg < vs.length) : ¬ (j < 0 ∨ c.slots.size ≤ j.toNatClampNeg) := by
  rw [q]; rintro (y | y)
  · exact h0 y
  · simp at y; omega
section PAs
variable {ty : FieldType} {h' : Heap} {a b : Addr} {vs : List Value} {v : Value} {sl : Nat} {ws : List Addr}
theorem PA.lt (A : PA ty Z h a vs) : a < h.size := by obtain ⟨c, A, -⟩ := A; exact A.lt
theorem PA.len (A : PA ty Z h a vs) : vs.length < 2 ^ 31 := by obtain ⟨c, A, q, -⟩ := A; exact q
theorem PA.ext (A : PA ty Z h a vs) (E : Ext h h') : PA ty Z h' a vs := by obtain ⟨c, A, r⟩ := A; exact ⟨c, A.ext E, r⟩
theorem PA.other (A : PA ty Z h b vs) (W1 : Wr h h' a sl v) (ne : b ≠ a) : PA ty Z h' b vs := by obtain ⟨c, A, r⟩ := A; exact ⟨c, A.other W1 ne, r⟩
theorem PA.keep (A : PA ty Z h a vs) (K1 : Keep h h' ws) (q : a ∉ ws) : PA ty Z h' a vs := by obtain ⟨c, A, r⟩ := A; exact ⟨c, ⟨K1.2.1 a c A.1 q, A.2⟩, r⟩
theorem PA.set (A : PA ty Z h a vs) (W1 : Wr h h' a sl v) (hv : fits ty v = true) : PA ty Z h' a (vs.set sl v) := by
  obtain ⟨c, A, hl, hs, hf⟩ := A
  refine ⟨c.setSlot sl v, A.same W1, by rw [List.length_set]; exact hl, ?_, ?_⟩
  · show c.slots.setIfInBounds sl v = _
    rw [hs]; simp
  · intro u hu
    rcases List.mem_or_eq_of_mem_set hu with q | rfl
    · exact hf _ q
    · exact hv
theorem PA.arv (A : PA ty Z h a vs) {z : Int32} (hz : vs.length = z.toNatClampNeg) (hz0 : ¬ z < 0) (d : Value) : ∃ k, Arv Z h a k ty z vs d := by
  obtain ⟨c, A, hl, hs, hf⟩ := A
  refine ⟨c.cls, c, A, rfl, by rw [hs]; simpa using hz, hz0, fun i hi => ?_, fun i hi => ?_⟩
  · rw [hs] at hi ⊢
    simp at hi
    simp [List.getD_eq_getElem?_getD, List.getElem?_eq_getElem hi]
  · rw [hs] at hi
    simp at hi
    rw [List.getD_eq_getElem?_getD, List.getElem?_eq_getElem hi]
    exact hf _ (List.getElem_mem hi)
theorem PA.of_arv {k : ClassId} {z : Int32} {d : Value} (B : Arv Z h a k ty z vs d) (hl : vs.length = z.toNatClampNeg) : PA ty Z h a vs := by
  obtain ⟨c, A, -, S1, N1, H, G⟩ := B
  have e : c.slots = vs.toArray := by
    apply Array.ext_getElem?
    intro i
    by_cases q : i < c.slots.size
    · rw [H i q]
      have q2 : i < vs.length := by omega
      simp [List.getD_eq_getElem?_getD, List.getElem?_eq_getElem q2]
    · rw [Array.getElem?_eq_none (by omega)]
      simp; omega
  refine ⟨c, A, by have := (back32 N1).2; omega, e, fun v hv => ?_⟩
  obtain ⟨i, hi, rfl⟩ := List.getElem_of_mem hv
  have q := G i (by omega)
  rw [List.getD_eq_getElem?_getD, List.getElem?_eq_getElem hi] at q
  exact q
end PAs
theorem w_arraylength (ok : Ok K Z n0 own code maxL ret nm) {ty : FieldType} {a : Addr} {vs : List Value} {z : Int32} (hd : decode code pc = .ok (.arraylength, 1)) (A : PA ty Z h a vs) (hz : vs.length = z.toNatClampNeg) (hz0 : ¬ z < 0) (w : W K l R n0 P h k n (pc + 1) L (.int z :: S)) : W K l R n0 P h k n pc L (.ref a :: S) := by
  obtain ⟨p, e, s, m, args, below, meth, c⟩ := K
  obtain ⟨hx, hZ, hown, hby, -⟩ := ok
  intro T locs X eT N
  obtain ⟨s₂, o, st, r⟩ := w T locs X eT N
  obtain ⟨cl, A, q1, q2, q3⟩ := A
  have e1 : cl.slots.size.toInt32 = z := len_of (by rw [q2]; simpa using hz) hz0
  exact ⟨s₂, o, X.arraylength hx (by rw [eT]; exact A.1) (State.isArrayOf_alike hZ.alike A.2.1) (g := mkF m pc L (.ref a :: S)) rfl rfl (hb hby hd) _ (by rw [e1]; exact st), r⟩
theorem w_newarray (ok : Ok K Z n0 own code maxL ret nm) {aty : ArrayType} {z : Int32} (hd : decode code pc = .ok (.newarray aty, 2)) (w1 : (Cond.arrayClass (newarray.typeOf aty)).before a0 Z = true) (hz : ¬ z < 0) {cap : Nat} (hcap : z.toNatClampNeg ≤ cap) (hb1 : cap * 8 ≤ 536870912) (hc : k + 1 ≤ R.cells) (hl : n + cap ≤ R.slots)
    (w : ∀ h' a, a = h.size → n0 ≤ a → Ext h h' → PA (newarray.typeOf aty) Z h' a (List.replicate z.toNatClampNeg (defaultValue (newarray.typeOf aty))) → W K l R n0 P h' (k + 1) (n + cap) (pc + 2) L (.ref a :: S)) : W K l R n0 P h k n pc L (.int z :: S) := by
  obtain ⟨p, e, s, m, args, below, meth, c⟩ := K
  obtain ⟨hx, hZ, hown, hby, hml, hret, hnm, hlk, hn0⟩ := ok
  intro T locs X eT N
  obtain ⟨T1, h1, cA, X1, e1, E1, A1, st⟩ := newP X hx hZ w1 eT (g := mkF m pc L (.int z :: S)) rfl (hb hby hd) rfl hz hcap hb1 hc hl
  have A2 : PA (newarray.typeOf aty) Z h1 h.size (List.replicate z.toNatClampNeg (defaultValue (newarray.typeOf aty))) := by
    refine ⟨_, A1, by simpa using (back32 hz).2, by simp [newA], fun v hv => ?_⟩
    rw [List.eq_of_mem_replicate hv]
    cases aty <;> rfl
  obtain ⟨s₂, o, st2, r⟩ := w h1 h.size rfl (by rw [← eT]; exact old_ge hn0 X N) E1 A2 T1 _ X1 e1 N
  exact ⟨s₂, o, st _ st2, r⟩
theorem w_arraycopy (ok : Ok K Z n0 own code maxL ret nm) {index : Nat} {ty : FieldType} {a b : Addr} {vs vd : List Value} {sp dp nn : Int32} {sp' dp' nn' : Nat} (hd : decode code pc = .ok (.invokestatic index, 3)) (w1 : (Cond.methodLink own index Jvm.Stand.acN).before a0 Z = true) (w2 : (Cond.native Jvm.Stand.acN).before a0 Z = true) (w3 : (Cond.static Jvm.Stand.acN).before a0 Z = true) (w4 : (Cond.initialized "java/lang/System").before a0 Z = true)
    (A : PA ty Z h a vs) (B : PA ty Z h b vd) (hty : refKind ty = false) (ge : n0 ≤ b) (h1 : ¬ sp < 0) (h2 : ¬ dp < 0) (h3 : ¬ nn < 0) (es : sp.toNatClampNeg = sp') (ed : dp.toNatClampNeg = dp') (en : nn.toNatClampNeg = nn') (h4 : sp' + nn' ≤ vs.length) (h5 : dp' + nn' ≤ vd.length) (hL : L.size = maxL) (hf : 1 ≤ R.frames) (hlo : (S.map fun v => v.category).sum + (nativeFrameWords "java/lang/System" "arraycopy" 5 + 11) ≤ R.locals)
    (w : ∀ h', Keep h h' [b] → PA ty Z h' b (vd.take dp' ++ (vs.drop sp').take nn' ++ vd.drop (dp' + nn')) → W K l R n0 P h' k n (pc + 3) L S) : W K l R n0 P h k n pc L (.int nn :: .int dp :: .ref b :: .int sp :: .ref a :: S) := by
  obtain ⟨p, e, s, m, args, below, meth, c⟩ := K
  obtain ⟨hx, hZ, hown, hby, hml, hret, hnm, hlk, hn0⟩ := ok
  intro T locs X eT N
  subst es ed en
  obtain ⟨z1, hz1, hz2⟩ : ∃ z : Int32, vs.length = z.toNatClampNeg ∧ ¬ z < 0 := pa_z A.len
  obtain ⟨z3, hz3, hz4⟩ : ∃ z : Int32, vd.length = z.toNatClampNeg ∧ ¬ z < 0 := pa_z B.len
  obtain ⟨k1, A1⟩ := A.arv hz1 hz2 .null
  obtain ⟨k2, B1⟩ := B.arv hz3 hz4 .null
  obtain ⟨T1, h1', L1, X1, e1, N1, K1, B2, st⟩ := cpA X hx hZ hown w1 w2 w3 w4 eT A1 B1 (Or.inl ⟨rfl, hty⟩) h1 h2 h3 (by omega) (by omega) rfl h5 N ge (g := mkF m pc L (.int nn :: .int dp :: .ref b :: .int sp :: .ref a :: S)) rfl (hL.trans hml.symm) rfl (hb hby hd) hf (W := (S.map fun v => v.category).sum) (by show 2 * 0 + _ ≤ _; omega) hlo
  have e2 : ((List.range nn.toNatClampNeg).map fun i => vs.getD (sp.toNatClampNeg + i) Value.null) = (vs.drop sp.toNatClampNeg).take nn.toNatClampNeg := by
    apply List.ext_getElem
    · simp; omega
    · intro i q1 q2
      simp at q1
      simp [List.getD_eq_getElem?_getD, List.getElem?_eq_getElem (show sp.toNatClampNeg + i < vs.length by omega)]
  rw [e2] at B2
  obtain ⟨s₂, o, st2, r⟩ := w h1' K1 (PA.of_arv B2 (by simp; omega)) T1 _ X1 e1 N1
  exact ⟨s₂, o, st _ st2, r⟩
theorem w_iaload (ok : Ok K Z n0 own code maxL ret nm) {a : Addr} {vs : List Value} {j : Int32} {v : Value} (hd : decode code pc = .ok (.iaload, 1)) (A : PA .int Z h a vs) (h0 : ¬ j < 0) (hj : vs[j.toNatClampNeg]? = some v) (w : W K l R n0 P h k n (pc + 1) L (v :: S)) : W K l R n0 P h k n pc L (.int j :: .ref a :: S) := by
  obtain ⟨p, e, s, m, args, below, meth, c⟩ := K
  obtain ⟨hx, hZ, hown, hby, -⟩ := ok
  intro T locs X eT N
  obtain ⟨s₂, o, st, r⟩ := w T locs X eT N
  obtain ⟨cl, A, q1, q2, q3⟩ := A
  exact ⟨s₂, o, X.iaload hx (j := j) (v := v) (by rw [eT]; exact A.1) (State.isArrayOf_alike hZ.alike A.2.1) A.2.2 (pa_in q2 h0 (List.getElem?_eq_some_iff.mp hj).1) (by rw [q2]; simpa using hj) (g := mkF m pc L (.int j :: .ref a :: S)) rfl rfl (hb hby hd) _ st, r⟩
theorem w_laload (ok : Ok K Z n0 own code maxL ret nm) {a : Addr} {vs : List Value} {j : Int32} {v : Value} (hd : decode code pc = .ok (.laload, 1)) (A : PA .long Z h a vs) (h0 : ¬ j < 0) (hj : vs[j.toNatClampNeg]? = some v) (w : W K l R n0 P h k n (pc + 1) L (v :: S)) : W K l R n0 P h k n pc L (.int j :: .ref a :: S) := by
  obtain ⟨p, e, s, m, args, below, meth, c⟩ := K
  obtain ⟨hx, hZ, hown, hby, -⟩ := ok
  intro T locs X eT N
  obtain ⟨s₂, o, st, r⟩ := w T locs X eT N
  obtain ⟨cl, A, q1, q2, q3⟩ := A
  exact ⟨s₂, o, X.laload hx (j := j) (v := v) (by rw [eT]; exact A.1) (State.isArrayOf_alike hZ.alike A.2.1) A.2.2 (pa_in q2 h0 (List.getElem?_eq_some_iff.mp hj).1) (by rw [q2]; simpa using hj) (g := mkF m pc L (.int j :: .ref a :: S)) rfl rfl (hb hby hd) _ st, r⟩
theorem w_caload (ok : Ok K Z n0 own code maxL ret nm) {a : Addr} {vs : List Value} {j : Int32} {v : Value} (hd : decode code pc = .ok (.caload, 1)) (A : PA .char Z h a vs) (h0 : ¬ j < 0) (hj : vs[j.toNatClampNeg]? = some v) (w : W K l R n0 P h k n (pc + 1) L (v :: S)) : W K l R n0 P h k n pc L (.int j :: .ref a :: S) := by
  obtain ⟨p, e, s, m, args, below, meth, c⟩ := K
  obtain ⟨hx, hZ, hown, hby, -⟩ := ok
  intro T locs X eT N
  obtain ⟨s₂, o, st, r⟩ := w T locs X eT N
  obtain ⟨cl, A, q1, q2, q3⟩ := A
  exact ⟨s₂, o, X.caload hx (j := j) (v := v) (by rw [eT]; exact A.1) (State.isArrayOf_alike hZ.alike A.2.1) A.2.2 (pa_in q2 h0 (List.getElem?_eq_some_iff.mp hj).1) (by rw [q2]; simpa using hj) (g := mkF m pc L (.int j :: .ref a :: S)) rfl rfl (hb hby hd) _ st, r⟩
theorem w_baload (ok : Ok K Z n0 own code maxL ret nm) {a : Addr} {vs : List Value} {j : Int32} {v : Value} (hd : decode code pc = .ok (.baload, 1)) (A : PA .byte Z h a vs) (h0 : ¬ j < 0) (hj : vs[j.toNatClampNeg]? = some v) (w : W K l R n0 P h k n (pc + 1) L (v :: S)) : W K l R n0 P h k n pc L (.int j :: .ref a :: S) := by
  obtain ⟨p, e, s, m, args, below, meth, c⟩ := K
  obtain ⟨hx, hZ, hown, hby, -⟩ := ok
  intro T locs X eT N
  obtain ⟨s₂, o, st, r⟩ := w T locs X eT N
  obtain ⟨cl, A, q1, q2, q3⟩ := A
  exact ⟨s₂, o, X.baloadBytes hx (j := j) (v := v) (by rw [eT]; exact A.1) (State.isArrayOf_alike hZ.alike A.2.1) A.2.2 (pa_in q2 h0 (List.getElem?_eq_some_iff.mp hj).1) (by rw [q2]; simpa using hj) (g := mkF m pc L (.int j :: .ref a :: S)) rfl rfl (hb hby hd) _ st, r⟩
theorem w_zaload (ok : Ok K Z n0 own code maxL ret nm) {a : Addr} {vs : List Value} {j : Int32} {v : Value} (hd : decode code pc = .ok (.baload, 1)) (A : PA .boolean Z h a vs) (h0 : ¬ j < 0) (hj : vs[j.toNatClampNeg]? = some v) (w : W K l R n0 P h k n (pc + 1) L (v :: S)) : W K l R n0 P h k n pc L (.int j :: .ref a :: S) := by
  obtain ⟨p, e, s, m, args, below, meth, c⟩ := K
  obtain ⟨hx, hZ, hown, hby, -⟩ := ok
  intro T locs X eT N
  obtain ⟨s₂, o, st, r⟩ := w T locs X eT N
  obtain ⟨cl, A, q1, q2, q3⟩ := A
  exact ⟨s₂, o, X.baloadBooleans hx (j := j) (v := v) (by rw [eT]; exact A.1) (State.isArrayOf_alike hZ.alike A.2.1) A.2.2 (pa_in q2 h0 (List.getElem?_eq_some_iff.mp hj).1) (by rw [q2]; simpa using hj) (g := mkF m pc L (.int j :: .ref a :: S)) rfl rfl (hb hby hd) _ st, r⟩
theorem w_aaload (ok : Ok K Z n0 own code maxL ret nm) {ty : FieldType} {a : Addr} {vs : List Value} {j : Int32} {v : Value} (hd : decode code pc = .ok (.aaload, 1)) (A : PA ty Z h a vs) (ht : ty.isReference = true) (h0 : ¬ j < 0) (hj : vs[j.toNatClampNeg]? = some v) (w : W K l R n0 P h k n (pc + 1) L (v :: S)) : W K l R n0 P h k n pc L (.int j :: .ref a :: S) := by
  obtain ⟨p, e, s, m, args, below, meth, c⟩ := K
  obtain ⟨hx, hZ, hown, hby, -⟩ := ok
  intro T locs X eT N
  obtain ⟨s₂, o, st, r⟩ := w T locs X eT N
  obtain ⟨cl, A, q1, q2, q3⟩ := A
  exact ⟨s₂, o, X.aaload hx (j := j) (v := v) (by rw [eT]; exact A.1) (State.isArrayOf_alike hZ.alike A.2.1) ht A.2.2 (pa_in q2 h0 (List.getElem?_eq_some_iff.mp hj).1) (by rw [q2]; simpa using hj) (g := mkF m pc L (.int j :: .ref a :: S)) rfl rfl (hb hby hd) _ st, r⟩
theorem w_iastore (ok : Ok K Z n0 own code maxL ret nm) {a : Addr} {vs : List Value} {j : Int32} {x : Int32} (hd : decode code pc = .ok (.iastore, 1)) (A : PA .int Z h a vs) (ge : n0 ≤ a) (h0 : ¬ j < 0) (hj : j.toNatClampNeg < vs.length) (w : ∀ h', Wr h h' a j.toNatClampNeg (.int x) → PA .int Z h' a (vs.set j.toNatClampNeg (.int x)) → W K l R n0 P h' k n (pc + 1) L S) : W K l R n0 P h k n pc L (.int x :: .int j :: .ref a :: S) := by
  obtain ⟨p, e, s, m, args, below, meth, c⟩ := K
  obtain ⟨hx, hZ, hown, hby, -⟩ := ok
  intro T locs X eT N
  have A0 := A
  obtain ⟨cl, A, q1, q2, q3⟩ := A
  obtain ⟨T1, h1, X1, e1, W1, st⟩ := stI X hx hZ eT A (j := j) (pa_in q2 h0 hj) (g := mkF m pc L (.int x :: .int j :: .ref a :: S)) rfl rfl (hb hby hd)
  obtain ⟨s₂, o, st2, r⟩ := w h1 W1 (A0.set W1 rfl) T1 _ X1 e1 (Fr.snoc X1 N ge)
  exact ⟨s₂, o, st _ st2, r⟩
theorem w_lastore (ok : Ok K Z n0 own code maxL ret nm) {a : Addr} {vs : List Value} {j : Int32} {x : Int64} (hd : decode code pc = .ok (.lastore, 1)) (A : PA .long Z h a vs) (ge : n0 ≤ a) (h0 : ¬ j < 0) (hj : j.toNatClampNeg < vs.length) (w : ∀ h', Wr h h' a j.toNatClampNeg (.long x) → PA .long Z h' a (vs.set j.toNatClampNeg (.long x)) → W K l R n0 P h' k n (pc + 1) L S) : W K l R n0 P h k n pc L (.long x :: .int j :: .ref a :: S) := by
  obtain ⟨p, e, s, m, args, below, meth, c⟩ := K
  obtain ⟨hx, hZ, hown, hby, -⟩ := ok
  intro T locs X eT N
  have A0 := A
  obtain ⟨cl, A, q1, q2, q3⟩ := A
  obtain ⟨T1, h1, X1, e1, W1, st⟩ := stJ X hx hZ eT A (j := j) (pa_in q2 h0 hj) (g := mkF m pc L (.long x :: .int j :: .ref a :: S)) rfl rfl (hb hby hd)
  obtain ⟨s₂, o, st2, r⟩ := w h1 W1 (A0.set W1 rfl) T1 _ X1 e1 (Fr.snoc X1 N ge)
  exact ⟨s₂, o, st _ st2, r⟩
theorem w_castore (ok : Ok K Z n0 own code maxL ret nm) {a : Addr} {vs : List Value} {j : Int32} {x : Int32} (hd : decode code pc = .ok (.castore, 1)) (A : PA .char Z h a vs) (ge : n0 ≤ a) (h0 : ¬ j < 0) (hj : j.toNatClampNeg < vs.length) (w : ∀ h', Wr h h' a j.toNatClampNeg (.int (nar .char x)) → PA .char Z h' a (vs.set j.toNatClampNeg (.int (nar .char x))) → W K l R n0 P h' k n (pc + 1) L S) : W K l R n0 P h k n pc L (.int x :: .int j :: .ref a :: S) := by
  obtain ⟨p, e, s, m, args, below, meth, c⟩ := K
  obtain ⟨hx, hZ, hown, hby, -⟩ := ok
  intro T locs X eT N
  have A0 := A
  obtain ⟨cl, A, q1, q2, q3⟩ := A
  obtain ⟨T1, h1, X1, e1, W1, st⟩ := stC X hx hZ eT A (j := j) (pa_in q2 h0 hj) (g := mkF m pc L (.int x :: .int j :: .ref a :: S)) rfl rfl (hb hby hd)
  obtain ⟨s₂, o, st2, r⟩ := w h1 W1 (A0.set W1 (fits_nar_char x)) T1 _ X1 e1 (Fr.snoc X1 N ge)
  exact ⟨s₂, o, st _ st2, r⟩
theorem w_bastore (ok : Ok K Z n0 own code maxL ret nm) {a : Addr} {vs : List Value} {j : Int32} {x : Int32} (hd : decode code pc = .ok (.bastore, 1)) (A : PA .byte Z h a vs) (ge : n0 ≤ a) (h0 : ¬ j < 0) (hj : j.toNatClampNeg < vs.length) (w : ∀ h', Wr h h' a j.toNatClampNeg (.int (nar .byte x)) → PA .byte Z h' a (vs.set j.toNatClampNeg (.int (nar .byte x))) → W K l R n0 P h' k n (pc + 1) L S) : W K l R n0 P h k n pc L (.int x :: .int j :: .ref a :: S) := by
  obtain ⟨p, e, s, m, args, below, meth, c⟩ := K
  obtain ⟨hx, hZ, hown, hby, -⟩ := ok
  intro T locs X eT N
  have A0 := A
  obtain ⟨cl, A, q1, q2, q3⟩ := A
  obtain ⟨T1, h1, X1, e1, W1, st⟩ := stB X hx hZ eT A (j := j) (pa_in q2 h0 hj) (g := mkF m pc L (.int x :: .int j :: .ref a :: S)) rfl rfl (hb hby hd)
  obtain ⟨s₂, o, st2, r⟩ := w h1 W1 (A0.set W1 (fits_nar_byte x)) T1 _ X1 e1 (Fr.snoc X1 N ge)
  exact ⟨s₂, o, st _ st2, r⟩
theorem w_zastore (ok : Ok K Z n0 own code maxL ret nm) {a : Addr} {vs : List Value} {j : Int32} {x : Int32} (hd : decode code pc = .ok (.bastore, 1)) (A : PA .boolean Z h a vs) (ge : n0 ≤ a) (h0 : ¬ j < 0) (hj : j.toNatClampNeg < vs.length) (w : ∀ h', Wr h h' a j.toNatClampNeg (.int (nar .boolean x)) → PA .boolean Z h' a (vs.set j.toNatClampNeg (.int (nar .boolean x))) → W K l R n0 P h' k n (pc + 1) L S) : W K l R n0 P h k n pc L (.int x :: .int j :: .ref a :: S) := by
  obtain ⟨p, e, s, m, args, below, meth, c⟩ := K
  obtain ⟨hx, hZ, hown, hby, -⟩ := ok
  intro T locs X eT N
  have A0 := A
  obtain ⟨cl, A, q1, q2, q3⟩ := A
  obtain ⟨T1, h1, X1, e1, W1, st⟩ := stZ X hx hZ eT A (j := j) (pa_in q2 h0 hj) (g := mkF m pc L (.int x :: .int j :: .ref a :: S)) rfl rfl (hb hby hd)
  obtain ⟨s₂, o, st2, r⟩ := w h1 W1 (A0.set W1 (fits_nar_bool x)) T1 _ X1 e1 (Fr.snoc X1 N ge)
  exact ⟨s₂, o, st _ st2, r⟩
/-! objects -/
abbrev Fl := List (String × String × String × FieldType)
def Ob (Z : State) (h : Heap) (a : Addr) (C : String) (fl : Fl) (vals : List Value) : Prop := Exa Z h a C ∧ ∀ (i : Nat) f v, fl[i]? = some f → vals[i]? = some v → Fld Z h a f.1 f.2.1 f.2.2.1 v
def LA (Z : State) (a0 : Array Value) (C : String) (fl : Fl) : Prop := (∀ f ∈ fl, Laid Z a0 C f.1 f.2.1 f.2.2.1 ∧ parseFieldDescriptor f.2.2.1 = some f.2.2.2) ∧ (fl.map (·.2.1)).Nodup
section Obs
variable {h' : Heap} {a b : Addr} {C : String} {fl : Fl} {vals : List Value} {v : Value} {sl : Nat} {ws : List Addr}
theorem Ob.lt (O : Ob Z h a C fl vals) : a < h.size := O.1.lt
theorem Ob.ext (O : Ob Z h a C fl vals) (E : Ext h h') : Ob Z h' a C fl vals := ⟨O.1.ext E, fun i f v q r => (O.2 i f v q r).ext E⟩
theorem Ob.other (O : Ob Z h b C fl vals) (W1 : Wr h h' a sl v) (ne : b ≠ a) : Ob Z h' b C fl vals := ⟨O.1.wr W1, fun i f v q r => (O.2 i f v q r).other W1 (Or.inl ne)⟩
theorem Ob.keep (O : Ob Z h a C fl vals) (K1 : Keep h h' ws) (q : a ∉ ws) : Ob Z h' a C fl vals := ⟨O.1.keep K1, fun i f v r r' => (O.2 i f v r r').keep K1 q⟩
theorem Ob.put (O : Ob Z h a C fl vals) (LAs : LA Z a0 C fl) {i : Nat} {f : String × String × String × FieldType} {u : Value} (hf : fl[i]? = some f) (hv : vals[i]? = some u) (W1 : Wr h h' a (Jvm.RoadKit.slotOf Z f.1 f.2.1 f.2.2.1) v) : Ob Z h' a C fl (vals.set i v) := by
  refine ⟨O.1.wr W1, fun j g w hg hw => ?_⟩
  by_cases e : i = j
  · subst e
    cases hf.symm.trans hg
    rw [List.getElem?_set_self (List.getElem?_eq_some_iff.mp hv).1] at hw
    cases hw
    exact (O.2 i f u hf hv).same W1
  · rw [List.getElem?_set_ne e] at hw
    refine (O.2 j g w hg hw).other W1 (Or.inr ?_)
    have m1 := LAs.1 f (List.mem_of_getElem? hf)
    have m2 := LAs.1 g (List.mem_of_getElem? hg)
    refine slot_ne m2.1 m1.1 (fun q => e ?_) m2.2 m1.2
    have hi := (List.getElem?_eq_some_iff.mp hf)
    have hj := (List.getElem?_eq_some_iff.mp hg)
    have nd := LAs.2
    have q1 : (fl.map (·.2.1))[i]? = some f.2.1 := by simp [hf]
    have q2 : (fl.map (·.2.1))[j]? = some f.2.1 := by simp [hg, q]
    exact (List.getElem?_inj (by simpa using hi.1) nd).mp (q1.trans q2.symm)
end Obs
theorem w_getfield (ok : Ok K Z n0 own code maxL ret nm) {index : Nat} {a : Addr} {C R0 host : String} {fl : Fl} {vals : List Value} {v : Value} {f : String × String × String × FieldType} (i : Nat) (hd : decode code pc = .ok (.getfield index, 3)) (w1 : (Cond.fieldLink own index R0 f.2.1 f.2.2.1).before a0 Z = true ∨ (Cond.fieldLinkNest own index R0 f.2.1 f.2.2.1 host).before a0 Z = true) (via : Via Z R0 f.1 f.2.1 f.2.2.1) (O : Ob Z h a C fl vals) (hf : fl[i]? = some f) (hv : vals[i]? = some v)
    (w : W K l R n0 P h k n (pc + 3) L (v :: S)) : W K l R n0 P h k n pc L (.ref a :: S) := by
  obtain ⟨p, e, s, m, args, below, meth, c⟩ := K
  obtain ⟨hx, hZ, hown, hby, -⟩ := ok
  intro T locs X eT N
  obtain ⟨T1, X1, e1, st⟩ := getF X hx hZ hown w1 via eT (O.2 i f v hf hv) (g := mkF m pc L (.ref a :: S)) rfl rfl (hb hby hd)
  obtain ⟨s₂, o, st2, r⟩ := w T1 locs X1 e1 N
  exact ⟨s₂, o, st _ st2, r⟩
theorem w_putfield (ok : Ok K Z n0 own code maxL ret nm) {index kk : Nat} {a : Addr} {C R0 host : String} {fl : Fl} {vals : List Value} {v u : Value} {f : String × String × String × FieldType} (i : Nat) (hd : decode code pc = .ok (.putfield index, 3)) (w1 : (Cond.fieldLink own index R0 f.2.1 f.2.2.1).before a0 Z = true ∨ (Cond.fieldLinkNest own index R0 f.2.1 f.2.2.1 host).before a0 Z = true) (via : Via Z R0 f.1 f.2.1 f.2.2.1) (O : Ob Z h a C fl vals) (LAs : LA Z a0 C fl) (hf : fl[i]? = some f) (hv : vals[i]? = some u)
    (w2 : (Cond.lays C f.1 f.2.1 f.2.2.1).before a0 Z = true ∨ ((Cond.laysFinal C f.1 f.2.1 f.2.2.1).before a0 Z = true ∧ own = f.1 ∧ nm = "<init>")) (w3 : (Cond.instantiable C kk).before a0 Z = true) (hn : narrow f.2.2.2 v = v) (hfit : fits f.2.2.2 v = true) (ge : n0 ≤ a)
    (w : ∀ h', Wr h h' a (Jvm.RoadKit.slotOf Z f.1 f.2.1 f.2.2.1) v → Ob Z h' a C fl (vals.set i v) → W K l R n0 P h' k n (pc + 3) L S) : W K l R n0 P h k n pc L (v :: .ref a :: S) := by
  obtain ⟨p, e, s, m, args, below, meth, c⟩ := K
  obtain ⟨hx, hZ, hown, hby, hml, hret, hnm, hlk, hn0⟩ := ok
  intro T locs X eT N
  obtain ⟨T1, h1, X1, e1, W1, st⟩ := putF X hx hZ hown w1 via eT (O.2 i f u hf hv) O.1 (w2.imp id fun q => ⟨q.1, q.2.1, hnm.trans q.2.2⟩) w3 (LAs.1 f (List.mem_of_getElem? hf)).2 hn hfit (g := mkF m pc L (v :: .ref a :: S)) rfl rfl (hb hby hd)
  obtain ⟨s₂, o, st2, r⟩ := w h1 W1 (O.put LAs hf hv W1) T1 _ X1 e1 (Fr.snoc X1 N ge)
  exact ⟨s₂, o, st _ st2, r⟩
theorem w_new (ok : Ok K Z n0 own code maxL ret nm) {index kk : Nat} {C : String} {fl : Fl} (hd : decode code pc = .ok (.new index, 3)) (w1 : (Cond.classLink own index C).before a0 Z = true) (w2 : (Cond.instantiable C kk).before a0 Z = true) (w3 : (Cond.initialized C).before a0 Z = true) (LAs : LA Z a0 C fl) (hc : k + 1 ≤ R.cells) (hl : n + kk ≤ R.slots)
    (w : ∀ h' a, a = h.size → n0 ≤ a → Ext h h' → Ob Z h' a C fl (fl.map fun f => defaultValue f.2.2.2) → W K l R n0 P h' (k + 1) (n + kk) (pc + 3) L (.ref a :: S)) : W K l R n0 P h k n pc L S := by
  obtain ⟨p, e, s, m, args, below, meth, c⟩ := K
  obtain ⟨hx, hZ, hown, hby, hml, hret, hnm, hlk, hn0⟩ := ok
  intro T locs X eT N
  obtain ⟨T1, h1, X1, e1, E1, A1, D1, -, st⟩ := newO X hx hZ hown w1 w2 w3 eT (g := mkF m pc L S) rfl (hb hby hd) hc hl
  obtain ⟨s₂, o, st2, r⟩ := w h1 h.size rfl (by rw [← eT]; exact old_ge hn0 X N) E1 ⟨A1, fun i f v hf hv => by
    simp [hf] at hv; subst hv
    exact D1 (LAs.1 f (List.mem_of_getElem? hf)).1 (LAs.1 f (List.mem_of_getElem? hf)).2⟩ T1 _ X1 e1 N
  exact ⟨s₂, o, st _ st2, r⟩
theorem w_initO (ok : Ok K Z n0 own code maxL ret nm) {index : Nat} {a : Addr} (hd : decode code pc = .ok (.invokespecial index, 3)) (w1 : (Cond.methodLink own index Lib.objectInit).before a0 Z = true) (w2 : (Cond.instanceMethod Lib.objectInit).before a0 Z = true) (w3 : (Cond.code Lib.objectInit ⟨#[0xb1]⟩ 1 none).before a0 Z = true) (hL : L.size = maxL) (hf : 1 ≤ R.frames) (hl : (S.map fun v => v.category).sum + 12 ≤ R.locals)
    (w : W K l R n0 P h k n (pc + 3) L S) : W K l R n0 P h k n pc L (.ref a :: S) := by
  obtain ⟨p, e, s, m, args, below, meth, c⟩ := K
  obtain ⟨hx, hZ, hown, hby, hml, hret, hnm, hlk, hn0⟩ := ok
  intro T locs X eT N
  obtain ⟨T1, X1, e1, st⟩ := initO X hx hZ hown w1 w2 w3 eT (g := mkF m pc L (.ref a :: S)) rfl (hL.trans hml.symm) rfl (hb hby hd) hf (W := (S.map fun v => v.category).sum) (by show 2 * 0 + _ ≤ _; omega) hl
  obtain ⟨s₂, o, st2, r⟩ := w T1 locs X1 e1 N
  exact ⟨s₂, o, st _ st2, r⟩
theorem w_callI (ok : Ok K Z n0 own code maxL ret nm) {index : Nat} {y : MethodName} {bytes : ByteArray} {mL : Nat} {rm : Room} {a : Addr} {argsL rest : List Value} {Q : Option Value → Heap → Prop} {ps : List FieldType} {r : Option FieldType}
    (hd : decode code pc = .ok (.invokespecial index, 3)) (hy1 : y.name = "<init>") (w1 : (Cond.methodLink own index y).before a0 Z = true) (w2 : (Cond.instanceMethod y).before a0 Z = true) (w3 : (Cond.initialized y.cls).before a0 Z = true) (w4 : (Cond.code y bytes mL none).before a0 Z = true) (hy : notHandle y)
    (pd : parseMethodDescriptor y.desc = some ⟨ps, r⟩) (hlen : argsL.length = ps.length) (hL : L.size = maxL) (hf : rm.frames + 1 ≤ R.frames) (hl : (rest.map fun v => v.category).sum + (mL + 11) + rm.locals ≤ R.locals) (hc : k + rm.cells ≤ R.cells) (hs : n + rm.slots ≤ R.slots)
    (hM : Old Z n0 h → Met l Z n0 y bytes mL none [] rm (.ref a :: argsL).toArray h Q) (w : ∀ v h', Q v h' → W K l R n0 P h' (k + rm.cells) (n + rm.slots) (pc + 3) L (v.toList ++ rest)) : W K l R n0 P h k n pc L (argsL.reverse ++ .ref a :: rest) := by
  obtain ⟨p, e, s, m, args, below, meth, c⟩ := K
  obtain ⟨hx, hZ, hown, hby, hml, hret, hnm, hlk, hn0⟩ := ok
  intro T locs X eT N
  have hM := hM (by rw [← eT]; exact old_now hn0 X N)
  obtain ⟨v, _, ⟨T1, L1, k1, n1⟩, -, X1, ⟨Lc, ⟨hQ, N1⟩, l1, y1, z1⟩, st⟩ := X.specialBack hx (y := y) hy1 hown (mvT hZ w1) (mvT hZ w2) (mvT hZ w4) hy (backOf (W := (rest.map fun v => v.category).sum) (Q := fun v h L => Q v h ∧ Fr n0 L) hM hZ w4 w3 hf hl) (g := mkF m pc L (argsL.reverse ++ .ref a :: rest)) rfl (hL.trans hml.symm) (Steps.refl _) (a := a) (argsL := argsL) (rest := rest) (lenOf pd hlen) rfl (by show 2 * 0 + _ ≤ _; omega) (hb hby hd) (fun _ _ => ⟨rfl, eT, hc, hs⟩)
  dsimp only [Pt.U, Pt.locs, Pt.cells, Pt.slots] at X1 l1 y1 z1 st hQ
  subst l1 y1 z1
  obtain ⟨s₂, o, st2, r2⟩ := w v _ hQ T1 _ X1 rfl (Fr.app N N1)
  exact ⟨s₂, o, st.trans st2, r2⟩
theorem w_callV (ok : Ok K Z n0 own code maxL ret nm) {index : Nat} {C : String} {y : MethodName} {bytes : ByteArray} {mL : Nat} {rt : Option FieldType} {rm : Room} {a : Addr} {argsL rest : List Value} {Q : Option Value → Heap → Prop} {ps : List FieldType} {r : Option FieldType}
    (hd : decode code pc = .ok (.invokevirtual index, 3)) (w1 : (Cond.methodLink own index y).before a0 Z = true) (w2 : (Cond.declares y).before a0 Z = true) (w3 : (Cond.selects C y y).before a0 Z = true) (w4 : (Cond.instanceMethod y).before a0 Z = true) (w5 : (Cond.initialized y.cls).before a0 Z = true) (w6 : (Cond.code y bytes mL rt).before a0 Z = true) (hy : notHandle y)
    (E : Exa Z h a C) (pd : parseMethodDescriptor y.desc = some ⟨ps, r⟩) (hlen : argsL.length = ps.length) (hL : L.size = maxL) (hf : rm.frames + 1 ≤ R.frames) (hl : (rest.map fun v => v.category).sum + (mL + 11) + rm.locals ≤ R.locals) (hc : k + rm.cells ≤ R.cells) (hs : n + rm.slots ≤ R.slots)
    (hM : Old Z n0 h → Met l Z n0 y bytes mL rt [] rm (.ref a :: argsL).toArray h Q) (w : ∀ v h', Q v h' → W K l R n0 P h' (k + rm.cells) (n + rm.slots) (pc + 3) L (v.toList ++ rest)) : W K l R n0 P h k n pc L (argsL.reverse ++ .ref a :: rest) := by
  obtain ⟨p, e, s, m, args, below, meth, c⟩ := K
  obtain ⟨hx, hZ, hown, hby, hml, hret, hnm, hlk, hn0⟩ := ok
  intro T locs X eT N
  have hM := hM (by rw [← eT]; exact old_now hn0 X N)
  obtain ⟨cq, kq, qa, qb, qc⟩ := isOf hZ eT E
  obtain ⟨v, _, ⟨T1, L1, k1, n1⟩, -, X1, ⟨Lc, ⟨hQ, N1⟩, l1, y1, z1⟩, st⟩ := X.virtualBack hx (y := y) (z := y) hown (mvT hZ w1) (mvT hZ w2) (notFace_of_selects (args := #[]) (mvT hZ w3)) (mvT hZ w3) (mvT hZ w4) hy (backOf (W := (rest.map fun v => v.category).sum) (Q := fun v h L => Q v h ∧ Fr n0 L) hM hZ w6 w5 hf hl) qa qc (g := mkF m pc L (argsL.reverse ++ .ref a :: rest)) rfl (hL.trans hml.symm) (Steps.refl _) (argsL := argsL) (rest := rest) (lenOf pd hlen) rfl (by show 2 * 0 + _ ≤ _; omega) (hb hby hd) (fun _ _ => ⟨rfl, eT, hc, hs⟩)
  dsimp only [Pt.U, Pt.locs, Pt.cells, Pt.slots] at X1 l1 y1 z1 st hQ
  subst l1 y1 z1
  obtain ⟨s₂, o, st2, r2⟩ := w v _ hQ T1 _ X1 rfl (Fr.app N N1)
  exact ⟨s₂, o, st.trans st2, r2⟩
theorem w_callP (ok : Ok K Z n0 own code maxL ret nm) {index kk : Nat} {y : MethodName} {bytes : ByteArray} {mL : Nat} {rt : Option FieldType} {rm : Room} {a : Addr} {argsL rest : List Value} {Q : Option Value → Heap → Prop} {ps : List FieldType} {r : Option FieldType}
    (hd : decode code pc = .ok (.invokevirtual index, 3)) (w1 : (Cond.methodLink own index y).before a0 Z = true) (w2 : (Cond.instanceMethod y).before a0 Z = true) (w3 : (Cond.privateMethod y).before a0 Z = true) (w4 : (Cond.instantiable y.cls kk).before a0 Z = true) (w5 : (Cond.initialized y.cls).before a0 Z = true) (w6 : (Cond.code y bytes mL rt).before a0 Z = true) (hy : notHandle y)
    (E : Exa Z h a y.cls) (pd : parseMethodDescriptor y.desc = some ⟨ps, r⟩) (hlen : argsL.length = ps.length) (hL : L.size = maxL) (hf : rm.frames + 1 ≤ R.frames) (hl : (rest.map fun v => v.category).sum + (mL + 11) + rm.locals ≤ R.locals) (hc : k + rm.cells ≤ R.cells) (hs : n + rm.slots ≤ R.slots)
    (hM : Old Z n0 h → Met l Z n0 y bytes mL rt [] rm (.ref a :: argsL).toArray h Q) (w : ∀ v h', Q v h' → W K l R n0 P h' (k + rm.cells) (n + rm.slots) (pc + 3) L (v.toList ++ rest)) : W K l R n0 P h k n pc L (argsL.reverse ++ .ref a :: rest) := by
  obtain ⟨p, e, s, m, args, below, meth, c⟩ := K
  obtain ⟨hx, hZ, hown, hby, hml, hret, hnm, hlk, hn0⟩ := ok
  intro T locs X eT N
  have hM := hM (by rw [← eT]; exact old_now hn0 X N)
  have hP : s.PrivateAt y := Cond.privateMethod_at (mvP hZ w3 (args := #[]))
  obtain ⟨ci, ki, i1, i2, i3, i4, -⟩ := Cond.instantiable_spec (mvT (args := args) hZ w4)
  have hni : ki.isInterface = false := by
    cases q : ki.isInterface
    · rfl
    · rw [q] at i4; cases i4
  have hsel := selects_self_of_private (args := args) i1 i2 hni hP (mvT hZ w2) hy
  obtain ⟨cell, hcell, hobj⟩ := E.cell
  obtain ⟨v, _, ⟨T1, L1, k1, n1⟩, -, X1, ⟨Lc, ⟨hQ, N1⟩, l1, y1, z1⟩, st⟩ := X.privateBack hx (y := y) hown (mvT hZ w1) (mvT hZ w2) hsel hP (mvT hZ w6) hy (backOf (W := (rest.map fun v => v.category).sum) (Q := fun v h L => Q v h ∧ Fr n0 L) hM hZ w6 w5 hf hl) (g := mkF m pc L (argsL.reverse ++ .ref a :: rest)) rfl (hL.trans hml.symm) (Steps.refl _) (a := a) (by rw [eT]; exact hcell) hobj (argsL := argsL) (rest := rest) (lenOf pd hlen) rfl (by show 2 * 0 + _ ≤ _; omega) (hb hby hd) (fun _ _ => ⟨rfl, eT, hc, hs⟩)
  dsimp only [Pt.U, Pt.locs, Pt.cells, Pt.slots] at X1 l1 y1 z1 st hQ
  subst l1 y1 z1
  obtain ⟨s₂, o, st2, r2⟩ := w v _ hQ T1 _ X1 rfl (Fr.app N N1)
  exact ⟨s₂, o, st.trans st2, r2⟩
theorem w_getstatic (ok : Ok K Z n0 own code maxL ret nm) {index : Nat} {R0 O n' d : String} {v : Value} (hd : decode code pc = .ok (.getstatic index, 3)) (w1 : (Cond.fieldLink own index R0 n' d).before a0 Z = true) (via : Via Z R0 O n' d) (F : Sta Z Z.heap O n' d v) (w : W K l R n0 P h k n (pc + 3) L (v :: S)) : W K l R n0 P h k n pc L S := by
  obtain ⟨p, e, s, m, args, below, meth, c⟩ := K
  obtain ⟨hx, hZ, hown, hby, hml, hret, hnm, hlk, hn0⟩ := ok
  intro T locs X eT N
  have O := old_now hn0 X N
  obtain ⟨T1, X1, e1, st⟩ := getS (host := "") X hx hZ hown w1 via rfl (F.ext O.2) (g := mkF m pc L S) rfl (hb hby hd)
  obtain ⟨s₂, o, st2, r⟩ := w T1 locs X1 (e1.trans eT) N
  exact ⟨s₂, o, st _ st2, r⟩
theorem w_acmp (ok : Ok K Z n0 own code maxL ret nm) {cd : ACond} {x y : Value} {o : Int} {pc1 pc' : Nat} (hd : decode code pc = .ok (.if_acmp cd o, 3)) (hp : (pc : Int) + o = (pc1 : Int)) (h1 : x.isRef = true) (h2 : y.isRef = true) (same : Bool) (hq : decide (x = y) = same) (hpc : pc' = if acV cd same = true then pc1 else pc + 3) (w : W K l R n0 P h k n pc' L S) : W K l R n0 P h k n pc L (y :: x :: S) := by
  obtain ⟨p, e, s, m, args, below, meth, c⟩ := K
  obtain ⟨hx, hZ, hown, hby, -⟩ := ok
  intro T locs X eT N
  obtain ⟨s₂, o, st, r⟩ := w T locs X eT N
  exact ⟨s₂, o, acmp X hx rfl h1 h2 (pc0 := pc) (pc' := pc') (same := same) rfl (hb hby hd) rfl hq (by rw [hp]; exact Int.natCast_nonneg _) (by rw [hp]; exact hpc) st, r⟩
theorem w_ifnullY (ok : Ok K Z n0 own code maxL ret nm) {o : Int} {pc' : Nat} (hd : decode code pc = .ok (.ifnull o, 3)) (hp : (pc : Int) + o = (pc' : Int)) (w : W K l R n0 P h k n pc' L S) : W K l R n0 P h k n pc L (.null :: S) := by
  obtain ⟨p, e, s, m, args, below, meth, c⟩ := K
  obtain ⟨hx, hZ, hown, hby, -⟩ := ok
  intro T locs X eT N
  obtain ⟨s₂, o, st, r⟩ := w T locs X eT N
  exact ⟨s₂, o, XS.ifnullYes X.here hx rfl (pc0 := pc) (pc' := pc') rfl (hb hby hd) rfl (by rw [hp]; exact Int.natCast_nonneg _) (by rw [hp]; rfl) st, r⟩
theorem w_ifnullN (ok : Ok K Z n0 own code maxL ret nm) {o : Int} {a : Addr} (hd : decode code pc = .ok (.ifnull o, 3)) (w : W K l R n0 P h k n (pc + 3) L S) : W K l R n0 P h k n pc L (.ref a :: S) := by
  obtain ⟨p, e, s, m, args, below, meth, c⟩ := K
  obtain ⟨hx, hZ, hown, hby, -⟩ := ok
  intro T locs X eT N
  obtain ⟨s₂, o, st, r⟩ := w T locs X eT N
  exact ⟨s₂, o, XS.ifnullNo X.here hx rfl (hb hby hd) rfl st, r⟩
theorem w_ifnonnullY (ok : Ok K Z n0 own code maxL ret nm) {o : Int} {pc' : Nat} {a : Addr} (hd : decode code pc = .ok (.ifnonnull o, 3)) (hp : (pc : Int) + o = (pc' : Int)) (w : W K l R n0 P h k n pc' L S) : W K l R n0 P h k n pc L (.ref a :: S) := by
  obtain ⟨p, e, s, m, args, below, meth, c⟩ := K
  obtain ⟨hx, hZ, hown, hby, -⟩ := ok
  intro T locs X eT N
  obtain ⟨s₂, o, st, r⟩ := w T locs X eT N
  exact ⟨s₂, o, XS.ifnonnullYes X.here hx rfl (pc0 := pc) (pc' := pc') rfl (hb hby hd) rfl (by rw [hp]; exact Int.natCast_nonneg _) (by rw [hp]; rfl) st, r⟩
theorem w_ifnonnullN (ok : Ok K Z n0 own code maxL ret nm) {o : Int} (hd : decode code pc = .ok (.ifnonnull o, 3)) (w : W K l R n0 P h k n (pc + 3) L S) : W K l R n0 P h k n pc L (.null :: S) := by
  obtain ⟨p, e, s, m, args, below, meth, c⟩ := K
  obtain ⟨hx, hZ, hown, hby, -⟩ := ok
  intro T locs X eT N
  obtain ⟨s₂, o, st, r⟩ := w T locs X eT N
  exact ⟨s₂, o, XS.ifnonnullNo X.here hx rfl (hb hby hd) rfl st, r⟩
/-- what may lie in the array at a: objects of C -/
def OvA (Z : State) (h : Heap) (a : Addr) (C : String) : Prop := ∃ c : Cell, h[a]? = some c ∧ Ovr Z c.cls C
theorem OvA.ext {h' : Heap} {a : Addr} {C : String} (A : OvA Z h a C) (E : Ext h h') : OvA Z h' a C := by obtain ⟨c, q, r⟩ := A; exact ⟨c, E.2 _ _ q, r⟩
theorem OvA.keep {h' : Heap} {a : Addr} {C : String} {ws : List Addr} (A : OvA Z h a C) (K1 : Keep h h' ws) : OvA Z h' a C := by obtain ⟨c, q, r⟩ := A; obtain ⟨c', q', r1, r2⟩ := K1.2.2 a c q; exact ⟨c', q', by rw [r1]; exact r⟩
theorem w_anewarray (ok : Ok K Z n0 own code maxL ret nm) {index : Nat} {C : String} {z : Int32} (hd : decode code pc = .ok (.anewarray index, 3)) (w1 : (Cond.classLink own index C).before a0 Z = true) (w2 : (Cond.arrayOver (.object C)).before a0 Z = true) (hz : ¬ z < 0) {cap : Nat} (hcap : z.toNatClampNeg ≤ cap) (hb1 : cap * 8 ≤ 536870912) (hc : k + 1 ≤ R.cells) (hl : n + cap ≤ R.slots)
    (w : ∀ h' a, a = h.size → n0 ≤ a → Ext h h' → PA (.object C) Z h' a (List.replicate z.toNatClampNeg .null) → OvA Z h' a C → W K l R n0 P h' (k + 1) (n + cap) (pc + 3) L (.ref a :: S)) : W K l R n0 P h k n pc L (.int z :: S) := by
  obtain ⟨p, e, s, m, args, below, meth, c⟩ := K
  obtain ⟨hx, hZ, hown, hby, hml, hret, hnm, hlk, hn0⟩ := ok
  intro T locs X eT N
  obtain ⟨T1, h1, cA, X1, e1, E1, A1, O1, st⟩ := newR X hx hZ hown w1 w2 eT (g := mkF m pc L (.int z :: S)) rfl (hb hby hd) rfl hz hcap hb1 hc hl
  have A2 : PA (.object C) Z h1 h.size (List.replicate z.toNatClampNeg .null) := by
    refine ⟨_, A1, by simpa using (back32 hz).2, by simp [newA, defaultValue], fun v hv => ?_⟩
    rw [List.eq_of_mem_replicate hv]; rfl
  obtain ⟨s₂, o, st2, r⟩ := w h1 h.size rfl (by rw [← eT]; exact old_ge hn0 X N) E1 A2 ⟨_, A1.1, O1⟩ T1 _ X1 e1 N
  exact ⟨s₂, o, st _ st2, r⟩
theorem w_aastore (ok : Ok K Z n0 own code maxL ret nm) {ty : FieldType} {C : String} {a b : Addr} {vs : List Value} {j : Int32} (hd : decode code pc = .ok (.aastore, 1)) (A : PA ty Z h a vs) (OA : OvA Z h a C) (I1 : Ins Z h b C true) (hty : ty.isReference = true) (hfit : fits ty (.ref b) = true) (ge : n0 ≤ a) (h0 : ¬ j < 0) (hj : j.toNatClampNeg < vs.length)
    (w : ∀ h', Wr h h' a j.toNatClampNeg (.ref b) → PA ty Z h' a (vs.set j.toNatClampNeg (.ref b)) → W K l R n0 P h' k n (pc + 1) L S) : W K l R n0 P h k n pc L (.ref b :: .int j :: .ref a :: S) := by
  obtain ⟨p, e, s, m, args, below, meth, c⟩ := K
  obtain ⟨hx, hZ, hown, hby, -⟩ := ok
  intro T locs X eT N
  have A0 := A
  obtain ⟨cl, A, q1, q2, q3⟩ := A
  obtain ⟨c2, y1, y2⟩ := OA
  cases A.1.symm.trans y1
  obtain ⟨T1, h1, X1, e1, W1, st⟩ := stR X hx hZ eT A (j := j) (pa_in q2 h0 hj) hty (Sto.of A y2 I1) (g := mkF m pc L (.ref b :: .int j :: .ref a :: S)) rfl rfl (hb hby hd)
  obtain ⟨s₂, o, st2, r⟩ := w h1 W1 (A0.set W1 hfit) T1 _ X1 e1 (Fr.snoc X1 N ge)
  exact ⟨s₂, o, st _ st2, r⟩
theorem frame_fin {s u : State} {L L' : List Loc} {v : Option Value} {c c' n n' : Nat} (hq : FrameEnd s (.returned v) u L c n) (N : Fr s.heap.size L) (h1 : c ≤ c') (h2 : n ≤ n') : FrameEnd s (.returned v) u L' c' n' :=
  ⟨hq.1, hq.2.1, (hq.2.2.sift fun y hy => Or.inr (N y hy)).mono h1 h2⟩
end S
end Jvm.OwnKit
namespace Jvm.Pilot.@@N@@
open Jvm Jvm.ClassFile Sem Op Lib Jvm.Free Jvm.Stand Jvm.LawKit Jvm.RoadKit Bundle Jvm.OwnKit Jvm.Pilot.@@N@@.Jvm.D
abbrev fl_IdleHeap : Fl := [("com/example/rowan/rowan/store/IdleHeap", "entries", "[I", (.array .int)), ("com/example/rowan/rowan/store/IdleHeap", "times", "[J", (.array .long)), ("com/example/rowan/rowan/store/IdleHeap", "slots", "[I", (.array .int)), ("com/example/rowan/rowan/store/IdleHeap", "size", "I", .int)]
theorem la_IdleHeap {Z : State} {a0 : Array Value} (hw : ∀ d ∈ tables_1, d.before a0 Z = true) : LA Z a0 "com/example/rowan/rowan/store/IdleHeap" fl_IdleHeap := by
  refine ⟨fun f hf => ?_, by decide⟩
  simp only [fl_IdleHeap, List.mem_cons, List.not_mem_nil, or_false] at hf
  rcases hf with rfl | rfl | rfl | rfl
  · exact ⟨Or.inl (hw _ (List.mem_of_getElem? (i := 11) rfl)), by decide⟩
  · exact ⟨Or.inl (hw _ (List.mem_of_getElem? (i := 14) rfl)), by decide⟩
  · exact ⟨Or.inl (hw _ (List.mem_of_getElem? (i := 16) rfl)), by decide⟩
  · exact ⟨Or.inl (hw _ (List.mem_of_getElem? (i := 49) rfl)), by decide⟩
def sv (N : Nat) (f : Nat → Int32) : List Value := (List.range N).map fun j => Value.int (f j)
def upd (f : Nat → Int32) (r : Nat) (v : Int32) : Nat → Int32 := fun j => if j = r then v else f j
theorem upd_same (f : Nat → Int32) (r : Nat) (v : Int32) : upd f r v r = v := if_pos rfl
theorem upd_ne {f : Nat → Int32} {r j : Nat} {v : Int32} (h : j ≠ r) : upd f r v j = f j := if_neg h
theorem sv_len (N : Nat) (f : Nat → Int32) : (sv N f).length = N := by simp [sv]
theorem sv_get {N : Nat} {f : Nat → Int32} {j : Nat} (h : j < N) : (sv N f)[j]? = some (.int (f j)) := by simp [sv, h]
theorem sv_set (N : Nat) (f : Nat → Int32) (r : Nat) (v : Int32) : (sv N f).set r (.int v) = sv N (upd f r v) := by
  apply List.ext_getElem?
  intro i
  by_cases hi : i < N
  · rw [sv_get hi]
    by_cases e : r = i
    · subst e; rw [List.getElem?_set_self (by rw [sv_len]; exact hi), upd_same]
    · rw [List.getElem?_set_ne e, sv_get hi, upd_ne (Ne.symm e)]
  · rw [List.getElem?_eq_none (by rw [List.length_set, sv_len]; omega), List.getElem?_eq_none (by rw [sv_len]; omega)]
def lv (N : Nat) (f : Nat → Int64) : List Value := (List.range N).map fun j => Value.long (f j)
def updL (f : Nat → Int64) (r : Nat) (v : Int64) : Nat → Int64 := fun j => if j = r then v else f j
theorem updL_same (f : Nat → Int64) (r : Nat) (v : Int64) : updL f r v r = v := if_pos rfl
theorem updL_ne {f : Nat → Int64} {r j : Nat} {v : Int64} (h : j ≠ r) : updL f r v j = f j := if_neg h
theorem lv_len (N : Nat) (f : Nat → Int64) : (lv N f).length = N := by simp [lv]
theorem lv_get {N : Nat} {f : Nat → Int64} {j : Nat} (h : j < N) : (lv N f)[j]? = some (.long (f j)) := by simp [lv, h]
theorem lv_set (N : Nat) (f : Nat → Int64) (r : Nat) (v : Int64) : (lv N f).set r (.long v) = lv N (updL f r v) := by
  apply List.ext_getElem?
  intro i
  by_cases hi : i < N
  · rw [lv_get hi]
    by_cases e : r = i
    · subst e; rw [List.getElem?_set_self (by rw [lv_len]; exact hi), updL_same]
    · rw [List.getElem?_set_ne e, lv_get hi, updL_ne (Ne.symm e)]
  · rw [List.getElem?_eq_none (by rw [List.length_set, lv_len]; omega), List.getElem?_eq_none (by rw [lv_len]; omega)]
theorem own_ofNat {j : Nat} (h : j < 2147483648) : (Int32.ofNat j).toInt = j := Int32.toInt_ofNat_of_lt h
theorem own_clamp {z : Int32} {n : Nat} (h : z.toInt = n) : z.toNatClampNeg = n := by rw [Int32.toNatClampNeg, h]; rfl
theorem own_nn {z : Int32} {n : Nat} (h : z.toInt = n) : ¬ z < 0 := by rw [Int32.lt_iff_toInt_lt, h]; show ¬ (n : Int) < 0; omega
theorem own_inj {a b : Nat} (ha : a < 4) (hb : b < 4) (h : Int32.ofNat a = Int32.ofNat b) : a = b := by
  have := congrArg Int32.toInt h
  rw [own_ofNat (by omega), own_ofNat (by omega)] at this; omega
theorem own_ne1 {a : Nat} (ha : a < 4) : Int32.ofNat a ≠ -1 := fun h => by
  have := congrArg Int32.toInt h
  rw [own_ofNat (by omega)] at this
  have e : (-1 : Int32).toInt = -1 := rfl
  omega
theorem own_uid (f : Nat → Int32) (r : Nat) {v : Int32} (h : f r = v) : upd f r v = f := by
  funext j; by_cases e : j = r
  · rw [e, upd_same, h]
  · rw [upd_ne e]
theorem own_uidL (f : Nat → Int64) (r : Nat) {v : Int64} (h : f r = v) : updL f r v = f := by
  funext j; by_cases e : j = r
  · rw [e, updL_same, h]
  · rw [updL_ne e]
/-- entries, times and slots hold the map M: sz entries -/
def PP (sz : Nat) (e : Nat → Int32) (τ : Nat → Int64) (g : Nat → Int32) (M : Nat → Option Int64) : Prop :=
  sz ≤ 3 ∧ (∀ i, i < sz → ∃ y, y < 4 ∧ e i = Int32.ofNat y ∧ M y = some (τ i) ∧ g y = Int32.ofNat i) ∧ (∀ y, y < 4 → (M y = none ∧ g y = -1) ∨ ∃ i, i < sz ∧ e i = Int32.ofNat y)
def HO (sz : Nat) (τ : Nat → Int64) : Prop := ∀ i, i < sz → (τ 0).toInt ≤ (τ i).toInt
def put (M : Nat → Option Int64) (y : Nat) (v : Option Int64) : Nat → Option Int64 := fun j => if j = y then v else M j
theorem put_same (M : Nat → Option Int64) (y : Nat) (v : Option Int64) : put M y v y = v := if_pos rfl
theorem put_ne {M : Nat → Option Int64} {y j : Nat} {v : Option Int64} (h : j ≠ y) : put M y v j = M j := if_neg h
theorem PP.dist {sz : Nat} {e g : Nat → Int32} {τ : Nat → Int64} {M : Nat → Option Int64} (P : PP sz e τ g M) {i j y : Nat} (hi : i < sz) (hj : j < sz) (hy : y < 4) (ei : e i = Int32.ofNat y) (ej : e j = Int32.ofNat y) : i = j := by
  obtain ⟨s, P1, -⟩ := P
  obtain ⟨a, a1, a2, -, a4⟩ := P1 i hi
  obtain ⟨b, b1, b2, -, b4⟩ := P1 j hj
  have e1 := own_inj a1 hy (a2.symm.trans ei)
  have e2 := own_inj b1 hy (b2.symm.trans ej)
  subst e1 e2
  exact own_inj (by omega) (by omega) (a4.symm.trans b4)
theorem PP.at {sz : Nat} {e g : Nat → Int32} {τ : Nat → Int64} {M : Nat → Option Int64} (P : PP sz e τ g M) {i y : Nat} (hi : i < sz) (hy : y < 4) (ei : e i = Int32.ofNat y) : M y = some (τ i) ∧ g y = Int32.ofNat i := by
  obtain ⟨s, P1, -⟩ := P
  obtain ⟨a, a1, a2, a3, a4⟩ := P1 i hi
  have e1 := own_inj a1 hy (a2.symm.trans ei)
  subst e1; exact ⟨a3, a4⟩
theorem PP.swap {sz : Nat} {e g : Nat → Int32} {τ : Nat → Int64} {M : Nat → Option Int64} (P : PP sz e τ g M) {i j yi yj : Nat} (hi : i < sz) (hj : j < sz) (hij : i ≠ j) (hyi : yi < 4) (hyj : yj < 4) (ei : e i = Int32.ofNat yi) (ej : e j = Int32.ofNat yj) :
    PP sz (upd (upd e i (Int32.ofNat yj)) j (Int32.ofNat yi)) (updL (updL τ i (τ j)) j (τ i)) (upd (upd g yj (Int32.ofNat i)) yi (Int32.ofNat j)) M := by
  have ne : yj ≠ yi := fun q => hij (P.dist hi hj hyi ei (q ▸ ej))
  obtain ⟨mi, -⟩ := P.at hi hyi ei
  obtain ⟨mj, -⟩ := P.at hj hyj ej
  have P0 := P
  obtain ⟨s, P1, P2⟩ := P
  refine ⟨s, fun k hk => ?_, fun y hy => ?_⟩
  · by_cases kj : k = j
    · subst kj; exact ⟨yi, hyi, upd_same _ _ _, by rw [updL_same]; exact mi, upd_same _ _ _⟩
    · by_cases ki : k = i
      · subst ki; exact ⟨yj, hyj, by rw [upd_ne kj, upd_same], by rw [updL_ne kj, updL_same]; exact mj, by rw [upd_ne ne, upd_same]⟩
      · obtain ⟨a, a1, a2, a3, a4⟩ := P1 k hk
        refine ⟨a, a1, by rw [upd_ne kj, upd_ne ki]; exact a2, by rw [updL_ne kj, updL_ne ki]; exact a3, ?_⟩
        rw [upd_ne, upd_ne]
        · exact a4
        · exact fun q => kj (P0.dist hk hj hyj (q ▸ a2) ej)
        · exact fun q => ki (P0.dist hk hi hyi (q ▸ a2) ei)
  · rcases P2 y hy with ⟨q1, q2⟩ | ⟨k, k1, k2⟩
    · refine Or.inl ⟨q1, ?_⟩
      rw [upd_ne, upd_ne]
      · exact q2
      · exact fun q => by rw [q, mj] at q1; cases q1
      · exact fun q => by rw [q, mi] at q1; cases q1
    · refine Or.inr ?_
      by_cases kj : k = j
      · refine ⟨i, hi, ?_⟩
        rw [upd_ne hij, upd_same, ← ej, ← kj]; exact k2
      · by_cases ki : k = i
        · refine ⟨j, hj, ?_⟩
          rw [upd_same, ← ei, ← ki]; exact k2
        · exact ⟨k, k1, by rw [upd_ne kj, upd_ne ki]; exact k2⟩
theorem PP.keep {sz : Nat} {e g : Nat → Int32} {τ : Nat → Int64} {M : Nat → Option Int64} (P : PP sz e τ g M) {i y : Nat} (hi : i < sz) (hy : y < 4) (ei : e i = Int32.ofNat y) : PP sz (upd e i (Int32.ofNat y)) (updL τ i (τ i)) (upd g y (Int32.ofNat i)) M := by
  rw [own_uid e i ei, own_uidL τ i rfl, own_uid g y (P.at hi hy ei).2]; exact P
/-- a new entry at the end -/
theorem PP.push {sz : Nat} {e g : Nat → Int32} {τ : Nat → Int64} {M : Nat → Option Int64} (P : PP sz e τ g M) (hs : sz < 3) {y : Nat} (hy : y < 4) (hM : M y = none) (v : Int64) : PP (sz + 1) (upd e sz (Int32.ofNat y)) (updL τ sz v) (upd g y (Int32.ofNat sz)) (put M y (some v)) := by
  obtain ⟨s, P1, P2⟩ := P
  refine ⟨by omega, fun k hk => ?_, fun x hx => ?_⟩
  · by_cases q : k = sz
    · subst q; exact ⟨y, hy, upd_same _ _ _, by rw [put_same, updL_same], upd_same _ _ _⟩
    · obtain ⟨a, a1, a2, a3, a4⟩ := P1 k (by omega)
      have ay : a ≠ y := fun r => by rw [r, hM] at a3; cases a3
      exact ⟨a, a1, by rw [upd_ne q]; exact a2, by rw [put_ne ay, updL_ne q]; exact a3, by rw [upd_ne ay]; exact a4⟩
  · by_cases q : x = y
    · subst q; exact Or.inr ⟨sz, by omega, upd_same _ _ _⟩
    · rcases P2 x hx with ⟨q1, q2⟩ | ⟨k, k1, k2⟩
      · exact Or.inl ⟨by rw [put_ne q]; exact q1, by rw [upd_ne q]; exact q2⟩
      · exact Or.inr ⟨k, by omega, by rw [upd_ne (by omega)]; exact k2⟩
/-- a later time -/
theorem PP.time {sz : Nat} {e g : Nat → Int32} {τ : Nat → Int64} {M : Nat → Option Int64} (P : PP sz e τ g M) {i y : Nat} (hi : i < sz) (hy : y < 4) (ei : e i = Int32.ofNat y) (v : Int64) : PP sz e (updL τ i v) g (put M y (some v)) := by
  have P0 := P
  obtain ⟨s, P1, P2⟩ := P
  obtain ⟨mi, gi⟩ := P0.at hi hy ei
  refine ⟨s, fun k hk => ?_, fun x hx => ?_⟩
  · by_cases q : k = i
    · subst q; exact ⟨y, hy, ei, by rw [put_same, updL_same], gi⟩
    · obtain ⟨a, a1, a2, a3, a4⟩ := P1 k hk
      have ay : a ≠ y := fun r => q (P0.dist hk hi hy (r ▸ a2) ei)
      exact ⟨a, a1, a2, by rw [put_ne ay, updL_ne q]; exact a3, a4⟩
  · rcases P2 x hx with ⟨q1, q2⟩ | r
    · exact Or.inl ⟨by rw [put_ne (fun q => by rw [q, mi] at q1; cases q1)]; exact q1, q2⟩
    · exact Or.inr r
/-- the last entry taken out -/
theorem PP.pop {sz : Nat} {e g : Nat → Int32} {τ : Nat → Int64} {M : Nat → Option Int64} (P : PP (sz + 1) e τ g M) {y : Nat} (hy : y < 4) (ei : e sz = Int32.ofNat y) : PP sz e τ (upd g y (-1)) (put M y none) := by
  have P0 := P
  obtain ⟨s, P1, P2⟩ := P
  refine ⟨by omega, fun k hk => ?_, fun x hx => ?_⟩
  · obtain ⟨a, a1, a2, a3, a4⟩ := P1 k (by omega)
    have ay : a ≠ y := fun r => by have := P0.dist (show k < sz + 1 by omega) (show sz < sz + 1 by omega) hy (r ▸ a2) ei; omega
    exact ⟨a, a1, a2, by rw [put_ne ay]; exact a3, by rw [upd_ne ay]; exact a4⟩
  · by_cases q : x = y
    · subst q; exact Or.inl ⟨put_same _ _ _, upd_same _ _ _⟩
    · rcases P2 x hx with ⟨q1, q2⟩ | ⟨k, k1, k2⟩
      · exact Or.inl ⟨by rw [put_ne q]; exact q1, by rw [upd_ne q]; exact q2⟩
      · refine Or.inr ⟨k, ?_, k2⟩
        rcases Nat.lt_or_ge k sz with r | r
        · exact r
        · have : k = sz := by omega
          subst this
          exact absurd (own_inj hx hy (k2.symm.trans ei)) q
/-- an entry taken out of the middle, the last one in its place -/
theorem PP.fill {sz : Nat} {e g : Nat → Int32} {τ : Nat → Int64} {M : Nat → Option Int64} (P : PP (sz + 1) e τ g M) {i y z : Nat} (hi : i < sz) (hy : y < 4) (hz : z < 4) (ei : e i = Int32.ofNat y) (ez : e sz = Int32.ofNat z) : PP sz (upd e i (Int32.ofNat z)) (updL τ i (τ sz)) (upd (upd g y (-1)) z (Int32.ofNat i)) (put M y none) := by
  have P0 := P
  have yz : z ≠ y := fun q => by have := P0.dist (show i < sz + 1 by omega) (show sz < sz + 1 by omega) hy ei (q ▸ ez); omega
  obtain ⟨mz, -⟩ := P0.at (show sz < sz + 1 by omega) hz ez
  obtain ⟨s, P1, P2⟩ := P
  refine ⟨by omega, fun k hk => ?_, fun x hx => ?_⟩
  · by_cases q : k = i
    · subst q; exact ⟨z, hz, upd_same _ _ _, by rw [put_ne yz, updL_same]; exact mz, upd_same _ _ _⟩
    · obtain ⟨a, a1, a2, a3, a4⟩ := P1 k (by omega)
      have ay : a ≠ y := fun r => q (P0.dist (by omega) (by omega) hy (r ▸ a2) ei)
      have az : a ≠ z := fun r => by have := P0.dist (show k < sz + 1 by omega) (show sz < sz + 1 by omega) hz (r ▸ a2) ez; omega
      exact ⟨a, a1, by rw [upd_ne q]; exact a2, by rw [put_ne ay, updL_ne q]; exact a3, by rw [upd_ne az, upd_ne ay]; exact a4⟩
  · by_cases q : x = y
    · subst q; exact Or.inl ⟨put_same _ _ _, by rw [upd_ne (Ne.symm yz), upd_same]⟩
    · rcases P2 x hx with ⟨q1, q2⟩ | ⟨k, k1, k2⟩
      · have xz : x ≠ z := fun r => by rw [r, mz] at q1; cases q1
        exact Or.inl ⟨by rw [put_ne q]; exact q1, by rw [upd_ne xz, upd_ne q]; exact q2⟩
      · refine Or.inr ?_
        by_cases ki : k = i
        · subst ki; exact absurd (own_inj hx hy (k2.symm.trans ei)) q
        · rcases Nat.lt_or_ge k sz with r | r
          · exact ⟨k, r, by rw [upd_ne ki]; exact k2⟩
          · have : k = sz := by omega
            subst this
            exact ⟨i, hi, by rw [upd_same, ← ez]; exact k2⟩
theorem own_ix {j : Nat} (h : j < 4) : (Int32.ofNat j).toNatClampNeg = j := own_clamp (own_ofNat (by omega))
theorem own_ix0 {j : Nat} (h : j < 4) : ¬ Int32.ofNat j < 0 := own_nn (own_ofNat (by omega))
theorem own_svg {f : Nat → Int32} {j : Nat} (h : j < 4) : (sv 4 f)[(Int32.ofNat j).toNatClampNeg]? = some (.int (f j)) := by rw [own_ix h]; exact sv_get h
theorem own_lvg {f : Nat → Int64} {j : Nat} (h : j < 4) : (lv 4 f)[(Int32.ofNat j).toNatClampNeg]? = some (.long (f j)) := by rw [own_ix h]; exact lv_get h
theorem own_svl {f : Nat → Int32} {j : Nat} (h : j < 4) : (Int32.ofNat j).toNatClampNeg < (sv 4 f).length := by rw [own_ix h, sv_len]; exact h
theorem own_lvl {f : Nat → Int64} {j : Nat} (h : j < 4) : (Int32.ofNat j).toNatClampNeg < (lv 4 f).length := by rw [own_ix h, lv_len]; exact h
theorem own_ho1 {τ : Nat → Int64} : HO 1 τ := fun i hi => by
  obtain rfl : i = 0 := by omega
  exact Int.le_refl _
theorem own_ho2 {τ : Nat → Int64} (h : ¬ τ 1 < τ 0) : HO 2 τ := fun i hi => by
  rw [Int64.lt_iff_toInt_lt] at h
  obtain rfl | rfl : i = 0 ∨ i = 1 := by omega
  · exact Int.le_refl _
  · omega
theorem own_ho3 {τ : Nat → Int64} (h : ¬ τ 1 < τ 0) (h' : ¬ τ 2 < τ 0) : HO 3 τ := fun i hi => by
  rw [Int64.lt_iff_toInt_lt] at h h'
  obtain rfl | rfl | rfl : i = 0 ∨ i = 1 ∨ i = 2 := by omega
  · exact Int.le_refl _
  · omega
  · omega
theorem own_lt64 {a b : Int64} (h : a < b) : ¬ b < a := by rw [Int64.lt_iff_toInt_lt] at *; omega
theorem own_le64 {a b : Int64} (h : a.toInt ≤ b.toInt) : ¬ b < a := by rw [Int64.lt_iff_toInt_lt]; omega
theorem own_tr64 {a b c : Int64} (h : a < b) (h' : ¬ c < b) : ¬ c < a := by rw [Int64.lt_iff_toInt_lt] at *; omega
theorem own_tr64' {a b c : Int64} (h : ¬ b < a) (h' : ¬ c < b) : ¬ c < a := by rw [Int64.lt_iff_toInt_lt] at *; omega
theorem own_u0 {τ : Nat → Int64} {i : Nat} {a c : Int64} (h : 0 ≠ i) : updL (updL τ 0 a) i c 0 = a := by rw [updL_ne h, updL_same]
theorem PP.has {sz : Nat} {e g : Nat → Int32} {τ : Nat → Int64} {M : Nat → Option Int64} (P : PP sz e τ g M) {y : Nat} {v : Int64} (hy : y < 4) (hM : M y = some v) : ∃ i, i < sz ∧ e i = Int32.ofNat y ∧ τ i = v ∧ g y = Int32.ofNat i := by
  rcases P.2.2 y hy with ⟨q, -⟩ | ⟨i, hi, ei⟩
  · rw [q] at hM; cases hM
  · obtain ⟨m, gg⟩ := P.at hi hy ei
    rw [hM] at m
    exact ⟨i, hi, ei, (Option.some.inj m).symm, gg⟩
theorem own_put0 {M : Nat → Option Int64} {y : Nat} (h : M y = none) : put M y none = M := by
  funext j; by_cases q : j = y
  · rw [q, put_same, h]
  · rw [put_ne q]
theorem own_hoU {sz f : Nat} {τ : Nat → Int64} (h : HO sz τ) : ∀ i, i < sz → i ≠ f → (τ 0).toInt ≤ (τ i).toInt := fun i hi _ => h i hi
theorem own_hoA {sz : Nat} {τ : Nat → Int64} {v : Int64} (h : HO sz τ) : ∀ i, i < sz + 1 → i ≠ sz → (updL τ sz v 0).toInt ≤ (updL τ sz v i).toInt := fun i hi q => by
  rw [updL_ne q, updL_ne (by omega)]; exact h i (by omega)
theorem own_hoD {sz i : Nat} {τ : Nat → Int64} {v w : Int64} (h : HO sz τ) (hw : τ i = w) (hv : w.toInt ≤ v.toInt) (hi : i < sz) : i ≠ 0 → HO sz (updL τ i v) := fun q j hj => by
  rw [updL_ne (Ne.symm q)]
  by_cases r : j = i
  · rw [r, updL_same]; have := h i hi; rw [hw] at this; omega
  · rw [updL_ne r]; exact h j hj
theorem own_hoR {sz i : Nat} {τ : Nat → Int64} (h : HO (sz + 1) τ) : i ≠ 0 → HO sz (updL τ i (τ sz)) := fun q j hj => by
  rw [updL_ne (Ne.symm q)]
  by_cases r : j = i
  · rw [r, updL_same]; exact h sz (by omega)
  · rw [updL_ne r]; exact h j (by omega)
theorem own_hoP {sz : Nat} {τ : Nat → Int64} (h : HO (sz + 1) τ) : HO sz τ := fun j hj => h j (by omega)
theorem d1_0 : decode prog_26_method_1_code 0 = .ok (.aload_n 0, 1) := by decide +kernel
theorem d1_1 : decode prog_26_method_1_code 1 = .ok (.invokespecial 1, 3) := by decide +kernel
theorem d1_4 : decode prog_26_method_1_code 4 = .ok (.aload_n 0, 1) := by decide +kernel
theorem d1_5 : decode prog_26_method_1_code 5 = .ok (.iconst 0, 1) := by decide +kernel
theorem d1_6 : decode prog_26_method_1_code 6 = .ok (.newarray .int, 2) := by decide +kernel
theorem d1_8 : decode prog_26_method_1_code 8 = .ok (.putfield 7, 3) := by decide +kernel
theorem d1_11 : decode prog_26_method_1_code 11 = .ok (.aload_n 0, 1) := by decide +kernel
theorem d1_12 : decode prog_26_method_1_code 12 = .ok (.iconst 0, 1) := by decide +kernel
theorem d1_13 : decode prog_26_method_1_code 13 = .ok (.newarray .long, 2) := by decide +kernel
theorem d1_15 : decode prog_26_method_1_code 15 = .ok (.putfield 13, 3) := by decide +kernel
theorem d1_18 : decode prog_26_method_1_code 18 = .ok (.aload_n 0, 1) := by decide +kernel
theorem d1_19 : decode prog_26_method_1_code 19 = .ok (.iconst 0, 1) := by decide +kernel
theorem d1_20 : decode prog_26_method_1_code 20 = .ok (.newarray .int, 2) := by decide +kernel
theorem d1_22 : decode prog_26_method_1_code 22 = .ok (.putfield 17, 3) := by decide +kernel
theorem d1_25 : decode prog_26_method_1_code 25 = .ok (.return_, 1) := by decide +kernel
theorem pn_com_example_rowan_rowan_store_IdleHeap : plainName "com/example/rowan/rowan/store/IdleHeap" = true := by first | (simp [plainName, overriddenIn]; done) | decide +kernel
set_option maxRecDepth 65536 in
set_option maxHeartbeats 40000000 in
theorem rm_ctor (l : Launch) (Z : State) (a0 : Array Value) (hw : ∀ d ∈ tables_1, d.before a0 Z = true) (ws : List Jvm.Cond) (n0 : Nat) (h0 : Heap) (Z0 : Old Z n0 h0) (t : Addr) (A_t : Ob Z h0 t "com/example/rowan/rowan/store/IdleHeap" fl_IdleHeap [.null, .null, .null, .int 0]) (ge_t : n0 ≤ t)  :
    Met l Z n0 (⟨"com/example/rowan/rowan/store/IdleHeap", "<init>", "()V"⟩ : MethodName) prog_26_method_1_code 1 none ws ({ frames := 1, cells := 3, slots := 0, locals := 12 } : Room) #[(.ref t)] h0 (fun u h => u = none ∧ ∃ en ti sl, (h0.size ≤ en ∧ h0.size ≤ ti ∧ h0.size ≤ sl) ∧ (n0 ≤ en ∧ n0 ≤ ti ∧ n0 ≤ sl) ∧ (t ≠ en ∧ t ≠ ti ∧ t ≠ sl ∧ en ≠ ti ∧ en ≠ sl ∧ ti ≠ sl) ∧ Keep h0 h [t] ∧ Ob Z h t "com/example/rowan/rowan/store/IdleHeap" fl_IdleHeap [.ref en, .ref ti, .ref sl, .int 0] ∧ PA .int Z h en [] ∧ PA .long Z h ti [] ∧ PA .int Z h sl []) := by
  refine met_of Z0 (plainFor_of_name pn_com_example_rowan_rowan_store_IdleHeap) (Ls := #[.val (.ref t)]) (fun m => by first | (simp [entryFrame, mkF, argsToLocals, Value.category]; done) | rfl) ?_
  intro K ok
  have Kp : Keep h0 h0 [t] := Keep.refl _ _
  show W K l _ n0 _ h0 0 0 0 #[.val (.ref t)] []
  refine w_aloadN ok d1_0 rfl rfl ?_
  refine w_initO ok d1_1 (hw _ (List.mem_of_getElem? (i := 6) rfl)) (hw _ (List.mem_of_getElem? (i := 7) rfl)) (hw _ (List.mem_of_getElem? (i := 8) rfl)) rfl (by decide) (Nat.le_of_ble_eq_true rfl) ?_
  show W K l _ n0 _ h0 0 0 4 #[.val (.ref t)] []
  refine w_aloadN ok d1_4 rfl rfl ?_
  refine w_iconst ok d1_5 (v := (0 : Int32)) rfl ?_
  refine w_newarray ok d1_6 (hw _ (List.mem_of_getElem? (i := 9) rfl)) (by decide) (cap := 0) (by decide) (by decide) (by decide) (by decide) (fun h2 b1 ea_b1 ge_b1 E_b1 A_b1 => ?_)
  have sz_b1 : h0.size ≤ b1 := Nat.le_trans Kp.1 (Nat.le_of_eq ea_b1.symm)
  have ne_t_b1 : t ≠ b1 := fun q => Nat.lt_irrefl _ (Nat.lt_of_lt_of_eq A_t.lt (ea_b1.symm.trans q.symm))
  replace Kp := Kp.ext E_b1
  replace A_t := A_t.ext E_b1
  replace A_b1 : PA .int Z h2 b1 [] := A_b1
  refine w_putfield ok (host := "") (f := ("com/example/rowan/rowan/store/IdleHeap", "entries", "[I", (.array .int))) 0 d1_8 (Or.inl (hw _ (List.mem_of_getElem? (i := 10) rfl))) Via.refl A_t (la_IdleHeap hw) rfl rfl (Or.inl (hw _ (List.mem_of_getElem? (i := 11) rfl))) (hw _ (List.mem_of_getElem? (i := 1) rfl)) rfl rfl ge_t (fun h3 W_h3 A1_h3 => ?_)
  replace Kp := Kp.wr W_h3 (Or.inl (by simp))
  replace A_b1 := A_b1.other W_h3 (Ne.symm ne_t_b1)
  replace A_t : Ob Z h3 t "com/example/rowan/rowan/store/IdleHeap" fl_IdleHeap [(.ref b1), .null, .null, (.int (0 : Int32))] := A1_h3
  refine w_aloadN ok d1_11 rfl rfl ?_
  refine w_iconst ok d1_12 (v := (0 : Int32)) rfl ?_
  refine w_newarray ok d1_13 (hw _ (List.mem_of_getElem? (i := 12) rfl)) (by decide) (cap := 0) (by decide) (by decide) (by decide) (by decide) (fun h5 b4 ea_b4 ge_b4 E_b4 A_b4 => ?_)
  have sz_b4 : h0.size ≤ b4 := Nat.le_trans Kp.1 (Nat.le_of_eq ea_b4.symm)
  have ne_t_b4 : t ≠ b4 := fun q => Nat.lt_irrefl _ (Nat.lt_of_lt_of_eq A_t.lt (ea_b4.symm.trans q.symm))
  have ne_b1_b4 : b1 ≠ b4 := fun q => Nat.lt_irrefl _ (Nat.lt_of_lt_of_eq A_b1.lt (ea_b4.symm.trans q.symm))
  replace Kp := Kp.ext E_b4
  replace A_t := A_t.ext E_b4
  replace A_b1 := A_b1.ext E_b4
  replace A_b4 : PA .long Z h5 b4 [] := A_b4
  refine w_putfield ok (host := "") (f := ("com/example/rowan/rowan/store/IdleHeap", "times", "[J", (.array .long))) 1 d1_15 (Or.inl (hw _ (List.mem_of_getElem? (i := 13) rfl))) Via.refl A_t (la_IdleHeap hw) rfl rfl (Or.inl (hw _ (List.mem_of_getElem? (i := 14) rfl))) (hw _ (List.mem_of_getElem? (i := 1) rfl)) rfl rfl ge_t (fun h6 W_h6 A1_h6 => ?_)
  replace Kp := Kp.wr W_h6 (Or.inl (by simp))
  replace A_b1 := A_b1.other W_h6 (Ne.symm ne_t_b1)
  replace A_b4 := A_b4.other W_h6 (Ne.symm ne_t_b4)
  replace A_t : Ob Z h6 t "com/example/rowan/rowan/store/IdleHeap" fl_IdleHeap [(.ref b1), (.ref b4), .null, (.int (0 : Int32))] := A1_h6
  refine w_aloadN ok d1_18 rfl rfl ?_
  refine w_iconst ok d1_19 (v := (0 : Int32)) rfl ?_
  refine w_newarray ok d1_20 (hw _ (List.mem_of_getElem? (i := 9) rfl)) (by decide) (cap := 0) (by decide) (by decide) (by decide) (by decide) (fun h8 b7 ea_b7 ge_b7 E_b7 A_b7 => ?_)
  have sz_b7 : h0.size ≤ b7 := Nat.le_trans Kp.1 (Nat.le_of_eq ea_b7.symm)
  have ne_t_b7 : t ≠ b7 := fun q => Nat.lt_irrefl _ (Nat.lt_of_lt_of_eq A_t.lt (ea_b7.symm.trans q.symm))
  have ne_b1_b7 : b1 ≠ b7 := fun q => Nat.lt_irrefl _ (Nat.lt_of_lt_of_eq A_b1.lt (ea_b7.symm.trans q.symm))
  have ne_b4_b7 : b4 ≠ b7 := fun q => Nat.lt_irrefl _ (Nat.lt_of_lt_of_eq A_b4.lt (ea_b7.symm.trans q.symm))
  replace Kp := Kp.ext E_b7
  replace A_t := A_t.ext E_b7
  replace A_b1 := A_b1.ext E_b7
  replace A_b4 := A_b4.ext E_b7
  replace A_b7 : PA .int Z h8 b7 [] := A_b7
  refine w_putfield ok (host := "") (f := ("com/example/rowan/rowan/store/IdleHeap", "slots", "[I", (.array .int))) 2 d1_22 (Or.inl (hw _ (List.mem_of_getElem? (i := 15) rfl))) Via.refl A_t (la_IdleHeap hw) rfl rfl (Or.inl (hw _ (List.mem_of_getElem? (i := 16) rfl))) (hw _ (List.mem_of_getElem? (i := 1) rfl)) rfl rfl ge_t (fun h9 W_h9 A1_h9 => ?_)
  replace Kp := Kp.wr W_h9 (Or.inl (by simp))
  replace A_b1 := A_b1.other W_h9 (Ne.symm ne_t_b1)
  replace A_b4 := A_b4.other W_h9 (Ne.symm ne_t_b4)
  replace A_b7 := A_b7.other W_h9 (Ne.symm ne_t_b7)
  replace A_t : Ob Z h9 t "com/example/rowan/rowan/store/IdleHeap" fl_IdleHeap [(.ref b1), (.ref b4), (.ref b7), (.int (0 : Int32))] := A1_h9
  refine w_ret ok d1_25 (by decide) (by decide) ?_
  exact ⟨rfl, b1, b4, b7, ⟨sz_b1, sz_b4, sz_b7⟩, ⟨ge_b1, ge_b4, ge_b7⟩, ⟨ne_t_b1, ne_t_b4, ne_t_b7, ne_b1_b4, ne_b1_b7, ne_b4_b7⟩, Kp, A_t, A_b1, A_b4, A_b7⟩
def own_min (a b : Int32) : Int32 := if b < a then b else a
theorem own_min_lt {a b : Int32} (h : a.toNatClampNeg < b.toNatClampNeg) (h0 : ¬ a < 0) (h1 : ¬ b < 0) : own_min a b = a := by
  rw [own_min, if_neg]
  have e1 := nat_of h0; have e2 := nat_of h1
  rw [Int32.lt_iff_toInt_lt]; omega
theorem d5_0 : decode jdk_29_method_69_code 0 = .ok (.iload_n 0, 1) := by decide +kernel
theorem d5_1 : decode jdk_29_method_69_code 1 = .ok (.iload_n 1, 1) := by decide +kernel
theorem d5_2 : decode jdk_29_method_69_code 2 = .ok (.if_icmp .gt 7, 3) := by decide +kernel
theorem d5_5 : decode jdk_29_method_69_code 5 = .ok (.iload_n 0, 1) := by decide +kernel
theorem d5_6 : decode jdk_29_method_69_code 6 = .ok (.goto 4, 3) := by decide +kernel
theorem d5_9 : decode jdk_29_method_69_code 9 = .ok (.iload_n 1, 1) := by decide +kernel
theorem d5_10 : decode jdk_29_method_69_code 10 = .ok (.ireturn, 1) := by decide +kernel
set_option maxRecDepth 65536 in
set_option maxHeartbeats 40000000 in
theorem rm_min (l : Launch) (Z : State) (a0 : Array Value) (hw : ∀ d ∈ tables_1, d.before a0 Z = true) (ws : List Jvm.Cond) (n0 : Nat) (h0 : Heap) (Z0 : Old Z n0 h0) (a b : Int32)  :
    Met l Z n0 (⟨"java/lang/Math", "min", "(II)I"⟩ : MethodName) jdk_29_method_69_code 2 (some .int) ws ({ frames := 0, cells := 0, slots := 0, locals := 0 } : Room) #[(.int a), (.int b)] h0 (fun u h => u = some (.int (own_min a b)) ∧ h0 = h) := by
  refine met_of Z0 (Jvm.Free.JP.mathPlain rfl (by decide +kernel)) (Ls := #[.val (.int a), .val (.int b)]) (fun m => by first | (simp [entryFrame, mkF, argsToLocals, Value.category]; done) | rfl) ?_
  intro K ok
  show W K l _ n0 _ h0 0 0 0 #[.val (.int a), .val (.int b)] []
  refine w_iloadN ok d5_0 rfl ?_
  refine w_iloadN ok d5_1 rfl ?_
  refine w_icmp_gt ok d5_2 (pc' := 9) (by decide) (fun hc1 => ?_) (fun hc1 => ?_)
  · show W K l _ n0 _ h0 0 0 9 #[.val (.int a), .val (.int b)] []
    refine w_iloadN ok d5_9 rfl ?_
    refine w_iret ok d5_10 (by decide) (by decide) ?_
    exact ⟨by simp [own_min, *], rfl⟩
  · show W K l _ n0 _ h0 0 0 5 #[.val (.int a), .val (.int b)] []
    refine w_iloadN ok d5_5 rfl ?_
    refine w_goto ok d5_6 (pc' := 10) (by decide) ?_
    refine w_iret ok d5_10 (by decide) (by decide) ?_
    exact ⟨by simp [own_min, *], rfl⟩
theorem d4_0 : decode jdk_65_method_123_code 0 = .ok (.iload_n 1, 1) := by decide +kernel
theorem d4_1 : decode jdk_65_method_123_code 1 = .ok (.aload_n 0, 1) := by decide +kernel
theorem d4_2 : decode jdk_65_method_123_code 2 = .ok (.arraylength, 1) := by decide +kernel
theorem d4_3 : decode jdk_65_method_123_code 3 = .ok (.if_icmp .ne 11, 3) := by decide +kernel
theorem d4_6 : decode jdk_65_method_123_code 6 = .ok (.aload_n 0, 1) := by decide +kernel
theorem d4_7 : decode jdk_65_method_123_code 7 = .ok (.invokevirtual 316, 3) := by decide +kernel
theorem d4_10 : decode jdk_65_method_123_code 10 = .ok (.checkcast 317, 3) := by decide +kernel
theorem d4_13 : decode jdk_65_method_123_code 13 = .ok (.areturn, 1) := by decide +kernel
theorem d4_14 : decode jdk_65_method_123_code 14 = .ok (.iload_n 1, 1) := by decide +kernel
theorem d4_15 : decode jdk_65_method_123_code 15 = .ok (.newarray .int, 2) := by decide +kernel
theorem d4_17 : decode jdk_65_method_123_code 17 = .ok (.astore_n 2, 1) := by decide +kernel
theorem d4_18 : decode jdk_65_method_123_code 18 = .ok (.aload_n 0, 1) := by decide +kernel
theorem d4_19 : decode jdk_65_method_123_code 19 = .ok (.iconst 0, 1) := by decide +kernel
theorem d4_20 : decode jdk_65_method_123_code 20 = .ok (.aload_n 2, 1) := by decide +kernel
theorem d4_21 : decode jdk_65_method_123_code 21 = .ok (.iconst 0, 1) := by decide +kernel
theorem d4_22 : decode jdk_65_method_123_code 22 = .ok (.aload_n 0, 1) := by decide +kernel
theorem d4_23 : decode jdk_65_method_123_code 23 = .ok (.arraylength, 1) := by decide +kernel
theorem d4_24 : decode jdk_65_method_123_code 24 = .ok (.iload_n 1, 1) := by decide +kernel
theorem d4_25 : decode jdk_65_method_123_code 25 = .ok (.invokestatic 304, 3) := by decide +kernel
theorem d4_28 : decode jdk_65_method_123_code 28 = .ok (.invokestatic 150, 3) := by decide +kernel
theorem d4_31 : decode jdk_65_method_123_code 31 = .ok (.aload_n 2, 1) := by decide +kernel
theorem d4_32 : decode jdk_65_method_123_code 32 = .ok (.areturn, 1) := by decide +kernel
theorem pn_java_util_Arrays : plainName "java/util/Arrays" = true := by first | (simp [plainName, overriddenIn]; done) | decide +kernel
theorem pd_28II29I : parseMethodDescriptor "(II)I" = some ⟨[.int, .int], some .int⟩ := by decide +kernel
set_option maxRecDepth 65536 in
set_option maxHeartbeats 40000000 in
theorem cp_int (l : Launch) (Z : State) (a0 : Array Value) (hw : ∀ d ∈ tables_1, d.before a0 Z = true) (ws : List Jvm.Cond) (n0 : Nat) (h0 : Heap) (Z0 : Old Z n0 h0) (a : Addr) (vs : List Value) (z : Int32) (A_a : PA .int Z h0 a vs) (hz : vs.length < z.toNatClampNeg) (hz0 : ¬ z < 0) (hcap : z.toNatClampNeg ≤ 4)  :
    Met l Z n0 (⟨"java/util/Arrays", "copyOf", "([II)[I"⟩ : MethodName) jdk_65_method_123_code 3 (some (.array .int)) ws ({ frames := 1, cells := 1, slots := 4, locals := 18 } : Room) #[(.ref a), (.int z)] h0 (fun u h => ∃ b, u = some (.ref b) ∧ h0.size ≤ b ∧ n0 ≤ b ∧ Keep h0 h [] ∧ PA .int Z h b (vs ++ List.replicate (z.toNatClampNeg - vs.length) (Value.int 0))) := by
  refine met_of Z0 (plainFor_of_name pn_java_util_Arrays) (Ls := #[.val (.ref a), .val (.int z), .unset]) (fun m => by first | (simp [entryFrame, mkF, argsToLocals, Value.category]; done) | rfl) ?_
  intro K ok
  have Kp : Keep h0 h0 [] := Keep.refl _ _
  obtain ⟨q, hq, hq0⟩ := pa_z A_a.len
  show W K l _ n0 _ h0 0 0 0 #[.val (.ref a), .val (.int z), .unset] []
  refine w_iloadN ok d4_0 rfl ?_
  refine w_aloadN ok d4_1 rfl rfl ?_
  refine w_arraylength ok (z := q) d4_2 A_a hq hq0 ?_
  show W K l _ n0 _ h0 0 0 3 #[.val (.ref a), .val (.int z), .unset] [(.int q), (.int z)]
  refine w_icmp_ne ok d4_3 (pc' := 14) (by decide) (fun hc1 => ?_) (fun hc1 => False.elim (by rw [hc1] at hz; omega))
  show W K l _ n0 _ h0 0 0 14 #[.val (.ref a), .val (.int z), .unset] []
  refine w_iloadN ok d4_14 rfl ?_
  refine w_newarray ok d4_15 (hw _ (List.mem_of_getElem? (i := 9) rfl)) hz0 (cap := 4) hcap (by decide) (by decide) (by decide) (fun h3 b2 ea_b2 ge_b2 E_b2 A_b2 => ?_)
  have sz_b2 : h0.size ≤ b2 := Nat.le_trans Kp.1 (Nat.le_of_eq ea_b2.symm)
  have ne_a_b2 : a ≠ b2 := fun q => Nat.lt_irrefl _ (Nat.lt_of_lt_of_eq A_a.lt (ea_b2.symm.trans q.symm))
  replace Kp := Kp.ext E_b2
  replace A_a := A_a.ext E_b2
  replace A_b2 : PA .int Z h3 b2 (List.replicate z.toNatClampNeg (.int (0 : Int32))) := A_b2
  refine w_astoreN ok d4_17 rfl (L' := #[.val (.ref a), .val (.int z), .val (.ref b2)]) rfl ?_
  refine w_aloadN ok d4_18 rfl rfl ?_
  refine w_iconst ok d4_19 (v := (0 : Int32)) rfl ?_
  refine w_aloadN ok d4_20 rfl rfl ?_
  refine w_iconst ok d4_21 (v := (0 : Int32)) rfl ?_
  refine w_aloadN ok d4_22 rfl rfl ?_
  refine w_arraylength ok (z := q) d4_23 A_a hq hq0 ?_
  show W K l _ n0 _ h3 1 4 24 #[.val (.ref a), .val (.int z), .val (.ref b2)] [(.int q), (.int (0 : Int32)), (.ref b2), (.int (0 : Int32)), (.ref a)]
  refine w_iloadN ok d4_24 rfl ?_
  refine w_callS ok (y := (⟨"java/lang/Math", "min", "(II)I"⟩ : MethodName)) (argsL := [(.int q), (.int z)]) (rest := [(.int (0 : Int32)), (.ref b2), (.int (0 : Int32)), (.ref a)]) d4_25 (hw _ (List.mem_of_getElem? (i := 26) rfl)) (hw _ (List.mem_of_getElem? (i := 27) rfl)) (hw _ (List.mem_of_getElem? (i := 28) rfl)) (hw _ (List.mem_of_getElem? (i := 29) rfl)) (by decide) pd_28II29I rfl rfl (by decide) (Nat.le_of_ble_eq_true rfl) (by decide) (by decide) (fun z0 => rm_min l Z a0 hw [] n0 h3 z0 q z) (fun v4 h5 qv4 => ?_)
  obtain ⟨rfl, rfl⟩ := qv4
  rw [own_min_lt (a := q) (b := z) (by omega) hq0 hz0]
  show W K l _ n0 _ h3 1 4 28 #[.val (.ref a), .val (.int z), .val (.ref b2)] [(.int q), (.int (0 : Int32)), (.ref b2), (.int (0 : Int32)), (.ref a)]
  refine w_arraycopy ok (sp' := 0) (dp' := 0) (nn' := vs.length) d4_28 (hw _ (List.mem_of_getElem? (i := 30) rfl)) (hw _ (List.mem_of_getElem? (i := 33) rfl)) (hw _ (List.mem_of_getElem? (i := 31) rfl)) (hw _ (List.mem_of_getElem? (i := 32) rfl)) A_a A_b2 rfl ge_b2 (by decide) (by decide) hq0 rfl rfl hq.symm (by omega) (by simp; omega) rfl (by decide) (Nat.le_of_ble_eq_true rfl) (fun h6 K_h6 A1_h6 => ?_)
  replace Kp := Kp.trans K_h6 (allS (Or.inr sz_b2) all0)
  replace A_a := A_a.keep K_h6 (ninS ne_a_b2 nin0)
  replace A_b2 : PA .int Z h6 b2 (vs ++ List.replicate (z.toNatClampNeg - vs.length) (Value.int 0)) := (by simpa using A1_h6)
  show W K l _ n0 _ h6 1 4 31 #[.val (.ref a), .val (.int z), .val (.ref b2)] []
  refine w_aloadN ok d4_31 rfl rfl ?_
  refine w_aret ok rfl rfl d4_32 (by decide) (by decide) ?_
  exact ⟨b2, rfl, sz_b2, ge_b2, Kp, A_b2⟩
theorem d6_0 : decode jdk_65_method_124_code 0 = .ok (.iload_n 1, 1) := by decide +kernel
theorem d6_1 : decode jdk_65_method_124_code 1 = .ok (.aload_n 0, 1) := by decide +kernel
theorem d6_2 : decode jdk_65_method_124_code 2 = .ok (.arraylength, 1) := by decide +kernel
theorem d6_3 : decode jdk_65_method_124_code 3 = .ok (.if_icmp .ne 11, 3) := by decide +kernel
theorem d6_6 : decode jdk_65_method_124_code 6 = .ok (.aload_n 0, 1) := by decide +kernel
theorem d6_7 : decode jdk_65_method_124_code 7 = .ok (.invokevirtual 319, 3) := by decide +kernel
theorem d6_10 : decode jdk_65_method_124_code 10 = .ok (.checkcast 320, 3) := by decide +kernel
theorem d6_13 : decode jdk_65_method_124_code 13 = .ok (.areturn, 1) := by decide +kernel
theorem d6_14 : decode jdk_65_method_124_code 14 = .ok (.iload_n 1, 1) := by decide +kernel
theorem d6_15 : decode jdk_65_method_124_code 15 = .ok (.newarray .long, 2) := by decide +kernel
theorem d6_17 : decode jdk_65_method_124_code 17 = .ok (.astore_n 2, 1) := by decide +kernel
theorem d6_18 : decode jdk_65_method_124_code 18 = .ok (.aload_n 0, 1) := by decide +kernel
theorem d6_19 : decode jdk_65_method_124_code 19 = .ok (.iconst 0, 1) := by decide +kernel
theorem d6_20 : decode jdk_65_method_124_code 20 = .ok (.aload_n 2, 1) := by decide +kernel
theorem d6_21 : decode jdk_65_method_124_code 21 = .ok (.iconst 0, 1) := by decide +kernel
theorem d6_22 : decode jdk_65_method_124_code 22 = .ok (.aload_n 0, 1) := by decide +kernel
theorem d6_23 : decode jdk_65_method_124_code 23 = .ok (.arraylength, 1) := by decide +kernel
theorem d6_24 : decode jdk_65_method_124_code 24 = .ok (.iload_n 1, 1) := by decide +kernel
theorem d6_25 : decode jdk_65_method_124_code 25 = .ok (.invokestatic 304, 3) := by decide +kernel
theorem d6_28 : decode jdk_65_method_124_code 28 = .ok (.invokestatic 150, 3) := by decide +kernel
theorem d6_31 : decode jdk_65_method_124_code 31 = .ok (.aload_n 2, 1) := by decide +kernel
theorem d6_32 : decode jdk_65_method_124_code 32 = .ok (.areturn, 1) := by decide +kernel
set_option maxRecDepth 65536 in
set_option maxHeartbeats 40000000 in
theorem cp_long (l : Launch) (Z : State) (a0 : Array Value) (hw : ∀ d ∈ tables_1, d.before a0 Z = true) (ws : List Jvm.Cond) (n0 : Nat) (h0 : Heap) (Z0 : Old Z n0 h0) (a : Addr) (vs : List Value) (z : Int32) (A_a : PA .long Z h0 a vs) (hz : vs.length < z.toNatClampNeg) (hz0 : ¬ z < 0) (hcap : z.toNatClampNeg ≤ 4)  :
    Met l Z n0 (⟨"java/util/Arrays", "copyOf", "([JI)[J"⟩ : MethodName) jdk_65_method_124_code 3 (some (.array .long)) ws ({ frames := 1, cells := 1, slots := 4, locals := 18 } : Room) #[(.ref a), (.int z)] h0 (fun u h => ∃ b, u = some (.ref b) ∧ h0.size ≤ b ∧ n0 ≤ b ∧ Keep h0 h [] ∧ PA .long Z h b (vs ++ List.replicate (z.toNatClampNeg - vs.length) (Value.long 0))) := by
  refine met_of Z0 (plainFor_of_name pn_java_util_Arrays) (Ls := #[.val (.ref a), .val (.int z), .unset]) (fun m => by first | (simp [entryFrame, mkF, argsToLocals, Value.category]; done) | rfl) ?_
  intro K ok
  have Kp : Keep h0 h0 [] := Keep.refl _ _
  obtain ⟨q, hq, hq0⟩ := pa_z A_a.len
  show W K l _ n0 _ h0 0 0 0 #[.val (.ref a), .val (.int z), .unset] []
  refine w_iloadN ok d6_0 rfl ?_
  refine w_aloadN ok d6_1 rfl rfl ?_
  refine w_arraylength ok (z := q) d6_2 A_a hq hq0 ?_
  show W K l _ n0 _ h0 0 0 3 #[.val (.ref a), .val (.int z), .unset] [(.int q), (.int z)]
  refine w_icmp_ne ok d6_3 (pc' := 14) (by decide) (fun hc1 => ?_) (fun hc1 => False.elim (by rw [hc1] at hz; omega))
  show W K l _ n0 _ h0 0 0 14 #[.val (.ref a), .val (.int z), .unset] []
  refine w_iloadN ok d6_14 rfl ?_
  refine w_newarray ok d6_15 (hw _ (List.mem_of_getElem? (i := 12) rfl)) hz0 (cap := 4) hcap (by decide) (by decide) (by decide) (fun h3 b2 ea_b2 ge_b2 E_b2 A_b2 => ?_)
  have sz_b2 : h0.size ≤ b2 := Nat.le_trans Kp.1 (Nat.le_of_eq ea_b2.symm)
  have ne_a_b2 : a ≠ b2 := fun q => Nat.lt_irrefl _ (Nat.lt_of_lt_of_eq A_a.lt (ea_b2.symm.trans q.symm))
  replace Kp := Kp.ext E_b2
  replace A_a := A_a.ext E_b2
  replace A_b2 : PA .long Z h3 b2 (List.replicate z.toNatClampNeg (.long (0 : Int64))) := A_b2
  refine w_astoreN ok d6_17 rfl (L' := #[.val (.ref a), .val (.int z), .val (.ref b2)]) rfl ?_
  refine w_aloadN ok d6_18 rfl rfl ?_
  refine w_iconst ok d6_19 (v := (0 : Int32)) rfl ?_
  refine w_aloadN ok d6_20 rfl rfl ?_
  refine w_iconst ok d6_21 (v := (0 : Int32)) rfl ?_
  refine w_aloadN ok d6_22 rfl rfl ?_
  refine w_arraylength ok (z := q) d6_23 A_a hq hq0 ?_
  show W K l _ n0 _ h3 1 4 24 #[.val (.ref a), .val (.int z), .val (.ref b2)] [(.int q), (.int (0 : Int32)), (.ref b2), (.int (0 : Int32)), (.ref a)]
  refine w_iloadN ok d6_24 rfl ?_
  refine w_callS ok (y := (⟨"java/lang/Math", "min", "(II)I"⟩ : MethodName)) (argsL := [(.int q), (.int z)]) (rest := [(.int (0 : Int32)), (.ref b2), (.int (0 : Int32)), (.ref a)]) d6_25 (hw _ (List.mem_of_getElem? (i := 26) rfl)) (hw _ (List.mem_of_getElem? (i := 27) rfl)) (hw _ (List.mem_of_getElem? (i := 28) rfl)) (hw _ (List.mem_of_getElem? (i := 29) rfl)) (by decide) pd_28II29I rfl rfl (by decide) (Nat.le_of_ble_eq_true rfl) (by decide) (by decide) (fun z0 => rm_min l Z a0 hw [] n0 h3 z0 q z) (fun v4 h5 qv4 => ?_)
  obtain ⟨rfl, rfl⟩ := qv4
  rw [own_min_lt (a := q) (b := z) (by omega) hq0 hz0]
  show W K l _ n0 _ h3 1 4 28 #[.val (.ref a), .val (.int z), .val (.ref b2)] [(.int q), (.int (0 : Int32)), (.ref b2), (.int (0 : Int32)), (.ref a)]
  refine w_arraycopy ok (sp' := 0) (dp' := 0) (nn' := vs.length) d6_28 (hw _ (List.mem_of_getElem? (i := 30) rfl)) (hw _ (List.mem_of_getElem? (i := 33) rfl)) (hw _ (List.mem_of_getElem? (i := 31) rfl)) (hw _ (List.mem_of_getElem? (i := 32) rfl)) A_a A_b2 rfl ge_b2 (by decide) (by decide) hq0 rfl rfl hq.symm (by omega) (by simp; omega) rfl (by decide) (Nat.le_of_ble_eq_true rfl) (fun h6 K_h6 A1_h6 => ?_)
  replace Kp := Kp.trans K_h6 (allS (Or.inr sz_b2) all0)
  replace A_a := A_a.keep K_h6 (ninS ne_a_b2 nin0)
  replace A_b2 : PA .long Z h6 b2 (vs ++ List.replicate (z.toNatClampNeg - vs.length) (Value.long 0)) := (by simpa using A1_h6)
  show W K l _ n0 _ h6 1 4 31 #[.val (.ref a), .val (.int z), .val (.ref b2)] []
  refine w_aloadN ok d6_31 rfl rfl ?_
  refine w_aret ok rfl rfl d6_32 (by decide) (by decide) ?_
  exact ⟨b2, rfl, sz_b2, ge_b2, Kp, A_b2⟩
theorem d8_0 : decode jdk_65_method_30_code 0 = .ok (.iload_n 1, 1) := by decide +kernel
theorem d8_1 : decode jdk_65_method_30_code 1 = .ok (.iload_n 2, 1) := by decide +kernel
theorem d8_2 : decode jdk_65_method_30_code 2 = .ok (.if_icmp .le 44, 3) := by decide +kernel
theorem d8_5 : decode jdk_65_method_30_code 5 = .ok (.new 43, 3) := by decide +kernel
theorem d8_8 : decode jdk_65_method_30_code 8 = .ok (.dup, 1) := by decide +kernel
theorem d8_9 : decode jdk_65_method_30_code 9 = .ok (.new 45, 3) := by decide +kernel
theorem d8_12 : decode jdk_65_method_30_code 12 = .ok (.dup, 1) := by decide +kernel
theorem d8_13 : decode jdk_65_method_30_code 13 = .ok (.invokespecial 47, 3) := by decide +kernel
theorem d8_16 : decode jdk_65_method_30_code 16 = .ok (.ldc 48, 2) := by decide +kernel
theorem d8_18 : decode jdk_65_method_30_code 18 = .ok (.invokevirtual 50, 3) := by decide +kernel
theorem d8_21 : decode jdk_65_method_30_code 21 = .ok (.iload_n 1, 1) := by decide +kernel
theorem d8_22 : decode jdk_65_method_30_code 22 = .ok (.invokevirtual 54, 3) := by decide +kernel
theorem d8_25 : decode jdk_65_method_30_code 25 = .ok (.ldc 57, 2) := by decide +kernel
theorem d8_27 : decode jdk_65_method_30_code 27 = .ok (.invokevirtual 50, 3) := by decide +kernel
theorem d8_30 : decode jdk_65_method_30_code 30 = .ok (.iload_n 2, 1) := by decide +kernel
theorem d8_31 : decode jdk_65_method_30_code 31 = .ok (.invokevirtual 54, 3) := by decide +kernel
theorem d8_34 : decode jdk_65_method_30_code 34 = .ok (.ldc 59, 2) := by decide +kernel
theorem d8_36 : decode jdk_65_method_30_code 36 = .ok (.invokevirtual 50, 3) := by decide +kernel
theorem d8_39 : decode jdk_65_method_30_code 39 = .ok (.invokevirtual 61, 3) := by decide +kernel
theorem d8_42 : decode jdk_65_method_30_code 42 = .ok (.invokespecial 65, 3) := by decide +kernel
theorem d8_46 : decode jdk_65_method_30_code 46 = .ok (.iload_n 1, 1) := by decide +kernel
theorem d8_47 : decode jdk_65_method_30_code 47 = .ok (.ifCond .ge 12, 3) := by decide +kernel
theorem d8_50 : decode jdk_65_method_30_code 50 = .ok (.new 68, 3) := by decide +kernel
theorem d8_53 : decode jdk_65_method_30_code 53 = .ok (.dup, 1) := by decide +kernel
theorem d8_54 : decode jdk_65_method_30_code 54 = .ok (.iload_n 1, 1) := by decide +kernel
theorem d8_55 : decode jdk_65_method_30_code 55 = .ok (.invokespecial 70, 3) := by decide +kernel
theorem d8_59 : decode jdk_65_method_30_code 59 = .ok (.iload_n 2, 1) := by decide +kernel
theorem d8_60 : decode jdk_65_method_30_code 60 = .ok (.iload_n 0, 1) := by decide +kernel
theorem d8_61 : decode jdk_65_method_30_code 61 = .ok (.if_icmp .le 12, 3) := by decide +kernel
theorem d8_64 : decode jdk_65_method_30_code 64 = .ok (.new 68, 3) := by decide +kernel
theorem d8_67 : decode jdk_65_method_30_code 67 = .ok (.dup, 1) := by decide +kernel
theorem d8_68 : decode jdk_65_method_30_code 68 = .ok (.iload_n 2, 1) := by decide +kernel
theorem d8_69 : decode jdk_65_method_30_code 69 = .ok (.invokespecial 70, 3) := by decide +kernel
theorem d8_73 : decode jdk_65_method_30_code 73 = .ok (.return_, 1) := by decide +kernel
set_option maxRecDepth 65536 in
set_option maxHeartbeats 40000000 in
theorem rm_rc (l : Launch) (Z : State) (a0 : Array Value) (hw : ∀ d ∈ tables_1, d.before a0 Z = true) (ws : List Jvm.Cond) (n0 : Nat) (h0 : Heap) (Z0 : Old Z n0 h0)   :
    Met l Z n0 (⟨"java/util/Arrays", "rangeCheck", "(III)V"⟩ : MethodName) jdk_65_method_30_code 3 none ws ({ frames := 0, cells := 0, slots := 0, locals := 0 } : Room) #[(.int (4 : Int32)), (.int (0 : Int32)), (.int (4 : Int32))] h0 (fun u h => u = none ∧ h0 = h) := by
  refine met_of Z0 (plainFor_of_name pn_java_util_Arrays) (Ls := #[.val (.int (4 : Int32)), .val (.int (0 : Int32)), .val (.int (4 : Int32))]) (fun m => by first | (simp [entryFrame, mkF, argsToLocals, Value.category]; done) | rfl) ?_
  intro K ok
  show W K l _ n0 _ h0 0 0 0 #[.val (.int (4 : Int32)), .val (.int (0 : Int32)), .val (.int (4 : Int32))] []
  refine w_iloadN ok d8_0 rfl ?_
  refine w_iloadN ok d8_1 rfl ?_
  refine w_icmp_le ok d8_2 (pc' := 46) (by decide) (fun hc1 => ?_) (fun hc1 => False.elim (by revert hc1; decide))
  show W K l _ n0 _ h0 0 0 46 #[.val (.int (4 : Int32)), .val (.int (0 : Int32)), .val (.int (4 : Int32))] []
  refine w_iloadN ok d8_46 rfl ?_
  refine w_if_ge ok d8_47 (pc' := 59) (by decide) (fun hc3 => ?_) (fun hc3 => False.elim (by revert hc3; decide))
  show W K l _ n0 _ h0 0 0 59 #[.val (.int (4 : Int32)), .val (.int (0 : Int32)), .val (.int (4 : Int32))] []
  refine w_iloadN ok d8_59 rfl ?_
  refine w_iloadN ok d8_60 rfl ?_
  refine w_icmp_le ok d8_61 (pc' := 73) (by decide) (fun hc5 => ?_) (fun hc5 => False.elim (by revert hc5; decide))
  show W K l _ n0 _ h0 0 0 73 #[.val (.int (4 : Int32)), .val (.int (0 : Int32)), .val (.int (4 : Int32))] []
  refine w_ret ok d8_73 (by decide) (by decide) ?_
  exact ⟨rfl, rfl⟩
theorem d7_0 : decode jdk_65_method_104_code 0 = .ok (.aload_n 0, 1) := by decide +kernel
theorem d7_1 : decode jdk_65_method_104_code 1 = .ok (.arraylength, 1) := by decide +kernel
theorem d7_2 : decode jdk_65_method_104_code 2 = .ok (.iload_n 1, 1) := by decide +kernel
theorem d7_3 : decode jdk_65_method_104_code 3 = .ok (.iload_n 2, 1) := by decide +kernel
theorem d7_4 : decode jdk_65_method_104_code 4 = .ok (.invokestatic 13, 3) := by decide +kernel
theorem d7_7 : decode jdk_65_method_104_code 7 = .ok (.iload_n 1, 1) := by decide +kernel
theorem d7_8 : decode jdk_65_method_104_code 8 = .ok (.istore 4, 2) := by decide +kernel
theorem d7_10 : decode jdk_65_method_104_code 10 = .ok (.iload 4, 2) := by decide +kernel
theorem d7_12 : decode jdk_65_method_104_code 12 = .ok (.iload_n 2, 1) := by decide +kernel
theorem d7_13 : decode jdk_65_method_104_code 13 = .ok (.if_icmp .ge 14, 3) := by decide +kernel
theorem d7_16 : decode jdk_65_method_104_code 16 = .ok (.aload_n 0, 1) := by decide +kernel
theorem d7_17 : decode jdk_65_method_104_code 17 = .ok (.iload 4, 2) := by decide +kernel
theorem d7_19 : decode jdk_65_method_104_code 19 = .ok (.iload_n 3, 1) := by decide +kernel
theorem d7_20 : decode jdk_65_method_104_code 20 = .ok (.iastore, 1) := by decide +kernel
theorem d7_21 : decode jdk_65_method_104_code 21 = .ok (.iinc 4 1, 3) := by decide +kernel
theorem d7_24 : decode jdk_65_method_104_code 24 = .ok (.goto (-14), 3) := by decide +kernel
theorem d7_27 : decode jdk_65_method_104_code 27 = .ok (.return_, 1) := by decide +kernel
theorem pd_28III29V : parseMethodDescriptor "(III)V" = some ⟨[.int, .int, .int], none⟩ := by decide +kernel
set_option maxRecDepth 65536 in
set_option maxHeartbeats 40000000 in
theorem rm_fill (l : Launch) (Z : State) (a0 : Array Value) (hw : ∀ d ∈ tables_1, d.before a0 Z = true) (ws : List Jvm.Cond) (n0 : Nat) (h0 : Heap) (Z0 : Old Z n0 h0) (a : Addr) (A_a : PA .int Z h0 a [(.int (0 : Int32)), (.int (0 : Int32)), (.int (0 : Int32)), (.int (0 : Int32))]) (ge_a : n0 ≤ a)  :
    Met l Z n0 (⟨"java/util/Arrays", "fill", "([IIII)V"⟩ : MethodName) jdk_65_method_104_code 5 none ws ({ frames := 1, cells := 0, slots := 0, locals := 14 } : Room) #[(.ref a), (.int (0 : Int32)), (.int (4 : Int32)), (.int (-1 : Int32))] h0 (fun u h => u = none ∧ Keep h0 h [a] ∧ PA .int Z h a [(.int (-1 : Int32)), (.int (-1 : Int32)), (.int (-1 : Int32)), (.int (-1 : Int32))]) := by
  refine met_of Z0 (plainFor_of_name pn_java_util_Arrays) (Ls := #[.val (.ref a), .val (.int (0 : Int32)), .val (.int (4 : Int32)), .val (.int (-1 : Int32)), .unset]) (fun m => by first | (simp [entryFrame, mkF, argsToLocals, Value.category]; done) | rfl) ?_
  intro K ok
  have Kp : Keep h0 h0 [a] := Keep.refl _ _
  show W K l _ n0 _ h0 0 0 0 #[.val (.ref a), .val (.int (0 : Int32)), .val (.int (4 : Int32)), .val (.int (-1 : Int32)), .unset] []
  refine w_aloadN ok d7_0 rfl rfl ?_
  refine w_arraylength ok (z := (4 : Int32)) d7_1 A_a rfl (by decide) ?_
  show W K l _ n0 _ h0 0 0 2 #[.val (.ref a), .val (.int (0 : Int32)), .val (.int (4 : Int32)), .val (.int (-1 : Int32)), .unset] [(.int (4 : Int32))]
  refine w_iloadN ok d7_2 rfl ?_
  refine w_iloadN ok d7_3 rfl ?_
  refine w_callS ok (y := (⟨"java/util/Arrays", "rangeCheck", "(III)V"⟩ : MethodName)) (argsL := [(.int (4 : Int32)), (.int (0 : Int32)), (.int (4 : Int32))]) (rest := []) d7_4 (hw _ (List.mem_of_getElem? (i := 40) rfl)) (hw _ (List.mem_of_getElem? (i := 41) rfl)) (hw _ (List.mem_of_getElem? (i := 24) rfl)) (hw _ (List.mem_of_getElem? (i := 42) rfl)) (by decide) pd_28III29V rfl rfl (by decide) (Nat.le_of_ble_eq_true rfl) (by decide) (by decide) (fun z0 => rm_rc l Z a0 hw [] n0 h0 z0) (fun v1 h2 qv1 => ?_)
  obtain ⟨rfl, rfl⟩ := qv1
  show W K l _ n0 _ h0 0 0 7 #[.val (.ref a), .val (.int (0 : Int32)), .val (.int (4 : Int32)), .val (.int (-1 : Int32)), .unset] []
  refine w_iloadN ok d7_7 rfl ?_
  refine w_istore ok d7_8 (L' := #[.val (.ref a), .val (.int (0 : Int32)), .val (.int (4 : Int32)), .val (.int (-1 : Int32)), .val (.int (0 : Int32))]) rfl ?_
  refine w_iload ok d7_10 rfl ?_
  refine w_iloadN ok d7_12 rfl ?_
  refine w_icmp_ge ok d7_13 (pc' := 27) (by decide) (fun hc4 => False.elim (by revert hc4; decide)) (fun hc4 => ?_)
  show W K l _ n0 _ h0 0 0 16 #[.val (.ref a), .val (.int (0 : Int32)), .val (.int (4 : Int32)), .val (.int (-1 : Int32)), .val (.int (0 : Int32))] []
  refine w_aloadN ok d7_16 rfl rfl ?_
  refine w_iload ok d7_17 rfl ?_
  refine w_iloadN ok d7_19 rfl ?_
  refine w_iastore ok d7_20 A_a ge_a (by decide) (Nat.le_of_ble_eq_true rfl) (fun h5 W_h5 A1_h5 => ?_)
  replace Kp := Kp.wr W_h5 (Or.inl (by simp))
  replace A_a : PA .int Z h5 a [(.int (-1 : Int32)), (.int (0 : Int32)), (.int (0 : Int32)), (.int (0 : Int32))] := A1_h5
  refine w_iinc ok d7_21 (u := (1 : Int32)) rfl rfl (L' := #[.val (.ref a), .val (.int (0 : Int32)), .val (.int (4 : Int32)), .val (.int (-1 : Int32)), .val (.int (1 : Int32))]) rfl ?_
  show W K l _ n0 _ h5 0 0 24 #[.val (.ref a), .val (.int (0 : Int32)), .val (.int (4 : Int32)), .val (.int (-1 : Int32)), .val (.int (1 : Int32))] []
  refine w_goto ok d7_24 (pc' := 10) (by decide) ?_
  refine w_iload ok d7_10 rfl ?_
  refine w_iloadN ok d7_12 rfl ?_
  refine w_icmp_ge ok d7_13 (pc' := 27) (by decide) (fun hc7 => False.elim (by revert hc7; decide)) (fun hc7 => ?_)
  show W K l _ n0 _ h5 0 0 16 #[.val (.ref a), .val (.int (0 : Int32)), .val (.int (4 : Int32)), .val (.int (-1 : Int32)), .val (.int (1 : Int32))] []
  refine w_aloadN ok d7_16 rfl rfl ?_
  refine w_iload ok d7_17 rfl ?_
  refine w_iloadN ok d7_19 rfl ?_
  refine w_iastore ok d7_20 A_a ge_a (by decide) (Nat.le_of_ble_eq_true rfl) (fun h8 W_h8 A1_h8 => ?_)
  replace Kp := Kp.wr W_h8 (Or.inl (by simp))
  replace A_a : PA .int Z h8 a [(.int (-1 : Int32)), (.int (-1 : Int32)), (.int (0 : Int32)), (.int (0 : Int32))] := A1_h8
  refine w_iinc ok d7_21 (u := (1 : Int32)) rfl rfl (L' := #[.val (.ref a), .val (.int (0 : Int32)), .val (.int (4 : Int32)), .val (.int (-1 : Int32)), .val (.int (2 : Int32))]) rfl ?_
  show W K l _ n0 _ h8 0 0 24 #[.val (.ref a), .val (.int (0 : Int32)), .val (.int (4 : Int32)), .val (.int (-1 : Int32)), .val (.int (2 : Int32))] []
  refine w_goto ok d7_24 (pc' := 10) (by decide) ?_
  refine w_iload ok d7_10 rfl ?_
  refine w_iloadN ok d7_12 rfl ?_
  refine w_icmp_ge ok d7_13 (pc' := 27) (by decide) (fun hc10 => False.elim (by revert hc10; decide)) (fun hc10 => ?_)
  show W K l _ n0 _ h8 0 0 16 #[.val (.ref a), .val (.int (0 : Int32)), .val (.int (4 : Int32)), .val (.int (-1 : Int32)), .val (.int (2 : Int32))] []
  refine w_aloadN ok d7_16 rfl rfl ?_
  refine w_iload ok d7_17 rfl ?_
  refine w_iloadN ok d7_19 rfl ?_
  refine w_iastore ok d7_20 A_a ge_a (by decide) (Nat.le_of_ble_eq_true rfl) (fun h11 W_h11 A1_h11 => ?_)
  replace Kp := Kp.wr W_h11 (Or.inl (by simp))
  replace A_a : PA .int Z h11 a [(.int (-1 : Int32)), (.int (-1 : Int32)), (.int (-1 : Int32)), (.int (0 : Int32))] := A1_h11
  refine w_iinc ok d7_21 (u := (1 : Int32)) rfl rfl (L' := #[.val (.ref a), .val (.int (0 : Int32)), .val (.int (4 : Int32)), .val (.int (-1 : Int32)), .val (.int (3 : Int32))]) rfl ?_
  show W K l _ n0 _ h11 0 0 24 #[.val (.ref a), .val (.int (0 : Int32)), .val (.int (4 : Int32)), .val (.int (-1 : Int32)), .val (.int (3 : Int32))] []
  refine w_goto ok d7_24 (pc' := 10) (by decide) ?_
  refine w_iload ok d7_10 rfl ?_
  refine w_iloadN ok d7_12 rfl ?_
  refine w_icmp_ge ok d7_13 (pc' := 27) (by decide) (fun hc13 => False.elim (by revert hc13; decide)) (fun hc13 => ?_)
  show W K l _ n0 _ h11 0 0 16 #[.val (.ref a), .val (.int (0 : Int32)), .val (.int (4 : Int32)), .val (.int (-1 : Int32)), .val (.int (3 : Int32))] []
  refine w_aloadN ok d7_16 rfl rfl ?_
  refine w_iload ok d7_17 rfl ?_
  refine w_iloadN ok d7_19 rfl ?_
  refine w_iastore ok d7_20 A_a ge_a (by decide) (Nat.le_of_ble_eq_true rfl) (fun h14 W_h14 A1_h14 => ?_)
  replace Kp := Kp.wr W_h14 (Or.inl (by simp))
  replace A_a : PA .int Z h14 a [(.int (-1 : Int32)), (.int (-1 : Int32)), (.int (-1 : Int32)), (.int (-1 : Int32))] := A1_h14
  refine w_iinc ok d7_21 (u := (1 : Int32)) rfl rfl (L' := #[.val (.ref a), .val (.int (0 : Int32)), .val (.int (4 : Int32)), .val (.int (-1 : Int32)), .val (.int (4 : Int32))]) rfl ?_
  show W K l _ n0 _ h14 0 0 24 #[.val (.ref a), .val (.int (0 : Int32)), .val (.int (4 : Int32)), .val (.int (-1 : Int32)), .val (.int (4 : Int32))] []
  refine w_goto ok d7_24 (pc' := 10) (by decide) ?_
  refine w_iload ok d7_10 rfl ?_
  refine w_iloadN ok d7_12 rfl ?_
  refine w_icmp_ge ok d7_13 (pc' := 27) (by decide) (fun hc16 => ?_) (fun hc16 => False.elim (by revert hc16; decide))
  show W K l _ n0 _ h14 0 0 27 #[.val (.ref a), .val (.int (0 : Int32)), .val (.int (4 : Int32)), .val (.int (-1 : Int32)), .val (.int (4 : Int32))] []
  refine w_ret ok d7_27 (by decide) (by decide) ?_
  exact ⟨rfl, Kp, A_a⟩
theorem d3_0 : decode prog_26_method_2_code 0 = .ok (.aload_n 0, 1) := by decide +kernel
theorem d3_1 : decode prog_26_method_2_code 1 = .ok (.getfield 17, 3) := by decide +kernel
theorem d3_4 : decode prog_26_method_2_code 4 = .ok (.arraylength, 1) := by decide +kernel
theorem d3_5 : decode prog_26_method_2_code 5 = .ok (.istore_n 2, 1) := by decide +kernel
theorem d3_6 : decode prog_26_method_2_code 6 = .ok (.aload_n 0, 1) := by decide +kernel
theorem d3_7 : decode prog_26_method_2_code 7 = .ok (.aload_n 0, 1) := by decide +kernel
theorem d3_8 : decode prog_26_method_2_code 8 = .ok (.getfield 7, 3) := by decide +kernel
theorem d3_11 : decode prog_26_method_2_code 11 = .ok (.iload_n 1, 1) := by decide +kernel
theorem d3_12 : decode prog_26_method_2_code 12 = .ok (.invokestatic 20, 3) := by decide +kernel
theorem d3_15 : decode prog_26_method_2_code 15 = .ok (.putfield 7, 3) := by decide +kernel
theorem d3_18 : decode prog_26_method_2_code 18 = .ok (.aload_n 0, 1) := by decide +kernel
theorem d3_19 : decode prog_26_method_2_code 19 = .ok (.aload_n 0, 1) := by decide +kernel
theorem d3_20 : decode prog_26_method_2_code 20 = .ok (.getfield 13, 3) := by decide +kernel
theorem d3_23 : decode prog_26_method_2_code 23 = .ok (.iload_n 1, 1) := by decide +kernel
theorem d3_24 : decode prog_26_method_2_code 24 = .ok (.invokestatic 26, 3) := by decide +kernel
theorem d3_27 : decode prog_26_method_2_code 27 = .ok (.putfield 13, 3) := by decide +kernel
theorem d3_30 : decode prog_26_method_2_code 30 = .ok (.aload_n 0, 1) := by decide +kernel
theorem d3_31 : decode prog_26_method_2_code 31 = .ok (.aload_n 0, 1) := by decide +kernel
theorem d3_32 : decode prog_26_method_2_code 32 = .ok (.getfield 17, 3) := by decide +kernel
theorem d3_35 : decode prog_26_method_2_code 35 = .ok (.iload_n 1, 1) := by decide +kernel
theorem d3_36 : decode prog_26_method_2_code 36 = .ok (.invokestatic 20, 3) := by decide +kernel
theorem d3_39 : decode prog_26_method_2_code 39 = .ok (.putfield 17, 3) := by decide +kernel
theorem d3_42 : decode prog_26_method_2_code 42 = .ok (.iload_n 1, 1) := by decide +kernel
theorem d3_43 : decode prog_26_method_2_code 43 = .ok (.iload_n 2, 1) := by decide +kernel
theorem d3_44 : decode prog_26_method_2_code 44 = .ok (.if_icmp .le 13, 3) := by decide +kernel
theorem d3_47 : decode prog_26_method_2_code 47 = .ok (.aload_n 0, 1) := by decide +kernel
theorem d3_48 : decode prog_26_method_2_code 48 = .ok (.getfield 17, 3) := by decide +kernel
theorem d3_51 : decode prog_26_method_2_code 51 = .ok (.iload_n 2, 1) := by decide +kernel
theorem d3_52 : decode prog_26_method_2_code 52 = .ok (.iload_n 1, 1) := by decide +kernel
theorem d3_53 : decode prog_26_method_2_code 53 = .ok (.iconst (-1), 1) := by decide +kernel
theorem d3_54 : decode prog_26_method_2_code 54 = .ok (.invokestatic 29, 3) := by decide +kernel
theorem d3_57 : decode prog_26_method_2_code 57 = .ok (.return_, 1) := by decide +kernel
theorem pd_285bII295bI : parseMethodDescriptor "([II)[I" = some ⟨[(.array .int), .int], some (.array .int)⟩ := by decide +kernel
theorem pd_285bJI295bJ : parseMethodDescriptor "([JI)[J" = some ⟨[(.array .long), .int], some (.array .long)⟩ := by decide +kernel
theorem pd_285bIIII29V : parseMethodDescriptor "([IIII)V" = some ⟨[(.array .int), .int, .int, .int], none⟩ := by decide +kernel
set_option maxRecDepth 65536 in
set_option maxHeartbeats 40000000 in
theorem rm_resize (l : Launch) (Z : State) (a0 : Array Value) (hw : ∀ d ∈ tables_1, d.before a0 Z = true) (ws : List Jvm.Cond) (n0 : Nat) (h0 : Heap) (Z0 : Old Z n0 h0) (t en ti sl : Addr) (A_t : Ob Z h0 t "com/example/rowan/rowan/store/IdleHeap" fl_IdleHeap [.ref en, .ref ti, .ref sl, .int 0]) (A_en : PA .int Z h0 en []) (A_ti : PA .long Z h0 ti []) (A_sl : PA .int Z h0 sl []) (ge_t : n0 ≤ t) (ne_t_en : t ≠ en) (ne_t_ti : t ≠ ti) (ne_t_sl : t ≠ sl) (ne_en_ti : en ≠ ti) (ne_en_sl : en ≠ sl) (ne_ti_sl : ti ≠ sl)  :
    Met l Z n0 (⟨"com/example/rowan/rowan/store/IdleHeap", "resize", "(I)V"⟩ : MethodName) prog_26_method_2_code 3 none ws ({ frames := 2, cells := 3, slots := 12, locals := 33 } : Room) #[(.ref t), (.int (4 : Int32))] h0 (fun u h => u = none ∧ ∃ en ti sl, (h0.size ≤ en ∧ h0.size ≤ ti ∧ h0.size ≤ sl) ∧ (n0 ≤ en ∧ n0 ≤ ti ∧ n0 ≤ sl) ∧ (t ≠ en ∧ t ≠ ti ∧ t ≠ sl ∧ en ≠ ti ∧ en ≠ sl ∧ ti ≠ sl) ∧ Keep h0 h [t] ∧ Ob Z h t "com/example/rowan/rowan/store/IdleHeap" fl_IdleHeap [.ref en, .ref ti, .ref sl, .int 0] ∧ PA .int Z h en (sv 4 (fun _ => 0)) ∧ PA .long Z h ti (lv 4 (fun _ => 0)) ∧ PA .int Z h sl (sv 4 (fun _ => -1))) := by
  refine met_of Z0 (plainFor_of_name pn_com_example_rowan_rowan_store_IdleHeap) (Ls := #[.val (.ref t), .val (.int (4 : Int32)), .unset]) (fun m => by first | (simp [entryFrame, mkF, argsToLocals, Value.category]; done) | rfl) ?_
  intro K ok
  have Kp : Keep h0 h0 [t] := Keep.refl _ _
  show W K l _ n0 _ h0 0 0 0 #[.val (.ref t), .val (.int (4 : Int32)), .unset] []
  refine w_aloadN ok d3_0 rfl rfl ?_
  refine w_getfield ok (v := (.ref sl)) (host := "") (f := ("com/example/rowan/rowan/store/IdleHeap", "slots", "[I", (.array .int))) 2 d3_1 (Or.inl (hw _ (List.mem_of_getElem? (i := 15) rfl))) Via.refl A_t rfl rfl ?_
  refine w_arraylength ok (z := (0 : Int32)) d3_4 A_sl rfl (by decide) ?_
  show W K l _ n0 _ h0 0 0 5 #[.val (.ref t), .val (.int (4 : Int32)), .unset] [(.int (0 : Int32))]
  refine w_istoreN ok d3_5 (L' := #[.val (.ref t), .val (.int (4 : Int32)), .val (.int (0 : Int32))]) rfl ?_
  refine w_aloadN ok d3_6 rfl rfl ?_
  refine w_aloadN ok d3_7 rfl rfl ?_
  refine w_getfield ok (v := (.ref en)) (host := "") (f := ("com/example/rowan/rowan/store/IdleHeap", "entries", "[I", (.array .int))) 0 d3_8 (Or.inl (hw _ (List.mem_of_getElem? (i := 10) rfl))) Via.refl A_t rfl rfl ?_
  refine w_iloadN ok d3_11 rfl ?_
  refine w_callS ok (y := (⟨"java/util/Arrays", "copyOf", "([II)[I"⟩ : MethodName)) (argsL := [(.ref en), (.int (4 : Int32))]) (rest := [(.ref t)]) d3_12 (hw _ (List.mem_of_getElem? (i := 22) rfl)) (hw _ (List.mem_of_getElem? (i := 23) rfl)) (hw _ (List.mem_of_getElem? (i := 24) rfl)) (hw _ (List.mem_of_getElem? (i := 25) rfl)) (by decide) pd_285bII295bI rfl rfl (by decide) (Nat.le_of_ble_eq_true rfl) (by decide) (by decide) (fun z0 => cp_int l Z a0 hw [] n0 h0 z0 en [] 4 A_en (by decide) (by decide) (by decide)) (fun v2 h3 qv2 => ?_)
  obtain ⟨c1, rfl, sz_c1, ge_c1, K1, A_c1⟩ := qv2
  have ne_t_c1 : t ≠ c1 := Nat.ne_of_lt (Nat.lt_of_lt_of_le A_t.lt sz_c1)
  have ne_en_c1 : en ≠ c1 := Nat.ne_of_lt (Nat.lt_of_lt_of_le A_en.lt sz_c1)
  have ne_ti_c1 : ti ≠ c1 := Nat.ne_of_lt (Nat.lt_of_lt_of_le A_ti.lt sz_c1)
  have ne_sl_c1 : sl ≠ c1 := Nat.ne_of_lt (Nat.lt_of_lt_of_le A_sl.lt sz_c1)
  have szq_c1 : h0.size ≤ c1 := Nat.le_trans Kp.1 sz_c1
  replace Kp := Kp.trans K1 all0
  replace A_t := A_t.keep K1 nin0
  replace A_en := A_en.keep K1 nin0
  replace A_ti := A_ti.keep K1 nin0
  replace A_sl := A_sl.keep K1 nin0
  replace A_c1 : PA .int Z h3 c1 [(.int (0 : Int32)), (.int (0 : Int32)), (.int (0 : Int32)), (.int (0 : Int32))] := A_c1
  show W K l _ n0 _ h3 1 4 15 #[.val (.ref t), .val (.int (4 : Int32)), .val (.int (0 : Int32))] [(.ref c1), (.ref t)]
  refine w_putfield ok (host := "") (f := ("com/example/rowan/rowan/store/IdleHeap", "entries", "[I", (.array .int))) 0 d3_15 (Or.inl (hw _ (List.mem_of_getElem? (i := 10) rfl))) Via.refl A_t (la_IdleHeap hw) rfl rfl (Or.inl (hw _ (List.mem_of_getElem? (i := 11) rfl))) (hw _ (List.mem_of_getElem? (i := 1) rfl)) rfl rfl ge_t (fun h4 W_h4 A1_h4 => ?_)
  replace Kp := Kp.wr W_h4 (Or.inl (by simp))
  replace A_en := A_en.other W_h4 (Ne.symm ne_t_en)
  replace A_ti := A_ti.other W_h4 (Ne.symm ne_t_ti)
  replace A_sl := A_sl.other W_h4 (Ne.symm ne_t_sl)
  replace A_c1 := A_c1.other W_h4 (Ne.symm ne_t_c1)
  replace A_t : Ob Z h4 t "com/example/rowan/rowan/store/IdleHeap" fl_IdleHeap [(.ref c1), (.ref ti), (.ref sl), (.int (0 : Int32))] := A1_h4
  refine w_aloadN ok d3_18 rfl rfl ?_
  refine w_aloadN ok d3_19 rfl rfl ?_
  refine w_getfield ok (v := (.ref ti)) (host := "") (f := ("com/example/rowan/rowan/store/IdleHeap", "times", "[J", (.array .long))) 1 d3_20 (Or.inl (hw _ (List.mem_of_getElem? (i := 13) rfl))) Via.refl A_t rfl rfl ?_
  refine w_iloadN ok d3_23 rfl ?_
  refine w_callS ok (y := (⟨"java/util/Arrays", "copyOf", "([JI)[J"⟩ : MethodName)) (argsL := [(.ref ti), (.int (4 : Int32))]) (rest := [(.ref t)]) d3_24 (hw _ (List.mem_of_getElem? (i := 34) rfl)) (hw _ (List.mem_of_getElem? (i := 35) rfl)) (hw _ (List.mem_of_getElem? (i := 24) rfl)) (hw _ (List.mem_of_getElem? (i := 36) rfl)) (by decide) pd_285bJI295bJ rfl rfl (by decide) (Nat.le_of_ble_eq_true rfl) (by decide) (by decide) (fun z0 => cp_long l Z a0 hw [] n0 h4 z0 ti [] 4 A_ti (by decide) (by decide) (by decide)) (fun v6 h7 qv6 => ?_)
  obtain ⟨c5, rfl, sz_c5, ge_c5, K1, A_c5⟩ := qv6
  have ne_t_c5 : t ≠ c5 := Nat.ne_of_lt (Nat.lt_of_lt_of_le A_t.lt sz_c5)
  have ne_en_c5 : en ≠ c5 := Nat.ne_of_lt (Nat.lt_of_lt_of_le A_en.lt sz_c5)
  have ne_ti_c5 : ti ≠ c5 := Nat.ne_of_lt (Nat.lt_of_lt_of_le A_ti.lt sz_c5)
  have ne_sl_c5 : sl ≠ c5 := Nat.ne_of_lt (Nat.lt_of_lt_of_le A_sl.lt sz_c5)
  have ne_c1_c5 : c1 ≠ c5 := Nat.ne_of_lt (Nat.lt_of_lt_of_le A_c1.lt sz_c5)
  have szq_c5 : h0.size ≤ c5 := Nat.le_trans Kp.1 sz_c5
  replace Kp := Kp.trans K1 all0
  replace A_t := A_t.keep K1 nin0
  replace A_en := A_en.keep K1 nin0
  replace A_ti := A_ti.keep K1 nin0
  replace A_sl := A_sl.keep K1 nin0
  replace A_c1 := A_c1.keep K1 nin0
  replace A_c5 : PA .long Z h7 c5 [(.long (0 : Int64)), (.long (0 : Int64)), (.long (0 : Int64)), (.long (0 : Int64))] := A_c5
  show W K l _ n0 _ h7 2 8 27 #[.val (.ref t), .val (.int (4 : Int32)), .val (.int (0 : Int32))] [(.ref c5), (.ref t)]
  refine w_putfield ok (host := "") (f := ("com/example/rowan/rowan/store/IdleHeap", "times", "[J", (.array .long))) 1 d3_27 (Or.inl (hw _ (List.mem_of_getElem? (i := 13) rfl))) Via.refl A_t (la_IdleHeap hw) rfl rfl (Or.inl (hw _ (List.mem_of_getElem? (i := 14) rfl))) (hw _ (List.mem_of_getElem? (i := 1) rfl)) rfl rfl ge_t (fun h8 W_h8 A1_h8 => ?_)
  replace Kp := Kp.wr W_h8 (Or.inl (by simp))
  replace A_en := A_en.other W_h8 (Ne.symm ne_t_en)
  replace A_ti := A_ti.other W_h8 (Ne.symm ne_t_ti)
  replace A_sl := A_sl.other W_h8 (Ne.symm ne_t_sl)
  replace A_c1 := A_c1.other W_h8 (Ne.symm ne_t_c1)
  replace A_c5 := A_c5.other W_h8 (Ne.symm ne_t_c5)
  replace A_t : Ob Z h8 t "com/example/rowan/rowan/store/IdleHeap" fl_IdleHeap [(.ref c1), (.ref c5), (.ref sl), (.int (0 : Int32))] := A1_h8
  refine w_aloadN ok d3_30 rfl rfl ?_
  refine w_aloadN ok d3_31 rfl rfl ?_
  refine w_getfield ok (v := (.ref sl)) (host := "") (f := ("com/example/rowan/rowan/store/IdleHeap", "slots", "[I", (.array .int))) 2 d3_32 (Or.inl (hw _ (List.mem_of_getElem? (i := 15) rfl))) Via.refl A_t rfl rfl ?_
  refine w_iloadN ok d3_35 rfl ?_
  refine w_callS ok (y := (⟨"java/util/Arrays", "copyOf", "([II)[I"⟩ : MethodName)) (argsL := [(.ref sl), (.int (4 : Int32))]) (rest := [(.ref t)]) d3_36 (hw _ (List.mem_of_getElem? (i := 22) rfl)) (hw _ (List.mem_of_getElem? (i := 23) rfl)) (hw _ (List.mem_of_getElem? (i := 24) rfl)) (hw _ (List.mem_of_getElem? (i := 25) rfl)) (by decide) pd_285bII295bI rfl rfl (by decide) (Nat.le_of_ble_eq_true rfl) (by decide) (by decide) (fun z0 => cp_int l Z a0 hw [] n0 h8 z0 sl [] 4 A_sl (by decide) (by decide) (by decide)) (fun v10 h11 qv10 => ?_)
  obtain ⟨c9, rfl, sz_c9, ge_c9, K1, A_c9⟩ := qv10
  have ne_t_c9 : t ≠ c9 := Nat.ne_of_lt (Nat.lt_of_lt_of_le A_t.lt sz_c9)
  have ne_en_c9 : en ≠ c9 := Nat.ne_of_lt (Nat.lt_of_lt_of_le A_en.lt sz_c9)
  have ne_ti_c9 : ti ≠ c9 := Nat.ne_of_lt (Nat.lt_of_lt_of_le A_ti.lt sz_c9)
  have ne_sl_c9 : sl ≠ c9 := Nat.ne_of_lt (Nat.lt_of_lt_of_le A_sl.lt sz_c9)
  have ne_c1_c9 : c1 ≠ c9 := Nat.ne_of_lt (Nat.lt_of_lt_of_le A_c1.lt sz_c9)
  have ne_c5_c9 : c5 ≠ c9 := Nat.ne_of_lt (Nat.lt_of_lt_of_le A_c5.lt sz_c9)
  have szq_c9 : h0.size ≤ c9 := Nat.le_trans Kp.1 sz_c9
  replace Kp := Kp.trans K1 all0
  replace A_t := A_t.keep K1 nin0
  replace A_en := A_en.keep K1 nin0
  replace A_ti := A_ti.keep K1 nin0
  replace A_sl := A_sl.keep K1 nin0
  replace A_c1 := A_c1.keep K1 nin0
  replace A_c5 := A_c5.keep K1 nin0
  replace A_c9 : PA .int Z h11 c9 [(.int (0 : Int32)), (.int (0 : Int32)), (.int (0 : Int32)), (.int (0 : Int32))] := A_c9
  show W K l _ n0 _ h11 3 12 39 #[.val (.ref t), .val (.int (4 : Int32)), .val (.int (0 : Int32))] [(.ref c9), (.ref t)]
  refine w_putfield ok (host := "") (f := ("com/example/rowan/rowan/store/IdleHeap", "slots", "[I", (.array .int))) 2 d3_39 (Or.inl (hw _ (List.mem_of_getElem? (i := 15) rfl))) Via.refl A_t (la_IdleHeap hw) rfl rfl (Or.inl (hw _ (List.mem_of_getElem? (i := 16) rfl))) (hw _ (List.mem_of_getElem? (i := 1) rfl)) rfl rfl ge_t (fun h12 W_h12 A1_h12 => ?_)
  replace Kp := Kp.wr W_h12 (Or.inl (by simp))
  replace A_en := A_en.other W_h12 (Ne.symm ne_t_en)
  replace A_ti := A_ti.other W_h12 (Ne.symm ne_t_ti)
  replace A_sl := A_sl.other W_h12 (Ne.symm ne_t_sl)
  replace A_c1 := A_c1.other W_h12 (Ne.symm ne_t_c1)
  replace A_c5 := A_c5.other W_h12 (Ne.symm ne_t_c5)
  replace A_c9 := A_c9.other W_h12 (Ne.symm ne_t_c9)
  replace A_t : Ob Z h12 t "com/example/rowan/rowan/store/IdleHeap" fl_IdleHeap [(.ref c1), (.ref c5), (.ref c9), (.int (0 : Int32))] := A1_h12
  refine w_iloadN ok d3_42 rfl ?_
  refine w_iloadN ok d3_43 rfl ?_
  refine w_icmp_le ok d3_44 (pc' := 57) (by decide) (fun hc14 => False.elim (by revert hc14; decide)) (fun hc14 => ?_)
  show W K l _ n0 _ h12 3 12 47 #[.val (.ref t), .val (.int (4 : Int32)), .val (.int (0 : Int32))] []
  refine w_aloadN ok d3_47 rfl rfl ?_
  refine w_getfield ok (v := (.ref c9)) (host := "") (f := ("com/example/rowan/rowan/store/IdleHeap", "slots", "[I", (.array .int))) 2 d3_48 (Or.inl (hw _ (List.mem_of_getElem? (i := 15) rfl))) Via.refl A_t rfl rfl ?_
  refine w_iloadN ok d3_51 rfl ?_
  refine w_iloadN ok d3_52 rfl ?_
  refine w_iconst ok d3_53 (v := (-1 : Int32)) rfl ?_
  refine w_callS ok (y := (⟨"java/util/Arrays", "fill", "([IIII)V"⟩ : MethodName)) (argsL := [(.ref c9), (.int (0 : Int32)), (.int (4 : Int32)), (.int (-1 : Int32))]) (rest := []) d3_54 (hw _ (List.mem_of_getElem? (i := 37) rfl)) (hw _ (List.mem_of_getElem? (i := 38) rfl)) (hw _ (List.mem_of_getElem? (i := 24) rfl)) (hw _ (List.mem_of_getElem? (i := 39) rfl)) (by decide) pd_285bIIII29V rfl rfl (by decide) (Nat.le_of_ble_eq_true rfl) (by decide) (by decide) (fun z0 => rm_fill l Z a0 hw [] n0 h12 z0 c9 A_c9 ge_c9) (fun v15 h16 qv15 => ?_)
  obtain ⟨rfl, K1, A1⟩ := qv15
  replace Kp := Kp.trans K1 (allS (Or.inr szq_c9) all0)
  replace A_t := A_t.keep K1 (ninS ne_t_c9 nin0)
  replace A_en := A_en.keep K1 (ninS ne_en_c9 nin0)
  replace A_ti := A_ti.keep K1 (ninS ne_ti_c9 nin0)
  replace A_sl := A_sl.keep K1 (ninS ne_sl_c9 nin0)
  replace A_c1 := A_c1.keep K1 (ninS ne_c1_c9 nin0)
  replace A_c5 := A_c5.keep K1 (ninS ne_c5_c9 nin0)
  replace A_c9 := A1
  show W K l _ n0 _ h16 3 12 57 #[.val (.ref t), .val (.int (4 : Int32)), .val (.int (0 : Int32))] []
  refine w_ret ok d3_57 (by decide) (by decide) ?_
  exact ⟨rfl, c1, c5, c9, ⟨szq_c1, szq_c5, szq_c9⟩, ⟨ge_c1, ge_c5, ge_c9⟩, ⟨ne_t_c1, ne_t_c5, ne_t_c9, ne_c1_c5, ne_c1_c9, ne_c5_c9⟩, Kp, A_t, A_c1, A_c5, A_c9⟩
theorem d10_0 : decode prog_26_method_12_code 0 = .ok (.aload_n 0, 1) := by decide +kernel
theorem d10_1 : decode prog_26_method_12_code 1 = .ok (.getfield 7, 3) := by decide +kernel
theorem d10_4 : decode prog_26_method_12_code 4 = .ok (.iload 4, 2) := by decide +kernel
theorem d10_6 : decode prog_26_method_12_code 6 = .ok (.iload_n 1, 1) := by decide +kernel
theorem d10_7 : decode prog_26_method_12_code 7 = .ok (.iastore, 1) := by decide +kernel
theorem d10_8 : decode prog_26_method_12_code 8 = .ok (.aload_n 0, 1) := by decide +kernel
theorem d10_9 : decode prog_26_method_12_code 9 = .ok (.getfield 13, 3) := by decide +kernel
theorem d10_12 : decode prog_26_method_12_code 12 = .ok (.iload 4, 2) := by decide +kernel
theorem d10_14 : decode prog_26_method_12_code 14 = .ok (.lload_n 2, 1) := by decide +kernel
theorem d10_15 : decode prog_26_method_12_code 15 = .ok (.lastore, 1) := by decide +kernel
theorem d10_16 : decode prog_26_method_12_code 16 = .ok (.aload_n 0, 1) := by decide +kernel
theorem d10_17 : decode prog_26_method_12_code 17 = .ok (.getfield 17, 3) := by decide +kernel
theorem d10_20 : decode prog_26_method_12_code 20 = .ok (.iload_n 1, 1) := by decide +kernel
theorem d10_21 : decode prog_26_method_12_code 21 = .ok (.iload 4, 2) := by decide +kernel
theorem d10_23 : decode prog_26_method_12_code 23 = .ok (.iastore, 1) := by decide +kernel
theorem d10_24 : decode prog_26_method_12_code 24 = .ok (.return_, 1) := by decide +kernel
set_option maxRecDepth 65536 in
set_option maxHeartbeats 40000000 in
theorem rm_place (l : Launch) (Z : State) (a0 : Array Value) (hw : ∀ d ∈ tables_1, d.before a0 Z = true) (ws : List Jvm.Cond) (n0 : Nat) (h0 : Heap) (Z0 : Old Z n0 h0) (t en ti sl : Addr) (s : Int32) (e g : Nat → Int32) (τ : Nat → Int64) (A_t : Ob Z h0 t "com/example/rowan/rowan/store/IdleHeap" fl_IdleHeap [.ref en, .ref ti, .ref sl, .int s]) (A_en : PA .int Z h0 en (sv 4 e)) (A_ti : PA .long Z h0 ti (lv 4 τ)) (A_sl : PA .int Z h0 sl (sv 4 g)) (ge_t : n0 ≤ t) (ge_en : n0 ≤ en) (ge_ti : n0 ≤ ti) (ge_sl : n0 ≤ sl) (ne_t_en : t ≠ en) (ne_t_ti : t ≠ ti) (ne_t_sl : t ≠ sl) (ne_en_ti : en ≠ ti) (ne_en_sl : en ≠ sl) (ne_ti_sl : ti ≠ sl) (y i : Nat) (tm : Int64) (hy : y < 4) (hi : i < 4)  :
    Met l Z n0 (⟨"com/example/rowan/rowan/store/IdleHeap", "place", "(IJI)V"⟩ : MethodName) prog_26_method_12_code 5 none ws ({ frames := 0, cells := 0, slots := 0, locals := 0 } : Room) #[(.ref t), (.int (Int32.ofNat y)), (.long tm), (.int (Int32.ofNat i))] h0 (fun u h => u = none ∧ Keep h0 h [en, ti, sl] ∧ PA .int Z h en (sv 4 (upd e i (Int32.ofNat y))) ∧ PA .long Z h ti (lv 4 (updL τ i tm)) ∧ PA .int Z h sl (sv 4 (upd g y (Int32.ofNat i)))) := by
  refine met_of Z0 (plainFor_of_name pn_com_example_rowan_rowan_store_IdleHeap) (Ls := #[.val (.ref t), .val (.int (Int32.ofNat y)), .val (.long tm), .second, .val (.int (Int32.ofNat i))]) (fun m => by first | (simp [entryFrame, mkF, argsToLocals, Value.category]; done) | rfl) ?_
  intro K ok
  have Kp : Keep h0 h0 [en, ti, sl] := Keep.refl _ _
  show W K l _ n0 _ h0 0 0 0 #[.val (.ref t), .val (.int (Int32.ofNat y)), .val (.long tm), .second, .val (.int (Int32.ofNat i))] []
  refine w_aloadN ok d10_0 rfl rfl ?_
  refine w_getfield ok (v := (.ref en)) (host := "") (f := ("com/example/rowan/rowan/store/IdleHeap", "entries", "[I", (.array .int))) 0 d10_1 (Or.inl (hw _ (List.mem_of_getElem? (i := 10) rfl))) Via.refl A_t rfl rfl ?_
  refine w_iload ok d10_4 rfl ?_
  refine w_iloadN ok d10_6 rfl ?_
  refine w_iastore ok d10_7 A_en ge_en (own_ix0 hi) (own_svl hi) (fun h1 W_h1 A1_h1 => ?_)
  replace Kp := Kp.wr W_h1 (Or.inl (by simp))
  replace A_t := A_t.other W_h1 ne_t_en
  replace A_ti := A_ti.other W_h1 (Ne.symm ne_en_ti)
  replace A_sl := A_sl.other W_h1 (Ne.symm ne_en_sl)
  replace A_en : PA .int Z h1 en ((sv 4 e).set (Int32.ofNat i).toNatClampNeg (.int (Int32.ofNat y))) := A1_h1
  rw [own_ix hi, sv_set] at A_en
  refine w_aloadN ok d10_8 rfl rfl ?_
  refine w_getfield ok (v := (.ref ti)) (host := "") (f := ("com/example/rowan/rowan/store/IdleHeap", "times", "[J", (.array .long))) 1 d10_9 (Or.inl (hw _ (List.mem_of_getElem? (i := 13) rfl))) Via.refl A_t rfl rfl ?_
  refine w_iload ok d10_12 rfl ?_
  refine w_lloadN ok d10_14 rfl ?_
  refine w_lastore ok d10_15 A_ti ge_ti (own_ix0 hi) (own_lvl hi) (fun h2 W_h2 A1_h2 => ?_)
  replace Kp := Kp.wr W_h2 (Or.inl (by simp))
  replace A_t := A_t.other W_h2 ne_t_ti
  replace A_en := A_en.other W_h2 ne_en_ti
  replace A_sl := A_sl.other W_h2 (Ne.symm ne_ti_sl)
  replace A_ti : PA .long Z h2 ti ((lv 4 τ).set (Int32.ofNat i).toNatClampNeg (.long tm)) := A1_h2
  rw [own_ix hi, lv_set] at A_ti
  refine w_aloadN ok d10_16 rfl rfl ?_
  refine w_getfield ok (v := (.ref sl)) (host := "") (f := ("com/example/rowan/rowan/store/IdleHeap", "slots", "[I", (.array .int))) 2 d10_17 (Or.inl (hw _ (List.mem_of_getElem? (i := 15) rfl))) Via.refl A_t rfl rfl ?_
  refine w_iloadN ok d10_20 rfl ?_
  refine w_iload ok d10_21 rfl ?_
  refine w_iastore ok d10_23 A_sl ge_sl (own_ix0 hy) (own_svl hy) (fun h3 W_h3 A1_h3 => ?_)
  replace Kp := Kp.wr W_h3 (Or.inl (by simp))
  replace A_t := A_t.other W_h3 ne_t_sl
  replace A_en := A_en.other W_h3 ne_en_sl
  replace A_ti := A_ti.other W_h3 ne_ti_sl
  replace A_sl : PA .int Z h3 sl ((sv 4 g).set (Int32.ofNat y).toNatClampNeg (.int (Int32.ofNat i))) := A1_h3
  rw [own_ix hy, sv_set] at A_sl
  refine w_ret ok d10_24 (by decide) (by decide) ?_
  exact ⟨rfl, Kp, A_en, A_ti, A_sl⟩
theorem d17_0 : decode prog_26_method_11_code 0 = .ok (.iconst 2, 1) := by decide +kernel
theorem d17_1 : decode prog_26_method_11_code 1 = .ok (.iload_n 1, 1) := by decide +kernel
theorem d17_2 : decode prog_26_method_11_code 2 = .ok (.imul, 1) := by decide +kernel
theorem d17_3 : decode prog_26_method_11_code 3 = .ok (.iconst 1, 1) := by decide +kernel
theorem d17_4 : decode prog_26_method_11_code 4 = .ok (.iadd, 1) := by decide +kernel
theorem d17_5 : decode prog_26_method_11_code 5 = .ok (.istore_n 2, 1) := by decide +kernel
theorem d17_6 : decode prog_26_method_11_code 6 = .ok (.iload_n 2, 1) := by decide +kernel
theorem d17_7 : decode prog_26_method_11_code 7 = .ok (.iconst 1, 1) := by decide +kernel
theorem d17_8 : decode prog_26_method_11_code 8 = .ok (.iadd, 1) := by decide +kernel
theorem d17_9 : decode prog_26_method_11_code 9 = .ok (.aload_n 0, 1) := by decide +kernel
theorem d17_10 : decode prog_26_method_11_code 10 = .ok (.getfield 33, 3) := by decide +kernel
theorem d17_13 : decode prog_26_method_11_code 13 = .ok (.if_icmp .ge 27, 3) := by decide +kernel
theorem d17_16 : decode prog_26_method_11_code 16 = .ok (.aload_n 0, 1) := by decide +kernel
theorem d17_17 : decode prog_26_method_11_code 17 = .ok (.getfield 13, 3) := by decide +kernel
theorem d17_20 : decode prog_26_method_11_code 20 = .ok (.iload_n 2, 1) := by decide +kernel
theorem d17_21 : decode prog_26_method_11_code 21 = .ok (.iconst 1, 1) := by decide +kernel
theorem d17_22 : decode prog_26_method_11_code 22 = .ok (.iadd, 1) := by decide +kernel
theorem d17_23 : decode prog_26_method_11_code 23 = .ok (.laload, 1) := by decide +kernel
theorem d17_24 : decode prog_26_method_11_code 24 = .ok (.aload_n 0, 1) := by decide +kernel
theorem d17_25 : decode prog_26_method_11_code 25 = .ok (.getfield 13, 3) := by decide +kernel
theorem d17_28 : decode prog_26_method_11_code 28 = .ok (.iload_n 2, 1) := by decide +kernel
theorem d17_29 : decode prog_26_method_11_code 29 = .ok (.laload, 1) := by decide +kernel
theorem d17_30 : decode prog_26_method_11_code 30 = .ok (.lcmp, 1) := by decide +kernel
theorem d17_31 : decode prog_26_method_11_code 31 = .ok (.ifCond .ge 9, 3) := by decide +kernel
theorem d17_34 : decode prog_26_method_11_code 34 = .ok (.iload_n 2, 1) := by decide +kernel
theorem d17_35 : decode prog_26_method_11_code 35 = .ok (.iconst 1, 1) := by decide +kernel
theorem d17_36 : decode prog_26_method_11_code 36 = .ok (.iadd, 1) := by decide +kernel
theorem d17_37 : decode prog_26_method_11_code 37 = .ok (.goto 4, 3) := by decide +kernel
theorem d17_40 : decode prog_26_method_11_code 40 = .ok (.iload_n 2, 1) := by decide +kernel
theorem d17_41 : decode prog_26_method_11_code 41 = .ok (.ireturn, 1) := by decide +kernel
set_option maxRecDepth 65536 in
set_option maxHeartbeats 40000000 in
theorem rm_ec10 (l : Launch) (Z : State) (a0 : Array Value) (hw : ∀ d ∈ tables_1, d.before a0 Z = true) (ws : List Jvm.Cond) (n0 : Nat) (h0 : Heap) (Z0 : Old Z n0 h0) (t en ti sl : Addr) (e g : Nat → Int32) (τ : Nat → Int64) (A_t : Ob Z h0 t "com/example/rowan/rowan/store/IdleHeap" fl_IdleHeap [.ref en, .ref ti, .ref sl, .int (1 : Int32)]) (A_en : PA .int Z h0 en (sv 4 e)) (A_ti : PA .long Z h0 ti (lv 4 τ)) (A_sl : PA .int Z h0 sl (sv 4 g)) (ge_t : n0 ≤ t) (ge_en : n0 ≤ en) (ge_ti : n0 ≤ ti) (ge_sl : n0 ≤ sl) (ne_t_en : t ≠ en) (ne_t_ti : t ≠ ti) (ne_t_sl : t ≠ sl) (ne_en_ti : en ≠ ti) (ne_en_sl : en ≠ sl) (ne_ti_sl : ti ≠ sl)  :
    Met l Z n0 (⟨"com/example/rowan/rowan/store/IdleHeap", "earlierChild", "(I)I"⟩ : MethodName) prog_26_method_11_code 3 (some .int) ws ({ frames := 0, cells := 0, slots := 0, locals := 0 } : Room) #[(.ref t), (.int (0 : Int32))] h0 (fun u h => u = some (.int 1) ∧ h0 = h) := by
  refine met_of Z0 (plainFor_of_name pn_com_example_rowan_rowan_store_IdleHeap) (Ls := #[.val (.ref t), .val (.int (0 : Int32)), .unset]) (fun m => by first | (simp [entryFrame, mkF, argsToLocals, Value.category]; done) | rfl) ?_
  intro K ok
  show W K l _ n0 _ h0 0 0 0 #[.val (.ref t), .val (.int (0 : Int32)), .unset] []
  refine w_iconst ok d17_0 (v := (2 : Int32)) rfl ?_
  refine w_iloadN ok d17_1 rfl ?_
  refine w_imul ok d17_2 ?_
  show W K l _ n0 _ h0 0 0 3 #[.val (.ref t), .val (.int (0 : Int32)), .unset] [(.int (0 : Int32))]
  refine w_iconst ok d17_3 (v := (1 : Int32)) rfl ?_
  refine w_iadd ok d17_4 ?_
  show W K l _ n0 _ h0 0 0 5 #[.val (.ref t), .val (.int (0 : Int32)), .unset] [(.int (1 : Int32))]
  refine w_istoreN ok d17_5 (L' := #[.val (.ref t), .val (.int (0 : Int32)), .val (.int (1 : Int32))]) rfl ?_
  refine w_iloadN ok d17_6 rfl ?_
  refine w_iconst ok d17_7 (v := (1 : Int32)) rfl ?_
  refine w_iadd ok d17_8 ?_
  show W K l _ n0 _ h0 0 0 9 #[.val (.ref t), .val (.int (0 : Int32)), .val (.int (1 : Int32))] [(.int (2 : Int32))]
  refine w_aloadN ok d17_9 rfl rfl ?_
  refine w_getfield ok (v := (.int (1 : Int32))) (host := "") (f := ("com/example/rowan/rowan/store/IdleHeap", "size", "I", .int)) 3 d17_10 (Or.inl (hw _ (List.mem_of_getElem? (i := 48) rfl))) Via.refl A_t rfl rfl ?_
  refine w_icmp_ge ok d17_13 (pc' := 40) (by decide) (fun hc1 => ?_) (fun hc1 => False.elim (by revert hc1; decide))
  show W K l _ n0 _ h0 0 0 40 #[.val (.ref t), .val (.int (0 : Int32)), .val (.int (1 : Int32))] []
  refine w_iloadN ok d17_40 rfl ?_
  refine w_iret ok d17_41 (by decide) (by decide) ?_
  exact ⟨rfl, rfl⟩
set_option maxRecDepth 65536 in
set_option maxHeartbeats 40000000 in
theorem rm_ec20 (l : Launch) (Z : State) (a0 : Array Value) (hw : ∀ d ∈ tables_1, d.before a0 Z = true) (ws : List Jvm.Cond) (n0 : Nat) (h0 : Heap) (Z0 : Old Z n0 h0) (t en ti sl : Addr) (e g : Nat → Int32) (τ : Nat → Int64) (A_t : Ob Z h0 t "com/example/rowan/rowan/store/IdleHeap" fl_IdleHeap [.ref en, .ref ti, .ref sl, .int (2 : Int32)]) (A_en : PA .int Z h0 en (sv 4 e)) (A_ti : PA .long Z h0 ti (lv 4 τ)) (A_sl : PA .int Z h0 sl (sv 4 g)) (ge_t : n0 ≤ t) (ge_en : n0 ≤ en) (ge_ti : n0 ≤ ti) (ge_sl : n0 ≤ sl) (ne_t_en : t ≠ en) (ne_t_ti : t ≠ ti) (ne_t_sl : t ≠ sl) (ne_en_ti : en ≠ ti) (ne_en_sl : en ≠ sl) (ne_ti_sl : ti ≠ sl)  :
    Met l Z n0 (⟨"com/example/rowan/rowan/store/IdleHeap", "earlierChild", "(I)I"⟩ : MethodName) prog_26_method_11_code 3 (some .int) ws ({ frames := 0, cells := 0, slots := 0, locals := 0 } : Room) #[(.ref t), (.int (0 : Int32))] h0 (fun u h => u = some (.int 1) ∧ h0 = h) := by
  refine met_of Z0 (plainFor_of_name pn_com_example_rowan_rowan_store_IdleHeap) (Ls := #[.val (.ref t), .val (.int (0 : Int32)), .unset]) (fun m => by first | (simp [entryFrame, mkF, argsToLocals, Value.category]; done) | rfl) ?_
  intro K ok
  show W K l _ n0 _ h0 0 0 0 #[.val (.ref t), .val (.int (0 : Int32)), .unset] []
  refine w_iconst ok d17_0 (v := (2 : Int32)) rfl ?_
  refine w_iloadN ok d17_1 rfl ?_
  refine w_imul ok d17_2 ?_
  show W K l _ n0 _ h0 0 0 3 #[.val (.ref t), .val (.int (0 : Int32)), .unset] [(.int (0 : Int32))]
  refine w_iconst ok d17_3 (v := (1 : Int32)) rfl ?_
  refine w_iadd ok d17_4 ?_
  show W K l _ n0 _ h0 0 0 5 #[.val (.ref t), .val (.int (0 : Int32)), .unset] [(.int (1 : Int32))]
  refine w_istoreN ok d17_5 (L' := #[.val (.ref t), .val (.int (0 : Int32)), .val (.int (1 : Int32))]) rfl ?_
  refine w_iloadN ok d17_6 rfl ?_
  refine w_iconst ok d17_7 (v := (1 : Int32)) rfl ?_
  refine w_iadd ok d17_8 ?_
  show W K l _ n0 _ h0 0 0 9 #[.val (.ref t), .val (.int (0 : Int32)), .val (.int (1 : Int32))] [(.int (2 : Int32))]
  refine w_aloadN ok d17_9 rfl rfl ?_
  refine w_getfield ok (v := (.int (2 : Int32))) (host := "") (f := ("com/example/rowan/rowan/store/IdleHeap", "size", "I", .int)) 3 d17_10 (Or.inl (hw _ (List.mem_of_getElem? (i := 48) rfl))) Via.refl A_t rfl rfl ?_
  refine w_icmp_ge ok d17_13 (pc' := 40) (by decide) (fun hc1 => ?_) (fun hc1 => False.elim (by revert hc1; decide))
  show W K l _ n0 _ h0 0 0 40 #[.val (.ref t), .val (.int (0 : Int32)), .val (.int (1 : Int32))] []
  refine w_iloadN ok d17_40 rfl ?_
  refine w_iret ok d17_41 (by decide) (by decide) ?_
  exact ⟨rfl, rfl⟩
set_option maxRecDepth 65536 in
set_option maxHeartbeats 40000000 in
theorem rm_ec21 (l : Launch) (Z : State) (a0 : Array Value) (hw : ∀ d ∈ tables_1, d.before a0 Z = true) (ws : List Jvm.Cond) (n0 : Nat) (h0 : Heap) (Z0 : Old Z n0 h0) (t en ti sl : Addr) (e g : Nat → Int32) (τ : Nat → Int64) (A_t : Ob Z h0 t "com/example/rowan/rowan/store/IdleHeap" fl_IdleHeap [.ref en, .ref ti, .ref sl, .int (2 : Int32)]) (A_en : PA .int Z h0 en (sv 4 e)) (A_ti : PA .long Z h0 ti (lv 4 τ)) (A_sl : PA .int Z h0 sl (sv 4 g)) (ge_t : n0 ≤ t) (ge_en : n0 ≤ en) (ge_ti : n0 ≤ ti) (ge_sl : n0 ≤ sl) (ne_t_en : t ≠ en) (ne_t_ti : t ≠ ti) (ne_t_sl : t ≠ sl) (ne_en_ti : en ≠ ti) (ne_en_sl : en ≠ sl) (ne_ti_sl : ti ≠ sl)  :
    Met l Z n0 (⟨"com/example/rowan/rowan/store/IdleHeap", "earlierChild", "(I)I"⟩ : MethodName) prog_26_method_11_code 3 (some .int) ws ({ frames := 0, cells := 0, slots := 0, locals := 0 } : Room) #[(.ref t), (.int (1 : Int32))] h0 (fun u h => u = some (.int 3) ∧ h0 = h) := by
  refine met_of Z0 (plainFor_of_name pn_com_example_rowan_rowan_store_IdleHeap) (Ls := #[.val (.ref t), .val (.int (1 : Int32)), .unset]) (fun m => by first | (simp [entryFrame, mkF, argsToLocals, Value.category]; done) | rfl) ?_
  intro K ok
  show W K l _ n0 _ h0 0 0 0 #[.val (.ref t), .val (.int (1 : Int32)), .unset] []
  refine w_iconst ok d17_0 (v := (2 : Int32)) rfl ?_
  refine w_iloadN ok d17_1 rfl ?_
  refine w_imul ok d17_2 ?_
  show W K l _ n0 _ h0 0 0 3 #[.val (.ref t), .val (.int (1 : Int32)), .unset] [(.int (2 : Int32))]
  refine w_iconst ok d17_3 (v := (1 : Int32)) rfl ?_
  refine w_iadd ok d17_4 ?_
  show W K l _ n0 _ h0 0 0 5 #[.val (.ref t), .val (.int (1 : Int32)), .unset] [(.int (3 : Int32))]
  refine w_istoreN ok d17_5 (L' := #[.val (.ref t), .val (.int (1 : Int32)), .val (.int (3 : Int32))]) rfl ?_
  refine w_iloadN ok d17_6 rfl ?_
  refine w_iconst ok d17_7 (v := (1 : Int32)) rfl ?_
  refine w_iadd ok d17_8 ?_
  show W K l _ n0 _ h0 0 0 9 #[.val (.ref t), .val (.int (1 : Int32)), .val (.int (3 : Int32))] [(.int (4 : Int32))]
  refine w_aloadN ok d17_9 rfl rfl ?_
  refine w_getfield ok (v := (.int (2 : Int32))) (host := "") (f := ("com/example/rowan/rowan/store/IdleHeap", "size", "I", .int)) 3 d17_10 (Or.inl (hw _ (List.mem_of_getElem? (i := 48) rfl))) Via.refl A_t rfl rfl ?_
  refine w_icmp_ge ok d17_13 (pc' := 40) (by decide) (fun hc1 => ?_) (fun hc1 => False.elim (by revert hc1; decide))
  show W K l _ n0 _ h0 0 0 40 #[.val (.ref t), .val (.int (1 : Int32)), .val (.int (3 : Int32))] []
  refine w_iloadN ok d17_40 rfl ?_
  refine w_iret ok d17_41 (by decide) (by decide) ?_
  exact ⟨rfl, rfl⟩
set_option maxRecDepth 65536 in
set_option maxHeartbeats 40000000 in
theorem rm_ec30 (l : Launch) (Z : State) (a0 : Array Value) (hw : ∀ d ∈ tables_1, d.before a0 Z = true) (ws : List Jvm.Cond) (n0 : Nat) (h0 : Heap) (Z0 : Old Z n0 h0) (t en ti sl : Addr) (e g : Nat → Int32) (τ : Nat → Int64) (A_t : Ob Z h0 t "com/example/rowan/rowan/store/IdleHeap" fl_IdleHeap [.ref en, .ref ti, .ref sl, .int (3 : Int32)]) (A_en : PA .int Z h0 en (sv 4 e)) (A_ti : PA .long Z h0 ti (lv 4 τ)) (A_sl : PA .int Z h0 sl (sv 4 g)) (ge_t : n0 ≤ t) (ge_en : n0 ≤ en) (ge_ti : n0 ≤ ti) (ge_sl : n0 ≤ sl) (ne_t_en : t ≠ en) (ne_t_ti : t ≠ ti) (ne_t_sl : t ≠ sl) (ne_en_ti : en ≠ ti) (ne_en_sl : en ≠ sl) (ne_ti_sl : ti ≠ sl)  :
    Met l Z n0 (⟨"com/example/rowan/rowan/store/IdleHeap", "earlierChild", "(I)I"⟩ : MethodName) prog_26_method_11_code 3 (some .int) ws ({ frames := 0, cells := 0, slots := 0, locals := 0 } : Room) #[(.ref t), (.int (0 : Int32))] h0 (fun u h => (u = some (.int 2) ∧ τ 2 < τ 1 ∧ h0 = h) ∨ (u = some (.int 1) ∧ ¬ τ 2 < τ 1 ∧ h0 = h)) := by
  refine met_of Z0 (plainFor_of_name pn_com_example_rowan_rowan_store_IdleHeap) (Ls := #[.val (.ref t), .val (.int (0 : Int32)), .unset]) (fun m => by first | (simp [entryFrame, mkF, argsToLocals, Value.category]; done) | rfl) ?_
  intro K ok
  show W K l _ n0 _ h0 0 0 0 #[.val (.ref t), .val (.int (0 : Int32)), .unset] []
  refine w_iconst ok d17_0 (v := (2 : Int32)) rfl ?_
  refine w_iloadN ok d17_1 rfl ?_
  refine w_imul ok d17_2 ?_
  show W K l _ n0 _ h0 0 0 3 #[.val (.ref t), .val (.int (0 : Int32)), .unset] [(.int (0 : Int32))]
  refine w_iconst ok d17_3 (v := (1 : Int32)) rfl ?_
  refine w_iadd ok d17_4 ?_
  show W K l _ n0 _ h0 0 0 5 #[.val (.ref t), .val (.int (0 : Int32)), .unset] [(.int (1 : Int32))]
  refine w_istoreN ok d17_5 (L' := #[.val (.ref t), .val (.int (0 : Int32)), .val (.int (1 : Int32))]) rfl ?_
  refine w_iloadN ok d17_6 rfl ?_
  refine w_iconst ok d17_7 (v := (1 : Int32)) rfl ?_
  refine w_iadd ok d17_8 ?_
  show W K l _ n0 _ h0 0 0 9 #[.val (.ref t), .val (.int (0 : Int32)), .val (.int (1 : Int32))] [(.int (2 : Int32))]
  refine w_aloadN ok d17_9 rfl rfl ?_
  refine w_getfield ok (v := (.int (3 : Int32))) (host := "") (f := ("com/example/rowan/rowan/store/IdleHeap", "size", "I", .int)) 3 d17_10 (Or.inl (hw _ (List.mem_of_getElem? (i := 48) rfl))) Via.refl A_t rfl rfl ?_
  refine w_icmp_ge ok d17_13 (pc' := 40) (by decide) (fun hc1 => False.elim (by revert hc1; decide)) (fun hc1 => ?_)
  show W K l _ n0 _ h0 0 0 16 #[.val (.ref t), .val (.int (0 : Int32)), .val (.int (1 : Int32))] []
  refine w_aloadN ok d17_16 rfl rfl ?_
  refine w_getfield ok (v := (.ref ti)) (host := "") (f := ("com/example/rowan/rowan/store/IdleHeap", "times", "[J", (.array .long))) 1 d17_17 (Or.inl (hw _ (List.mem_of_getElem? (i := 13) rfl))) Via.refl A_t rfl rfl ?_
  refine w_iloadN ok d17_20 rfl ?_
  refine w_iconst ok d17_21 (v := (1 : Int32)) rfl ?_
  refine w_iadd ok d17_22 ?_
  show W K l _ n0 _ h0 0 0 23 #[.val (.ref t), .val (.int (0 : Int32)), .val (.int (1 : Int32))] [(.int (2 : Int32)), (.ref ti)]
  refine w_laload ok (v := (.long (τ 2))) d17_23 A_ti (by decide) (own_lvg (j := 2) (by decide)) ?_
  refine w_aloadN ok d17_24 rfl rfl ?_
  refine w_getfield ok (v := (.ref ti)) (host := "") (f := ("com/example/rowan/rowan/store/IdleHeap", "times", "[J", (.array .long))) 1 d17_25 (Or.inl (hw _ (List.mem_of_getElem? (i := 13) rfl))) Via.refl A_t rfl rfl ?_
  refine w_iloadN ok d17_28 rfl ?_
  refine w_laload ok (v := (.long (τ 1))) d17_29 A_ti (by decide) (own_lvg (j := 1) (by decide)) ?_
  refine w_lcmp_ge ok d17_30 d17_31 (pc' := 40) (by decide) (fun hc3 => ?_) (fun hc3 => ?_)
  · show W K l _ n0 _ h0 0 0 40 #[.val (.ref t), .val (.int (0 : Int32)), .val (.int (1 : Int32))] []
    refine w_iloadN ok d17_40 rfl ?_
    refine w_iret ok d17_41 (by decide) (by decide) ?_
    exact Or.inr ⟨rfl, hc3, rfl⟩
  · show W K l _ n0 _ h0 0 0 34 #[.val (.ref t), .val (.int (0 : Int32)), .val (.int (1 : Int32))] []
    refine w_iloadN ok d17_34 rfl ?_
    refine w_iconst ok d17_35 (v := (1 : Int32)) rfl ?_
    refine w_iadd ok d17_36 ?_
    show W K l _ n0 _ h0 0 0 37 #[.val (.ref t), .val (.int (0 : Int32)), .val (.int (1 : Int32))] [(.int (2 : Int32))]
    refine w_goto ok d17_37 (pc' := 41) (by decide) ?_
    refine w_iret ok d17_41 (by decide) (by decide) ?_
    exact Or.inl ⟨rfl, hc3, rfl⟩
set_option maxRecDepth 65536 in
set_option maxHeartbeats 40000000 in
theorem rm_ec31 (l : Launch) (Z : State) (a0 : Array Value) (hw : ∀ d ∈ tables_1, d.before a0 Z = true) (ws : List Jvm.Cond) (n0 : Nat) (h0 : Heap) (Z0 : Old Z n0 h0) (t en ti sl : Addr) (e g : Nat → Int32) (τ : Nat → Int64) (A_t : Ob Z h0 t "com/example/rowan/rowan/store/IdleHeap" fl_IdleHeap [.ref en, .ref ti, .ref sl, .int (3 : Int32)]) (A_en : PA .int Z h0 en (sv 4 e)) (A_ti : PA .long Z h0 ti (lv 4 τ)) (A_sl : PA .int Z h0 sl (sv 4 g)) (ge_t : n0 ≤ t) (ge_en : n0 ≤ en) (ge_ti : n0 ≤ ti) (ge_sl : n0 ≤ sl) (ne_t_en : t ≠ en) (ne_t_ti : t ≠ ti) (ne_t_sl : t ≠ sl) (ne_en_ti : en ≠ ti) (ne_en_sl : en ≠ sl) (ne_ti_sl : ti ≠ sl)  :
    Met l Z n0 (⟨"com/example/rowan/rowan/store/IdleHeap", "earlierChild", "(I)I"⟩ : MethodName) prog_26_method_11_code 3 (some .int) ws ({ frames := 0, cells := 0, slots := 0, locals := 0 } : Room) #[(.ref t), (.int (1 : Int32))] h0 (fun u h => u = some (.int 3) ∧ h0 = h) := by
  refine met_of Z0 (plainFor_of_name pn_com_example_rowan_rowan_store_IdleHeap) (Ls := #[.val (.ref t), .val (.int (1 : Int32)), .unset]) (fun m => by first | (simp [entryFrame, mkF, argsToLocals, Value.category]; done) | rfl) ?_
  intro K ok
  show W K l _ n0 _ h0 0 0 0 #[.val (.ref t), .val (.int (1 : Int32)), .unset] []
  refine w_iconst ok d17_0 (v := (2 : Int32)) rfl ?_
  refine w_iloadN ok d17_1 rfl ?_
  refine w_imul ok d17_2 ?_
  show W K l _ n0 _ h0 0 0 3 #[.val (.ref t), .val (.int (1 : Int32)), .unset] [(.int (2 : Int32))]
  refine w_iconst ok d17_3 (v := (1 : Int32)) rfl ?_
  refine w_iadd ok d17_4 ?_
  show W K l _ n0 _ h0 0 0 5 #[.val (.ref t), .val (.int (1 : Int32)), .unset] [(.int (3 : Int32))]
  refine w_istoreN ok d17_5 (L' := #[.val (.ref t), .val (.int (1 : Int32)), .val (.int (3 : Int32))]) rfl ?_
  refine w_iloadN ok d17_6 rfl ?_
  refine w_iconst ok d17_7 (v := (1 : Int32)) rfl ?_
  refine w_iadd ok d17_8 ?_
  show W K l _ n0 _ h0 0 0 9 #[.val (.ref t), .val (.int (1 : Int32)), .val (.int (3 : Int32))] [(.int (4 : Int32))]
  refine w_aloadN ok d17_9 rfl rfl ?_
  refine w_getfield ok (v := (.int (3 : Int32))) (host := "") (f := ("com/example/rowan/rowan/store/IdleHeap", "size", "I", .int)) 3 d17_10 (Or.inl (hw _ (List.mem_of_getElem? (i := 48) rfl))) Via.refl A_t rfl rfl ?_
  refine w_icmp_ge ok d17_13 (pc' := 40) (by decide) (fun hc1 => ?_) (fun hc1 => False.elim (by revert hc1; decide))
  show W K l _ n0 _ h0 0 0 40 #[.val (.ref t), .val (.int (1 : Int32)), .val (.int (3 : Int32))] []
  refine w_iloadN ok d17_40 rfl ?_
  refine w_iret ok d17_41 (by decide) (by decide) ?_
  exact ⟨rfl, rfl⟩
set_option maxRecDepth 65536 in
set_option maxHeartbeats 40000000 in
theorem rm_ec32 (l : Launch) (Z : State) (a0 : Array Value) (hw : ∀ d ∈ tables_1, d.before a0 Z = true) (ws : List Jvm.Cond) (n0 : Nat) (h0 : Heap) (Z0 : Old Z n0 h0) (t en ti sl : Addr) (e g : Nat → Int32) (τ : Nat → Int64) (A_t : Ob Z h0 t "com/example/rowan/rowan/store/IdleHeap" fl_IdleHeap [.ref en, .ref ti, .ref sl, .int (3 : Int32)]) (A_en : PA .int Z h0 en (sv 4 e)) (A_ti : PA .long Z h0 ti (lv 4 τ)) (A_sl : PA .int Z h0 sl (sv 4 g)) (ge_t : n0 ≤ t) (ge_en : n0 ≤ en) (ge_ti : n0 ≤ ti) (ge_sl : n0 ≤ sl) (ne_t_en : t ≠ en) (ne_t_ti : t ≠ ti) (ne_t_sl : t ≠ sl) (ne_en_ti : en ≠ ti) (ne_en_sl : en ≠ sl) (ne_ti_sl : ti ≠ sl)  :
    Met l Z n0 (⟨"com/example/rowan/rowan/store/IdleHeap", "earlierChild", "(I)I"⟩ : MethodName) prog_26_method_11_code 3 (some .int) ws ({ frames := 0, cells := 0, slots := 0, locals := 0 } : Room) #[(.ref t), (.int (2 : Int32))] h0 (fun u h => u = some (.int 5) ∧ h0 = h) := by
  refine met_of Z0 (plainFor_of_name pn_com_example_rowan_rowan_store_IdleHeap) (Ls := #[.val (.ref t), .val (.int (2 : Int32)), .unset]) (fun m => by first | (simp [entryFrame, mkF, argsToLocals, Value.category]; done) | rfl) ?_
  intro K ok
  show W K l _ n0 _ h0 0 0 0 #[.val (.ref t), .val (.int (2 : Int32)), .unset] []
  refine w_iconst ok d17_0 (v := (2 : Int32)) rfl ?_
  refine w_iloadN ok d17_1 rfl ?_
  refine w_imul ok d17_2 ?_
  show W K l _ n0 _ h0 0 0 3 #[.val (.ref t), .val (.int (2 : Int32)), .unset] [(.int (4 : Int32))]
  refine w_iconst ok d17_3 (v := (1 : Int32)) rfl ?_
  refine w_iadd ok d17_4 ?_
  show W K l _ n0 _ h0 0 0 5 #[.val (.ref t), .val (.int (2 : Int32)), .unset] [(.int (5 : Int32))]
  refine w_istoreN ok d17_5 (L' := #[.val (.ref t), .val (.int (2 : Int32)), .val (.int (5 : Int32))]) rfl ?_
  refine w_iloadN ok d17_6 rfl ?_
  refine w_iconst ok d17_7 (v := (1 : Int32)) rfl ?_
  refine w_iadd ok d17_8 ?_
  show W K l _ n0 _ h0 0 0 9 #[.val (.ref t), .val (.int (2 : Int32)), .val (.int (5 : Int32))] [(.int (6 : Int32))]
  refine w_aloadN ok d17_9 rfl rfl ?_
  refine w_getfield ok (v := (.int (3 : Int32))) (host := "") (f := ("com/example/rowan/rowan/store/IdleHeap", "size", "I", .int)) 3 d17_10 (Or.inl (hw _ (List.mem_of_getElem? (i := 48) rfl))) Via.refl A_t rfl rfl ?_
  refine w_icmp_ge ok d17_13 (pc' := 40) (by decide) (fun hc1 => ?_) (fun hc1 => False.elim (by revert hc1; decide))
  show W K l _ n0 _ h0 0 0 40 #[.val (.ref t), .val (.int (2 : Int32)), .val (.int (5 : Int32))] []
  refine w_iloadN ok d17_40 rfl ?_
  refine w_iret ok d17_41 (by decide) (by decide) ?_
  exact ⟨rfl, rfl⟩
theorem d11_0 : decode prog_26_method_9_code 0 = .ok (.aload_n 0, 1) := by decide +kernel
theorem d11_1 : decode prog_26_method_9_code 1 = .ok (.getfield 7, 3) := by decide +kernel
theorem d11_4 : decode prog_26_method_9_code 4 = .ok (.iload_n 1, 1) := by decide +kernel
theorem d11_5 : decode prog_26_method_9_code 5 = .ok (.iaload, 1) := by decide +kernel
theorem d11_6 : decode prog_26_method_9_code 6 = .ok (.istore_n 2, 1) := by decide +kernel
theorem d11_7 : decode prog_26_method_9_code 7 = .ok (.aload_n 0, 1) := by decide +kernel
theorem d11_8 : decode prog_26_method_9_code 8 = .ok (.getfield 13, 3) := by decide +kernel
theorem d11_11 : decode prog_26_method_9_code 11 = .ok (.iload_n 1, 1) := by decide +kernel
theorem d11_12 : decode prog_26_method_9_code 12 = .ok (.laload, 1) := by decide +kernel
theorem d11_13 : decode prog_26_method_9_code 13 = .ok (.lstore_n 3, 1) := by decide +kernel
theorem d11_14 : decode prog_26_method_9_code 14 = .ok (.iload_n 1, 1) := by decide +kernel
theorem d11_15 : decode prog_26_method_9_code 15 = .ok (.istore 5, 2) := by decide +kernel
theorem d11_17 : decode prog_26_method_9_code 17 = .ok (.iload 5, 2) := by decide +kernel
theorem d11_19 : decode prog_26_method_9_code 19 = .ok (.ifCond .le 54, 3) := by decide +kernel
theorem d11_22 : decode prog_26_method_9_code 22 = .ok (.aload_n 0, 1) := by decide +kernel
theorem d11_23 : decode prog_26_method_9_code 23 = .ok (.getfield 13, 3) := by decide +kernel
theorem d11_26 : decode prog_26_method_9_code 26 = .ok (.iload 5, 2) := by decide +kernel
theorem d11_28 : decode prog_26_method_9_code 28 = .ok (.iconst 1, 1) := by decide +kernel
theorem d11_29 : decode prog_26_method_9_code 29 = .ok (.isub, 1) := by decide +kernel
theorem d11_30 : decode prog_26_method_9_code 30 = .ok (.iconst 2, 1) := by decide +kernel
theorem d11_31 : decode prog_26_method_9_code 31 = .ok (.idiv, 1) := by decide +kernel
theorem d11_32 : decode prog_26_method_9_code 32 = .ok (.laload, 1) := by decide +kernel
theorem d11_33 : decode prog_26_method_9_code 33 = .ok (.lload_n 3, 1) := by decide +kernel
theorem d11_34 : decode prog_26_method_9_code 34 = .ok (.lcmp, 1) := by decide +kernel
theorem d11_35 : decode prog_26_method_9_code 35 = .ok (.ifCond .le 38, 3) := by decide +kernel
theorem d11_38 : decode prog_26_method_9_code 38 = .ok (.iload 5, 2) := by decide +kernel
theorem d11_40 : decode prog_26_method_9_code 40 = .ok (.iconst 1, 1) := by decide +kernel
theorem d11_41 : decode prog_26_method_9_code 41 = .ok (.isub, 1) := by decide +kernel
theorem d11_42 : decode prog_26_method_9_code 42 = .ok (.iconst 2, 1) := by decide +kernel
theorem d11_43 : decode prog_26_method_9_code 43 = .ok (.idiv, 1) := by decide +kernel
theorem d11_44 : decode prog_26_method_9_code 44 = .ok (.istore 6, 2) := by decide +kernel
theorem d11_46 : decode prog_26_method_9_code 46 = .ok (.aload_n 0, 1) := by decide +kernel
theorem d11_47 : decode prog_26_method_9_code 47 = .ok (.aload_n 0, 1) := by decide +kernel
theorem d11_48 : decode prog_26_method_9_code 48 = .ok (.getfield 7, 3) := by decide +kernel
theorem d11_51 : decode prog_26_method_9_code 51 = .ok (.iload 6, 2) := by decide +kernel
theorem d11_53 : decode prog_26_method_9_code 53 = .ok (.iaload, 1) := by decide +kernel
theorem d11_54 : decode prog_26_method_9_code 54 = .ok (.aload_n 0, 1) := by decide +kernel
theorem d11_55 : decode prog_26_method_9_code 55 = .ok (.getfield 13, 3) := by decide +kernel
theorem d11_58 : decode prog_26_method_9_code 58 = .ok (.iload 6, 2) := by decide +kernel
theorem d11_60 : decode prog_26_method_9_code 60 = .ok (.laload, 1) := by decide +kernel
theorem d11_61 : decode prog_26_method_9_code 61 = .ok (.iload 5, 2) := by decide +kernel
theorem d11_63 : decode prog_26_method_9_code 63 = .ok (.invokevirtual 37, 3) := by decide +kernel
theorem d11_66 : decode prog_26_method_9_code 66 = .ok (.iload 6, 2) := by decide +kernel
theorem d11_68 : decode prog_26_method_9_code 68 = .ok (.istore 5, 2) := by decide +kernel
theorem d11_70 : decode prog_26_method_9_code 70 = .ok (.goto (-53), 3) := by decide +kernel
theorem d11_73 : decode prog_26_method_9_code 73 = .ok (.aload_n 0, 1) := by decide +kernel
theorem d11_74 : decode prog_26_method_9_code 74 = .ok (.iload_n 2, 1) := by decide +kernel
theorem d11_75 : decode prog_26_method_9_code 75 = .ok (.lload_n 3, 1) := by decide +kernel
theorem d11_76 : decode prog_26_method_9_code 76 = .ok (.iload 5, 2) := by decide +kernel
theorem d11_78 : decode prog_26_method_9_code 78 = .ok (.invokevirtual 37, 3) := by decide +kernel
theorem d11_81 : decode prog_26_method_9_code 81 = .ok (.return_, 1) := by decide +kernel
theorem pd_28IJI29V : parseMethodDescriptor "(IJI)V" = some ⟨[.int, .long, .int], none⟩ := by decide +kernel
set_option maxRecDepth 65536 in
set_option maxHeartbeats 40000000 in
theorem rm_up (l : Launch) (Z : State) (a0 : Array Value) (hw : ∀ d ∈ tables_1, d.before a0 Z = true) (ws : List Jvm.Cond) (n0 : Nat) (h0 : Heap) (Z0 : Old Z n0 h0) (t en ti sl : Addr) (sz : Nat) (e g : Nat → Int32) (τ : Nat → Int64) (A_t : Ob Z h0 t "com/example/rowan/rowan/store/IdleHeap" fl_IdleHeap [.ref en, .ref ti, .ref sl, .int (Int32.ofNat sz)]) (A_en : PA .int Z h0 en (sv 4 e)) (A_ti : PA .long Z h0 ti (lv 4 τ)) (A_sl : PA .int Z h0 sl (sv 4 g)) (ge_t : n0 ≤ t) (ge_en : n0 ≤ en) (ge_ti : n0 ≤ ti) (ge_sl : n0 ≤ sl) (ne_t_en : t ≠ en) (ne_t_ti : t ≠ ti) (ne_t_sl : t ≠ sl) (ne_en_ti : en ≠ ti) (ne_en_sl : en ≠ sl) (ne_ti_sl : ti ≠ sl) (f : Nat) (M : Nat → Option Int64) (P : PP sz e τ g M) (hf : f < sz) (hU : ∀ i, i < sz → i ≠ f → (τ 0).toInt ≤ (τ i).toInt) :
    Met l Z n0 (⟨"com/example/rowan/rowan/store/IdleHeap", "siftUp", "(I)V"⟩ : MethodName) prog_26_method_9_code 7 none ws ({ frames := 1, cells := 0, slots := 0, locals := 16 } : Room) #[.ref t, .int (Int32.ofNat f)] h0 (fun u h => u = none ∧ ∃ e' g' τ', Keep h0 h [en, ti, sl] ∧ PA .int Z h en (sv 4 e') ∧ PA .long Z h ti (lv 4 τ') ∧ PA .int Z h sl (sv 4 g') ∧ PP sz e' τ' g' M ∧ HO sz τ' ∧ (¬ τ f < τ 0 → e' 0 = e 0)) := by
  refine met_of Z0 (plainFor_of_name pn_com_example_rowan_rowan_store_IdleHeap) (Ls := #[.val (.ref t), .val (.int (Int32.ofNat f)), .unset, .unset, .unset, .unset, .unset]) (fun m => by first | (simp [entryFrame, mkF, argsToLocals, Value.category]; done) | rfl) ?_
  intro K ok
  obtain ⟨rfl, rfl⟩ | ⟨rfl, rfl⟩ | ⟨rfl, rfl⟩ | ⟨rfl, rfl⟩ | ⟨rfl, rfl⟩ | ⟨rfl, rfl⟩ : (sz = 1 ∧ f = 0) ∨ (sz = 2 ∧ f = 0) ∨ (sz = 2 ∧ f = 1) ∨ (sz = 3 ∧ f = 0) ∨ (sz = 3 ∧ f = 1) ∨ (sz = 3 ∧ f = 2) := by have := P.1; omega
  · have Kp : Keep h0 h0 [en, ti, sl] := Keep.refl _ _
    obtain ⟨y0, hy0, ey0, -, -⟩ := P.2.1 0 (by decide)
    show W K l _ n0 _ h0 0 0 0 #[.val (.ref t), .val (.int (0 : Int32)), .unset, .unset, .unset, .unset, .unset] []
    refine w_aloadN ok d11_0 rfl rfl ?_
    refine w_getfield ok (v := (.ref en)) (host := "") (f := ("com/example/rowan/rowan/store/IdleHeap", "entries", "[I", (.array .int))) 0 d11_1 (Or.inl (hw _ (List.mem_of_getElem? (i := 10) rfl))) Via.refl A_t rfl rfl ?_
    refine w_iloadN ok d11_4 rfl ?_
    refine w_iaload ok (v := (.int (Int32.ofNat y0))) d11_5 A_en (by decide) (ey0 ▸ own_svg (j := 0) (by decide)) ?_
    refine w_istoreN ok d11_6 (L' := #[.val (.ref t), .val (.int (0 : Int32)), .val (.int (Int32.ofNat y0)), .unset, .unset, .unset, .unset]) rfl ?_
    refine w_aloadN ok d11_7 rfl rfl ?_
    refine w_getfield ok (v := (.ref ti)) (host := "") (f := ("com/example/rowan/rowan/store/IdleHeap", "times", "[J", (.array .long))) 1 d11_8 (Or.inl (hw _ (List.mem_of_getElem? (i := 13) rfl))) Via.refl A_t rfl rfl ?_
    refine w_iloadN ok d11_11 rfl ?_
    refine w_laload ok (v := (.long (τ 0))) d11_12 A_ti (by decide) (own_lvg (j := 0) (by decide)) ?_
    refine w_lstoreN ok d11_13 (L' := #[.val (.ref t), .val (.int (0 : Int32)), .val (.int (Int32.ofNat y0)), .val (.long (τ 0)), .second, .unset, .unset]) rfl ?_
    refine w_iloadN ok d11_14 rfl ?_
    refine w_istore ok d11_15 (L' := #[.val (.ref t), .val (.int (0 : Int32)), .val (.int (Int32.ofNat y0)), .val (.long (τ 0)), .second, .val (.int (0 : Int32)), .unset]) rfl ?_
    refine w_iload ok d11_17 rfl ?_
    refine w_if_le ok d11_19 (pc' := 73) (by decide) (fun hc1 => ?_) (fun hc1 => False.elim (by revert hc1; decide))
    show W K l _ n0 _ h0 0 0 73 #[.val (.ref t), .val (.int (0 : Int32)), .val (.int (Int32.ofNat y0)), .val (.long (τ 0)), .second, .val (.int (0 : Int32)), .unset] []
    refine w_aloadN ok d11_73 rfl rfl ?_
    refine w_iloadN ok d11_74 rfl ?_
    refine w_lloadN ok d11_75 rfl ?_
    refine w_iload ok d11_76 rfl ?_
    refine w_callP ok (y := (⟨"com/example/rowan/rowan/store/IdleHeap", "place", "(IJI)V"⟩ : MethodName)) (a := t) (argsL := [(.int (Int32.ofNat y0)), (.long (τ 0)), (.int (0 : Int32))]) (rest := []) d11_78 (hw _ (List.mem_of_getElem? (i := 50) rfl)) (hw _ (List.mem_of_getElem? (i := 51) rfl)) (hw _ (List.mem_of_getElem? (i := 52) rfl)) (hw _ (List.mem_of_getElem? (i := 1) rfl)) (hw _ (List.mem_of_getElem? (i := 2) rfl)) (hw _ (List.mem_of_getElem? (i := 53) rfl)) (by decide) A_t.1 pd_28IJI29V rfl rfl (by decide) (Nat.le_of_ble_eq_true rfl) (by decide) (by decide) (fun z0 => rm_place l Z a0 hw [] n0 h0 z0 t en ti sl (1 : Int32) e g τ A_t A_en A_ti A_sl ge_t ge_en ge_ti ge_sl ne_t_en ne_t_ti ne_t_sl ne_en_ti ne_en_sl ne_ti_sl y0 0 (τ 0) hy0 (by decide)) (fun v2 h3 qv2 => ?_)
    obtain ⟨rfl, K1, A1, A2, A3⟩ := qv2
    replace Kp := Kp.trans K1 (allS (Or.inl (by simp)) (allS (Or.inl (by simp)) (allS (Or.inl (by simp)) all0)))
    replace A_t := A_t.keep K1 (ninS ne_t_en (ninS ne_t_ti (ninS ne_t_sl nin0)))
    replace A_en := A1
    replace A_ti := A2
    replace A_sl := A3
    show W K l _ n0 _ h3 0 0 81 #[.val (.ref t), .val (.int (0 : Int32)), .val (.int (Int32.ofNat y0)), .val (.long (τ 0)), .second, .val (.int (0 : Int32)), .unset] []
    refine w_ret ok d11_81 (by decide) (by decide) ?_
    refine ⟨rfl, _, _, _, Kp, A_en, A_ti, A_sl, (P.keep (by decide) hy0 ey0), ?_, fun _ => by rw [own_uid e 0 ey0]⟩
    rw [own_uidL τ 0 rfl]
    exact fun i hi => if q : i = 0 then by rw [q]; exact Int.le_refl _ else hU i hi q
  · have Kp : Keep h0 h0 [en, ti, sl] := Keep.refl _ _
    obtain ⟨y0, hy0, ey0, -, -⟩ := P.2.1 0 (by decide)
    obtain ⟨y1, hy1, ey1, -, -⟩ := P.2.1 1 (by decide)
    show W K l _ n0 _ h0 0 0 0 #[.val (.ref t), .val (.int (0 : Int32)), .unset, .unset, .unset, .unset, .unset] []
    refine w_aloadN ok d11_0 rfl rfl ?_
    refine w_getfield ok (v := (.ref en)) (host := "") (f := ("com/example/rowan/rowan/store/IdleHeap", "entries", "[I", (.array .int))) 0 d11_1 (Or.inl (hw _ (List.mem_of_getElem? (i := 10) rfl))) Via.refl A_t rfl rfl ?_
    refine w_iloadN ok d11_4 rfl ?_
    refine w_iaload ok (v := (.int (Int32.ofNat y0))) d11_5 A_en (by decide) (ey0 ▸ own_svg (j := 0) (by decide)) ?_
    refine w_istoreN ok d11_6 (L' := #[.val (.ref t), .val (.int (0 : Int32)), .val (.int (Int32.ofNat y0)), .unset, .unset, .unset, .unset]) rfl ?_
    refine w_aloadN ok d11_7 rfl rfl ?_
    refine w_getfield ok (v := (.ref ti)) (host := "") (f := ("com/example/rowan/rowan/store/IdleHeap", "times", "[J", (.array .long))) 1 d11_8 (Or.inl (hw _ (List.mem_of_getElem? (i := 13) rfl))) Via.refl A_t rfl rfl ?_
    refine w_iloadN ok d11_11 rfl ?_
    refine w_laload ok (v := (.long (τ 0))) d11_12 A_ti (by decide) (own_lvg (j := 0) (by decide)) ?_
    refine w_lstoreN ok d11_13 (L' := #[.val (.ref t), .val (.int (0 : Int32)), .val (.int (Int32.ofNat y0)), .val (.long (τ 0)), .second, .unset, .unset]) rfl ?_
    refine w_iloadN ok d11_14 rfl ?_
    refine w_istore ok d11_15 (L' := #[.val (.ref t), .val (.int (0 : Int32)), .val (.int (Int32.ofNat y0)), .val (.long (τ 0)), .second, .val (.int (0 : Int32)), .unset]) rfl ?_
    refine w_iload ok d11_17 rfl ?_
    refine w_if_le ok d11_19 (pc' := 73) (by decide) (fun hc1 => ?_) (fun hc1 => False.elim (by revert hc1; decide))
    show W K l _ n0 _ h0 0 0 73 #[.val (.ref t), .val (.int (0 : Int32)), .val (.int (Int32.ofNat y0)), .val (.long (τ 0)), .second, .val (.int (0 : Int32)), .unset] []
    refine w_aloadN ok d11_73 rfl rfl ?_
    refine w_iloadN ok d11_74 rfl ?_
    refine w_lloadN ok d11_75 rfl ?_
    refine w_iload ok d11_76 rfl ?_
    refine w_callP ok (y := (⟨"com/example/rowan/rowan/store/IdleHeap", "place", "(IJI)V"⟩ : MethodName)) (a := t) (argsL := [(.int (Int32.ofNat y0)), (.long (τ 0)), (.int (0 : Int32))]) (rest := []) d11_78 (hw _ (List.mem_of_getElem? (i := 50) rfl)) (hw _ (List.mem_of_getElem? (i := 51) rfl)) (hw _ (List.mem_of_getElem? (i := 52) rfl)) (hw _ (List.mem_of_getElem? (i := 1) rfl)) (hw _ (List.mem_of_getElem? (i := 2) rfl)) (hw _ (List.mem_of_getElem? (i := 53) rfl)) (by decide) A_t.1 pd_28IJI29V rfl rfl (by decide) (Nat.le_of_ble_eq_true rfl) (by decide) (by decide) (fun z0 => rm_place l Z a0 hw [] n0 h0 z0 t en ti sl (2 : Int32) e g τ A_t A_en A_ti A_sl ge_t ge_en ge_ti ge_sl ne_t_en ne_t_ti ne_t_sl ne_en_ti ne_en_sl ne_ti_sl y0 0 (τ 0) hy0 (by decide)) (fun v2 h3 qv2 => ?_)
    obtain ⟨rfl, K1, A1, A2, A3⟩ := qv2
    replace Kp := Kp.trans K1 (allS (Or.inl (by simp)) (allS (Or.inl (by simp)) (allS (Or.inl (by simp)) all0)))
    replace A_t := A_t.keep K1 (ninS ne_t_en (ninS ne_t_ti (ninS ne_t_sl nin0)))
    replace A_en := A1
    replace A_ti := A2
    replace A_sl := A3
    show W K l _ n0 _ h3 0 0 81 #[.val (.ref t), .val (.int (0 : Int32)), .val (.int (Int32.ofNat y0)), .val (.long (τ 0)), .second, .val (.int (0 : Int32)), .unset] []
    refine w_ret ok d11_81 (by decide) (by decide) ?_
    refine ⟨rfl, _, _, _, Kp, A_en, A_ti, A_sl, (P.keep (by decide) hy0 ey0), ?_, fun _ => by rw [own_uid e 0 ey0]⟩
    rw [own_uidL τ 0 rfl]
    exact fun i hi => if q : i = 0 then by rw [q]; exact Int.le_refl _ else hU i hi q
  · have Kp : Keep h0 h0 [en, ti, sl] := Keep.refl _ _
    obtain ⟨y0, hy0, ey0, -, -⟩ := P.2.1 0 (by decide)
    obtain ⟨y1, hy1, ey1, -, -⟩ := P.2.1 1 (by decide)
    show W K l _ n0 _ h0 0 0 0 #[.val (.ref t), .val (.int (1 : Int32)), .unset, .unset, .unset, .unset, .unset] []
    refine w_aloadN ok d11_0 rfl rfl ?_
    refine w_getfield ok (v := (.ref en)) (host := "") (f := ("com/example/rowan/rowan/store/IdleHeap", "entries", "[I", (.array .int))) 0 d11_1 (Or.inl (hw _ (List.mem_of_getElem? (i := 10) rfl))) Via.refl A_t rfl rfl ?_
    refine w_iloadN ok d11_4 rfl ?_
    refine w_iaload ok (v := (.int (Int32.ofNat y1))) d11_5 A_en (by decide) (ey1 ▸ own_svg (j := 1) (by decide)) ?_
    refine w_istoreN ok d11_6 (L' := #[.val (.ref t), .val (.int (1 : Int32)), .val (.int (Int32.ofNat y1)), .unset, .unset, .unset, .unset]) rfl ?_
    refine w_aloadN ok d11_7 rfl rfl ?_
    refine w_getfield ok (v := (.ref ti)) (host := "") (f := ("com/example/rowan/rowan/store/IdleHeap", "times", "[J", (.array .long))) 1 d11_8 (Or.inl (hw _ (List.mem_of_getElem? (i := 13) rfl))) Via.refl A_t rfl rfl ?_
    refine w_iloadN ok d11_11 rfl ?_
    refine w_laload ok (v := (.long (τ 1))) d11_12 A_ti (by decide) (own_lvg (j := 1) (by decide)) ?_
    refine w_lstoreN ok d11_13 (L' := #[.val (.ref t), .val (.int (1 : Int32)), .val (.int (Int32.ofNat y1)), .val (.long (τ 1)), .second, .unset, .unset]) rfl ?_
    refine w_iloadN ok d11_14 rfl ?_
    refine w_istore ok d11_15 (L' := #[.val (.ref t), .val (.int (1 : Int32)), .val (.int (Int32.ofNat y1)), .val (.long (τ 1)), .second, .val (.int (1 : Int32)), .unset]) rfl ?_
    refine w_iload ok d11_17 rfl ?_
    refine w_if_le ok d11_19 (pc' := 73) (by decide) (fun hc1 => False.elim (by revert hc1; decide)) (fun hc1 => ?_)
    show W K l _ n0 _ h0 0 0 22 #[.val (.ref t), .val (.int (1 : Int32)), .val (.int (Int32.ofNat y1)), .val (.long (τ 1)), .second, .val (.int (1 : Int32)), .unset] []
    refine w_aloadN ok d11_22 rfl rfl ?_
    refine w_getfield ok (v := (.ref ti)) (host := "") (f := ("com/example/rowan/rowan/store/IdleHeap", "times", "[J", (.array .long))) 1 d11_23 (Or.inl (hw _ (List.mem_of_getElem? (i := 13) rfl))) Via.refl A_t rfl rfl ?_
    refine w_iload ok d11_26 rfl ?_
    refine w_iconst ok d11_28 (v := (1 : Int32)) rfl ?_
    refine w_isub ok d11_29 ?_
    show W K l _ n0 _ h0 0 0 30 #[.val (.ref t), .val (.int (1 : Int32)), .val (.int (Int32.ofNat y1)), .val (.long (τ 1)), .second, .val (.int (1 : Int32)), .unset] [(.int (0 : Int32)), (.ref ti)]
    refine w_iconst ok d11_30 (v := (2 : Int32)) rfl ?_
    refine w_idiv ok d11_31 (by decide) ?_
    show W K l _ n0 _ h0 0 0 32 #[.val (.ref t), .val (.int (1 : Int32)), .val (.int (Int32.ofNat y1)), .val (.long (τ 1)), .second, .val (.int (1 : Int32)), .unset] [(.int (0 : Int32)), (.ref ti)]
    refine w_laload ok (v := (.long (τ 0))) d11_32 A_ti (by decide) (own_lvg (j := 0) (by decide)) ?_
    refine w_lloadN ok d11_33 rfl ?_
    refine w_lcmp_le ok d11_34 d11_35 (pc' := 73) (by decide) (fun hc3 => ?_) (fun hc3 => ?_)
    · show W K l _ n0 _ h0 0 0 73 #[.val (.ref t), .val (.int (1 : Int32)), .val (.int (Int32.ofNat y1)), .val (.long (τ 1)), .second, .val (.int (1 : Int32)), .unset] []
      refine w_aloadN ok d11_73 rfl rfl ?_
      refine w_iloadN ok d11_74 rfl ?_
      refine w_lloadN ok d11_75 rfl ?_
      refine w_iload ok d11_76 rfl ?_
      refine w_callP ok (y := (⟨"com/example/rowan/rowan/store/IdleHeap", "place", "(IJI)V"⟩ : MethodName)) (a := t) (argsL := [(.int (Int32.ofNat y1)), (.long (τ 1)), (.int (1 : Int32))]) (rest := []) d11_78 (hw _ (List.mem_of_getElem? (i := 50) rfl)) (hw _ (List.mem_of_getElem? (i := 51) rfl)) (hw _ (List.mem_of_getElem? (i := 52) rfl)) (hw _ (List.mem_of_getElem? (i := 1) rfl)) (hw _ (List.mem_of_getElem? (i := 2) rfl)) (hw _ (List.mem_of_getElem? (i := 53) rfl)) (by decide) A_t.1 pd_28IJI29V rfl rfl (by decide) (Nat.le_of_ble_eq_true rfl) (by decide) (by decide) (fun z0 => rm_place l Z a0 hw [] n0 h0 z0 t en ti sl (2 : Int32) e g τ A_t A_en A_ti A_sl ge_t ge_en ge_ti ge_sl ne_t_en ne_t_ti ne_t_sl ne_en_ti ne_en_sl ne_ti_sl y1 1 (τ 1) hy1 (by decide)) (fun v4 h5 qv4 => ?_)
      obtain ⟨rfl, K1, A1, A2, A3⟩ := qv4
      replace Kp := Kp.trans K1 (allS (Or.inl (by simp)) (allS (Or.inl (by simp)) (allS (Or.inl (by simp)) all0)))
      replace A_t := A_t.keep K1 (ninS ne_t_en (ninS ne_t_ti (ninS ne_t_sl nin0)))
      replace A_en := A1
      replace A_ti := A2
      replace A_sl := A3
      show W K l _ n0 _ h5 0 0 81 #[.val (.ref t), .val (.int (1 : Int32)), .val (.int (Int32.ofNat y1)), .val (.long (τ 1)), .second, .val (.int (1 : Int32)), .unset] []
      refine w_ret ok d11_81 (by decide) (by decide) ?_
      refine ⟨rfl, _, _, _, Kp, A_en, A_ti, A_sl, (P.keep (by decide) hy1 ey1), ?_, fun _ => by rw [own_uid e 1 ey1]⟩
      rw [own_uidL τ 1 rfl]
      exact fun i hi => if q : i = 1 then by rw [q]; have := hc3; rw [Int64.lt_iff_toInt_lt] at this; omega else hU i hi q
    · show W K l _ n0 _ h0 0 0 38 #[.val (.ref t), .val (.int (1 : Int32)), .val (.int (Int32.ofNat y1)), .val (.long (τ 1)), .second, .val (.int (1 : Int32)), .unset] []
      refine w_iload ok d11_38 rfl ?_
      refine w_iconst ok d11_40 (v := (1 : Int32)) rfl ?_
      refine w_isub ok d11_41 ?_
      show W K l _ n0 _ h0 0 0 42 #[.val (.ref t), .val (.int (1 : Int32)), .val (.int (Int32.ofNat y1)), .val (.long (τ 1)), .second, .val (.int (1 : Int32)), .unset] [(.int (0 : Int32))]
      refine w_iconst ok d11_42 (v := (2 : Int32)) rfl ?_
      refine w_idiv ok d11_43 (by decide) ?_
      show W K l _ n0 _ h0 0 0 44 #[.val (.ref t), .val (.int (1 : Int32)), .val (.int (Int32.ofNat y1)), .val (.long (τ 1)), .second, .val (.int (1 : Int32)), .unset] [(.int (0 : Int32))]
      refine w_istore ok d11_44 (L' := #[.val (.ref t), .val (.int (1 : Int32)), .val (.int (Int32.ofNat y1)), .val (.long (τ 1)), .second, .val (.int (1 : Int32)), .val (.int (0 : Int32))]) rfl ?_
      refine w_aloadN ok d11_46 rfl rfl ?_
      refine w_aloadN ok d11_47 rfl rfl ?_
      refine w_getfield ok (v := (.ref en)) (host := "") (f := ("com/example/rowan/rowan/store/IdleHeap", "entries", "[I", (.array .int))) 0 d11_48 (Or.inl (hw _ (List.mem_of_getElem? (i := 10) rfl))) Via.refl A_t rfl rfl ?_
      refine w_iload ok d11_51 rfl ?_
      refine w_iaload ok (v := (.int (Int32.ofNat y0))) d11_53 A_en (by decide) (ey0 ▸ own_svg (j := 0) (by decide)) ?_
      refine w_aloadN ok d11_54 rfl rfl ?_
      refine w_getfield ok (v := (.ref ti)) (host := "") (f := ("com/example/rowan/rowan/store/IdleHeap", "times", "[J", (.array .long))) 1 d11_55 (Or.inl (hw _ (List.mem_of_getElem? (i := 13) rfl))) Via.refl A_t rfl rfl ?_
      refine w_iload ok d11_58 rfl ?_
      refine w_laload ok (v := (.long (τ 0))) d11_60 A_ti (by decide) (own_lvg (j := 0) (by decide)) ?_
      refine w_iload ok d11_61 rfl ?_
      refine w_callP ok (y := (⟨"com/example/rowan/rowan/store/IdleHeap", "place", "(IJI)V"⟩ : MethodName)) (a := t) (argsL := [(.int (Int32.ofNat y0)), (.long (τ 0)), (.int (1 : Int32))]) (rest := []) d11_63 (hw _ (List.mem_of_getElem? (i := 50) rfl)) (hw _ (List.mem_of_getElem? (i := 51) rfl)) (hw _ (List.mem_of_getElem? (i := 52) rfl)) (hw _ (List.mem_of_getElem? (i := 1) rfl)) (hw _ (List.mem_of_getElem? (i := 2) rfl)) (hw _ (List.mem_of_getElem? (i := 53) rfl)) (by decide) A_t.1 pd_28IJI29V rfl rfl (by decide) (Nat.le_of_ble_eq_true rfl) (by decide) (by decide) (fun z0 => rm_place l Z a0 hw [] n0 h0 z0 t en ti sl (2 : Int32) e g τ A_t A_en A_ti A_sl ge_t ge_en ge_ti ge_sl ne_t_en ne_t_ti ne_t_sl ne_en_ti ne_en_sl ne_ti_sl y0 1 (τ 0) hy0 (by decide)) (fun v6 h7 qv6 => ?_)
      obtain ⟨rfl, K1, A1, A2, A3⟩ := qv6
      replace Kp := Kp.trans K1 (allS (Or.inl (by simp)) (allS (Or.inl (by simp)) (allS (Or.inl (by simp)) all0)))
      replace A_t := A_t.keep K1 (ninS ne_t_en (ninS ne_t_ti (ninS ne_t_sl nin0)))
      replace A_en := A1
      replace A_ti := A2
      replace A_sl := A3
      show W K l _ n0 _ h7 0 0 66 #[.val (.ref t), .val (.int (1 : Int32)), .val (.int (Int32.ofNat y1)), .val (.long (τ 1)), .second, .val (.int (1 : Int32)), .val (.int (0 : Int32))] []
      refine w_iload ok d11_66 rfl ?_
      refine w_istore ok d11_68 (L' := #[.val (.ref t), .val (.int (1 : Int32)), .val (.int (Int32.ofNat y1)), .val (.long (τ 1)), .second, .val (.int (0 : Int32)), .val (.int (0 : Int32))]) rfl ?_
      refine w_goto ok d11_70 (pc' := 17) (by decide) ?_
      refine w_iload ok d11_17 rfl ?_
      refine w_if_le ok d11_19 (pc' := 73) (by decide) (fun hc9 => ?_) (fun hc9 => False.elim (by revert hc9; decide))
      show W K l _ n0 _ h7 0 0 73 #[.val (.ref t), .val (.int (1 : Int32)), .val (.int (Int32.ofNat y1)), .val (.long (τ 1)), .second, .val (.int (0 : Int32)), .val (.int (0 : Int32))] []
      refine w_aloadN ok d11_73 rfl rfl ?_
      refine w_iloadN ok d11_74 rfl ?_
      refine w_lloadN ok d11_75 rfl ?_
      refine w_iload ok d11_76 rfl ?_
      refine w_callP ok (y := (⟨"com/example/rowan/rowan/store/IdleHeap", "place", "(IJI)V"⟩ : MethodName)) (a := t) (argsL := [(.int (Int32.ofNat y1)), (.long (τ 1)), (.int (0 : Int32))]) (rest := []) d11_78 (hw _ (List.mem_of_getElem? (i := 50) rfl)) (hw _ (List.mem_of_getElem? (i := 51) rfl)) (hw _ (List.mem_of_getElem? (i := 52) rfl)) (hw _ (List.mem_of_getElem? (i := 1) rfl)) (hw _ (List.mem_of_getElem? (i := 2) rfl)) (hw _ (List.mem_of_getElem? (i := 53) rfl)) (by decide) A_t.1 pd_28IJI29V rfl rfl (by decide) (Nat.le_of_ble_eq_true rfl) (by decide) (by decide) (fun z0 => rm_place l Z a0 hw [] n0 h7 z0 t en ti sl (2 : Int32) (upd e 1 (Int32.ofNat y0)) (upd g y0 (Int32.ofNat 1)) (updL τ 1 (τ 0)) A_t A_en A_ti A_sl ge_t ge_en ge_ti ge_sl ne_t_en ne_t_ti ne_t_sl ne_en_ti ne_en_sl ne_ti_sl y1 0 (τ 1) hy1 (by decide)) (fun v10 h11 qv10 => ?_)
      obtain ⟨rfl, K1, A1, A2, A3⟩ := qv10
      replace Kp := Kp.trans K1 (allS (Or.inl (by simp)) (allS (Or.inl (by simp)) (allS (Or.inl (by simp)) all0)))
      replace A_t := A_t.keep K1 (ninS ne_t_en (ninS ne_t_ti (ninS ne_t_sl nin0)))
      replace A_en := A1
      replace A_ti := A2
      replace A_sl := A3
      show W K l _ n0 _ h11 0 0 81 #[.val (.ref t), .val (.int (1 : Int32)), .val (.int (Int32.ofNat y1)), .val (.long (τ 1)), .second, .val (.int (0 : Int32)), .val (.int (0 : Int32))] []
      refine w_ret ok d11_81 (by decide) (by decide) ?_
      refine ⟨rfl, _, _, _, Kp, A_en, A_ti, A_sl, (P.swap (i := 1) (j := 0) (by decide) (by decide) (by decide) hy1 hy0 ey1 ey0), ?_, fun q => absurd hc3 q⟩
      have hk := hc3; rw [Int64.lt_iff_toInt_lt] at hk
      intro i hi
      rw [updL_same]
      by_cases q0 : i = 0
      · rw [q0, updL_same]; exact Int.le_refl _
      · rw [updL_ne q0]
        by_cases qf : i = 1
        · rw [qf, updL_same]; omega
        · rw [updL_ne qf]; have := hU i hi qf; omega
  · have Kp : Keep h0 h0 [en, ti, sl] := Keep.refl _ _
    obtain ⟨y0, hy0, ey0, -, -⟩ := P.2.1 0 (by decide)
    obtain ⟨y1, hy1, ey1, -, -⟩ := P.2.1 1 (by decide)
    obtain ⟨y2, hy2, ey2, -, -⟩ := P.2.1 2 (by decide)
    show W K l _ n0 _ h0 0 0 0 #[.val (.ref t), .val (.int (0 : Int32)), .unset, .unset, .unset, .unset, .unset] []
    refine w_aloadN ok d11_0 rfl rfl ?_
    refine w_getfield ok (v := (.ref en)) (host := "") (f := ("com/example/rowan/rowan/store/IdleHeap", "entries", "[I", (.array .int))) 0 d11_1 (Or.inl (hw _ (List.mem_of_getElem? (i := 10) rfl))) Via.refl A_t rfl rfl ?_
    refine w_iloadN ok d11_4 rfl ?_
    refine w_iaload ok (v := (.int (Int32.ofNat y0))) d11_5 A_en (by decide) (ey0 ▸ own_svg (j := 0) (by decide)) ?_
    refine w_istoreN ok d11_6 (L' := #[.val (.ref t), .val (.int (0 : Int32)), .val (.int (Int32.ofNat y0)), .unset, .unset, .unset, .unset]) rfl ?_
    refine w_aloadN ok d11_7 rfl rfl ?_
    refine w_getfield ok (v := (.ref ti)) (host := "") (f := ("com/example/rowan/rowan/store/IdleHeap", "times", "[J", (.array .long))) 1 d11_8 (Or.inl (hw _ (List.mem_of_getElem? (i := 13) rfl))) Via.refl A_t rfl rfl ?_
    refine w_iloadN ok d11_11 rfl ?_
    refine w_laload ok (v := (.long (τ 0))) d11_12 A_ti (by decide) (own_lvg (j := 0) (by decide)) ?_
    refine w_lstoreN ok d11_13 (L' := #[.val (.ref t), .val (.int (0 : Int32)), .val (.int (Int32.ofNat y0)), .val (.long (τ 0)), .second, .unset, .unset]) rfl ?_
    refine w_iloadN ok d11_14 rfl ?_
    refine w_istore ok d11_15 (L' := #[.val (.ref t), .val (.int (0 : Int32)), .val (.int (Int32.ofNat y0)), .val (.long (τ 0)), .second, .val (.int (0 : Int32)), .unset]) rfl ?_
    refine w_iload ok d11_17 rfl ?_
    refine w_if_le ok d11_19 (pc' := 73) (by decide) (fun hc1 => ?_) (fun hc1 => False.elim (by revert hc1; decide))
    show W K l _ n0 _ h0 0 0 73 #[.val (.ref t), .val (.int (0 : Int32)), .val (.int (Int32.ofNat y0)), .val (.long (τ 0)), .second, .val (.int (0 : Int32)), .unset] []
    refine w_aloadN ok d11_73 rfl rfl ?_
    refine w_iloadN ok d11_74 rfl ?_
    refine w_lloadN ok d11_75 rfl ?_
    refine w_iload ok d11_76 rfl ?_
    refine w_callP ok (y := (⟨"com/example/rowan/rowan/store/IdleHeap", "place", "(IJI)V"⟩ : MethodName)) (a := t) (argsL := [(.int (Int32.ofNat y0)), (.long (τ 0)), (.int (0 : Int32))]) (rest := []) d11_78 (hw _ (List.mem_of_getElem? (i := 50) rfl)) (hw _ (List.mem_of_getElem? (i := 51) rfl)) (hw _ (List.mem_of_getElem? (i := 52) rfl)) (hw _ (List.mem_of_getElem? (i := 1) rfl)) (hw _ (List.mem_of_getElem? (i := 2) rfl)) (hw _ (List.mem_of_getElem? (i := 53) rfl)) (by decide) A_t.1 pd_28IJI29V rfl rfl (by decide) (Nat.le_of_ble_eq_true rfl) (by decide) (by decide) (fun z0 => rm_place l Z a0 hw [] n0 h0 z0 t en ti sl (3 : Int32) e g τ A_t A_en A_ti A_sl ge_t ge_en ge_ti ge_sl ne_t_en ne_t_ti ne_t_sl ne_en_ti ne_en_sl ne_ti_sl y0 0 (τ 0) hy0 (by decide)) (fun v2 h3 qv2 => ?_)
    obtain ⟨rfl, K1, A1, A2, A3⟩ := qv2
    replace Kp := Kp.trans K1 (allS (Or.inl (by simp)) (allS (Or.inl (by simp)) (allS (Or.inl (by simp)) all0)))
    replace A_t := A_t.keep K1 (ninS ne_t_en (ninS ne_t_ti (ninS ne_t_sl nin0)))
    replace A_en := A1
    replace A_ti := A2
    replace A_sl := A3
    show W K l _ n0 _ h3 0 0 81 #[.val (.ref t), .val (.int (0 : Int32)), .val (.int (Int32.ofNat y0)), .val (.long (τ 0)), .second, .val (.int (0 : Int32)), .unset] []
    refine w_ret ok d11_81 (by decide) (by decide) ?_
    refine ⟨rfl, _, _, _, Kp, A_en, A_ti, A_sl, (P.keep (by decide) hy0 ey0), ?_, fun _ => by rw [own_uid e 0 ey0]⟩
    rw [own_uidL τ 0 rfl]
    exact fun i hi => if q : i = 0 then by rw [q]; exact Int.le_refl _ else hU i hi q
  · have Kp : Keep h0 h0 [en, ti, sl] := Keep.refl _ _
    obtain ⟨y0, hy0, ey0, -, -⟩ := P.2.1 0 (by decide)
    obtain ⟨y1, hy1, ey1, -, -⟩ := P.2.1 1 (by decide)
    obtain ⟨y2, hy2, ey2, -, -⟩ := P.2.1 2 (by decide)
    show W K l _ n0 _ h0 0 0 0 #[.val (.ref t), .val (.int (1 : Int32)), .unset, .unset, .unset, .unset, .unset] []
    refine w_aloadN ok d11_0 rfl rfl ?_
    refine w_getfield ok (v := (.ref en)) (host := "") (f := ("com/example/rowan/rowan/store/IdleHeap", "entries", "[I", (.array .int))) 0 d11_1 (Or.inl (hw _ (List.mem_of_getElem? (i := 10) rfl))) Via.refl A_t rfl rfl ?_
    refine w_iloadN ok d11_4 rfl ?_
    refine w_iaload ok (v := (.int (Int32.ofNat y1))) d11_5 A_en (by decide) (ey1 ▸ own_svg (j := 1) (by decide)) ?_
    refine w_istoreN ok d11_6 (L' := #[.val (.ref t), .val (.int (1 : Int32)), .val (.int (Int32.ofNat y1)), .unset, .unset, .unset, .unset]) rfl ?_
    refine w_aloadN ok d11_7 rfl rfl ?_
    refine w_getfield ok (v := (.ref ti)) (host := "") (f := ("com/example/rowan/rowan/store/IdleHeap", "times", "[J", (.array .long))) 1 d11_8 (Or.inl (hw _ (List.mem_of_getElem? (i := 13) rfl))) Via.refl A_t rfl rfl ?_
    refine w_iloadN ok d11_11 rfl ?_
    refine w_laload ok (v := (.long (τ 1))) d11_12 A_ti (by decide) (own_lvg (j := 1) (by decide)) ?_
    refine w_lstoreN ok d11_13 (L' := #[.val (.ref t), .val (.int (1 : Int32)), .val (.int (Int32.ofNat y1)), .val (.long (τ 1)), .second, .unset, .unset]) rfl ?_
    refine w_iloadN ok d11_14 rfl ?_
    refine w_istore ok d11_15 (L' := #[.val (.ref t), .val (.int (1 : Int32)), .val (.int (Int32.ofNat y1)), .val (.long (τ 1)), .second, .val (.int (1 : Int32)), .unset]) rfl ?_
    refine w_iload ok d11_17 rfl ?_
    refine w_if_le ok d11_19 (pc' := 73) (by decide) (fun hc1 => False.elim (by revert hc1; decide)) (fun hc1 => ?_)
    show W K l _ n0 _ h0 0 0 22 #[.val (.ref t), .val (.int (1 : Int32)), .val (.int (Int32.ofNat y1)), .val (.long (τ 1)), .second, .val (.int (1 : Int32)), .unset] []
    refine w_aloadN ok d11_22 rfl rfl ?_
    refine w_getfield ok (v := (.ref ti)) (host := "") (f := ("com/example/rowan/rowan/store/IdleHeap", "times", "[J", (.array .long))) 1 d11_23 (Or.inl (hw _ (List.mem_of_getElem? (i := 13) rfl))) Via.refl A_t rfl rfl ?_
    refine w_iload ok d11_26 rfl ?_
    refine w_iconst ok d11_28 (v := (1 : Int32)) rfl ?_
    refine w_isub ok d11_29 ?_
    show W K l _ n0 _ h0 0 0 30 #[.val (.ref t), .val (.int (1 : Int32)), .val (.int (Int32.ofNat y1)), .val (.long (τ 1)), .second, .val (.int (1 : Int32)), .unset] [(.int (0 : Int32)), (.ref ti)]
    refine w_iconst ok d11_30 (v := (2 : Int32)) rfl ?_
    refine w_idiv ok d11_31 (by decide) ?_
    show W K l _ n0 _ h0 0 0 32 #[.val (.ref t), .val (.int (1 : Int32)), .val (.int (Int32.ofNat y1)), .val (.long (τ 1)), .second, .val (.int (1 : Int32)), .unset] [(.int (0 : Int32)), (.ref ti)]
    refine w_laload ok (v := (.long (τ 0))) d11_32 A_ti (by decide) (own_lvg (j := 0) (by decide)) ?_
    refine w_lloadN ok d11_33 rfl ?_
    refine w_lcmp_le ok d11_34 d11_35 (pc' := 73) (by decide) (fun hc3 => ?_) (fun hc3 => ?_)
    · show W K l _ n0 _ h0 0 0 73 #[.val (.ref t), .val (.int (1 : Int32)), .val (.int (Int32.ofNat y1)), .val (.long (τ 1)), .second, .val (.int (1 : Int32)), .unset] []
      refine w_aloadN ok d11_73 rfl rfl ?_
      refine w_iloadN ok d11_74 rfl ?_
      refine w_lloadN ok d11_75 rfl ?_
      refine w_iload ok d11_76 rfl ?_
      refine w_callP ok (y := (⟨"com/example/rowan/rowan/store/IdleHeap", "place", "(IJI)V"⟩ : MethodName)) (a := t) (argsL := [(.int (Int32.ofNat y1)), (.long (τ 1)), (.int (1 : Int32))]) (rest := []) d11_78 (hw _ (List.mem_of_getElem? (i := 50) rfl)) (hw _ (List.mem_of_getElem? (i := 51) rfl)) (hw _ (List.mem_of_getElem? (i := 52) rfl)) (hw _ (List.mem_of_getElem? (i := 1) rfl)) (hw _ (List.mem_of_getElem? (i := 2) rfl)) (hw _ (List.mem_of_getElem? (i := 53) rfl)) (by decide) A_t.1 pd_28IJI29V rfl rfl (by decide) (Nat.le_of_ble_eq_true rfl) (by decide) (by decide) (fun z0 => rm_place l Z a0 hw [] n0 h0 z0 t en ti sl (3 : Int32) e g τ A_t A_en A_ti A_sl ge_t ge_en ge_ti ge_sl ne_t_en ne_t_ti ne_t_sl ne_en_ti ne_en_sl ne_ti_sl y1 1 (τ 1) hy1 (by decide)) (fun v4 h5 qv4 => ?_)
      obtain ⟨rfl, K1, A1, A2, A3⟩ := qv4
      replace Kp := Kp.trans K1 (allS (Or.inl (by simp)) (allS (Or.inl (by simp)) (allS (Or.inl (by simp)) all0)))
      replace A_t := A_t.keep K1 (ninS ne_t_en (ninS ne_t_ti (ninS ne_t_sl nin0)))
      replace A_en := A1
      replace A_ti := A2
      replace A_sl := A3
      show W K l _ n0 _ h5 0 0 81 #[.val (.ref t), .val (.int (1 : Int32)), .val (.int (Int32.ofNat y1)), .val (.long (τ 1)), .second, .val (.int (1 : Int32)), .unset] []
      refine w_ret ok d11_81 (by decide) (by decide) ?_
      refine ⟨rfl, _, _, _, Kp, A_en, A_ti, A_sl, (P.keep (by decide) hy1 ey1), ?_, fun _ => by rw [own_uid e 1 ey1]⟩
      rw [own_uidL τ 1 rfl]
      exact fun i hi => if q : i = 1 then by rw [q]; have := hc3; rw [Int64.lt_iff_toInt_lt] at this; omega else hU i hi q
    · show W K l _ n0 _ h0 0 0 38 #[.val (.ref t), .val (.int (1 : Int32)), .val (.int (Int32.ofNat y1)), .val (.long (τ 1)), .second, .val (.int (1 : Int32)), .unset] []
      refine w_iload ok d11_38 rfl ?_
      refine w_iconst ok d11_40 (v := (1 : Int32)) rfl ?_
      refine w_isub ok d11_41 ?_
      show W K l _ n0 _ h0 0 0 42 #[.val (.ref t), .val (.int (1 : Int32)), .val (.int (Int32.ofNat y1)), .val (.long (τ 1)), .second, .val (.int (1 : Int32)), .unset] [(.int (0 : Int32))]
      refine w_iconst ok d11_42 (v := (2 : Int32)) rfl ?_
      refine w_idiv ok d11_43 (by decide) ?_
      show W K l _ n0 _ h0 0 0 44 #[.val (.ref t), .val (.int (1 : Int32)), .val (.int (Int32.ofNat y1)), .val (.long (τ 1)), .second, .val (.int (1 : Int32)), .unset] [(.int (0 : Int32))]
      refine w_istore ok d11_44 (L' := #[.val (.ref t), .val (.int (1 : Int32)), .val (.int (Int32.ofNat y1)), .val (.long (τ 1)), .second, .val (.int (1 : Int32)), .val (.int (0 : Int32))]) rfl ?_
      refine w_aloadN ok d11_46 rfl rfl ?_
      refine w_aloadN ok d11_47 rfl rfl ?_
      refine w_getfield ok (v := (.ref en)) (host := "") (f := ("com/example/rowan/rowan/store/IdleHeap", "entries", "[I", (.array .int))) 0 d11_48 (Or.inl (hw _ (List.mem_of_getElem? (i := 10) rfl))) Via.refl A_t rfl rfl ?_
      refine w_iload ok d11_51 rfl ?_
      refine w_iaload ok (v := (.int (Int32.ofNat y0))) d11_53 A_en (by decide) (ey0 ▸ own_svg (j := 0) (by decide)) ?_
      refine w_aloadN ok d11_54 rfl rfl ?_
      refine w_getfield ok (v := (.ref ti)) (host := "") (f := ("com/example/rowan/rowan/store/IdleHeap", "times", "[J", (.array .long))) 1 d11_55 (Or.inl (hw _ (List.mem_of_getElem? (i := 13) rfl))) Via.refl A_t rfl rfl ?_
      refine w_iload ok d11_58 rfl ?_
      refine w_laload ok (v := (.long (τ 0))) d11_60 A_ti (by decide) (own_lvg (j := 0) (by decide)) ?_
      refine w_iload ok d11_61 rfl ?_
      refine w_callP ok (y := (⟨"com/example/rowan/rowan/store/IdleHeap", "place", "(IJI)V"⟩ : MethodName)) (a := t) (argsL := [(.int (Int32.ofNat y0)), (.long (τ 0)), (.int (1 : Int32))]) (rest := []) d11_63 (hw _ (List.mem_of_getElem? (i := 50) rfl)) (hw _ (List.mem_of_getElem? (i := 51) rfl)) (hw _ (List.mem_of_getElem? (i := 52) rfl)) (hw _ (List.mem_of_getElem? (i := 1) rfl)) (hw _ (List.mem_of_getElem? (i := 2) rfl)) (hw _ (List.mem_of_getElem? (i := 53) rfl)) (by decide) A_t.1 pd_28IJI29V rfl rfl (by decide) (Nat.le_of_ble_eq_true rfl) (by decide) (by decide) (fun z0 => rm_place l Z a0 hw [] n0 h0 z0 t en ti sl (3 : Int32) e g τ A_t A_en A_ti A_sl ge_t ge_en ge_ti ge_sl ne_t_en ne_t_ti ne_t_sl ne_en_ti ne_en_sl ne_ti_sl y0 1 (τ 0) hy0 (by decide)) (fun v6 h7 qv6 => ?_)
      obtain ⟨rfl, K1, A1, A2, A3⟩ := qv6
      replace Kp := Kp.trans K1 (allS (Or.inl (by simp)) (allS (Or.inl (by simp)) (allS (Or.inl (by simp)) all0)))
      replace A_t := A_t.keep K1 (ninS ne_t_en (ninS ne_t_ti (ninS ne_t_sl nin0)))
      replace A_en := A1
      replace A_ti := A2
      replace A_sl := A3
      show W K l _ n0 _ h7 0 0 66 #[.val (.ref t), .val (.int (1 : Int32)), .val (.int (Int32.ofNat y1)), .val (.long (τ 1)), .second, .val (.int (1 : Int32)), .val (.int (0 : Int32))] []
      refine w_iload ok d11_66 rfl ?_
      refine w_istore ok d11_68 (L' := #[.val (.ref t), .val (.int (1 : Int32)), .val (.int (Int32.ofNat y1)), .val (.long (τ 1)), .second, .val (.int (0 : Int32)), .val (.int (0 : Int32))]) rfl ?_
      refine w_goto ok d11_70 (pc' := 17) (by decide) ?_
      refine w_iload ok d11_17 rfl ?_
      refine w_if_le ok d11_19 (pc' := 73) (by decide) (fun hc9 => ?_) (fun hc9 => False.elim (by revert hc9; decide))
      show W K l _ n0 _ h7 0 0 73 #[.val (.ref t), .val (.int (1 : Int32)), .val (.int (Int32.ofNat y1)), .val (.long (τ 1)), .second, .val (.int (0 : Int32)), .val (.int (0 : Int32))] []
      refine w_aloadN ok d11_73 rfl rfl ?_
      refine w_iloadN ok d11_74 rfl ?_
      refine w_lloadN ok d11_75 rfl ?_
      refine w_iload ok d11_76 rfl ?_
      refine w_callP ok (y := (⟨"com/example/rowan/rowan/store/IdleHeap", "place", "(IJI)V"⟩ : MethodName)) (a := t) (argsL := [(.int (Int32.ofNat y1)), (.long (τ 1)), (.int (0 : Int32))]) (rest := []) d11_78 (hw _ (List.mem_of_getElem? (i := 50) rfl)) (hw _ (List.mem_of_getElem? (i := 51) rfl)) (hw _ (List.mem_of_getElem? (i := 52) rfl)) (hw _ (List.mem_of_getElem? (i := 1) rfl)) (hw _ (List.mem_of_getElem? (i := 2) rfl)) (hw _ (List.mem_of_getElem? (i := 53) rfl)) (by decide) A_t.1 pd_28IJI29V rfl rfl (by decide) (Nat.le_of_ble_eq_true rfl) (by decide) (by decide) (fun z0 => rm_place l Z a0 hw [] n0 h7 z0 t en ti sl (3 : Int32) (upd e 1 (Int32.ofNat y0)) (upd g y0 (Int32.ofNat 1)) (updL τ 1 (τ 0)) A_t A_en A_ti A_sl ge_t ge_en ge_ti ge_sl ne_t_en ne_t_ti ne_t_sl ne_en_ti ne_en_sl ne_ti_sl y1 0 (τ 1) hy1 (by decide)) (fun v10 h11 qv10 => ?_)
      obtain ⟨rfl, K1, A1, A2, A3⟩ := qv10
      replace Kp := Kp.trans K1 (allS (Or.inl (by simp)) (allS (Or.inl (by simp)) (allS (Or.inl (by simp)) all0)))
      replace A_t := A_t.keep K1 (ninS ne_t_en (ninS ne_t_ti (ninS ne_t_sl nin0)))
      replace A_en := A1
      replace A_ti := A2
      replace A_sl := A3
      show W K l _ n0 _ h11 0 0 81 #[.val (.ref t), .val (.int (1 : Int32)), .val (.int (Int32.ofNat y1)), .val (.long (τ 1)), .second, .val (.int (0 : Int32)), .val (.int (0 : Int32))] []
      refine w_ret ok d11_81 (by decide) (by decide) ?_
      refine ⟨rfl, _, _, _, Kp, A_en, A_ti, A_sl, (P.swap (i := 1) (j := 0) (by decide) (by decide) (by decide) hy1 hy0 ey1 ey0), ?_, fun q => absurd hc3 q⟩
      have hk := hc3; rw [Int64.lt_iff_toInt_lt] at hk
      intro i hi
      rw [updL_same]
      by_cases q0 : i = 0
      · rw [q0, updL_same]; exact Int.le_refl _
      · rw [updL_ne q0]
        by_cases qf : i = 1
        · rw [qf, updL_same]; omega
        · rw [updL_ne qf]; have := hU i hi qf; omega
  · have Kp : Keep h0 h0 [en, ti, sl] := Keep.refl _ _
    obtain ⟨y0, hy0, ey0, -, -⟩ := P.2.1 0 (by decide)
    obtain ⟨y1, hy1, ey1, -, -⟩ := P.2.1 1 (by decide)
    obtain ⟨y2, hy2, ey2, -, -⟩ := P.2.1 2 (by decide)
    show W K l _ n0 _ h0 0 0 0 #[.val (.ref t), .val (.int (2 : Int32)), .unset, .unset, .unset, .unset, .unset] []
    refine w_aloadN ok d11_0 rfl rfl ?_
    refine w_getfield ok (v := (.ref en)) (host := "") (f := ("com/example/rowan/rowan/store/IdleHeap", "entries", "[I", (.array .int))) 0 d11_1 (Or.inl (hw _ (List.mem_of_getElem? (i := 10) rfl))) Via.refl A_t rfl rfl ?_
    refine w_iloadN ok d11_4 rfl ?_
    refine w_iaload ok (v := (.int (Int32.ofNat y2))) d11_5 A_en (by decide) (ey2 ▸ own_svg (j := 2) (by decide)) ?_
    refine w_istoreN ok d11_6 (L' := #[.val (.ref t), .val (.int (2 : Int32)), .val (.int (Int32.ofNat y2)), .unset, .unset, .unset, .unset]) rfl ?_
    refine w_aloadN ok d11_7 rfl rfl ?_
    refine w_getfield ok (v := (.ref ti)) (host := "") (f := ("com/example/rowan/rowan/store/IdleHeap", "times", "[J", (.array .long))) 1 d11_8 (Or.inl (hw _ (List.mem_of_getElem? (i := 13) rfl))) Via.refl A_t rfl rfl ?_
    refine w_iloadN ok d11_11 rfl ?_
    refine w_laload ok (v := (.long (τ 2))) d11_12 A_ti (by decide) (own_lvg (j := 2) (by decide)) ?_
    refine w_lstoreN ok d11_13 (L' := #[.val (.ref t), .val (.int (2 : Int32)), .val (.int (Int32.ofNat y2)), .val (.long (τ 2)), .second, .unset, .unset]) rfl ?_
    refine w_iloadN ok d11_14 rfl ?_
    refine w_istore ok d11_15 (L' := #[.val (.ref t), .val (.int (2 : Int32)), .val (.int (Int32.ofNat y2)), .val (.long (τ 2)), .second, .val (.int (2 : Int32)), .unset]) rfl ?_
    refine w_iload ok d11_17 rfl ?_
    refine w_if_le ok d11_19 (pc' := 73) (by decide) (fun hc1 => False.elim (by revert hc1; decide)) (fun hc1 => ?_)
    show W K l _ n0 _ h0 0 0 22 #[.val (.ref t), .val (.int (2 : Int32)), .val (.int (Int32.ofNat y2)), .val (.long (τ 2)), .second, .val (.int (2 : Int32)), .unset] []
    refine w_aloadN ok d11_22 rfl rfl ?_
    refine w_getfield ok (v := (.ref ti)) (host := "") (f := ("com/example/rowan/rowan/store/IdleHeap", "times", "[J", (.array .long))) 1 d11_23 (Or.inl (hw _ (List.mem_of_getElem? (i := 13) rfl))) Via.refl A_t rfl rfl ?_
    refine w_iload ok d11_26 rfl ?_
    refine w_iconst ok d11_28 (v := (1 : Int32)) rfl ?_
    refine w_isub ok d11_29 ?_
    show W K l _ n0 _ h0 0 0 30 #[.val (.ref t), .val (.int (2 : Int32)), .val (.int (Int32.ofNat y2)), .val (.long (τ 2)), .second, .val (.int (2 : Int32)), .unset] [(.int (1 : Int32)), (.ref ti)]
    refine w_iconst ok d11_30 (v := (2 : Int32)) rfl ?_
    refine w_idiv ok d11_31 (by decide) ?_
    show W K l _ n0 _ h0 0 0 32 #[.val (.ref t), .val (.int (2 : Int32)), .val (.int (Int32.ofNat y2)), .val (.long (τ 2)), .second, .val (.int (2 : Int32)), .unset] [(.int (0 : Int32)), (.ref ti)]
    refine w_laload ok (v := (.long (τ 0))) d11_32 A_ti (by decide) (own_lvg (j := 0) (by decide)) ?_
    refine w_lloadN ok d11_33 rfl ?_
    refine w_lcmp_le ok d11_34 d11_35 (pc' := 73) (by decide) (fun hc3 => ?_) (fun hc3 => ?_)
    · show W K l _ n0 _ h0 0 0 73 #[.val (.ref t), .val (.int (2 : Int32)), .val (.int (Int32.ofNat y2)), .val (.long (τ 2)), .second, .val (.int (2 : Int32)), .unset] []
      refine w_aloadN ok d11_73 rfl rfl ?_
      refine w_iloadN ok d11_74 rfl ?_
      refine w_lloadN ok d11_75 rfl ?_
      refine w_iload ok d11_76 rfl ?_
      refine w_callP ok (y := (⟨"com/example/rowan/rowan/store/IdleHeap", "place", "(IJI)V"⟩ : MethodName)) (a := t) (argsL := [(.int (Int32.ofNat y2)), (.long (τ 2)), (.int (2 : Int32))]) (rest := []) d11_78 (hw _ (List.mem_of_getElem? (i := 50) rfl)) (hw _ (List.mem_of_getElem? (i := 51) rfl)) (hw _ (List.mem_of_getElem? (i := 52) rfl)) (hw _ (List.mem_of_getElem? (i := 1) rfl)) (hw _ (List.mem_of_getElem? (i := 2) rfl)) (hw _ (List.mem_of_getElem? (i := 53) rfl)) (by decide) A_t.1 pd_28IJI29V rfl rfl (by decide) (Nat.le_of_ble_eq_true rfl) (by decide) (by decide) (fun z0 => rm_place l Z a0 hw [] n0 h0 z0 t en ti sl (3 : Int32) e g τ A_t A_en A_ti A_sl ge_t ge_en ge_ti ge_sl ne_t_en ne_t_ti ne_t_sl ne_en_ti ne_en_sl ne_ti_sl y2 2 (τ 2) hy2 (by decide)) (fun v4 h5 qv4 => ?_)
      obtain ⟨rfl, K1, A1, A2, A3⟩ := qv4
      replace Kp := Kp.trans K1 (allS (Or.inl (by simp)) (allS (Or.inl (by simp)) (allS (Or.inl (by simp)) all0)))
      replace A_t := A_t.keep K1 (ninS ne_t_en (ninS ne_t_ti (ninS ne_t_sl nin0)))
      replace A_en := A1
      replace A_ti := A2
      replace A_sl := A3
      show W K l _ n0 _ h5 0 0 81 #[.val (.ref t), .val (.int (2 : Int32)), .val (.int (Int32.ofNat y2)), .val (.long (τ 2)), .second, .val (.int (2 : Int32)), .unset] []
      refine w_ret ok d11_81 (by decide) (by decide) ?_
      refine ⟨rfl, _, _, _, Kp, A_en, A_ti, A_sl, (P.keep (by decide) hy2 ey2), ?_, fun _ => by rw [own_uid e 2 ey2]⟩
      rw [own_uidL τ 2 rfl]
      exact fun i hi => if q : i = 2 then by rw [q]; have := hc3; rw [Int64.lt_iff_toInt_lt] at this; omega else hU i hi q
    · show W K l _ n0 _ h0 0 0 38 #[.val (.ref t), .val (.int (2 : Int32)), .val (.int (Int32.ofNat y2)), .val (.long (τ 2)), .second, .val (.int (2 : Int32)), .unset] []
      refine w_iload ok d11_38 rfl ?_
      refine w_iconst ok d11_40 (v := (1 : Int32)) rfl ?_
      refine w_isub ok d11_41 ?_
      show W K l _ n0 _ h0 0 0 42 #[.val (.ref t), .val (.int (2 : Int32)), .val (.int (Int32.ofNat y2)), .val (.long (τ 2)), .second, .val (.int (2 : Int32)), .unset] [(.int (1 : Int32))]
      refine w_iconst ok d11_42 (v := (2 : Int32)) rfl ?_
      refine w_idiv ok d11_43 (by decide) ?_
      show W K l _ n0 _ h0 0 0 44 #[.val (.ref t), .val (.int (2 : Int32)), .val (.int (Int32.ofNat y2)), .val (.long (τ 2)), .second, .val (.int (2 : Int32)), .unset] [(.int (0 : Int32))]
      refine w_istore ok d11_44 (L' := #[.val (.ref t), .val (.int (2 : Int32)), .val (.int (Int32.ofNat y2)), .val (.long (τ 2)), .second, .val (.int (2 : Int32)), .val (.int (0 : Int32))]) rfl ?_
      refine w_aloadN ok d11_46 rfl rfl ?_
      refine w_aloadN ok d11_47 rfl rfl ?_
      refine w_getfield ok (v := (.ref en)) (host := "") (f := ("com/example/rowan/rowan/store/IdleHeap", "entries", "[I", (.array .int))) 0 d11_48 (Or.inl (hw _ (List.mem_of_getElem? (i := 10) rfl))) Via.refl A_t rfl rfl ?_
      refine w_iload ok d11_51 rfl ?_
      refine w_iaload ok (v := (.int (Int32.ofNat y0))) d11_53 A_en (by decide) (ey0 ▸ own_svg (j := 0) (by decide)) ?_
      refine w_aloadN ok d11_54 rfl rfl ?_
      refine w_getfield ok (v := (.ref ti)) (host := "") (f := ("com/example/rowan/rowan/store/IdleHeap", "times", "[J", (.array .long))) 1 d11_55 (Or.inl (hw _ (List.mem_of_getElem? (i := 13) rfl))) Via.refl A_t rfl rfl ?_
      refine w_iload ok d11_58 rfl ?_
      refine w_laload ok (v := (.long (τ 0))) d11_60 A_ti (by decide) (own_lvg (j := 0) (by decide)) ?_
      refine w_iload ok d11_61 rfl ?_
      refine w_callP ok (y := (⟨"com/example/rowan/rowan/store/IdleHeap", "place", "(IJI)V"⟩ : MethodName)) (a := t) (argsL := [(.int (Int32.ofNat y0)), (.long (τ 0)), (.int (2 : Int32))]) (rest := []) d11_63 (hw _ (List.mem_of_getElem? (i := 50) rfl)) (hw _ (List.mem_of_getElem? (i := 51) rfl)) (hw _ (List.mem_of_getElem? (i := 52) rfl)) (hw _ (List.mem_of_getElem? (i := 1) rfl)) (hw _ (List.mem_of_getElem? (i := 2) rfl)) (hw _ (List.mem_of_getElem? (i := 53) rfl)) (by decide) A_t.1 pd_28IJI29V rfl rfl (by decide) (Nat.le_of_ble_eq_true rfl) (by decide) (by decide) (fun z0 => rm_place l Z a0 hw [] n0 h0 z0 t en ti sl (3 : Int32) e g τ A_t A_en A_ti A_sl ge_t ge_en ge_ti ge_sl ne_t_en ne_t_ti ne_t_sl ne_en_ti ne_en_sl ne_ti_sl y0 2 (τ 0) hy0 (by decide)) (fun v6 h7 qv6 => ?_)
      obtain ⟨rfl, K1, A1, A2, A3⟩ := qv6
      replace Kp := Kp.trans K1 (allS (Or.inl (by simp)) (allS (Or.inl (by simp)) (allS (Or.inl (by simp)) all0)))
      replace A_t := A_t.keep K1 (ninS ne_t_en (ninS ne_t_ti (ninS ne_t_sl nin0)))
      replace A_en := A1
      replace A_ti := A2
      replace A_sl := A3
      show W K l _ n0 _ h7 0 0 66 #[.val (.ref t), .val (.int (2 : Int32)), .val (.int (Int32.ofNat y2)), .val (.long (τ 2)), .second, .val (.int (2 : Int32)), .val (.int (0 : Int32))] []
      refine w_iload ok d11_66 rfl ?_
      refine w_istore ok d11_68 (L' := #[.val (.ref t), .val (.int (2 : Int32)), .val (.int (Int32.ofNat y2)), .val (.long (τ 2)), .second, .val (.int (0 : Int32)), .val (.int (0 : Int32))]) rfl ?_
      refine w_goto ok d11_70 (pc' := 17) (by decide) ?_
      refine w_iload ok d11_17 rfl ?_
      refine w_if_le ok d11_19 (pc' := 73) (by decide) (fun hc9 => ?_) (fun hc9 => False.elim (by revert hc9; decide))
      show W K l _ n0 _ h7 0 0 73 #[.val (.ref t), .val (.int (2 : Int32)), .val (.int (Int32.ofNat y2)), .val (.long (τ 2)), .second, .val (.int (0 : Int32)), .val (.int (0 : Int32))] []
      refine w_aloadN ok d11_73 rfl rfl ?_
      refine w_iloadN ok d11_74 rfl ?_
      refine w_lloadN ok d11_75 rfl ?_
      refine w_iload ok d11_76 rfl ?_
      refine w_callP ok (y := (⟨"com/example/rowan/rowan/store/IdleHeap", "place", "(IJI)V"⟩ : MethodName)) (a := t) (argsL := [(.int (Int32.ofNat y2)), (.long (τ 2)), (.int (0 : Int32))]) (rest := []) d11_78 (hw _ (List.mem_of_getElem? (i := 50) rfl)) (hw _ (List.mem_of_getElem? (i := 51) rfl)) (hw _ (List.mem_of_getElem? (i := 52) rfl)) (hw _ (List.mem_of_getElem? (i := 1) rfl)) (hw _ (List.mem_of_getElem? (i := 2) rfl)) (hw _ (List.mem_of_getElem? (i := 53) rfl)) (by decide) A_t.1 pd_28IJI29V rfl rfl (by decide) (Nat.le_of_ble_eq_true rfl) (by decide) (by decide) (fun z0 => rm_place l Z a0 hw [] n0 h7 z0 t en ti sl (3 : Int32) (upd e 2 (Int32.ofNat y0)) (upd g y0 (Int32.ofNat 2)) (updL τ 2 (τ 0)) A_t A_en A_ti A_sl ge_t ge_en ge_ti ge_sl ne_t_en ne_t_ti ne_t_sl ne_en_ti ne_en_sl ne_ti_sl y2 0 (τ 2) hy2 (by decide)) (fun v10 h11 qv10 => ?_)
      obtain ⟨rfl, K1, A1, A2, A3⟩ := qv10
      replace Kp := Kp.trans K1 (allS (Or.inl (by simp)) (allS (Or.inl (by simp)) (allS (Or.inl (by simp)) all0)))
      replace A_t := A_t.keep K1 (ninS ne_t_en (ninS ne_t_ti (ninS ne_t_sl nin0)))
      replace A_en := A1
      replace A_ti := A2
      replace A_sl := A3
      show W K l _ n0 _ h11 0 0 81 #[.val (.ref t), .val (.int (2 : Int32)), .val (.int (Int32.ofNat y2)), .val (.long (τ 2)), .second, .val (.int (0 : Int32)), .val (.int (0 : Int32))] []
      refine w_ret ok d11_81 (by decide) (by decide) ?_
      refine ⟨rfl, _, _, _, Kp, A_en, A_ti, A_sl, (P.swap (i := 2) (j := 0) (by decide) (by decide) (by decide) hy2 hy0 ey2 ey0), ?_, fun q => absurd hc3 q⟩
      have hk := hc3; rw [Int64.lt_iff_toInt_lt] at hk
      intro i hi
      rw [updL_same]
      by_cases q0 : i = 0
      · rw [q0, updL_same]; exact Int.le_refl _
      · rw [updL_ne q0]
        by_cases qf : i = 2
        · rw [qf, updL_same]; omega
        · rw [updL_ne qf]; have := hU i hi qf; omega
theorem d16_0 : decode prog_26_method_10_code 0 = .ok (.aload_n 0, 1) := by decide +kernel
theorem d16_1 : decode prog_26_method_10_code 1 = .ok (.getfield 7, 3) := by decide +kernel
theorem d16_4 : decode prog_26_method_10_code 4 = .ok (.iload_n 1, 1) := by decide +kernel
theorem d16_5 : decode prog_26_method_10_code 5 = .ok (.iaload, 1) := by decide +kernel
theorem d16_6 : decode prog_26_method_10_code 6 = .ok (.istore_n 2, 1) := by decide +kernel
theorem d16_7 : decode prog_26_method_10_code 7 = .ok (.aload_n 0, 1) := by decide +kernel
theorem d16_8 : decode prog_26_method_10_code 8 = .ok (.getfield 13, 3) := by decide +kernel
theorem d16_11 : decode prog_26_method_10_code 11 = .ok (.iload_n 1, 1) := by decide +kernel
theorem d16_12 : decode prog_26_method_10_code 12 = .ok (.laload, 1) := by decide +kernel
theorem d16_13 : decode prog_26_method_10_code 13 = .ok (.lstore_n 3, 1) := by decide +kernel
theorem d16_14 : decode prog_26_method_10_code 14 = .ok (.iload_n 1, 1) := by decide +kernel
theorem d16_15 : decode prog_26_method_10_code 15 = .ok (.istore 5, 2) := by decide +kernel
theorem d16_17 : decode prog_26_method_10_code 17 = .ok (.aload_n 0, 1) := by decide +kernel
theorem d16_18 : decode prog_26_method_10_code 18 = .ok (.iload 5, 2) := by decide +kernel
theorem d16_20 : decode prog_26_method_10_code 20 = .ok (.invokevirtual 48, 3) := by decide +kernel
theorem d16_23 : decode prog_26_method_10_code 23 = .ok (.istore 6, 2) := by decide +kernel
theorem d16_25 : decode prog_26_method_10_code 25 = .ok (.iload 6, 2) := by decide +kernel
theorem d16_27 : decode prog_26_method_10_code 27 = .ok (.aload_n 0, 1) := by decide +kernel
theorem d16_28 : decode prog_26_method_10_code 28 = .ok (.getfield 33, 3) := by decide +kernel
theorem d16_31 : decode prog_26_method_10_code 31 = .ok (.if_icmp .ge 50, 3) := by decide +kernel
theorem d16_34 : decode prog_26_method_10_code 34 = .ok (.aload_n 0, 1) := by decide +kernel
theorem d16_35 : decode prog_26_method_10_code 35 = .ok (.getfield 13, 3) := by decide +kernel
theorem d16_38 : decode prog_26_method_10_code 38 = .ok (.iload 6, 2) := by decide +kernel
theorem d16_40 : decode prog_26_method_10_code 40 = .ok (.laload, 1) := by decide +kernel
theorem d16_41 : decode prog_26_method_10_code 41 = .ok (.lload_n 3, 1) := by decide +kernel
theorem d16_42 : decode prog_26_method_10_code 42 = .ok (.lcmp, 1) := by decide +kernel
theorem d16_43 : decode prog_26_method_10_code 43 = .ok (.ifCond .ge 38, 3) := by decide +kernel
theorem d16_46 : decode prog_26_method_10_code 46 = .ok (.aload_n 0, 1) := by decide +kernel
theorem d16_47 : decode prog_26_method_10_code 47 = .ok (.aload_n 0, 1) := by decide +kernel
theorem d16_48 : decode prog_26_method_10_code 48 = .ok (.getfield 7, 3) := by decide +kernel
theorem d16_51 : decode prog_26_method_10_code 51 = .ok (.iload 6, 2) := by decide +kernel
theorem d16_53 : decode prog_26_method_10_code 53 = .ok (.iaload, 1) := by decide +kernel
theorem d16_54 : decode prog_26_method_10_code 54 = .ok (.aload_n 0, 1) := by decide +kernel
theorem d16_55 : decode prog_26_method_10_code 55 = .ok (.getfield 13, 3) := by decide +kernel
theorem d16_58 : decode prog_26_method_10_code 58 = .ok (.iload 6, 2) := by decide +kernel
theorem d16_60 : decode prog_26_method_10_code 60 = .ok (.laload, 1) := by decide +kernel
theorem d16_61 : decode prog_26_method_10_code 61 = .ok (.iload 5, 2) := by decide +kernel
theorem d16_63 : decode prog_26_method_10_code 63 = .ok (.invokevirtual 37, 3) := by decide +kernel
theorem d16_66 : decode prog_26_method_10_code 66 = .ok (.iload 6, 2) := by decide +kernel
theorem d16_68 : decode prog_26_method_10_code 68 = .ok (.istore 5, 2) := by decide +kernel
theorem d16_70 : decode prog_26_method_10_code 70 = .ok (.aload_n 0, 1) := by decide +kernel
theorem d16_71 : decode prog_26_method_10_code 71 = .ok (.iload 5, 2) := by decide +kernel
theorem d16_73 : decode prog_26_method_10_code 73 = .ok (.invokevirtual 48, 3) := by decide +kernel
theorem d16_76 : decode prog_26_method_10_code 76 = .ok (.istore 6, 2) := by decide +kernel
theorem d16_78 : decode prog_26_method_10_code 78 = .ok (.goto (-53), 3) := by decide +kernel
theorem d16_81 : decode prog_26_method_10_code 81 = .ok (.aload_n 0, 1) := by decide +kernel
theorem d16_82 : decode prog_26_method_10_code 82 = .ok (.iload_n 2, 1) := by decide +kernel
theorem d16_83 : decode prog_26_method_10_code 83 = .ok (.lload_n 3, 1) := by decide +kernel
theorem d16_84 : decode prog_26_method_10_code 84 = .ok (.iload 5, 2) := by decide +kernel
theorem d16_86 : decode prog_26_method_10_code 86 = .ok (.invokevirtual 37, 3) := by decide +kernel
theorem d16_89 : decode prog_26_method_10_code 89 = .ok (.return_, 1) := by decide +kernel
theorem pd_28I29I : parseMethodDescriptor "(I)I" = some ⟨[.int], some .int⟩ := by decide +kernel
set_option maxRecDepth 65536 in
set_option maxHeartbeats 40000000 in
theorem rm_down (l : Launch) (Z : State) (a0 : Array Value) (hw : ∀ d ∈ tables_1, d.before a0 Z = true) (ws : List Jvm.Cond) (n0 : Nat) (h0 : Heap) (Z0 : Old Z n0 h0) (t en ti sl : Addr) (sz : Nat) (e g : Nat → Int32) (τ : Nat → Int64) (A_t : Ob Z h0 t "com/example/rowan/rowan/store/IdleHeap" fl_IdleHeap [.ref en, .ref ti, .ref sl, .int (Int32.ofNat sz)]) (A_en : PA .int Z h0 en (sv 4 e)) (A_ti : PA .long Z h0 ti (lv 4 τ)) (A_sl : PA .int Z h0 sl (sv 4 g)) (ge_t : n0 ≤ t) (ge_en : n0 ≤ en) (ge_ti : n0 ≤ ti) (ge_sl : n0 ≤ sl) (ne_t_en : t ≠ en) (ne_t_ti : t ≠ ti) (ne_t_sl : t ≠ sl) (ne_en_ti : en ≠ ti) (ne_en_sl : en ≠ sl) (ne_ti_sl : ti ≠ sl) (f : Nat) (M : Nat → Option Int64) (P : PP sz e τ g M) (hf : f < sz) (hD : f ≠ 0 → HO sz τ) :
    Met l Z n0 (⟨"com/example/rowan/rowan/store/IdleHeap", "siftDown", "(I)V"⟩ : MethodName) prog_26_method_10_code 7 none ws ({ frames := 1, cells := 0, slots := 0, locals := 16 } : Room) #[.ref t, .int (Int32.ofNat f)] h0 (fun u h => u = none ∧ ∃ e' g' τ', Keep h0 h [en, ti, sl] ∧ PA .int Z h en (sv 4 e') ∧ PA .long Z h ti (lv 4 τ') ∧ PA .int Z h sl (sv 4 g') ∧ PP sz e' τ' g' M ∧ HO sz τ') := by
  refine met_of Z0 (plainFor_of_name pn_com_example_rowan_rowan_store_IdleHeap) (Ls := #[.val (.ref t), .val (.int (Int32.ofNat f)), .unset, .unset, .unset, .unset, .unset]) (fun m => by first | (simp [entryFrame, mkF, argsToLocals, Value.category]; done) | rfl) ?_
  intro K ok
  obtain ⟨rfl, rfl⟩ | ⟨rfl, rfl⟩ | ⟨rfl, rfl⟩ | ⟨rfl, rfl⟩ | ⟨rfl, rfl⟩ | ⟨rfl, rfl⟩ : (sz = 1 ∧ f = 0) ∨ (sz = 2 ∧ f = 0) ∨ (sz = 2 ∧ f = 1) ∨ (sz = 3 ∧ f = 0) ∨ (sz = 3 ∧ f = 1) ∨ (sz = 3 ∧ f = 2) := by have := P.1; omega
  · have Kp : Keep h0 h0 [en, ti, sl] := Keep.refl _ _
    obtain ⟨y0, hy0, ey0, -, -⟩ := P.2.1 0 (by decide)
    show W K l _ n0 _ h0 0 0 0 #[.val (.ref t), .val (.int (0 : Int32)), .unset, .unset, .unset, .unset, .unset] []
    refine w_aloadN ok d16_0 rfl rfl ?_
    refine w_getfield ok (v := (.ref en)) (host := "") (f := ("com/example/rowan/rowan/store/IdleHeap", "entries", "[I", (.array .int))) 0 d16_1 (Or.inl (hw _ (List.mem_of_getElem? (i := 10) rfl))) Via.refl A_t rfl rfl ?_
    refine w_iloadN ok d16_4 rfl ?_
    refine w_iaload ok (v := (.int (Int32.ofNat y0))) d16_5 A_en (by decide) (ey0 ▸ own_svg (j := 0) (by decide)) ?_
    refine w_istoreN ok d16_6 (L' := #[.val (.ref t), .val (.int (0 : Int32)), .val (.int (Int32.ofNat y0)), .unset, .unset, .unset, .unset]) rfl ?_
    refine w_aloadN ok d16_7 rfl rfl ?_
    refine w_getfield ok (v := (.ref ti)) (host := "") (f := ("com/example/rowan/rowan/store/IdleHeap", "times", "[J", (.array .long))) 1 d16_8 (Or.inl (hw _ (List.mem_of_getElem? (i := 13) rfl))) Via.refl A_t rfl rfl ?_
    refine w_iloadN ok d16_11 rfl ?_
    refine w_laload ok (v := (.long (τ 0))) d16_12 A_ti (by decide) (own_lvg (j := 0) (by decide)) ?_
    refine w_lstoreN ok d16_13 (L' := #[.val (.ref t), .val (.int (0 : Int32)), .val (.int (Int32.ofNat y0)), .val (.long (τ 0)), .second, .unset, .unset]) rfl ?_
    refine w_iloadN ok d16_14 rfl ?_
    refine w_istore ok d16_15 (L' := #[.val (.ref t), .val (.int (0 : Int32)), .val (.int (Int32.ofNat y0)), .val (.long (τ 0)), .second, .val (.int (0 : Int32)), .unset]) rfl ?_
    refine w_aloadN ok d16_17 rfl rfl ?_
    refine w_iload ok d16_18 rfl ?_
    refine w_callP ok (y := (⟨"com/example/rowan/rowan/store/IdleHeap", "earlierChild", "(I)I"⟩ : MethodName)) (a := t) (argsL := [(.int (0 : Int32))]) (rest := []) d16_20 (hw _ (List.mem_of_getElem? (i := 81) rfl)) (hw _ (List.mem_of_getElem? (i := 82) rfl)) (hw _ (List.mem_of_getElem? (i := 83) rfl)) (hw _ (List.mem_of_getElem? (i := 1) rfl)) (hw _ (List.mem_of_getElem? (i := 2) rfl)) (hw _ (List.mem_of_getElem? (i := 84) rfl)) (by decide) A_t.1 pd_28I29I rfl rfl (by decide) (Nat.le_of_ble_eq_true rfl) (by decide) (by decide) (fun z0 => rm_ec10 l Z a0 hw [] n0 h0 z0 t en ti sl e g τ A_t A_en A_ti A_sl ge_t ge_en ge_ti ge_sl ne_t_en ne_t_ti ne_t_sl ne_en_ti ne_en_sl ne_ti_sl ) (fun v1 h2 qv1 => ?_)
    obtain ⟨rfl, rfl⟩ := qv1
    show W K l _ n0 _ h0 0 0 23 #[.val (.ref t), .val (.int (0 : Int32)), .val (.int (Int32.ofNat y0)), .val (.long (τ 0)), .second, .val (.int (0 : Int32)), .unset] [(.int (1 : Int32))]
    refine w_istore ok d16_23 (L' := #[.val (.ref t), .val (.int (0 : Int32)), .val (.int (Int32.ofNat y0)), .val (.long (τ 0)), .second, .val (.int (0 : Int32)), .val (.int (1 : Int32))]) rfl ?_
    refine w_iload ok d16_25 rfl ?_
    refine w_aloadN ok d16_27 rfl rfl ?_
    refine w_getfield ok (v := (.int (1 : Int32))) (host := "") (f := ("com/example/rowan/rowan/store/IdleHeap", "size", "I", .int)) 3 d16_28 (Or.inl (hw _ (List.mem_of_getElem? (i := 48) rfl))) Via.refl A_t rfl rfl ?_
    refine w_icmp_ge ok d16_31 (pc' := 81) (by decide) (fun hc4 => ?_) (fun hc4 => False.elim (by revert hc4; decide))
    show W K l _ n0 _ h0 0 0 81 #[.val (.ref t), .val (.int (0 : Int32)), .val (.int (Int32.ofNat y0)), .val (.long (τ 0)), .second, .val (.int (0 : Int32)), .val (.int (1 : Int32))] []
    refine w_aloadN ok d16_81 rfl rfl ?_
    refine w_iloadN ok d16_82 rfl ?_
    refine w_lloadN ok d16_83 rfl ?_
    refine w_iload ok d16_84 rfl ?_
    refine w_callP ok (y := (⟨"com/example/rowan/rowan/store/IdleHeap", "place", "(IJI)V"⟩ : MethodName)) (a := t) (argsL := [(.int (Int32.ofNat y0)), (.long (τ 0)), (.int (0 : Int32))]) (rest := []) d16_86 (hw _ (List.mem_of_getElem? (i := 50) rfl)) (hw _ (List.mem_of_getElem? (i := 51) rfl)) (hw _ (List.mem_of_getElem? (i := 52) rfl)) (hw _ (List.mem_of_getElem? (i := 1) rfl)) (hw _ (List.mem_of_getElem? (i := 2) rfl)) (hw _ (List.mem_of_getElem? (i := 53) rfl)) (by decide) A_t.1 pd_28IJI29V rfl rfl (by decide) (Nat.le_of_ble_eq_true rfl) (by decide) (by decide) (fun z0 => rm_place l Z a0 hw [] n0 h0 z0 t en ti sl (1 : Int32) e g τ A_t A_en A_ti A_sl ge_t ge_en ge_ti ge_sl ne_t_en ne_t_ti ne_t_sl ne_en_ti ne_en_sl ne_ti_sl y0 0 (τ 0) hy0 (by decide)) (fun v5 h6 qv5 => ?_)
    obtain ⟨rfl, K1, A1, A2, A3⟩ := qv5
    replace Kp := Kp.trans K1 (allS (Or.inl (by simp)) (allS (Or.inl (by simp)) (allS (Or.inl (by simp)) all0)))
    replace A_t := A_t.keep K1 (ninS ne_t_en (ninS ne_t_ti (ninS ne_t_sl nin0)))
    replace A_en := A1
    replace A_ti := A2
    replace A_sl := A3
    show W K l _ n0 _ h6 0 0 89 #[.val (.ref t), .val (.int (0 : Int32)), .val (.int (Int32.ofNat y0)), .val (.long (τ 0)), .second, .val (.int (0 : Int32)), .val (.int (1 : Int32))] []
    refine w_ret ok d16_89 (by decide) (by decide) ?_
    refine ⟨rfl, _, _, _, Kp, A_en, A_ti, A_sl, (P.keep (by decide) hy0 ey0), ?_⟩
    rw [own_uidL τ 0 rfl]
    exact own_ho1
  · have Kp : Keep h0 h0 [en, ti, sl] := Keep.refl _ _
    obtain ⟨y0, hy0, ey0, -, -⟩ := P.2.1 0 (by decide)
    obtain ⟨y1, hy1, ey1, -, -⟩ := P.2.1 1 (by decide)
    show W K l _ n0 _ h0 0 0 0 #[.val (.ref t), .val (.int (0 : Int32)), .unset, .unset, .unset, .unset, .unset] []
    refine w_aloadN ok d16_0 rfl rfl ?_
    refine w_getfield ok (v := (.ref en)) (host := "") (f := ("com/example/rowan/rowan/store/IdleHeap", "entries", "[I", (.array .int))) 0 d16_1 (Or.inl (hw _ (List.mem_of_getElem? (i := 10) rfl))) Via.refl A_t rfl rfl ?_
    refine w_iloadN ok d16_4 rfl ?_
    refine w_iaload ok (v := (.int (Int32.ofNat y0))) d16_5 A_en (by decide) (ey0 ▸ own_svg (j := 0) (by decide)) ?_
    refine w_istoreN ok d16_6 (L' := #[.val (.ref t), .val (.int (0 : Int32)), .val (.int (Int32.ofNat y0)), .unset, .unset, .unset, .unset]) rfl ?_
    refine w_aloadN ok d16_7 rfl rfl ?_
    refine w_getfield ok (v := (.ref ti)) (host := "") (f := ("com/example/rowan/rowan/store/IdleHeap", "times", "[J", (.array .long))) 1 d16_8 (Or.inl (hw _ (List.mem_of_getElem? (i := 13) rfl))) Via.refl A_t rfl rfl ?_
    refine w_iloadN ok d16_11 rfl ?_
    refine w_laload ok (v := (.long (τ 0))) d16_12 A_ti (by decide) (own_lvg (j := 0) (by decide)) ?_
    refine w_lstoreN ok d16_13 (L' := #[.val (.ref t), .val (.int (0 : Int32)), .val (.int (Int32.ofNat y0)), .val (.long (τ 0)), .second, .unset, .unset]) rfl ?_
    refine w_iloadN ok d16_14 rfl ?_
    refine w_istore ok d16_15 (L' := #[.val (.ref t), .val (.int (0 : Int32)), .val (.int (Int32.ofNat y0)), .val (.long (τ 0)), .second, .val (.int (0 : Int32)), .unset]) rfl ?_
    refine w_aloadN ok d16_17 rfl rfl ?_
    refine w_iload ok d16_18 rfl ?_
    refine w_callP ok (y := (⟨"com/example/rowan/rowan/store/IdleHeap", "earlierChild", "(I)I"⟩ : MethodName)) (a := t) (argsL := [(.int (0 : Int32))]) (rest := []) d16_20 (hw _ (List.mem_of_getElem? (i := 81) rfl)) (hw _ (List.mem_of_getElem? (i := 82) rfl)) (hw _ (List.mem_of_getElem? (i := 83) rfl)) (hw _ (List.mem_of_getElem? (i := 1) rfl)) (hw _ (List.mem_of_getElem? (i := 2) rfl)) (hw _ (List.mem_of_getElem? (i := 84) rfl)) (by decide) A_t.1 pd_28I29I rfl rfl (by decide) (Nat.le_of_ble_eq_true rfl) (by decide) (by decide) (fun z0 => rm_ec20 l Z a0 hw [] n0 h0 z0 t en ti sl e g τ A_t A_en A_ti A_sl ge_t ge_en ge_ti ge_sl ne_t_en ne_t_ti ne_t_sl ne_en_ti ne_en_sl ne_ti_sl ) (fun v1 h2 qv1 => ?_)
    obtain ⟨rfl, rfl⟩ := qv1
    show W K l _ n0 _ h0 0 0 23 #[.val (.ref t), .val (.int (0 : Int32)), .val (.int (Int32.ofNat y0)), .val (.long (τ 0)), .second, .val (.int (0 : Int32)), .unset] [(.int (1 : Int32))]
    refine w_istore ok d16_23 (L' := #[.val (.ref t), .val (.int (0 : Int32)), .val (.int (Int32.ofNat y0)), .val (.long (τ 0)), .second, .val (.int (0 : Int32)), .val (.int (1 : Int32))]) rfl ?_
    refine w_iload ok d16_25 rfl ?_
    refine w_aloadN ok d16_27 rfl rfl ?_
    refine w_getfield ok (v := (.int (2 : Int32))) (host := "") (f := ("com/example/rowan/rowan/store/IdleHeap", "size", "I", .int)) 3 d16_28 (Or.inl (hw _ (List.mem_of_getElem? (i := 48) rfl))) Via.refl A_t rfl rfl ?_
    refine w_icmp_ge ok d16_31 (pc' := 81) (by decide) (fun hc4 => False.elim (by revert hc4; decide)) (fun hc4 => ?_)
    show W K l _ n0 _ h0 0 0 34 #[.val (.ref t), .val (.int (0 : Int32)), .val (.int (Int32.ofNat y0)), .val (.long (τ 0)), .second, .val (.int (0 : Int32)), .val (.int (1 : Int32))] []
    refine w_aloadN ok d16_34 rfl rfl ?_
    refine w_getfield ok (v := (.ref ti)) (host := "") (f := ("com/example/rowan/rowan/store/IdleHeap", "times", "[J", (.array .long))) 1 d16_35 (Or.inl (hw _ (List.mem_of_getElem? (i := 13) rfl))) Via.refl A_t rfl rfl ?_
    refine w_iload ok d16_38 rfl ?_
    refine w_laload ok (v := (.long (τ 1))) d16_40 A_ti (by decide) (own_lvg (j := 1) (by decide)) ?_
    refine w_lloadN ok d16_41 rfl ?_
    refine w_lcmp_ge ok d16_42 d16_43 (pc' := 81) (by decide) (fun hc6 => ?_) (fun hc6 => ?_)
    · show W K l _ n0 _ h0 0 0 81 #[.val (.ref t), .val (.int (0 : Int32)), .val (.int (Int32.ofNat y0)), .val (.long (τ 0)), .second, .val (.int (0 : Int32)), .val (.int (1 : Int32))] []
      refine w_aloadN ok d16_81 rfl rfl ?_
      refine w_iloadN ok d16_82 rfl ?_
      refine w_lloadN ok d16_83 rfl ?_
      refine w_iload ok d16_84 rfl ?_
      refine w_callP ok (y := (⟨"com/example/rowan/rowan/store/IdleHeap", "place", "(IJI)V"⟩ : MethodName)) (a := t) (argsL := [(.int (Int32.ofNat y0)), (.long (τ 0)), (.int (0 : Int32))]) (rest := []) d16_86 (hw _ (List.mem_of_getElem? (i := 50) rfl)) (hw _ (List.mem_of_getElem? (i := 51) rfl)) (hw _ (List.mem_of_getElem? (i := 52) rfl)) (hw _ (List.mem_of_getElem? (i := 1) rfl)) (hw _ (List.mem_of_getElem? (i := 2) rfl)) (hw _ (List.mem_of_getElem? (i := 53) rfl)) (by decide) A_t.1 pd_28IJI29V rfl rfl (by decide) (Nat.le_of_ble_eq_true rfl) (by decide) (by decide) (fun z0 => rm_place l Z a0 hw [] n0 h0 z0 t en ti sl (2 : Int32) e g τ A_t A_en A_ti A_sl ge_t ge_en ge_ti ge_sl ne_t_en ne_t_ti ne_t_sl ne_en_ti ne_en_sl ne_ti_sl y0 0 (τ 0) hy0 (by decide)) (fun v7 h8 qv7 => ?_)
      obtain ⟨rfl, K1, A1, A2, A3⟩ := qv7
      replace Kp := Kp.trans K1 (allS (Or.inl (by simp)) (allS (Or.inl (by simp)) (allS (Or.inl (by simp)) all0)))
      replace A_t := A_t.keep K1 (ninS ne_t_en (ninS ne_t_ti (ninS ne_t_sl nin0)))
      replace A_en := A1
      replace A_ti := A2
      replace A_sl := A3
      show W K l _ n0 _ h8 0 0 89 #[.val (.ref t), .val (.int (0 : Int32)), .val (.int (Int32.ofNat y0)), .val (.long (τ 0)), .second, .val (.int (0 : Int32)), .val (.int (1 : Int32))] []
      refine w_ret ok d16_89 (by decide) (by decide) ?_
      refine ⟨rfl, _, _, _, Kp, A_en, A_ti, A_sl, (P.keep (by decide) hy0 ey0), ?_⟩
      rw [own_uidL τ 0 rfl]
      exact own_ho2 hc6
    · show W K l _ n0 _ h0 0 0 46 #[.val (.ref t), .val (.int (0 : Int32)), .val (.int (Int32.ofNat y0)), .val (.long (τ 0)), .second, .val (.int (0 : Int32)), .val (.int (1 : Int32))] []
      refine w_aloadN ok d16_46 rfl rfl ?_
      refine w_aloadN ok d16_47 rfl rfl ?_
      refine w_getfield ok (v := (.ref en)) (host := "") (f := ("com/example/rowan/rowan/store/IdleHeap", "entries", "[I", (.array .int))) 0 d16_48 (Or.inl (hw _ (List.mem_of_getElem? (i := 10) rfl))) Via.refl A_t rfl rfl ?_
      refine w_iload ok d16_51 rfl ?_
      refine w_iaload ok (v := (.int (Int32.ofNat y1))) d16_53 A_en (by decide) (ey1 ▸ own_svg (j := 1) (by decide)) ?_
      refine w_aloadN ok d16_54 rfl rfl ?_
      refine w_getfield ok (v := (.ref ti)) (host := "") (f := ("com/example/rowan/rowan/store/IdleHeap", "times", "[J", (.array .long))) 1 d16_55 (Or.inl (hw _ (List.mem_of_getElem? (i := 13) rfl))) Via.refl A_t rfl rfl ?_
      refine w_iload ok d16_58 rfl ?_
      refine w_laload ok (v := (.long (τ 1))) d16_60 A_ti (by decide) (own_lvg (j := 1) (by decide)) ?_
      refine w_iload ok d16_61 rfl ?_
      refine w_callP ok (y := (⟨"com/example/rowan/rowan/store/IdleHeap", "place", "(IJI)V"⟩ : MethodName)) (a := t) (argsL := [(.int (Int32.ofNat y1)), (.long (τ 1)), (.int (0 : Int32))]) (rest := []) d16_63 (hw _ (List.mem_of_getElem? (i := 50) rfl)) (hw _ (List.mem_of_getElem? (i := 51) rfl)) (hw _ (List.mem_of_getElem? (i := 52) rfl)) (hw _ (List.mem_of_getElem? (i := 1) rfl)) (hw _ (List.mem_of_getElem? (i := 2) rfl)) (hw _ (List.mem_of_getElem? (i := 53) rfl)) (by decide) A_t.1 pd_28IJI29V rfl rfl (by decide) (Nat.le_of_ble_eq_true rfl) (by decide) (by decide) (fun z0 => rm_place l Z a0 hw [] n0 h0 z0 t en ti sl (2 : Int32) e g τ A_t A_en A_ti A_sl ge_t ge_en ge_ti ge_sl ne_t_en ne_t_ti ne_t_sl ne_en_ti ne_en_sl ne_ti_sl y1 0 (τ 1) hy1 (by decide)) (fun v9 h10 qv9 => ?_)
      obtain ⟨rfl, K1, A1, A2, A3⟩ := qv9
      replace Kp := Kp.trans K1 (allS (Or.inl (by simp)) (allS (Or.inl (by simp)) (allS (Or.inl (by simp)) all0)))
      replace A_t := A_t.keep K1 (ninS ne_t_en (ninS ne_t_ti (ninS ne_t_sl nin0)))
      replace A_en := A1
      replace A_ti := A2
      replace A_sl := A3
      show W K l _ n0 _ h10 0 0 66 #[.val (.ref t), .val (.int (0 : Int32)), .val (.int (Int32.ofNat y0)), .val (.long (τ 0)), .second, .val (.int (0 : Int32)), .val (.int (1 : Int32))] []
      refine w_iload ok d16_66 rfl ?_
      refine w_istore ok d16_68 (L' := #[.val (.ref t), .val (.int (0 : Int32)), .val (.int (Int32.ofNat y0)), .val (.long (τ 0)), .second, .val (.int (1 : Int32)), .val (.int (1 : Int32))]) rfl ?_
      refine w_aloadN ok d16_70 rfl rfl ?_
      refine w_iload ok d16_71 rfl ?_
      refine w_callP ok (y := (⟨"com/example/rowan/rowan/store/IdleHeap", "earlierChild", "(I)I"⟩ : MethodName)) (a := t) (argsL := [(.int (1 : Int32))]) (rest := []) d16_73 (hw _ (List.mem_of_getElem? (i := 81) rfl)) (hw _ (List.mem_of_getElem? (i := 82) rfl)) (hw _ (List.mem_of_getElem? (i := 83) rfl)) (hw _ (List.mem_of_getElem? (i := 1) rfl)) (hw _ (List.mem_of_getElem? (i := 2) rfl)) (hw _ (List.mem_of_getElem? (i := 84) rfl)) (by decide) A_t.1 pd_28I29I rfl rfl (by decide) (Nat.le_of_ble_eq_true rfl) (by decide) (by decide) (fun z0 => rm_ec21 l Z a0 hw [] n0 h10 z0 t en ti sl (upd e 0 (Int32.ofNat y1)) (upd g y1 (Int32.ofNat 0)) (updL τ 0 (τ 1)) A_t A_en A_ti A_sl ge_t ge_en ge_ti ge_sl ne_t_en ne_t_ti ne_t_sl ne_en_ti ne_en_sl ne_ti_sl ) (fun v11 h12 qv11 => ?_)
      obtain ⟨rfl, rfl⟩ := qv11
      show W K l _ n0 _ h10 0 0 76 #[.val (.ref t), .val (.int (0 : Int32)), .val (.int (Int32.ofNat y0)), .val (.long (τ 0)), .second, .val (.int (1 : Int32)), .val (.int (1 : Int32))] [(.int (3 : Int32))]
      refine w_istore ok d16_76 (L' := #[.val (.ref t), .val (.int (0 : Int32)), .val (.int (Int32.ofNat y0)), .val (.long (τ 0)), .second, .val (.int (1 : Int32)), .val (.int (3 : Int32))]) rfl ?_
      refine w_goto ok d16_78 (pc' := 25) (by decide) ?_
      refine w_iload ok d16_25 rfl ?_
      refine w_aloadN ok d16_27 rfl rfl ?_
      refine w_getfield ok (v := (.int (2 : Int32))) (host := "") (f := ("com/example/rowan/rowan/store/IdleHeap", "size", "I", .int)) 3 d16_28 (Or.inl (hw _ (List.mem_of_getElem? (i := 48) rfl))) Via.refl A_t rfl rfl ?_
      refine w_icmp_ge ok d16_31 (pc' := 81) (by decide) (fun hc14 => ?_) (fun hc14 => False.elim (by revert hc14; decide))
      show W K l _ n0 _ h10 0 0 81 #[.val (.ref t), .val (.int (0 : Int32)), .val (.int (Int32.ofNat y0)), .val (.long (τ 0)), .second, .val (.int (1 : Int32)), .val (.int (3 : Int32))] []
      refine w_aloadN ok d16_81 rfl rfl ?_
      refine w_iloadN ok d16_82 rfl ?_
      refine w_lloadN ok d16_83 rfl ?_
      refine w_iload ok d16_84 rfl ?_
      refine w_callP ok (y := (⟨"com/example/rowan/rowan/store/IdleHeap", "place", "(IJI)V"⟩ : MethodName)) (a := t) (argsL := [(.int (Int32.ofNat y0)), (.long (τ 0)), (.int (1 : Int32))]) (rest := []) d16_86 (hw _ (List.mem_of_getElem? (i := 50) rfl)) (hw _ (List.mem_of_getElem? (i := 51) rfl)) (hw _ (List.mem_of_getElem? (i := 52) rfl)) (hw _ (List.mem_of_getElem? (i := 1) rfl)) (hw _ (List.mem_of_getElem? (i := 2) rfl)) (hw _ (List.mem_of_getElem? (i := 53) rfl)) (by decide) A_t.1 pd_28IJI29V rfl rfl (by decide) (Nat.le_of_ble_eq_true rfl) (by decide) (by decide) (fun z0 => rm_place l Z a0 hw [] n0 h10 z0 t en ti sl (2 : Int32) (upd e 0 (Int32.ofNat y1)) (upd g y1 (Int32.ofNat 0)) (updL τ 0 (τ 1)) A_t A_en A_ti A_sl ge_t ge_en ge_ti ge_sl ne_t_en ne_t_ti ne_t_sl ne_en_ti ne_en_sl ne_ti_sl y0 1 (τ 0) hy0 (by decide)) (fun v15 h16 qv15 => ?_)
      obtain ⟨rfl, K1, A1, A2, A3⟩ := qv15
      replace Kp := Kp.trans K1 (allS (Or.inl (by simp)) (allS (Or.inl (by simp)) (allS (Or.inl (by simp)) all0)))
      replace A_t := A_t.keep K1 (ninS ne_t_en (ninS ne_t_ti (ninS ne_t_sl nin0)))
      replace A_en := A1
      replace A_ti := A2
      replace A_sl := A3
      show W K l _ n0 _ h16 0 0 89 #[.val (.ref t), .val (.int (0 : Int32)), .val (.int (Int32.ofNat y0)), .val (.long (τ 0)), .second, .val (.int (1 : Int32)), .val (.int (3 : Int32))] []
      refine w_ret ok d16_89 (by decide) (by decide) ?_
      refine ⟨rfl, _, _, _, Kp, A_en, A_ti, A_sl, (P.swap (i := 0) (j := 1) (by decide) (by decide) (by decide) hy0 hy1 ey0 ey1), ?_⟩
      exact own_ho2 (own_lt64 hc6)
  · have Kp : Keep h0 h0 [en, ti, sl] := Keep.refl _ _
    obtain ⟨y0, hy0, ey0, -, -⟩ := P.2.1 0 (by decide)
    obtain ⟨y1, hy1, ey1, -, -⟩ := P.2.1 1 (by decide)
    show W K l _ n0 _ h0 0 0 0 #[.val (.ref t), .val (.int (1 : Int32)), .unset, .unset, .unset, .unset, .unset] []
    refine w_aloadN ok d16_0 rfl rfl ?_
    refine w_getfield ok (v := (.ref en)) (host := "") (f := ("com/example/rowan/rowan/store/IdleHeap", "entries", "[I", (.array .int))) 0 d16_1 (Or.inl (hw _ (List.mem_of_getElem? (i := 10) rfl))) Via.refl A_t rfl rfl ?_
    refine w_iloadN ok d16_4 rfl ?_
    refine w_iaload ok (v := (.int (Int32.ofNat y1))) d16_5 A_en (by decide) (ey1 ▸ own_svg (j := 1) (by decide)) ?_
    refine w_istoreN ok d16_6 (L' := #[.val (.ref t), .val (.int (1 : Int32)), .val (.int (Int32.ofNat y1)), .unset, .unset, .unset, .unset]) rfl ?_
    refine w_aloadN ok d16_7 rfl rfl ?_
    refine w_getfield ok (v := (.ref ti)) (host := "") (f := ("com/example/rowan/rowan/store/IdleHeap", "times", "[J", (.array .long))) 1 d16_8 (Or.inl (hw _ (List.mem_of_getElem? (i := 13) rfl))) Via.refl A_t rfl rfl ?_
    refine w_iloadN ok d16_11 rfl ?_
    refine w_laload ok (v := (.long (τ 1))) d16_12 A_ti (by decide) (own_lvg (j := 1) (by decide)) ?_
    refine w_lstoreN ok d16_13 (L' := #[.val (.ref t), .val (.int (1 : Int32)), .val (.int (Int32.ofNat y1)), .val (.long (τ 1)), .second, .unset, .unset]) rfl ?_
    refine w_iloadN ok d16_14 rfl ?_
    refine w_istore ok d16_15 (L' := #[.val (.ref t), .val (.int (1 : Int32)), .val (.int (Int32.ofNat y1)), .val (.long (τ 1)), .second, .val (.int (1 : Int32)), .unset]) rfl ?_
    refine w_aloadN ok d16_17 rfl rfl ?_
    refine w_iload ok d16_18 rfl ?_
    refine w_callP ok (y := (⟨"com/example/rowan/rowan/store/IdleHeap", "earlierChild", "(I)I"⟩ : MethodName)) (a := t) (argsL := [(.int (1 : Int32))]) (rest := []) d16_20 (hw _ (List.mem_of_getElem? (i := 81) rfl)) (hw _ (List.mem_of_getElem? (i := 82) rfl)) (hw _ (List.mem_of_getElem? (i := 83) rfl)) (hw _ (List.mem_of_getElem? (i := 1) rfl)) (hw _ (List.mem_of_getElem? (i := 2) rfl)) (hw _ (List.mem_of_getElem? (i := 84) rfl)) (by decide) A_t.1 pd_28I29I rfl rfl (by decide) (Nat.le_of_ble_eq_true rfl) (by decide) (by decide) (fun z0 => rm_ec21 l Z a0 hw [] n0 h0 z0 t en ti sl e g τ A_t A_en A_ti A_sl ge_t ge_en ge_ti ge_sl ne_t_en ne_t_ti ne_t_sl ne_en_ti ne_en_sl ne_ti_sl ) (fun v1 h2 qv1 => ?_)
    obtain ⟨rfl, rfl⟩ := qv1
    show W K l _ n0 _ h0 0 0 23 #[.val (.ref t), .val (.int (1 : Int32)), .val (.int (Int32.ofNat y1)), .val (.long (τ 1)), .second, .val (.int (1 : Int32)), .unset] [(.int (3 : Int32))]
    refine w_istore ok d16_23 (L' := #[.val (.ref t), .val (.int (1 : Int32)), .val (.int (Int32.ofNat y1)), .val (.long (τ 1)), .second, .val (.int (1 : Int32)), .val (.int (3 : Int32))]) rfl ?_
    refine w_iload ok d16_25 rfl ?_
    refine w_aloadN ok d16_27 rfl rfl ?_
    refine w_getfield ok (v := (.int (2 : Int32))) (host := "") (f := ("com/example/rowan/rowan/store/IdleHeap", "size", "I", .int)) 3 d16_28 (Or.inl (hw _ (List.mem_of_getElem? (i := 48) rfl))) Via.refl A_t rfl rfl ?_
    refine w_icmp_ge ok d16_31 (pc' := 81) (by decide) (fun hc4 => ?_) (fun hc4 => False.elim (by revert hc4; decide))
    show W K l _ n0 _ h0 0 0 81 #[.val (.ref t), .val (.int (1 : Int32)), .val (.int (Int32.ofNat y1)), .val (.long (τ 1)), .second, .val (.int (1 : Int32)), .val (.int (3 : Int32))] []
    refine w_aloadN ok d16_81 rfl rfl ?_
    refine w_iloadN ok d16_82 rfl ?_
    refine w_lloadN ok d16_83 rfl ?_
    refine w_iload ok d16_84 rfl ?_
    refine w_callP ok (y := (⟨"com/example/rowan/rowan/store/IdleHeap", "place", "(IJI)V"⟩ : MethodName)) (a := t) (argsL := [(.int (Int32.ofNat y1)), (.long (τ 1)), (.int (1 : Int32))]) (rest := []) d16_86 (hw _ (List.mem_of_getElem? (i := 50) rfl)) (hw _ (List.mem_of_getElem? (i := 51) rfl)) (hw _ (List.mem_of_getElem? (i := 52) rfl)) (hw _ (List.mem_of_getElem? (i := 1) rfl)) (hw _ (List.mem_of_getElem? (i := 2) rfl)) (hw _ (List.mem_of_getElem? (i := 53) rfl)) (by decide) A_t.1 pd_28IJI29V rfl rfl (by decide) (Nat.le_of_ble_eq_true rfl) (by decide) (by decide) (fun z0 => rm_place l Z a0 hw [] n0 h0 z0 t en ti sl (2 : Int32) e g τ A_t A_en A_ti A_sl ge_t ge_en ge_ti ge_sl ne_t_en ne_t_ti ne_t_sl ne_en_ti ne_en_sl ne_ti_sl y1 1 (τ 1) hy1 (by decide)) (fun v5 h6 qv5 => ?_)
    obtain ⟨rfl, K1, A1, A2, A3⟩ := qv5
    replace Kp := Kp.trans K1 (allS (Or.inl (by simp)) (allS (Or.inl (by simp)) (allS (Or.inl (by simp)) all0)))
    replace A_t := A_t.keep K1 (ninS ne_t_en (ninS ne_t_ti (ninS ne_t_sl nin0)))
    replace A_en := A1
    replace A_ti := A2
    replace A_sl := A3
    show W K l _ n0 _ h6 0 0 89 #[.val (.ref t), .val (.int (1 : Int32)), .val (.int (Int32.ofNat y1)), .val (.long (τ 1)), .second, .val (.int (1 : Int32)), .val (.int (3 : Int32))] []
    refine w_ret ok d16_89 (by decide) (by decide) ?_
    refine ⟨rfl, _, _, _, Kp, A_en, A_ti, A_sl, (P.keep (by decide) hy1 ey1), ?_⟩
    rw [own_uidL τ 1 rfl]
    exact hD (by decide)
  · have Kp : Keep h0 h0 [en, ti, sl] := Keep.refl _ _
    obtain ⟨y0, hy0, ey0, -, -⟩ := P.2.1 0 (by decide)
    obtain ⟨y1, hy1, ey1, -, -⟩ := P.2.1 1 (by decide)
    obtain ⟨y2, hy2, ey2, -, -⟩ := P.2.1 2 (by decide)
    show W K l _ n0 _ h0 0 0 0 #[.val (.ref t), .val (.int (0 : Int32)), .unset, .unset, .unset, .unset, .unset] []
    refine w_aloadN ok d16_0 rfl rfl ?_
    refine w_getfield ok (v := (.ref en)) (host := "") (f := ("com/example/rowan/rowan/store/IdleHeap", "entries", "[I", (.array .int))) 0 d16_1 (Or.inl (hw _ (List.mem_of_getElem? (i := 10) rfl))) Via.refl A_t rfl rfl ?_
    refine w_iloadN ok d16_4 rfl ?_
    refine w_iaload ok (v := (.int (Int32.ofNat y0))) d16_5 A_en (by decide) (ey0 ▸ own_svg (j := 0) (by decide)) ?_
    refine w_istoreN ok d16_6 (L' := #[.val (.ref t), .val (.int (0 : Int32)), .val (.int (Int32.ofNat y0)), .unset, .unset, .unset, .unset]) rfl ?_
    refine w_aloadN ok d16_7 rfl rfl ?_
    refine w_getfield ok (v := (.ref ti)) (host := "") (f := ("com/example/rowan/rowan/store/IdleHeap", "times", "[J", (.array .long))) 1 d16_8 (Or.inl (hw _ (List.mem_of_getElem? (i := 13) rfl))) Via.refl A_t rfl rfl ?_
    refine w_iloadN ok d16_11 rfl ?_
    refine w_laload ok (v := (.long (τ 0))) d16_12 A_ti (by decide) (own_lvg (j := 0) (by decide)) ?_
    refine w_lstoreN ok d16_13 (L' := #[.val (.ref t), .val (.int (0 : Int32)), .val (.int (Int32.ofNat y0)), .val (.long (τ 0)), .second, .unset, .unset]) rfl ?_
    refine w_iloadN ok d16_14 rfl ?_
    refine w_istore ok d16_15 (L' := #[.val (.ref t), .val (.int (0 : Int32)), .val (.int (Int32.ofNat y0)), .val (.long (τ 0)), .second, .val (.int (0 : Int32)), .unset]) rfl ?_
    refine w_aloadN ok d16_17 rfl rfl ?_
    refine w_iload ok d16_18 rfl ?_
    refine w_callP ok (y := (⟨"com/example/rowan/rowan/store/IdleHeap", "earlierChild", "(I)I"⟩ : MethodName)) (a := t) (argsL := [(.int (0 : Int32))]) (rest := []) d16_20 (hw _ (List.mem_of_getElem? (i := 81) rfl)) (hw _ (List.mem_of_getElem? (i := 82) rfl)) (hw _ (List.mem_of_getElem? (i := 83) rfl)) (hw _ (List.mem_of_getElem? (i := 1) rfl)) (hw _ (List.mem_of_getElem? (i := 2) rfl)) (hw _ (List.mem_of_getElem? (i := 84) rfl)) (by decide) A_t.1 pd_28I29I rfl rfl (by decide) (Nat.le_of_ble_eq_true rfl) (by decide) (by decide) (fun z0 => rm_ec30 l Z a0 hw [] n0 h0 z0 t en ti sl e g τ A_t A_en A_ti A_sl ge_t ge_en ge_ti ge_sl ne_t_en ne_t_ti ne_t_sl ne_en_ti ne_en_sl ne_ti_sl ) (fun v1 h2 qv1 => ?_)
    rcases qv1 with ⟨rfl, hec, rfl⟩ | ⟨rfl, hec, rfl⟩
    · skip
      show W K l _ n0 _ h0 0 0 23 #[.val (.ref t), .val (.int (0 : Int32)), .val (.int (Int32.ofNat y0)), .val (.long (τ 0)), .second, .val (.int (0 : Int32)), .unset] [(.int (2 : Int32))]
      refine w_istore ok d16_23 (L' := #[.val (.ref t), .val (.int (0 : Int32)), .val (.int (Int32.ofNat y0)), .val (.long (τ 0)), .second, .val (.int (0 : Int32)), .val (.int (2 : Int32))]) rfl ?_
      refine w_iload ok d16_25 rfl ?_
      refine w_aloadN ok d16_27 rfl rfl ?_
      refine w_getfield ok (v := (.int (3 : Int32))) (host := "") (f := ("com/example/rowan/rowan/store/IdleHeap", "size", "I", .int)) 3 d16_28 (Or.inl (hw _ (List.mem_of_getElem? (i := 48) rfl))) Via.refl A_t rfl rfl ?_
      refine w_icmp_ge ok d16_31 (pc' := 81) (by decide) (fun hc4 => False.elim (by revert hc4; decide)) (fun hc4 => ?_)
      show W K l _ n0 _ h0 0 0 34 #[.val (.ref t), .val (.int (0 : Int32)), .val (.int (Int32.ofNat y0)), .val (.long (τ 0)), .second, .val (.int (0 : Int32)), .val (.int (2 : Int32))] []
      refine w_aloadN ok d16_34 rfl rfl ?_
      refine w_getfield ok (v := (.ref ti)) (host := "") (f := ("com/example/rowan/rowan/store/IdleHeap", "times", "[J", (.array .long))) 1 d16_35 (Or.inl (hw _ (List.mem_of_getElem? (i := 13) rfl))) Via.refl A_t rfl rfl ?_
      refine w_iload ok d16_38 rfl ?_
      refine w_laload ok (v := (.long (τ 2))) d16_40 A_ti (by decide) (own_lvg (j := 2) (by decide)) ?_
      refine w_lloadN ok d16_41 rfl ?_
      refine w_lcmp_ge ok d16_42 d16_43 (pc' := 81) (by decide) (fun hc6 => ?_) (fun hc6 => ?_)
      · show W K l _ n0 _ h0 0 0 81 #[.val (.ref t), .val (.int (0 : Int32)), .val (.int (Int32.ofNat y0)), .val (.long (τ 0)), .second, .val (.int (0 : Int32)), .val (.int (2 : Int32))] []
        refine w_aloadN ok d16_81 rfl rfl ?_
        refine w_iloadN ok d16_82 rfl ?_
        refine w_lloadN ok d16_83 rfl ?_
        refine w_iload ok d16_84 rfl ?_
        refine w_callP ok (y := (⟨"com/example/rowan/rowan/store/IdleHeap", "place", "(IJI)V"⟩ : MethodName)) (a := t) (argsL := [(.int (Int32.ofNat y0)), (.long (τ 0)), (.int (0 : Int32))]) (rest := []) d16_86 (hw _ (List.mem_of_getElem? (i := 50) rfl)) (hw _ (List.mem_of_getElem? (i := 51) rfl)) (hw _ (List.mem_of_getElem? (i := 52) rfl)) (hw _ (List.mem_of_getElem? (i := 1) rfl)) (hw _ (List.mem_of_getElem? (i := 2) rfl)) (hw _ (List.mem_of_getElem? (i := 53) rfl)) (by decide) A_t.1 pd_28IJI29V rfl rfl (by decide) (Nat.le_of_ble_eq_true rfl) (by decide) (by decide) (fun z0 => rm_place l Z a0 hw [] n0 h0 z0 t en ti sl (3 : Int32) e g τ A_t A_en A_ti A_sl ge_t ge_en ge_ti ge_sl ne_t_en ne_t_ti ne_t_sl ne_en_ti ne_en_sl ne_ti_sl y0 0 (τ 0) hy0 (by decide)) (fun v7 h8 qv7 => ?_)
        obtain ⟨rfl, K1, A1, A2, A3⟩ := qv7
        replace Kp := Kp.trans K1 (allS (Or.inl (by simp)) (allS (Or.inl (by simp)) (allS (Or.inl (by simp)) all0)))
        replace A_t := A_t.keep K1 (ninS ne_t_en (ninS ne_t_ti (ninS ne_t_sl nin0)))
        replace A_en := A1
        replace A_ti := A2
        replace A_sl := A3
        show W K l _ n0 _ h8 0 0 89 #[.val (.ref t), .val (.int (0 : Int32)), .val (.int (Int32.ofNat y0)), .val (.long (τ 0)), .second, .val (.int (0 : Int32)), .val (.int (2 : Int32))] []
        refine w_ret ok d16_89 (by decide) (by decide) ?_
        refine ⟨rfl, _, _, _, Kp, A_en, A_ti, A_sl, (P.keep (by decide) hy0 ey0), ?_⟩
        rw [own_uidL τ 0 rfl]
        exact own_ho3 (own_tr64' hc6 (own_lt64 hec)) hc6
      · show W K l _ n0 _ h0 0 0 46 #[.val (.ref t), .val (.int (0 : Int32)), .val (.int (Int32.ofNat y0)), .val (.long (τ 0)), .second, .val (.int (0 : Int32)), .val (.int (2 : Int32))] []
        refine w_aloadN ok d16_46 rfl rfl ?_
        refine w_aloadN ok d16_47 rfl rfl ?_
        refine w_getfield ok (v := (.ref en)) (host := "") (f := ("com/example/rowan/rowan/store/IdleHeap", "entries", "[I", (.array .int))) 0 d16_48 (Or.inl (hw _ (List.mem_of_getElem? (i := 10) rfl))) Via.refl A_t rfl rfl ?_
        refine w_iload ok d16_51 rfl ?_
        refine w_iaload ok (v := (.int (Int32.ofNat y2))) d16_53 A_en (by decide) (ey2 ▸ own_svg (j := 2) (by decide)) ?_
        refine w_aloadN ok d16_54 rfl rfl ?_
        refine w_getfield ok (v := (.ref ti)) (host := "") (f := ("com/example/rowan/rowan/store/IdleHeap", "times", "[J", (.array .long))) 1 d16_55 (Or.inl (hw _ (List.mem_of_getElem? (i := 13) rfl))) Via.refl A_t rfl rfl ?_
        refine w_iload ok d16_58 rfl ?_
        refine w_laload ok (v := (.long (τ 2))) d16_60 A_ti (by decide) (own_lvg (j := 2) (by decide)) ?_
        refine w_iload ok d16_61 rfl ?_
        refine w_callP ok (y := (⟨"com/example/rowan/rowan/store/IdleHeap", "place", "(IJI)V"⟩ : MethodName)) (a := t) (argsL := [(.int (Int32.ofNat y2)), (.long (τ 2)), (.int (0 : Int32))]) (rest := []) d16_63 (hw _ (List.mem_of_getElem? (i := 50) rfl)) (hw _ (List.mem_of_getElem? (i := 51) rfl)) (hw _ (List.mem_of_getElem? (i := 52) rfl)) (hw _ (List.mem_of_getElem? (i := 1) rfl)) (hw _ (List.mem_of_getElem? (i := 2) rfl)) (hw _ (List.mem_of_getElem? (i := 53) rfl)) (by decide) A_t.1 pd_28IJI29V rfl rfl (by decide) (Nat.le_of_ble_eq_true rfl) (by decide) (by decide) (fun z0 => rm_place l Z a0 hw [] n0 h0 z0 t en ti sl (3 : Int32) e g τ A_t A_en A_ti A_sl ge_t ge_en ge_ti ge_sl ne_t_en ne_t_ti ne_t_sl ne_en_ti ne_en_sl ne_ti_sl y2 0 (τ 2) hy2 (by decide)) (fun v9 h10 qv9 => ?_)
        obtain ⟨rfl, K1, A1, A2, A3⟩ := qv9
        replace Kp := Kp.trans K1 (allS (Or.inl (by simp)) (allS (Or.inl (by simp)) (allS (Or.inl (by simp)) all0)))
        replace A_t := A_t.keep K1 (ninS ne_t_en (ninS ne_t_ti (ninS ne_t_sl nin0)))
        replace A_en := A1
        replace A_ti := A2
        replace A_sl := A3
        show W K l _ n0 _ h10 0 0 66 #[.val (.ref t), .val (.int (0 : Int32)), .val (.int (Int32.ofNat y0)), .val (.long (τ 0)), .second, .val (.int (0 : Int32)), .val (.int (2 : Int32))] []
        refine w_iload ok d16_66 rfl ?_
        refine w_istore ok d16_68 (L' := #[.val (.ref t), .val (.int (0 : Int32)), .val (.int (Int32.ofNat y0)), .val (.long (τ 0)), .second, .val (.int (2 : Int32)), .val (.int (2 : Int32))]) rfl ?_
        refine w_aloadN ok d16_70 rfl rfl ?_
        refine w_iload ok d16_71 rfl ?_
        refine w_callP ok (y := (⟨"com/example/rowan/rowan/store/IdleHeap", "earlierChild", "(I)I"⟩ : MethodName)) (a := t) (argsL := [(.int (2 : Int32))]) (rest := []) d16_73 (hw _ (List.mem_of_getElem? (i := 81) rfl)) (hw _ (List.mem_of_getElem? (i := 82) rfl)) (hw _ (List.mem_of_getElem? (i := 83) rfl)) (hw _ (List.mem_of_getElem? (i := 1) rfl)) (hw _ (List.mem_of_getElem? (i := 2) rfl)) (hw _ (List.mem_of_getElem? (i := 84) rfl)) (by decide) A_t.1 pd_28I29I rfl rfl (by decide) (Nat.le_of_ble_eq_true rfl) (by decide) (by decide) (fun z0 => rm_ec32 l Z a0 hw [] n0 h10 z0 t en ti sl (upd e 0 (Int32.ofNat y2)) (upd g y2 (Int32.ofNat 0)) (updL τ 0 (τ 2)) A_t A_en A_ti A_sl ge_t ge_en ge_ti ge_sl ne_t_en ne_t_ti ne_t_sl ne_en_ti ne_en_sl ne_ti_sl ) (fun v11 h12 qv11 => ?_)
        obtain ⟨rfl, rfl⟩ := qv11
        show W K l _ n0 _ h10 0 0 76 #[.val (.ref t), .val (.int (0 : Int32)), .val (.int (Int32.ofNat y0)), .val (.long (τ 0)), .second, .val (.int (2 : Int32)), .val (.int (2 : Int32))] [(.int (5 : Int32))]
        refine w_istore ok d16_76 (L' := #[.val (.ref t), .val (.int (0 : Int32)), .val (.int (Int32.ofNat y0)), .val (.long (τ 0)), .second, .val (.int (2 : Int32)), .val (.int (5 : Int32))]) rfl ?_
        refine w_goto ok d16_78 (pc' := 25) (by decide) ?_
        refine w_iload ok d16_25 rfl ?_
        refine w_aloadN ok d16_27 rfl rfl ?_
        refine w_getfield ok (v := (.int (3 : Int32))) (host := "") (f := ("com/example/rowan/rowan/store/IdleHeap", "size", "I", .int)) 3 d16_28 (Or.inl (hw _ (List.mem_of_getElem? (i := 48) rfl))) Via.refl A_t rfl rfl ?_
        refine w_icmp_ge ok d16_31 (pc' := 81) (by decide) (fun hc14 => ?_) (fun hc14 => False.elim (by revert hc14; decide))
        show W K l _ n0 _ h10 0 0 81 #[.val (.ref t), .val (.int (0 : Int32)), .val (.int (Int32.ofNat y0)), .val (.long (τ 0)), .second, .val (.int (2 : Int32)), .val (.int (5 : Int32))] []
        refine w_aloadN ok d16_81 rfl rfl ?_
        refine w_iloadN ok d16_82 rfl ?_
        refine w_lloadN ok d16_83 rfl ?_
        refine w_iload ok d16_84 rfl ?_
        refine w_callP ok (y := (⟨"com/example/rowan/rowan/store/IdleHeap", "place", "(IJI)V"⟩ : MethodName)) (a := t) (argsL := [(.int (Int32.ofNat y0)), (.long (τ 0)), (.int (2 : Int32))]) (rest := []) d16_86 (hw _ (List.mem_of_getElem? (i := 50) rfl)) (hw _ (List.mem_of_getElem? (i := 51) rfl)) (hw _ (List.mem_of_getElem? (i := 52) rfl)) (hw _ (List.mem_of_getElem? (i := 1) rfl)) (hw _ (List.mem_of_getElem? (i := 2) rfl)) (hw _ (List.mem_of_getElem? (i := 53) rfl)) (by decide) A_t.1 pd_28IJI29V rfl rfl (by decide) (Nat.le_of_ble_eq_true rfl) (by decide) (by decide) (fun z0 => rm_place l Z a0 hw [] n0 h10 z0 t en ti sl (3 : Int32) (upd e 0 (Int32.ofNat y2)) (upd g y2 (Int32.ofNat 0)) (updL τ 0 (τ 2)) A_t A_en A_ti A_sl ge_t ge_en ge_ti ge_sl ne_t_en ne_t_ti ne_t_sl ne_en_ti ne_en_sl ne_ti_sl y0 2 (τ 0) hy0 (by decide)) (fun v15 h16 qv15 => ?_)
        obtain ⟨rfl, K1, A1, A2, A3⟩ := qv15
        replace Kp := Kp.trans K1 (allS (Or.inl (by simp)) (allS (Or.inl (by simp)) (allS (Or.inl (by simp)) all0)))
        replace A_t := A_t.keep K1 (ninS ne_t_en (ninS ne_t_ti (ninS ne_t_sl nin0)))
        replace A_en := A1
        replace A_ti := A2
        replace A_sl := A3
        show W K l _ n0 _ h16 0 0 89 #[.val (.ref t), .val (.int (0 : Int32)), .val (.int (Int32.ofNat y0)), .val (.long (τ 0)), .second, .val (.int (2 : Int32)), .val (.int (5 : Int32))] []
        refine w_ret ok d16_89 (by decide) (by decide) ?_
        refine ⟨rfl, _, _, _, Kp, A_en, A_ti, A_sl, (P.swap (i := 0) (j := 2) (by decide) (by decide) (by decide) hy0 hy2 ey0 ey2), ?_⟩
        exact own_ho3 (own_lt64 hec) (own_lt64 hc6)
    · skip
      show W K l _ n0 _ h0 0 0 23 #[.val (.ref t), .val (.int (0 : Int32)), .val (.int (Int32.ofNat y0)), .val (.long (τ 0)), .second, .val (.int (0 : Int32)), .unset] [(.int (1 : Int32))]
      refine w_istore ok d16_23 (L' := #[.val (.ref t), .val (.int (0 : Int32)), .val (.int (Int32.ofNat y0)), .val (.long (τ 0)), .second, .val (.int (0 : Int32)), .val (.int (1 : Int32))]) rfl ?_
      refine w_iload ok d16_25 rfl ?_
      refine w_aloadN ok d16_27 rfl rfl ?_
      refine w_getfield ok (v := (.int (3 : Int32))) (host := "") (f := ("com/example/rowan/rowan/store/IdleHeap", "size", "I", .int)) 3 d16_28 (Or.inl (hw _ (List.mem_of_getElem? (i := 48) rfl))) Via.refl A_t rfl rfl ?_
      refine w_icmp_ge ok d16_31 (pc' := 81) (by decide) (fun hc18 => False.elim (by revert hc18; decide)) (fun hc18 => ?_)
      show W K l _ n0 _ h0 0 0 34 #[.val (.ref t), .val (.int (0 : Int32)), .val (.int (Int32.ofNat y0)), .val (.long (τ 0)), .second, .val (.int (0 : Int32)), .val (.int (1 : Int32))] []
      refine w_aloadN ok d16_34 rfl rfl ?_
      refine w_getfield ok (v := (.ref ti)) (host := "") (f := ("com/example/rowan/rowan/store/IdleHeap", "times", "[J", (.array .long))) 1 d16_35 (Or.inl (hw _ (List.mem_of_getElem? (i := 13) rfl))) Via.refl A_t rfl rfl ?_
      refine w_iload ok d16_38 rfl ?_
      refine w_laload ok (v := (.long (τ 1))) d16_40 A_ti (by decide) (own_lvg (j := 1) (by decide)) ?_
      refine w_lloadN ok d16_41 rfl ?_
      refine w_lcmp_ge ok d16_42 d16_43 (pc' := 81) (by decide) (fun hc20 => ?_) (fun hc20 => ?_)
      · show W K l _ n0 _ h0 0 0 81 #[.val (.ref t), .val (.int (0 : Int32)), .val (.int (Int32.ofNat y0)), .val (.long (τ 0)), .second, .val (.int (0 : Int32)), .val (.int (1 : Int32))] []
        refine w_aloadN ok d16_81 rfl rfl ?_
        refine w_iloadN ok d16_82 rfl ?_
        refine w_lloadN ok d16_83 rfl ?_
        refine w_iload ok d16_84 rfl ?_
        refine w_callP ok (y := (⟨"com/example/rowan/rowan/store/IdleHeap", "place", "(IJI)V"⟩ : MethodName)) (a := t) (argsL := [(.int (Int32.ofNat y0)), (.long (τ 0)), (.int (0 : Int32))]) (rest := []) d16_86 (hw _ (List.mem_of_getElem? (i := 50) rfl)) (hw _ (List.mem_of_getElem? (i := 51) rfl)) (hw _ (List.mem_of_getElem? (i := 52) rfl)) (hw _ (List.mem_of_getElem? (i := 1) rfl)) (hw _ (List.mem_of_getElem? (i := 2) rfl)) (hw _ (List.mem_of_getElem? (i := 53) rfl)) (by decide) A_t.1 pd_28IJI29V rfl rfl (by decide) (Nat.le_of_ble_eq_true rfl) (by decide) (by decide) (fun z0 => rm_place l Z a0 hw [] n0 h0 z0 t en ti sl (3 : Int32) e g τ A_t A_en A_ti A_sl ge_t ge_en ge_ti ge_sl ne_t_en ne_t_ti ne_t_sl ne_en_ti ne_en_sl ne_ti_sl y0 0 (τ 0) hy0 (by decide)) (fun v21 h22 qv21 => ?_)
        obtain ⟨rfl, K1, A1, A2, A3⟩ := qv21
        replace Kp := Kp.trans K1 (allS (Or.inl (by simp)) (allS (Or.inl (by simp)) (allS (Or.inl (by simp)) all0)))
        replace A_t := A_t.keep K1 (ninS ne_t_en (ninS ne_t_ti (ninS ne_t_sl nin0)))
        replace A_en := A1
        replace A_ti := A2
        replace A_sl := A3
        show W K l _ n0 _ h22 0 0 89 #[.val (.ref t), .val (.int (0 : Int32)), .val (.int (Int32.ofNat y0)), .val (.long (τ 0)), .second, .val (.int (0 : Int32)), .val (.int (1 : Int32))] []
        refine w_ret ok d16_89 (by decide) (by decide) ?_
        refine ⟨rfl, _, _, _, Kp, A_en, A_ti, A_sl, (P.keep (by decide) hy0 ey0), ?_⟩
        rw [own_uidL τ 0 rfl]
        exact own_ho3 hc20 (own_tr64' hc20 hec)
      · show W K l _ n0 _ h0 0 0 46 #[.val (.ref t), .val (.int (0 : Int32)), .val (.int (Int32.ofNat y0)), .val (.long (τ 0)), .second, .val (.int (0 : Int32)), .val (.int (1 : Int32))] []
        refine w_aloadN ok d16_46 rfl rfl ?_
        refine w_aloadN ok d16_47 rfl rfl ?_
        refine w_getfield ok (v := (.ref en)) (host := "") (f := ("com/example/rowan/rowan/store/IdleHeap", "entries", "[I", (.array .int))) 0 d16_48 (Or.inl (hw _ (List.mem_of_getElem? (i := 10) rfl))) Via.refl A_t rfl rfl ?_
        refine w_iload ok d16_51 rfl ?_
        refine w_iaload ok (v := (.int (Int32.ofNat y1))) d16_53 A_en (by decide) (ey1 ▸ own_svg (j := 1) (by decide)) ?_
        refine w_aloadN ok d16_54 rfl rfl ?_
        refine w_getfield ok (v := (.ref ti)) (host := "") (f := ("com/example/rowan/rowan/store/IdleHeap", "times", "[J", (.array .long))) 1 d16_55 (Or.inl (hw _ (List.mem_of_getElem? (i := 13) rfl))) Via.refl A_t rfl rfl ?_
        refine w_iload ok d16_58 rfl ?_
        refine w_laload ok (v := (.long (τ 1))) d16_60 A_ti (by decide) (own_lvg (j := 1) (by decide)) ?_
        refine w_iload ok d16_61 rfl ?_
        refine w_callP ok (y := (⟨"com/example/rowan/rowan/store/IdleHeap", "place", "(IJI)V"⟩ : MethodName)) (a := t) (argsL := [(.int (Int32.ofNat y1)), (.long (τ 1)), (.int (0 : Int32))]) (rest := []) d16_63 (hw _ (List.mem_of_getElem? (i := 50) rfl)) (hw _ (List.mem_of_getElem? (i := 51) rfl)) (hw _ (List.mem_of_getElem? (i := 52) rfl)) (hw _ (List.mem_of_getElem? (i := 1) rfl)) (hw _ (List.mem_of_getElem? (i := 2) rfl)) (hw _ (List.mem_of_getElem? (i := 53) rfl)) (by decide) A_t.1 pd_28IJI29V rfl rfl (by decide) (Nat.le_of_ble_eq_true rfl) (by decide) (by decide) (fun z0 => rm_place l Z a0 hw [] n0 h0 z0 t en ti sl (3 : Int32) e g τ A_t A_en A_ti A_sl ge_t ge_en ge_ti ge_sl ne_t_en ne_t_ti ne_t_sl ne_en_ti ne_en_sl ne_ti_sl y1 0 (τ 1) hy1 (by decide)) (fun v23 h24 qv23 => ?_)
        obtain ⟨rfl, K1, A1, A2, A3⟩ := qv23
        replace Kp := Kp.trans K1 (allS (Or.inl (by simp)) (allS (Or.inl (by simp)) (allS (Or.inl (by simp)) all0)))
        replace A_t := A_t.keep K1 (ninS ne_t_en (ninS ne_t_ti (ninS ne_t_sl nin0)))
        replace A_en := A1
        replace A_ti := A2
        replace A_sl := A3
        show W K l _ n0 _ h24 0 0 66 #[.val (.ref t), .val (.int (0 : Int32)), .val (.int (Int32.ofNat y0)), .val (.long (τ 0)), .second, .val (.int (0 : Int32)), .val (.int (1 : Int32))] []
        refine w_iload ok d16_66 rfl ?_
        refine w_istore ok d16_68 (L' := #[.val (.ref t), .val (.int (0 : Int32)), .val (.int (Int32.ofNat y0)), .val (.long (τ 0)), .second, .val (.int (1 : Int32)), .val (.int (1 : Int32))]) rfl ?_
        refine w_aloadN ok d16_70 rfl rfl ?_
        refine w_iload ok d16_71 rfl ?_
        refine w_callP ok (y := (⟨"com/example/rowan/rowan/store/IdleHeap", "earlierChild", "(I)I"⟩ : MethodName)) (a := t) (argsL := [(.int (1 : Int32))]) (rest := []) d16_73 (hw _ (List.mem_of_getElem? (i := 81) rfl)) (hw _ (List.mem_of_getElem? (i := 82) rfl)) (hw _ (List.mem_of_getElem? (i := 83) rfl)) (hw _ (List.mem_of_getElem? (i := 1) rfl)) (hw _ (List.mem_of_getElem? (i := 2) rfl)) (hw _ (List.mem_of_getElem? (i := 84) rfl)) (by decide) A_t.1 pd_28I29I rfl rfl (by decide) (Nat.le_of_ble_eq_true rfl) (by decide) (by decide) (fun z0 => rm_ec31 l Z a0 hw [] n0 h24 z0 t en ti sl (upd e 0 (Int32.ofNat y1)) (upd g y1 (Int32.ofNat 0)) (updL τ 0 (τ 1)) A_t A_en A_ti A_sl ge_t ge_en ge_ti ge_sl ne_t_en ne_t_ti ne_t_sl ne_en_ti ne_en_sl ne_ti_sl ) (fun v25 h26 qv25 => ?_)
        obtain ⟨rfl, rfl⟩ := qv25
        show W K l _ n0 _ h24 0 0 76 #[.val (.ref t), .val (.int (0 : Int32)), .val (.int (Int32.ofNat y0)), .val (.long (τ 0)), .second, .val (.int (1 : Int32)), .val (.int (1 : Int32))] [(.int (3 : Int32))]
        refine w_istore ok d16_76 (L' := #[.val (.ref t), .val (.int (0 : Int32)), .val (.int (Int32.ofNat y0)), .val (.long (τ 0)), .second, .val (.int (1 : Int32)), .val (.int (3 : Int32))]) rfl ?_
        refine w_goto ok d16_78 (pc' := 25) (by decide) ?_
        refine w_iload ok d16_25 rfl ?_
        refine w_aloadN ok d16_27 rfl rfl ?_
        refine w_getfield ok (v := (.int (3 : Int32))) (host := "") (f := ("com/example/rowan/rowan/store/IdleHeap", "size", "I", .int)) 3 d16_28 (Or.inl (hw _ (List.mem_of_getElem? (i := 48) rfl))) Via.refl A_t rfl rfl ?_
        refine w_icmp_ge ok d16_31 (pc' := 81) (by decide) (fun hc28 => ?_) (fun hc28 => False.elim (by revert hc28; decide))
        show W K l _ n0 _ h24 0 0 81 #[.val (.ref t), .val (.int (0 : Int32)), .val (.int (Int32.ofNat y0)), .val (.long (τ 0)), .second, .val (.int (1 : Int32)), .val (.int (3 : Int32))] []
        refine w_aloadN ok d16_81 rfl rfl ?_
        refine w_iloadN ok d16_82 rfl ?_
        refine w_lloadN ok d16_83 rfl ?_
        refine w_iload ok d16_84 rfl ?_
        refine w_callP ok (y := (⟨"com/example/rowan/rowan/store/IdleHeap", "place", "(IJI)V"⟩ : MethodName)) (a := t) (argsL := [(.int (Int32.ofNat y0)), (.long (τ 0)), (.int (1 : Int32))]) (rest := []) d16_86 (hw _ (List.mem_of_getElem? (i := 50) rfl)) (hw _ (List.mem_of_getElem? (i := 51) rfl)) (hw _ (List.mem_of_getElem? (i := 52) rfl)) (hw _ (List.mem_of_getElem? (i := 1) rfl)) (hw _ (List.mem_of_getElem? (i := 2) rfl)) (hw _ (List.mem_of_getElem? (i := 53) rfl)) (by decide) A_t.1 pd_28IJI29V rfl rfl (by decide) (Nat.le_of_ble_eq_true rfl) (by decide) (by decide) (fun z0 => rm_place l Z a0 hw [] n0 h24 z0 t en ti sl (3 : Int32) (upd e 0 (Int32.ofNat y1)) (upd g y1 (Int32.ofNat 0)) (updL τ 0 (τ 1)) A_t A_en A_ti A_sl ge_t ge_en ge_ti ge_sl ne_t_en ne_t_ti ne_t_sl ne_en_ti ne_en_sl ne_ti_sl y0 1 (τ 0) hy0 (by decide)) (fun v29 h30 qv29 => ?_)
        obtain ⟨rfl, K1, A1, A2, A3⟩ := qv29
        replace Kp := Kp.trans K1 (allS (Or.inl (by simp)) (allS (Or.inl (by simp)) (allS (Or.inl (by simp)) all0)))
        replace A_t := A_t.keep K1 (ninS ne_t_en (ninS ne_t_ti (ninS ne_t_sl nin0)))
        replace A_en := A1
        replace A_ti := A2
        replace A_sl := A3
        show W K l _ n0 _ h30 0 0 89 #[.val (.ref t), .val (.int (0 : Int32)), .val (.int (Int32.ofNat y0)), .val (.long (τ 0)), .second, .val (.int (1 : Int32)), .val (.int (3 : Int32))] []
        refine w_ret ok d16_89 (by decide) (by decide) ?_
        refine ⟨rfl, _, _, _, Kp, A_en, A_ti, A_sl, (P.swap (i := 0) (j := 1) (by decide) (by decide) (by decide) hy0 hy1 ey0 ey1), ?_⟩
        exact own_ho3 (own_lt64 hc20) hec
  · have Kp : Keep h0 h0 [en, ti, sl] := Keep.refl _ _
    obtain ⟨y0, hy0, ey0, -, -⟩ := P.2.1 0 (by decide)
    obtain ⟨y1, hy1, ey1, -, -⟩ := P.2.1 1 (by decide)
    obtain ⟨y2, hy2, ey2, -, -⟩ := P.2.1 2 (by decide)
    show W K l _ n0 _ h0 0 0 0 #[.val (.ref t), .val (.int (1 : Int32)), .unset, .unset, .unset, .unset, .unset] []
    refine w_aloadN ok d16_0 rfl rfl ?_
    refine w_getfield ok (v := (.ref en)) (host := "") (f := ("com/example/rowan/rowan/store/IdleHeap", "entries", "[I", (.array .int))) 0 d16_1 (Or.inl (hw _ (List.mem_of_getElem? (i := 10) rfl))) Via.refl A_t rfl rfl ?_
    refine w_iloadN ok d16_4 rfl ?_
    refine w_iaload ok (v := (.int (Int32.ofNat y1))) d16_5 A_en (by decide) (ey1 ▸ own_svg (j := 1) (by decide)) ?_
    refine w_istoreN ok d16_6 (L' := #[.val (.ref t), .val (.int (1 : Int32)), .val (.int (Int32.ofNat y1)), .unset, .unset, .unset, .unset]) rfl ?_
    refine w_aloadN ok d16_7 rfl rfl ?_
    refine w_getfield ok (v := (.ref ti)) (host := "") (f := ("com/example/rowan/rowan/store/IdleHeap", "times", "[J", (.array .long))) 1 d16_8 (Or.inl (hw _ (List.mem_of_getElem? (i := 13) rfl))) Via.refl A_t rfl rfl ?_
    refine w_iloadN ok d16_11 rfl ?_
    refine w_laload ok (v := (.long (τ 1))) d16_12 A_ti (by decide) (own_lvg (j := 1) (by decide)) ?_
    refine w_lstoreN ok d16_13 (L' := #[.val (.ref t), .val (.int (1 : Int32)), .val (.int (Int32.ofNat y1)), .val (.long (τ 1)), .second, .unset, .unset]) rfl ?_
    refine w_iloadN ok d16_14 rfl ?_
    refine w_istore ok d16_15 (L' := #[.val (.ref t), .val (.int (1 : Int32)), .val (.int (Int32.ofNat y1)), .val (.long (τ 1)), .second, .val (.int (1 : Int32)), .unset]) rfl ?_
    refine w_aloadN ok d16_17 rfl rfl ?_
    refine w_iload ok d16_18 rfl ?_
    refine w_callP ok (y := (⟨"com/example/rowan/rowan/store/IdleHeap", "earlierChild", "(I)I"⟩ : MethodName)) (a := t) (argsL := [(.int (1 : Int32))]) (rest := []) d16_20 (hw _ (List.mem_of_getElem? (i := 81) rfl)) (hw _ (List.mem_of_getElem? (i := 82) rfl)) (hw _ (List.mem_of_getElem? (i := 83) rfl)) (hw _ (List.mem_of_getElem? (i := 1) rfl)) (hw _ (List.mem_of_getElem? (i := 2) rfl)) (hw _ (List.mem_of_getElem? (i := 84) rfl)) (by decide) A_t.1 pd_28I29I rfl rfl (by decide) (Nat.le_of_ble_eq_true rfl) (by decide) (by decide) (fun z0 => rm_ec31 l Z a0 hw [] n0 h0 z0 t en ti sl e g τ A_t A_en A_ti A_sl ge_t ge_en ge_ti ge_sl ne_t_en ne_t_ti ne_t_sl ne_en_ti ne_en_sl ne_ti_sl ) (fun v1 h2 qv1 => ?_)
    obtain ⟨rfl, rfl⟩ := qv1
    show W K l _ n0 _ h0 0 0 23 #[.val (.ref t), .val (.int (1 : Int32)), .val (.int (Int32.ofNat y1)), .val (.long (τ 1)), .second, .val (.int (1 : Int32)), .unset] [(.int (3 : Int32))]
    refine w_istore ok d16_23 (L' := #[.val (.ref t), .val (.int (1 : Int32)), .val (.int (Int32.ofNat y1)), .val (.long (τ 1)), .second, .val (.int (1 : Int32)), .val (.int (3 : Int32))]) rfl ?_
    refine w_iload ok d16_25 rfl ?_
    refine w_aloadN ok d16_27 rfl rfl ?_
    refine w_getfield ok (v := (.int (3 : Int32))) (host := "") (f := ("com/example/rowan/rowan/store/IdleHeap", "size", "I", .int)) 3 d16_28 (Or.inl (hw _ (List.mem_of_getElem? (i := 48) rfl))) Via.refl A_t rfl rfl ?_
    refine w_icmp_ge ok d16_31 (pc' := 81) (by decide) (fun hc4 => ?_) (fun hc4 => False.elim (by revert hc4; decide))
    show W K l _ n0 _ h0 0 0 81 #[.val (.ref t), .val (.int (1 : Int32)), .val (.int (Int32.ofNat y1)), .val (.long (τ 1)), .second, .val (.int (1 : Int32)), .val (.int (3 : Int32))] []
    refine w_aloadN ok d16_81 rfl rfl ?_
    refine w_iloadN ok d16_82 rfl ?_
    refine w_lloadN ok d16_83 rfl ?_
    refine w_iload ok d16_84 rfl ?_
    refine w_callP ok (y := (⟨"com/example/rowan/rowan/store/IdleHeap", "place", "(IJI)V"⟩ : MethodName)) (a := t) (argsL := [(.int (Int32.ofNat y1)), (.long (τ 1)), (.int (1 : Int32))]) (rest := []) d16_86 (hw _ (List.mem_of_getElem? (i := 50) rfl)) (hw _ (List.mem_of_getElem? (i := 51) rfl)) (hw _ (List.mem_of_getElem? (i := 52) rfl)) (hw _ (List.mem_of_getElem? (i := 1) rfl)) (hw _ (List.mem_of_getElem? (i := 2) rfl)) (hw _ (List.mem_of_getElem? (i := 53) rfl)) (by decide) A_t.1 pd_28IJI29V rfl rfl (by decide) (Nat.le_of_ble_eq_true rfl) (by decide) (by decide) (fun z0 => rm_place l Z a0 hw [] n0 h0 z0 t en ti sl (3 : Int32) e g τ A_t A_en A_ti A_sl ge_t ge_en ge_ti ge_sl ne_t_en ne_t_ti ne_t_sl ne_en_ti ne_en_sl ne_ti_sl y1 1 (τ 1) hy1 (by decide)) (fun v5 h6 qv5 => ?_)
    obtain ⟨rfl, K1, A1, A2, A3⟩ := qv5
    replace Kp := Kp.trans K1 (allS (Or.inl (by simp)) (allS (Or.inl (by simp)) (allS (Or.inl (by simp)) all0)))
    replace A_t := A_t.keep K1 (ninS ne_t_en (ninS ne_t_ti (ninS ne_t_sl nin0)))
    replace A_en := A1
    replace A_ti := A2
    replace A_sl := A3
    show W K l _ n0 _ h6 0 0 89 #[.val (.ref t), .val (.int (1 : Int32)), .val (.int (Int32.ofNat y1)), .val (.long (τ 1)), .second, .val (.int (1 : Int32)), .val (.int (3 : Int32))] []
    refine w_ret ok d16_89 (by decide) (by decide) ?_
    refine ⟨rfl, _, _, _, Kp, A_en, A_ti, A_sl, (P.keep (by decide) hy1 ey1), ?_⟩
    rw [own_uidL τ 1 rfl]
    exact hD (by decide)
  · have Kp : Keep h0 h0 [en, ti, sl] := Keep.refl _ _
    obtain ⟨y0, hy0, ey0, -, -⟩ := P.2.1 0 (by decide)
    obtain ⟨y1, hy1, ey1, -, -⟩ := P.2.1 1 (by decide)
    obtain ⟨y2, hy2, ey2, -, -⟩ := P.2.1 2 (by decide)
    show W K l _ n0 _ h0 0 0 0 #[.val (.ref t), .val (.int (2 : Int32)), .unset, .unset, .unset, .unset, .unset] []
    refine w_aloadN ok d16_0 rfl rfl ?_
    refine w_getfield ok (v := (.ref en)) (host := "") (f := ("com/example/rowan/rowan/store/IdleHeap", "entries", "[I", (.array .int))) 0 d16_1 (Or.inl (hw _ (List.mem_of_getElem? (i := 10) rfl))) Via.refl A_t rfl rfl ?_
    refine w_iloadN ok d16_4 rfl ?_
    refine w_iaload ok (v := (.int (Int32.ofNat y2))) d16_5 A_en (by decide) (ey2 ▸ own_svg (j := 2) (by decide)) ?_
    refine w_istoreN ok d16_6 (L' := #[.val (.ref t), .val (.int (2 : Int32)), .val (.int (Int32.ofNat y2)), .unset, .unset, .unset, .unset]) rfl ?_
    refine w_aloadN ok d16_7 rfl rfl ?_
    refine w_getfield ok (v := (.ref ti)) (host := "") (f := ("com/example/rowan/rowan/store/IdleHeap", "times", "[J", (.array .long))) 1 d16_8 (Or.inl (hw _ (List.mem_of_getElem? (i := 13) rfl))) Via.refl A_t rfl rfl ?_
    refine w_iloadN ok d16_11 rfl ?_
    refine w_laload ok (v := (.long (τ 2))) d16_12 A_ti (by decide) (own_lvg (j := 2) (by decide)) ?_
    refine w_lstoreN ok d16_13 (L' := #[.val (.ref t), .val (.int (2 : Int32)), .val (.int (Int32.ofNat y2)), .val (.long (τ 2)), .second, .unset, .unset]) rfl ?_
    refine w_iloadN ok d16_14 rfl ?_
    refine w_istore ok d16_15 (L' := #[.val (.ref t), .val (.int (2 : Int32)), .val (.int (Int32.ofNat y2)), .val (.long (τ 2)), .second, .val (.int (2 : Int32)), .unset]) rfl ?_
    refine w_aloadN ok d16_17 rfl rfl ?_
    refine w_iload ok d16_18 rfl ?_
    refine w_callP ok (y := (⟨"com/example/rowan/rowan/store/IdleHeap", "earlierChild", "(I)I"⟩ : MethodName)) (a := t) (argsL := [(.int (2 : Int32))]) (rest := []) d16_20 (hw _ (List.mem_of_getElem? (i := 81) rfl)) (hw _ (List.mem_of_getElem? (i := 82) rfl)) (hw _ (List.mem_of_getElem? (i := 83) rfl)) (hw _ (List.mem_of_getElem? (i := 1) rfl)) (hw _ (List.mem_of_getElem? (i := 2) rfl)) (hw _ (List.mem_of_getElem? (i := 84) rfl)) (by decide) A_t.1 pd_28I29I rfl rfl (by decide) (Nat.le_of_ble_eq_true rfl) (by decide) (by decide) (fun z0 => rm_ec32 l Z a0 hw [] n0 h0 z0 t en ti sl e g τ A_t A_en A_ti A_sl ge_t ge_en ge_ti ge_sl ne_t_en ne_t_ti ne_t_sl ne_en_ti ne_en_sl ne_ti_sl ) (fun v1 h2 qv1 => ?_)
    obtain ⟨rfl, rfl⟩ := qv1
    show W K l _ n0 _ h0 0 0 23 #[.val (.ref t), .val (.int (2 : Int32)), .val (.int (Int32.ofNat y2)), .val (.long (τ 2)), .second, .val (.int (2 : Int32)), .unset] [(.int (5 : Int32))]
    refine w_istore ok d16_23 (L' := #[.val (.ref t), .val (.int (2 : Int32)), .val (.int (Int32.ofNat y2)), .val (.long (τ 2)), .second, .val (.int (2 : Int32)), .val (.int (5 : Int32))]) rfl ?_
    refine w_iload ok d16_25 rfl ?_
    refine w_aloadN ok d16_27 rfl rfl ?_
    refine w_getfield ok (v := (.int (3 : Int32))) (host := "") (f := ("com/example/rowan/rowan/store/IdleHeap", "size", "I", .int)) 3 d16_28 (Or.inl (hw _ (List.mem_of_getElem? (i := 48) rfl))) Via.refl A_t rfl rfl ?_
    refine w_icmp_ge ok d16_31 (pc' := 81) (by decide) (fun hc4 => ?_) (fun hc4 => False.elim (by revert hc4; decide))
    show W K l _ n0 _ h0 0 0 81 #[.val (.ref t), .val (.int (2 : Int32)), .val (.int (Int32.ofNat y2)), .val (.long (τ 2)), .second, .val (.int (2 : Int32)), .val (.int (5 : Int32))] []
    refine w_aloadN ok d16_81 rfl rfl ?_
    refine w_iloadN ok d16_82 rfl ?_
    refine w_lloadN ok d16_83 rfl ?_
    refine w_iload ok d16_84 rfl ?_
    refine w_callP ok (y := (⟨"com/example/rowan/rowan/store/IdleHeap", "place", "(IJI)V"⟩ : MethodName)) (a := t) (argsL := [(.int (Int32.ofNat y2)), (.long (τ 2)), (.int (2 : Int32))]) (rest := []) d16_86 (hw _ (List.mem_of_getElem? (i := 50) rfl)) (hw _ (List.mem_of_getElem? (i := 51) rfl)) (hw _ (List.mem_of_getElem? (i := 52) rfl)) (hw _ (List.mem_of_getElem? (i := 1) rfl)) (hw _ (List.mem_of_getElem? (i := 2) rfl)) (hw _ (List.mem_of_getElem? (i := 53) rfl)) (by decide) A_t.1 pd_28IJI29V rfl rfl (by decide) (Nat.le_of_ble_eq_true rfl) (by decide) (by decide) (fun z0 => rm_place l Z a0 hw [] n0 h0 z0 t en ti sl (3 : Int32) e g τ A_t A_en A_ti A_sl ge_t ge_en ge_ti ge_sl ne_t_en ne_t_ti ne_t_sl ne_en_ti ne_en_sl ne_ti_sl y2 2 (τ 2) hy2 (by decide)) (fun v5 h6 qv5 => ?_)
    obtain ⟨rfl, K1, A1, A2, A3⟩ := qv5
    replace Kp := Kp.trans K1 (allS (Or.inl (by simp)) (allS (Or.inl (by simp)) (allS (Or.inl (by simp)) all0)))
    replace A_t := A_t.keep K1 (ninS ne_t_en (ninS ne_t_ti (ninS ne_t_sl nin0)))
    replace A_en := A1
    replace A_ti := A2
    replace A_sl := A3
    show W K l _ n0 _ h6 0 0 89 #[.val (.ref t), .val (.int (2 : Int32)), .val (.int (Int32.ofNat y2)), .val (.long (τ 2)), .second, .val (.int (2 : Int32)), .val (.int (5 : Int32))] []
    refine w_ret ok d16_89 (by decide) (by decide) ?_
    refine ⟨rfl, _, _, _, Kp, A_en, A_ti, A_sl, (P.keep (by decide) hy2 ey2), ?_⟩
    rw [own_uidL τ 2 rfl]
    exact hD (by decide)
theorem d9_0 : decode prog_26_method_5_code 0 = .ok (.aload_n 0, 1) := by decide +kernel
theorem d9_1 : decode prog_26_method_5_code 1 = .ok (.iload_n 1, 1) := by decide +kernel
theorem d9_2 : decode prog_26_method_5_code 2 = .ok (.lload_n 2, 1) := by decide +kernel
theorem d9_3 : decode prog_26_method_5_code 3 = .ok (.aload_n 0, 1) := by decide +kernel
theorem d9_4 : decode prog_26_method_5_code 4 = .ok (.getfield 33, 3) := by decide +kernel
theorem d9_7 : decode prog_26_method_5_code 7 = .ok (.invokevirtual 37, 3) := by decide +kernel
theorem d9_10 : decode prog_26_method_5_code 10 = .ok (.aload_n 0, 1) := by decide +kernel
theorem d9_11 : decode prog_26_method_5_code 11 = .ok (.dup, 1) := by decide +kernel
theorem d9_12 : decode prog_26_method_5_code 12 = .ok (.getfield 33, 3) := by decide +kernel
theorem d9_15 : decode prog_26_method_5_code 15 = .ok (.iconst 1, 1) := by decide +kernel
theorem d9_16 : decode prog_26_method_5_code 16 = .ok (.iadd, 1) := by decide +kernel
theorem d9_17 : decode prog_26_method_5_code 17 = .ok (.putfield 33, 3) := by decide +kernel
theorem d9_20 : decode prog_26_method_5_code 20 = .ok (.aload_n 0, 1) := by decide +kernel
theorem d9_21 : decode prog_26_method_5_code 21 = .ok (.aload_n 0, 1) := by decide +kernel
theorem d9_22 : decode prog_26_method_5_code 22 = .ok (.getfield 33, 3) := by decide +kernel
theorem d9_25 : decode prog_26_method_5_code 25 = .ok (.iconst 1, 1) := by decide +kernel
theorem d9_26 : decode prog_26_method_5_code 26 = .ok (.isub, 1) := by decide +kernel
theorem d9_27 : decode prog_26_method_5_code 27 = .ok (.invokevirtual 41, 3) := by decide +kernel
theorem d9_30 : decode prog_26_method_5_code 30 = .ok (.return_, 1) := by decide +kernel
theorem pd_28I29V : parseMethodDescriptor "(I)V" = some ⟨[.int], none⟩ := by decide +kernel
set_option maxRecDepth 65536 in
set_option maxHeartbeats 40000000 in
theorem rm_add (l : Launch) (Z : State) (a0 : Array Value) (hw : ∀ d ∈ tables_1, d.before a0 Z = true) (ws : List Jvm.Cond) (n0 : Nat) (h0 : Heap) (Z0 : Old Z n0 h0) (t en ti sl : Addr) (sz : Nat) (e g : Nat → Int32) (τ : Nat → Int64) (A_t : Ob Z h0 t "com/example/rowan/rowan/store/IdleHeap" fl_IdleHeap [.ref en, .ref ti, .ref sl, .int (Int32.ofNat sz)]) (A_en : PA .int Z h0 en (sv 4 e)) (A_ti : PA .long Z h0 ti (lv 4 τ)) (A_sl : PA .int Z h0 sl (sv 4 g)) (ge_t : n0 ≤ t) (ge_en : n0 ≤ en) (ge_ti : n0 ≤ ti) (ge_sl : n0 ≤ sl) (ne_t_en : t ≠ en) (ne_t_ti : t ≠ ti) (ne_t_sl : t ≠ sl) (ne_en_ti : en ≠ ti) (ne_en_sl : en ≠ sl) (ne_ti_sl : ti ≠ sl) (M : Nat → Option Int64) (P : PP sz e τ g M) (H : HO sz τ) (y : Nat) (v : Int64) (hy : y < 4) (hM : M y = none) (hs : sz < 3) :
    Met l Z n0 (⟨"com/example/rowan/rowan/store/IdleHeap", "add", "(IJ)V"⟩ : MethodName) prog_26_method_5_code 4 none ws ({ frames := 2, cells := 0, slots := 0, locals := 34 } : Room) #[(.ref t), (.int (Int32.ofNat y)), (.long v)] h0 (fun u h => u = none ∧ ∃ e' g' τ', Keep h0 h [t, en, ti, sl] ∧ Ob Z h t "com/example/rowan/rowan/store/IdleHeap" fl_IdleHeap [.ref en, .ref ti, .ref sl, .int (Int32.ofNat (sz + 1))] ∧ PA .int Z h en (sv 4 e') ∧ PA .long Z h ti (lv 4 τ') ∧ PA .int Z h sl (sv 4 g') ∧ PP (sz + 1) e' τ' g' (put M y (some v)) ∧ HO (sz + 1) τ' ∧ (¬ v < τ 0 → 0 < sz → e' 0 = e 0)) := by
  refine met_of Z0 (plainFor_of_name pn_com_example_rowan_rowan_store_IdleHeap) (Ls := #[.val (.ref t), .val (.int (Int32.ofNat y)), .val (.long v), .second]) (fun m => by first | (simp [entryFrame, mkF, argsToLocals, Value.category]; done) | rfl) ?_
  intro K ok
  obtain rfl | rfl | rfl : sz = 0 ∨ sz = 1 ∨ sz = 2 := by omega
  · have Kp : Keep h0 h0 [t, en, ti, sl] := Keep.refl _ _
    show W K l _ n0 _ h0 0 0 0 #[.val (.ref t), .val (.int (Int32.ofNat y)), .val (.long v), .second] []
    refine w_aloadN ok d9_0 rfl rfl ?_
    refine w_iloadN ok d9_1 rfl ?_
    refine w_lloadN ok d9_2 rfl ?_
    refine w_aloadN ok d9_3 rfl rfl ?_
    refine w_getfield ok (v := (.int (0 : Int32))) (host := "") (f := ("com/example/rowan/rowan/store/IdleHeap", "size", "I", .int)) 3 d9_4 (Or.inl (hw _ (List.mem_of_getElem? (i := 48) rfl))) Via.refl A_t rfl rfl ?_
    refine w_callP ok (y := (⟨"com/example/rowan/rowan/store/IdleHeap", "place", "(IJI)V"⟩ : MethodName)) (a := t) (argsL := [(.int (Int32.ofNat y)), (.long v), (.int (0 : Int32))]) (rest := []) d9_7 (hw _ (List.mem_of_getElem? (i := 50) rfl)) (hw _ (List.mem_of_getElem? (i := 51) rfl)) (hw _ (List.mem_of_getElem? (i := 52) rfl)) (hw _ (List.mem_of_getElem? (i := 1) rfl)) (hw _ (List.mem_of_getElem? (i := 2) rfl)) (hw _ (List.mem_of_getElem? (i := 53) rfl)) (by decide) A_t.1 pd_28IJI29V rfl rfl (by decide) (Nat.le_of_ble_eq_true rfl) (by decide) (by decide) (fun z0 => rm_place l Z a0 hw [] n0 h0 z0 t en ti sl (0 : Int32) e g τ A_t A_en A_ti A_sl ge_t ge_en ge_ti ge_sl ne_t_en ne_t_ti ne_t_sl ne_en_ti ne_en_sl ne_ti_sl y 0 v hy (by decide)) (fun v1 h2 qv1 => ?_)
    obtain ⟨rfl, K1, A1, A2, A3⟩ := qv1
    replace Kp := Kp.trans K1 (allS (Or.inl (by simp)) (allS (Or.inl (by simp)) (allS (Or.inl (by simp)) all0)))
    replace A_t := A_t.keep K1 (ninS ne_t_en (ninS ne_t_ti (ninS ne_t_sl nin0)))
    replace A_en := A1
    replace A_ti := A2
    replace A_sl := A3
    show W K l _ n0 _ h2 0 0 10 #[.val (.ref t), .val (.int (Int32.ofNat y)), .val (.long v), .second] []
    refine w_aloadN ok d9_10 rfl rfl ?_
    refine w_dup ok d9_11 rfl ?_
    refine w_getfield ok (v := (.int (0 : Int32))) (host := "") (f := ("com/example/rowan/rowan/store/IdleHeap", "size", "I", .int)) 3 d9_12 (Or.inl (hw _ (List.mem_of_getElem? (i := 48) rfl))) Via.refl A_t rfl rfl ?_
    refine w_iconst ok d9_15 (v := (1 : Int32)) rfl ?_
    refine w_iadd ok d9_16 ?_
    show W K l _ n0 _ h2 0 0 17 #[.val (.ref t), .val (.int (Int32.ofNat y)), .val (.long v), .second] [(.int (1 : Int32)), (.ref t)]
    refine w_putfield ok (host := "") (f := ("com/example/rowan/rowan/store/IdleHeap", "size", "I", .int)) 3 d9_17 (Or.inl (hw _ (List.mem_of_getElem? (i := 48) rfl))) Via.refl A_t (la_IdleHeap hw) rfl rfl (Or.inl (hw _ (List.mem_of_getElem? (i := 49) rfl))) (hw _ (List.mem_of_getElem? (i := 1) rfl)) rfl rfl ge_t (fun h3 W_h3 A1_h3 => ?_)
    replace Kp := Kp.wr W_h3 (Or.inl (by simp))
    replace A_en := A_en.other W_h3 (Ne.symm ne_t_en)
    replace A_ti := A_ti.other W_h3 (Ne.symm ne_t_ti)
    replace A_sl := A_sl.other W_h3 (Ne.symm ne_t_sl)
    replace A_t : Ob Z h3 t "com/example/rowan/rowan/store/IdleHeap" fl_IdleHeap [(.ref en), (.ref ti), (.ref sl), (.int (1 : Int32))] := A1_h3
    refine w_aloadN ok d9_20 rfl rfl ?_
    refine w_aloadN ok d9_21 rfl rfl ?_
    refine w_getfield ok (v := (.int (1 : Int32))) (host := "") (f := ("com/example/rowan/rowan/store/IdleHeap", "size", "I", .int)) 3 d9_22 (Or.inl (hw _ (List.mem_of_getElem? (i := 48) rfl))) Via.refl A_t rfl rfl ?_
    refine w_iconst ok d9_25 (v := (1 : Int32)) rfl ?_
    refine w_isub ok d9_26 ?_
    show W K l _ n0 _ h3 0 0 27 #[.val (.ref t), .val (.int (Int32.ofNat y)), .val (.long v), .second] [(.int (0 : Int32)), (.ref t)]
    refine w_callP ok (y := (⟨"com/example/rowan/rowan/store/IdleHeap", "siftUp", "(I)V"⟩ : MethodName)) (a := t) (argsL := [(.int (0 : Int32))]) (rest := []) d9_27 (hw _ (List.mem_of_getElem? (i := 54) rfl)) (hw _ (List.mem_of_getElem? (i := 55) rfl)) (hw _ (List.mem_of_getElem? (i := 56) rfl)) (hw _ (List.mem_of_getElem? (i := 1) rfl)) (hw _ (List.mem_of_getElem? (i := 2) rfl)) (hw _ (List.mem_of_getElem? (i := 57) rfl)) (by decide) A_t.1 pd_28I29V rfl rfl (by decide) (Nat.le_of_ble_eq_true rfl) (by decide) (by decide) (fun z0 => rm_up l Z a0 hw [] n0 h3 z0 t en ti sl 1 (upd e 0 (Int32.ofNat y)) (upd g y (Int32.ofNat 0)) (updL τ 0 v) A_t A_en A_ti A_sl ge_t ge_en ge_ti ge_sl ne_t_en ne_t_ti ne_t_sl ne_en_ti ne_en_sl ne_ti_sl 0 (put M y (some v)) (P.push (by decide) hy hM v) (by decide) (own_hoA H)) (fun v4 h5 qv4 => ?_)
    obtain ⟨rfl, e1, g1, τ1, K1, A1, A2, A3, P1, H1, E1⟩ := qv4
    replace Kp := Kp.trans K1 (allS (Or.inl (by simp)) (allS (Or.inl (by simp)) (allS (Or.inl (by simp)) all0)))
    replace A_t := A_t.keep K1 (ninS ne_t_en (ninS ne_t_ti (ninS ne_t_sl nin0)))
    replace A_en := A1
    replace A_ti := A2
    replace A_sl := A3
    show W K l _ n0 _ h5 0 0 30 #[.val (.ref t), .val (.int (Int32.ofNat y)), .val (.long v), .second] []
    refine w_ret ok d9_30 (by decide) (by decide) ?_
    exact ⟨rfl, _, _, _, Kp, A_t, A_en, A_ti, A_sl, P1, H1, fun _ q => absurd q (by decide)⟩
  · have Kp : Keep h0 h0 [t, en, ti, sl] := Keep.refl _ _
    show W K l _ n0 _ h0 0 0 0 #[.val (.ref t), .val (.int (Int32.ofNat y)), .val (.long v), .second] []
    refine w_aloadN ok d9_0 rfl rfl ?_
    refine w_iloadN ok d9_1 rfl ?_
    refine w_lloadN ok d9_2 rfl ?_
    refine w_aloadN ok d9_3 rfl rfl ?_
    refine w_getfield ok (v := (.int (1 : Int32))) (host := "") (f := ("com/example/rowan/rowan/store/IdleHeap", "size", "I", .int)) 3 d9_4 (Or.inl (hw _ (List.mem_of_getElem? (i := 48) rfl))) Via.refl A_t rfl rfl ?_
    refine w_callP ok (y := (⟨"com/example/rowan/rowan/store/IdleHeap", "place", "(IJI)V"⟩ : MethodName)) (a := t) (argsL := [(.int (Int32.ofNat y)), (.long v), (.int (1 : Int32))]) (rest := []) d9_7 (hw _ (List.mem_of_getElem? (i := 50) rfl)) (hw _ (List.mem_of_getElem? (i := 51) rfl)) (hw _ (List.mem_of_getElem? (i := 52) rfl)) (hw _ (List.mem_of_getElem? (i := 1) rfl)) (hw _ (List.mem_of_getElem? (i := 2) rfl)) (hw _ (List.mem_of_getElem? (i := 53) rfl)) (by decide) A_t.1 pd_28IJI29V rfl rfl (by decide) (Nat.le_of_ble_eq_true rfl) (by decide) (by decide) (fun z0 => rm_place l Z a0 hw [] n0 h0 z0 t en ti sl (1 : Int32) e g τ A_t A_en A_ti A_sl ge_t ge_en ge_ti ge_sl ne_t_en ne_t_ti ne_t_sl ne_en_ti ne_en_sl ne_ti_sl y 1 v hy (by decide)) (fun v1 h2 qv1 => ?_)
    obtain ⟨rfl, K1, A1, A2, A3⟩ := qv1
    replace Kp := Kp.trans K1 (allS (Or.inl (by simp)) (allS (Or.inl (by simp)) (allS (Or.inl (by simp)) all0)))
    replace A_t := A_t.keep K1 (ninS ne_t_en (ninS ne_t_ti (ninS ne_t_sl nin0)))
    replace A_en := A1
    replace A_ti := A2
    replace A_sl := A3
    show W K l _ n0 _ h2 0 0 10 #[.val (.ref t), .val (.int (Int32.ofNat y)), .val (.long v), .second] []
    refine w_aloadN ok d9_10 rfl rfl ?_
    refine w_dup ok d9_11 rfl ?_
    refine w_getfield ok (v := (.int (1 : Int32))) (host := "") (f := ("com/example/rowan/rowan/store/IdleHeap", "size", "I", .int)) 3 d9_12 (Or.inl (hw _ (List.mem_of_getElem? (i := 48) rfl))) Via.refl A_t rfl rfl ?_
    refine w_iconst ok d9_15 (v := (1 : Int32)) rfl ?_
    refine w_iadd ok d9_16 ?_
    show W K l _ n0 _ h2 0 0 17 #[.val (.ref t), .val (.int (Int32.ofNat y)), .val (.long v), .second] [(.int (2 : Int32)), (.ref t)]
    refine w_putfield ok (host := "") (f := ("com/example/rowan/rowan/store/IdleHeap", "size", "I", .int)) 3 d9_17 (Or.inl (hw _ (List.mem_of_getElem? (i := 48) rfl))) Via.refl A_t (la_IdleHeap hw) rfl rfl (Or.inl (hw _ (List.mem_of_getElem? (i := 49) rfl))) (hw _ (List.mem_of_getElem? (i := 1) rfl)) rfl rfl ge_t (fun h3 W_h3 A1_h3 => ?_)
    replace Kp := Kp.wr W_h3 (Or.inl (by simp))
    replace A_en := A_en.other W_h3 (Ne.symm ne_t_en)
    replace A_ti := A_ti.other W_h3 (Ne.symm ne_t_ti)
    replace A_sl := A_sl.other W_h3 (Ne.symm ne_t_sl)
    replace A_t : Ob Z h3 t "com/example/rowan/rowan/store/IdleHeap" fl_IdleHeap [(.ref en), (.ref ti), (.ref sl), (.int (2 : Int32))] := A1_h3
    refine w_aloadN ok d9_20 rfl rfl ?_
    refine w_aloadN ok d9_21 rfl rfl ?_
    refine w_getfield ok (v := (.int (2 : Int32))) (host := "") (f := ("com/example/rowan/rowan/store/IdleHeap", "size", "I", .int)) 3 d9_22 (Or.inl (hw _ (List.mem_of_getElem? (i := 48) rfl))) Via.refl A_t rfl rfl ?_
    refine w_iconst ok d9_25 (v := (1 : Int32)) rfl ?_
    refine w_isub ok d9_26 ?_
    show W K l _ n0 _ h3 0 0 27 #[.val (.ref t), .val (.int (Int32.ofNat y)), .val (.long v), .second] [(.int (1 : Int32)), (.ref t)]
    refine w_callP ok (y := (⟨"com/example/rowan/rowan/store/IdleHeap", "siftUp", "(I)V"⟩ : MethodName)) (a := t) (argsL := [(.int (1 : Int32))]) (rest := []) d9_27 (hw _ (List.mem_of_getElem? (i := 54) rfl)) (hw _ (List.mem_of_getElem? (i := 55) rfl)) (hw _ (List.mem_of_getElem? (i := 56) rfl)) (hw _ (List.mem_of_getElem? (i := 1) rfl)) (hw _ (List.mem_of_getElem? (i := 2) rfl)) (hw _ (List.mem_of_getElem? (i := 57) rfl)) (by decide) A_t.1 pd_28I29V rfl rfl (by decide) (Nat.le_of_ble_eq_true rfl) (by decide) (by decide) (fun z0 => rm_up l Z a0 hw [] n0 h3 z0 t en ti sl 2 (upd e 1 (Int32.ofNat y)) (upd g y (Int32.ofNat 1)) (updL τ 1 v) A_t A_en A_ti A_sl ge_t ge_en ge_ti ge_sl ne_t_en ne_t_ti ne_t_sl ne_en_ti ne_en_sl ne_ti_sl 1 (put M y (some v)) (P.push (by decide) hy hM v) (by decide) (own_hoA H)) (fun v4 h5 qv4 => ?_)
    obtain ⟨rfl, e1, g1, τ1, K1, A1, A2, A3, P1, H1, E1⟩ := qv4
    replace Kp := Kp.trans K1 (allS (Or.inl (by simp)) (allS (Or.inl (by simp)) (allS (Or.inl (by simp)) all0)))
    replace A_t := A_t.keep K1 (ninS ne_t_en (ninS ne_t_ti (ninS ne_t_sl nin0)))
    replace A_en := A1
    replace A_ti := A2
    replace A_sl := A3
    show W K l _ n0 _ h5 0 0 30 #[.val (.ref t), .val (.int (Int32.ofNat y)), .val (.long v), .second] []
    refine w_ret ok d9_30 (by decide) (by decide) ?_
    exact ⟨rfl, _, _, _, Kp, A_t, A_en, A_ti, A_sl, P1, H1, fun q _ => E1 q⟩
  · have Kp : Keep h0 h0 [t, en, ti, sl] := Keep.refl _ _
    show W K l _ n0 _ h0 0 0 0 #[.val (.ref t), .val (.int (Int32.ofNat y)), .val (.long v), .second] []
    refine w_aloadN ok d9_0 rfl rfl ?_
    refine w_iloadN ok d9_1 rfl ?_
    refine w_lloadN ok d9_2 rfl ?_
    refine w_aloadN ok d9_3 rfl rfl ?_
    refine w_getfield ok (v := (.int (2 : Int32))) (host := "") (f := ("com/example/rowan/rowan/store/IdleHeap", "size", "I", .int)) 3 d9_4 (Or.inl (hw _ (List.mem_of_getElem? (i := 48) rfl))) Via.refl A_t rfl rfl ?_
    refine w_callP ok (y := (⟨"com/example/rowan/rowan/store/IdleHeap", "place", "(IJI)V"⟩ : MethodName)) (a := t) (argsL := [(.int (Int32.ofNat y)), (.long v), (.int (2 : Int32))]) (rest := []) d9_7 (hw _ (List.mem_of_getElem? (i := 50) rfl)) (hw _ (List.mem_of_getElem? (i := 51) rfl)) (hw _ (List.mem_of_getElem? (i := 52) rfl)) (hw _ (List.mem_of_getElem? (i := 1) rfl)) (hw _ (List.mem_of_getElem? (i := 2) rfl)) (hw _ (List.mem_of_getElem? (i := 53) rfl)) (by decide) A_t.1 pd_28IJI29V rfl rfl (by decide) (Nat.le_of_ble_eq_true rfl) (by decide) (by decide) (fun z0 => rm_place l Z a0 hw [] n0 h0 z0 t en ti sl (2 : Int32) e g τ A_t A_en A_ti A_sl ge_t ge_en ge_ti ge_sl ne_t_en ne_t_ti ne_t_sl ne_en_ti ne_en_sl ne_ti_sl y 2 v hy (by decide)) (fun v1 h2 qv1 => ?_)
    obtain ⟨rfl, K1, A1, A2, A3⟩ := qv1
    replace Kp := Kp.trans K1 (allS (Or.inl (by simp)) (allS (Or.inl (by simp)) (allS (Or.inl (by simp)) all0)))
    replace A_t := A_t.keep K1 (ninS ne_t_en (ninS ne_t_ti (ninS ne_t_sl nin0)))
    replace A_en := A1
    replace A_ti := A2
    replace A_sl := A3
    show W K l _ n0 _ h2 0 0 10 #[.val (.ref t), .val (.int (Int32.ofNat y)), .val (.long v), .second] []
    refine w_aloadN ok d9_10 rfl rfl ?_
    refine w_dup ok d9_11 rfl ?_
    refine w_getfield ok (v := (.int (2 : Int32))) (host := "") (f := ("com/example/rowan/rowan/store/IdleHeap", "size", "I", .int)) 3 d9_12 (Or.inl (hw _ (List.mem_of_getElem? (i := 48) rfl))) Via.refl A_t rfl rfl ?_
    refine w_iconst ok d9_15 (v := (1 : Int32)) rfl ?_
    refine w_iadd ok d9_16 ?_
    show W K l _ n0 _ h2 0 0 17 #[.val (.ref t), .val (.int (Int32.ofNat y)), .val (.long v), .second] [(.int (3 : Int32)), (.ref t)]
    refine w_putfield ok (host := "") (f := ("com/example/rowan/rowan/store/IdleHeap", "size", "I", .int)) 3 d9_17 (Or.inl (hw _ (List.mem_of_getElem? (i := 48) rfl))) Via.refl A_t (la_IdleHeap hw) rfl rfl (Or.inl (hw _ (List.mem_of_getElem? (i := 49) rfl))) (hw _ (List.mem_of_getElem? (i := 1) rfl)) rfl rfl ge_t (fun h3 W_h3 A1_h3 => ?_)
    replace Kp := Kp.wr W_h3 (Or.inl (by simp))
    replace A_en := A_en.other W_h3 (Ne.symm ne_t_en)
    replace A_ti := A_ti.other W_h3 (Ne.symm ne_t_ti)
    replace A_sl := A_sl.other W_h3 (Ne.symm ne_t_sl)
    replace A_t : Ob Z h3 t "com/example/rowan/rowan/store/IdleHeap" fl_IdleHeap [(.ref en), (.ref ti), (.ref sl), (.int (3 : Int32))] := A1_h3
    refine w_aloadN ok d9_20 rfl rfl ?_
    refine w_aloadN ok d9_21 rfl rfl ?_
    refine w_getfield ok (v := (.int (3 : Int32))) (host := "") (f := ("com/example/rowan/rowan/store/IdleHeap", "size", "I", .int)) 3 d9_22 (Or.inl (hw _ (List.mem_of_getElem? (i := 48) rfl))) Via.refl A_t rfl rfl ?_
    refine w_iconst ok d9_25 (v := (1 : Int32)) rfl ?_
    refine w_isub ok d9_26 ?_
    show W K l _ n0 _ h3 0 0 27 #[.val (.ref t), .val (.int (Int32.ofNat y)), .val (.long v), .second] [(.int (2 : Int32)), (.ref t)]
    refine w_callP ok (y := (⟨"com/example/rowan/rowan/store/IdleHeap", "siftUp", "(I)V"⟩ : MethodName)) (a := t) (argsL := [(.int (2 : Int32))]) (rest := []) d9_27 (hw _ (List.mem_of_getElem? (i := 54) rfl)) (hw _ (List.mem_of_getElem? (i := 55) rfl)) (hw _ (List.mem_of_getElem? (i := 56) rfl)) (hw _ (List.mem_of_getElem? (i := 1) rfl)) (hw _ (List.mem_of_getElem? (i := 2) rfl)) (hw _ (List.mem_of_getElem? (i := 57) rfl)) (by decide) A_t.1 pd_28I29V rfl rfl (by decide) (Nat.le_of_ble_eq_true rfl) (by decide) (by decide) (fun z0 => rm_up l Z a0 hw [] n0 h3 z0 t en ti sl 3 (upd e 2 (Int32.ofNat y)) (upd g y (Int32.ofNat 2)) (updL τ 2 v) A_t A_en A_ti A_sl ge_t ge_en ge_ti ge_sl ne_t_en ne_t_ti ne_t_sl ne_en_ti ne_en_sl ne_ti_sl 2 (put M y (some v)) (P.push (by decide) hy hM v) (by decide) (own_hoA H)) (fun v4 h5 qv4 => ?_)
    obtain ⟨rfl, e1, g1, τ1, K1, A1, A2, A3, P1, H1, E1⟩ := qv4
    replace Kp := Kp.trans K1 (allS (Or.inl (by simp)) (allS (Or.inl (by simp)) (allS (Or.inl (by simp)) all0)))
    replace A_t := A_t.keep K1 (ninS ne_t_en (ninS ne_t_ti (ninS ne_t_sl nin0)))
    replace A_en := A1
    replace A_ti := A2
    replace A_sl := A3
    show W K l _ n0 _ h5 0 0 30 #[.val (.ref t), .val (.int (Int32.ofNat y)), .val (.long v), .second] []
    refine w_ret ok d9_30 (by decide) (by decide) ?_
    exact ⟨rfl, _, _, _, Kp, A_t, A_en, A_ti, A_sl, P1, H1, fun q _ => E1 q⟩
theorem own_his {i s : Nat} (hi : i < s + 1) (h : ¬ Int32.ofNat i = Int32.ofNat s) : i < s := by
  rcases Nat.lt_or_ge i s with q | q
  · exact q
  · exact absurd (by rw [show i = s by omega]) h
theorem own_zy {s : Nat} {e g : Nat → Int32} {τ : Nat → Int64} {M : Nat → Option Int64} (P : PP (s + 1) e τ g M) {i y z : Nat} (hi : i < s + 1) (ei : e i = Int32.ofNat y) (hy : y < 4) (hz : z < 4) (ez : e s = Int32.ofNat z) (h : ¬ Int32.ofNat i = Int32.ofNat s) : z ≠ y := fun q => by
  have := P.dist hi (Nat.lt_succ_self s) hy ei (q ▸ ez)
  exact h (by rw [this])
theorem d13_0 : decode prog_26_method_7_code 0 = .ok (.aload_n 0, 1) := by decide +kernel
theorem d13_1 : decode prog_26_method_7_code 1 = .ok (.getfield 17, 3) := by decide +kernel
theorem d13_4 : decode prog_26_method_7_code 4 = .ok (.iload_n 1, 1) := by decide +kernel
theorem d13_5 : decode prog_26_method_7_code 5 = .ok (.iaload, 1) := by decide +kernel
theorem d13_6 : decode prog_26_method_7_code 6 = .ok (.istore_n 2, 1) := by decide +kernel
theorem d13_7 : decode prog_26_method_7_code 7 = .ok (.iload_n 2, 1) := by decide +kernel
theorem d13_8 : decode prog_26_method_7_code 8 = .ok (.iconst (-1), 1) := by decide +kernel
theorem d13_9 : decode prog_26_method_7_code 9 = .ok (.if_icmp .ne 4, 3) := by decide +kernel
theorem d13_12 : decode prog_26_method_7_code 12 = .ok (.return_, 1) := by decide +kernel
theorem d13_13 : decode prog_26_method_7_code 13 = .ok (.aload_n 0, 1) := by decide +kernel
theorem d13_14 : decode prog_26_method_7_code 14 = .ok (.dup, 1) := by decide +kernel
theorem d13_15 : decode prog_26_method_7_code 15 = .ok (.getfield 33, 3) := by decide +kernel
theorem d13_18 : decode prog_26_method_7_code 18 = .ok (.iconst 1, 1) := by decide +kernel
theorem d13_19 : decode prog_26_method_7_code 19 = .ok (.isub, 1) := by decide +kernel
theorem d13_20 : decode prog_26_method_7_code 20 = .ok (.putfield 33, 3) := by decide +kernel
theorem d13_23 : decode prog_26_method_7_code 23 = .ok (.aload_n 0, 1) := by decide +kernel
theorem d13_24 : decode prog_26_method_7_code 24 = .ok (.getfield 17, 3) := by decide +kernel
theorem d13_27 : decode prog_26_method_7_code 27 = .ok (.iload_n 1, 1) := by decide +kernel
theorem d13_28 : decode prog_26_method_7_code 28 = .ok (.iconst (-1), 1) := by decide +kernel
theorem d13_29 : decode prog_26_method_7_code 29 = .ok (.iastore, 1) := by decide +kernel
theorem d13_30 : decode prog_26_method_7_code 30 = .ok (.iload_n 2, 1) := by decide +kernel
theorem d13_31 : decode prog_26_method_7_code 31 = .ok (.aload_n 0, 1) := by decide +kernel
theorem d13_32 : decode prog_26_method_7_code 32 = .ok (.getfield 33, 3) := by decide +kernel
theorem d13_35 : decode prog_26_method_7_code 35 = .ok (.if_icmp .eq 43, 3) := by decide +kernel
theorem d13_38 : decode prog_26_method_7_code 38 = .ok (.aload_n 0, 1) := by decide +kernel
theorem d13_39 : decode prog_26_method_7_code 39 = .ok (.getfield 7, 3) := by decide +kernel
theorem d13_42 : decode prog_26_method_7_code 42 = .ok (.aload_n 0, 1) := by decide +kernel
theorem d13_43 : decode prog_26_method_7_code 43 = .ok (.getfield 33, 3) := by decide +kernel
theorem d13_46 : decode prog_26_method_7_code 46 = .ok (.iaload, 1) := by decide +kernel
theorem d13_47 : decode prog_26_method_7_code 47 = .ok (.istore_n 3, 1) := by decide +kernel
theorem d13_48 : decode prog_26_method_7_code 48 = .ok (.aload_n 0, 1) := by decide +kernel
theorem d13_49 : decode prog_26_method_7_code 49 = .ok (.iload_n 3, 1) := by decide +kernel
theorem d13_50 : decode prog_26_method_7_code 50 = .ok (.aload_n 0, 1) := by decide +kernel
theorem d13_51 : decode prog_26_method_7_code 51 = .ok (.getfield 13, 3) := by decide +kernel
theorem d13_54 : decode prog_26_method_7_code 54 = .ok (.aload_n 0, 1) := by decide +kernel
theorem d13_55 : decode prog_26_method_7_code 55 = .ok (.getfield 33, 3) := by decide +kernel
theorem d13_58 : decode prog_26_method_7_code 58 = .ok (.laload, 1) := by decide +kernel
theorem d13_59 : decode prog_26_method_7_code 59 = .ok (.iload_n 2, 1) := by decide +kernel
theorem d13_60 : decode prog_26_method_7_code 60 = .ok (.invokevirtual 37, 3) := by decide +kernel
theorem d13_63 : decode prog_26_method_7_code 63 = .ok (.aload_n 0, 1) := by decide +kernel
theorem d13_64 : decode prog_26_method_7_code 64 = .ok (.iload_n 2, 1) := by decide +kernel
theorem d13_65 : decode prog_26_method_7_code 65 = .ok (.invokevirtual 45, 3) := by decide +kernel
theorem d13_68 : decode prog_26_method_7_code 68 = .ok (.aload_n 0, 1) := by decide +kernel
theorem d13_69 : decode prog_26_method_7_code 69 = .ok (.aload_n 0, 1) := by decide +kernel
theorem d13_70 : decode prog_26_method_7_code 70 = .ok (.getfield 17, 3) := by decide +kernel
theorem d13_73 : decode prog_26_method_7_code 73 = .ok (.iload_n 3, 1) := by decide +kernel
theorem d13_74 : decode prog_26_method_7_code 74 = .ok (.iaload, 1) := by decide +kernel
theorem d13_75 : decode prog_26_method_7_code 75 = .ok (.invokevirtual 41, 3) := by decide +kernel
theorem d13_78 : decode prog_26_method_7_code 78 = .ok (.return_, 1) := by decide +kernel
set_option maxRecDepth 65536 in
set_option maxHeartbeats 40000000 in
theorem rm_remove (l : Launch) (Z : State) (a0 : Array Value) (hw : ∀ d ∈ tables_1, d.before a0 Z = true) (ws : List Jvm.Cond) (n0 : Nat) (h0 : Heap) (Z0 : Old Z n0 h0) (t en ti sl : Addr) (sz : Nat) (e g : Nat → Int32) (τ : Nat → Int64) (A_t : Ob Z h0 t "com/example/rowan/rowan/store/IdleHeap" fl_IdleHeap [.ref en, .ref ti, .ref sl, .int (Int32.ofNat sz)]) (A_en : PA .int Z h0 en (sv 4 e)) (A_ti : PA .long Z h0 ti (lv 4 τ)) (A_sl : PA .int Z h0 sl (sv 4 g)) (ge_t : n0 ≤ t) (ge_en : n0 ≤ en) (ge_ti : n0 ≤ ti) (ge_sl : n0 ≤ sl) (ne_t_en : t ≠ en) (ne_t_ti : t ≠ ti) (ne_t_sl : t ≠ sl) (ne_en_ti : en ≠ ti) (ne_en_sl : en ≠ sl) (ne_ti_sl : ti ≠ sl) (M : Nat → Option Int64) (P : PP sz e τ g M) (H : HO sz τ) (y : Nat) (hy : y < 4) :
    Met l Z n0 (⟨"com/example/rowan/rowan/store/IdleHeap", "remove", "(I)V"⟩ : MethodName) prog_26_method_7_code 4 none ws ({ frames := 2, cells := 0, slots := 0, locals := 34 } : Room) #[(.ref t), (.int (Int32.ofNat y))] h0 (fun u h => u = none ∧ ∃ sz', ∃ e' g' τ', Keep h0 h [t, en, ti, sl] ∧ Ob Z h t "com/example/rowan/rowan/store/IdleHeap" fl_IdleHeap [.ref en, .ref ti, .ref sl, .int (Int32.ofNat sz')] ∧ PA .int Z h en (sv 4 e') ∧ PA .long Z h ti (lv 4 τ') ∧ PA .int Z h sl (sv 4 g') ∧ PP sz' e' τ' g' (put M y none) ∧ HO sz' τ') := by
  refine met_of Z0 (plainFor_of_name pn_com_example_rowan_rowan_store_IdleHeap) (Ls := #[.val (.ref t), .val (.int (Int32.ofNat y)), .unset, .unset]) (fun m => by first | (simp [entryFrame, mkF, argsToLocals, Value.category]; done) | rfl) ?_
  intro K ok
  obtain ⟨m0, g0⟩ | ⟨i, hi, ei⟩ := P.2.2 y hy
  rotate_left
  obtain rfl | rfl | rfl : sz = 1 ∨ sz = 2 ∨ sz = 3 := by have := P.1; omega
  · have Kp : Keep h0 h0 [t, en, ti, sl] := Keep.refl _ _
    have hi4 : i < 4 := by omega
    obtain ⟨m0, gi⟩ := P.at hi hy ei
    obtain ⟨z, hz, ez, -, -⟩ := P.2.1 0 (by decide)
    show W K l _ n0 _ h0 0 0 0 #[.val (.ref t), .val (.int (Int32.ofNat y)), .unset, .unset] []
    refine w_aloadN ok d13_0 rfl rfl ?_
    refine w_getfield ok (v := (.ref sl)) (host := "") (f := ("com/example/rowan/rowan/store/IdleHeap", "slots", "[I", (.array .int))) 2 d13_1 (Or.inl (hw _ (List.mem_of_getElem? (i := 15) rfl))) Via.refl A_t rfl rfl ?_
    refine w_iloadN ok d13_4 rfl ?_
    refine w_iaload ok (v := (.int (Int32.ofNat i))) d13_5 A_sl (own_ix0 hy) (gi ▸ own_svg hy) ?_
    refine w_istoreN ok d13_6 (L' := #[.val (.ref t), .val (.int (Int32.ofNat y)), .val (.int (Int32.ofNat i)), .unset]) rfl ?_
    refine w_iloadN ok d13_7 rfl ?_
    refine w_iconst ok d13_8 (v := (-1 : Int32)) rfl ?_
    refine w_icmp_ne ok d13_9 (pc' := 13) (by decide) (fun hc1 => ?_) (fun hc1 => False.elim (by exact own_ne1 hi4 hc1))
    show W K l _ n0 _ h0 0 0 13 #[.val (.ref t), .val (.int (Int32.ofNat y)), .val (.int (Int32.ofNat i)), .unset] []
    refine w_aloadN ok d13_13 rfl rfl ?_
    refine w_dup ok d13_14 rfl ?_
    refine w_getfield ok (v := (.int (1 : Int32))) (host := "") (f := ("com/example/rowan/rowan/store/IdleHeap", "size", "I", .int)) 3 d13_15 (Or.inl (hw _ (List.mem_of_getElem? (i := 48) rfl))) Via.refl A_t rfl rfl ?_
    refine w_iconst ok d13_18 (v := (1 : Int32)) rfl ?_
    refine w_isub ok d13_19 ?_
    show W K l _ n0 _ h0 0 0 20 #[.val (.ref t), .val (.int (Int32.ofNat y)), .val (.int (Int32.ofNat i)), .unset] [(.int (0 : Int32)), (.ref t)]
    refine w_putfield ok (host := "") (f := ("com/example/rowan/rowan/store/IdleHeap", "size", "I", .int)) 3 d13_20 (Or.inl (hw _ (List.mem_of_getElem? (i := 48) rfl))) Via.refl A_t (la_IdleHeap hw) rfl rfl (Or.inl (hw _ (List.mem_of_getElem? (i := 49) rfl))) (hw _ (List.mem_of_getElem? (i := 1) rfl)) rfl rfl ge_t (fun h2 W_h2 A1_h2 => ?_)
    replace Kp := Kp.wr W_h2 (Or.inl (by simp))
    replace A_en := A_en.other W_h2 (Ne.symm ne_t_en)
    replace A_ti := A_ti.other W_h2 (Ne.symm ne_t_ti)
    replace A_sl := A_sl.other W_h2 (Ne.symm ne_t_sl)
    replace A_t : Ob Z h2 t "com/example/rowan/rowan/store/IdleHeap" fl_IdleHeap [(.ref en), (.ref ti), (.ref sl), (.int (0 : Int32))] := A1_h2
    refine w_aloadN ok d13_23 rfl rfl ?_
    refine w_getfield ok (v := (.ref sl)) (host := "") (f := ("com/example/rowan/rowan/store/IdleHeap", "slots", "[I", (.array .int))) 2 d13_24 (Or.inl (hw _ (List.mem_of_getElem? (i := 15) rfl))) Via.refl A_t rfl rfl ?_
    refine w_iloadN ok d13_27 rfl ?_
    refine w_iconst ok d13_28 (v := (-1 : Int32)) rfl ?_
    refine w_iastore ok d13_29 A_sl ge_sl (own_ix0 hy) (own_svl hy) (fun h3 W_h3 A1_h3 => ?_)
    replace Kp := Kp.wr W_h3 (Or.inl (by simp))
    replace A_t := A_t.other W_h3 ne_t_sl
    replace A_en := A_en.other W_h3 ne_en_sl
    replace A_ti := A_ti.other W_h3 ne_ti_sl
    replace A_sl : PA .int Z h3 sl ((sv 4 g).set (Int32.ofNat y).toNatClampNeg (.int (-1 : Int32))) := A1_h3
    rw [own_ix hy, sv_set] at A_sl
    refine w_iloadN ok d13_30 rfl ?_
    refine w_aloadN ok d13_31 rfl rfl ?_
    refine w_getfield ok (v := (.int (0 : Int32))) (host := "") (f := ("com/example/rowan/rowan/store/IdleHeap", "size", "I", .int)) 3 d13_32 (Or.inl (hw _ (List.mem_of_getElem? (i := 48) rfl))) Via.refl A_t rfl rfl ?_
    refine w_icmp_eq ok d13_35 (pc' := 78) (by decide) (fun hc5 => ?_) (fun hc5 => False.elim (by exact hc5 (by rw [show i = 0 by omega] <;> rfl)))
    show W K l _ n0 _ h3 0 0 78 #[.val (.ref t), .val (.int (Int32.ofNat y)), .val (.int (Int32.ofNat i)), .unset] []
    refine w_ret ok d13_78 (by decide) (by decide) ?_
    exact ⟨rfl, 0, _, _, _, Kp, A_t, A_en, A_ti, A_sl, P.pop hy ((show i = 0 from (by omega)) ▸ ei), own_hoP H⟩
  · have Kp : Keep h0 h0 [t, en, ti, sl] := Keep.refl _ _
    have hi4 : i < 4 := by omega
    obtain ⟨m0, gi⟩ := P.at hi hy ei
    obtain ⟨z, hz, ez, -, -⟩ := P.2.1 1 (by decide)
    show W K l _ n0 _ h0 0 0 0 #[.val (.ref t), .val (.int (Int32.ofNat y)), .unset, .unset] []
    refine w_aloadN ok d13_0 rfl rfl ?_
    refine w_getfield ok (v := (.ref sl)) (host := "") (f := ("com/example/rowan/rowan/store/IdleHeap", "slots", "[I", (.array .int))) 2 d13_1 (Or.inl (hw _ (List.mem_of_getElem? (i := 15) rfl))) Via.refl A_t rfl rfl ?_
    refine w_iloadN ok d13_4 rfl ?_
    refine w_iaload ok (v := (.int (Int32.ofNat i))) d13_5 A_sl (own_ix0 hy) (gi ▸ own_svg hy) ?_
    refine w_istoreN ok d13_6 (L' := #[.val (.ref t), .val (.int (Int32.ofNat y)), .val (.int (Int32.ofNat i)), .unset]) rfl ?_
    refine w_iloadN ok d13_7 rfl ?_
    refine w_iconst ok d13_8 (v := (-1 : Int32)) rfl ?_
    refine w_icmp_ne ok d13_9 (pc' := 13) (by decide) (fun hc1 => ?_) (fun hc1 => False.elim (by exact own_ne1 hi4 hc1))
    show W K l _ n0 _ h0 0 0 13 #[.val (.ref t), .val (.int (Int32.ofNat y)), .val (.int (Int32.ofNat i)), .unset] []
    refine w_aloadN ok d13_13 rfl rfl ?_
    refine w_dup ok d13_14 rfl ?_
    refine w_getfield ok (v := (.int (2 : Int32))) (host := "") (f := ("com/example/rowan/rowan/store/IdleHeap", "size", "I", .int)) 3 d13_15 (Or.inl (hw _ (List.mem_of_getElem? (i := 48) rfl))) Via.refl A_t rfl rfl ?_
    refine w_iconst ok d13_18 (v := (1 : Int32)) rfl ?_
    refine w_isub ok d13_19 ?_
    show W K l _ n0 _ h0 0 0 20 #[.val (.ref t), .val (.int (Int32.ofNat y)), .val (.int (Int32.ofNat i)), .unset] [(.int (1 : Int32)), (.ref t)]
    refine w_putfield ok (host := "") (f := ("com/example/rowan/rowan/store/IdleHeap", "size", "I", .int)) 3 d13_20 (Or.inl (hw _ (List.mem_of_getElem? (i := 48) rfl))) Via.refl A_t (la_IdleHeap hw) rfl rfl (Or.inl (hw _ (List.mem_of_getElem? (i := 49) rfl))) (hw _ (List.mem_of_getElem? (i := 1) rfl)) rfl rfl ge_t (fun h2 W_h2 A1_h2 => ?_)
    replace Kp := Kp.wr W_h2 (Or.inl (by simp))
    replace A_en := A_en.other W_h2 (Ne.symm ne_t_en)
    replace A_ti := A_ti.other W_h2 (Ne.symm ne_t_ti)
    replace A_sl := A_sl.other W_h2 (Ne.symm ne_t_sl)
    replace A_t : Ob Z h2 t "com/example/rowan/rowan/store/IdleHeap" fl_IdleHeap [(.ref en), (.ref ti), (.ref sl), (.int (1 : Int32))] := A1_h2
    refine w_aloadN ok d13_23 rfl rfl ?_
    refine w_getfield ok (v := (.ref sl)) (host := "") (f := ("com/example/rowan/rowan/store/IdleHeap", "slots", "[I", (.array .int))) 2 d13_24 (Or.inl (hw _ (List.mem_of_getElem? (i := 15) rfl))) Via.refl A_t rfl rfl ?_
    refine w_iloadN ok d13_27 rfl ?_
    refine w_iconst ok d13_28 (v := (-1 : Int32)) rfl ?_
    refine w_iastore ok d13_29 A_sl ge_sl (own_ix0 hy) (own_svl hy) (fun h3 W_h3 A1_h3 => ?_)
    replace Kp := Kp.wr W_h3 (Or.inl (by simp))
    replace A_t := A_t.other W_h3 ne_t_sl
    replace A_en := A_en.other W_h3 ne_en_sl
    replace A_ti := A_ti.other W_h3 ne_ti_sl
    replace A_sl : PA .int Z h3 sl ((sv 4 g).set (Int32.ofNat y).toNatClampNeg (.int (-1 : Int32))) := A1_h3
    rw [own_ix hy, sv_set] at A_sl
    refine w_iloadN ok d13_30 rfl ?_
    refine w_aloadN ok d13_31 rfl rfl ?_
    refine w_getfield ok (v := (.int (1 : Int32))) (host := "") (f := ("com/example/rowan/rowan/store/IdleHeap", "size", "I", .int)) 3 d13_32 (Or.inl (hw _ (List.mem_of_getElem? (i := 48) rfl))) Via.refl A_t rfl rfl ?_
    refine w_icmp_eq ok d13_35 (pc' := 78) (by decide) (fun hc5 => ?_) (fun hc5 => ?_)
    · show W K l _ n0 _ h3 0 0 78 #[.val (.ref t), .val (.int (Int32.ofNat y)), .val (.int (Int32.ofNat i)), .unset] []
      refine w_ret ok d13_78 (by decide) (by decide) ?_
      exact ⟨rfl, 1, _, _, _, Kp, A_t, A_en, A_ti, A_sl, P.pop hy ((show i = 1 from (own_inj hi4 (by decide) hc5)) ▸ ei), own_hoP H⟩
    · show W K l _ n0 _ h3 0 0 38 #[.val (.ref t), .val (.int (Int32.ofNat y)), .val (.int (Int32.ofNat i)), .unset] []
      refine w_aloadN ok d13_38 rfl rfl ?_
      refine w_getfield ok (v := (.ref en)) (host := "") (f := ("com/example/rowan/rowan/store/IdleHeap", "entries", "[I", (.array .int))) 0 d13_39 (Or.inl (hw _ (List.mem_of_getElem? (i := 10) rfl))) Via.refl A_t rfl rfl ?_
      refine w_aloadN ok d13_42 rfl rfl ?_
      refine w_getfield ok (v := (.int (1 : Int32))) (host := "") (f := ("com/example/rowan/rowan/store/IdleHeap", "size", "I", .int)) 3 d13_43 (Or.inl (hw _ (List.mem_of_getElem? (i := 48) rfl))) Via.refl A_t rfl rfl ?_
      refine w_iaload ok (v := (.int (Int32.ofNat z))) d13_46 A_en (by decide) (ez ▸ own_svg (j := 1) (by decide)) ?_
      refine w_istoreN ok d13_47 (L' := #[.val (.ref t), .val (.int (Int32.ofNat y)), .val (.int (Int32.ofNat i)), .val (.int (Int32.ofNat z))]) rfl ?_
      refine w_aloadN ok d13_48 rfl rfl ?_
      refine w_iloadN ok d13_49 rfl ?_
      refine w_aloadN ok d13_50 rfl rfl ?_
      refine w_getfield ok (v := (.ref ti)) (host := "") (f := ("com/example/rowan/rowan/store/IdleHeap", "times", "[J", (.array .long))) 1 d13_51 (Or.inl (hw _ (List.mem_of_getElem? (i := 13) rfl))) Via.refl A_t rfl rfl ?_
      refine w_aloadN ok d13_54 rfl rfl ?_
      refine w_getfield ok (v := (.int (1 : Int32))) (host := "") (f := ("com/example/rowan/rowan/store/IdleHeap", "size", "I", .int)) 3 d13_55 (Or.inl (hw _ (List.mem_of_getElem? (i := 48) rfl))) Via.refl A_t rfl rfl ?_
      refine w_laload ok (v := (.long (τ 1))) d13_58 A_ti (by decide) (own_lvg (j := 1) (by decide)) ?_
      refine w_iloadN ok d13_59 rfl ?_
      refine w_callP ok (y := (⟨"com/example/rowan/rowan/store/IdleHeap", "place", "(IJI)V"⟩ : MethodName)) (a := t) (argsL := [(.int (Int32.ofNat z)), (.long (τ 1)), (.int (Int32.ofNat i))]) (rest := []) d13_60 (hw _ (List.mem_of_getElem? (i := 50) rfl)) (hw _ (List.mem_of_getElem? (i := 51) rfl)) (hw _ (List.mem_of_getElem? (i := 52) rfl)) (hw _ (List.mem_of_getElem? (i := 1) rfl)) (hw _ (List.mem_of_getElem? (i := 2) rfl)) (hw _ (List.mem_of_getElem? (i := 53) rfl)) (by decide) A_t.1 pd_28IJI29V rfl rfl (by decide) (Nat.le_of_ble_eq_true rfl) (by decide) (by decide) (fun z0 => rm_place l Z a0 hw [] n0 h3 z0 t en ti sl (1 : Int32) e (upd g y (-1)) τ A_t A_en A_ti A_sl ge_t ge_en ge_ti ge_sl ne_t_en ne_t_ti ne_t_sl ne_en_ti ne_en_sl ne_ti_sl z i (τ 1) hz hi4) (fun v6 h7 qv6 => ?_)
      obtain ⟨rfl, K1, A1, A2, A3⟩ := qv6
      replace Kp := Kp.trans K1 (allS (Or.inl (by simp)) (allS (Or.inl (by simp)) (allS (Or.inl (by simp)) all0)))
      replace A_t := A_t.keep K1 (ninS ne_t_en (ninS ne_t_ti (ninS ne_t_sl nin0)))
      replace A_en := A1
      replace A_ti := A2
      replace A_sl := A3
      show W K l _ n0 _ h7 0 0 63 #[.val (.ref t), .val (.int (Int32.ofNat y)), .val (.int (Int32.ofNat i)), .val (.int (Int32.ofNat z))] []
      refine w_aloadN ok d13_63 rfl rfl ?_
      refine w_iloadN ok d13_64 rfl ?_
      refine w_callP ok (y := (⟨"com/example/rowan/rowan/store/IdleHeap", "siftDown", "(I)V"⟩ : MethodName)) (a := t) (argsL := [(.int (Int32.ofNat i))]) (rest := []) d13_65 (hw _ (List.mem_of_getElem? (i := 77) rfl)) (hw _ (List.mem_of_getElem? (i := 78) rfl)) (hw _ (List.mem_of_getElem? (i := 79) rfl)) (hw _ (List.mem_of_getElem? (i := 1) rfl)) (hw _ (List.mem_of_getElem? (i := 2) rfl)) (hw _ (List.mem_of_getElem? (i := 80) rfl)) (by decide) A_t.1 pd_28I29V rfl rfl (by decide) (Nat.le_of_ble_eq_true rfl) (by decide) (by decide) (fun z0 => rm_down l Z a0 hw [] n0 h7 z0 t en ti sl 1 (upd e i (Int32.ofNat z)) (upd (upd g y (-1)) z (Int32.ofNat i)) (updL τ i (τ 1)) A_t A_en A_ti A_sl ge_t ge_en ge_ti ge_sl ne_t_en ne_t_ti ne_t_sl ne_en_ti ne_en_sl ne_ti_sl i (put M y none) (P.fill (own_his hi hc5) hy hz ei ez) (own_his hi hc5) (own_hoR H)) (fun v8 h9 qv8 => ?_)
      obtain ⟨rfl, e1, g1, τ1, K1, A1, A2, A3, P1, H1⟩ := qv8
      replace Kp := Kp.trans K1 (allS (Or.inl (by simp)) (allS (Or.inl (by simp)) (allS (Or.inl (by simp)) all0)))
      replace A_t := A_t.keep K1 (ninS ne_t_en (ninS ne_t_ti (ninS ne_t_sl nin0)))
      replace A_en := A1
      replace A_ti := A2
      replace A_sl := A3
      obtain ⟨k, hk, -, -, gk⟩ := P1.has hz (by rw [put_ne (own_zy P hi ei hy hz ez hc5)]; exact (P.at (by decide) hz ez).1)
      show W K l _ n0 _ h9 0 0 68 #[.val (.ref t), .val (.int (Int32.ofNat y)), .val (.int (Int32.ofNat i)), .val (.int (Int32.ofNat z))] []
      refine w_aloadN ok d13_68 rfl rfl ?_
      refine w_aloadN ok d13_69 rfl rfl ?_
      refine w_getfield ok (v := (.ref sl)) (host := "") (f := ("com/example/rowan/rowan/store/IdleHeap", "slots", "[I", (.array .int))) 2 d13_70 (Or.inl (hw _ (List.mem_of_getElem? (i := 15) rfl))) Via.refl A_t rfl rfl ?_
      refine w_iloadN ok d13_73 rfl ?_
      refine w_iaload ok (v := (.int (Int32.ofNat k))) d13_74 A_sl (own_ix0 hz) (gk ▸ own_svg hz) ?_
      refine w_callP ok (y := (⟨"com/example/rowan/rowan/store/IdleHeap", "siftUp", "(I)V"⟩ : MethodName)) (a := t) (argsL := [(.int (Int32.ofNat k))]) (rest := []) d13_75 (hw _ (List.mem_of_getElem? (i := 54) rfl)) (hw _ (List.mem_of_getElem? (i := 55) rfl)) (hw _ (List.mem_of_getElem? (i := 56) rfl)) (hw _ (List.mem_of_getElem? (i := 1) rfl)) (hw _ (List.mem_of_getElem? (i := 2) rfl)) (hw _ (List.mem_of_getElem? (i := 57) rfl)) (by decide) A_t.1 pd_28I29V rfl rfl (by decide) (Nat.le_of_ble_eq_true rfl) (by decide) (by decide) (fun z0 => rm_up l Z a0 hw [] n0 h9 z0 t en ti sl 1 e1 g1 τ1 A_t A_en A_ti A_sl ge_t ge_en ge_ti ge_sl ne_t_en ne_t_ti ne_t_sl ne_en_ti ne_en_sl ne_ti_sl k (put M y none) P1 hk (own_hoU H1)) (fun v10 h11 qv10 => ?_)
      obtain ⟨rfl, e2, g2, τ2, K1, A1, A2, A3, P2, H2, E2⟩ := qv10
      replace Kp := Kp.trans K1 (allS (Or.inl (by simp)) (allS (Or.inl (by simp)) (allS (Or.inl (by simp)) all0)))
      replace A_t := A_t.keep K1 (ninS ne_t_en (ninS ne_t_ti (ninS ne_t_sl nin0)))
      replace A_en := A1
      replace A_ti := A2
      replace A_sl := A3
      show W K l _ n0 _ h11 0 0 78 #[.val (.ref t), .val (.int (Int32.ofNat y)), .val (.int (Int32.ofNat i)), .val (.int (Int32.ofNat z))] []
      refine w_ret ok d13_78 (by decide) (by decide) ?_
      exact ⟨rfl, 1, _, _, _, Kp, A_t, A_en, A_ti, A_sl, P2, H2⟩
  · have Kp : Keep h0 h0 [t, en, ti, sl] := Keep.refl _ _
    have hi4 : i < 4 := by omega
    obtain ⟨m0, gi⟩ := P.at hi hy ei
    obtain ⟨z, hz, ez, -, -⟩ := P.2.1 2 (by decide)
    show W K l _ n0 _ h0 0 0 0 #[.val (.ref t), .val (.int (Int32.ofNat y)), .unset, .unset] []
    refine w_aloadN ok d13_0 rfl rfl ?_
    refine w_getfield ok (v := (.ref sl)) (host := "") (f := ("com/example/rowan/rowan/store/IdleHeap", "slots", "[I", (.array .int))) 2 d13_1 (Or.inl (hw _ (List.mem_of_getElem? (i := 15) rfl))) Via.refl A_t rfl rfl ?_
    refine w_iloadN ok d13_4 rfl ?_
    refine w_iaload ok (v := (.int (Int32.ofNat i))) d13_5 A_sl (own_ix0 hy) (gi ▸ own_svg hy) ?_
    refine w_istoreN ok d13_6 (L' := #[.val (.ref t), .val (.int (Int32.ofNat y)), .val (.int (Int32.ofNat i)), .unset]) rfl ?_
    refine w_iloadN ok d13_7 rfl ?_
    refine w_iconst ok d13_8 (v := (-1 : Int32)) rfl ?_
    refine w_icmp_ne ok d13_9 (pc' := 13) (by decide) (fun hc1 => ?_) (fun hc1 => False.elim (by exact own_ne1 hi4 hc1))
    show W K l _ n0 _ h0 0 0 13 #[.val (.ref t), .val (.int (Int32.ofNat y)), .val (.int (Int32.ofNat i)), .unset] []
    refine w_aloadN ok d13_13 rfl rfl ?_
    refine w_dup ok d13_14 rfl ?_
    refine w_getfield ok (v := (.int (3 : Int32))) (host := "") (f := ("com/example/rowan/rowan/store/IdleHeap", "size", "I", .int)) 3 d13_15 (Or.inl (hw _ (List.mem_of_getElem? (i := 48) rfl))) Via.refl A_t rfl rfl ?_
    refine w_iconst ok d13_18 (v := (1 : Int32)) rfl ?_
    refine w_isub ok d13_19 ?_
    show W K l _ n0 _ h0 0 0 20 #[.val (.ref t), .val (.int (Int32.ofNat y)), .val (.int (Int32.ofNat i)), .unset] [(.int (2 : Int32)), (.ref t)]
    refine w_putfield ok (host := "") (f := ("com/example/rowan/rowan/store/IdleHeap", "size", "I", .int)) 3 d13_20 (Or.inl (hw _ (List.mem_of_getElem? (i := 48) rfl))) Via.refl A_t (la_IdleHeap hw) rfl rfl (Or.inl (hw _ (List.mem_of_getElem? (i := 49) rfl))) (hw _ (List.mem_of_getElem? (i := 1) rfl)) rfl rfl ge_t (fun h2 W_h2 A1_h2 => ?_)
    replace Kp := Kp.wr W_h2 (Or.inl (by simp))
    replace A_en := A_en.other W_h2 (Ne.symm ne_t_en)
    replace A_ti := A_ti.other W_h2 (Ne.symm ne_t_ti)
    replace A_sl := A_sl.other W_h2 (Ne.symm ne_t_sl)
    replace A_t : Ob Z h2 t "com/example/rowan/rowan/store/IdleHeap" fl_IdleHeap [(.ref en), (.ref ti), (.ref sl), (.int (2 : Int32))] := A1_h2
    refine w_aloadN ok d13_23 rfl rfl ?_
    refine w_getfield ok (v := (.ref sl)) (host := "") (f := ("com/example/rowan/rowan/store/IdleHeap", "slots", "[I", (.array .int))) 2 d13_24 (Or.inl (hw _ (List.mem_of_getElem? (i := 15) rfl))) Via.refl A_t rfl rfl ?_
    refine w_iloadN ok d13_27 rfl ?_
    refine w_iconst ok d13_28 (v := (-1 : Int32)) rfl ?_
    refine w_iastore ok d13_29 A_sl ge_sl (own_ix0 hy) (own_svl hy) (fun h3 W_h3 A1_h3 => ?_)
    replace Kp := Kp.wr W_h3 (Or.inl (by simp))
    replace A_t := A_t.other W_h3 ne_t_sl
    replace A_en := A_en.other W_h3 ne_en_sl
    replace A_ti := A_ti.other W_h3 ne_ti_sl
    replace A_sl : PA .int Z h3 sl ((sv 4 g).set (Int32.ofNat y).toNatClampNeg (.int (-1 : Int32))) := A1_h3
    rw [own_ix hy, sv_set] at A_sl
    refine w_iloadN ok d13_30 rfl ?_
    refine w_aloadN ok d13_31 rfl rfl ?_
    refine w_getfield ok (v := (.int (2 : Int32))) (host := "") (f := ("com/example/rowan/rowan/store/IdleHeap", "size", "I", .int)) 3 d13_32 (Or.inl (hw _ (List.mem_of_getElem? (i := 48) rfl))) Via.refl A_t rfl rfl ?_
    refine w_icmp_eq ok d13_35 (pc' := 78) (by decide) (fun hc5 => ?_) (fun hc5 => ?_)
    · show W K l _ n0 _ h3 0 0 78 #[.val (.ref t), .val (.int (Int32.ofNat y)), .val (.int (Int32.ofNat i)), .unset] []
      refine w_ret ok d13_78 (by decide) (by decide) ?_
      exact ⟨rfl, 2, _, _, _, Kp, A_t, A_en, A_ti, A_sl, P.pop hy ((show i = 2 from (own_inj hi4 (by decide) hc5)) ▸ ei), own_hoP H⟩
    · show W K l _ n0 _ h3 0 0 38 #[.val (.ref t), .val (.int (Int32.ofNat y)), .val (.int (Int32.ofNat i)), .unset] []
      refine w_aloadN ok d13_38 rfl rfl ?_
      refine w_getfield ok (v := (.ref en)) (host := "") (f := ("com/example/rowan/rowan/store/IdleHeap", "entries", "[I", (.array .int))) 0 d13_39 (Or.inl (hw _ (List.mem_of_getElem? (i := 10) rfl))) Via.refl A_t rfl rfl ?_
      refine w_aloadN ok d13_42 rfl rfl ?_
      refine w_getfield ok (v := (.int (2 : Int32))) (host := "") (f := ("com/example/rowan/rowan/store/IdleHeap", "size", "I", .int)) 3 d13_43 (Or.inl (hw _ (List.mem_of_getElem? (i := 48) rfl))) Via.refl A_t rfl rfl ?_
      refine w_iaload ok (v := (.int (Int32.ofNat z))) d13_46 A_en (by decide) (ez ▸ own_svg (j := 2) (by decide)) ?_
      refine w_istoreN ok d13_47 (L' := #[.val (.ref t), .val (.int (Int32.ofNat y)), .val (.int (Int32.ofNat i)), .val (.int (Int32.ofNat z))]) rfl ?_
      refine w_aloadN ok d13_48 rfl rfl ?_
      refine w_iloadN ok d13_49 rfl ?_
      refine w_aloadN ok d13_50 rfl rfl ?_
      refine w_getfield ok (v := (.ref ti)) (host := "") (f := ("com/example/rowan/rowan/store/IdleHeap", "times", "[J", (.array .long))) 1 d13_51 (Or.inl (hw _ (List.mem_of_getElem? (i := 13) rfl))) Via.refl A_t rfl rfl ?_
      refine w_aloadN ok d13_54 rfl rfl ?_
      refine w_getfield ok (v := (.int (2 : Int32))) (host := "") (f := ("com/example/rowan/rowan/store/IdleHeap", "size", "I", .int)) 3 d13_55 (Or.inl (hw _ (List.mem_of_getElem? (i := 48) rfl))) Via.refl A_t rfl rfl ?_
      refine w_laload ok (v := (.long (τ 2))) d13_58 A_ti (by decide) (own_lvg (j := 2) (by decide)) ?_
      refine w_iloadN ok d13_59 rfl ?_
      refine w_callP ok (y := (⟨"com/example/rowan/rowan/store/IdleHeap", "place", "(IJI)V"⟩ : MethodName)) (a := t) (argsL := [(.int (Int32.ofNat z)), (.long (τ 2)), (.int (Int32.ofNat i))]) (rest := []) d13_60 (hw _ (List.mem_of_getElem? (i := 50) rfl)) (hw _ (List.mem_of_getElem? (i := 51) rfl)) (hw _ (List.mem_of_getElem? (i := 52) rfl)) (hw _ (List.mem_of_getElem? (i := 1) rfl)) (hw _ (List.mem_of_getElem? (i := 2) rfl)) (hw _ (List.mem_of_getElem? (i := 53) rfl)) (by decide) A_t.1 pd_28IJI29V rfl rfl (by decide) (Nat.le_of_ble_eq_true rfl) (by decide) (by decide) (fun z0 => rm_place l Z a0 hw [] n0 h3 z0 t en ti sl (2 : Int32) e (upd g y (-1)) τ A_t A_en A_ti A_sl ge_t ge_en ge_ti ge_sl ne_t_en ne_t_ti ne_t_sl ne_en_ti ne_en_sl ne_ti_sl z i (τ 2) hz hi4) (fun v6 h7 qv6 => ?_)
      obtain ⟨rfl, K1, A1, A2, A3⟩ := qv6
      replace Kp := Kp.trans K1 (allS (Or.inl (by simp)) (allS (Or.inl (by simp)) (allS (Or.inl (by simp)) all0)))
      replace A_t := A_t.keep K1 (ninS ne_t_en (ninS ne_t_ti (ninS ne_t_sl nin0)))
      replace A_en := A1
      replace A_ti := A2
      replace A_sl := A3
      show W K l _ n0 _ h7 0 0 63 #[.val (.ref t), .val (.int (Int32.ofNat y)), .val (.int (Int32.ofNat i)), .val (.int (Int32.ofNat z))] []
      refine w_aloadN ok d13_63 rfl rfl ?_
      refine w_iloadN ok d13_64 rfl ?_
      refine w_callP ok (y := (⟨"com/example/rowan/rowan/store/IdleHeap", "siftDown", "(I)V"⟩ : MethodName)) (a := t) (argsL := [(.int (Int32.ofNat i))]) (rest := []) d13_65 (hw _ (List.mem_of_getElem? (i := 77) rfl)) (hw _ (List.mem_of_getElem? (i := 78) rfl)) (hw _ (List.mem_of_getElem? (i := 79) rfl)) (hw _ (List.mem_of_getElem? (i := 1) rfl)) (hw _ (List.mem_of_getElem? (i := 2) rfl)) (hw _ (List.mem_of_getElem? (i := 80) rfl)) (by decide) A_t.1 pd_28I29V rfl rfl (by decide) (Nat.le_of_ble_eq_true rfl) (by decide) (by decide) (fun z0 => rm_down l Z a0 hw [] n0 h7 z0 t en ti sl 2 (upd e i (Int32.ofNat z)) (upd (upd g y (-1)) z (Int32.ofNat i)) (updL τ i (τ 2)) A_t A_en A_ti A_sl ge_t ge_en ge_ti ge_sl ne_t_en ne_t_ti ne_t_sl ne_en_ti ne_en_sl ne_ti_sl i (put M y none) (P.fill (own_his hi hc5) hy hz ei ez) (own_his hi hc5) (own_hoR H)) (fun v8 h9 qv8 => ?_)
      obtain ⟨rfl, e1, g1, τ1, K1, A1, A2, A3, P1, H1⟩ := qv8
      replace Kp := Kp.trans K1 (allS (Or.inl (by simp)) (allS (Or.inl (by simp)) (allS (Or.inl (by simp)) all0)))
      replace A_t := A_t.keep K1 (ninS ne_t_en (ninS ne_t_ti (ninS ne_t_sl nin0)))
      replace A_en := A1
      replace A_ti := A2
      replace A_sl := A3
      obtain ⟨k, hk, -, -, gk⟩ := P1.has hz (by rw [put_ne (own_zy P hi ei hy hz ez hc5)]; exact (P.at (by decide) hz ez).1)
      show W K l _ n0 _ h9 0 0 68 #[.val (.ref t), .val (.int (Int32.ofNat y)), .val (.int (Int32.ofNat i)), .val (.int (Int32.ofNat z))] []
      refine w_aloadN ok d13_68 rfl rfl ?_
      refine w_aloadN ok d13_69 rfl rfl ?_
      refine w_getfield ok (v := (.ref sl)) (host := "") (f := ("com/example/rowan/rowan/store/IdleHeap", "slots", "[I", (.array .int))) 2 d13_70 (Or.inl (hw _ (List.mem_of_getElem? (i := 15) rfl))) Via.refl A_t rfl rfl ?_
      refine w_iloadN ok d13_73 rfl ?_
      refine w_iaload ok (v := (.int (Int32.ofNat k))) d13_74 A_sl (own_ix0 hz) (gk ▸ own_svg hz) ?_
      refine w_callP ok (y := (⟨"com/example/rowan/rowan/store/IdleHeap", "siftUp", "(I)V"⟩ : MethodName)) (a := t) (argsL := [(.int (Int32.ofNat k))]) (rest := []) d13_75 (hw _ (List.mem_of_getElem? (i := 54) rfl)) (hw _ (List.mem_of_getElem? (i := 55) rfl)) (hw _ (List.mem_of_getElem? (i := 56) rfl)) (hw _ (List.mem_of_getElem? (i := 1) rfl)) (hw _ (List.mem_of_getElem? (i := 2) rfl)) (hw _ (List.mem_of_getElem? (i := 57) rfl)) (by decide) A_t.1 pd_28I29V rfl rfl (by decide) (Nat.le_of_ble_eq_true rfl) (by decide) (by decide) (fun z0 => rm_up l Z a0 hw [] n0 h9 z0 t en ti sl 2 e1 g1 τ1 A_t A_en A_ti A_sl ge_t ge_en ge_ti ge_sl ne_t_en ne_t_ti ne_t_sl ne_en_ti ne_en_sl ne_ti_sl k (put M y none) P1 hk (own_hoU H1)) (fun v10 h11 qv10 => ?_)
      obtain ⟨rfl, e2, g2, τ2, K1, A1, A2, A3, P2, H2, E2⟩ := qv10
      replace Kp := Kp.trans K1 (allS (Or.inl (by simp)) (allS (Or.inl (by simp)) (allS (Or.inl (by simp)) all0)))
      replace A_t := A_t.keep K1 (ninS ne_t_en (ninS ne_t_ti (ninS ne_t_sl nin0)))
      replace A_en := A1
      replace A_ti := A2
      replace A_sl := A3
      show W K l _ n0 _ h11 0 0 78 #[.val (.ref t), .val (.int (Int32.ofNat y)), .val (.int (Int32.ofNat i)), .val (.int (Int32.ofNat z))] []
      refine w_ret ok d13_78 (by decide) (by decide) ?_
      exact ⟨rfl, 2, _, _, _, Kp, A_t, A_en, A_ti, A_sl, P2, H2⟩
  · have Kp : Keep h0 h0 [t, en, ti, sl] := Keep.refl _ _
    show W K l _ n0 _ h0 0 0 0 #[.val (.ref t), .val (.int (Int32.ofNat y)), .unset, .unset] []
    refine w_aloadN ok d13_0 rfl rfl ?_
    refine w_getfield ok (v := (.ref sl)) (host := "") (f := ("com/example/rowan/rowan/store/IdleHeap", "slots", "[I", (.array .int))) 2 d13_1 (Or.inl (hw _ (List.mem_of_getElem? (i := 15) rfl))) Via.refl A_t rfl rfl ?_
    refine w_iloadN ok d13_4 rfl ?_
    refine w_iaload ok (v := (.int (-1 : Int32))) d13_5 A_sl (own_ix0 hy) (g0 ▸ own_svg hy) ?_
    refine w_istoreN ok d13_6 (L' := #[.val (.ref t), .val (.int (Int32.ofNat y)), .val (.int (-1 : Int32)), .unset]) rfl ?_
    refine w_iloadN ok d13_7 rfl ?_
    refine w_iconst ok d13_8 (v := (-1 : Int32)) rfl ?_
    refine w_icmp_ne ok d13_9 (pc' := 13) (by decide) (fun hc1 => False.elim (by revert hc1; decide)) (fun hc1 => ?_)
    show W K l _ n0 _ h0 0 0 12 #[.val (.ref t), .val (.int (Int32.ofNat y)), .val (.int (-1 : Int32)), .unset] []
    refine w_ret ok d13_12 (by decide) (by decide) ?_
    exact ⟨rfl, sz, e, g, τ, Kp, A_t, A_en, A_ti, A_sl, by rw [own_put0 m0]; exact P, H⟩
theorem PP.ren {sz : Nat} {e g : Nat → Int32} {τ : Nat → Int64} {M : Nat → Option Int64} (P : PP sz e τ g M) {i y z : Nat} {v : Int64} (hi : i < sz) (hy : y < 4) (hz : z < 4) (ei : e i = Int32.ofNat y) (my : M y = some v) (mz : M z = none) : PP sz (upd e i (Int32.ofNat z)) τ (upd (upd g y (-1)) z (Int32.ofNat i)) (put (put M y none) z (some v)) := by
  have P0 := P
  have yz : y ≠ z := fun q => by rw [q, mz] at my; cases my
  obtain ⟨mi, gi⟩ := P0.at hi hy ei
  obtain ⟨s, P1, P2⟩ := P
  refine ⟨s, fun k hk => ?_, fun x hx => ?_⟩
  · by_cases q : k = i
    · subst q; exact ⟨z, hz, upd_same _ _ _, by rw [put_same, ← my, mi], upd_same _ _ _⟩
    · obtain ⟨a, a1, a2, a3, a4⟩ := P1 k hk
      have ay : a ≠ y := fun r => q (P0.dist hk hi hy (r ▸ a2) ei)
      have az : a ≠ z := fun r => by rw [r, mz] at a3; cases a3
      exact ⟨a, a1, by rw [upd_ne q]; exact a2, by rw [put_ne az, put_ne ay]; exact a3, by rw [upd_ne az, upd_ne ay]; exact a4⟩
  · by_cases qz : x = z
    · subst qz; exact Or.inr ⟨i, hi, upd_same _ _ _⟩
    · by_cases qy : x = y
      · subst qy; exact Or.inl ⟨by rw [put_ne qz, put_same], by rw [upd_ne qz, upd_same]⟩
      · rcases P2 x hx with ⟨q1, q2⟩ | ⟨k, k1, k2⟩
        · exact Or.inl ⟨by rw [put_ne qz, put_ne qy]; exact q1, by rw [upd_ne qz, upd_ne qy]; exact q2⟩
        · refine Or.inr ⟨k, k1, ?_⟩
          rw [upd_ne (fun r => qy (own_inj hx hy ((r ▸ k2).symm.trans ei)))]; exact k2
theorem own_absent {sz : Nat} {e g : Nat → Int32} {τ : Nat → Int64} {M : Nat → Option Int64} (P : PP sz e τ g M) {y : Nat} (hy : y < 4) (m0 : M y = none) : g y = -1 := by
  rcases P.2.2 y hy with ⟨-, q⟩ | ⟨i, hi, ei⟩
  · exact q
  · rw [(P.at hi hy ei).1] at m0; cases m0
theorem d12_0 : decode prog_26_method_8_code 0 = .ok (.aload_n 0, 1) := by decide +kernel
theorem d12_1 : decode prog_26_method_8_code 1 = .ok (.getfield 17, 3) := by decide +kernel
theorem d12_4 : decode prog_26_method_8_code 4 = .ok (.iload_n 1, 1) := by decide +kernel
theorem d12_5 : decode prog_26_method_8_code 5 = .ok (.iaload, 1) := by decide +kernel
theorem d12_6 : decode prog_26_method_8_code 6 = .ok (.istore_n 3, 1) := by decide +kernel
theorem d12_7 : decode prog_26_method_8_code 7 = .ok (.aload_n 0, 1) := by decide +kernel
theorem d12_8 : decode prog_26_method_8_code 8 = .ok (.getfield 17, 3) := by decide +kernel
theorem d12_11 : decode prog_26_method_8_code 11 = .ok (.iload_n 1, 1) := by decide +kernel
theorem d12_12 : decode prog_26_method_8_code 12 = .ok (.iconst (-1), 1) := by decide +kernel
theorem d12_13 : decode prog_26_method_8_code 13 = .ok (.iastore, 1) := by decide +kernel
theorem d12_14 : decode prog_26_method_8_code 14 = .ok (.aload_n 0, 1) := by decide +kernel
theorem d12_15 : decode prog_26_method_8_code 15 = .ok (.getfield 17, 3) := by decide +kernel
theorem d12_18 : decode prog_26_method_8_code 18 = .ok (.iload_n 2, 1) := by decide +kernel
theorem d12_19 : decode prog_26_method_8_code 19 = .ok (.iload_n 3, 1) := by decide +kernel
theorem d12_20 : decode prog_26_method_8_code 20 = .ok (.iastore, 1) := by decide +kernel
theorem d12_21 : decode prog_26_method_8_code 21 = .ok (.iload_n 3, 1) := by decide +kernel
theorem d12_22 : decode prog_26_method_8_code 22 = .ok (.iconst (-1), 1) := by decide +kernel
theorem d12_23 : decode prog_26_method_8_code 23 = .ok (.if_icmp .eq 10, 3) := by decide +kernel
theorem d12_26 : decode prog_26_method_8_code 26 = .ok (.aload_n 0, 1) := by decide +kernel
theorem d12_27 : decode prog_26_method_8_code 27 = .ok (.getfield 7, 3) := by decide +kernel
theorem d12_30 : decode prog_26_method_8_code 30 = .ok (.iload_n 3, 1) := by decide +kernel
theorem d12_31 : decode prog_26_method_8_code 31 = .ok (.iload_n 2, 1) := by decide +kernel
theorem d12_32 : decode prog_26_method_8_code 32 = .ok (.iastore, 1) := by decide +kernel
theorem d12_33 : decode prog_26_method_8_code 33 = .ok (.return_, 1) := by decide +kernel
set_option maxRecDepth 65536 in
set_option maxHeartbeats 40000000 in
theorem rm_ren1 (l : Launch) (Z : State) (a0 : Array Value) (hw : ∀ d ∈ tables_1, d.before a0 Z = true) (ws : List Jvm.Cond) (n0 : Nat) (h0 : Heap) (Z0 : Old Z n0 h0) (t en ti sl : Addr) (sz : Nat) (e g : Nat → Int32) (τ : Nat → Int64) (A_t : Ob Z h0 t "com/example/rowan/rowan/store/IdleHeap" fl_IdleHeap [.ref en, .ref ti, .ref sl, .int (Int32.ofNat sz)]) (A_en : PA .int Z h0 en (sv 4 e)) (A_ti : PA .long Z h0 ti (lv 4 τ)) (A_sl : PA .int Z h0 sl (sv 4 g)) (ge_t : n0 ≤ t) (ge_en : n0 ≤ en) (ge_ti : n0 ≤ ti) (ge_sl : n0 ≤ sl) (ne_t_en : t ≠ en) (ne_t_ti : t ≠ ti) (ne_t_sl : t ≠ sl) (ne_en_ti : en ≠ ti) (ne_en_sl : en ≠ sl) (ne_ti_sl : ti ≠ sl) (M : Nat → Option Int64) (P : PP sz e τ g M) (H : HO sz τ) (y z : Nat) (v : Int64) (hy : y < 4) (hz : z < 4) (my : M y = some v) (mz : M z = none) :
    Met l Z n0 (⟨"com/example/rowan/rowan/store/IdleHeap", "renumber", "(II)V"⟩ : MethodName) prog_26_method_8_code 4 none ws ({ frames := 0, cells := 0, slots := 0, locals := 0 } : Room) #[(.ref t), (.int (Int32.ofNat y)), (.int (Int32.ofNat z))] h0 (fun u h => u = none ∧ ∃ e' g' τ', Keep h0 h [t, en, ti, sl] ∧ Ob Z h t "com/example/rowan/rowan/store/IdleHeap" fl_IdleHeap [.ref en, .ref ti, .ref sl, .int (Int32.ofNat sz)] ∧ PA .int Z h en (sv 4 e') ∧ PA .long Z h ti (lv 4 τ') ∧ PA .int Z h sl (sv 4 g') ∧ PP sz e' τ' g' (put (put M y none) z (some v)) ∧ HO sz τ' ∧ (e 0 = Int32.ofNat y → e' 0 = Int32.ofNat z) ∧ (e 0 ≠ Int32.ofNat y → e' 0 = e 0)) := by
  refine met_of Z0 (plainFor_of_name pn_com_example_rowan_rowan_store_IdleHeap) (Ls := #[.val (.ref t), .val (.int (Int32.ofNat y)), .val (.int (Int32.ofNat z)), .unset]) (fun m => by first | (simp [entryFrame, mkF, argsToLocals, Value.category]; done) | rfl) ?_
  intro K ok
  skip
  · have Kp : Keep h0 h0 [t, en, ti, sl] := Keep.refl _ _
    obtain ⟨i, hi, ei, ti0, gi⟩ := P.has hy my
    have hi4 : i < 4 := by have := P.1; omega
    have gz := own_absent P hz mz
    show W K l _ n0 _ h0 0 0 0 #[.val (.ref t), .val (.int (Int32.ofNat y)), .val (.int (Int32.ofNat z)), .unset] []
    refine w_aloadN ok d12_0 rfl rfl ?_
    refine w_getfield ok (v := (.ref sl)) (host := "") (f := ("com/example/rowan/rowan/store/IdleHeap", "slots", "[I", (.array .int))) 2 d12_1 (Or.inl (hw _ (List.mem_of_getElem? (i := 15) rfl))) Via.refl A_t rfl rfl ?_
    refine w_iloadN ok d12_4 rfl ?_
    refine w_iaload ok (v := (.int (Int32.ofNat i))) d12_5 A_sl (own_ix0 hy) (gi ▸ own_svg hy) ?_
    refine w_istoreN ok d12_6 (L' := #[.val (.ref t), .val (.int (Int32.ofNat y)), .val (.int (Int32.ofNat z)), .val (.int (Int32.ofNat i))]) rfl ?_
    refine w_aloadN ok d12_7 rfl rfl ?_
    refine w_getfield ok (v := (.ref sl)) (host := "") (f := ("com/example/rowan/rowan/store/IdleHeap", "slots", "[I", (.array .int))) 2 d12_8 (Or.inl (hw _ (List.mem_of_getElem? (i := 15) rfl))) Via.refl A_t rfl rfl ?_
    refine w_iloadN ok d12_11 rfl ?_
    refine w_iconst ok d12_12 (v := (-1 : Int32)) rfl ?_
    refine w_iastore ok d12_13 A_sl ge_sl (own_ix0 hy) (own_svl hy) (fun h1 W_h1 A1_h1 => ?_)
    replace Kp := Kp.wr W_h1 (Or.inl (by simp))
    replace A_t := A_t.other W_h1 ne_t_sl
    replace A_en := A_en.other W_h1 ne_en_sl
    replace A_ti := A_ti.other W_h1 ne_ti_sl
    replace A_sl : PA .int Z h1 sl ((sv 4 g).set (Int32.ofNat y).toNatClampNeg (.int (-1 : Int32))) := A1_h1
    rw [own_ix hy, sv_set] at A_sl
    refine w_aloadN ok d12_14 rfl rfl ?_
    refine w_getfield ok (v := (.ref sl)) (host := "") (f := ("com/example/rowan/rowan/store/IdleHeap", "slots", "[I", (.array .int))) 2 d12_15 (Or.inl (hw _ (List.mem_of_getElem? (i := 15) rfl))) Via.refl A_t rfl rfl ?_
    refine w_iloadN ok d12_18 rfl ?_
    refine w_iloadN ok d12_19 rfl ?_
    refine w_iastore ok d12_20 A_sl ge_sl (own_ix0 hz) (own_svl hz) (fun h2 W_h2 A1_h2 => ?_)
    replace Kp := Kp.wr W_h2 (Or.inl (by simp))
    replace A_t := A_t.other W_h2 ne_t_sl
    replace A_en := A_en.other W_h2 ne_en_sl
    replace A_ti := A_ti.other W_h2 ne_ti_sl
    replace A_sl : PA .int Z h2 sl ((sv 4 (upd g y (-1 : Int32))).set (Int32.ofNat z).toNatClampNeg (.int (Int32.ofNat i))) := A1_h2
    rw [own_ix hz, sv_set] at A_sl
    refine w_iloadN ok d12_21 rfl ?_
    refine w_iconst ok d12_22 (v := (-1 : Int32)) rfl ?_
    refine w_icmp_eq ok d12_23 (pc' := 33) (by decide) (fun hc4 => False.elim (by exact own_ne1 hi4 hc4)) (fun hc4 => ?_)
    show W K l _ n0 _ h2 0 0 26 #[.val (.ref t), .val (.int (Int32.ofNat y)), .val (.int (Int32.ofNat z)), .val (.int (Int32.ofNat i))] []
    refine w_aloadN ok d12_26 rfl rfl ?_
    refine w_getfield ok (v := (.ref en)) (host := "") (f := ("com/example/rowan/rowan/store/IdleHeap", "entries", "[I", (.array .int))) 0 d12_27 (Or.inl (hw _ (List.mem_of_getElem? (i := 10) rfl))) Via.refl A_t rfl rfl ?_
    refine w_iloadN ok d12_30 rfl ?_
    refine w_iloadN ok d12_31 rfl ?_
    refine w_iastore ok d12_32 A_en ge_en (own_ix0 hi4) (own_svl hi4) (fun h5 W_h5 A1_h5 => ?_)
    replace Kp := Kp.wr W_h5 (Or.inl (by simp))
    replace A_t := A_t.other W_h5 ne_t_en
    replace A_ti := A_ti.other W_h5 (Ne.symm ne_en_ti)
    replace A_sl := A_sl.other W_h5 (Ne.symm ne_en_sl)
    replace A_en : PA .int Z h5 en ((sv 4 e).set (Int32.ofNat i).toNatClampNeg (.int (Int32.ofNat z))) := A1_h5
    rw [own_ix hi4, sv_set] at A_en
    refine w_ret ok d12_33 (by decide) (by decide) ?_
    exact ⟨rfl, _, _, _, Kp, A_t, A_en, A_ti, A_sl, P.ren hi hy hz ei my mz, H, fun q => by rw [P.dist hi (Nat.lt_of_le_of_lt (Nat.zero_le _) hi) hy ei q, upd_same], fun q => upd_ne (fun r => q (r ▸ ei))⟩
set_option maxRecDepth 65536 in
set_option maxHeartbeats 40000000 in
theorem rm_ren0 (l : Launch) (Z : State) (a0 : Array Value) (hw : ∀ d ∈ tables_1, d.before a0 Z = true) (ws : List Jvm.Cond) (n0 : Nat) (h0 : Heap) (Z0 : Old Z n0 h0) (t en ti sl : Addr) (sz : Nat) (e g : Nat → Int32) (τ : Nat → Int64) (A_t : Ob Z h0 t "com/example/rowan/rowan/store/IdleHeap" fl_IdleHeap [.ref en, .ref ti, .ref sl, .int (Int32.ofNat sz)]) (A_en : PA .int Z h0 en (sv 4 e)) (A_ti : PA .long Z h0 ti (lv 4 τ)) (A_sl : PA .int Z h0 sl (sv 4 g)) (ge_t : n0 ≤ t) (ge_en : n0 ≤ en) (ge_ti : n0 ≤ ti) (ge_sl : n0 ≤ sl) (ne_t_en : t ≠ en) (ne_t_ti : t ≠ ti) (ne_t_sl : t ≠ sl) (ne_en_ti : en ≠ ti) (ne_en_sl : en ≠ sl) (ne_ti_sl : ti ≠ sl) (M : Nat → Option Int64) (P : PP sz e τ g M) (H : HO sz τ) (y z : Nat) (hy : y < 4) (hz : z < 4) (my : M y = none) (mz : M z = none) :
    Met l Z n0 (⟨"com/example/rowan/rowan/store/IdleHeap", "renumber", "(II)V"⟩ : MethodName) prog_26_method_8_code 4 none ws ({ frames := 0, cells := 0, slots := 0, locals := 0 } : Room) #[(.ref t), (.int (Int32.ofNat y)), (.int (Int32.ofNat z))] h0 (fun u h => u = none ∧ Keep h0 h [t, en, ti, sl] ∧ Ob Z h t "com/example/rowan/rowan/store/IdleHeap" fl_IdleHeap [.ref en, .ref ti, .ref sl, .int (Int32.ofNat sz)] ∧ PA .int Z h en (sv 4 e) ∧ PA .long Z h ti (lv 4 τ) ∧ PA .int Z h sl (sv 4 g)) := by
  refine met_of Z0 (plainFor_of_name pn_com_example_rowan_rowan_store_IdleHeap) (Ls := #[.val (.ref t), .val (.int (Int32.ofNat y)), .val (.int (Int32.ofNat z)), .unset]) (fun m => by first | (simp [entryFrame, mkF, argsToLocals, Value.category]; done) | rfl) ?_
  intro K ok
  skip
  · have Kp : Keep h0 h0 [t, en, ti, sl] := Keep.refl _ _
    have gy := own_absent P hy my
    have gz := own_absent P hz mz
    show W K l _ n0 _ h0 0 0 0 #[.val (.ref t), .val (.int (Int32.ofNat y)), .val (.int (Int32.ofNat z)), .unset] []
    refine w_aloadN ok d12_0 rfl rfl ?_
    refine w_getfield ok (v := (.ref sl)) (host := "") (f := ("com/example/rowan/rowan/store/IdleHeap", "slots", "[I", (.array .int))) 2 d12_1 (Or.inl (hw _ (List.mem_of_getElem? (i := 15) rfl))) Via.refl A_t rfl rfl ?_
    refine w_iloadN ok d12_4 rfl ?_
    refine w_iaload ok (v := (.int (-1 : Int32))) d12_5 A_sl (own_ix0 hy) (gy ▸ own_svg hy) ?_
    refine w_istoreN ok d12_6 (L' := #[.val (.ref t), .val (.int (Int32.ofNat y)), .val (.int (Int32.ofNat z)), .val (.int (-1 : Int32))]) rfl ?_
    refine w_aloadN ok d12_7 rfl rfl ?_
    refine w_getfield ok (v := (.ref sl)) (host := "") (f := ("com/example/rowan/rowan/store/IdleHeap", "slots", "[I", (.array .int))) 2 d12_8 (Or.inl (hw _ (List.mem_of_getElem? (i := 15) rfl))) Via.refl A_t rfl rfl ?_
    refine w_iloadN ok d12_11 rfl ?_
    refine w_iconst ok d12_12 (v := (-1 : Int32)) rfl ?_
    refine w_iastore ok d12_13 A_sl ge_sl (own_ix0 hy) (own_svl hy) (fun h1 W_h1 A1_h1 => ?_)
    replace Kp := Kp.wr W_h1 (Or.inl (by simp))
    replace A_t := A_t.other W_h1 ne_t_sl
    replace A_en := A_en.other W_h1 ne_en_sl
    replace A_ti := A_ti.other W_h1 ne_ti_sl
    replace A_sl : PA .int Z h1 sl ((sv 4 g).set (Int32.ofNat y).toNatClampNeg (.int (-1 : Int32))) := A1_h1
    rw [own_ix hy, sv_set] at A_sl
    refine w_aloadN ok d12_14 rfl rfl ?_
    refine w_getfield ok (v := (.ref sl)) (host := "") (f := ("com/example/rowan/rowan/store/IdleHeap", "slots", "[I", (.array .int))) 2 d12_15 (Or.inl (hw _ (List.mem_of_getElem? (i := 15) rfl))) Via.refl A_t rfl rfl ?_
    refine w_iloadN ok d12_18 rfl ?_
    refine w_iloadN ok d12_19 rfl ?_
    refine w_iastore ok d12_20 A_sl ge_sl (own_ix0 hz) (own_svl hz) (fun h2 W_h2 A1_h2 => ?_)
    replace Kp := Kp.wr W_h2 (Or.inl (by simp))
    replace A_t := A_t.other W_h2 ne_t_sl
    replace A_en := A_en.other W_h2 ne_en_sl
    replace A_ti := A_ti.other W_h2 ne_ti_sl
    replace A_sl : PA .int Z h2 sl ((sv 4 (upd g y (-1 : Int32))).set (Int32.ofNat z).toNatClampNeg (.int (-1 : Int32))) := A1_h2
    rw [own_ix hz, sv_set] at A_sl
    refine w_iloadN ok d12_21 rfl ?_
    refine w_iconst ok d12_22 (v := (-1 : Int32)) rfl ?_
    refine w_icmp_eq ok d12_23 (pc' := 33) (by decide) (fun hc4 => ?_) (fun hc4 => False.elim (by revert hc4; decide))
    show W K l _ n0 _ h2 0 0 33 #[.val (.ref t), .val (.int (Int32.ofNat y)), .val (.int (Int32.ofNat z)), .val (.int (-1 : Int32))] []
    refine w_ret ok d12_33 (by decide) (by decide) ?_
    exact ⟨rfl, Kp, A_t, A_en, A_ti, by rw [own_uid g y gy, own_uid g z gz] at A_sl; exact A_sl⟩
set_option maxRecDepth 65536 in
set_option maxHeartbeats 40000000 in
theorem rm_remove0 (l : Launch) (Z : State) (a0 : Array Value) (hw : ∀ d ∈ tables_1, d.before a0 Z = true) (ws : List Jvm.Cond) (n0 : Nat) (h0 : Heap) (Z0 : Old Z n0 h0) (t en ti sl : Addr) (sz : Nat) (e g : Nat → Int32) (τ : Nat → Int64) (A_t : Ob Z h0 t "com/example/rowan/rowan/store/IdleHeap" fl_IdleHeap [.ref en, .ref ti, .ref sl, .int (Int32.ofNat sz)]) (A_en : PA .int Z h0 en (sv 4 e)) (A_ti : PA .long Z h0 ti (lv 4 τ)) (A_sl : PA .int Z h0 sl (sv 4 g)) (ge_t : n0 ≤ t) (ge_en : n0 ≤ en) (ge_ti : n0 ≤ ti) (ge_sl : n0 ≤ sl) (ne_t_en : t ≠ en) (ne_t_ti : t ≠ ti) (ne_t_sl : t ≠ sl) (ne_en_ti : en ≠ ti) (ne_en_sl : en ≠ sl) (ne_ti_sl : ti ≠ sl) (M : Nat → Option Int64) (P : PP sz e τ g M) (H : HO sz τ) (y : Nat) (hy : y < 4) (m0 : M y = none) :
    Met l Z n0 (⟨"com/example/rowan/rowan/store/IdleHeap", "remove", "(I)V"⟩ : MethodName) prog_26_method_7_code 4 none ws ({ frames := 0, cells := 0, slots := 0, locals := 0 } : Room) #[(.ref t), (.int (Int32.ofNat y))] h0 (fun u h => u = none ∧ h0 = h) := by
  refine met_of Z0 (plainFor_of_name pn_com_example_rowan_rowan_store_IdleHeap) (Ls := #[.val (.ref t), .val (.int (Int32.ofNat y)), .unset, .unset]) (fun m => by first | (simp [entryFrame, mkF, argsToLocals, Value.category]; done) | rfl) ?_
  intro K ok
  skip
  · have Kp : Keep h0 h0 [t, en, ti, sl] := Keep.refl _ _
    have g0 : g y = -1 := own_absent P hy m0
    show W K l _ n0 _ h0 0 0 0 #[.val (.ref t), .val (.int (Int32.ofNat y)), .unset, .unset] []
    refine w_aloadN ok d13_0 rfl rfl ?_
    refine w_getfield ok (v := (.ref sl)) (host := "") (f := ("com/example/rowan/rowan/store/IdleHeap", "slots", "[I", (.array .int))) 2 d13_1 (Or.inl (hw _ (List.mem_of_getElem? (i := 15) rfl))) Via.refl A_t rfl rfl ?_
    refine w_iloadN ok d13_4 rfl ?_
    refine w_iaload ok (v := (.int (-1 : Int32))) d13_5 A_sl (own_ix0 hy) (g0 ▸ own_svg hy) ?_
    refine w_istoreN ok d13_6 (L' := #[.val (.ref t), .val (.int (Int32.ofNat y)), .val (.int (-1 : Int32)), .unset]) rfl ?_
    refine w_iloadN ok d13_7 rfl ?_
    refine w_iconst ok d13_8 (v := (-1 : Int32)) rfl ?_
    refine w_icmp_ne ok d13_9 (pc' := 13) (by decide) (fun hc1 => False.elim (by revert hc1; decide)) (fun hc1 => ?_)
    show W K l _ n0 _ h0 0 0 12 #[.val (.ref t), .val (.int (Int32.ofNat y)), .val (.int (-1 : Int32)), .unset] []
    refine w_ret ok d13_12 (by decide) (by decide) ?_
    exact ⟨rfl, rfl⟩
theorem d15_0 : decode prog_26_method_3_code 0 = .ok (.aload_n 0, 1) := by decide +kernel
theorem d15_1 : decode prog_26_method_3_code 1 = .ok (.getfield 33, 3) := by decide +kernel
theorem d15_4 : decode prog_26_method_3_code 4 = .ok (.ifCond .ne 7, 3) := by decide +kernel
theorem d15_7 : decode prog_26_method_3_code 7 = .ok (.iconst (-1), 1) := by decide +kernel
theorem d15_8 : decode prog_26_method_3_code 8 = .ok (.goto 9, 3) := by decide +kernel
theorem d15_11 : decode prog_26_method_3_code 11 = .ok (.aload_n 0, 1) := by decide +kernel
theorem d15_12 : decode prog_26_method_3_code 12 = .ok (.getfield 7, 3) := by decide +kernel
theorem d15_15 : decode prog_26_method_3_code 15 = .ok (.iconst 0, 1) := by decide +kernel
theorem d15_16 : decode prog_26_method_3_code 16 = .ok (.iaload, 1) := by decide +kernel
theorem d15_17 : decode prog_26_method_3_code 17 = .ok (.ireturn, 1) := by decide +kernel
set_option maxRecDepth 65536 in
set_option maxHeartbeats 40000000 in
theorem rm_first (l : Launch) (Z : State) (a0 : Array Value) (hw : ∀ d ∈ tables_1, d.before a0 Z = true) (ws : List Jvm.Cond) (n0 : Nat) (h0 : Heap) (Z0 : Old Z n0 h0) (t en ti sl : Addr) (sz : Nat) (e g : Nat → Int32) (τ : Nat → Int64) (A_t : Ob Z h0 t "com/example/rowan/rowan/store/IdleHeap" fl_IdleHeap [.ref en, .ref ti, .ref sl, .int (Int32.ofNat sz)]) (A_en : PA .int Z h0 en (sv 4 e)) (A_ti : PA .long Z h0 ti (lv 4 τ)) (A_sl : PA .int Z h0 sl (sv 4 g)) (ge_t : n0 ≤ t) (ge_en : n0 ≤ en) (ge_ti : n0 ≤ ti) (ge_sl : n0 ≤ sl) (ne_t_en : t ≠ en) (ne_t_ti : t ≠ ti) (ne_t_sl : t ≠ sl) (ne_en_ti : en ≠ ti) (ne_en_sl : en ≠ sl) (ne_ti_sl : ti ≠ sl) (M : Nat → Option Int64) (P : PP sz e τ g M) (H : HO sz τ)  :
    Met l Z n0 (⟨"com/example/rowan/rowan/store/IdleHeap", "first", "()I"⟩ : MethodName) prog_26_method_3_code 1 (some .int) ws ({ frames := 0, cells := 0, slots := 0, locals := 0 } : Room) #[(.ref t)] h0 (fun u h => h0 = h ∧ ((sz = 0 ∧ u = some (.int (-1))) ∨ ∃ y, y < 4 ∧ 0 < sz ∧ e 0 = Int32.ofNat y ∧ u = some (.int (Int32.ofNat y)))) := by
  refine met_of Z0 (plainFor_of_name pn_com_example_rowan_rowan_store_IdleHeap) (Ls := #[.val (.ref t)]) (fun m => by first | (simp [entryFrame, mkF, argsToLocals, Value.category]; done) | rfl) ?_
  intro K ok
  obtain rfl | hs : sz = 0 ∨ 0 < sz := by omega
  · have Kp : Keep h0 h0 [t, en, ti, sl] := Keep.refl _ _
    show W K l _ n0 _ h0 0 0 0 #[.val (.ref t)] []
    refine w_aloadN ok d15_0 rfl rfl ?_
    refine w_getfield ok (v := (.int (0 : Int32))) (host := "") (f := ("com/example/rowan/rowan/store/IdleHeap", "size", "I", .int)) 3 d15_1 (Or.inl (hw _ (List.mem_of_getElem? (i := 48) rfl))) Via.refl A_t rfl rfl ?_
    refine w_if_ne ok d15_4 (pc' := 11) (by decide) (fun hc1 => False.elim (by revert hc1; decide)) (fun hc1 => ?_)
    show W K l _ n0 _ h0 0 0 7 #[.val (.ref t)] []
    refine w_iconst ok d15_7 (v := (-1 : Int32)) rfl ?_
    refine w_goto ok d15_8 (pc' := 17) (by decide) ?_
    refine w_iret ok d15_17 (by decide) (by decide) ?_
    exact ⟨rfl, Or.inl ⟨rfl, rfl⟩⟩
  · have Kp : Keep h0 h0 [t, en, ti, sl] := Keep.refl _ _
    obtain ⟨y, hy, ey, -, -⟩ := P.2.1 0 hs
    show W K l _ n0 _ h0 0 0 0 #[.val (.ref t)] []
    refine w_aloadN ok d15_0 rfl rfl ?_
    refine w_getfield ok (v := (.int (Int32.ofNat sz))) (host := "") (f := ("com/example/rowan/rowan/store/IdleHeap", "size", "I", .int)) 3 d15_1 (Or.inl (hw _ (List.mem_of_getElem? (i := 48) rfl))) Via.refl A_t rfl rfl ?_
    refine w_if_ne ok d15_4 (pc' := 11) (by decide) (fun hc1 => ?_) (fun hc1 => False.elim (by exact absurd (own_inj (b := 0) (by have := P.1; omega) (by decide) hc1) (by omega)))
    show W K l _ n0 _ h0 0 0 11 #[.val (.ref t)] []
    refine w_aloadN ok d15_11 rfl rfl ?_
    refine w_getfield ok (v := (.ref en)) (host := "") (f := ("com/example/rowan/rowan/store/IdleHeap", "entries", "[I", (.array .int))) 0 d15_12 (Or.inl (hw _ (List.mem_of_getElem? (i := 10) rfl))) Via.refl A_t rfl rfl ?_
    refine w_iconst ok d15_15 (v := (0 : Int32)) rfl ?_
    refine w_iaload ok (v := (.int (Int32.ofNat y))) d15_16 A_en (by decide) (ey ▸ own_svg (j := 0) (by decide)) ?_
    refine w_iret ok d15_17 (by decide) (by decide) ?_
    exact ⟨rfl, Or.inr ⟨y, hy, hs, ey, rfl⟩⟩
theorem own_and3 (x : Int32) : ∃ r, r < 4 ∧ x &&& 3 = Int32.ofNat r := by
  have e5 := c_mask x 3 2 (by decide) (by decide)
  refine ⟨(x &&& 3).toInt.toNat, by omega, ?_⟩
  apply Int32.toInt_inj.mp
  rw [own_ofNat (by omega)]; omega
theorem own_lt4 {a b : Nat} (ha : a < 4) (hb : b < 4) : Int32.ofNat a < Int32.ofNat b ↔ a < b := by
  rw [Int32.lt_iff_toInt_lt, own_ofNat (by omega), own_ofNat (by omega)]; omega
theorem own_pp0 : PP 0 (fun _ => 0) (fun _ => 0) (fun _ => -1) (fun _ => none) := ⟨by decide, fun i hi => absurd hi (Nat.not_lt_zero _), fun y hy => Or.inl ⟨rfl, rfl⟩⟩
theorem own_ho0 : HO 0 (fun _ => 0) := fun i hi => absurd hi (Nat.not_lt_zero _)
theorem own_least {sz : Nat} {e g : Nat → Int32} {τ : Nat → Int64} {M : Nat → Option Int64} (P : PP sz e τ g M) (H : HO sz τ) {y j : Nat} {v w : Int64} (hs : 0 < sz) (hy : y < 4) (ey : e 0 = Int32.ofNat y) (hj : j < 4) (my : M y = some w) (mj : M j = some v) : ¬ v < w := by
  obtain ⟨i, hi, -, hv, -⟩ := P.has hj mj
  have m0 := (P.at hs hy ey).1
  rw [my] at m0
  have q := H i hi
  rw [← Option.some.inj m0, hv] at q
  exact own_le64 q
theorem own_none0 {e g : Nat → Int32} {τ : Nat → Int64} {M : Nat → Option Int64} (P : PP 0 e τ g M) {y : Nat} {v : Int64} (hy : y < 4) (my : M y = some v) : False := by
  obtain ⟨i, hi, -⟩ := P.has hy my
  exact absurd hi (Nat.not_lt_zero _)
def own_map (a b c : Int32) : Int32 := if a = b then c else a
theorem own_one {e g : Nat → Int32} {τ : Nat → Int64} {a : Int64} (P : PP 1 e τ g (put (fun _ => none) 0 (some a))) : e 0 = Int32.ofNat 0 ∧ τ 0 = a := by
  obtain ⟨i, hi, ei, ti, -⟩ := P.has (y := 0) (by decide) rfl
  obtain rfl : i = 0 := by omega
  exact ⟨ei, ti⟩
theorem own_two {e g : Nat → Int32} {τ : Nat → Int64} {a b : Int64} (P : PP 2 e τ g (put (put (fun _ => none) 0 (some a)) 1 (some b))) (H : HO 2 τ) (h : b < a) : e 0 = Int32.ofNat 1 := by
  obtain ⟨y, hy, ey, my, -⟩ := P.2.1 0 (by decide)
  obtain rfl | rfl | rfl | rfl : y = 0 ∨ y = 1 ∨ y = 2 ∨ y = 3 := by omega
  · exact absurd h (own_least P H (y := 0) (j := 1) (by decide) (by decide) ey (by decide) rfl rfl)
  · exact ey
  · cases (show none = some (τ 0) from my)
  · cases (show none = some (τ 0) from my)
theorem own_and1 (x : Int32) : x &&& 1 = 0 ∨ x &&& 1 = 1 := by
  have e5 := c_mask x 1 1 (by decide) (by decide)
  have h : (x &&& 1).toInt = 0 ∨ (x &&& 1).toInt = 1 := by omega
  rcases h with h | h
  · exact Or.inl (Int32.toInt_inj.mp h)
  · exact Or.inr (Int32.toInt_inj.mp h)
theorem d14_0 : decode method_2_code 0 = .ok (.iload_n 0, 1) := by decide +kernel
theorem d14_1 : decode method_2_code 1 = .ok (.iload_n 1, 1) := by decide +kernel
theorem d14_2 : decode method_2_code 2 = .ok (.if_icmp .ne 7, 3) := by decide +kernel
theorem d14_5 : decode method_2_code 5 = .ok (.iload_n 2, 1) := by decide +kernel
theorem d14_6 : decode method_2_code 6 = .ok (.goto 4, 3) := by decide +kernel
theorem d14_9 : decode method_2_code 9 = .ok (.iload_n 0, 1) := by decide +kernel
theorem d14_10 : decode method_2_code 10 = .ok (.ireturn, 1) := by decide +kernel
theorem pn_com_example_rowan_rowan_store_IdleHeapRenumberPinLaw : plainName "com/example/rowan/rowan/store/IdleHeapRenumberPinLaw" = true := by first | (simp [plainName, overriddenIn]; done) | decide +kernel
set_option maxRecDepth 65536 in
set_option maxHeartbeats 40000000 in
theorem rm_map (l : Launch) (Z : State) (a0 : Array Value) (hw : ∀ d ∈ tables_1, d.before a0 Z = true) (ws : List Jvm.Cond) (n0 : Nat) (h0 : Heap) (Z0 : Old Z n0 h0) (a b c : Int32)  :
    Met l Z n0 (⟨"com/example/rowan/rowan/store/IdleHeapRenumberPinLaw", "map", "(III)I"⟩ : MethodName) method_2_code 3 (some .int) ws ({ frames := 0, cells := 0, slots := 0, locals := 0 } : Room) #[(.int a), (.int b), (.int c)] h0 (fun u h => u = some (.int (own_map a b c)) ∧ h0 = h) := by
  refine met_of Z0 (plainFor_of_name pn_com_example_rowan_rowan_store_IdleHeapRenumberPinLaw) (Ls := #[.val (.int a), .val (.int b), .val (.int c)]) (fun m => by first | (simp [entryFrame, mkF, argsToLocals, Value.category]; done) | rfl) ?_
  intro K ok
  show W K l _ n0 _ h0 0 0 0 #[.val (.int a), .val (.int b), .val (.int c)] []
  refine w_iloadN ok d14_0 rfl ?_
  refine w_iloadN ok d14_1 rfl ?_
  refine w_icmp_ne ok d14_2 (pc' := 9) (by decide) (fun hc1 => ?_) (fun hc1 => ?_)
  · show W K l _ n0 _ h0 0 0 9 #[.val (.int a), .val (.int b), .val (.int c)] []
    refine w_iloadN ok d14_9 rfl ?_
    refine w_iret ok d14_10 (by decide) (by decide) ?_
    exact ⟨by simp [own_map, *], rfl⟩
  · show W K l _ n0 _ h0 0 0 5 #[.val (.int a), .val (.int b), .val (.int c)] []
    refine w_iloadN ok d14_5 rfl ?_
    refine w_goto ok d14_6 (pc' := 10) (by decide) ?_
    refine w_iret ok d14_10 (by decide) (by decide) ?_
    exact ⟨by simp [own_map, *], rfl⟩
theorem pd_2829V : parseMethodDescriptor "()V" = some ⟨[], none⟩ := by decide +kernel
theorem pd_28IJ29V : parseMethodDescriptor "(IJ)V" = some ⟨[.int, .long], none⟩ := by decide +kernel
theorem pd_28II29V : parseMethodDescriptor "(II)V" = some ⟨[.int, .int], none⟩ := by decide +kernel
theorem pd_28III29I : parseMethodDescriptor "(III)I" = some ⟨[.int, .int, .int], some .int⟩ := by decide +kernel
theorem pd_2829I : parseMethodDescriptor "()I" = some ⟨[], some .int⟩ := by decide +kernel
set_option maxRecDepth 65536 in
set_option maxHeartbeats 40000000 in
theorem rm0 (l : Launch) (Z : State) (a0 : Array Value) (hw : ∀ d ∈ tables_1, d.before a0 Z = true) (ws : List Jvm.Cond) (n0 : Nat) (h0 : Heap) (Z0 : Old Z n0 h0) (t0 t1 : Int64) (flags f gg : Int32)  :
    Met l Z n0 x code maxLocals ret ws room_1 #[(.long t0), (.long t1), (.int flags), (.int f), (.int gg)] h0 (fun u h => u = some (.int 1)) := by
  refine met_of Z0 (plainFor_of_name pn_com_example_rowan_rowan_store_IdleHeapRenumberPinLaw) (Ls := #[.val (.long t0), .second, .val (.long t1), .second, .val (.int flags), .val (.int f), .val (.int gg), .unset, .unset, .unset, .unset, .unset, .unset, .unset, .unset]) (fun m => by first | (simp [entryFrame, mkF, argsToLocals, Value.category, maxLocals]; done) | rfl) ?_
  intro K ok
  show W K l _ n0 _ h0 0 0 0 #[.val (.long t0), .second, .val (.long t1), .second, .val (.int flags), .val (.int f), .val (.int gg), .unset, .unset, .unset, .unset, .unset, .unset, .unset, .unset] []
  refine w_iload ok at_0 rfl ?_
  refine w_iconst ok at_2 (v := (1 : Int32)) rfl ?_
  refine w_iand ok at_3 ?_
  refine w_if_eq ok at_4 (pc' := 11) (by decide) (fun hc1 => ?_) (fun hc1 => ?_)
  · show W K l _ n0 _ h0 0 0 11 #[.val (.long t0), .second, .val (.long t1), .second, .val (.int flags), .val (.int f), .val (.int gg), .unset, .unset, .unset, .unset, .unset, .unset, .unset, .unset] []
    refine w_iconst ok at_11 (v := (0 : Int32)) rfl ?_
    refine w_istore ok at_12 (L' := #[.val (.long t0), .second, .val (.long t1), .second, .val (.int flags), .val (.int f), .val (.int gg), .val (.int (0 : Int32)), .unset, .unset, .unset, .unset, .unset, .unset, .unset]) rfl ?_
    refine w_iload ok at_14 rfl ?_
    refine w_iconst ok at_16 (v := (3 : Int32)) rfl ?_
    refine w_iand ok at_17 ?_
    refine w_istore ok at_18 (L' := #[.val (.long t0), .second, .val (.long t1), .second, .val (.int flags), .val (.int f), .val (.int gg), .val (.int (0 : Int32)), .val (.int (f &&& (3 : Int32))), .unset, .unset, .unset, .unset, .unset, .unset]) rfl ?_
    show W K l _ n0 _ h0 0 0 20 #[.val (.long t0), .second, .val (.long t1), .second, .val (.int flags), .val (.int f), .val (.int gg), .val (.int (0 : Int32)), .val (.int (f &&& (3 : Int32))), .unset, .unset, .unset, .unset, .unset, .unset] []
    obtain ⟨fr, hfr, efr⟩ := own_and3 f
    rw [efr]
    obtain rfl | rfl | rfl | rfl : fr = 0 ∨ fr = 1 ∨ fr = 2 ∨ fr = 3 := by omega
    · skip
      show W K l _ n0 _ h0 0 0 20 #[.val (.long t0), .second, .val (.long t1), .second, .val (.int flags), .val (.int f), .val (.int gg), .val (.int (0 : Int32)), .val (.int (0 : Int32)), .unset, .unset, .unset, .unset, .unset, .unset] []
      refine w_iload ok at_20 rfl ?_
      refine w_iconst ok at_22 (v := (2 : Int32)) rfl ?_
      refine w_icmp_ne ok at_23 (pc' := 30) (by decide) (fun hc3 => ?_) (fun hc3 => False.elim (by revert hc3; decide))
      show W K l _ n0 _ h0 0 0 30 #[.val (.long t0), .second, .val (.long t1), .second, .val (.int flags), .val (.int f), .val (.int gg), .val (.int (0 : Int32)), .val (.int (0 : Int32)), .unset, .unset, .unset, .unset, .unset, .unset] []
      refine w_iload ok at_30 rfl ?_
      refine w_iconst ok at_32 (v := (3 : Int32)) rfl ?_
      refine w_icmp_ne ok at_33 (pc' := 40) (by decide) (fun hc5 => ?_) (fun hc5 => False.elim (by revert hc5; decide))
      show W K l _ n0 _ h0 0 0 40 #[.val (.long t0), .second, .val (.long t1), .second, .val (.int flags), .val (.int f), .val (.int gg), .val (.int (0 : Int32)), .val (.int (0 : Int32)), .unset, .unset, .unset, .unset, .unset, .unset] []
      refine w_iconst ok at_40 (v := (2 : Int32)) rfl ?_
      refine w_iload ok at_41 rfl ?_
      refine w_iconst ok at_43 (v := (1 : Int32)) rfl ?_
      refine w_iand ok at_44 ?_
      show W K l _ n0 _ h0 0 0 45 #[.val (.long t0), .second, .val (.long t1), .second, .val (.int flags), .val (.int f), .val (.int gg), .val (.int (0 : Int32)), .val (.int (0 : Int32)), .unset, .unset, .unset, .unset, .unset, .unset] [(.int (gg &&& (1 : Int32))), (.int (2 : Int32))]
      rcases own_and1 gg with eg | eg
      · skip
        rw [eg]
        show W K l _ n0 _ h0 0 0 45 #[.val (.long t0), .second, .val (.long t1), .second, .val (.int flags), .val (.int f), .val (.int gg), .val (.int (0 : Int32)), .val (.int (0 : Int32)), .unset, .unset, .unset, .unset, .unset, .unset] [(.int (0 : Int32)), (.int (2 : Int32))]
        refine w_iadd ok at_45 ?_
        show W K l _ n0 _ h0 0 0 46 #[.val (.long t0), .second, .val (.long t1), .second, .val (.int flags), .val (.int f), .val (.int gg), .val (.int (0 : Int32)), .val (.int (0 : Int32)), .unset, .unset, .unset, .unset, .unset, .unset] [(.int (2 : Int32))]
        refine w_istore ok at_46 (L' := #[.val (.long t0), .second, .val (.long t1), .second, .val (.int flags), .val (.int f), .val (.int gg), .val (.int (0 : Int32)), .val (.int (0 : Int32)), .val (.int (2 : Int32)), .unset, .unset, .unset, .unset, .unset]) rfl ?_
        refine w_new ok at_48 (hw _ (List.mem_of_getElem? (i := 0) rfl)) (hw _ (List.mem_of_getElem? (i := 1) rfl)) (hw _ (List.mem_of_getElem? (i := 2) rfl)) (la_IdleHeap hw) (by decide) (by decide) (fun h7 b6 ea_b6 ge_b6 E_b6 A_b6 => ?_)
        replace A_b6 : Ob Z h7 b6 "com/example/rowan/rowan/store/IdleHeap" fl_IdleHeap [.null, .null, .null, (.int (0 : Int32))] := A_b6
        refine w_dup ok at_51 rfl ?_
        refine w_callI ok (y := (⟨"com/example/rowan/rowan/store/IdleHeap", "<init>", "()V"⟩ : MethodName)) (a := b6) (argsL := []) (rest := [(.ref b6)]) at_52 rfl (hw _ (List.mem_of_getElem? (i := 3) rfl)) (hw _ (List.mem_of_getElem? (i := 4) rfl)) (hw _ (List.mem_of_getElem? (i := 2) rfl)) (hw _ (List.mem_of_getElem? (i := 5) rfl)) (by decide) pd_2829V rfl rfl (by decide) (Nat.le_of_ble_eq_true rfl) (by decide) (by decide) (fun z0 => rm_ctor l Z a0 hw [] n0 h7 z0 b6 A_b6 ge_b6) (fun v8 h9 qv8 => ?_)
        obtain ⟨rfl, een, eti, esl, ⟨sz_een, sz_eti, sz_esl⟩, ⟨ge_een, ge_eti, ge_esl⟩, ⟨ne_0, ne_1, ne_2, ne_3, ne_4, ne_5⟩, K1, A1, A_een, A_eti, A_esl⟩ := qv8
        have ne_b6_een : b6 ≠ een := Nat.ne_of_lt (Nat.lt_of_lt_of_le A_b6.lt sz_een)
        have ne_b6_eti : b6 ≠ eti := Nat.ne_of_lt (Nat.lt_of_lt_of_le A_b6.lt sz_eti)
        have ne_b6_esl : b6 ≠ esl := Nat.ne_of_lt (Nat.lt_of_lt_of_le A_b6.lt sz_esl)
        replace A_b6 := A1
        show W K l _ n0 _ h9 4 4 55 #[.val (.long t0), .second, .val (.long t1), .second, .val (.int flags), .val (.int f), .val (.int gg), .val (.int (0 : Int32)), .val (.int (0 : Int32)), .val (.int (2 : Int32)), .unset, .unset, .unset, .unset, .unset] [(.ref b6)]
        refine w_astore ok at_55 rfl (L' := #[.val (.long t0), .second, .val (.long t1), .second, .val (.int flags), .val (.int f), .val (.int gg), .val (.int (0 : Int32)), .val (.int (0 : Int32)), .val (.int (2 : Int32)), .val (.ref b6), .unset, .unset, .unset, .unset]) rfl ?_
        refine w_aload ok at_57 rfl rfl ?_
        refine w_iconst ok at_59 (v := (4 : Int32)) rfl ?_
        refine w_callV ok (y := (⟨"com/example/rowan/rowan/store/IdleHeap", "resize", "(I)V"⟩ : MethodName)) (a := b6) (argsL := [(.int (4 : Int32))]) (rest := []) at_60 (hw _ (List.mem_of_getElem? (i := 17) rfl)) (hw _ (List.mem_of_getElem? (i := 18) rfl)) (hw _ (List.mem_of_getElem? (i := 20) rfl)) (hw _ (List.mem_of_getElem? (i := 19) rfl)) (hw _ (List.mem_of_getElem? (i := 2) rfl)) (hw _ (List.mem_of_getElem? (i := 21) rfl)) (by decide) A_b6.1 pd_28I29V rfl rfl (by decide) (Nat.le_of_ble_eq_true rfl) (by decide) (by decide) (fun z0 => rm_resize l Z a0 hw [] n0 h9 z0 b6 een eti esl A_b6 A_een A_eti A_esl ge_b6 ne_0 ne_1 ne_2 ne_3 ne_4 ne_5) (fun v10 h11 qv10 => ?_)
        obtain ⟨rfl, fen, fti, fsl, ⟨sz_fen, sz_fti, sz_fsl⟩, ⟨ge_fen, ge_fti, ge_fsl⟩, ⟨nf_0, nf_1, nf_2, nf_3, nf_4, nf_5⟩, K1, A1, A_fen, A_fti, A_fsl⟩ := qv10
        have ne_b6_fen : b6 ≠ fen := Nat.ne_of_lt (Nat.lt_of_lt_of_le A_b6.lt sz_fen)
        have ne_een_fen : een ≠ fen := Nat.ne_of_lt (Nat.lt_of_lt_of_le A_een.lt sz_fen)
        have ne_eti_fen : eti ≠ fen := Nat.ne_of_lt (Nat.lt_of_lt_of_le A_eti.lt sz_fen)
        have ne_esl_fen : esl ≠ fen := Nat.ne_of_lt (Nat.lt_of_lt_of_le A_esl.lt sz_fen)
        have ne_b6_fti : b6 ≠ fti := Nat.ne_of_lt (Nat.lt_of_lt_of_le A_b6.lt sz_fti)
        have ne_een_fti : een ≠ fti := Nat.ne_of_lt (Nat.lt_of_lt_of_le A_een.lt sz_fti)
        have ne_eti_fti : eti ≠ fti := Nat.ne_of_lt (Nat.lt_of_lt_of_le A_eti.lt sz_fti)
        have ne_esl_fti : esl ≠ fti := Nat.ne_of_lt (Nat.lt_of_lt_of_le A_esl.lt sz_fti)
        have ne_b6_fsl : b6 ≠ fsl := Nat.ne_of_lt (Nat.lt_of_lt_of_le A_b6.lt sz_fsl)
        have ne_een_fsl : een ≠ fsl := Nat.ne_of_lt (Nat.lt_of_lt_of_le A_een.lt sz_fsl)
        have ne_eti_fsl : eti ≠ fsl := Nat.ne_of_lt (Nat.lt_of_lt_of_le A_eti.lt sz_fsl)
        have ne_esl_fsl : esl ≠ fsl := Nat.ne_of_lt (Nat.lt_of_lt_of_le A_esl.lt sz_fsl)
        replace A_een := A_een.keep K1 (ninS (Ne.symm ne_0) nin0)
        replace A_eti := A_eti.keep K1 (ninS (Ne.symm ne_1) nin0)
        replace A_esl := A_esl.keep K1 (ninS (Ne.symm ne_2) nin0)
        replace A_b6 := A1
        show W K l _ n0 _ h11 7 16 63 #[.val (.long t0), .second, .val (.long t1), .second, .val (.int flags), .val (.int f), .val (.int gg), .val (.int (0 : Int32)), .val (.int (0 : Int32)), .val (.int (2 : Int32)), .val (.ref b6), .unset, .unset, .unset, .unset] []
        refine w_aload ok at_63 rfl rfl ?_
        refine w_iconst ok at_65 (v := (0 : Int32)) rfl ?_
        refine w_lloadN ok at_66 rfl ?_
        refine w_callV ok (y := (⟨"com/example/rowan/rowan/store/IdleHeap", "add", "(IJ)V"⟩ : MethodName)) (a := b6) (argsL := [(.int (0 : Int32)), (.long t0)]) (rest := []) at_67 (hw _ (List.mem_of_getElem? (i := 43) rfl)) (hw _ (List.mem_of_getElem? (i := 44) rfl)) (hw _ (List.mem_of_getElem? (i := 46) rfl)) (hw _ (List.mem_of_getElem? (i := 45) rfl)) (hw _ (List.mem_of_getElem? (i := 2) rfl)) (hw _ (List.mem_of_getElem? (i := 47) rfl)) (by decide) A_b6.1 pd_28IJ29V rfl rfl (by decide) (Nat.le_of_ble_eq_true rfl) (by decide) (by decide) (fun z0 => rm_add l Z a0 hw [] n0 h11 z0 b6 fen fti fsl 0 (fun _ => 0) (fun _ => -1) (fun _ => 0) A_b6 A_fen A_fti A_fsl ge_b6 ge_fen ge_fti ge_fsl nf_0 nf_1 nf_2 nf_3 nf_4 nf_5 (fun _ => none) own_pp0 own_ho0 0 t0 (by decide) rfl (by decide)) (fun v12 h13 qv12 => ?_)
        obtain ⟨rfl, e1, g1, τ1, K1, A0, A1, A2, A3, P1, H1, E1⟩ := qv12
        replace A_b6 : Ob Z h13 b6 "com/example/rowan/rowan/store/IdleHeap" fl_IdleHeap [(.ref fen), (.ref fti), (.ref fsl), (.int (1 : Int32))] := A0
        replace A_fen := A1
        replace A_fti := A2
        replace A_fsl := A3
        show W K l _ n0 _ h13 7 16 70 #[.val (.long t0), .second, .val (.long t1), .second, .val (.int flags), .val (.int f), .val (.int gg), .val (.int (0 : Int32)), .val (.int (0 : Int32)), .val (.int (2 : Int32)), .val (.ref b6), .unset, .unset, .unset, .unset] []
        refine w_iload ok at_70 rfl ?_
        refine w_if_eq ok at_72 (pc' := 82) (by decide) (fun hc15 => ?_) (fun hc15 => False.elim (by revert hc15; decide))
        show W K l _ n0 _ h13 7 16 82 #[.val (.long t0), .second, .val (.long t1), .second, .val (.int flags), .val (.int f), .val (.int gg), .val (.int (0 : Int32)), .val (.int (0 : Int32)), .val (.int (2 : Int32)), .val (.ref b6), .unset, .unset, .unset, .unset] []
        refine w_iload ok at_82 rfl ?_
        refine w_if_eq ok at_84 (pc' := 97) (by decide) (fun hc17 => ?_) (fun hc17 => False.elim (by revert hc17; decide))
        show W K l _ n0 _ h13 7 16 97 #[.val (.long t0), .second, .val (.long t1), .second, .val (.int flags), .val (.int f), .val (.int gg), .val (.int (0 : Int32)), .val (.int (0 : Int32)), .val (.int (2 : Int32)), .val (.ref b6), .unset, .unset, .unset, .unset] []
        refine w_iconst ok at_97 (v := (0 : Int32)) rfl ?_
        show W K l _ n0 _ h13 7 16 98 #[.val (.long t0), .second, .val (.long t1), .second, .val (.int flags), .val (.int f), .val (.int gg), .val (.int (0 : Int32)), .val (.int (0 : Int32)), .val (.int (2 : Int32)), .val (.ref b6), .unset, .unset, .unset, .unset] [(.int (0 : Int32))]
        obtain ⟨o1, o2⟩ := own_one P1
        have E : e1 0 = Int32.ofNat 0 := o1
        refine w_istore ok at_98 (L' := #[.val (.long t0), .second, .val (.long t1), .second, .val (.int flags), .val (.int f), .val (.int gg), .val (.int (0 : Int32)), .val (.int (0 : Int32)), .val (.int (2 : Int32)), .val (.ref b6), .val (.int (0 : Int32)), .unset, .unset, .unset]) rfl ?_
        refine w_iload ok at_100 rfl ?_
        refine w_if_eq ok at_102 (pc' := 112) (by decide) (fun hc19 => ?_) (fun hc19 => False.elim (by revert hc19; decide))
        show W K l _ n0 _ h13 7 16 112 #[.val (.long t0), .second, .val (.long t1), .second, .val (.int flags), .val (.int f), .val (.int gg), .val (.int (0 : Int32)), .val (.int (0 : Int32)), .val (.int (2 : Int32)), .val (.ref b6), .val (.int (0 : Int32)), .unset, .unset, .unset] []
        refine w_iconst ok at_112 (v := (-1 : Int32)) rfl ?_
        refine w_istore ok at_113 (L' := #[.val (.long t0), .second, .val (.long t1), .second, .val (.int flags), .val (.int f), .val (.int gg), .val (.int (0 : Int32)), .val (.int (0 : Int32)), .val (.int (2 : Int32)), .val (.ref b6), .val (.int (0 : Int32)), .val (.int (-1 : Int32)), .unset, .unset]) rfl ?_
        refine w_aload ok at_115 rfl rfl ?_
        refine w_iload ok at_117 rfl ?_
        refine w_iload ok at_119 rfl ?_
        refine w_callV ok (y := (⟨"com/example/rowan/rowan/store/IdleHeap", "renumber", "(II)V"⟩ : MethodName)) (a := b6) (argsL := [(.int (0 : Int32)), (.int (2 : Int32))]) (rest := []) at_121 (hw _ (List.mem_of_getElem? (i := 58) rfl)) (hw _ (List.mem_of_getElem? (i := 59) rfl)) (hw _ (List.mem_of_getElem? (i := 61) rfl)) (hw _ (List.mem_of_getElem? (i := 60) rfl)) (hw _ (List.mem_of_getElem? (i := 2) rfl)) (hw _ (List.mem_of_getElem? (i := 62) rfl)) (by decide) A_b6.1 pd_28II29V rfl rfl (by decide) (Nat.le_of_ble_eq_true rfl) (by decide) (by decide) (fun z0 => rm_ren1 l Z a0 hw [] n0 h13 z0 b6 fen fti fsl 1 e1 g1 τ1 A_b6 A_fen A_fti A_fsl ge_b6 ge_fen ge_fti ge_fsl nf_0 nf_1 nf_2 nf_3 nf_4 nf_5 (put (fun _ => none) 0 (some t0)) P1 H1 0 2 t0 (by decide) (by decide) rfl rfl) (fun v20 h21 qv20 => ?_)
        obtain ⟨rfl, e3, g3, τ3, K1, A0, A1, A2, A3, P3, H3, r1, r2⟩ := qv20
        replace A_b6 : Ob Z h21 b6 "com/example/rowan/rowan/store/IdleHeap" fl_IdleHeap [(.ref fen), (.ref fti), (.ref fsl), (.int (1 : Int32))] := A0
        replace A_fen := A1
        replace A_fti := A2
        replace A_fsl := A3
        replace E := r1 E
        show W K l _ n0 _ h21 7 16 124 #[.val (.long t0), .second, .val (.long t1), .second, .val (.int flags), .val (.int f), .val (.int gg), .val (.int (0 : Int32)), .val (.int (0 : Int32)), .val (.int (2 : Int32)), .val (.ref b6), .val (.int (0 : Int32)), .val (.int (-1 : Int32)), .unset, .unset] []
        refine w_aload ok at_124 rfl rfl ?_
        refine w_iload ok at_126 rfl ?_
        refine w_callV ok (y := (⟨"com/example/rowan/rowan/store/IdleHeap", "remove", "(I)V"⟩ : MethodName)) (a := b6) (argsL := [(.int (0 : Int32))]) (rest := []) at_128 (hw _ (List.mem_of_getElem? (i := 63) rfl)) (hw _ (List.mem_of_getElem? (i := 64) rfl)) (hw _ (List.mem_of_getElem? (i := 66) rfl)) (hw _ (List.mem_of_getElem? (i := 65) rfl)) (hw _ (List.mem_of_getElem? (i := 2) rfl)) (hw _ (List.mem_of_getElem? (i := 67) rfl)) (by decide) A_b6.1 pd_28I29V rfl rfl (by decide) (Nat.le_of_ble_eq_true rfl) (by decide) (by decide) (fun z0 => rm_remove0 l Z a0 hw [] n0 h21 z0 b6 fen fti fsl 1 e3 g3 τ3 A_b6 A_fen A_fti A_fsl ge_b6 ge_fen ge_fti ge_fsl nf_0 nf_1 nf_2 nf_3 nf_4 nf_5 (put (put (put (fun _ => none) 0 (some t0)) 0 none) 2 (some t0)) P3 H3 0 (by decide) rfl) (fun v22 h23 qv22 => ?_)
        obtain ⟨rfl, rfl⟩ := qv22
        show W K l _ n0 _ h21 7 16 131 #[.val (.long t0), .second, .val (.long t1), .second, .val (.int flags), .val (.int f), .val (.int gg), .val (.int (0 : Int32)), .val (.int (0 : Int32)), .val (.int (2 : Int32)), .val (.ref b6), .val (.int (0 : Int32)), .val (.int (-1 : Int32)), .unset, .unset] []
        refine w_iload ok at_131 rfl ?_
        refine w_iload ok at_133 rfl ?_
        refine w_iload ok at_135 rfl ?_
        refine w_callS ok (y := (⟨"com/example/rowan/rowan/store/IdleHeapRenumberPinLaw", "map", "(III)I"⟩ : MethodName)) (argsL := [(.int (0 : Int32)), (.int (0 : Int32)), (.int (2 : Int32))]) (rest := []) at_137 (hw _ (List.mem_of_getElem? (i := 68) rfl)) (hw _ (List.mem_of_getElem? (i := 69) rfl)) (hw _ (List.mem_of_getElem? (i := 70) rfl)) (hw _ (List.mem_of_getElem? (i := 71) rfl)) (by decide) pd_28III29I rfl rfl (by decide) (Nat.le_of_ble_eq_true rfl) (by decide) (by decide) (fun z0 => rm_map l Z a0 hw [] n0 h21 z0 (0 : Int32) (0 : Int32) (2 : Int32)) (fun v24 h25 qv24 => ?_)
        obtain ⟨rfl, rfl⟩ := qv24
        rw [show own_map (0 : Int32) (0 : Int32) (2 : Int32) = (2 : Int32) from rfl]
        show W K l _ n0 _ h21 7 16 140 #[.val (.long t0), .second, .val (.long t1), .second, .val (.int flags), .val (.int f), .val (.int gg), .val (.int (0 : Int32)), .val (.int (0 : Int32)), .val (.int (2 : Int32)), .val (.ref b6), .val (.int (0 : Int32)), .val (.int (-1 : Int32)), .unset, .unset] [(.int (2 : Int32))]
        refine w_istore ok at_140 (L' := #[.val (.long t0), .second, .val (.long t1), .second, .val (.int flags), .val (.int f), .val (.int gg), .val (.int (0 : Int32)), .val (.int (0 : Int32)), .val (.int (2 : Int32)), .val (.ref b6), .val (.int (0 : Int32)), .val (.int (-1 : Int32)), .val (.int (2 : Int32)), .unset]) rfl ?_
        refine w_aload ok at_142 rfl rfl ?_
        refine w_callV ok (y := (⟨"com/example/rowan/rowan/store/IdleHeap", "first", "()I"⟩ : MethodName)) (a := b6) (argsL := []) (rest := []) at_144 (hw _ (List.mem_of_getElem? (i := 72) rfl)) (hw _ (List.mem_of_getElem? (i := 73) rfl)) (hw _ (List.mem_of_getElem? (i := 75) rfl)) (hw _ (List.mem_of_getElem? (i := 74) rfl)) (hw _ (List.mem_of_getElem? (i := 2) rfl)) (hw _ (List.mem_of_getElem? (i := 76) rfl)) (by decide) A_b6.1 pd_2829I rfl rfl (by decide) (Nat.le_of_ble_eq_true rfl) (by decide) (by decide) (fun z0 => rm_first l Z a0 hw [] n0 h21 z0 b6 fen fti fsl 1 e3 g3 τ3 A_b6 A_fen A_fti A_fsl ge_b6 ge_fen ge_fti ge_fsl nf_0 nf_1 nf_2 nf_3 nf_4 nf_5 (put (put (put (fun _ => none) 0 (some t0)) 0 none) 2 (some t0)) P3 H3) (fun v26 h27 qv26 => ?_)
        obtain ⟨rfl, ⟨hs0, rfl⟩ | ⟨y, hy, hs, ey, rfl⟩⟩ := qv26
        · exact absurd hs0 (by decide)
        · skip
          obtain rfl : y = 2 := own_inj hy (by decide) (ey.symm.trans E)
          show W K l _ n0 _ h21 7 16 147 #[.val (.long t0), .second, .val (.long t1), .second, .val (.int flags), .val (.int f), .val (.int gg), .val (.int (0 : Int32)), .val (.int (0 : Int32)), .val (.int (2 : Int32)), .val (.ref b6), .val (.int (0 : Int32)), .val (.int (-1 : Int32)), .val (.int (2 : Int32)), .unset] [(.int (2 : Int32))]
          refine w_iload ok at_147 rfl ?_
          refine w_icmp_eq ok at_149 (pc' := 154) (by decide) (fun hc29 => ?_) (fun hc29 => False.elim (by revert hc29; decide))
          show W K l _ n0 _ h21 7 16 154 #[.val (.long t0), .second, .val (.long t1), .second, .val (.int flags), .val (.int f), .val (.int gg), .val (.int (0 : Int32)), .val (.int (0 : Int32)), .val (.int (2 : Int32)), .val (.ref b6), .val (.int (0 : Int32)), .val (.int (-1 : Int32)), .val (.int (2 : Int32)), .unset] []
          refine w_aload ok at_154 rfl rfl ?_
          refine w_iload ok at_156 rfl ?_
          refine w_callV ok (y := (⟨"com/example/rowan/rowan/store/IdleHeap", "remove", "(I)V"⟩ : MethodName)) (a := b6) (argsL := [(.int (2 : Int32))]) (rest := []) at_158 (hw _ (List.mem_of_getElem? (i := 63) rfl)) (hw _ (List.mem_of_getElem? (i := 64) rfl)) (hw _ (List.mem_of_getElem? (i := 66) rfl)) (hw _ (List.mem_of_getElem? (i := 65) rfl)) (hw _ (List.mem_of_getElem? (i := 2) rfl)) (hw _ (List.mem_of_getElem? (i := 67) rfl)) (by decide) A_b6.1 pd_28I29V rfl rfl (by decide) (Nat.le_of_ble_eq_true rfl) (by decide) (by decide) (fun z0 => rm_remove l Z a0 hw [] n0 h21 z0 b6 fen fti fsl 1 e3 g3 τ3 A_b6 A_fen A_fti A_fsl ge_b6 ge_fen ge_fti ge_fsl nf_0 nf_1 nf_2 nf_3 nf_4 nf_5 (put (put (put (fun _ => none) 0 (some t0)) 0 none) 2 (some t0)) P3 H3 2 (by decide)) (fun v31 h32 qv31 => ?_)
          obtain ⟨rfl, sx30, ex30, gx30, τx30, K1, A0, A1, A2, A3, Px30, Hx30⟩ := qv31
          replace A_b6 : Ob Z h32 b6 "com/example/rowan/rowan/store/IdleHeap" fl_IdleHeap [(.ref fen), (.ref fti), (.ref fsl), (.int (Int32.ofNat sx30))] := A0
          replace A_fen := A1
          replace A_fti := A2
          replace A_fsl := A3
          show W K l _ n0 _ h32 7 16 161 #[.val (.long t0), .second, .val (.long t1), .second, .val (.int flags), .val (.int f), .val (.int gg), .val (.int (0 : Int32)), .val (.int (0 : Int32)), .val (.int (2 : Int32)), .val (.ref b6), .val (.int (0 : Int32)), .val (.int (-1 : Int32)), .val (.int (2 : Int32)), .unset] []
          refine w_iload ok at_161 rfl ?_
          refine w_iconst ok at_163 (v := (-1 : Int32)) rfl ?_
          refine w_icmp_ne ok at_164 (pc' := 171) (by decide) (fun hc34 => False.elim (by revert hc34; decide)) (fun hc34 => ?_)
          show W K l _ n0 _ h32 7 16 167 #[.val (.long t0), .second, .val (.long t1), .second, .val (.int flags), .val (.int f), .val (.int gg), .val (.int (0 : Int32)), .val (.int (0 : Int32)), .val (.int (2 : Int32)), .val (.ref b6), .val (.int (0 : Int32)), .val (.int (-1 : Int32)), .val (.int (2 : Int32)), .unset] []
          refine w_iconst ok at_167 (v := (-1 : Int32)) rfl ?_
          refine w_goto ok at_168 (pc' := 180) (by decide) ?_
          refine w_istore ok at_180 (L' := #[.val (.long t0), .second, .val (.long t1), .second, .val (.int flags), .val (.int f), .val (.int gg), .val (.int (0 : Int32)), .val (.int (0 : Int32)), .val (.int (2 : Int32)), .val (.ref b6), .val (.int (0 : Int32)), .val (.int (-1 : Int32)), .val (.int (2 : Int32)), .val (.int (-1 : Int32))]) rfl ?_
          refine w_aload ok at_182 rfl rfl ?_
          refine w_callV ok (y := (⟨"com/example/rowan/rowan/store/IdleHeap", "first", "()I"⟩ : MethodName)) (a := b6) (argsL := []) (rest := []) at_184 (hw _ (List.mem_of_getElem? (i := 72) rfl)) (hw _ (List.mem_of_getElem? (i := 73) rfl)) (hw _ (List.mem_of_getElem? (i := 75) rfl)) (hw _ (List.mem_of_getElem? (i := 74) rfl)) (hw _ (List.mem_of_getElem? (i := 2) rfl)) (hw _ (List.mem_of_getElem? (i := 76) rfl)) (by decide) A_b6.1 pd_2829I rfl rfl (by decide) (Nat.le_of_ble_eq_true rfl) (by decide) (by decide) (fun z0 => rm_first l Z a0 hw [] n0 h32 z0 b6 fen fti fsl sx30 ex30 gx30 τx30 A_b6 A_fen A_fti A_fsl ge_b6 ge_fen ge_fti ge_fsl nf_0 nf_1 nf_2 nf_3 nf_4 nf_5 (put (put (put (put (fun _ => none) 0 (some t0)) 0 none) 2 (some t0)) 2 none) Px30 Hx30) (fun v35 h36 qv35 => ?_)
          obtain ⟨rfl, ⟨hs0, rfl⟩ | ⟨y, hy, hs, ey, rfl⟩⟩ := qv35
          · skip
            show W K l _ n0 _ h32 7 16 187 #[.val (.long t0), .second, .val (.long t1), .second, .val (.int flags), .val (.int f), .val (.int gg), .val (.int (0 : Int32)), .val (.int (0 : Int32)), .val (.int (2 : Int32)), .val (.ref b6), .val (.int (0 : Int32)), .val (.int (-1 : Int32)), .val (.int (2 : Int32)), .val (.int (-1 : Int32))] [(.int (-1 : Int32))]
            refine w_iload ok at_187 rfl ?_
            refine w_icmp_eq ok at_189 (pc' := 194) (by decide) (fun hc38 => ?_) (fun hc38 => False.elim (by revert hc38; decide))
            show W K l _ n0 _ h32 7 16 194 #[.val (.long t0), .second, .val (.long t1), .second, .val (.int flags), .val (.int f), .val (.int gg), .val (.int (0 : Int32)), .val (.int (0 : Int32)), .val (.int (2 : Int32)), .val (.ref b6), .val (.int (0 : Int32)), .val (.int (-1 : Int32)), .val (.int (2 : Int32)), .val (.int (-1 : Int32))] []
            refine w_iload ok at_194 rfl ?_
            refine w_iconst ok at_196 (v := (-1 : Int32)) rfl ?_
            refine w_icmp_eq ok at_197 (pc' := 218) (by decide) (fun hc40 => ?_) (fun hc40 => False.elim (by revert hc40; decide))
            show W K l _ n0 _ h32 7 16 218 #[.val (.long t0), .second, .val (.long t1), .second, .val (.int flags), .val (.int f), .val (.int gg), .val (.int (0 : Int32)), .val (.int (0 : Int32)), .val (.int (2 : Int32)), .val (.ref b6), .val (.int (0 : Int32)), .val (.int (-1 : Int32)), .val (.int (2 : Int32)), .val (.int (-1 : Int32))] []
            refine w_iconst ok at_218 (v := (1 : Int32)) rfl ?_
            refine w_bret ok (by simp) at_219 (by decide) (by decide) ?_
            exact rfl
          · have my := (Px30.at hs hy ey).1
            obtain rfl | rfl | rfl | rfl : y = 0 ∨ y = 1 ∨ y = 2 ∨ y = 3 := by omega
            · cases (show none = some _ from my)
            · cases (show none = some _ from my)
            · cases (show none = some _ from my)
            · cases (show none = some _ from my)
      · skip
        rw [eg]
        show W K l _ n0 _ h0 0 0 45 #[.val (.long t0), .second, .val (.long t1), .second, .val (.int flags), .val (.int f), .val (.int gg), .val (.int (0 : Int32)), .val (.int (0 : Int32)), .unset, .unset, .unset, .unset, .unset, .unset] [(.int (1 : Int32)), (.int (2 : Int32))]
        refine w_iadd ok at_45 ?_
        show W K l _ n0 _ h0 0 0 46 #[.val (.long t0), .second, .val (.long t1), .second, .val (.int flags), .val (.int f), .val (.int gg), .val (.int (0 : Int32)), .val (.int (0 : Int32)), .unset, .unset, .unset, .unset, .unset, .unset] [(.int (3 : Int32))]
        refine w_istore ok at_46 (L' := #[.val (.long t0), .second, .val (.long t1), .second, .val (.int flags), .val (.int f), .val (.int gg), .val (.int (0 : Int32)), .val (.int (0 : Int32)), .val (.int (3 : Int32)), .unset, .unset, .unset, .unset, .unset]) rfl ?_
        refine w_new ok at_48 (hw _ (List.mem_of_getElem? (i := 0) rfl)) (hw _ (List.mem_of_getElem? (i := 1) rfl)) (hw _ (List.mem_of_getElem? (i := 2) rfl)) (la_IdleHeap hw) (by decide) (by decide) (fun h42 b41 ea_b41 ge_b41 E_b41 A_b41 => ?_)
        replace A_b41 : Ob Z h42 b41 "com/example/rowan/rowan/store/IdleHeap" fl_IdleHeap [.null, .null, .null, (.int (0 : Int32))] := A_b41
        refine w_dup ok at_51 rfl ?_
        refine w_callI ok (y := (⟨"com/example/rowan/rowan/store/IdleHeap", "<init>", "()V"⟩ : MethodName)) (a := b41) (argsL := []) (rest := [(.ref b41)]) at_52 rfl (hw _ (List.mem_of_getElem? (i := 3) rfl)) (hw _ (List.mem_of_getElem? (i := 4) rfl)) (hw _ (List.mem_of_getElem? (i := 2) rfl)) (hw _ (List.mem_of_getElem? (i := 5) rfl)) (by decide) pd_2829V rfl rfl (by decide) (Nat.le_of_ble_eq_true rfl) (by decide) (by decide) (fun z0 => rm_ctor l Z a0 hw [] n0 h42 z0 b41 A_b41 ge_b41) (fun v43 h44 qv43 => ?_)
        obtain ⟨rfl, een, eti, esl, ⟨sz_een, sz_eti, sz_esl⟩, ⟨ge_een, ge_eti, ge_esl⟩, ⟨ne_0, ne_1, ne_2, ne_3, ne_4, ne_5⟩, K1, A1, A_een, A_eti, A_esl⟩ := qv43
        have ne_b41_een : b41 ≠ een := Nat.ne_of_lt (Nat.lt_of_lt_of_le A_b41.lt sz_een)
        have ne_b41_eti : b41 ≠ eti := Nat.ne_of_lt (Nat.lt_of_lt_of_le A_b41.lt sz_eti)
        have ne_b41_esl : b41 ≠ esl := Nat.ne_of_lt (Nat.lt_of_lt_of_le A_b41.lt sz_esl)
        replace A_b41 := A1
        show W K l _ n0 _ h44 4 4 55 #[.val (.long t0), .second, .val (.long t1), .second, .val (.int flags), .val (.int f), .val (.int gg), .val (.int (0 : Int32)), .val (.int (0 : Int32)), .val (.int (3 : Int32)), .unset, .unset, .unset, .unset, .unset] [(.ref b41)]
        refine w_astore ok at_55 rfl (L' := #[.val (.long t0), .second, .val (.long t1), .second, .val (.int flags), .val (.int f), .val (.int gg), .val (.int (0 : Int32)), .val (.int (0 : Int32)), .val (.int (3 : Int32)), .val (.ref b41), .unset, .unset, .unset, .unset]) rfl ?_
        refine w_aload ok at_57 rfl rfl ?_
        refine w_iconst ok at_59 (v := (4 : Int32)) rfl ?_
        refine w_callV ok (y := (⟨"com/example/rowan/rowan/store/IdleHeap", "resize", "(I)V"⟩ : MethodName)) (a := b41) (argsL := [(.int (4 : Int32))]) (rest := []) at_60 (hw _ (List.mem_of_getElem? (i := 17) rfl)) (hw _ (List.mem_of_getElem? (i := 18) rfl)) (hw _ (List.mem_of_getElem? (i := 20) rfl)) (hw _ (List.mem_of_getElem? (i := 19) rfl)) (hw _ (List.mem_of_getElem? (i := 2) rfl)) (hw _ (List.mem_of_getElem? (i := 21) rfl)) (by decide) A_b41.1 pd_28I29V rfl rfl (by decide) (Nat.le_of_ble_eq_true rfl) (by decide) (by decide) (fun z0 => rm_resize l Z a0 hw [] n0 h44 z0 b41 een eti esl A_b41 A_een A_eti A_esl ge_b41 ne_0 ne_1 ne_2 ne_3 ne_4 ne_5) (fun v45 h46 qv45 => ?_)
        obtain ⟨rfl, fen, fti, fsl, ⟨sz_fen, sz_fti, sz_fsl⟩, ⟨ge_fen, ge_fti, ge_fsl⟩, ⟨nf_0, nf_1, nf_2, nf_3, nf_4, nf_5⟩, K1, A1, A_fen, A_fti, A_fsl⟩ := qv45
        have ne_b41_fen : b41 ≠ fen := Nat.ne_of_lt (Nat.lt_of_lt_of_le A_b41.lt sz_fen)
        have ne_een_fen : een ≠ fen := Nat.ne_of_lt (Nat.lt_of_lt_of_le A_een.lt sz_fen)
        have ne_eti_fen : eti ≠ fen := Nat.ne_of_lt (Nat.lt_of_lt_of_le A_eti.lt sz_fen)
        have ne_esl_fen : esl ≠ fen := Nat.ne_of_lt (Nat.lt_of_lt_of_le A_esl.lt sz_fen)
        have ne_b41_fti : b41 ≠ fti := Nat.ne_of_lt (Nat.lt_of_lt_of_le A_b41.lt sz_fti)
        have ne_een_fti : een ≠ fti := Nat.ne_of_lt (Nat.lt_of_lt_of_le A_een.lt sz_fti)
        have ne_eti_fti : eti ≠ fti := Nat.ne_of_lt (Nat.lt_of_lt_of_le A_eti.lt sz_fti)
        have ne_esl_fti : esl ≠ fti := Nat.ne_of_lt (Nat.lt_of_lt_of_le A_esl.lt sz_fti)
        have ne_b41_fsl : b41 ≠ fsl := Nat.ne_of_lt (Nat.lt_of_lt_of_le A_b41.lt sz_fsl)
        have ne_een_fsl : een ≠ fsl := Nat.ne_of_lt (Nat.lt_of_lt_of_le A_een.lt sz_fsl)
        have ne_eti_fsl : eti ≠ fsl := Nat.ne_of_lt (Nat.lt_of_lt_of_le A_eti.lt sz_fsl)
        have ne_esl_fsl : esl ≠ fsl := Nat.ne_of_lt (Nat.lt_of_lt_of_le A_esl.lt sz_fsl)
        replace A_een := A_een.keep K1 (ninS (Ne.symm ne_0) nin0)
        replace A_eti := A_eti.keep K1 (ninS (Ne.symm ne_1) nin0)
        replace A_esl := A_esl.keep K1 (ninS (Ne.symm ne_2) nin0)
        replace A_b41 := A1
        show W K l _ n0 _ h46 7 16 63 #[.val (.long t0), .second, .val (.long t1), .second, .val (.int flags), .val (.int f), .val (.int gg), .val (.int (0 : Int32)), .val (.int (0 : Int32)), .val (.int (3 : Int32)), .val (.ref b41), .unset, .unset, .unset, .unset] []
        refine w_aload ok at_63 rfl rfl ?_
        refine w_iconst ok at_65 (v := (0 : Int32)) rfl ?_
        refine w_lloadN ok at_66 rfl ?_
        refine w_callV ok (y := (⟨"com/example/rowan/rowan/store/IdleHeap", "add", "(IJ)V"⟩ : MethodName)) (a := b41) (argsL := [(.int (0 : Int32)), (.long t0)]) (rest := []) at_67 (hw _ (List.mem_of_getElem? (i := 43) rfl)) (hw _ (List.mem_of_getElem? (i := 44) rfl)) (hw _ (List.mem_of_getElem? (i := 46) rfl)) (hw _ (List.mem_of_getElem? (i := 45) rfl)) (hw _ (List.mem_of_getElem? (i := 2) rfl)) (hw _ (List.mem_of_getElem? (i := 47) rfl)) (by decide) A_b41.1 pd_28IJ29V rfl rfl (by decide) (Nat.le_of_ble_eq_true rfl) (by decide) (by decide) (fun z0 => rm_add l Z a0 hw [] n0 h46 z0 b41 fen fti fsl 0 (fun _ => 0) (fun _ => -1) (fun _ => 0) A_b41 A_fen A_fti A_fsl ge_b41 ge_fen ge_fti ge_fsl nf_0 nf_1 nf_2 nf_3 nf_4 nf_5 (fun _ => none) own_pp0 own_ho0 0 t0 (by decide) rfl (by decide)) (fun v47 h48 qv47 => ?_)
        obtain ⟨rfl, e1, g1, τ1, K1, A0, A1, A2, A3, P1, H1, E1⟩ := qv47
        replace A_b41 : Ob Z h48 b41 "com/example/rowan/rowan/store/IdleHeap" fl_IdleHeap [(.ref fen), (.ref fti), (.ref fsl), (.int (1 : Int32))] := A0
        replace A_fen := A1
        replace A_fti := A2
        replace A_fsl := A3
        show W K l _ n0 _ h48 7 16 70 #[.val (.long t0), .second, .val (.long t1), .second, .val (.int flags), .val (.int f), .val (.int gg), .val (.int (0 : Int32)), .val (.int (0 : Int32)), .val (.int (3 : Int32)), .val (.ref b41), .unset, .unset, .unset, .unset] []
        refine w_iload ok at_70 rfl ?_
        refine w_if_eq ok at_72 (pc' := 82) (by decide) (fun hc50 => ?_) (fun hc50 => False.elim (by revert hc50; decide))
        show W K l _ n0 _ h48 7 16 82 #[.val (.long t0), .second, .val (.long t1), .second, .val (.int flags), .val (.int f), .val (.int gg), .val (.int (0 : Int32)), .val (.int (0 : Int32)), .val (.int (3 : Int32)), .val (.ref b41), .unset, .unset, .unset, .unset] []
        refine w_iload ok at_82 rfl ?_
        refine w_if_eq ok at_84 (pc' := 97) (by decide) (fun hc52 => ?_) (fun hc52 => False.elim (by revert hc52; decide))
        show W K l _ n0 _ h48 7 16 97 #[.val (.long t0), .second, .val (.long t1), .second, .val (.int flags), .val (.int f), .val (.int gg), .val (.int (0 : Int32)), .val (.int (0 : Int32)), .val (.int (3 : Int32)), .val (.ref b41), .unset, .unset, .unset, .unset] []
        refine w_iconst ok at_97 (v := (0 : Int32)) rfl ?_
        show W K l _ n0 _ h48 7 16 98 #[.val (.long t0), .second, .val (.long t1), .second, .val (.int flags), .val (.int f), .val (.int gg), .val (.int (0 : Int32)), .val (.int (0 : Int32)), .val (.int (3 : Int32)), .val (.ref b41), .unset, .unset, .unset, .unset] [(.int (0 : Int32))]
        obtain ⟨o1, o2⟩ := own_one P1
        have E : e1 0 = Int32.ofNat 0 := o1
        refine w_istore ok at_98 (L' := #[.val (.long t0), .second, .val (.long t1), .second, .val (.int flags), .val (.int f), .val (.int gg), .val (.int (0 : Int32)), .val (.int (0 : Int32)), .val (.int (3 : Int32)), .val (.ref b41), .val (.int (0 : Int32)), .unset, .unset, .unset]) rfl ?_
        refine w_iload ok at_100 rfl ?_
        refine w_if_eq ok at_102 (pc' := 112) (by decide) (fun hc54 => ?_) (fun hc54 => False.elim (by revert hc54; decide))
        show W K l _ n0 _ h48 7 16 112 #[.val (.long t0), .second, .val (.long t1), .second, .val (.int flags), .val (.int f), .val (.int gg), .val (.int (0 : Int32)), .val (.int (0 : Int32)), .val (.int (3 : Int32)), .val (.ref b41), .val (.int (0 : Int32)), .unset, .unset, .unset] []
        refine w_iconst ok at_112 (v := (-1 : Int32)) rfl ?_
        refine w_istore ok at_113 (L' := #[.val (.long t0), .second, .val (.long t1), .second, .val (.int flags), .val (.int f), .val (.int gg), .val (.int (0 : Int32)), .val (.int (0 : Int32)), .val (.int (3 : Int32)), .val (.ref b41), .val (.int (0 : Int32)), .val (.int (-1 : Int32)), .unset, .unset]) rfl ?_
        refine w_aload ok at_115 rfl rfl ?_
        refine w_iload ok at_117 rfl ?_
        refine w_iload ok at_119 rfl ?_
        refine w_callV ok (y := (⟨"com/example/rowan/rowan/store/IdleHeap", "renumber", "(II)V"⟩ : MethodName)) (a := b41) (argsL := [(.int (0 : Int32)), (.int (3 : Int32))]) (rest := []) at_121 (hw _ (List.mem_of_getElem? (i := 58) rfl)) (hw _ (List.mem_of_getElem? (i := 59) rfl)) (hw _ (List.mem_of_getElem? (i := 61) rfl)) (hw _ (List.mem_of_getElem? (i := 60) rfl)) (hw _ (List.mem_of_getElem? (i := 2) rfl)) (hw _ (List.mem_of_getElem? (i := 62) rfl)) (by decide) A_b41.1 pd_28II29V rfl rfl (by decide) (Nat.le_of_ble_eq_true rfl) (by decide) (by decide) (fun z0 => rm_ren1 l Z a0 hw [] n0 h48 z0 b41 fen fti fsl 1 e1 g1 τ1 A_b41 A_fen A_fti A_fsl ge_b41 ge_fen ge_fti ge_fsl nf_0 nf_1 nf_2 nf_3 nf_4 nf_5 (put (fun _ => none) 0 (some t0)) P1 H1 0 3 t0 (by decide) (by decide) rfl rfl) (fun v55 h56 qv55 => ?_)
        obtain ⟨rfl, e3, g3, τ3, K1, A0, A1, A2, A3, P3, H3, r1, r2⟩ := qv55
        replace A_b41 : Ob Z h56 b41 "com/example/rowan/rowan/store/IdleHeap" fl_IdleHeap [(.ref fen), (.ref fti), (.ref fsl), (.int (1 : Int32))] := A0
        replace A_fen := A1
        replace A_fti := A2
        replace A_fsl := A3
        replace E := r1 E
        show W K l _ n0 _ h56 7 16 124 #[.val (.long t0), .second, .val (.long t1), .second, .val (.int flags), .val (.int f), .val (.int gg), .val (.int (0 : Int32)), .val (.int (0 : Int32)), .val (.int (3 : Int32)), .val (.ref b41), .val (.int (0 : Int32)), .val (.int (-1 : Int32)), .unset, .unset] []
        refine w_aload ok at_124 rfl rfl ?_
        refine w_iload ok at_126 rfl ?_
        refine w_callV ok (y := (⟨"com/example/rowan/rowan/store/IdleHeap", "remove", "(I)V"⟩ : MethodName)) (a := b41) (argsL := [(.int (0 : Int32))]) (rest := []) at_128 (hw _ (List.mem_of_getElem? (i := 63) rfl)) (hw _ (List.mem_of_getElem? (i := 64) rfl)) (hw _ (List.mem_of_getElem? (i := 66) rfl)) (hw _ (List.mem_of_getElem? (i := 65) rfl)) (hw _ (List.mem_of_getElem? (i := 2) rfl)) (hw _ (List.mem_of_getElem? (i := 67) rfl)) (by decide) A_b41.1 pd_28I29V rfl rfl (by decide) (Nat.le_of_ble_eq_true rfl) (by decide) (by decide) (fun z0 => rm_remove0 l Z a0 hw [] n0 h56 z0 b41 fen fti fsl 1 e3 g3 τ3 A_b41 A_fen A_fti A_fsl ge_b41 ge_fen ge_fti ge_fsl nf_0 nf_1 nf_2 nf_3 nf_4 nf_5 (put (put (put (fun _ => none) 0 (some t0)) 0 none) 3 (some t0)) P3 H3 0 (by decide) rfl) (fun v57 h58 qv57 => ?_)
        obtain ⟨rfl, rfl⟩ := qv57
        show W K l _ n0 _ h56 7 16 131 #[.val (.long t0), .second, .val (.long t1), .second, .val (.int flags), .val (.int f), .val (.int gg), .val (.int (0 : Int32)), .val (.int (0 : Int32)), .val (.int (3 : Int32)), .val (.ref b41), .val (.int (0 : Int32)), .val (.int (-1 : Int32)), .unset, .unset] []
        refine w_iload ok at_131 rfl ?_
        refine w_iload ok at_133 rfl ?_
        refine w_iload ok at_135 rfl ?_
        refine w_callS ok (y := (⟨"com/example/rowan/rowan/store/IdleHeapRenumberPinLaw", "map", "(III)I"⟩ : MethodName)) (argsL := [(.int (0 : Int32)), (.int (0 : Int32)), (.int (3 : Int32))]) (rest := []) at_137 (hw _ (List.mem_of_getElem? (i := 68) rfl)) (hw _ (List.mem_of_getElem? (i := 69) rfl)) (hw _ (List.mem_of_getElem? (i := 70) rfl)) (hw _ (List.mem_of_getElem? (i := 71) rfl)) (by decide) pd_28III29I rfl rfl (by decide) (Nat.le_of_ble_eq_true rfl) (by decide) (by decide) (fun z0 => rm_map l Z a0 hw [] n0 h56 z0 (0 : Int32) (0 : Int32) (3 : Int32)) (fun v59 h60 qv59 => ?_)
        obtain ⟨rfl, rfl⟩ := qv59
        rw [show own_map (0 : Int32) (0 : Int32) (3 : Int32) = (3 : Int32) from rfl]
        show W K l _ n0 _ h56 7 16 140 #[.val (.long t0), .second, .val (.long t1), .second, .val (.int flags), .val (.int f), .val (.int gg), .val (.int (0 : Int32)), .val (.int (0 : Int32)), .val (.int (3 : Int32)), .val (.ref b41), .val (.int (0 : Int32)), .val (.int (-1 : Int32)), .unset, .unset] [(.int (3 : Int32))]
        refine w_istore ok at_140 (L' := #[.val (.long t0), .second, .val (.long t1), .second, .val (.int flags), .val (.int f), .val (.int gg), .val (.int (0 : Int32)), .val (.int (0 : Int32)), .val (.int (3 : Int32)), .val (.ref b41), .val (.int (0 : Int32)), .val (.int (-1 : Int32)), .val (.int (3 : Int32)), .unset]) rfl ?_
        refine w_aload ok at_142 rfl rfl ?_
        refine w_callV ok (y := (⟨"com/example/rowan/rowan/store/IdleHeap", "first", "()I"⟩ : MethodName)) (a := b41) (argsL := []) (rest := []) at_144 (hw _ (List.mem_of_getElem? (i := 72) rfl)) (hw _ (List.mem_of_getElem? (i := 73) rfl)) (hw _ (List.mem_of_getElem? (i := 75) rfl)) (hw _ (List.mem_of_getElem? (i := 74) rfl)) (hw _ (List.mem_of_getElem? (i := 2) rfl)) (hw _ (List.mem_of_getElem? (i := 76) rfl)) (by decide) A_b41.1 pd_2829I rfl rfl (by decide) (Nat.le_of_ble_eq_true rfl) (by decide) (by decide) (fun z0 => rm_first l Z a0 hw [] n0 h56 z0 b41 fen fti fsl 1 e3 g3 τ3 A_b41 A_fen A_fti A_fsl ge_b41 ge_fen ge_fti ge_fsl nf_0 nf_1 nf_2 nf_3 nf_4 nf_5 (put (put (put (fun _ => none) 0 (some t0)) 0 none) 3 (some t0)) P3 H3) (fun v61 h62 qv61 => ?_)
        obtain ⟨rfl, ⟨hs0, rfl⟩ | ⟨y, hy, hs, ey, rfl⟩⟩ := qv61
        · exact absurd hs0 (by decide)
        · skip
          obtain rfl : y = 3 := own_inj hy (by decide) (ey.symm.trans E)
          show W K l _ n0 _ h56 7 16 147 #[.val (.long t0), .second, .val (.long t1), .second, .val (.int flags), .val (.int f), .val (.int gg), .val (.int (0 : Int32)), .val (.int (0 : Int32)), .val (.int (3 : Int32)), .val (.ref b41), .val (.int (0 : Int32)), .val (.int (-1 : Int32)), .val (.int (3 : Int32)), .unset] [(.int (3 : Int32))]
          refine w_iload ok at_147 rfl ?_
          refine w_icmp_eq ok at_149 (pc' := 154) (by decide) (fun hc64 => ?_) (fun hc64 => False.elim (by revert hc64; decide))
          show W K l _ n0 _ h56 7 16 154 #[.val (.long t0), .second, .val (.long t1), .second, .val (.int flags), .val (.int f), .val (.int gg), .val (.int (0 : Int32)), .val (.int (0 : Int32)), .val (.int (3 : Int32)), .val (.ref b41), .val (.int (0 : Int32)), .val (.int (-1 : Int32)), .val (.int (3 : Int32)), .unset] []
          refine w_aload ok at_154 rfl rfl ?_
          refine w_iload ok at_156 rfl ?_
          refine w_callV ok (y := (⟨"com/example/rowan/rowan/store/IdleHeap", "remove", "(I)V"⟩ : MethodName)) (a := b41) (argsL := [(.int (3 : Int32))]) (rest := []) at_158 (hw _ (List.mem_of_getElem? (i := 63) rfl)) (hw _ (List.mem_of_getElem? (i := 64) rfl)) (hw _ (List.mem_of_getElem? (i := 66) rfl)) (hw _ (List.mem_of_getElem? (i := 65) rfl)) (hw _ (List.mem_of_getElem? (i := 2) rfl)) (hw _ (List.mem_of_getElem? (i := 67) rfl)) (by decide) A_b41.1 pd_28I29V rfl rfl (by decide) (Nat.le_of_ble_eq_true rfl) (by decide) (by decide) (fun z0 => rm_remove l Z a0 hw [] n0 h56 z0 b41 fen fti fsl 1 e3 g3 τ3 A_b41 A_fen A_fti A_fsl ge_b41 ge_fen ge_fti ge_fsl nf_0 nf_1 nf_2 nf_3 nf_4 nf_5 (put (put (put (fun _ => none) 0 (some t0)) 0 none) 3 (some t0)) P3 H3 3 (by decide)) (fun v66 h67 qv66 => ?_)
          obtain ⟨rfl, sx65, ex65, gx65, τx65, K1, A0, A1, A2, A3, Px65, Hx65⟩ := qv66
          replace A_b41 : Ob Z h67 b41 "com/example/rowan/rowan/store/IdleHeap" fl_IdleHeap [(.ref fen), (.ref fti), (.ref fsl), (.int (Int32.ofNat sx65))] := A0
          replace A_fen := A1
          replace A_fti := A2
          replace A_fsl := A3
          show W K l _ n0 _ h67 7 16 161 #[.val (.long t0), .second, .val (.long t1), .second, .val (.int flags), .val (.int f), .val (.int gg), .val (.int (0 : Int32)), .val (.int (0 : Int32)), .val (.int (3 : Int32)), .val (.ref b41), .val (.int (0 : Int32)), .val (.int (-1 : Int32)), .val (.int (3 : Int32)), .unset] []
          refine w_iload ok at_161 rfl ?_
          refine w_iconst ok at_163 (v := (-1 : Int32)) rfl ?_
          refine w_icmp_ne ok at_164 (pc' := 171) (by decide) (fun hc69 => False.elim (by revert hc69; decide)) (fun hc69 => ?_)
          show W K l _ n0 _ h67 7 16 167 #[.val (.long t0), .second, .val (.long t1), .second, .val (.int flags), .val (.int f), .val (.int gg), .val (.int (0 : Int32)), .val (.int (0 : Int32)), .val (.int (3 : Int32)), .val (.ref b41), .val (.int (0 : Int32)), .val (.int (-1 : Int32)), .val (.int (3 : Int32)), .unset] []
          refine w_iconst ok at_167 (v := (-1 : Int32)) rfl ?_
          refine w_goto ok at_168 (pc' := 180) (by decide) ?_
          refine w_istore ok at_180 (L' := #[.val (.long t0), .second, .val (.long t1), .second, .val (.int flags), .val (.int f), .val (.int gg), .val (.int (0 : Int32)), .val (.int (0 : Int32)), .val (.int (3 : Int32)), .val (.ref b41), .val (.int (0 : Int32)), .val (.int (-1 : Int32)), .val (.int (3 : Int32)), .val (.int (-1 : Int32))]) rfl ?_
          refine w_aload ok at_182 rfl rfl ?_
          refine w_callV ok (y := (⟨"com/example/rowan/rowan/store/IdleHeap", "first", "()I"⟩ : MethodName)) (a := b41) (argsL := []) (rest := []) at_184 (hw _ (List.mem_of_getElem? (i := 72) rfl)) (hw _ (List.mem_of_getElem? (i := 73) rfl)) (hw _ (List.mem_of_getElem? (i := 75) rfl)) (hw _ (List.mem_of_getElem? (i := 74) rfl)) (hw _ (List.mem_of_getElem? (i := 2) rfl)) (hw _ (List.mem_of_getElem? (i := 76) rfl)) (by decide) A_b41.1 pd_2829I rfl rfl (by decide) (Nat.le_of_ble_eq_true rfl) (by decide) (by decide) (fun z0 => rm_first l Z a0 hw [] n0 h67 z0 b41 fen fti fsl sx65 ex65 gx65 τx65 A_b41 A_fen A_fti A_fsl ge_b41 ge_fen ge_fti ge_fsl nf_0 nf_1 nf_2 nf_3 nf_4 nf_5 (put (put (put (put (fun _ => none) 0 (some t0)) 0 none) 3 (some t0)) 3 none) Px65 Hx65) (fun v70 h71 qv70 => ?_)
          obtain ⟨rfl, ⟨hs0, rfl⟩ | ⟨y, hy, hs, ey, rfl⟩⟩ := qv70
          · skip
            show W K l _ n0 _ h67 7 16 187 #[.val (.long t0), .second, .val (.long t1), .second, .val (.int flags), .val (.int f), .val (.int gg), .val (.int (0 : Int32)), .val (.int (0 : Int32)), .val (.int (3 : Int32)), .val (.ref b41), .val (.int (0 : Int32)), .val (.int (-1 : Int32)), .val (.int (3 : Int32)), .val (.int (-1 : Int32))] [(.int (-1 : Int32))]
            refine w_iload ok at_187 rfl ?_
            refine w_icmp_eq ok at_189 (pc' := 194) (by decide) (fun hc73 => ?_) (fun hc73 => False.elim (by revert hc73; decide))
            show W K l _ n0 _ h67 7 16 194 #[.val (.long t0), .second, .val (.long t1), .second, .val (.int flags), .val (.int f), .val (.int gg), .val (.int (0 : Int32)), .val (.int (0 : Int32)), .val (.int (3 : Int32)), .val (.ref b41), .val (.int (0 : Int32)), .val (.int (-1 : Int32)), .val (.int (3 : Int32)), .val (.int (-1 : Int32))] []
            refine w_iload ok at_194 rfl ?_
            refine w_iconst ok at_196 (v := (-1 : Int32)) rfl ?_
            refine w_icmp_eq ok at_197 (pc' := 218) (by decide) (fun hc75 => ?_) (fun hc75 => False.elim (by revert hc75; decide))
            show W K l _ n0 _ h67 7 16 218 #[.val (.long t0), .second, .val (.long t1), .second, .val (.int flags), .val (.int f), .val (.int gg), .val (.int (0 : Int32)), .val (.int (0 : Int32)), .val (.int (3 : Int32)), .val (.ref b41), .val (.int (0 : Int32)), .val (.int (-1 : Int32)), .val (.int (3 : Int32)), .val (.int (-1 : Int32))] []
            refine w_iconst ok at_218 (v := (1 : Int32)) rfl ?_
            refine w_bret ok (by simp) at_219 (by decide) (by decide) ?_
            exact rfl
          · have my := (Px65.at hs hy ey).1
            obtain rfl | rfl | rfl | rfl : y = 0 ∨ y = 1 ∨ y = 2 ∨ y = 3 := by omega
            · cases (show none = some _ from my)
            · cases (show none = some _ from my)
            · cases (show none = some _ from my)
            · cases (show none = some _ from my)
    · skip
      show W K l _ n0 _ h0 0 0 20 #[.val (.long t0), .second, .val (.long t1), .second, .val (.int flags), .val (.int f), .val (.int gg), .val (.int (0 : Int32)), .val (.int (1 : Int32)), .unset, .unset, .unset, .unset, .unset, .unset] []
      refine w_iload ok at_20 rfl ?_
      refine w_iconst ok at_22 (v := (2 : Int32)) rfl ?_
      refine w_icmp_ne ok at_23 (pc' := 30) (by decide) (fun hc77 => ?_) (fun hc77 => False.elim (by revert hc77; decide))
      show W K l _ n0 _ h0 0 0 30 #[.val (.long t0), .second, .val (.long t1), .second, .val (.int flags), .val (.int f), .val (.int gg), .val (.int (0 : Int32)), .val (.int (1 : Int32)), .unset, .unset, .unset, .unset, .unset, .unset] []
      refine w_iload ok at_30 rfl ?_
      refine w_iconst ok at_32 (v := (3 : Int32)) rfl ?_
      refine w_icmp_ne ok at_33 (pc' := 40) (by decide) (fun hc79 => ?_) (fun hc79 => False.elim (by revert hc79; decide))
      show W K l _ n0 _ h0 0 0 40 #[.val (.long t0), .second, .val (.long t1), .second, .val (.int flags), .val (.int f), .val (.int gg), .val (.int (0 : Int32)), .val (.int (1 : Int32)), .unset, .unset, .unset, .unset, .unset, .unset] []
      refine w_iconst ok at_40 (v := (2 : Int32)) rfl ?_
      refine w_iload ok at_41 rfl ?_
      refine w_iconst ok at_43 (v := (1 : Int32)) rfl ?_
      refine w_iand ok at_44 ?_
      show W K l _ n0 _ h0 0 0 45 #[.val (.long t0), .second, .val (.long t1), .second, .val (.int flags), .val (.int f), .val (.int gg), .val (.int (0 : Int32)), .val (.int (1 : Int32)), .unset, .unset, .unset, .unset, .unset, .unset] [(.int (gg &&& (1 : Int32))), (.int (2 : Int32))]
      rcases own_and1 gg with eg | eg
      · skip
        rw [eg]
        show W K l _ n0 _ h0 0 0 45 #[.val (.long t0), .second, .val (.long t1), .second, .val (.int flags), .val (.int f), .val (.int gg), .val (.int (0 : Int32)), .val (.int (1 : Int32)), .unset, .unset, .unset, .unset, .unset, .unset] [(.int (0 : Int32)), (.int (2 : Int32))]
        refine w_iadd ok at_45 ?_
        show W K l _ n0 _ h0 0 0 46 #[.val (.long t0), .second, .val (.long t1), .second, .val (.int flags), .val (.int f), .val (.int gg), .val (.int (0 : Int32)), .val (.int (1 : Int32)), .unset, .unset, .unset, .unset, .unset, .unset] [(.int (2 : Int32))]
        refine w_istore ok at_46 (L' := #[.val (.long t0), .second, .val (.long t1), .second, .val (.int flags), .val (.int f), .val (.int gg), .val (.int (0 : Int32)), .val (.int (1 : Int32)), .val (.int (2 : Int32)), .unset, .unset, .unset, .unset, .unset]) rfl ?_
        refine w_new ok at_48 (hw _ (List.mem_of_getElem? (i := 0) rfl)) (hw _ (List.mem_of_getElem? (i := 1) rfl)) (hw _ (List.mem_of_getElem? (i := 2) rfl)) (la_IdleHeap hw) (by decide) (by decide) (fun h81 b80 ea_b80 ge_b80 E_b80 A_b80 => ?_)
        replace A_b80 : Ob Z h81 b80 "com/example/rowan/rowan/store/IdleHeap" fl_IdleHeap [.null, .null, .null, (.int (0 : Int32))] := A_b80
        refine w_dup ok at_51 rfl ?_
        refine w_callI ok (y := (⟨"com/example/rowan/rowan/store/IdleHeap", "<init>", "()V"⟩ : MethodName)) (a := b80) (argsL := []) (rest := [(.ref b80)]) at_52 rfl (hw _ (List.mem_of_getElem? (i := 3) rfl)) (hw _ (List.mem_of_getElem? (i := 4) rfl)) (hw _ (List.mem_of_getElem? (i := 2) rfl)) (hw _ (List.mem_of_getElem? (i := 5) rfl)) (by decide) pd_2829V rfl rfl (by decide) (Nat.le_of_ble_eq_true rfl) (by decide) (by decide) (fun z0 => rm_ctor l Z a0 hw [] n0 h81 z0 b80 A_b80 ge_b80) (fun v82 h83 qv82 => ?_)
        obtain ⟨rfl, een, eti, esl, ⟨sz_een, sz_eti, sz_esl⟩, ⟨ge_een, ge_eti, ge_esl⟩, ⟨ne_0, ne_1, ne_2, ne_3, ne_4, ne_5⟩, K1, A1, A_een, A_eti, A_esl⟩ := qv82
        have ne_b80_een : b80 ≠ een := Nat.ne_of_lt (Nat.lt_of_lt_of_le A_b80.lt sz_een)
        have ne_b80_eti : b80 ≠ eti := Nat.ne_of_lt (Nat.lt_of_lt_of_le A_b80.lt sz_eti)
        have ne_b80_esl : b80 ≠ esl := Nat.ne_of_lt (Nat.lt_of_lt_of_le A_b80.lt sz_esl)
        replace A_b80 := A1
        show W K l _ n0 _ h83 4 4 55 #[.val (.long t0), .second, .val (.long t1), .second, .val (.int flags), .val (.int f), .val (.int gg), .val (.int (0 : Int32)), .val (.int (1 : Int32)), .val (.int (2 : Int32)), .unset, .unset, .unset, .unset, .unset] [(.ref b80)]
        refine w_astore ok at_55 rfl (L' := #[.val (.long t0), .second, .val (.long t1), .second, .val (.int flags), .val (.int f), .val (.int gg), .val (.int (0 : Int32)), .val (.int (1 : Int32)), .val (.int (2 : Int32)), .val (.ref b80), .unset, .unset, .unset, .unset]) rfl ?_
        refine w_aload ok at_57 rfl rfl ?_
        refine w_iconst ok at_59 (v := (4 : Int32)) rfl ?_
        refine w_callV ok (y := (⟨"com/example/rowan/rowan/store/IdleHeap", "resize", "(I)V"⟩ : MethodName)) (a := b80) (argsL := [(.int (4 : Int32))]) (rest := []) at_60 (hw _ (List.mem_of_getElem? (i := 17) rfl)) (hw _ (List.mem_of_getElem? (i := 18) rfl)) (hw _ (List.mem_of_getElem? (i := 20) rfl)) (hw _ (List.mem_of_getElem? (i := 19) rfl)) (hw _ (List.mem_of_getElem? (i := 2) rfl)) (hw _ (List.mem_of_getElem? (i := 21) rfl)) (by decide) A_b80.1 pd_28I29V rfl rfl (by decide) (Nat.le_of_ble_eq_true rfl) (by decide) (by decide) (fun z0 => rm_resize l Z a0 hw [] n0 h83 z0 b80 een eti esl A_b80 A_een A_eti A_esl ge_b80 ne_0 ne_1 ne_2 ne_3 ne_4 ne_5) (fun v84 h85 qv84 => ?_)
        obtain ⟨rfl, fen, fti, fsl, ⟨sz_fen, sz_fti, sz_fsl⟩, ⟨ge_fen, ge_fti, ge_fsl⟩, ⟨nf_0, nf_1, nf_2, nf_3, nf_4, nf_5⟩, K1, A1, A_fen, A_fti, A_fsl⟩ := qv84
        have ne_b80_fen : b80 ≠ fen := Nat.ne_of_lt (Nat.lt_of_lt_of_le A_b80.lt sz_fen)
        have ne_een_fen : een ≠ fen := Nat.ne_of_lt (Nat.lt_of_lt_of_le A_een.lt sz_fen)
        have ne_eti_fen : eti ≠ fen := Nat.ne_of_lt (Nat.lt_of_lt_of_le A_eti.lt sz_fen)
        have ne_esl_fen : esl ≠ fen := Nat.ne_of_lt (Nat.lt_of_lt_of_le A_esl.lt sz_fen)
        have ne_b80_fti : b80 ≠ fti := Nat.ne_of_lt (Nat.lt_of_lt_of_le A_b80.lt sz_fti)
        have ne_een_fti : een ≠ fti := Nat.ne_of_lt (Nat.lt_of_lt_of_le A_een.lt sz_fti)
        have ne_eti_fti : eti ≠ fti := Nat.ne_of_lt (Nat.lt_of_lt_of_le A_eti.lt sz_fti)
        have ne_esl_fti : esl ≠ fti := Nat.ne_of_lt (Nat.lt_of_lt_of_le A_esl.lt sz_fti)
        have ne_b80_fsl : b80 ≠ fsl := Nat.ne_of_lt (Nat.lt_of_lt_of_le A_b80.lt sz_fsl)
        have ne_een_fsl : een ≠ fsl := Nat.ne_of_lt (Nat.lt_of_lt_of_le A_een.lt sz_fsl)
        have ne_eti_fsl : eti ≠ fsl := Nat.ne_of_lt (Nat.lt_of_lt_of_le A_eti.lt sz_fsl)
        have ne_esl_fsl : esl ≠ fsl := Nat.ne_of_lt (Nat.lt_of_lt_of_le A_esl.lt sz_fsl)
        replace A_een := A_een.keep K1 (ninS (Ne.symm ne_0) nin0)
        replace A_eti := A_eti.keep K1 (ninS (Ne.symm ne_1) nin0)
        replace A_esl := A_esl.keep K1 (ninS (Ne.symm ne_2) nin0)
        replace A_b80 := A1
        show W K l _ n0 _ h85 7 16 63 #[.val (.long t0), .second, .val (.long t1), .second, .val (.int flags), .val (.int f), .val (.int gg), .val (.int (0 : Int32)), .val (.int (1 : Int32)), .val (.int (2 : Int32)), .val (.ref b80), .unset, .unset, .unset, .unset] []
        refine w_aload ok at_63 rfl rfl ?_
        refine w_iconst ok at_65 (v := (0 : Int32)) rfl ?_
        refine w_lloadN ok at_66 rfl ?_
        refine w_callV ok (y := (⟨"com/example/rowan/rowan/store/IdleHeap", "add", "(IJ)V"⟩ : MethodName)) (a := b80) (argsL := [(.int (0 : Int32)), (.long t0)]) (rest := []) at_67 (hw _ (List.mem_of_getElem? (i := 43) rfl)) (hw _ (List.mem_of_getElem? (i := 44) rfl)) (hw _ (List.mem_of_getElem? (i := 46) rfl)) (hw _ (List.mem_of_getElem? (i := 45) rfl)) (hw _ (List.mem_of_getElem? (i := 2) rfl)) (hw _ (List.mem_of_getElem? (i := 47) rfl)) (by decide) A_b80.1 pd_28IJ29V rfl rfl (by decide) (Nat.le_of_ble_eq_true rfl) (by decide) (by decide) (fun z0 => rm_add l Z a0 hw [] n0 h85 z0 b80 fen fti fsl 0 (fun _ => 0) (fun _ => -1) (fun _ => 0) A_b80 A_fen A_fti A_fsl ge_b80 ge_fen ge_fti ge_fsl nf_0 nf_1 nf_2 nf_3 nf_4 nf_5 (fun _ => none) own_pp0 own_ho0 0 t0 (by decide) rfl (by decide)) (fun v86 h87 qv86 => ?_)
        obtain ⟨rfl, e1, g1, τ1, K1, A0, A1, A2, A3, P1, H1, E1⟩ := qv86
        replace A_b80 : Ob Z h87 b80 "com/example/rowan/rowan/store/IdleHeap" fl_IdleHeap [(.ref fen), (.ref fti), (.ref fsl), (.int (1 : Int32))] := A0
        replace A_fen := A1
        replace A_fti := A2
        replace A_fsl := A3
        show W K l _ n0 _ h87 7 16 70 #[.val (.long t0), .second, .val (.long t1), .second, .val (.int flags), .val (.int f), .val (.int gg), .val (.int (0 : Int32)), .val (.int (1 : Int32)), .val (.int (2 : Int32)), .val (.ref b80), .unset, .unset, .unset, .unset] []
        refine w_iload ok at_70 rfl ?_
        refine w_if_eq ok at_72 (pc' := 82) (by decide) (fun hc89 => ?_) (fun hc89 => False.elim (by revert hc89; decide))
        show W K l _ n0 _ h87 7 16 82 #[.val (.long t0), .second, .val (.long t1), .second, .val (.int flags), .val (.int f), .val (.int gg), .val (.int (0 : Int32)), .val (.int (1 : Int32)), .val (.int (2 : Int32)), .val (.ref b80), .unset, .unset, .unset, .unset] []
        refine w_iload ok at_82 rfl ?_
        refine w_if_eq ok at_84 (pc' := 97) (by decide) (fun hc91 => ?_) (fun hc91 => False.elim (by revert hc91; decide))
        show W K l _ n0 _ h87 7 16 97 #[.val (.long t0), .second, .val (.long t1), .second, .val (.int flags), .val (.int f), .val (.int gg), .val (.int (0 : Int32)), .val (.int (1 : Int32)), .val (.int (2 : Int32)), .val (.ref b80), .unset, .unset, .unset, .unset] []
        refine w_iconst ok at_97 (v := (0 : Int32)) rfl ?_
        show W K l _ n0 _ h87 7 16 98 #[.val (.long t0), .second, .val (.long t1), .second, .val (.int flags), .val (.int f), .val (.int gg), .val (.int (0 : Int32)), .val (.int (1 : Int32)), .val (.int (2 : Int32)), .val (.ref b80), .unset, .unset, .unset, .unset] [(.int (0 : Int32))]
        obtain ⟨o1, o2⟩ := own_one P1
        have E : e1 0 = Int32.ofNat 0 := o1
        refine w_istore ok at_98 (L' := #[.val (.long t0), .second, .val (.long t1), .second, .val (.int flags), .val (.int f), .val (.int gg), .val (.int (0 : Int32)), .val (.int (1 : Int32)), .val (.int (2 : Int32)), .val (.ref b80), .val (.int (0 : Int32)), .unset, .unset, .unset]) rfl ?_
        refine w_iload ok at_100 rfl ?_
        refine w_if_eq ok at_102 (pc' := 112) (by decide) (fun hc93 => ?_) (fun hc93 => False.elim (by revert hc93; decide))
        show W K l _ n0 _ h87 7 16 112 #[.val (.long t0), .second, .val (.long t1), .second, .val (.int flags), .val (.int f), .val (.int gg), .val (.int (0 : Int32)), .val (.int (1 : Int32)), .val (.int (2 : Int32)), .val (.ref b80), .val (.int (0 : Int32)), .unset, .unset, .unset] []
        refine w_iconst ok at_112 (v := (-1 : Int32)) rfl ?_
        refine w_istore ok at_113 (L' := #[.val (.long t0), .second, .val (.long t1), .second, .val (.int flags), .val (.int f), .val (.int gg), .val (.int (0 : Int32)), .val (.int (1 : Int32)), .val (.int (2 : Int32)), .val (.ref b80), .val (.int (0 : Int32)), .val (.int (-1 : Int32)), .unset, .unset]) rfl ?_
        refine w_aload ok at_115 rfl rfl ?_
        refine w_iload ok at_117 rfl ?_
        refine w_iload ok at_119 rfl ?_
        refine w_callV ok (y := (⟨"com/example/rowan/rowan/store/IdleHeap", "renumber", "(II)V"⟩ : MethodName)) (a := b80) (argsL := [(.int (1 : Int32)), (.int (2 : Int32))]) (rest := []) at_121 (hw _ (List.mem_of_getElem? (i := 58) rfl)) (hw _ (List.mem_of_getElem? (i := 59) rfl)) (hw _ (List.mem_of_getElem? (i := 61) rfl)) (hw _ (List.mem_of_getElem? (i := 60) rfl)) (hw _ (List.mem_of_getElem? (i := 2) rfl)) (hw _ (List.mem_of_getElem? (i := 62) rfl)) (by decide) A_b80.1 pd_28II29V rfl rfl (by decide) (Nat.le_of_ble_eq_true rfl) (by decide) (by decide) (fun z0 => rm_ren0 l Z a0 hw [] n0 h87 z0 b80 fen fti fsl 1 e1 g1 τ1 A_b80 A_fen A_fti A_fsl ge_b80 ge_fen ge_fti ge_fsl nf_0 nf_1 nf_2 nf_3 nf_4 nf_5 (put (fun _ => none) 0 (some t0)) P1 H1 1 2 (by decide) (by decide) rfl rfl) (fun v94 h95 qv94 => ?_)
        obtain ⟨rfl, K1, A0, A1, A2, A3⟩ := qv94
        replace A_b80 : Ob Z h95 b80 "com/example/rowan/rowan/store/IdleHeap" fl_IdleHeap [(.ref fen), (.ref fti), (.ref fsl), (.int (1 : Int32))] := A0
        replace A_fen : PA .int Z h95 fen (sv 4 e1) := A1
        replace A_fti : PA .long Z h95 fti (lv 4 τ1) := A2
        replace A_fsl : PA .int Z h95 fsl (sv 4 g1) := A3
        show W K l _ n0 _ h95 7 16 124 #[.val (.long t0), .second, .val (.long t1), .second, .val (.int flags), .val (.int f), .val (.int gg), .val (.int (0 : Int32)), .val (.int (1 : Int32)), .val (.int (2 : Int32)), .val (.ref b80), .val (.int (0 : Int32)), .val (.int (-1 : Int32)), .unset, .unset] []
        refine w_aload ok at_124 rfl rfl ?_
        refine w_iload ok at_126 rfl ?_
        refine w_callV ok (y := (⟨"com/example/rowan/rowan/store/IdleHeap", "remove", "(I)V"⟩ : MethodName)) (a := b80) (argsL := [(.int (1 : Int32))]) (rest := []) at_128 (hw _ (List.mem_of_getElem? (i := 63) rfl)) (hw _ (List.mem_of_getElem? (i := 64) rfl)) (hw _ (List.mem_of_getElem? (i := 66) rfl)) (hw _ (List.mem_of_getElem? (i := 65) rfl)) (hw _ (List.mem_of_getElem? (i := 2) rfl)) (hw _ (List.mem_of_getElem? (i := 67) rfl)) (by decide) A_b80.1 pd_28I29V rfl rfl (by decide) (Nat.le_of_ble_eq_true rfl) (by decide) (by decide) (fun z0 => rm_remove0 l Z a0 hw [] n0 h95 z0 b80 fen fti fsl 1 e1 g1 τ1 A_b80 A_fen A_fti A_fsl ge_b80 ge_fen ge_fti ge_fsl nf_0 nf_1 nf_2 nf_3 nf_4 nf_5 (put (fun _ => none) 0 (some t0)) P1 H1 1 (by decide) rfl) (fun v96 h97 qv96 => ?_)
        obtain ⟨rfl, rfl⟩ := qv96
        show W K l _ n0 _ h95 7 16 131 #[.val (.long t0), .second, .val (.long t1), .second, .val (.int flags), .val (.int f), .val (.int gg), .val (.int (0 : Int32)), .val (.int (1 : Int32)), .val (.int (2 : Int32)), .val (.ref b80), .val (.int (0 : Int32)), .val (.int (-1 : Int32)), .unset, .unset] []
        refine w_iload ok at_131 rfl ?_
        refine w_iload ok at_133 rfl ?_
        refine w_iload ok at_135 rfl ?_
        refine w_callS ok (y := (⟨"com/example/rowan/rowan/store/IdleHeapRenumberPinLaw", "map", "(III)I"⟩ : MethodName)) (argsL := [(.int (0 : Int32)), (.int (1 : Int32)), (.int (2 : Int32))]) (rest := []) at_137 (hw _ (List.mem_of_getElem? (i := 68) rfl)) (hw _ (List.mem_of_getElem? (i := 69) rfl)) (hw _ (List.mem_of_getElem? (i := 70) rfl)) (hw _ (List.mem_of_getElem? (i := 71) rfl)) (by decide) pd_28III29I rfl rfl (by decide) (Nat.le_of_ble_eq_true rfl) (by decide) (by decide) (fun z0 => rm_map l Z a0 hw [] n0 h95 z0 (0 : Int32) (1 : Int32) (2 : Int32)) (fun v98 h99 qv98 => ?_)
        obtain ⟨rfl, rfl⟩ := qv98
        rw [show own_map (0 : Int32) (1 : Int32) (2 : Int32) = (0 : Int32) from rfl]
        show W K l _ n0 _ h95 7 16 140 #[.val (.long t0), .second, .val (.long t1), .second, .val (.int flags), .val (.int f), .val (.int gg), .val (.int (0 : Int32)), .val (.int (1 : Int32)), .val (.int (2 : Int32)), .val (.ref b80), .val (.int (0 : Int32)), .val (.int (-1 : Int32)), .unset, .unset] [(.int (0 : Int32))]
        refine w_istore ok at_140 (L' := #[.val (.long t0), .second, .val (.long t1), .second, .val (.int flags), .val (.int f), .val (.int gg), .val (.int (0 : Int32)), .val (.int (1 : Int32)), .val (.int (2 : Int32)), .val (.ref b80), .val (.int (0 : Int32)), .val (.int (-1 : Int32)), .val (.int (0 : Int32)), .unset]) rfl ?_
        refine w_aload ok at_142 rfl rfl ?_
        refine w_callV ok (y := (⟨"com/example/rowan/rowan/store/IdleHeap", "first", "()I"⟩ : MethodName)) (a := b80) (argsL := []) (rest := []) at_144 (hw _ (List.mem_of_getElem? (i := 72) rfl)) (hw _ (List.mem_of_getElem? (i := 73) rfl)) (hw _ (List.mem_of_getElem? (i := 75) rfl)) (hw _ (List.mem_of_getElem? (i := 74) rfl)) (hw _ (List.mem_of_getElem? (i := 2) rfl)) (hw _ (List.mem_of_getElem? (i := 76) rfl)) (by decide) A_b80.1 pd_2829I rfl rfl (by decide) (Nat.le_of_ble_eq_true rfl) (by decide) (by decide) (fun z0 => rm_first l Z a0 hw [] n0 h95 z0 b80 fen fti fsl 1 e1 g1 τ1 A_b80 A_fen A_fti A_fsl ge_b80 ge_fen ge_fti ge_fsl nf_0 nf_1 nf_2 nf_3 nf_4 nf_5 (put (fun _ => none) 0 (some t0)) P1 H1) (fun v100 h101 qv100 => ?_)
        obtain ⟨rfl, ⟨hs0, rfl⟩ | ⟨y, hy, hs, ey, rfl⟩⟩ := qv100
        · exact absurd hs0 (by decide)
        · skip
          obtain rfl : y = 0 := own_inj hy (by decide) (ey.symm.trans E)
          show W K l _ n0 _ h95 7 16 147 #[.val (.long t0), .second, .val (.long t1), .second, .val (.int flags), .val (.int f), .val (.int gg), .val (.int (0 : Int32)), .val (.int (1 : Int32)), .val (.int (2 : Int32)), .val (.ref b80), .val (.int (0 : Int32)), .val (.int (-1 : Int32)), .val (.int (0 : Int32)), .unset] [(.int (0 : Int32))]
          refine w_iload ok at_147 rfl ?_
          refine w_icmp_eq ok at_149 (pc' := 154) (by decide) (fun hc103 => ?_) (fun hc103 => False.elim (by revert hc103; decide))
          show W K l _ n0 _ h95 7 16 154 #[.val (.long t0), .second, .val (.long t1), .second, .val (.int flags), .val (.int f), .val (.int gg), .val (.int (0 : Int32)), .val (.int (1 : Int32)), .val (.int (2 : Int32)), .val (.ref b80), .val (.int (0 : Int32)), .val (.int (-1 : Int32)), .val (.int (0 : Int32)), .unset] []
          refine w_aload ok at_154 rfl rfl ?_
          refine w_iload ok at_156 rfl ?_
          refine w_callV ok (y := (⟨"com/example/rowan/rowan/store/IdleHeap", "remove", "(I)V"⟩ : MethodName)) (a := b80) (argsL := [(.int (0 : Int32))]) (rest := []) at_158 (hw _ (List.mem_of_getElem? (i := 63) rfl)) (hw _ (List.mem_of_getElem? (i := 64) rfl)) (hw _ (List.mem_of_getElem? (i := 66) rfl)) (hw _ (List.mem_of_getElem? (i := 65) rfl)) (hw _ (List.mem_of_getElem? (i := 2) rfl)) (hw _ (List.mem_of_getElem? (i := 67) rfl)) (by decide) A_b80.1 pd_28I29V rfl rfl (by decide) (Nat.le_of_ble_eq_true rfl) (by decide) (by decide) (fun z0 => rm_remove l Z a0 hw [] n0 h95 z0 b80 fen fti fsl 1 e1 g1 τ1 A_b80 A_fen A_fti A_fsl ge_b80 ge_fen ge_fti ge_fsl nf_0 nf_1 nf_2 nf_3 nf_4 nf_5 (put (fun _ => none) 0 (some t0)) P1 H1 0 (by decide)) (fun v105 h106 qv105 => ?_)
          obtain ⟨rfl, sx104, ex104, gx104, τx104, K1, A0, A1, A2, A3, Px104, Hx104⟩ := qv105
          replace A_b80 : Ob Z h106 b80 "com/example/rowan/rowan/store/IdleHeap" fl_IdleHeap [(.ref fen), (.ref fti), (.ref fsl), (.int (Int32.ofNat sx104))] := A0
          replace A_fen := A1
          replace A_fti := A2
          replace A_fsl := A3
          show W K l _ n0 _ h106 7 16 161 #[.val (.long t0), .second, .val (.long t1), .second, .val (.int flags), .val (.int f), .val (.int gg), .val (.int (0 : Int32)), .val (.int (1 : Int32)), .val (.int (2 : Int32)), .val (.ref b80), .val (.int (0 : Int32)), .val (.int (-1 : Int32)), .val (.int (0 : Int32)), .unset] []
          refine w_iload ok at_161 rfl ?_
          refine w_iconst ok at_163 (v := (-1 : Int32)) rfl ?_
          refine w_icmp_ne ok at_164 (pc' := 171) (by decide) (fun hc108 => False.elim (by revert hc108; decide)) (fun hc108 => ?_)
          show W K l _ n0 _ h106 7 16 167 #[.val (.long t0), .second, .val (.long t1), .second, .val (.int flags), .val (.int f), .val (.int gg), .val (.int (0 : Int32)), .val (.int (1 : Int32)), .val (.int (2 : Int32)), .val (.ref b80), .val (.int (0 : Int32)), .val (.int (-1 : Int32)), .val (.int (0 : Int32)), .unset] []
          refine w_iconst ok at_167 (v := (-1 : Int32)) rfl ?_
          refine w_goto ok at_168 (pc' := 180) (by decide) ?_
          refine w_istore ok at_180 (L' := #[.val (.long t0), .second, .val (.long t1), .second, .val (.int flags), .val (.int f), .val (.int gg), .val (.int (0 : Int32)), .val (.int (1 : Int32)), .val (.int (2 : Int32)), .val (.ref b80), .val (.int (0 : Int32)), .val (.int (-1 : Int32)), .val (.int (0 : Int32)), .val (.int (-1 : Int32))]) rfl ?_
          refine w_aload ok at_182 rfl rfl ?_
          refine w_callV ok (y := (⟨"com/example/rowan/rowan/store/IdleHeap", "first", "()I"⟩ : MethodName)) (a := b80) (argsL := []) (rest := []) at_184 (hw _ (List.mem_of_getElem? (i := 72) rfl)) (hw _ (List.mem_of_getElem? (i := 73) rfl)) (hw _ (List.mem_of_getElem? (i := 75) rfl)) (hw _ (List.mem_of_getElem? (i := 74) rfl)) (hw _ (List.mem_of_getElem? (i := 2) rfl)) (hw _ (List.mem_of_getElem? (i := 76) rfl)) (by decide) A_b80.1 pd_2829I rfl rfl (by decide) (Nat.le_of_ble_eq_true rfl) (by decide) (by decide) (fun z0 => rm_first l Z a0 hw [] n0 h106 z0 b80 fen fti fsl sx104 ex104 gx104 τx104 A_b80 A_fen A_fti A_fsl ge_b80 ge_fen ge_fti ge_fsl nf_0 nf_1 nf_2 nf_3 nf_4 nf_5 (put (put (fun _ => none) 0 (some t0)) 0 none) Px104 Hx104) (fun v109 h110 qv109 => ?_)
          obtain ⟨rfl, ⟨hs0, rfl⟩ | ⟨y, hy, hs, ey, rfl⟩⟩ := qv109
          · skip
            show W K l _ n0 _ h106 7 16 187 #[.val (.long t0), .second, .val (.long t1), .second, .val (.int flags), .val (.int f), .val (.int gg), .val (.int (0 : Int32)), .val (.int (1 : Int32)), .val (.int (2 : Int32)), .val (.ref b80), .val (.int (0 : Int32)), .val (.int (-1 : Int32)), .val (.int (0 : Int32)), .val (.int (-1 : Int32))] [(.int (-1 : Int32))]
            refine w_iload ok at_187 rfl ?_
            refine w_icmp_eq ok at_189 (pc' := 194) (by decide) (fun hc112 => ?_) (fun hc112 => False.elim (by revert hc112; decide))
            show W K l _ n0 _ h106 7 16 194 #[.val (.long t0), .second, .val (.long t1), .second, .val (.int flags), .val (.int f), .val (.int gg), .val (.int (0 : Int32)), .val (.int (1 : Int32)), .val (.int (2 : Int32)), .val (.ref b80), .val (.int (0 : Int32)), .val (.int (-1 : Int32)), .val (.int (0 : Int32)), .val (.int (-1 : Int32))] []
            refine w_iload ok at_194 rfl ?_
            refine w_iconst ok at_196 (v := (-1 : Int32)) rfl ?_
            refine w_icmp_eq ok at_197 (pc' := 218) (by decide) (fun hc114 => ?_) (fun hc114 => False.elim (by revert hc114; decide))
            show W K l _ n0 _ h106 7 16 218 #[.val (.long t0), .second, .val (.long t1), .second, .val (.int flags), .val (.int f), .val (.int gg), .val (.int (0 : Int32)), .val (.int (1 : Int32)), .val (.int (2 : Int32)), .val (.ref b80), .val (.int (0 : Int32)), .val (.int (-1 : Int32)), .val (.int (0 : Int32)), .val (.int (-1 : Int32))] []
            refine w_iconst ok at_218 (v := (1 : Int32)) rfl ?_
            refine w_bret ok (by simp) at_219 (by decide) (by decide) ?_
            exact rfl
          · have my := (Px104.at hs hy ey).1
            obtain rfl | rfl | rfl | rfl : y = 0 ∨ y = 1 ∨ y = 2 ∨ y = 3 := by omega
            · cases (show none = some _ from my)
            · cases (show none = some _ from my)
            · cases (show none = some _ from my)
            · cases (show none = some _ from my)
      · skip
        rw [eg]
        show W K l _ n0 _ h0 0 0 45 #[.val (.long t0), .second, .val (.long t1), .second, .val (.int flags), .val (.int f), .val (.int gg), .val (.int (0 : Int32)), .val (.int (1 : Int32)), .unset, .unset, .unset, .unset, .unset, .unset] [(.int (1 : Int32)), (.int (2 : Int32))]
        refine w_iadd ok at_45 ?_
        show W K l _ n0 _ h0 0 0 46 #[.val (.long t0), .second, .val (.long t1), .second, .val (.int flags), .val (.int f), .val (.int gg), .val (.int (0 : Int32)), .val (.int (1 : Int32)), .unset, .unset, .unset, .unset, .unset, .unset] [(.int (3 : Int32))]
        refine w_istore ok at_46 (L' := #[.val (.long t0), .second, .val (.long t1), .second, .val (.int flags), .val (.int f), .val (.int gg), .val (.int (0 : Int32)), .val (.int (1 : Int32)), .val (.int (3 : Int32)), .unset, .unset, .unset, .unset, .unset]) rfl ?_
        refine w_new ok at_48 (hw _ (List.mem_of_getElem? (i := 0) rfl)) (hw _ (List.mem_of_getElem? (i := 1) rfl)) (hw _ (List.mem_of_getElem? (i := 2) rfl)) (la_IdleHeap hw) (by decide) (by decide) (fun h116 b115 ea_b115 ge_b115 E_b115 A_b115 => ?_)
        replace A_b115 : Ob Z h116 b115 "com/example/rowan/rowan/store/IdleHeap" fl_IdleHeap [.null, .null, .null, (.int (0 : Int32))] := A_b115
        refine w_dup ok at_51 rfl ?_
        refine w_callI ok (y := (⟨"com/example/rowan/rowan/store/IdleHeap", "<init>", "()V"⟩ : MethodName)) (a := b115) (argsL := []) (rest := [(.ref b115)]) at_52 rfl (hw _ (List.mem_of_getElem? (i := 3) rfl)) (hw _ (List.mem_of_getElem? (i := 4) rfl)) (hw _ (List.mem_of_getElem? (i := 2) rfl)) (hw _ (List.mem_of_getElem? (i := 5) rfl)) (by decide) pd_2829V rfl rfl (by decide) (Nat.le_of_ble_eq_true rfl) (by decide) (by decide) (fun z0 => rm_ctor l Z a0 hw [] n0 h116 z0 b115 A_b115 ge_b115) (fun v117 h118 qv117 => ?_)
        obtain ⟨rfl, een, eti, esl, ⟨sz_een, sz_eti, sz_esl⟩, ⟨ge_een, ge_eti, ge_esl⟩, ⟨ne_0, ne_1, ne_2, ne_3, ne_4, ne_5⟩, K1, A1, A_een, A_eti, A_esl⟩ := qv117
        have ne_b115_een : b115 ≠ een := Nat.ne_of_lt (Nat.lt_of_lt_of_le A_b115.lt sz_een)
        have ne_b115_eti : b115 ≠ eti := Nat.ne_of_lt (Nat.lt_of_lt_of_le A_b115.lt sz_eti)
        have ne_b115_esl : b115 ≠ esl := Nat.ne_of_lt (Nat.lt_of_lt_of_le A_b115.lt sz_esl)
        replace A_b115 := A1
        show W K l _ n0 _ h118 4 4 55 #[.val (.long t0), .second, .val (.long t1), .second, .val (.int flags), .val (.int f), .val (.int gg), .val (.int (0 : Int32)), .val (.int (1 : Int32)), .val (.int (3 : Int32)), .unset, .unset, .unset, .unset, .unset] [(.ref b115)]
        refine w_astore ok at_55 rfl (L' := #[.val (.long t0), .second, .val (.long t1), .second, .val (.int flags), .val (.int f), .val (.int gg), .val (.int (0 : Int32)), .val (.int (1 : Int32)), .val (.int (3 : Int32)), .val (.ref b115), .unset, .unset, .unset, .unset]) rfl ?_
        refine w_aload ok at_57 rfl rfl ?_
        refine w_iconst ok at_59 (v := (4 : Int32)) rfl ?_
        refine w_callV ok (y := (⟨"com/example/rowan/rowan/store/IdleHeap", "resize", "(I)V"⟩ : MethodName)) (a := b115) (argsL := [(.int (4 : Int32))]) (rest := []) at_60 (hw _ (List.mem_of_getElem? (i := 17) rfl)) (hw _ (List.mem_of_getElem? (i := 18) rfl)) (hw _ (List.mem_of_getElem? (i := 20) rfl)) (hw _ (List.mem_of_getElem? (i := 19) rfl)) (hw _ (List.mem_of_getElem? (i := 2) rfl)) (hw _ (List.mem_of_getElem? (i := 21) rfl)) (by decide) A_b115.1 pd_28I29V rfl rfl (by decide) (Nat.le_of_ble_eq_true rfl) (by decide) (by decide) (fun z0 => rm_resize l Z a0 hw [] n0 h118 z0 b115 een eti esl A_b115 A_een A_eti A_esl ge_b115 ne_0 ne_1 ne_2 ne_3 ne_4 ne_5) (fun v119 h120 qv119 => ?_)
        obtain ⟨rfl, fen, fti, fsl, ⟨sz_fen, sz_fti, sz_fsl⟩, ⟨ge_fen, ge_fti, ge_fsl⟩, ⟨nf_0, nf_1, nf_2, nf_3, nf_4, nf_5⟩, K1, A1, A_fen, A_fti, A_fsl⟩ := qv119
        have ne_b115_fen : b115 ≠ fen := Nat.ne_of_lt (Nat.lt_of_lt_of_le A_b115.lt sz_fen)
        have ne_een_fen : een ≠ fen := Nat.ne_of_lt (Nat.lt_of_lt_of_le A_een.lt sz_fen)
        have ne_eti_fen : eti ≠ fen := Nat.ne_of_lt (Nat.lt_of_lt_of_le A_eti.lt sz_fen)
        have ne_esl_fen : esl ≠ fen := Nat.ne_of_lt (Nat.lt_of_lt_of_le A_esl.lt sz_fen)
        have ne_b115_fti : b115 ≠ fti := Nat.ne_of_lt (Nat.lt_of_lt_of_le A_b115.lt sz_fti)
        have ne_een_fti : een ≠ fti := Nat.ne_of_lt (Nat.lt_of_lt_of_le A_een.lt sz_fti)
        have ne_eti_fti : eti ≠ fti := Nat.ne_of_lt (Nat.lt_of_lt_of_le A_eti.lt sz_fti)
        have ne_esl_fti : esl ≠ fti := Nat.ne_of_lt (Nat.lt_of_lt_of_le A_esl.lt sz_fti)
        have ne_b115_fsl : b115 ≠ fsl := Nat.ne_of_lt (Nat.lt_of_lt_of_le A_b115.lt sz_fsl)
        have ne_een_fsl : een ≠ fsl := Nat.ne_of_lt (Nat.lt_of_lt_of_le A_een.lt sz_fsl)
        have ne_eti_fsl : eti ≠ fsl := Nat.ne_of_lt (Nat.lt_of_lt_of_le A_eti.lt sz_fsl)
        have ne_esl_fsl : esl ≠ fsl := Nat.ne_of_lt (Nat.lt_of_lt_of_le A_esl.lt sz_fsl)
        replace A_een := A_een.keep K1 (ninS (Ne.symm ne_0) nin0)
        replace A_eti := A_eti.keep K1 (ninS (Ne.symm ne_1) nin0)
        replace A_esl := A_esl.keep K1 (ninS (Ne.symm ne_2) nin0)
        replace A_b115 := A1
        show W K l _ n0 _ h120 7 16 63 #[.val (.long t0), .second, .val (.long t1), .second, .val (.int flags), .val (.int f), .val (.int gg), .val (.int (0 : Int32)), .val (.int (1 : Int32)), .val (.int (3 : Int32)), .val (.ref b115), .unset, .unset, .unset, .unset] []
        refine w_aload ok at_63 rfl rfl ?_
        refine w_iconst ok at_65 (v := (0 : Int32)) rfl ?_
        refine w_lloadN ok at_66 rfl ?_
        refine w_callV ok (y := (⟨"com/example/rowan/rowan/store/IdleHeap", "add", "(IJ)V"⟩ : MethodName)) (a := b115) (argsL := [(.int (0 : Int32)), (.long t0)]) (rest := []) at_67 (hw _ (List.mem_of_getElem? (i := 43) rfl)) (hw _ (List.mem_of_getElem? (i := 44) rfl)) (hw _ (List.mem_of_getElem? (i := 46) rfl)) (hw _ (List.mem_of_getElem? (i := 45) rfl)) (hw _ (List.mem_of_getElem? (i := 2) rfl)) (hw _ (List.mem_of_getElem? (i := 47) rfl)) (by decide) A_b115.1 pd_28IJ29V rfl rfl (by decide) (Nat.le_of_ble_eq_true rfl) (by decide) (by decide) (fun z0 => rm_add l Z a0 hw [] n0 h120 z0 b115 fen fti fsl 0 (fun _ => 0) (fun _ => -1) (fun _ => 0) A_b115 A_fen A_fti A_fsl ge_b115 ge_fen ge_fti ge_fsl nf_0 nf_1 nf_2 nf_3 nf_4 nf_5 (fun _ => none) own_pp0 own_ho0 0 t0 (by decide) rfl (by decide)) (fun v121 h122 qv121 => ?_)
        obtain ⟨rfl, e1, g1, τ1, K1, A0, A1, A2, A3, P1, H1, E1⟩ := qv121
        replace A_b115 : Ob Z h122 b115 "com/example/rowan/rowan/store/IdleHeap" fl_IdleHeap [(.ref fen), (.ref fti), (.ref fsl), (.int (1 : Int32))] := A0
        replace A_fen := A1
        replace A_fti := A2
        replace A_fsl := A3
        show W K l _ n0 _ h122 7 16 70 #[.val (.long t0), .second, .val (.long t1), .second, .val (.int flags), .val (.int f), .val (.int gg), .val (.int (0 : Int32)), .val (.int (1 : Int32)), .val (.int (3 : Int32)), .val (.ref b115), .unset, .unset, .unset, .unset] []
        refine w_iload ok at_70 rfl ?_
        refine w_if_eq ok at_72 (pc' := 82) (by decide) (fun hc124 => ?_) (fun hc124 => False.elim (by revert hc124; decide))
        show W K l _ n0 _ h122 7 16 82 #[.val (.long t0), .second, .val (.long t1), .second, .val (.int flags), .val (.int f), .val (.int gg), .val (.int (0 : Int32)), .val (.int (1 : Int32)), .val (.int (3 : Int32)), .val (.ref b115), .unset, .unset, .unset, .unset] []
        refine w_iload ok at_82 rfl ?_
        refine w_if_eq ok at_84 (pc' := 97) (by decide) (fun hc126 => ?_) (fun hc126 => False.elim (by revert hc126; decide))
        show W K l _ n0 _ h122 7 16 97 #[.val (.long t0), .second, .val (.long t1), .second, .val (.int flags), .val (.int f), .val (.int gg), .val (.int (0 : Int32)), .val (.int (1 : Int32)), .val (.int (3 : Int32)), .val (.ref b115), .unset, .unset, .unset, .unset] []
        refine w_iconst ok at_97 (v := (0 : Int32)) rfl ?_
        show W K l _ n0 _ h122 7 16 98 #[.val (.long t0), .second, .val (.long t1), .second, .val (.int flags), .val (.int f), .val (.int gg), .val (.int (0 : Int32)), .val (.int (1 : Int32)), .val (.int (3 : Int32)), .val (.ref b115), .unset, .unset, .unset, .unset] [(.int (0 : Int32))]
        obtain ⟨o1, o2⟩ := own_one P1
        have E : e1 0 = Int32.ofNat 0 := o1
        refine w_istore ok at_98 (L' := #[.val (.long t0), .second, .val (.long t1), .second, .val (.int flags), .val (.int f), .val (.int gg), .val (.int (0 : Int32)), .val (.int (1 : Int32)), .val (.int (3 : Int32)), .val (.ref b115), .val (.int (0 : Int32)), .unset, .unset, .unset]) rfl ?_
        refine w_iload ok at_100 rfl ?_
        refine w_if_eq ok at_102 (pc' := 112) (by decide) (fun hc128 => ?_) (fun hc128 => False.elim (by revert hc128; decide))
        show W K l _ n0 _ h122 7 16 112 #[.val (.long t0), .second, .val (.long t1), .second, .val (.int flags), .val (.int f), .val (.int gg), .val (.int (0 : Int32)), .val (.int (1 : Int32)), .val (.int (3 : Int32)), .val (.ref b115), .val (.int (0 : Int32)), .unset, .unset, .unset] []
        refine w_iconst ok at_112 (v := (-1 : Int32)) rfl ?_
        refine w_istore ok at_113 (L' := #[.val (.long t0), .second, .val (.long t1), .second, .val (.int flags), .val (.int f), .val (.int gg), .val (.int (0 : Int32)), .val (.int (1 : Int32)), .val (.int (3 : Int32)), .val (.ref b115), .val (.int (0 : Int32)), .val (.int (-1 : Int32)), .unset, .unset]) rfl ?_
        refine w_aload ok at_115 rfl rfl ?_
        refine w_iload ok at_117 rfl ?_
        refine w_iload ok at_119 rfl ?_
        refine w_callV ok (y := (⟨"com/example/rowan/rowan/store/IdleHeap", "renumber", "(II)V"⟩ : MethodName)) (a := b115) (argsL := [(.int (1 : Int32)), (.int (3 : Int32))]) (rest := []) at_121 (hw _ (List.mem_of_getElem? (i := 58) rfl)) (hw _ (List.mem_of_getElem? (i := 59) rfl)) (hw _ (List.mem_of_getElem? (i := 61) rfl)) (hw _ (List.mem_of_getElem? (i := 60) rfl)) (hw _ (List.mem_of_getElem? (i := 2) rfl)) (hw _ (List.mem_of_getElem? (i := 62) rfl)) (by decide) A_b115.1 pd_28II29V rfl rfl (by decide) (Nat.le_of_ble_eq_true rfl) (by decide) (by decide) (fun z0 => rm_ren0 l Z a0 hw [] n0 h122 z0 b115 fen fti fsl 1 e1 g1 τ1 A_b115 A_fen A_fti A_fsl ge_b115 ge_fen ge_fti ge_fsl nf_0 nf_1 nf_2 nf_3 nf_4 nf_5 (put (fun _ => none) 0 (some t0)) P1 H1 1 3 (by decide) (by decide) rfl rfl) (fun v129 h130 qv129 => ?_)
        obtain ⟨rfl, K1, A0, A1, A2, A3⟩ := qv129
        replace A_b115 : Ob Z h130 b115 "com/example/rowan/rowan/store/IdleHeap" fl_IdleHeap [(.ref fen), (.ref fti), (.ref fsl), (.int (1 : Int32))] := A0
        replace A_fen : PA .int Z h130 fen (sv 4 e1) := A1
        replace A_fti : PA .long Z h130 fti (lv 4 τ1) := A2
        replace A_fsl : PA .int Z h130 fsl (sv 4 g1) := A3
        show W K l _ n0 _ h130 7 16 124 #[.val (.long t0), .second, .val (.long t1), .second, .val (.int flags), .val (.int f), .val (.int gg), .val (.int (0 : Int32)), .val (.int (1 : Int32)), .val (.int (3 : Int32)), .val (.ref b115), .val (.int (0 : Int32)), .val (.int (-1 : Int32)), .unset, .unset] []
        refine w_aload ok at_124 rfl rfl ?_
        refine w_iload ok at_126 rfl ?_
        refine w_callV ok (y := (⟨"com/example/rowan/rowan/store/IdleHeap", "remove", "(I)V"⟩ : MethodName)) (a := b115) (argsL := [(.int (1 : Int32))]) (rest := []) at_128 (hw _ (List.mem_of_getElem? (i := 63) rfl)) (hw _ (List.mem_of_getElem? (i := 64) rfl)) (hw _ (List.mem_of_getElem? (i := 66) rfl)) (hw _ (List.mem_of_getElem? (i := 65) rfl)) (hw _ (List.mem_of_getElem? (i := 2) rfl)) (hw _ (List.mem_of_getElem? (i := 67) rfl)) (by decide) A_b115.1 pd_28I29V rfl rfl (by decide) (Nat.le_of_ble_eq_true rfl) (by decide) (by decide) (fun z0 => rm_remove0 l Z a0 hw [] n0 h130 z0 b115 fen fti fsl 1 e1 g1 τ1 A_b115 A_fen A_fti A_fsl ge_b115 ge_fen ge_fti ge_fsl nf_0 nf_1 nf_2 nf_3 nf_4 nf_5 (put (fun _ => none) 0 (some t0)) P1 H1 1 (by decide) rfl) (fun v131 h132 qv131 => ?_)
        obtain ⟨rfl, rfl⟩ := qv131
        show W K l _ n0 _ h130 7 16 131 #[.val (.long t0), .second, .val (.long t1), .second, .val (.int flags), .val (.int f), .val (.int gg), .val (.int (0 : Int32)), .val (.int (1 : Int32)), .val (.int (3 : Int32)), .val (.ref b115), .val (.int (0 : Int32)), .val (.int (-1 : Int32)), .unset, .unset] []
        refine w_iload ok at_131 rfl ?_
        refine w_iload ok at_133 rfl ?_
        refine w_iload ok at_135 rfl ?_
        refine w_callS ok (y := (⟨"com/example/rowan/rowan/store/IdleHeapRenumberPinLaw", "map", "(III)I"⟩ : MethodName)) (argsL := [(.int (0 : Int32)), (.int (1 : Int32)), (.int (3 : Int32))]) (rest := []) at_137 (hw _ (List.mem_of_getElem? (i := 68) rfl)) (hw _ (List.mem_of_getElem? (i := 69) rfl)) (hw _ (List.mem_of_getElem? (i := 70) rfl)) (hw _ (List.mem_of_getElem? (i := 71) rfl)) (by decide) pd_28III29I rfl rfl (by decide) (Nat.le_of_ble_eq_true rfl) (by decide) (by decide) (fun z0 => rm_map l Z a0 hw [] n0 h130 z0 (0 : Int32) (1 : Int32) (3 : Int32)) (fun v133 h134 qv133 => ?_)
        obtain ⟨rfl, rfl⟩ := qv133
        rw [show own_map (0 : Int32) (1 : Int32) (3 : Int32) = (0 : Int32) from rfl]
        show W K l _ n0 _ h130 7 16 140 #[.val (.long t0), .second, .val (.long t1), .second, .val (.int flags), .val (.int f), .val (.int gg), .val (.int (0 : Int32)), .val (.int (1 : Int32)), .val (.int (3 : Int32)), .val (.ref b115), .val (.int (0 : Int32)), .val (.int (-1 : Int32)), .unset, .unset] [(.int (0 : Int32))]
        refine w_istore ok at_140 (L' := #[.val (.long t0), .second, .val (.long t1), .second, .val (.int flags), .val (.int f), .val (.int gg), .val (.int (0 : Int32)), .val (.int (1 : Int32)), .val (.int (3 : Int32)), .val (.ref b115), .val (.int (0 : Int32)), .val (.int (-1 : Int32)), .val (.int (0 : Int32)), .unset]) rfl ?_
        refine w_aload ok at_142 rfl rfl ?_
        refine w_callV ok (y := (⟨"com/example/rowan/rowan/store/IdleHeap", "first", "()I"⟩ : MethodName)) (a := b115) (argsL := []) (rest := []) at_144 (hw _ (List.mem_of_getElem? (i := 72) rfl)) (hw _ (List.mem_of_getElem? (i := 73) rfl)) (hw _ (List.mem_of_getElem? (i := 75) rfl)) (hw _ (List.mem_of_getElem? (i := 74) rfl)) (hw _ (List.mem_of_getElem? (i := 2) rfl)) (hw _ (List.mem_of_getElem? (i := 76) rfl)) (by decide) A_b115.1 pd_2829I rfl rfl (by decide) (Nat.le_of_ble_eq_true rfl) (by decide) (by decide) (fun z0 => rm_first l Z a0 hw [] n0 h130 z0 b115 fen fti fsl 1 e1 g1 τ1 A_b115 A_fen A_fti A_fsl ge_b115 ge_fen ge_fti ge_fsl nf_0 nf_1 nf_2 nf_3 nf_4 nf_5 (put (fun _ => none) 0 (some t0)) P1 H1) (fun v135 h136 qv135 => ?_)
        obtain ⟨rfl, ⟨hs0, rfl⟩ | ⟨y, hy, hs, ey, rfl⟩⟩ := qv135
        · exact absurd hs0 (by decide)
        · skip
          obtain rfl : y = 0 := own_inj hy (by decide) (ey.symm.trans E)
          show W K l _ n0 _ h130 7 16 147 #[.val (.long t0), .second, .val (.long t1), .second, .val (.int flags), .val (.int f), .val (.int gg), .val (.int (0 : Int32)), .val (.int (1 : Int32)), .val (.int (3 : Int32)), .val (.ref b115), .val (.int (0 : Int32)), .val (.int (-1 : Int32)), .val (.int (0 : Int32)), .unset] [(.int (0 : Int32))]
          refine w_iload ok at_147 rfl ?_
          refine w_icmp_eq ok at_149 (pc' := 154) (by decide) (fun hc138 => ?_) (fun hc138 => False.elim (by revert hc138; decide))
          show W K l _ n0 _ h130 7 16 154 #[.val (.long t0), .second, .val (.long t1), .second, .val (.int flags), .val (.int f), .val (.int gg), .val (.int (0 : Int32)), .val (.int (1 : Int32)), .val (.int (3 : Int32)), .val (.ref b115), .val (.int (0 : Int32)), .val (.int (-1 : Int32)), .val (.int (0 : Int32)), .unset] []
          refine w_aload ok at_154 rfl rfl ?_
          refine w_iload ok at_156 rfl ?_
          refine w_callV ok (y := (⟨"com/example/rowan/rowan/store/IdleHeap", "remove", "(I)V"⟩ : MethodName)) (a := b115) (argsL := [(.int (0 : Int32))]) (rest := []) at_158 (hw _ (List.mem_of_getElem? (i := 63) rfl)) (hw _ (List.mem_of_getElem? (i := 64) rfl)) (hw _ (List.mem_of_getElem? (i := 66) rfl)) (hw _ (List.mem_of_getElem? (i := 65) rfl)) (hw _ (List.mem_of_getElem? (i := 2) rfl)) (hw _ (List.mem_of_getElem? (i := 67) rfl)) (by decide) A_b115.1 pd_28I29V rfl rfl (by decide) (Nat.le_of_ble_eq_true rfl) (by decide) (by decide) (fun z0 => rm_remove l Z a0 hw [] n0 h130 z0 b115 fen fti fsl 1 e1 g1 τ1 A_b115 A_fen A_fti A_fsl ge_b115 ge_fen ge_fti ge_fsl nf_0 nf_1 nf_2 nf_3 nf_4 nf_5 (put (fun _ => none) 0 (some t0)) P1 H1 0 (by decide)) (fun v140 h141 qv140 => ?_)
          obtain ⟨rfl, sx139, ex139, gx139, τx139, K1, A0, A1, A2, A3, Px139, Hx139⟩ := qv140
          replace A_b115 : Ob Z h141 b115 "com/example/rowan/rowan/store/IdleHeap" fl_IdleHeap [(.ref fen), (.ref fti), (.ref fsl), (.int (Int32.ofNat sx139))] := A0
          replace A_fen := A1
          replace A_fti := A2
          replace A_fsl := A3
          show W K l _ n0 _ h141 7 16 161 #[.val (.long t0), .second, .val (.long t1), .second, .val (.int flags), .val (.int f), .val (.int gg), .val (.int (0 : Int32)), .val (.int (1 : Int32)), .val (.int (3 : Int32)), .val (.ref b115), .val (.int (0 : Int32)), .val (.int (-1 : Int32)), .val (.int (0 : Int32)), .unset] []
          refine w_iload ok at_161 rfl ?_
          refine w_iconst ok at_163 (v := (-1 : Int32)) rfl ?_
          refine w_icmp_ne ok at_164 (pc' := 171) (by decide) (fun hc143 => False.elim (by revert hc143; decide)) (fun hc143 => ?_)
          show W K l _ n0 _ h141 7 16 167 #[.val (.long t0), .second, .val (.long t1), .second, .val (.int flags), .val (.int f), .val (.int gg), .val (.int (0 : Int32)), .val (.int (1 : Int32)), .val (.int (3 : Int32)), .val (.ref b115), .val (.int (0 : Int32)), .val (.int (-1 : Int32)), .val (.int (0 : Int32)), .unset] []
          refine w_iconst ok at_167 (v := (-1 : Int32)) rfl ?_
          refine w_goto ok at_168 (pc' := 180) (by decide) ?_
          refine w_istore ok at_180 (L' := #[.val (.long t0), .second, .val (.long t1), .second, .val (.int flags), .val (.int f), .val (.int gg), .val (.int (0 : Int32)), .val (.int (1 : Int32)), .val (.int (3 : Int32)), .val (.ref b115), .val (.int (0 : Int32)), .val (.int (-1 : Int32)), .val (.int (0 : Int32)), .val (.int (-1 : Int32))]) rfl ?_
          refine w_aload ok at_182 rfl rfl ?_
          refine w_callV ok (y := (⟨"com/example/rowan/rowan/store/IdleHeap", "first", "()I"⟩ : MethodName)) (a := b115) (argsL := []) (rest := []) at_184 (hw _ (List.mem_of_getElem? (i := 72) rfl)) (hw _ (List.mem_of_getElem? (i := 73) rfl)) (hw _ (List.mem_of_getElem? (i := 75) rfl)) (hw _ (List.mem_of_getElem? (i := 74) rfl)) (hw _ (List.mem_of_getElem? (i := 2) rfl)) (hw _ (List.mem_of_getElem? (i := 76) rfl)) (by decide) A_b115.1 pd_2829I rfl rfl (by decide) (Nat.le_of_ble_eq_true rfl) (by decide) (by decide) (fun z0 => rm_first l Z a0 hw [] n0 h141 z0 b115 fen fti fsl sx139 ex139 gx139 τx139 A_b115 A_fen A_fti A_fsl ge_b115 ge_fen ge_fti ge_fsl nf_0 nf_1 nf_2 nf_3 nf_4 nf_5 (put (put (fun _ => none) 0 (some t0)) 0 none) Px139 Hx139) (fun v144 h145 qv144 => ?_)
          obtain ⟨rfl, ⟨hs0, rfl⟩ | ⟨y, hy, hs, ey, rfl⟩⟩ := qv144
          · skip
            show W K l _ n0 _ h141 7 16 187 #[.val (.long t0), .second, .val (.long t1), .second, .val (.int flags), .val (.int f), .val (.int gg), .val (.int (0 : Int32)), .val (.int (1 : Int32)), .val (.int (3 : Int32)), .val (.ref b115), .val (.int (0 : Int32)), .val (.int (-1 : Int32)), .val (.int (0 : Int32)), .val (.int (-1 : Int32))] [(.int (-1 : Int32))]
            refine w_iload ok at_187 rfl ?_
            refine w_icmp_eq ok at_189 (pc' := 194) (by decide) (fun hc147 => ?_) (fun hc147 => False.elim (by revert hc147; decide))
            show W K l _ n0 _ h141 7 16 194 #[.val (.long t0), .second, .val (.long t1), .second, .val (.int flags), .val (.int f), .val (.int gg), .val (.int (0 : Int32)), .val (.int (1 : Int32)), .val (.int (3 : Int32)), .val (.ref b115), .val (.int (0 : Int32)), .val (.int (-1 : Int32)), .val (.int (0 : Int32)), .val (.int (-1 : Int32))] []
            refine w_iload ok at_194 rfl ?_
            refine w_iconst ok at_196 (v := (-1 : Int32)) rfl ?_
            refine w_icmp_eq ok at_197 (pc' := 218) (by decide) (fun hc149 => ?_) (fun hc149 => False.elim (by revert hc149; decide))
            show W K l _ n0 _ h141 7 16 218 #[.val (.long t0), .second, .val (.long t1), .second, .val (.int flags), .val (.int f), .val (.int gg), .val (.int (0 : Int32)), .val (.int (1 : Int32)), .val (.int (3 : Int32)), .val (.ref b115), .val (.int (0 : Int32)), .val (.int (-1 : Int32)), .val (.int (0 : Int32)), .val (.int (-1 : Int32))] []
            refine w_iconst ok at_218 (v := (1 : Int32)) rfl ?_
            refine w_bret ok (by simp) at_219 (by decide) (by decide) ?_
            exact rfl
          · have my := (Px139.at hs hy ey).1
            obtain rfl | rfl | rfl | rfl : y = 0 ∨ y = 1 ∨ y = 2 ∨ y = 3 := by omega
            · cases (show none = some _ from my)
            · cases (show none = some _ from my)
            · cases (show none = some _ from my)
            · cases (show none = some _ from my)
    · skip
      show W K l _ n0 _ h0 0 0 20 #[.val (.long t0), .second, .val (.long t1), .second, .val (.int flags), .val (.int f), .val (.int gg), .val (.int (0 : Int32)), .val (.int (2 : Int32)), .unset, .unset, .unset, .unset, .unset, .unset] []
      refine w_iload ok at_20 rfl ?_
      refine w_iconst ok at_22 (v := (2 : Int32)) rfl ?_
      refine w_icmp_ne ok at_23 (pc' := 30) (by decide) (fun hc151 => False.elim (by revert hc151; decide)) (fun hc151 => ?_)
      show W K l _ n0 _ h0 0 0 26 #[.val (.long t0), .second, .val (.long t1), .second, .val (.int flags), .val (.int f), .val (.int gg), .val (.int (0 : Int32)), .val (.int (2 : Int32)), .unset, .unset, .unset, .unset, .unset, .unset] []
      refine w_iconst ok at_26 (v := (3 : Int32)) rfl ?_
      refine w_goto ok at_27 (pc' := 46) (by decide) ?_
      refine w_istore ok at_46 (L' := #[.val (.long t0), .second, .val (.long t1), .second, .val (.int flags), .val (.int f), .val (.int gg), .val (.int (0 : Int32)), .val (.int (2 : Int32)), .val (.int (3 : Int32)), .unset, .unset, .unset, .unset, .unset]) rfl ?_
      refine w_new ok at_48 (hw _ (List.mem_of_getElem? (i := 0) rfl)) (hw _ (List.mem_of_getElem? (i := 1) rfl)) (hw _ (List.mem_of_getElem? (i := 2) rfl)) (la_IdleHeap hw) (by decide) (by decide) (fun h153 b152 ea_b152 ge_b152 E_b152 A_b152 => ?_)
      replace A_b152 : Ob Z h153 b152 "com/example/rowan/rowan/store/IdleHeap" fl_IdleHeap [.null, .null, .null, (.int (0 : Int32))] := A_b152
      refine w_dup ok at_51 rfl ?_
      refine w_callI ok (y := (⟨"com/example/rowan/rowan/store/IdleHeap", "<init>", "()V"⟩ : MethodName)) (a := b152) (argsL := []) (rest := [(.ref b152)]) at_52 rfl (hw _ (List.mem_of_getElem? (i := 3) rfl)) (hw _ (List.mem_of_getElem? (i := 4) rfl)) (hw _ (List.mem_of_getElem? (i := 2) rfl)) (hw _ (List.mem_of_getElem? (i := 5) rfl)) (by decide) pd_2829V rfl rfl (by decide) (Nat.le_of_ble_eq_true rfl) (by decide) (by decide) (fun z0 => rm_ctor l Z a0 hw [] n0 h153 z0 b152 A_b152 ge_b152) (fun v154 h155 qv154 => ?_)
      obtain ⟨rfl, een, eti, esl, ⟨sz_een, sz_eti, sz_esl⟩, ⟨ge_een, ge_eti, ge_esl⟩, ⟨ne_0, ne_1, ne_2, ne_3, ne_4, ne_5⟩, K1, A1, A_een, A_eti, A_esl⟩ := qv154
      have ne_b152_een : b152 ≠ een := Nat.ne_of_lt (Nat.lt_of_lt_of_le A_b152.lt sz_een)
      have ne_b152_eti : b152 ≠ eti := Nat.ne_of_lt (Nat.lt_of_lt_of_le A_b152.lt sz_eti)
      have ne_b152_esl : b152 ≠ esl := Nat.ne_of_lt (Nat.lt_of_lt_of_le A_b152.lt sz_esl)
      replace A_b152 := A1
      show W K l _ n0 _ h155 4 4 55 #[.val (.long t0), .second, .val (.long t1), .second, .val (.int flags), .val (.int f), .val (.int gg), .val (.int (0 : Int32)), .val (.int (2 : Int32)), .val (.int (3 : Int32)), .unset, .unset, .unset, .unset, .unset] [(.ref b152)]
      refine w_astore ok at_55 rfl (L' := #[.val (.long t0), .second, .val (.long t1), .second, .val (.int flags), .val (.int f), .val (.int gg), .val (.int (0 : Int32)), .val (.int (2 : Int32)), .val (.int (3 : Int32)), .val (.ref b152), .unset, .unset, .unset, .unset]) rfl ?_
      refine w_aload ok at_57 rfl rfl ?_
      refine w_iconst ok at_59 (v := (4 : Int32)) rfl ?_
      refine w_callV ok (y := (⟨"com/example/rowan/rowan/store/IdleHeap", "resize", "(I)V"⟩ : MethodName)) (a := b152) (argsL := [(.int (4 : Int32))]) (rest := []) at_60 (hw _ (List.mem_of_getElem? (i := 17) rfl)) (hw _ (List.mem_of_getElem? (i := 18) rfl)) (hw _ (List.mem_of_getElem? (i := 20) rfl)) (hw _ (List.mem_of_getElem? (i := 19) rfl)) (hw _ (List.mem_of_getElem? (i := 2) rfl)) (hw _ (List.mem_of_getElem? (i := 21) rfl)) (by decide) A_b152.1 pd_28I29V rfl rfl (by decide) (Nat.le_of_ble_eq_true rfl) (by decide) (by decide) (fun z0 => rm_resize l Z a0 hw [] n0 h155 z0 b152 een eti esl A_b152 A_een A_eti A_esl ge_b152 ne_0 ne_1 ne_2 ne_3 ne_4 ne_5) (fun v156 h157 qv156 => ?_)
      obtain ⟨rfl, fen, fti, fsl, ⟨sz_fen, sz_fti, sz_fsl⟩, ⟨ge_fen, ge_fti, ge_fsl⟩, ⟨nf_0, nf_1, nf_2, nf_3, nf_4, nf_5⟩, K1, A1, A_fen, A_fti, A_fsl⟩ := qv156
      have ne_b152_fen : b152 ≠ fen := Nat.ne_of_lt (Nat.lt_of_lt_of_le A_b152.lt sz_fen)
      have ne_een_fen : een ≠ fen := Nat.ne_of_lt (Nat.lt_of_lt_of_le A_een.lt sz_fen)
      have ne_eti_fen : eti ≠ fen := Nat.ne_of_lt (Nat.lt_of_lt_of_le A_eti.lt sz_fen)
      have ne_esl_fen : esl ≠ fen := Nat.ne_of_lt (Nat.lt_of_lt_of_le A_esl.lt sz_fen)
      have ne_b152_fti : b152 ≠ fti := Nat.ne_of_lt (Nat.lt_of_lt_of_le A_b152.lt sz_fti)
      have ne_een_fti : een ≠ fti := Nat.ne_of_lt (Nat.lt_of_lt_of_le A_een.lt sz_fti)
      have ne_eti_fti : eti ≠ fti := Nat.ne_of_lt (Nat.lt_of_lt_of_le A_eti.lt sz_fti)
      have ne_esl_fti : esl ≠ fti := Nat.ne_of_lt (Nat.lt_of_lt_of_le A_esl.lt sz_fti)
      have ne_b152_fsl : b152 ≠ fsl := Nat.ne_of_lt (Nat.lt_of_lt_of_le A_b152.lt sz_fsl)
      have ne_een_fsl : een ≠ fsl := Nat.ne_of_lt (Nat.lt_of_lt_of_le A_een.lt sz_fsl)
      have ne_eti_fsl : eti ≠ fsl := Nat.ne_of_lt (Nat.lt_of_lt_of_le A_eti.lt sz_fsl)
      have ne_esl_fsl : esl ≠ fsl := Nat.ne_of_lt (Nat.lt_of_lt_of_le A_esl.lt sz_fsl)
      replace A_een := A_een.keep K1 (ninS (Ne.symm ne_0) nin0)
      replace A_eti := A_eti.keep K1 (ninS (Ne.symm ne_1) nin0)
      replace A_esl := A_esl.keep K1 (ninS (Ne.symm ne_2) nin0)
      replace A_b152 := A1
      show W K l _ n0 _ h157 7 16 63 #[.val (.long t0), .second, .val (.long t1), .second, .val (.int flags), .val (.int f), .val (.int gg), .val (.int (0 : Int32)), .val (.int (2 : Int32)), .val (.int (3 : Int32)), .val (.ref b152), .unset, .unset, .unset, .unset] []
      refine w_aload ok at_63 rfl rfl ?_
      refine w_iconst ok at_65 (v := (0 : Int32)) rfl ?_
      refine w_lloadN ok at_66 rfl ?_
      refine w_callV ok (y := (⟨"com/example/rowan/rowan/store/IdleHeap", "add", "(IJ)V"⟩ : MethodName)) (a := b152) (argsL := [(.int (0 : Int32)), (.long t0)]) (rest := []) at_67 (hw _ (List.mem_of_getElem? (i := 43) rfl)) (hw _ (List.mem_of_getElem? (i := 44) rfl)) (hw _ (List.mem_of_getElem? (i := 46) rfl)) (hw _ (List.mem_of_getElem? (i := 45) rfl)) (hw _ (List.mem_of_getElem? (i := 2) rfl)) (hw _ (List.mem_of_getElem? (i := 47) rfl)) (by decide) A_b152.1 pd_28IJ29V rfl rfl (by decide) (Nat.le_of_ble_eq_true rfl) (by decide) (by decide) (fun z0 => rm_add l Z a0 hw [] n0 h157 z0 b152 fen fti fsl 0 (fun _ => 0) (fun _ => -1) (fun _ => 0) A_b152 A_fen A_fti A_fsl ge_b152 ge_fen ge_fti ge_fsl nf_0 nf_1 nf_2 nf_3 nf_4 nf_5 (fun _ => none) own_pp0 own_ho0 0 t0 (by decide) rfl (by decide)) (fun v158 h159 qv158 => ?_)
      obtain ⟨rfl, e1, g1, τ1, K1, A0, A1, A2, A3, P1, H1, E1⟩ := qv158
      replace A_b152 : Ob Z h159 b152 "com/example/rowan/rowan/store/IdleHeap" fl_IdleHeap [(.ref fen), (.ref fti), (.ref fsl), (.int (1 : Int32))] := A0
      replace A_fen := A1
      replace A_fti := A2
      replace A_fsl := A3
      show W K l _ n0 _ h159 7 16 70 #[.val (.long t0), .second, .val (.long t1), .second, .val (.int flags), .val (.int f), .val (.int gg), .val (.int (0 : Int32)), .val (.int (2 : Int32)), .val (.int (3 : Int32)), .val (.ref b152), .unset, .unset, .unset, .unset] []
      refine w_iload ok at_70 rfl ?_
      refine w_if_eq ok at_72 (pc' := 82) (by decide) (fun hc161 => ?_) (fun hc161 => False.elim (by revert hc161; decide))
      show W K l _ n0 _ h159 7 16 82 #[.val (.long t0), .second, .val (.long t1), .second, .val (.int flags), .val (.int f), .val (.int gg), .val (.int (0 : Int32)), .val (.int (2 : Int32)), .val (.int (3 : Int32)), .val (.ref b152), .unset, .unset, .unset, .unset] []
      refine w_iload ok at_82 rfl ?_
      refine w_if_eq ok at_84 (pc' := 97) (by decide) (fun hc163 => ?_) (fun hc163 => False.elim (by revert hc163; decide))
      show W K l _ n0 _ h159 7 16 97 #[.val (.long t0), .second, .val (.long t1), .second, .val (.int flags), .val (.int f), .val (.int gg), .val (.int (0 : Int32)), .val (.int (2 : Int32)), .val (.int (3 : Int32)), .val (.ref b152), .unset, .unset, .unset, .unset] []
      refine w_iconst ok at_97 (v := (0 : Int32)) rfl ?_
      show W K l _ n0 _ h159 7 16 98 #[.val (.long t0), .second, .val (.long t1), .second, .val (.int flags), .val (.int f), .val (.int gg), .val (.int (0 : Int32)), .val (.int (2 : Int32)), .val (.int (3 : Int32)), .val (.ref b152), .unset, .unset, .unset, .unset] [(.int (0 : Int32))]
      obtain ⟨o1, o2⟩ := own_one P1
      have E : e1 0 = Int32.ofNat 0 := o1
      refine w_istore ok at_98 (L' := #[.val (.long t0), .second, .val (.long t1), .second, .val (.int flags), .val (.int f), .val (.int gg), .val (.int (0 : Int32)), .val (.int (2 : Int32)), .val (.int (3 : Int32)), .val (.ref b152), .val (.int (0 : Int32)), .unset, .unset, .unset]) rfl ?_
      refine w_iload ok at_100 rfl ?_
      refine w_if_eq ok at_102 (pc' := 112) (by decide) (fun hc165 => ?_) (fun hc165 => False.elim (by revert hc165; decide))
      show W K l _ n0 _ h159 7 16 112 #[.val (.long t0), .second, .val (.long t1), .second, .val (.int flags), .val (.int f), .val (.int gg), .val (.int (0 : Int32)), .val (.int (2 : Int32)), .val (.int (3 : Int32)), .val (.ref b152), .val (.int (0 : Int32)), .unset, .unset, .unset] []
      refine w_iconst ok at_112 (v := (-1 : Int32)) rfl ?_
      refine w_istore ok at_113 (L' := #[.val (.long t0), .second, .val (.long t1), .second, .val (.int flags), .val (.int f), .val (.int gg), .val (.int (0 : Int32)), .val (.int (2 : Int32)), .val (.int (3 : Int32)), .val (.ref b152), .val (.int (0 : Int32)), .val (.int (-1 : Int32)), .unset, .unset]) rfl ?_
      refine w_aload ok at_115 rfl rfl ?_
      refine w_iload ok at_117 rfl ?_
      refine w_iload ok at_119 rfl ?_
      refine w_callV ok (y := (⟨"com/example/rowan/rowan/store/IdleHeap", "renumber", "(II)V"⟩ : MethodName)) (a := b152) (argsL := [(.int (2 : Int32)), (.int (3 : Int32))]) (rest := []) at_121 (hw _ (List.mem_of_getElem? (i := 58) rfl)) (hw _ (List.mem_of_getElem? (i := 59) rfl)) (hw _ (List.mem_of_getElem? (i := 61) rfl)) (hw _ (List.mem_of_getElem? (i := 60) rfl)) (hw _ (List.mem_of_getElem? (i := 2) rfl)) (hw _ (List.mem_of_getElem? (i := 62) rfl)) (by decide) A_b152.1 pd_28II29V rfl rfl (by decide) (Nat.le_of_ble_eq_true rfl) (by decide) (by decide) (fun z0 => rm_ren0 l Z a0 hw [] n0 h159 z0 b152 fen fti fsl 1 e1 g1 τ1 A_b152 A_fen A_fti A_fsl ge_b152 ge_fen ge_fti ge_fsl nf_0 nf_1 nf_2 nf_3 nf_4 nf_5 (put (fun _ => none) 0 (some t0)) P1 H1 2 3 (by decide) (by decide) rfl rfl) (fun v166 h167 qv166 => ?_)
      obtain ⟨rfl, K1, A0, A1, A2, A3⟩ := qv166
      replace A_b152 : Ob Z h167 b152 "com/example/rowan/rowan/store/IdleHeap" fl_IdleHeap [(.ref fen), (.ref fti), (.ref fsl), (.int (1 : Int32))] := A0
      replace A_fen : PA .int Z h167 fen (sv 4 e1) := A1
      replace A_fti : PA .long Z h167 fti (lv 4 τ1) := A2
      replace A_fsl : PA .int Z h167 fsl (sv 4 g1) := A3
      show W K l _ n0 _ h167 7 16 124 #[.val (.long t0), .second, .val (.long t1), .second, .val (.int flags), .val (.int f), .val (.int gg), .val (.int (0 : Int32)), .val (.int (2 : Int32)), .val (.int (3 : Int32)), .val (.ref b152), .val (.int (0 : Int32)), .val (.int (-1 : Int32)), .unset, .unset] []
      refine w_aload ok at_124 rfl rfl ?_
      refine w_iload ok at_126 rfl ?_
      refine w_callV ok (y := (⟨"com/example/rowan/rowan/store/IdleHeap", "remove", "(I)V"⟩ : MethodName)) (a := b152) (argsL := [(.int (2 : Int32))]) (rest := []) at_128 (hw _ (List.mem_of_getElem? (i := 63) rfl)) (hw _ (List.mem_of_getElem? (i := 64) rfl)) (hw _ (List.mem_of_getElem? (i := 66) rfl)) (hw _ (List.mem_of_getElem? (i := 65) rfl)) (hw _ (List.mem_of_getElem? (i := 2) rfl)) (hw _ (List.mem_of_getElem? (i := 67) rfl)) (by decide) A_b152.1 pd_28I29V rfl rfl (by decide) (Nat.le_of_ble_eq_true rfl) (by decide) (by decide) (fun z0 => rm_remove0 l Z a0 hw [] n0 h167 z0 b152 fen fti fsl 1 e1 g1 τ1 A_b152 A_fen A_fti A_fsl ge_b152 ge_fen ge_fti ge_fsl nf_0 nf_1 nf_2 nf_3 nf_4 nf_5 (put (fun _ => none) 0 (some t0)) P1 H1 2 (by decide) rfl) (fun v168 h169 qv168 => ?_)
      obtain ⟨rfl, rfl⟩ := qv168
      show W K l _ n0 _ h167 7 16 131 #[.val (.long t0), .second, .val (.long t1), .second, .val (.int flags), .val (.int f), .val (.int gg), .val (.int (0 : Int32)), .val (.int (2 : Int32)), .val (.int (3 : Int32)), .val (.ref b152), .val (.int (0 : Int32)), .val (.int (-1 : Int32)), .unset, .unset] []
      refine w_iload ok at_131 rfl ?_
      refine w_iload ok at_133 rfl ?_
      refine w_iload ok at_135 rfl ?_
      refine w_callS ok (y := (⟨"com/example/rowan/rowan/store/IdleHeapRenumberPinLaw", "map", "(III)I"⟩ : MethodName)) (argsL := [(.int (0 : Int32)), (.int (2 : Int32)), (.int (3 : Int32))]) (rest := []) at_137 (hw _ (List.mem_of_getElem? (i := 68) rfl)) (hw _ (List.mem_of_getElem? (i := 69) rfl)) (hw _ (List.mem_of_getElem? (i := 70) rfl)) (hw _ (List.mem_of_getElem? (i := 71) rfl)) (by decide) pd_28III29I rfl rfl (by decide) (Nat.le_of_ble_eq_true rfl) (by decide) (by decide) (fun z0 => rm_map l Z a0 hw [] n0 h167 z0 (0 : Int32) (2 : Int32) (3 : Int32)) (fun v170 h171 qv170 => ?_)
      obtain ⟨rfl, rfl⟩ := qv170
      rw [show own_map (0 : Int32) (2 : Int32) (3 : Int32) = (0 : Int32) from rfl]
      show W K l _ n0 _ h167 7 16 140 #[.val (.long t0), .second, .val (.long t1), .second, .val (.int flags), .val (.int f), .val (.int gg), .val (.int (0 : Int32)), .val (.int (2 : Int32)), .val (.int (3 : Int32)), .val (.ref b152), .val (.int (0 : Int32)), .val (.int (-1 : Int32)), .unset, .unset] [(.int (0 : Int32))]
      refine w_istore ok at_140 (L' := #[.val (.long t0), .second, .val (.long t1), .second, .val (.int flags), .val (.int f), .val (.int gg), .val (.int (0 : Int32)), .val (.int (2 : Int32)), .val (.int (3 : Int32)), .val (.ref b152), .val (.int (0 : Int32)), .val (.int (-1 : Int32)), .val (.int (0 : Int32)), .unset]) rfl ?_
      refine w_aload ok at_142 rfl rfl ?_
      refine w_callV ok (y := (⟨"com/example/rowan/rowan/store/IdleHeap", "first", "()I"⟩ : MethodName)) (a := b152) (argsL := []) (rest := []) at_144 (hw _ (List.mem_of_getElem? (i := 72) rfl)) (hw _ (List.mem_of_getElem? (i := 73) rfl)) (hw _ (List.mem_of_getElem? (i := 75) rfl)) (hw _ (List.mem_of_getElem? (i := 74) rfl)) (hw _ (List.mem_of_getElem? (i := 2) rfl)) (hw _ (List.mem_of_getElem? (i := 76) rfl)) (by decide) A_b152.1 pd_2829I rfl rfl (by decide) (Nat.le_of_ble_eq_true rfl) (by decide) (by decide) (fun z0 => rm_first l Z a0 hw [] n0 h167 z0 b152 fen fti fsl 1 e1 g1 τ1 A_b152 A_fen A_fti A_fsl ge_b152 ge_fen ge_fti ge_fsl nf_0 nf_1 nf_2 nf_3 nf_4 nf_5 (put (fun _ => none) 0 (some t0)) P1 H1) (fun v172 h173 qv172 => ?_)
      obtain ⟨rfl, ⟨hs0, rfl⟩ | ⟨y, hy, hs, ey, rfl⟩⟩ := qv172
      · exact absurd hs0 (by decide)
      · skip
        obtain rfl : y = 0 := own_inj hy (by decide) (ey.symm.trans E)
        show W K l _ n0 _ h167 7 16 147 #[.val (.long t0), .second, .val (.long t1), .second, .val (.int flags), .val (.int f), .val (.int gg), .val (.int (0 : Int32)), .val (.int (2 : Int32)), .val (.int (3 : Int32)), .val (.ref b152), .val (.int (0 : Int32)), .val (.int (-1 : Int32)), .val (.int (0 : Int32)), .unset] [(.int (0 : Int32))]
        refine w_iload ok at_147 rfl ?_
        refine w_icmp_eq ok at_149 (pc' := 154) (by decide) (fun hc175 => ?_) (fun hc175 => False.elim (by revert hc175; decide))
        show W K l _ n0 _ h167 7 16 154 #[.val (.long t0), .second, .val (.long t1), .second, .val (.int flags), .val (.int f), .val (.int gg), .val (.int (0 : Int32)), .val (.int (2 : Int32)), .val (.int (3 : Int32)), .val (.ref b152), .val (.int (0 : Int32)), .val (.int (-1 : Int32)), .val (.int (0 : Int32)), .unset] []
        refine w_aload ok at_154 rfl rfl ?_
        refine w_iload ok at_156 rfl ?_
        refine w_callV ok (y := (⟨"com/example/rowan/rowan/store/IdleHeap", "remove", "(I)V"⟩ : MethodName)) (a := b152) (argsL := [(.int (0 : Int32))]) (rest := []) at_158 (hw _ (List.mem_of_getElem? (i := 63) rfl)) (hw _ (List.mem_of_getElem? (i := 64) rfl)) (hw _ (List.mem_of_getElem? (i := 66) rfl)) (hw _ (List.mem_of_getElem? (i := 65) rfl)) (hw _ (List.mem_of_getElem? (i := 2) rfl)) (hw _ (List.mem_of_getElem? (i := 67) rfl)) (by decide) A_b152.1 pd_28I29V rfl rfl (by decide) (Nat.le_of_ble_eq_true rfl) (by decide) (by decide) (fun z0 => rm_remove l Z a0 hw [] n0 h167 z0 b152 fen fti fsl 1 e1 g1 τ1 A_b152 A_fen A_fti A_fsl ge_b152 ge_fen ge_fti ge_fsl nf_0 nf_1 nf_2 nf_3 nf_4 nf_5 (put (fun _ => none) 0 (some t0)) P1 H1 0 (by decide)) (fun v177 h178 qv177 => ?_)
        obtain ⟨rfl, sx176, ex176, gx176, τx176, K1, A0, A1, A2, A3, Px176, Hx176⟩ := qv177
        replace A_b152 : Ob Z h178 b152 "com/example/rowan/rowan/store/IdleHeap" fl_IdleHeap [(.ref fen), (.ref fti), (.ref fsl), (.int (Int32.ofNat sx176))] := A0
        replace A_fen := A1
        replace A_fti := A2
        replace A_fsl := A3
        show W K l _ n0 _ h178 7 16 161 #[.val (.long t0), .second, .val (.long t1), .second, .val (.int flags), .val (.int f), .val (.int gg), .val (.int (0 : Int32)), .val (.int (2 : Int32)), .val (.int (3 : Int32)), .val (.ref b152), .val (.int (0 : Int32)), .val (.int (-1 : Int32)), .val (.int (0 : Int32)), .unset] []
        refine w_iload ok at_161 rfl ?_
        refine w_iconst ok at_163 (v := (-1 : Int32)) rfl ?_
        refine w_icmp_ne ok at_164 (pc' := 171) (by decide) (fun hc180 => False.elim (by revert hc180; decide)) (fun hc180 => ?_)
        show W K l _ n0 _ h178 7 16 167 #[.val (.long t0), .second, .val (.long t1), .second, .val (.int flags), .val (.int f), .val (.int gg), .val (.int (0 : Int32)), .val (.int (2 : Int32)), .val (.int (3 : Int32)), .val (.ref b152), .val (.int (0 : Int32)), .val (.int (-1 : Int32)), .val (.int (0 : Int32)), .unset] []
        refine w_iconst ok at_167 (v := (-1 : Int32)) rfl ?_
        refine w_goto ok at_168 (pc' := 180) (by decide) ?_
        refine w_istore ok at_180 (L' := #[.val (.long t0), .second, .val (.long t1), .second, .val (.int flags), .val (.int f), .val (.int gg), .val (.int (0 : Int32)), .val (.int (2 : Int32)), .val (.int (3 : Int32)), .val (.ref b152), .val (.int (0 : Int32)), .val (.int (-1 : Int32)), .val (.int (0 : Int32)), .val (.int (-1 : Int32))]) rfl ?_
        refine w_aload ok at_182 rfl rfl ?_
        refine w_callV ok (y := (⟨"com/example/rowan/rowan/store/IdleHeap", "first", "()I"⟩ : MethodName)) (a := b152) (argsL := []) (rest := []) at_184 (hw _ (List.mem_of_getElem? (i := 72) rfl)) (hw _ (List.mem_of_getElem? (i := 73) rfl)) (hw _ (List.mem_of_getElem? (i := 75) rfl)) (hw _ (List.mem_of_getElem? (i := 74) rfl)) (hw _ (List.mem_of_getElem? (i := 2) rfl)) (hw _ (List.mem_of_getElem? (i := 76) rfl)) (by decide) A_b152.1 pd_2829I rfl rfl (by decide) (Nat.le_of_ble_eq_true rfl) (by decide) (by decide) (fun z0 => rm_first l Z a0 hw [] n0 h178 z0 b152 fen fti fsl sx176 ex176 gx176 τx176 A_b152 A_fen A_fti A_fsl ge_b152 ge_fen ge_fti ge_fsl nf_0 nf_1 nf_2 nf_3 nf_4 nf_5 (put (put (fun _ => none) 0 (some t0)) 0 none) Px176 Hx176) (fun v181 h182 qv181 => ?_)
        obtain ⟨rfl, ⟨hs0, rfl⟩ | ⟨y, hy, hs, ey, rfl⟩⟩ := qv181
        · skip
          show W K l _ n0 _ h178 7 16 187 #[.val (.long t0), .second, .val (.long t1), .second, .val (.int flags), .val (.int f), .val (.int gg), .val (.int (0 : Int32)), .val (.int (2 : Int32)), .val (.int (3 : Int32)), .val (.ref b152), .val (.int (0 : Int32)), .val (.int (-1 : Int32)), .val (.int (0 : Int32)), .val (.int (-1 : Int32))] [(.int (-1 : Int32))]
          refine w_iload ok at_187 rfl ?_
          refine w_icmp_eq ok at_189 (pc' := 194) (by decide) (fun hc184 => ?_) (fun hc184 => False.elim (by revert hc184; decide))
          show W K l _ n0 _ h178 7 16 194 #[.val (.long t0), .second, .val (.long t1), .second, .val (.int flags), .val (.int f), .val (.int gg), .val (.int (0 : Int32)), .val (.int (2 : Int32)), .val (.int (3 : Int32)), .val (.ref b152), .val (.int (0 : Int32)), .val (.int (-1 : Int32)), .val (.int (0 : Int32)), .val (.int (-1 : Int32))] []
          refine w_iload ok at_194 rfl ?_
          refine w_iconst ok at_196 (v := (-1 : Int32)) rfl ?_
          refine w_icmp_eq ok at_197 (pc' := 218) (by decide) (fun hc186 => ?_) (fun hc186 => False.elim (by revert hc186; decide))
          show W K l _ n0 _ h178 7 16 218 #[.val (.long t0), .second, .val (.long t1), .second, .val (.int flags), .val (.int f), .val (.int gg), .val (.int (0 : Int32)), .val (.int (2 : Int32)), .val (.int (3 : Int32)), .val (.ref b152), .val (.int (0 : Int32)), .val (.int (-1 : Int32)), .val (.int (0 : Int32)), .val (.int (-1 : Int32))] []
          refine w_iconst ok at_218 (v := (1 : Int32)) rfl ?_
          refine w_bret ok (by simp) at_219 (by decide) (by decide) ?_
          exact rfl
        · have my := (Px176.at hs hy ey).1
          obtain rfl | rfl | rfl | rfl : y = 0 ∨ y = 1 ∨ y = 2 ∨ y = 3 := by omega
          · cases (show none = some _ from my)
          · cases (show none = some _ from my)
          · cases (show none = some _ from my)
          · cases (show none = some _ from my)
    · skip
      show W K l _ n0 _ h0 0 0 20 #[.val (.long t0), .second, .val (.long t1), .second, .val (.int flags), .val (.int f), .val (.int gg), .val (.int (0 : Int32)), .val (.int (3 : Int32)), .unset, .unset, .unset, .unset, .unset, .unset] []
      refine w_iload ok at_20 rfl ?_
      refine w_iconst ok at_22 (v := (2 : Int32)) rfl ?_
      refine w_icmp_ne ok at_23 (pc' := 30) (by decide) (fun hc188 => ?_) (fun hc188 => False.elim (by revert hc188; decide))
      show W K l _ n0 _ h0 0 0 30 #[.val (.long t0), .second, .val (.long t1), .second, .val (.int flags), .val (.int f), .val (.int gg), .val (.int (0 : Int32)), .val (.int (3 : Int32)), .unset, .unset, .unset, .unset, .unset, .unset] []
      refine w_iload ok at_30 rfl ?_
      refine w_iconst ok at_32 (v := (3 : Int32)) rfl ?_
      refine w_icmp_ne ok at_33 (pc' := 40) (by decide) (fun hc190 => False.elim (by revert hc190; decide)) (fun hc190 => ?_)
      show W K l _ n0 _ h0 0 0 36 #[.val (.long t0), .second, .val (.long t1), .second, .val (.int flags), .val (.int f), .val (.int gg), .val (.int (0 : Int32)), .val (.int (3 : Int32)), .unset, .unset, .unset, .unset, .unset, .unset] []
      refine w_iconst ok at_36 (v := (2 : Int32)) rfl ?_
      refine w_goto ok at_37 (pc' := 46) (by decide) ?_
      refine w_istore ok at_46 (L' := #[.val (.long t0), .second, .val (.long t1), .second, .val (.int flags), .val (.int f), .val (.int gg), .val (.int (0 : Int32)), .val (.int (3 : Int32)), .val (.int (2 : Int32)), .unset, .unset, .unset, .unset, .unset]) rfl ?_
      refine w_new ok at_48 (hw _ (List.mem_of_getElem? (i := 0) rfl)) (hw _ (List.mem_of_getElem? (i := 1) rfl)) (hw _ (List.mem_of_getElem? (i := 2) rfl)) (la_IdleHeap hw) (by decide) (by decide) (fun h192 b191 ea_b191 ge_b191 E_b191 A_b191 => ?_)
      replace A_b191 : Ob Z h192 b191 "com/example/rowan/rowan/store/IdleHeap" fl_IdleHeap [.null, .null, .null, (.int (0 : Int32))] := A_b191
      refine w_dup ok at_51 rfl ?_
      refine w_callI ok (y := (⟨"com/example/rowan/rowan/store/IdleHeap", "<init>", "()V"⟩ : MethodName)) (a := b191) (argsL := []) (rest := [(.ref b191)]) at_52 rfl (hw _ (List.mem_of_getElem? (i := 3) rfl)) (hw _ (List.mem_of_getElem? (i := 4) rfl)) (hw _ (List.mem_of_getElem? (i := 2) rfl)) (hw _ (List.mem_of_getElem? (i := 5) rfl)) (by decide) pd_2829V rfl rfl (by decide) (Nat.le_of_ble_eq_true rfl) (by decide) (by decide) (fun z0 => rm_ctor l Z a0 hw [] n0 h192 z0 b191 A_b191 ge_b191) (fun v193 h194 qv193 => ?_)
      obtain ⟨rfl, een, eti, esl, ⟨sz_een, sz_eti, sz_esl⟩, ⟨ge_een, ge_eti, ge_esl⟩, ⟨ne_0, ne_1, ne_2, ne_3, ne_4, ne_5⟩, K1, A1, A_een, A_eti, A_esl⟩ := qv193
      have ne_b191_een : b191 ≠ een := Nat.ne_of_lt (Nat.lt_of_lt_of_le A_b191.lt sz_een)
      have ne_b191_eti : b191 ≠ eti := Nat.ne_of_lt (Nat.lt_of_lt_of_le A_b191.lt sz_eti)
      have ne_b191_esl : b191 ≠ esl := Nat.ne_of_lt (Nat.lt_of_lt_of_le A_b191.lt sz_esl)
      replace A_b191 := A1
      show W K l _ n0 _ h194 4 4 55 #[.val (.long t0), .second, .val (.long t1), .second, .val (.int flags), .val (.int f), .val (.int gg), .val (.int (0 : Int32)), .val (.int (3 : Int32)), .val (.int (2 : Int32)), .unset, .unset, .unset, .unset, .unset] [(.ref b191)]
      refine w_astore ok at_55 rfl (L' := #[.val (.long t0), .second, .val (.long t1), .second, .val (.int flags), .val (.int f), .val (.int gg), .val (.int (0 : Int32)), .val (.int (3 : Int32)), .val (.int (2 : Int32)), .val (.ref b191), .unset, .unset, .unset, .unset]) rfl ?_
      refine w_aload ok at_57 rfl rfl ?_
      refine w_iconst ok at_59 (v := (4 : Int32)) rfl ?_
      refine w_callV ok (y := (⟨"com/example/rowan/rowan/store/IdleHeap", "resize", "(I)V"⟩ : MethodName)) (a := b191) (argsL := [(.int (4 : Int32))]) (rest := []) at_60 (hw _ (List.mem_of_getElem? (i := 17) rfl)) (hw _ (List.mem_of_getElem? (i := 18) rfl)) (hw _ (List.mem_of_getElem? (i := 20) rfl)) (hw _ (List.mem_of_getElem? (i := 19) rfl)) (hw _ (List.mem_of_getElem? (i := 2) rfl)) (hw _ (List.mem_of_getElem? (i := 21) rfl)) (by decide) A_b191.1 pd_28I29V rfl rfl (by decide) (Nat.le_of_ble_eq_true rfl) (by decide) (by decide) (fun z0 => rm_resize l Z a0 hw [] n0 h194 z0 b191 een eti esl A_b191 A_een A_eti A_esl ge_b191 ne_0 ne_1 ne_2 ne_3 ne_4 ne_5) (fun v195 h196 qv195 => ?_)
      obtain ⟨rfl, fen, fti, fsl, ⟨sz_fen, sz_fti, sz_fsl⟩, ⟨ge_fen, ge_fti, ge_fsl⟩, ⟨nf_0, nf_1, nf_2, nf_3, nf_4, nf_5⟩, K1, A1, A_fen, A_fti, A_fsl⟩ := qv195
      have ne_b191_fen : b191 ≠ fen := Nat.ne_of_lt (Nat.lt_of_lt_of_le A_b191.lt sz_fen)
      have ne_een_fen : een ≠ fen := Nat.ne_of_lt (Nat.lt_of_lt_of_le A_een.lt sz_fen)
      have ne_eti_fen : eti ≠ fen := Nat.ne_of_lt (Nat.lt_of_lt_of_le A_eti.lt sz_fen)
      have ne_esl_fen : esl ≠ fen := Nat.ne_of_lt (Nat.lt_of_lt_of_le A_esl.lt sz_fen)
      have ne_b191_fti : b191 ≠ fti := Nat.ne_of_lt (Nat.lt_of_lt_of_le A_b191.lt sz_fti)
      have ne_een_fti : een ≠ fti := Nat.ne_of_lt (Nat.lt_of_lt_of_le A_een.lt sz_fti)
      have ne_eti_fti : eti ≠ fti := Nat.ne_of_lt (Nat.lt_of_lt_of_le A_eti.lt sz_fti)
      have ne_esl_fti : esl ≠ fti := Nat.ne_of_lt (Nat.lt_of_lt_of_le A_esl.lt sz_fti)
      have ne_b191_fsl : b191 ≠ fsl := Nat.ne_of_lt (Nat.lt_of_lt_of_le A_b191.lt sz_fsl)
      have ne_een_fsl : een ≠ fsl := Nat.ne_of_lt (Nat.lt_of_lt_of_le A_een.lt sz_fsl)
      have ne_eti_fsl : eti ≠ fsl := Nat.ne_of_lt (Nat.lt_of_lt_of_le A_eti.lt sz_fsl)
      have ne_esl_fsl : esl ≠ fsl := Nat.ne_of_lt (Nat.lt_of_lt_of_le A_esl.lt sz_fsl)
      replace A_een := A_een.keep K1 (ninS (Ne.symm ne_0) nin0)
      replace A_eti := A_eti.keep K1 (ninS (Ne.symm ne_1) nin0)
      replace A_esl := A_esl.keep K1 (ninS (Ne.symm ne_2) nin0)
      replace A_b191 := A1
      show W K l _ n0 _ h196 7 16 63 #[.val (.long t0), .second, .val (.long t1), .second, .val (.int flags), .val (.int f), .val (.int gg), .val (.int (0 : Int32)), .val (.int (3 : Int32)), .val (.int (2 : Int32)), .val (.ref b191), .unset, .unset, .unset, .unset] []
      refine w_aload ok at_63 rfl rfl ?_
      refine w_iconst ok at_65 (v := (0 : Int32)) rfl ?_
      refine w_lloadN ok at_66 rfl ?_
      refine w_callV ok (y := (⟨"com/example/rowan/rowan/store/IdleHeap", "add", "(IJ)V"⟩ : MethodName)) (a := b191) (argsL := [(.int (0 : Int32)), (.long t0)]) (rest := []) at_67 (hw _ (List.mem_of_getElem? (i := 43) rfl)) (hw _ (List.mem_of_getElem? (i := 44) rfl)) (hw _ (List.mem_of_getElem? (i := 46) rfl)) (hw _ (List.mem_of_getElem? (i := 45) rfl)) (hw _ (List.mem_of_getElem? (i := 2) rfl)) (hw _ (List.mem_of_getElem? (i := 47) rfl)) (by decide) A_b191.1 pd_28IJ29V rfl rfl (by decide) (Nat.le_of_ble_eq_true rfl) (by decide) (by decide) (fun z0 => rm_add l Z a0 hw [] n0 h196 z0 b191 fen fti fsl 0 (fun _ => 0) (fun _ => -1) (fun _ => 0) A_b191 A_fen A_fti A_fsl ge_b191 ge_fen ge_fti ge_fsl nf_0 nf_1 nf_2 nf_3 nf_4 nf_5 (fun _ => none) own_pp0 own_ho0 0 t0 (by decide) rfl (by decide)) (fun v197 h198 qv197 => ?_)
      obtain ⟨rfl, e1, g1, τ1, K1, A0, A1, A2, A3, P1, H1, E1⟩ := qv197
      replace A_b191 : Ob Z h198 b191 "com/example/rowan/rowan/store/IdleHeap" fl_IdleHeap [(.ref fen), (.ref fti), (.ref fsl), (.int (1 : Int32))] := A0
      replace A_fen := A1
      replace A_fti := A2
      replace A_fsl := A3
      show W K l _ n0 _ h198 7 16 70 #[.val (.long t0), .second, .val (.long t1), .second, .val (.int flags), .val (.int f), .val (.int gg), .val (.int (0 : Int32)), .val (.int (3 : Int32)), .val (.int (2 : Int32)), .val (.ref b191), .unset, .unset, .unset, .unset] []
      refine w_iload ok at_70 rfl ?_
      refine w_if_eq ok at_72 (pc' := 82) (by decide) (fun hc200 => ?_) (fun hc200 => False.elim (by revert hc200; decide))
      show W K l _ n0 _ h198 7 16 82 #[.val (.long t0), .second, .val (.long t1), .second, .val (.int flags), .val (.int f), .val (.int gg), .val (.int (0 : Int32)), .val (.int (3 : Int32)), .val (.int (2 : Int32)), .val (.ref b191), .unset, .unset, .unset, .unset] []
      refine w_iload ok at_82 rfl ?_
      refine w_if_eq ok at_84 (pc' := 97) (by decide) (fun hc202 => ?_) (fun hc202 => False.elim (by revert hc202; decide))
      show W K l _ n0 _ h198 7 16 97 #[.val (.long t0), .second, .val (.long t1), .second, .val (.int flags), .val (.int f), .val (.int gg), .val (.int (0 : Int32)), .val (.int (3 : Int32)), .val (.int (2 : Int32)), .val (.ref b191), .unset, .unset, .unset, .unset] []
      refine w_iconst ok at_97 (v := (0 : Int32)) rfl ?_
      show W K l _ n0 _ h198 7 16 98 #[.val (.long t0), .second, .val (.long t1), .second, .val (.int flags), .val (.int f), .val (.int gg), .val (.int (0 : Int32)), .val (.int (3 : Int32)), .val (.int (2 : Int32)), .val (.ref b191), .unset, .unset, .unset, .unset] [(.int (0 : Int32))]
      obtain ⟨o1, o2⟩ := own_one P1
      have E : e1 0 = Int32.ofNat 0 := o1
      refine w_istore ok at_98 (L' := #[.val (.long t0), .second, .val (.long t1), .second, .val (.int flags), .val (.int f), .val (.int gg), .val (.int (0 : Int32)), .val (.int (3 : Int32)), .val (.int (2 : Int32)), .val (.ref b191), .val (.int (0 : Int32)), .unset, .unset, .unset]) rfl ?_
      refine w_iload ok at_100 rfl ?_
      refine w_if_eq ok at_102 (pc' := 112) (by decide) (fun hc204 => ?_) (fun hc204 => False.elim (by revert hc204; decide))
      show W K l _ n0 _ h198 7 16 112 #[.val (.long t0), .second, .val (.long t1), .second, .val (.int flags), .val (.int f), .val (.int gg), .val (.int (0 : Int32)), .val (.int (3 : Int32)), .val (.int (2 : Int32)), .val (.ref b191), .val (.int (0 : Int32)), .unset, .unset, .unset] []
      refine w_iconst ok at_112 (v := (-1 : Int32)) rfl ?_
      refine w_istore ok at_113 (L' := #[.val (.long t0), .second, .val (.long t1), .second, .val (.int flags), .val (.int f), .val (.int gg), .val (.int (0 : Int32)), .val (.int (3 : Int32)), .val (.int (2 : Int32)), .val (.ref b191), .val (.int (0 : Int32)), .val (.int (-1 : Int32)), .unset, .unset]) rfl ?_
      refine w_aload ok at_115 rfl rfl ?_
      refine w_iload ok at_117 rfl ?_
      refine w_iload ok at_119 rfl ?_
      refine w_callV ok (y := (⟨"com/example/rowan/rowan/store/IdleHeap", "renumber", "(II)V"⟩ : MethodName)) (a := b191) (argsL := [(.int (3 : Int32)), (.int (2 : Int32))]) (rest := []) at_121 (hw _ (List.mem_of_getElem? (i := 58) rfl)) (hw _ (List.mem_of_getElem? (i := 59) rfl)) (hw _ (List.mem_of_getElem? (i := 61) rfl)) (hw _ (List.mem_of_getElem? (i := 60) rfl)) (hw _ (List.mem_of_getElem? (i := 2) rfl)) (hw _ (List.mem_of_getElem? (i := 62) rfl)) (by decide) A_b191.1 pd_28II29V rfl rfl (by decide) (Nat.le_of_ble_eq_true rfl) (by decide) (by decide) (fun z0 => rm_ren0 l Z a0 hw [] n0 h198 z0 b191 fen fti fsl 1 e1 g1 τ1 A_b191 A_fen A_fti A_fsl ge_b191 ge_fen ge_fti ge_fsl nf_0 nf_1 nf_2 nf_3 nf_4 nf_5 (put (fun _ => none) 0 (some t0)) P1 H1 3 2 (by decide) (by decide) rfl rfl) (fun v205 h206 qv205 => ?_)
      obtain ⟨rfl, K1, A0, A1, A2, A3⟩ := qv205
      replace A_b191 : Ob Z h206 b191 "com/example/rowan/rowan/store/IdleHeap" fl_IdleHeap [(.ref fen), (.ref fti), (.ref fsl), (.int (1 : Int32))] := A0
      replace A_fen : PA .int Z h206 fen (sv 4 e1) := A1
      replace A_fti : PA .long Z h206 fti (lv 4 τ1) := A2
      replace A_fsl : PA .int Z h206 fsl (sv 4 g1) := A3
      show W K l _ n0 _ h206 7 16 124 #[.val (.long t0), .second, .val (.long t1), .second, .val (.int flags), .val (.int f), .val (.int gg), .val (.int (0 : Int32)), .val (.int (3 : Int32)), .val (.int (2 : Int32)), .val (.ref b191), .val (.int (0 : Int32)), .val (.int (-1 : Int32)), .unset, .unset] []
      refine w_aload ok at_124 rfl rfl ?_
      refine w_iload ok at_126 rfl ?_
      refine w_callV ok (y := (⟨"com/example/rowan/rowan/store/IdleHeap", "remove", "(I)V"⟩ : MethodName)) (a := b191) (argsL := [(.int (3 : Int32))]) (rest := []) at_128 (hw _ (List.mem_of_getElem? (i := 63) rfl)) (hw _ (List.mem_of_getElem? (i := 64) rfl)) (hw _ (List.mem_of_getElem? (i := 66) rfl)) (hw _ (List.mem_of_getElem? (i := 65) rfl)) (hw _ (List.mem_of_getElem? (i := 2) rfl)) (hw _ (List.mem_of_getElem? (i := 67) rfl)) (by decide) A_b191.1 pd_28I29V rfl rfl (by decide) (Nat.le_of_ble_eq_true rfl) (by decide) (by decide) (fun z0 => rm_remove0 l Z a0 hw [] n0 h206 z0 b191 fen fti fsl 1 e1 g1 τ1 A_b191 A_fen A_fti A_fsl ge_b191 ge_fen ge_fti ge_fsl nf_0 nf_1 nf_2 nf_3 nf_4 nf_5 (put (fun _ => none) 0 (some t0)) P1 H1 3 (by decide) rfl) (fun v207 h208 qv207 => ?_)
      obtain ⟨rfl, rfl⟩ := qv207
      show W K l _ n0 _ h206 7 16 131 #[.val (.long t0), .second, .val (.long t1), .second, .val (.int flags), .val (.int f), .val (.int gg), .val (.int (0 : Int32)), .val (.int (3 : Int32)), .val (.int (2 : Int32)), .val (.ref b191), .val (.int (0 : Int32)), .val (.int (-1 : Int32)), .unset, .unset] []
      refine w_iload ok at_131 rfl ?_
      refine w_iload ok at_133 rfl ?_
      refine w_iload ok at_135 rfl ?_
      refine w_callS ok (y := (⟨"com/example/rowan/rowan/store/IdleHeapRenumberPinLaw", "map", "(III)I"⟩ : MethodName)) (argsL := [(.int (0 : Int32)), (.int (3 : Int32)), (.int (2 : Int32))]) (rest := []) at_137 (hw _ (List.mem_of_getElem? (i := 68) rfl)) (hw _ (List.mem_of_getElem? (i := 69) rfl)) (hw _ (List.mem_of_getElem? (i := 70) rfl)) (hw _ (List.mem_of_getElem? (i := 71) rfl)) (by decide) pd_28III29I rfl rfl (by decide) (Nat.le_of_ble_eq_true rfl) (by decide) (by decide) (fun z0 => rm_map l Z a0 hw [] n0 h206 z0 (0 : Int32) (3 : Int32) (2 : Int32)) (fun v209 h210 qv209 => ?_)
      obtain ⟨rfl, rfl⟩ := qv209
      rw [show own_map (0 : Int32) (3 : Int32) (2 : Int32) = (0 : Int32) from rfl]
      show W K l _ n0 _ h206 7 16 140 #[.val (.long t0), .second, .val (.long t1), .second, .val (.int flags), .val (.int f), .val (.int gg), .val (.int (0 : Int32)), .val (.int (3 : Int32)), .val (.int (2 : Int32)), .val (.ref b191), .val (.int (0 : Int32)), .val (.int (-1 : Int32)), .unset, .unset] [(.int (0 : Int32))]
      refine w_istore ok at_140 (L' := #[.val (.long t0), .second, .val (.long t1), .second, .val (.int flags), .val (.int f), .val (.int gg), .val (.int (0 : Int32)), .val (.int (3 : Int32)), .val (.int (2 : Int32)), .val (.ref b191), .val (.int (0 : Int32)), .val (.int (-1 : Int32)), .val (.int (0 : Int32)), .unset]) rfl ?_
      refine w_aload ok at_142 rfl rfl ?_
      refine w_callV ok (y := (⟨"com/example/rowan/rowan/store/IdleHeap", "first", "()I"⟩ : MethodName)) (a := b191) (argsL := []) (rest := []) at_144 (hw _ (List.mem_of_getElem? (i := 72) rfl)) (hw _ (List.mem_of_getElem? (i := 73) rfl)) (hw _ (List.mem_of_getElem? (i := 75) rfl)) (hw _ (List.mem_of_getElem? (i := 74) rfl)) (hw _ (List.mem_of_getElem? (i := 2) rfl)) (hw _ (List.mem_of_getElem? (i := 76) rfl)) (by decide) A_b191.1 pd_2829I rfl rfl (by decide) (Nat.le_of_ble_eq_true rfl) (by decide) (by decide) (fun z0 => rm_first l Z a0 hw [] n0 h206 z0 b191 fen fti fsl 1 e1 g1 τ1 A_b191 A_fen A_fti A_fsl ge_b191 ge_fen ge_fti ge_fsl nf_0 nf_1 nf_2 nf_3 nf_4 nf_5 (put (fun _ => none) 0 (some t0)) P1 H1) (fun v211 h212 qv211 => ?_)
      obtain ⟨rfl, ⟨hs0, rfl⟩ | ⟨y, hy, hs, ey, rfl⟩⟩ := qv211
      · exact absurd hs0 (by decide)
      · skip
        obtain rfl : y = 0 := own_inj hy (by decide) (ey.symm.trans E)
        show W K l _ n0 _ h206 7 16 147 #[.val (.long t0), .second, .val (.long t1), .second, .val (.int flags), .val (.int f), .val (.int gg), .val (.int (0 : Int32)), .val (.int (3 : Int32)), .val (.int (2 : Int32)), .val (.ref b191), .val (.int (0 : Int32)), .val (.int (-1 : Int32)), .val (.int (0 : Int32)), .unset] [(.int (0 : Int32))]
        refine w_iload ok at_147 rfl ?_
        refine w_icmp_eq ok at_149 (pc' := 154) (by decide) (fun hc214 => ?_) (fun hc214 => False.elim (by revert hc214; decide))
        show W K l _ n0 _ h206 7 16 154 #[.val (.long t0), .second, .val (.long t1), .second, .val (.int flags), .val (.int f), .val (.int gg), .val (.int (0 : Int32)), .val (.int (3 : Int32)), .val (.int (2 : Int32)), .val (.ref b191), .val (.int (0 : Int32)), .val (.int (-1 : Int32)), .val (.int (0 : Int32)), .unset] []
        refine w_aload ok at_154 rfl rfl ?_
        refine w_iload ok at_156 rfl ?_
        refine w_callV ok (y := (⟨"com/example/rowan/rowan/store/IdleHeap", "remove", "(I)V"⟩ : MethodName)) (a := b191) (argsL := [(.int (0 : Int32))]) (rest := []) at_158 (hw _ (List.mem_of_getElem? (i := 63) rfl)) (hw _ (List.mem_of_getElem? (i := 64) rfl)) (hw _ (List.mem_of_getElem? (i := 66) rfl)) (hw _ (List.mem_of_getElem? (i := 65) rfl)) (hw _ (List.mem_of_getElem? (i := 2) rfl)) (hw _ (List.mem_of_getElem? (i := 67) rfl)) (by decide) A_b191.1 pd_28I29V rfl rfl (by decide) (Nat.le_of_ble_eq_true rfl) (by decide) (by decide) (fun z0 => rm_remove l Z a0 hw [] n0 h206 z0 b191 fen fti fsl 1 e1 g1 τ1 A_b191 A_fen A_fti A_fsl ge_b191 ge_fen ge_fti ge_fsl nf_0 nf_1 nf_2 nf_3 nf_4 nf_5 (put (fun _ => none) 0 (some t0)) P1 H1 0 (by decide)) (fun v216 h217 qv216 => ?_)
        obtain ⟨rfl, sx215, ex215, gx215, τx215, K1, A0, A1, A2, A3, Px215, Hx215⟩ := qv216
        replace A_b191 : Ob Z h217 b191 "com/example/rowan/rowan/store/IdleHeap" fl_IdleHeap [(.ref fen), (.ref fti), (.ref fsl), (.int (Int32.ofNat sx215))] := A0
        replace A_fen := A1
        replace A_fti := A2
        replace A_fsl := A3
        show W K l _ n0 _ h217 7 16 161 #[.val (.long t0), .second, .val (.long t1), .second, .val (.int flags), .val (.int f), .val (.int gg), .val (.int (0 : Int32)), .val (.int (3 : Int32)), .val (.int (2 : Int32)), .val (.ref b191), .val (.int (0 : Int32)), .val (.int (-1 : Int32)), .val (.int (0 : Int32)), .unset] []
        refine w_iload ok at_161 rfl ?_
        refine w_iconst ok at_163 (v := (-1 : Int32)) rfl ?_
        refine w_icmp_ne ok at_164 (pc' := 171) (by decide) (fun hc219 => False.elim (by revert hc219; decide)) (fun hc219 => ?_)
        show W K l _ n0 _ h217 7 16 167 #[.val (.long t0), .second, .val (.long t1), .second, .val (.int flags), .val (.int f), .val (.int gg), .val (.int (0 : Int32)), .val (.int (3 : Int32)), .val (.int (2 : Int32)), .val (.ref b191), .val (.int (0 : Int32)), .val (.int (-1 : Int32)), .val (.int (0 : Int32)), .unset] []
        refine w_iconst ok at_167 (v := (-1 : Int32)) rfl ?_
        refine w_goto ok at_168 (pc' := 180) (by decide) ?_
        refine w_istore ok at_180 (L' := #[.val (.long t0), .second, .val (.long t1), .second, .val (.int flags), .val (.int f), .val (.int gg), .val (.int (0 : Int32)), .val (.int (3 : Int32)), .val (.int (2 : Int32)), .val (.ref b191), .val (.int (0 : Int32)), .val (.int (-1 : Int32)), .val (.int (0 : Int32)), .val (.int (-1 : Int32))]) rfl ?_
        refine w_aload ok at_182 rfl rfl ?_
        refine w_callV ok (y := (⟨"com/example/rowan/rowan/store/IdleHeap", "first", "()I"⟩ : MethodName)) (a := b191) (argsL := []) (rest := []) at_184 (hw _ (List.mem_of_getElem? (i := 72) rfl)) (hw _ (List.mem_of_getElem? (i := 73) rfl)) (hw _ (List.mem_of_getElem? (i := 75) rfl)) (hw _ (List.mem_of_getElem? (i := 74) rfl)) (hw _ (List.mem_of_getElem? (i := 2) rfl)) (hw _ (List.mem_of_getElem? (i := 76) rfl)) (by decide) A_b191.1 pd_2829I rfl rfl (by decide) (Nat.le_of_ble_eq_true rfl) (by decide) (by decide) (fun z0 => rm_first l Z a0 hw [] n0 h217 z0 b191 fen fti fsl sx215 ex215 gx215 τx215 A_b191 A_fen A_fti A_fsl ge_b191 ge_fen ge_fti ge_fsl nf_0 nf_1 nf_2 nf_3 nf_4 nf_5 (put (put (fun _ => none) 0 (some t0)) 0 none) Px215 Hx215) (fun v220 h221 qv220 => ?_)
        obtain ⟨rfl, ⟨hs0, rfl⟩ | ⟨y, hy, hs, ey, rfl⟩⟩ := qv220
        · skip
          show W K l _ n0 _ h217 7 16 187 #[.val (.long t0), .second, .val (.long t1), .second, .val (.int flags), .val (.int f), .val (.int gg), .val (.int (0 : Int32)), .val (.int (3 : Int32)), .val (.int (2 : Int32)), .val (.ref b191), .val (.int (0 : Int32)), .val (.int (-1 : Int32)), .val (.int (0 : Int32)), .val (.int (-1 : Int32))] [(.int (-1 : Int32))]
          refine w_iload ok at_187 rfl ?_
          refine w_icmp_eq ok at_189 (pc' := 194) (by decide) (fun hc223 => ?_) (fun hc223 => False.elim (by revert hc223; decide))
          show W K l _ n0 _ h217 7 16 194 #[.val (.long t0), .second, .val (.long t1), .second, .val (.int flags), .val (.int f), .val (.int gg), .val (.int (0 : Int32)), .val (.int (3 : Int32)), .val (.int (2 : Int32)), .val (.ref b191), .val (.int (0 : Int32)), .val (.int (-1 : Int32)), .val (.int (0 : Int32)), .val (.int (-1 : Int32))] []
          refine w_iload ok at_194 rfl ?_
          refine w_iconst ok at_196 (v := (-1 : Int32)) rfl ?_
          refine w_icmp_eq ok at_197 (pc' := 218) (by decide) (fun hc225 => ?_) (fun hc225 => False.elim (by revert hc225; decide))
          show W K l _ n0 _ h217 7 16 218 #[.val (.long t0), .second, .val (.long t1), .second, .val (.int flags), .val (.int f), .val (.int gg), .val (.int (0 : Int32)), .val (.int (3 : Int32)), .val (.int (2 : Int32)), .val (.ref b191), .val (.int (0 : Int32)), .val (.int (-1 : Int32)), .val (.int (0 : Int32)), .val (.int (-1 : Int32))] []
          refine w_iconst ok at_218 (v := (1 : Int32)) rfl ?_
          refine w_bret ok (by simp) at_219 (by decide) (by decide) ?_
          exact rfl
        · have my := (Px215.at hs hy ey).1
          obtain rfl | rfl | rfl | rfl : y = 0 ∨ y = 1 ∨ y = 2 ∨ y = 3 := by omega
          · cases (show none = some _ from my)
          · cases (show none = some _ from my)
          · cases (show none = some _ from my)
          · cases (show none = some _ from my)
  · show W K l _ n0 _ h0 0 0 7 #[.val (.long t0), .second, .val (.long t1), .second, .val (.int flags), .val (.int f), .val (.int gg), .unset, .unset, .unset, .unset, .unset, .unset, .unset, .unset] []
    refine w_iconst ok at_7 (v := (1 : Int32)) rfl ?_
    refine w_goto ok at_8 (pc' := 12) (by decide) ?_
    refine w_istore ok at_12 (L' := #[.val (.long t0), .second, .val (.long t1), .second, .val (.int flags), .val (.int f), .val (.int gg), .val (.int (1 : Int32)), .unset, .unset, .unset, .unset, .unset, .unset, .unset]) rfl ?_
    refine w_iload ok at_14 rfl ?_
    refine w_iconst ok at_16 (v := (3 : Int32)) rfl ?_
    refine w_iand ok at_17 ?_
    refine w_istore ok at_18 (L' := #[.val (.long t0), .second, .val (.long t1), .second, .val (.int flags), .val (.int f), .val (.int gg), .val (.int (1 : Int32)), .val (.int (f &&& (3 : Int32))), .unset, .unset, .unset, .unset, .unset, .unset]) rfl ?_
    show W K l _ n0 _ h0 0 0 20 #[.val (.long t0), .second, .val (.long t1), .second, .val (.int flags), .val (.int f), .val (.int gg), .val (.int (1 : Int32)), .val (.int (f &&& (3 : Int32))), .unset, .unset, .unset, .unset, .unset, .unset] []
    obtain ⟨fr, hfr, efr⟩ := own_and3 f
    rw [efr]
    obtain rfl | rfl | rfl | rfl : fr = 0 ∨ fr = 1 ∨ fr = 2 ∨ fr = 3 := by omega
    · skip
      show W K l _ n0 _ h0 0 0 20 #[.val (.long t0), .second, .val (.long t1), .second, .val (.int flags), .val (.int f), .val (.int gg), .val (.int (1 : Int32)), .val (.int (0 : Int32)), .unset, .unset, .unset, .unset, .unset, .unset] []
      refine w_iload ok at_20 rfl ?_
      refine w_iconst ok at_22 (v := (2 : Int32)) rfl ?_
      refine w_icmp_ne ok at_23 (pc' := 30) (by decide) (fun hc227 => ?_) (fun hc227 => False.elim (by revert hc227; decide))
      show W K l _ n0 _ h0 0 0 30 #[.val (.long t0), .second, .val (.long t1), .second, .val (.int flags), .val (.int f), .val (.int gg), .val (.int (1 : Int32)), .val (.int (0 : Int32)), .unset, .unset, .unset, .unset, .unset, .unset] []
      refine w_iload ok at_30 rfl ?_
      refine w_iconst ok at_32 (v := (3 : Int32)) rfl ?_
      refine w_icmp_ne ok at_33 (pc' := 40) (by decide) (fun hc229 => ?_) (fun hc229 => False.elim (by revert hc229; decide))
      show W K l _ n0 _ h0 0 0 40 #[.val (.long t0), .second, .val (.long t1), .second, .val (.int flags), .val (.int f), .val (.int gg), .val (.int (1 : Int32)), .val (.int (0 : Int32)), .unset, .unset, .unset, .unset, .unset, .unset] []
      refine w_iconst ok at_40 (v := (2 : Int32)) rfl ?_
      refine w_iload ok at_41 rfl ?_
      refine w_iconst ok at_43 (v := (1 : Int32)) rfl ?_
      refine w_iand ok at_44 ?_
      show W K l _ n0 _ h0 0 0 45 #[.val (.long t0), .second, .val (.long t1), .second, .val (.int flags), .val (.int f), .val (.int gg), .val (.int (1 : Int32)), .val (.int (0 : Int32)), .unset, .unset, .unset, .unset, .unset, .unset] [(.int (gg &&& (1 : Int32))), (.int (2 : Int32))]
      rcases own_and1 gg with eg | eg
      · skip
        rw [eg]
        show W K l _ n0 _ h0 0 0 45 #[.val (.long t0), .second, .val (.long t1), .second, .val (.int flags), .val (.int f), .val (.int gg), .val (.int (1 : Int32)), .val (.int (0 : Int32)), .unset, .unset, .unset, .unset, .unset, .unset] [(.int (0 : Int32)), (.int (2 : Int32))]
        refine w_iadd ok at_45 ?_
        show W K l _ n0 _ h0 0 0 46 #[.val (.long t0), .second, .val (.long t1), .second, .val (.int flags), .val (.int f), .val (.int gg), .val (.int (1 : Int32)), .val (.int (0 : Int32)), .unset, .unset, .unset, .unset, .unset, .unset] [(.int (2 : Int32))]
        refine w_istore ok at_46 (L' := #[.val (.long t0), .second, .val (.long t1), .second, .val (.int flags), .val (.int f), .val (.int gg), .val (.int (1 : Int32)), .val (.int (0 : Int32)), .val (.int (2 : Int32)), .unset, .unset, .unset, .unset, .unset]) rfl ?_
        refine w_new ok at_48 (hw _ (List.mem_of_getElem? (i := 0) rfl)) (hw _ (List.mem_of_getElem? (i := 1) rfl)) (hw _ (List.mem_of_getElem? (i := 2) rfl)) (la_IdleHeap hw) (by decide) (by decide) (fun h231 b230 ea_b230 ge_b230 E_b230 A_b230 => ?_)
        replace A_b230 : Ob Z h231 b230 "com/example/rowan/rowan/store/IdleHeap" fl_IdleHeap [.null, .null, .null, (.int (0 : Int32))] := A_b230
        refine w_dup ok at_51 rfl ?_
        refine w_callI ok (y := (⟨"com/example/rowan/rowan/store/IdleHeap", "<init>", "()V"⟩ : MethodName)) (a := b230) (argsL := []) (rest := [(.ref b230)]) at_52 rfl (hw _ (List.mem_of_getElem? (i := 3) rfl)) (hw _ (List.mem_of_getElem? (i := 4) rfl)) (hw _ (List.mem_of_getElem? (i := 2) rfl)) (hw _ (List.mem_of_getElem? (i := 5) rfl)) (by decide) pd_2829V rfl rfl (by decide) (Nat.le_of_ble_eq_true rfl) (by decide) (by decide) (fun z0 => rm_ctor l Z a0 hw [] n0 h231 z0 b230 A_b230 ge_b230) (fun v232 h233 qv232 => ?_)
        obtain ⟨rfl, een, eti, esl, ⟨sz_een, sz_eti, sz_esl⟩, ⟨ge_een, ge_eti, ge_esl⟩, ⟨ne_0, ne_1, ne_2, ne_3, ne_4, ne_5⟩, K1, A1, A_een, A_eti, A_esl⟩ := qv232
        have ne_b230_een : b230 ≠ een := Nat.ne_of_lt (Nat.lt_of_lt_of_le A_b230.lt sz_een)
        have ne_b230_eti : b230 ≠ eti := Nat.ne_of_lt (Nat.lt_of_lt_of_le A_b230.lt sz_eti)
        have ne_b230_esl : b230 ≠ esl := Nat.ne_of_lt (Nat.lt_of_lt_of_le A_b230.lt sz_esl)
        replace A_b230 := A1
        show W K l _ n0 _ h233 4 4 55 #[.val (.long t0), .second, .val (.long t1), .second, .val (.int flags), .val (.int f), .val (.int gg), .val (.int (1 : Int32)), .val (.int (0 : Int32)), .val (.int (2 : Int32)), .unset, .unset, .unset, .unset, .unset] [(.ref b230)]
        refine w_astore ok at_55 rfl (L' := #[.val (.long t0), .second, .val (.long t1), .second, .val (.int flags), .val (.int f), .val (.int gg), .val (.int (1 : Int32)), .val (.int (0 : Int32)), .val (.int (2 : Int32)), .val (.ref b230), .unset, .unset, .unset, .unset]) rfl ?_
        refine w_aload ok at_57 rfl rfl ?_
        refine w_iconst ok at_59 (v := (4 : Int32)) rfl ?_
        refine w_callV ok (y := (⟨"com/example/rowan/rowan/store/IdleHeap", "resize", "(I)V"⟩ : MethodName)) (a := b230) (argsL := [(.int (4 : Int32))]) (rest := []) at_60 (hw _ (List.mem_of_getElem? (i := 17) rfl)) (hw _ (List.mem_of_getElem? (i := 18) rfl)) (hw _ (List.mem_of_getElem? (i := 20) rfl)) (hw _ (List.mem_of_getElem? (i := 19) rfl)) (hw _ (List.mem_of_getElem? (i := 2) rfl)) (hw _ (List.mem_of_getElem? (i := 21) rfl)) (by decide) A_b230.1 pd_28I29V rfl rfl (by decide) (Nat.le_of_ble_eq_true rfl) (by decide) (by decide) (fun z0 => rm_resize l Z a0 hw [] n0 h233 z0 b230 een eti esl A_b230 A_een A_eti A_esl ge_b230 ne_0 ne_1 ne_2 ne_3 ne_4 ne_5) (fun v234 h235 qv234 => ?_)
        obtain ⟨rfl, fen, fti, fsl, ⟨sz_fen, sz_fti, sz_fsl⟩, ⟨ge_fen, ge_fti, ge_fsl⟩, ⟨nf_0, nf_1, nf_2, nf_3, nf_4, nf_5⟩, K1, A1, A_fen, A_fti, A_fsl⟩ := qv234
        have ne_b230_fen : b230 ≠ fen := Nat.ne_of_lt (Nat.lt_of_lt_of_le A_b230.lt sz_fen)
        have ne_een_fen : een ≠ fen := Nat.ne_of_lt (Nat.lt_of_lt_of_le A_een.lt sz_fen)
        have ne_eti_fen : eti ≠ fen := Nat.ne_of_lt (Nat.lt_of_lt_of_le A_eti.lt sz_fen)
        have ne_esl_fen : esl ≠ fen := Nat.ne_of_lt (Nat.lt_of_lt_of_le A_esl.lt sz_fen)
        have ne_b230_fti : b230 ≠ fti := Nat.ne_of_lt (Nat.lt_of_lt_of_le A_b230.lt sz_fti)
        have ne_een_fti : een ≠ fti := Nat.ne_of_lt (Nat.lt_of_lt_of_le A_een.lt sz_fti)
        have ne_eti_fti : eti ≠ fti := Nat.ne_of_lt (Nat.lt_of_lt_of_le A_eti.lt sz_fti)
        have ne_esl_fti : esl ≠ fti := Nat.ne_of_lt (Nat.lt_of_lt_of_le A_esl.lt sz_fti)
        have ne_b230_fsl : b230 ≠ fsl := Nat.ne_of_lt (Nat.lt_of_lt_of_le A_b230.lt sz_fsl)
        have ne_een_fsl : een ≠ fsl := Nat.ne_of_lt (Nat.lt_of_lt_of_le A_een.lt sz_fsl)
        have ne_eti_fsl : eti ≠ fsl := Nat.ne_of_lt (Nat.lt_of_lt_of_le A_eti.lt sz_fsl)
        have ne_esl_fsl : esl ≠ fsl := Nat.ne_of_lt (Nat.lt_of_lt_of_le A_esl.lt sz_fsl)
        replace A_een := A_een.keep K1 (ninS (Ne.symm ne_0) nin0)
        replace A_eti := A_eti.keep K1 (ninS (Ne.symm ne_1) nin0)
        replace A_esl := A_esl.keep K1 (ninS (Ne.symm ne_2) nin0)
        replace A_b230 := A1
        show W K l _ n0 _ h235 7 16 63 #[.val (.long t0), .second, .val (.long t1), .second, .val (.int flags), .val (.int f), .val (.int gg), .val (.int (1 : Int32)), .val (.int (0 : Int32)), .val (.int (2 : Int32)), .val (.ref b230), .unset, .unset, .unset, .unset] []
        refine w_aload ok at_63 rfl rfl ?_
        refine w_iconst ok at_65 (v := (0 : Int32)) rfl ?_
        refine w_lloadN ok at_66 rfl ?_
        refine w_callV ok (y := (⟨"com/example/rowan/rowan/store/IdleHeap", "add", "(IJ)V"⟩ : MethodName)) (a := b230) (argsL := [(.int (0 : Int32)), (.long t0)]) (rest := []) at_67 (hw _ (List.mem_of_getElem? (i := 43) rfl)) (hw _ (List.mem_of_getElem? (i := 44) rfl)) (hw _ (List.mem_of_getElem? (i := 46) rfl)) (hw _ (List.mem_of_getElem? (i := 45) rfl)) (hw _ (List.mem_of_getElem? (i := 2) rfl)) (hw _ (List.mem_of_getElem? (i := 47) rfl)) (by decide) A_b230.1 pd_28IJ29V rfl rfl (by decide) (Nat.le_of_ble_eq_true rfl) (by decide) (by decide) (fun z0 => rm_add l Z a0 hw [] n0 h235 z0 b230 fen fti fsl 0 (fun _ => 0) (fun _ => -1) (fun _ => 0) A_b230 A_fen A_fti A_fsl ge_b230 ge_fen ge_fti ge_fsl nf_0 nf_1 nf_2 nf_3 nf_4 nf_5 (fun _ => none) own_pp0 own_ho0 0 t0 (by decide) rfl (by decide)) (fun v236 h237 qv236 => ?_)
        obtain ⟨rfl, e1, g1, τ1, K1, A0, A1, A2, A3, P1, H1, E1⟩ := qv236
        replace A_b230 : Ob Z h237 b230 "com/example/rowan/rowan/store/IdleHeap" fl_IdleHeap [(.ref fen), (.ref fti), (.ref fsl), (.int (1 : Int32))] := A0
        replace A_fen := A1
        replace A_fti := A2
        replace A_fsl := A3
        show W K l _ n0 _ h237 7 16 70 #[.val (.long t0), .second, .val (.long t1), .second, .val (.int flags), .val (.int f), .val (.int gg), .val (.int (1 : Int32)), .val (.int (0 : Int32)), .val (.int (2 : Int32)), .val (.ref b230), .unset, .unset, .unset, .unset] []
        refine w_iload ok at_70 rfl ?_
        refine w_if_eq ok at_72 (pc' := 82) (by decide) (fun hc239 => False.elim (by revert hc239; decide)) (fun hc239 => ?_)
        show W K l _ n0 _ h237 7 16 75 #[.val (.long t0), .second, .val (.long t1), .second, .val (.int flags), .val (.int f), .val (.int gg), .val (.int (1 : Int32)), .val (.int (0 : Int32)), .val (.int (2 : Int32)), .val (.ref b230), .unset, .unset, .unset, .unset] []
        refine w_aload ok at_75 rfl rfl ?_
        refine w_iconst ok at_77 (v := (1 : Int32)) rfl ?_
        refine w_lloadN ok at_78 rfl ?_
        refine w_callV ok (y := (⟨"com/example/rowan/rowan/store/IdleHeap", "add", "(IJ)V"⟩ : MethodName)) (a := b230) (argsL := [(.int (1 : Int32)), (.long t1)]) (rest := []) at_79 (hw _ (List.mem_of_getElem? (i := 43) rfl)) (hw _ (List.mem_of_getElem? (i := 44) rfl)) (hw _ (List.mem_of_getElem? (i := 46) rfl)) (hw _ (List.mem_of_getElem? (i := 45) rfl)) (hw _ (List.mem_of_getElem? (i := 2) rfl)) (hw _ (List.mem_of_getElem? (i := 47) rfl)) (by decide) A_b230.1 pd_28IJ29V rfl rfl (by decide) (Nat.le_of_ble_eq_true rfl) (by decide) (by decide) (fun z0 => rm_add l Z a0 hw [] n0 h237 z0 b230 fen fti fsl 1 e1 g1 τ1 A_b230 A_fen A_fti A_fsl ge_b230 ge_fen ge_fti ge_fsl nf_0 nf_1 nf_2 nf_3 nf_4 nf_5 (put (fun _ => none) 0 (some t0)) P1 H1 1 t1 (by decide) rfl (by decide)) (fun v240 h241 qv240 => ?_)
        obtain ⟨rfl, e2, g2, τ2, K1, A0, A1, A2, A3, P2, H2, E2⟩ := qv240
        replace A_b230 : Ob Z h241 b230 "com/example/rowan/rowan/store/IdleHeap" fl_IdleHeap [(.ref fen), (.ref fti), (.ref fsl), (.int (2 : Int32))] := A0
        replace A_fen := A1
        replace A_fti := A2
        replace A_fsl := A3
        show W K l _ n0 _ h241 7 16 82 #[.val (.long t0), .second, .val (.long t1), .second, .val (.int flags), .val (.int f), .val (.int gg), .val (.int (1 : Int32)), .val (.int (0 : Int32)), .val (.int (2 : Int32)), .val (.ref b230), .unset, .unset, .unset, .unset] []
        refine w_iload ok at_82 rfl ?_
        refine w_if_eq ok at_84 (pc' := 97) (by decide) (fun hc243 => False.elim (by revert hc243; decide)) (fun hc243 => ?_)
        show W K l _ n0 _ h241 7 16 87 #[.val (.long t0), .second, .val (.long t1), .second, .val (.int flags), .val (.int f), .val (.int gg), .val (.int (1 : Int32)), .val (.int (0 : Int32)), .val (.int (2 : Int32)), .val (.ref b230), .unset, .unset, .unset, .unset] []
        refine w_lloadN ok at_87 rfl ?_
        refine w_lloadN ok at_88 rfl ?_
        refine w_lcmp_ge ok at_89 at_90 (pc' := 97) (by decide) (fun hc245 => ?_) (fun hc245 => ?_)
        · show W K l _ n0 _ h241 7 16 97 #[.val (.long t0), .second, .val (.long t1), .second, .val (.int flags), .val (.int f), .val (.int gg), .val (.int (1 : Int32)), .val (.int (0 : Int32)), .val (.int (2 : Int32)), .val (.ref b230), .unset, .unset, .unset, .unset] []
          refine w_iconst ok at_97 (v := (0 : Int32)) rfl ?_
          show W K l _ n0 _ h241 7 16 98 #[.val (.long t0), .second, .val (.long t1), .second, .val (.int flags), .val (.int f), .val (.int gg), .val (.int (1 : Int32)), .val (.int (0 : Int32)), .val (.int (2 : Int32)), .val (.ref b230), .unset, .unset, .unset, .unset] [(.int (0 : Int32))]
          obtain ⟨o1, o2⟩ := own_one P1
          have E : e2 0 = Int32.ofNat 0 := (E2 (by rw [o2]; exact hc245) (by decide)).trans o1
          refine w_istore ok at_98 (L' := #[.val (.long t0), .second, .val (.long t1), .second, .val (.int flags), .val (.int f), .val (.int gg), .val (.int (1 : Int32)), .val (.int (0 : Int32)), .val (.int (2 : Int32)), .val (.ref b230), .val (.int (0 : Int32)), .unset, .unset, .unset]) rfl ?_
          refine w_iload ok at_100 rfl ?_
          refine w_if_eq ok at_102 (pc' := 112) (by decide) (fun hc247 => False.elim (by revert hc247; decide)) (fun hc247 => ?_)
          show W K l _ n0 _ h241 7 16 105 #[.val (.long t0), .second, .val (.long t1), .second, .val (.int flags), .val (.int f), .val (.int gg), .val (.int (1 : Int32)), .val (.int (0 : Int32)), .val (.int (2 : Int32)), .val (.ref b230), .val (.int (0 : Int32)), .unset, .unset, .unset] []
          refine w_iconst ok at_105 (v := (1 : Int32)) rfl ?_
          refine w_iload ok at_106 rfl ?_
          refine w_isub ok at_108 ?_
          show W K l _ n0 _ h241 7 16 109 #[.val (.long t0), .second, .val (.long t1), .second, .val (.int flags), .val (.int f), .val (.int gg), .val (.int (1 : Int32)), .val (.int (0 : Int32)), .val (.int (2 : Int32)), .val (.ref b230), .val (.int (0 : Int32)), .unset, .unset, .unset] [(.int (1 : Int32))]
          refine w_goto ok at_109 (pc' := 113) (by decide) ?_
          refine w_istore ok at_113 (L' := #[.val (.long t0), .second, .val (.long t1), .second, .val (.int flags), .val (.int f), .val (.int gg), .val (.int (1 : Int32)), .val (.int (0 : Int32)), .val (.int (2 : Int32)), .val (.ref b230), .val (.int (0 : Int32)), .val (.int (1 : Int32)), .unset, .unset]) rfl ?_
          refine w_aload ok at_115 rfl rfl ?_
          refine w_iload ok at_117 rfl ?_
          refine w_iload ok at_119 rfl ?_
          refine w_callV ok (y := (⟨"com/example/rowan/rowan/store/IdleHeap", "renumber", "(II)V"⟩ : MethodName)) (a := b230) (argsL := [(.int (0 : Int32)), (.int (2 : Int32))]) (rest := []) at_121 (hw _ (List.mem_of_getElem? (i := 58) rfl)) (hw _ (List.mem_of_getElem? (i := 59) rfl)) (hw _ (List.mem_of_getElem? (i := 61) rfl)) (hw _ (List.mem_of_getElem? (i := 60) rfl)) (hw _ (List.mem_of_getElem? (i := 2) rfl)) (hw _ (List.mem_of_getElem? (i := 62) rfl)) (by decide) A_b230.1 pd_28II29V rfl rfl (by decide) (Nat.le_of_ble_eq_true rfl) (by decide) (by decide) (fun z0 => rm_ren1 l Z a0 hw [] n0 h241 z0 b230 fen fti fsl 2 e2 g2 τ2 A_b230 A_fen A_fti A_fsl ge_b230 ge_fen ge_fti ge_fsl nf_0 nf_1 nf_2 nf_3 nf_4 nf_5 (put (put (fun _ => none) 0 (some t0)) 1 (some t1)) P2 H2 0 2 t0 (by decide) (by decide) rfl rfl) (fun v248 h249 qv248 => ?_)
          obtain ⟨rfl, e3, g3, τ3, K1, A0, A1, A2, A3, P3, H3, r1, r2⟩ := qv248
          replace A_b230 : Ob Z h249 b230 "com/example/rowan/rowan/store/IdleHeap" fl_IdleHeap [(.ref fen), (.ref fti), (.ref fsl), (.int (2 : Int32))] := A0
          replace A_fen := A1
          replace A_fti := A2
          replace A_fsl := A3
          replace E := r1 E
          show W K l _ n0 _ h249 7 16 124 #[.val (.long t0), .second, .val (.long t1), .second, .val (.int flags), .val (.int f), .val (.int gg), .val (.int (1 : Int32)), .val (.int (0 : Int32)), .val (.int (2 : Int32)), .val (.ref b230), .val (.int (0 : Int32)), .val (.int (1 : Int32)), .unset, .unset] []
          refine w_aload ok at_124 rfl rfl ?_
          refine w_iload ok at_126 rfl ?_
          refine w_callV ok (y := (⟨"com/example/rowan/rowan/store/IdleHeap", "remove", "(I)V"⟩ : MethodName)) (a := b230) (argsL := [(.int (0 : Int32))]) (rest := []) at_128 (hw _ (List.mem_of_getElem? (i := 63) rfl)) (hw _ (List.mem_of_getElem? (i := 64) rfl)) (hw _ (List.mem_of_getElem? (i := 66) rfl)) (hw _ (List.mem_of_getElem? (i := 65) rfl)) (hw _ (List.mem_of_getElem? (i := 2) rfl)) (hw _ (List.mem_of_getElem? (i := 67) rfl)) (by decide) A_b230.1 pd_28I29V rfl rfl (by decide) (Nat.le_of_ble_eq_true rfl) (by decide) (by decide) (fun z0 => rm_remove0 l Z a0 hw [] n0 h249 z0 b230 fen fti fsl 2 e3 g3 τ3 A_b230 A_fen A_fti A_fsl ge_b230 ge_fen ge_fti ge_fsl nf_0 nf_1 nf_2 nf_3 nf_4 nf_5 (put (put (put (put (fun _ => none) 0 (some t0)) 1 (some t1)) 0 none) 2 (some t0)) P3 H3 0 (by decide) rfl) (fun v250 h251 qv250 => ?_)
          obtain ⟨rfl, rfl⟩ := qv250
          show W K l _ n0 _ h249 7 16 131 #[.val (.long t0), .second, .val (.long t1), .second, .val (.int flags), .val (.int f), .val (.int gg), .val (.int (1 : Int32)), .val (.int (0 : Int32)), .val (.int (2 : Int32)), .val (.ref b230), .val (.int (0 : Int32)), .val (.int (1 : Int32)), .unset, .unset] []
          refine w_iload ok at_131 rfl ?_
          refine w_iload ok at_133 rfl ?_
          refine w_iload ok at_135 rfl ?_
          refine w_callS ok (y := (⟨"com/example/rowan/rowan/store/IdleHeapRenumberPinLaw", "map", "(III)I"⟩ : MethodName)) (argsL := [(.int (0 : Int32)), (.int (0 : Int32)), (.int (2 : Int32))]) (rest := []) at_137 (hw _ (List.mem_of_getElem? (i := 68) rfl)) (hw _ (List.mem_of_getElem? (i := 69) rfl)) (hw _ (List.mem_of_getElem? (i := 70) rfl)) (hw _ (List.mem_of_getElem? (i := 71) rfl)) (by decide) pd_28III29I rfl rfl (by decide) (Nat.le_of_ble_eq_true rfl) (by decide) (by decide) (fun z0 => rm_map l Z a0 hw [] n0 h249 z0 (0 : Int32) (0 : Int32) (2 : Int32)) (fun v252 h253 qv252 => ?_)
          obtain ⟨rfl, rfl⟩ := qv252
          rw [show own_map (0 : Int32) (0 : Int32) (2 : Int32) = (2 : Int32) from rfl]
          show W K l _ n0 _ h249 7 16 140 #[.val (.long t0), .second, .val (.long t1), .second, .val (.int flags), .val (.int f), .val (.int gg), .val (.int (1 : Int32)), .val (.int (0 : Int32)), .val (.int (2 : Int32)), .val (.ref b230), .val (.int (0 : Int32)), .val (.int (1 : Int32)), .unset, .unset] [(.int (2 : Int32))]
          refine w_istore ok at_140 (L' := #[.val (.long t0), .second, .val (.long t1), .second, .val (.int flags), .val (.int f), .val (.int gg), .val (.int (1 : Int32)), .val (.int (0 : Int32)), .val (.int (2 : Int32)), .val (.ref b230), .val (.int (0 : Int32)), .val (.int (1 : Int32)), .val (.int (2 : Int32)), .unset]) rfl ?_
          refine w_aload ok at_142 rfl rfl ?_
          refine w_callV ok (y := (⟨"com/example/rowan/rowan/store/IdleHeap", "first", "()I"⟩ : MethodName)) (a := b230) (argsL := []) (rest := []) at_144 (hw _ (List.mem_of_getElem? (i := 72) rfl)) (hw _ (List.mem_of_getElem? (i := 73) rfl)) (hw _ (List.mem_of_getElem? (i := 75) rfl)) (hw _ (List.mem_of_getElem? (i := 74) rfl)) (hw _ (List.mem_of_getElem? (i := 2) rfl)) (hw _ (List.mem_of_getElem? (i := 76) rfl)) (by decide) A_b230.1 pd_2829I rfl rfl (by decide) (Nat.le_of_ble_eq_true rfl) (by decide) (by decide) (fun z0 => rm_first l Z a0 hw [] n0 h249 z0 b230 fen fti fsl 2 e3 g3 τ3 A_b230 A_fen A_fti A_fsl ge_b230 ge_fen ge_fti ge_fsl nf_0 nf_1 nf_2 nf_3 nf_4 nf_5 (put (put (put (put (fun _ => none) 0 (some t0)) 1 (some t1)) 0 none) 2 (some t0)) P3 H3) (fun v254 h255 qv254 => ?_)
          obtain ⟨rfl, ⟨hs0, rfl⟩ | ⟨y, hy, hs, ey, rfl⟩⟩ := qv254
          · exact absurd hs0 (by decide)
          · skip
            obtain rfl : y = 2 := own_inj hy (by decide) (ey.symm.trans E)
            show W K l _ n0 _ h249 7 16 147 #[.val (.long t0), .second, .val (.long t1), .second, .val (.int flags), .val (.int f), .val (.int gg), .val (.int (1 : Int32)), .val (.int (0 : Int32)), .val (.int (2 : Int32)), .val (.ref b230), .val (.int (0 : Int32)), .val (.int (1 : Int32)), .val (.int (2 : Int32)), .unset] [(.int (2 : Int32))]
            refine w_iload ok at_147 rfl ?_
            refine w_icmp_eq ok at_149 (pc' := 154) (by decide) (fun hc257 => ?_) (fun hc257 => False.elim (by revert hc257; decide))
            show W K l _ n0 _ h249 7 16 154 #[.val (.long t0), .second, .val (.long t1), .second, .val (.int flags), .val (.int f), .val (.int gg), .val (.int (1 : Int32)), .val (.int (0 : Int32)), .val (.int (2 : Int32)), .val (.ref b230), .val (.int (0 : Int32)), .val (.int (1 : Int32)), .val (.int (2 : Int32)), .unset] []
            refine w_aload ok at_154 rfl rfl ?_
            refine w_iload ok at_156 rfl ?_
            refine w_callV ok (y := (⟨"com/example/rowan/rowan/store/IdleHeap", "remove", "(I)V"⟩ : MethodName)) (a := b230) (argsL := [(.int (2 : Int32))]) (rest := []) at_158 (hw _ (List.mem_of_getElem? (i := 63) rfl)) (hw _ (List.mem_of_getElem? (i := 64) rfl)) (hw _ (List.mem_of_getElem? (i := 66) rfl)) (hw _ (List.mem_of_getElem? (i := 65) rfl)) (hw _ (List.mem_of_getElem? (i := 2) rfl)) (hw _ (List.mem_of_getElem? (i := 67) rfl)) (by decide) A_b230.1 pd_28I29V rfl rfl (by decide) (Nat.le_of_ble_eq_true rfl) (by decide) (by decide) (fun z0 => rm_remove l Z a0 hw [] n0 h249 z0 b230 fen fti fsl 2 e3 g3 τ3 A_b230 A_fen A_fti A_fsl ge_b230 ge_fen ge_fti ge_fsl nf_0 nf_1 nf_2 nf_3 nf_4 nf_5 (put (put (put (put (fun _ => none) 0 (some t0)) 1 (some t1)) 0 none) 2 (some t0)) P3 H3 2 (by decide)) (fun v259 h260 qv259 => ?_)
            obtain ⟨rfl, sx258, ex258, gx258, τx258, K1, A0, A1, A2, A3, Px258, Hx258⟩ := qv259
            replace A_b230 : Ob Z h260 b230 "com/example/rowan/rowan/store/IdleHeap" fl_IdleHeap [(.ref fen), (.ref fti), (.ref fsl), (.int (Int32.ofNat sx258))] := A0
            replace A_fen := A1
            replace A_fti := A2
            replace A_fsl := A3
            show W K l _ n0 _ h260 7 16 161 #[.val (.long t0), .second, .val (.long t1), .second, .val (.int flags), .val (.int f), .val (.int gg), .val (.int (1 : Int32)), .val (.int (0 : Int32)), .val (.int (2 : Int32)), .val (.ref b230), .val (.int (0 : Int32)), .val (.int (1 : Int32)), .val (.int (2 : Int32)), .unset] []
            refine w_iload ok at_161 rfl ?_
            refine w_iconst ok at_163 (v := (-1 : Int32)) rfl ?_
            refine w_icmp_ne ok at_164 (pc' := 171) (by decide) (fun hc262 => ?_) (fun hc262 => False.elim (by revert hc262; decide))
            show W K l _ n0 _ h260 7 16 171 #[.val (.long t0), .second, .val (.long t1), .second, .val (.int flags), .val (.int f), .val (.int gg), .val (.int (1 : Int32)), .val (.int (0 : Int32)), .val (.int (2 : Int32)), .val (.ref b230), .val (.int (0 : Int32)), .val (.int (1 : Int32)), .val (.int (2 : Int32)), .unset] []
            refine w_iload ok at_171 rfl ?_
            refine w_iload ok at_173 rfl ?_
            refine w_iload ok at_175 rfl ?_
            refine w_callS ok (y := (⟨"com/example/rowan/rowan/store/IdleHeapRenumberPinLaw", "map", "(III)I"⟩ : MethodName)) (argsL := [(.int (1 : Int32)), (.int (0 : Int32)), (.int (2 : Int32))]) (rest := []) at_177 (hw _ (List.mem_of_getElem? (i := 68) rfl)) (hw _ (List.mem_of_getElem? (i := 69) rfl)) (hw _ (List.mem_of_getElem? (i := 70) rfl)) (hw _ (List.mem_of_getElem? (i := 71) rfl)) (by decide) pd_28III29I rfl rfl (by decide) (Nat.le_of_ble_eq_true rfl) (by decide) (by decide) (fun z0 => rm_map l Z a0 hw [] n0 h260 z0 (1 : Int32) (0 : Int32) (2 : Int32)) (fun v263 h264 qv263 => ?_)
            obtain ⟨rfl, rfl⟩ := qv263
            rw [show own_map (1 : Int32) (0 : Int32) (2 : Int32) = (1 : Int32) from rfl]
            show W K l _ n0 _ h260 7 16 180 #[.val (.long t0), .second, .val (.long t1), .second, .val (.int flags), .val (.int f), .val (.int gg), .val (.int (1 : Int32)), .val (.int (0 : Int32)), .val (.int (2 : Int32)), .val (.ref b230), .val (.int (0 : Int32)), .val (.int (1 : Int32)), .val (.int (2 : Int32)), .unset] [(.int (1 : Int32))]
            refine w_istore ok at_180 (L' := #[.val (.long t0), .second, .val (.long t1), .second, .val (.int flags), .val (.int f), .val (.int gg), .val (.int (1 : Int32)), .val (.int (0 : Int32)), .val (.int (2 : Int32)), .val (.ref b230), .val (.int (0 : Int32)), .val (.int (1 : Int32)), .val (.int (2 : Int32)), .val (.int (1 : Int32))]) rfl ?_
            refine w_aload ok at_182 rfl rfl ?_
            refine w_callV ok (y := (⟨"com/example/rowan/rowan/store/IdleHeap", "first", "()I"⟩ : MethodName)) (a := b230) (argsL := []) (rest := []) at_184 (hw _ (List.mem_of_getElem? (i := 72) rfl)) (hw _ (List.mem_of_getElem? (i := 73) rfl)) (hw _ (List.mem_of_getElem? (i := 75) rfl)) (hw _ (List.mem_of_getElem? (i := 74) rfl)) (hw _ (List.mem_of_getElem? (i := 2) rfl)) (hw _ (List.mem_of_getElem? (i := 76) rfl)) (by decide) A_b230.1 pd_2829I rfl rfl (by decide) (Nat.le_of_ble_eq_true rfl) (by decide) (by decide) (fun z0 => rm_first l Z a0 hw [] n0 h260 z0 b230 fen fti fsl sx258 ex258 gx258 τx258 A_b230 A_fen A_fti A_fsl ge_b230 ge_fen ge_fti ge_fsl nf_0 nf_1 nf_2 nf_3 nf_4 nf_5 (put (put (put (put (put (fun _ => none) 0 (some t0)) 1 (some t1)) 0 none) 2 (some t0)) 2 none) Px258 Hx258) (fun v265 h266 qv265 => ?_)
            obtain ⟨rfl, ⟨hs0, rfl⟩ | ⟨y, hy, hs, ey, rfl⟩⟩ := qv265
            · subst hs0; exact (own_none0 Px258 (y := 1) (by decide) rfl).elim
            · have my := (Px258.at hs hy ey).1
              obtain rfl | rfl | rfl | rfl : y = 0 ∨ y = 1 ∨ y = 2 ∨ y = 3 := by omega
              · cases (show none = some _ from my)
              · skip
                show W K l _ n0 _ h260 7 16 187 #[.val (.long t0), .second, .val (.long t1), .second, .val (.int flags), .val (.int f), .val (.int gg), .val (.int (1 : Int32)), .val (.int (0 : Int32)), .val (.int (2 : Int32)), .val (.ref b230), .val (.int (0 : Int32)), .val (.int (1 : Int32)), .val (.int (2 : Int32)), .val (.int (1 : Int32))] [(.int (1 : Int32))]
                refine w_iload ok at_187 rfl ?_
                refine w_icmp_eq ok at_189 (pc' := 194) (by decide) (fun hc268 => ?_) (fun hc268 => False.elim (by revert hc268; decide))
                show W K l _ n0 _ h260 7 16 194 #[.val (.long t0), .second, .val (.long t1), .second, .val (.int flags), .val (.int f), .val (.int gg), .val (.int (1 : Int32)), .val (.int (0 : Int32)), .val (.int (2 : Int32)), .val (.ref b230), .val (.int (0 : Int32)), .val (.int (1 : Int32)), .val (.int (2 : Int32)), .val (.int (1 : Int32))] []
                refine w_iload ok at_194 rfl ?_
                refine w_iconst ok at_196 (v := (-1 : Int32)) rfl ?_
                refine w_icmp_eq ok at_197 (pc' := 218) (by decide) (fun hc270 => False.elim (by revert hc270; decide)) (fun hc270 => ?_)
                show W K l _ n0 _ h260 7 16 200 #[.val (.long t0), .second, .val (.long t1), .second, .val (.int flags), .val (.int f), .val (.int gg), .val (.int (1 : Int32)), .val (.int (0 : Int32)), .val (.int (2 : Int32)), .val (.ref b230), .val (.int (0 : Int32)), .val (.int (1 : Int32)), .val (.int (2 : Int32)), .val (.int (1 : Int32))] []
                refine w_aload ok at_200 rfl rfl ?_
                refine w_iload ok at_202 rfl ?_
                refine w_callV ok (y := (⟨"com/example/rowan/rowan/store/IdleHeap", "remove", "(I)V"⟩ : MethodName)) (a := b230) (argsL := [(.int (1 : Int32))]) (rest := []) at_204 (hw _ (List.mem_of_getElem? (i := 63) rfl)) (hw _ (List.mem_of_getElem? (i := 64) rfl)) (hw _ (List.mem_of_getElem? (i := 66) rfl)) (hw _ (List.mem_of_getElem? (i := 65) rfl)) (hw _ (List.mem_of_getElem? (i := 2) rfl)) (hw _ (List.mem_of_getElem? (i := 67) rfl)) (by decide) A_b230.1 pd_28I29V rfl rfl (by decide) (Nat.le_of_ble_eq_true rfl) (by decide) (by decide) (fun z0 => rm_remove l Z a0 hw [] n0 h260 z0 b230 fen fti fsl sx258 ex258 gx258 τx258 A_b230 A_fen A_fti A_fsl ge_b230 ge_fen ge_fti ge_fsl nf_0 nf_1 nf_2 nf_3 nf_4 nf_5 (put (put (put (put (put (fun _ => none) 0 (some t0)) 1 (some t1)) 0 none) 2 (some t0)) 2 none) Px258 Hx258 1 (by decide)) (fun v272 h273 qv272 => ?_)
                obtain ⟨rfl, sx271, ex271, gx271, τx271, K1, A0, A1, A2, A3, Px271, Hx271⟩ := qv272
                replace A_b230 : Ob Z h273 b230 "com/example/rowan/rowan/store/IdleHeap" fl_IdleHeap [(.ref fen), (.ref fti), (.ref fsl), (.int (Int32.ofNat sx271))] := A0
                replace A_fen := A1
                replace A_fti := A2
                replace A_fsl := A3
                show W K l _ n0 _ h273 7 16 207 #[.val (.long t0), .second, .val (.long t1), .second, .val (.int flags), .val (.int f), .val (.int gg), .val (.int (1 : Int32)), .val (.int (0 : Int32)), .val (.int (2 : Int32)), .val (.ref b230), .val (.int (0 : Int32)), .val (.int (1 : Int32)), .val (.int (2 : Int32)), .val (.int (1 : Int32))] []
                refine w_aload ok at_207 rfl rfl ?_
                refine w_callV ok (y := (⟨"com/example/rowan/rowan/store/IdleHeap", "first", "()I"⟩ : MethodName)) (a := b230) (argsL := []) (rest := []) at_209 (hw _ (List.mem_of_getElem? (i := 72) rfl)) (hw _ (List.mem_of_getElem? (i := 73) rfl)) (hw _ (List.mem_of_getElem? (i := 75) rfl)) (hw _ (List.mem_of_getElem? (i := 74) rfl)) (hw _ (List.mem_of_getElem? (i := 2) rfl)) (hw _ (List.mem_of_getElem? (i := 76) rfl)) (by decide) A_b230.1 pd_2829I rfl rfl (by decide) (Nat.le_of_ble_eq_true rfl) (by decide) (by decide) (fun z0 => rm_first l Z a0 hw [] n0 h273 z0 b230 fen fti fsl sx271 ex271 gx271 τx271 A_b230 A_fen A_fti A_fsl ge_b230 ge_fen ge_fti ge_fsl nf_0 nf_1 nf_2 nf_3 nf_4 nf_5 (put (put (put (put (put (put (fun _ => none) 0 (some t0)) 1 (some t1)) 0 none) 2 (some t0)) 2 none) 1 none) Px271 Hx271) (fun v274 h275 qv274 => ?_)
                obtain ⟨rfl, ⟨hs0, rfl⟩ | ⟨y, hy, hs, ey, rfl⟩⟩ := qv274
                · skip
                  show W K l _ n0 _ h273 7 16 212 #[.val (.long t0), .second, .val (.long t1), .second, .val (.int flags), .val (.int f), .val (.int gg), .val (.int (1 : Int32)), .val (.int (0 : Int32)), .val (.int (2 : Int32)), .val (.ref b230), .val (.int (0 : Int32)), .val (.int (1 : Int32)), .val (.int (2 : Int32)), .val (.int (1 : Int32))] [(.int (-1 : Int32))]
                  refine w_iconst ok at_212 (v := (-1 : Int32)) rfl ?_
                  refine w_icmp_eq ok at_213 (pc' := 218) (by decide) (fun hc277 => ?_) (fun hc277 => False.elim (by revert hc277; decide))
                  show W K l _ n0 _ h273 7 16 218 #[.val (.long t0), .second, .val (.long t1), .second, .val (.int flags), .val (.int f), .val (.int gg), .val (.int (1 : Int32)), .val (.int (0 : Int32)), .val (.int (2 : Int32)), .val (.ref b230), .val (.int (0 : Int32)), .val (.int (1 : Int32)), .val (.int (2 : Int32)), .val (.int (1 : Int32))] []
                  refine w_iconst ok at_218 (v := (1 : Int32)) rfl ?_
                  refine w_bret ok (by simp) at_219 (by decide) (by decide) ?_
                  exact rfl
                · have my := (Px271.at hs hy ey).1
                  obtain rfl | rfl | rfl | rfl : y = 0 ∨ y = 1 ∨ y = 2 ∨ y = 3 := by omega
                  · cases (show none = some _ from my)
                  · cases (show none = some _ from my)
                  · cases (show none = some _ from my)
                  · cases (show none = some _ from my)
              · cases (show none = some _ from my)
              · cases (show none = some _ from my)
        · show W K l _ n0 _ h241 7 16 93 #[.val (.long t0), .second, .val (.long t1), .second, .val (.int flags), .val (.int f), .val (.int gg), .val (.int (1 : Int32)), .val (.int (0 : Int32)), .val (.int (2 : Int32)), .val (.ref b230), .unset, .unset, .unset, .unset] []
          refine w_iconst ok at_93 (v := (1 : Int32)) rfl ?_
          refine w_goto ok at_94 (pc' := 98) (by decide) ?_
          show W K l _ n0 _ h241 7 16 98 #[.val (.long t0), .second, .val (.long t1), .second, .val (.int flags), .val (.int f), .val (.int gg), .val (.int (1 : Int32)), .val (.int (0 : Int32)), .val (.int (2 : Int32)), .val (.ref b230), .unset, .unset, .unset, .unset] [(.int (1 : Int32))]
          obtain ⟨o1, o2⟩ := own_one P1
          have E : e2 0 = Int32.ofNat 1 := own_two P2 H2 hc245
          refine w_istore ok at_98 (L' := #[.val (.long t0), .second, .val (.long t1), .second, .val (.int flags), .val (.int f), .val (.int gg), .val (.int (1 : Int32)), .val (.int (0 : Int32)), .val (.int (2 : Int32)), .val (.ref b230), .val (.int (1 : Int32)), .unset, .unset, .unset]) rfl ?_
          refine w_iload ok at_100 rfl ?_
          refine w_if_eq ok at_102 (pc' := 112) (by decide) (fun hc279 => False.elim (by revert hc279; decide)) (fun hc279 => ?_)
          show W K l _ n0 _ h241 7 16 105 #[.val (.long t0), .second, .val (.long t1), .second, .val (.int flags), .val (.int f), .val (.int gg), .val (.int (1 : Int32)), .val (.int (0 : Int32)), .val (.int (2 : Int32)), .val (.ref b230), .val (.int (1 : Int32)), .unset, .unset, .unset] []
          refine w_iconst ok at_105 (v := (1 : Int32)) rfl ?_
          refine w_iload ok at_106 rfl ?_
          refine w_isub ok at_108 ?_
          show W K l _ n0 _ h241 7 16 109 #[.val (.long t0), .second, .val (.long t1), .second, .val (.int flags), .val (.int f), .val (.int gg), .val (.int (1 : Int32)), .val (.int (0 : Int32)), .val (.int (2 : Int32)), .val (.ref b230), .val (.int (1 : Int32)), .unset, .unset, .unset] [(.int (0 : Int32))]
          refine w_goto ok at_109 (pc' := 113) (by decide) ?_
          refine w_istore ok at_113 (L' := #[.val (.long t0), .second, .val (.long t1), .second, .val (.int flags), .val (.int f), .val (.int gg), .val (.int (1 : Int32)), .val (.int (0 : Int32)), .val (.int (2 : Int32)), .val (.ref b230), .val (.int (1 : Int32)), .val (.int (0 : Int32)), .unset, .unset]) rfl ?_
          refine w_aload ok at_115 rfl rfl ?_
          refine w_iload ok at_117 rfl ?_
          refine w_iload ok at_119 rfl ?_
          refine w_callV ok (y := (⟨"com/example/rowan/rowan/store/IdleHeap", "renumber", "(II)V"⟩ : MethodName)) (a := b230) (argsL := [(.int (0 : Int32)), (.int (2 : Int32))]) (rest := []) at_121 (hw _ (List.mem_of_getElem? (i := 58) rfl)) (hw _ (List.mem_of_getElem? (i := 59) rfl)) (hw _ (List.mem_of_getElem? (i := 61) rfl)) (hw _ (List.mem_of_getElem? (i := 60) rfl)) (hw _ (List.mem_of_getElem? (i := 2) rfl)) (hw _ (List.mem_of_getElem? (i := 62) rfl)) (by decide) A_b230.1 pd_28II29V rfl rfl (by decide) (Nat.le_of_ble_eq_true rfl) (by decide) (by decide) (fun z0 => rm_ren1 l Z a0 hw [] n0 h241 z0 b230 fen fti fsl 2 e2 g2 τ2 A_b230 A_fen A_fti A_fsl ge_b230 ge_fen ge_fti ge_fsl nf_0 nf_1 nf_2 nf_3 nf_4 nf_5 (put (put (fun _ => none) 0 (some t0)) 1 (some t1)) P2 H2 0 2 t0 (by decide) (by decide) rfl rfl) (fun v280 h281 qv280 => ?_)
          obtain ⟨rfl, e3, g3, τ3, K1, A0, A1, A2, A3, P3, H3, r1, r2⟩ := qv280
          replace A_b230 : Ob Z h281 b230 "com/example/rowan/rowan/store/IdleHeap" fl_IdleHeap [(.ref fen), (.ref fti), (.ref fsl), (.int (2 : Int32))] := A0
          replace A_fen := A1
          replace A_fti := A2
          replace A_fsl := A3
          replace E := (r2 (fun q => absurd (own_inj (by decide) (by decide) (E.symm.trans q)) (by decide))).trans E
          show W K l _ n0 _ h281 7 16 124 #[.val (.long t0), .second, .val (.long t1), .second, .val (.int flags), .val (.int f), .val (.int gg), .val (.int (1 : Int32)), .val (.int (0 : Int32)), .val (.int (2 : Int32)), .val (.ref b230), .val (.int (1 : Int32)), .val (.int (0 : Int32)), .unset, .unset] []
          refine w_aload ok at_124 rfl rfl ?_
          refine w_iload ok at_126 rfl ?_
          refine w_callV ok (y := (⟨"com/example/rowan/rowan/store/IdleHeap", "remove", "(I)V"⟩ : MethodName)) (a := b230) (argsL := [(.int (0 : Int32))]) (rest := []) at_128 (hw _ (List.mem_of_getElem? (i := 63) rfl)) (hw _ (List.mem_of_getElem? (i := 64) rfl)) (hw _ (List.mem_of_getElem? (i := 66) rfl)) (hw _ (List.mem_of_getElem? (i := 65) rfl)) (hw _ (List.mem_of_getElem? (i := 2) rfl)) (hw _ (List.mem_of_getElem? (i := 67) rfl)) (by decide) A_b230.1 pd_28I29V rfl rfl (by decide) (Nat.le_of_ble_eq_true rfl) (by decide) (by decide) (fun z0 => rm_remove0 l Z a0 hw [] n0 h281 z0 b230 fen fti fsl 2 e3 g3 τ3 A_b230 A_fen A_fti A_fsl ge_b230 ge_fen ge_fti ge_fsl nf_0 nf_1 nf_2 nf_3 nf_4 nf_5 (put (put (put (put (fun _ => none) 0 (some t0)) 1 (some t1)) 0 none) 2 (some t0)) P3 H3 0 (by decide) rfl) (fun v282 h283 qv282 => ?_)
          obtain ⟨rfl, rfl⟩ := qv282
          show W K l _ n0 _ h281 7 16 131 #[.val (.long t0), .second, .val (.long t1), .second, .val (.int flags), .val (.int f), .val (.int gg), .val (.int (1 : Int32)), .val (.int (0 : Int32)), .val (.int (2 : Int32)), .val (.ref b230), .val (.int (1 : Int32)), .val (.int (0 : Int32)), .unset, .unset] []
          refine w_iload ok at_131 rfl ?_
          refine w_iload ok at_133 rfl ?_
          refine w_iload ok at_135 rfl ?_
          refine w_callS ok (y := (⟨"com/example/rowan/rowan/store/IdleHeapRenumberPinLaw", "map", "(III)I"⟩ : MethodName)) (argsL := [(.int (1 : Int32)), (.int (0 : Int32)), (.int (2 : Int32))]) (rest := []) at_137 (hw _ (List.mem_of_getElem? (i := 68) rfl)) (hw _ (List.mem_of_getElem? (i := 69) rfl)) (hw _ (List.mem_of_getElem? (i := 70) rfl)) (hw _ (List.mem_of_getElem? (i := 71) rfl)) (by decide) pd_28III29I rfl rfl (by decide) (Nat.le_of_ble_eq_true rfl) (by decide) (by decide) (fun z0 => rm_map l Z a0 hw [] n0 h281 z0 (1 : Int32) (0 : Int32) (2 : Int32)) (fun v284 h285 qv284 => ?_)
          obtain ⟨rfl, rfl⟩ := qv284
          rw [show own_map (1 : Int32) (0 : Int32) (2 : Int32) = (1 : Int32) from rfl]
          show W K l _ n0 _ h281 7 16 140 #[.val (.long t0), .second, .val (.long t1), .second, .val (.int flags), .val (.int f), .val (.int gg), .val (.int (1 : Int32)), .val (.int (0 : Int32)), .val (.int (2 : Int32)), .val (.ref b230), .val (.int (1 : Int32)), .val (.int (0 : Int32)), .unset, .unset] [(.int (1 : Int32))]
          refine w_istore ok at_140 (L' := #[.val (.long t0), .second, .val (.long t1), .second, .val (.int flags), .val (.int f), .val (.int gg), .val (.int (1 : Int32)), .val (.int (0 : Int32)), .val (.int (2 : Int32)), .val (.ref b230), .val (.int (1 : Int32)), .val (.int (0 : Int32)), .val (.int (1 : Int32)), .unset]) rfl ?_
          refine w_aload ok at_142 rfl rfl ?_
          refine w_callV ok (y := (⟨"com/example/rowan/rowan/store/IdleHeap", "first", "()I"⟩ : MethodName)) (a := b230) (argsL := []) (rest := []) at_144 (hw _ (List.mem_of_getElem? (i := 72) rfl)) (hw _ (List.mem_of_getElem? (i := 73) rfl)) (hw _ (List.mem_of_getElem? (i := 75) rfl)) (hw _ (List.mem_of_getElem? (i := 74) rfl)) (hw _ (List.mem_of_getElem? (i := 2) rfl)) (hw _ (List.mem_of_getElem? (i := 76) rfl)) (by decide) A_b230.1 pd_2829I rfl rfl (by decide) (Nat.le_of_ble_eq_true rfl) (by decide) (by decide) (fun z0 => rm_first l Z a0 hw [] n0 h281 z0 b230 fen fti fsl 2 e3 g3 τ3 A_b230 A_fen A_fti A_fsl ge_b230 ge_fen ge_fti ge_fsl nf_0 nf_1 nf_2 nf_3 nf_4 nf_5 (put (put (put (put (fun _ => none) 0 (some t0)) 1 (some t1)) 0 none) 2 (some t0)) P3 H3) (fun v286 h287 qv286 => ?_)
          obtain ⟨rfl, ⟨hs0, rfl⟩ | ⟨y, hy, hs, ey, rfl⟩⟩ := qv286
          · exact absurd hs0 (by decide)
          · skip
            obtain rfl : y = 1 := own_inj hy (by decide) (ey.symm.trans E)
            show W K l _ n0 _ h281 7 16 147 #[.val (.long t0), .second, .val (.long t1), .second, .val (.int flags), .val (.int f), .val (.int gg), .val (.int (1 : Int32)), .val (.int (0 : Int32)), .val (.int (2 : Int32)), .val (.ref b230), .val (.int (1 : Int32)), .val (.int (0 : Int32)), .val (.int (1 : Int32)), .unset] [(.int (1 : Int32))]
            refine w_iload ok at_147 rfl ?_
            refine w_icmp_eq ok at_149 (pc' := 154) (by decide) (fun hc289 => ?_) (fun hc289 => False.elim (by revert hc289; decide))
            show W K l _ n0 _ h281 7 16 154 #[.val (.long t0), .second, .val (.long t1), .second, .val (.int flags), .val (.int f), .val (.int gg), .val (.int (1 : Int32)), .val (.int (0 : Int32)), .val (.int (2 : Int32)), .val (.ref b230), .val (.int (1 : Int32)), .val (.int (0 : Int32)), .val (.int (1 : Int32)), .unset] []
            refine w_aload ok at_154 rfl rfl ?_
            refine w_iload ok at_156 rfl ?_
            refine w_callV ok (y := (⟨"com/example/rowan/rowan/store/IdleHeap", "remove", "(I)V"⟩ : MethodName)) (a := b230) (argsL := [(.int (1 : Int32))]) (rest := []) at_158 (hw _ (List.mem_of_getElem? (i := 63) rfl)) (hw _ (List.mem_of_getElem? (i := 64) rfl)) (hw _ (List.mem_of_getElem? (i := 66) rfl)) (hw _ (List.mem_of_getElem? (i := 65) rfl)) (hw _ (List.mem_of_getElem? (i := 2) rfl)) (hw _ (List.mem_of_getElem? (i := 67) rfl)) (by decide) A_b230.1 pd_28I29V rfl rfl (by decide) (Nat.le_of_ble_eq_true rfl) (by decide) (by decide) (fun z0 => rm_remove l Z a0 hw [] n0 h281 z0 b230 fen fti fsl 2 e3 g3 τ3 A_b230 A_fen A_fti A_fsl ge_b230 ge_fen ge_fti ge_fsl nf_0 nf_1 nf_2 nf_3 nf_4 nf_5 (put (put (put (put (fun _ => none) 0 (some t0)) 1 (some t1)) 0 none) 2 (some t0)) P3 H3 1 (by decide)) (fun v291 h292 qv291 => ?_)
            obtain ⟨rfl, sx290, ex290, gx290, τx290, K1, A0, A1, A2, A3, Px290, Hx290⟩ := qv291
            replace A_b230 : Ob Z h292 b230 "com/example/rowan/rowan/store/IdleHeap" fl_IdleHeap [(.ref fen), (.ref fti), (.ref fsl), (.int (Int32.ofNat sx290))] := A0
            replace A_fen := A1
            replace A_fti := A2
            replace A_fsl := A3
            show W K l _ n0 _ h292 7 16 161 #[.val (.long t0), .second, .val (.long t1), .second, .val (.int flags), .val (.int f), .val (.int gg), .val (.int (1 : Int32)), .val (.int (0 : Int32)), .val (.int (2 : Int32)), .val (.ref b230), .val (.int (1 : Int32)), .val (.int (0 : Int32)), .val (.int (1 : Int32)), .unset] []
            refine w_iload ok at_161 rfl ?_
            refine w_iconst ok at_163 (v := (-1 : Int32)) rfl ?_
            refine w_icmp_ne ok at_164 (pc' := 171) (by decide) (fun hc294 => ?_) (fun hc294 => False.elim (by revert hc294; decide))
            show W K l _ n0 _ h292 7 16 171 #[.val (.long t0), .second, .val (.long t1), .second, .val (.int flags), .val (.int f), .val (.int gg), .val (.int (1 : Int32)), .val (.int (0 : Int32)), .val (.int (2 : Int32)), .val (.ref b230), .val (.int (1 : Int32)), .val (.int (0 : Int32)), .val (.int (1 : Int32)), .unset] []
            refine w_iload ok at_171 rfl ?_
            refine w_iload ok at_173 rfl ?_
            refine w_iload ok at_175 rfl ?_
            refine w_callS ok (y := (⟨"com/example/rowan/rowan/store/IdleHeapRenumberPinLaw", "map", "(III)I"⟩ : MethodName)) (argsL := [(.int (0 : Int32)), (.int (0 : Int32)), (.int (2 : Int32))]) (rest := []) at_177 (hw _ (List.mem_of_getElem? (i := 68) rfl)) (hw _ (List.mem_of_getElem? (i := 69) rfl)) (hw _ (List.mem_of_getElem? (i := 70) rfl)) (hw _ (List.mem_of_getElem? (i := 71) rfl)) (by decide) pd_28III29I rfl rfl (by decide) (Nat.le_of_ble_eq_true rfl) (by decide) (by decide) (fun z0 => rm_map l Z a0 hw [] n0 h292 z0 (0 : Int32) (0 : Int32) (2 : Int32)) (fun v295 h296 qv295 => ?_)
            obtain ⟨rfl, rfl⟩ := qv295
            rw [show own_map (0 : Int32) (0 : Int32) (2 : Int32) = (2 : Int32) from rfl]
            show W K l _ n0 _ h292 7 16 180 #[.val (.long t0), .second, .val (.long t1), .second, .val (.int flags), .val (.int f), .val (.int gg), .val (.int (1 : Int32)), .val (.int (0 : Int32)), .val (.int (2 : Int32)), .val (.ref b230), .val (.int (1 : Int32)), .val (.int (0 : Int32)), .val (.int (1 : Int32)), .unset] [(.int (2 : Int32))]
            refine w_istore ok at_180 (L' := #[.val (.long t0), .second, .val (.long t1), .second, .val (.int flags), .val (.int f), .val (.int gg), .val (.int (1 : Int32)), .val (.int (0 : Int32)), .val (.int (2 : Int32)), .val (.ref b230), .val (.int (1 : Int32)), .val (.int (0 : Int32)), .val (.int (1 : Int32)), .val (.int (2 : Int32))]) rfl ?_
            refine w_aload ok at_182 rfl rfl ?_
            refine w_callV ok (y := (⟨"com/example/rowan/rowan/store/IdleHeap", "first", "()I"⟩ : MethodName)) (a := b230) (argsL := []) (rest := []) at_184 (hw _ (List.mem_of_getElem? (i := 72) rfl)) (hw _ (List.mem_of_getElem? (i := 73) rfl)) (hw _ (List.mem_of_getElem? (i := 75) rfl)) (hw _ (List.mem_of_getElem? (i := 74) rfl)) (hw _ (List.mem_of_getElem? (i := 2) rfl)) (hw _ (List.mem_of_getElem? (i := 76) rfl)) (by decide) A_b230.1 pd_2829I rfl rfl (by decide) (Nat.le_of_ble_eq_true rfl) (by decide) (by decide) (fun z0 => rm_first l Z a0 hw [] n0 h292 z0 b230 fen fti fsl sx290 ex290 gx290 τx290 A_b230 A_fen A_fti A_fsl ge_b230 ge_fen ge_fti ge_fsl nf_0 nf_1 nf_2 nf_3 nf_4 nf_5 (put (put (put (put (put (fun _ => none) 0 (some t0)) 1 (some t1)) 0 none) 2 (some t0)) 1 none) Px290 Hx290) (fun v297 h298 qv297 => ?_)
            obtain ⟨rfl, ⟨hs0, rfl⟩ | ⟨y, hy, hs, ey, rfl⟩⟩ := qv297
            · subst hs0; exact (own_none0 Px290 (y := 2) (by decide) rfl).elim
            · have my := (Px290.at hs hy ey).1
              obtain rfl | rfl | rfl | rfl : y = 0 ∨ y = 1 ∨ y = 2 ∨ y = 3 := by omega
              · cases (show none = some _ from my)
              · cases (show none = some _ from my)
              · skip
                show W K l _ n0 _ h292 7 16 187 #[.val (.long t0), .second, .val (.long t1), .second, .val (.int flags), .val (.int f), .val (.int gg), .val (.int (1 : Int32)), .val (.int (0 : Int32)), .val (.int (2 : Int32)), .val (.ref b230), .val (.int (1 : Int32)), .val (.int (0 : Int32)), .val (.int (1 : Int32)), .val (.int (2 : Int32))] [(.int (2 : Int32))]
                refine w_iload ok at_187 rfl ?_
                refine w_icmp_eq ok at_189 (pc' := 194) (by decide) (fun hc300 => ?_) (fun hc300 => False.elim (by revert hc300; decide))
                show W K l _ n0 _ h292 7 16 194 #[.val (.long t0), .second, .val (.long t1), .second, .val (.int flags), .val (.int f), .val (.int gg), .val (.int (1 : Int32)), .val (.int (0 : Int32)), .val (.int (2 : Int32)), .val (.ref b230), .val (.int (1 : Int32)), .val (.int (0 : Int32)), .val (.int (1 : Int32)), .val (.int (2 : Int32))] []
                refine w_iload ok at_194 rfl ?_
                refine w_iconst ok at_196 (v := (-1 : Int32)) rfl ?_
                refine w_icmp_eq ok at_197 (pc' := 218) (by decide) (fun hc302 => False.elim (by revert hc302; decide)) (fun hc302 => ?_)
                show W K l _ n0 _ h292 7 16 200 #[.val (.long t0), .second, .val (.long t1), .second, .val (.int flags), .val (.int f), .val (.int gg), .val (.int (1 : Int32)), .val (.int (0 : Int32)), .val (.int (2 : Int32)), .val (.ref b230), .val (.int (1 : Int32)), .val (.int (0 : Int32)), .val (.int (1 : Int32)), .val (.int (2 : Int32))] []
                refine w_aload ok at_200 rfl rfl ?_
                refine w_iload ok at_202 rfl ?_
                refine w_callV ok (y := (⟨"com/example/rowan/rowan/store/IdleHeap", "remove", "(I)V"⟩ : MethodName)) (a := b230) (argsL := [(.int (2 : Int32))]) (rest := []) at_204 (hw _ (List.mem_of_getElem? (i := 63) rfl)) (hw _ (List.mem_of_getElem? (i := 64) rfl)) (hw _ (List.mem_of_getElem? (i := 66) rfl)) (hw _ (List.mem_of_getElem? (i := 65) rfl)) (hw _ (List.mem_of_getElem? (i := 2) rfl)) (hw _ (List.mem_of_getElem? (i := 67) rfl)) (by decide) A_b230.1 pd_28I29V rfl rfl (by decide) (Nat.le_of_ble_eq_true rfl) (by decide) (by decide) (fun z0 => rm_remove l Z a0 hw [] n0 h292 z0 b230 fen fti fsl sx290 ex290 gx290 τx290 A_b230 A_fen A_fti A_fsl ge_b230 ge_fen ge_fti ge_fsl nf_0 nf_1 nf_2 nf_3 nf_4 nf_5 (put (put (put (put (put (fun _ => none) 0 (some t0)) 1 (some t1)) 0 none) 2 (some t0)) 1 none) Px290 Hx290 2 (by decide)) (fun v304 h305 qv304 => ?_)
                obtain ⟨rfl, sx303, ex303, gx303, τx303, K1, A0, A1, A2, A3, Px303, Hx303⟩ := qv304
                replace A_b230 : Ob Z h305 b230 "com/example/rowan/rowan/store/IdleHeap" fl_IdleHeap [(.ref fen), (.ref fti), (.ref fsl), (.int (Int32.ofNat sx303))] := A0
                replace A_fen := A1
                replace A_fti := A2
                replace A_fsl := A3
                show W K l _ n0 _ h305 7 16 207 #[.val (.long t0), .second, .val (.long t1), .second, .val (.int flags), .val (.int f), .val (.int gg), .val (.int (1 : Int32)), .val (.int (0 : Int32)), .val (.int (2 : Int32)), .val (.ref b230), .val (.int (1 : Int32)), .val (.int (0 : Int32)), .val (.int (1 : Int32)), .val (.int (2 : Int32))] []
                refine w_aload ok at_207 rfl rfl ?_
                refine w_callV ok (y := (⟨"com/example/rowan/rowan/store/IdleHeap", "first", "()I"⟩ : MethodName)) (a := b230) (argsL := []) (rest := []) at_209 (hw _ (List.mem_of_getElem? (i := 72) rfl)) (hw _ (List.mem_of_getElem? (i := 73) rfl)) (hw _ (List.mem_of_getElem? (i := 75) rfl)) (hw _ (List.mem_of_getElem? (i := 74) rfl)) (hw _ (List.mem_of_getElem? (i := 2) rfl)) (hw _ (List.mem_of_getElem? (i := 76) rfl)) (by decide) A_b230.1 pd_2829I rfl rfl (by decide) (Nat.le_of_ble_eq_true rfl) (by decide) (by decide) (fun z0 => rm_first l Z a0 hw [] n0 h305 z0 b230 fen fti fsl sx303 ex303 gx303 τx303 A_b230 A_fen A_fti A_fsl ge_b230 ge_fen ge_fti ge_fsl nf_0 nf_1 nf_2 nf_3 nf_4 nf_5 (put (put (put (put (put (put (fun _ => none) 0 (some t0)) 1 (some t1)) 0 none) 2 (some t0)) 1 none) 2 none) Px303 Hx303) (fun v306 h307 qv306 => ?_)
                obtain ⟨rfl, ⟨hs0, rfl⟩ | ⟨y, hy, hs, ey, rfl⟩⟩ := qv306
                · skip
                  show W K l _ n0 _ h305 7 16 212 #[.val (.long t0), .second, .val (.long t1), .second, .val (.int flags), .val (.int f), .val (.int gg), .val (.int (1 : Int32)), .val (.int (0 : Int32)), .val (.int (2 : Int32)), .val (.ref b230), .val (.int (1 : Int32)), .val (.int (0 : Int32)), .val (.int (1 : Int32)), .val (.int (2 : Int32))] [(.int (-1 : Int32))]
                  refine w_iconst ok at_212 (v := (-1 : Int32)) rfl ?_
                  refine w_icmp_eq ok at_213 (pc' := 218) (by decide) (fun hc309 => ?_) (fun hc309 => False.elim (by revert hc309; decide))
                  show W K l _ n0 _ h305 7 16 218 #[.val (.long t0), .second, .val (.long t1), .second, .val (.int flags), .val (.int f), .val (.int gg), .val (.int (1 : Int32)), .val (.int (0 : Int32)), .val (.int (2 : Int32)), .val (.ref b230), .val (.int (1 : Int32)), .val (.int (0 : Int32)), .val (.int (1 : Int32)), .val (.int (2 : Int32))] []
                  refine w_iconst ok at_218 (v := (1 : Int32)) rfl ?_
                  refine w_bret ok (by simp) at_219 (by decide) (by decide) ?_
                  exact rfl
                · have my := (Px303.at hs hy ey).1
                  obtain rfl | rfl | rfl | rfl : y = 0 ∨ y = 1 ∨ y = 2 ∨ y = 3 := by omega
                  · cases (show none = some _ from my)
                  · cases (show none = some _ from my)
                  · cases (show none = some _ from my)
                  · cases (show none = some _ from my)
              · cases (show none = some _ from my)
      · skip
        rw [eg]
        show W K l _ n0 _ h0 0 0 45 #[.val (.long t0), .second, .val (.long t1), .second, .val (.int flags), .val (.int f), .val (.int gg), .val (.int (1 : Int32)), .val (.int (0 : Int32)), .unset, .unset, .unset, .unset, .unset, .unset] [(.int (1 : Int32)), (.int (2 : Int32))]
        refine w_iadd ok at_45 ?_
        show W K l _ n0 _ h0 0 0 46 #[.val (.long t0), .second, .val (.long t1), .second, .val (.int flags), .val (.int f), .val (.int gg), .val (.int (1 : Int32)), .val (.int (0 : Int32)), .unset, .unset, .unset, .unset, .unset, .unset] [(.int (3 : Int32))]
        refine w_istore ok at_46 (L' := #[.val (.long t0), .second, .val (.long t1), .second, .val (.int flags), .val (.int f), .val (.int gg), .val (.int (1 : Int32)), .val (.int (0 : Int32)), .val (.int (3 : Int32)), .unset, .unset, .unset, .unset, .unset]) rfl ?_
        refine w_new ok at_48 (hw _ (List.mem_of_getElem? (i := 0) rfl)) (hw _ (List.mem_of_getElem? (i := 1) rfl)) (hw _ (List.mem_of_getElem? (i := 2) rfl)) (la_IdleHeap hw) (by decide) (by decide) (fun h311 b310 ea_b310 ge_b310 E_b310 A_b310 => ?_)
        replace A_b310 : Ob Z h311 b310 "com/example/rowan/rowan/store/IdleHeap" fl_IdleHeap [.null, .null, .null, (.int (0 : Int32))] := A_b310
        refine w_dup ok at_51 rfl ?_
        refine w_callI ok (y := (⟨"com/example/rowan/rowan/store/IdleHeap", "<init>", "()V"⟩ : MethodName)) (a := b310) (argsL := []) (rest := [(.ref b310)]) at_52 rfl (hw _ (List.mem_of_getElem? (i := 3) rfl)) (hw _ (List.mem_of_getElem? (i := 4) rfl)) (hw _ (List.mem_of_getElem? (i := 2) rfl)) (hw _ (List.mem_of_getElem? (i := 5) rfl)) (by decide) pd_2829V rfl rfl (by decide) (Nat.le_of_ble_eq_true rfl) (by decide) (by decide) (fun z0 => rm_ctor l Z a0 hw [] n0 h311 z0 b310 A_b310 ge_b310) (fun v312 h313 qv312 => ?_)
        obtain ⟨rfl, een, eti, esl, ⟨sz_een, sz_eti, sz_esl⟩, ⟨ge_een, ge_eti, ge_esl⟩, ⟨ne_0, ne_1, ne_2, ne_3, ne_4, ne_5⟩, K1, A1, A_een, A_eti, A_esl⟩ := qv312
        have ne_b310_een : b310 ≠ een := Nat.ne_of_lt (Nat.lt_of_lt_of_le A_b310.lt sz_een)
        have ne_b310_eti : b310 ≠ eti := Nat.ne_of_lt (Nat.lt_of_lt_of_le A_b310.lt sz_eti)
        have ne_b310_esl : b310 ≠ esl := Nat.ne_of_lt (Nat.lt_of_lt_of_le A_b310.lt sz_esl)
        replace A_b310 := A1
        show W K l _ n0 _ h313 4 4 55 #[.val (.long t0), .second, .val (.long t1), .second, .val (.int flags), .val (.int f), .val (.int gg), .val (.int (1 : Int32)), .val (.int (0 : Int32)), .val (.int (3 : Int32)), .unset, .unset, .unset, .unset, .unset] [(.ref b310)]
        refine w_astore ok at_55 rfl (L' := #[.val (.long t0), .second, .val (.long t1), .second, .val (.int flags), .val (.int f), .val (.int gg), .val (.int (1 : Int32)), .val (.int (0 : Int32)), .val (.int (3 : Int32)), .val (.ref b310), .unset, .unset, .unset, .unset]) rfl ?_
        refine w_aload ok at_57 rfl rfl ?_
        refine w_iconst ok at_59 (v := (4 : Int32)) rfl ?_
        refine w_callV ok (y := (⟨"com/example/rowan/rowan/store/IdleHeap", "resize", "(I)V"⟩ : MethodName)) (a := b310) (argsL := [(.int (4 : Int32))]) (rest := []) at_60 (hw _ (List.mem_of_getElem? (i := 17) rfl)) (hw _ (List.mem_of_getElem? (i := 18) rfl)) (hw _ (List.mem_of_getElem? (i := 20) rfl)) (hw _ (List.mem_of_getElem? (i := 19) rfl)) (hw _ (List.mem_of_getElem? (i := 2) rfl)) (hw _ (List.mem_of_getElem? (i := 21) rfl)) (by decide) A_b310.1 pd_28I29V rfl rfl (by decide) (Nat.le_of_ble_eq_true rfl) (by decide) (by decide) (fun z0 => rm_resize l Z a0 hw [] n0 h313 z0 b310 een eti esl A_b310 A_een A_eti A_esl ge_b310 ne_0 ne_1 ne_2 ne_3 ne_4 ne_5) (fun v314 h315 qv314 => ?_)
        obtain ⟨rfl, fen, fti, fsl, ⟨sz_fen, sz_fti, sz_fsl⟩, ⟨ge_fen, ge_fti, ge_fsl⟩, ⟨nf_0, nf_1, nf_2, nf_3, nf_4, nf_5⟩, K1, A1, A_fen, A_fti, A_fsl⟩ := qv314
        have ne_b310_fen : b310 ≠ fen := Nat.ne_of_lt (Nat.lt_of_lt_of_le A_b310.lt sz_fen)
        have ne_een_fen : een ≠ fen := Nat.ne_of_lt (Nat.lt_of_lt_of_le A_een.lt sz_fen)
        have ne_eti_fen : eti ≠ fen := Nat.ne_of_lt (Nat.lt_of_lt_of_le A_eti.lt sz_fen)
        have ne_esl_fen : esl ≠ fen := Nat.ne_of_lt (Nat.lt_of_lt_of_le A_esl.lt sz_fen)
        have ne_b310_fti : b310 ≠ fti := Nat.ne_of_lt (Nat.lt_of_lt_of_le A_b310.lt sz_fti)
        have ne_een_fti : een ≠ fti := Nat.ne_of_lt (Nat.lt_of_lt_of_le A_een.lt sz_fti)
        have ne_eti_fti : eti ≠ fti := Nat.ne_of_lt (Nat.lt_of_lt_of_le A_eti.lt sz_fti)
        have ne_esl_fti : esl ≠ fti := Nat.ne_of_lt (Nat.lt_of_lt_of_le A_esl.lt sz_fti)
        have ne_b310_fsl : b310 ≠ fsl := Nat.ne_of_lt (Nat.lt_of_lt_of_le A_b310.lt sz_fsl)
        have ne_een_fsl : een ≠ fsl := Nat.ne_of_lt (Nat.lt_of_lt_of_le A_een.lt sz_fsl)
        have ne_eti_fsl : eti ≠ fsl := Nat.ne_of_lt (Nat.lt_of_lt_of_le A_eti.lt sz_fsl)
        have ne_esl_fsl : esl ≠ fsl := Nat.ne_of_lt (Nat.lt_of_lt_of_le A_esl.lt sz_fsl)
        replace A_een := A_een.keep K1 (ninS (Ne.symm ne_0) nin0)
        replace A_eti := A_eti.keep K1 (ninS (Ne.symm ne_1) nin0)
        replace A_esl := A_esl.keep K1 (ninS (Ne.symm ne_2) nin0)
        replace A_b310 := A1
        show W K l _ n0 _ h315 7 16 63 #[.val (.long t0), .second, .val (.long t1), .second, .val (.int flags), .val (.int f), .val (.int gg), .val (.int (1 : Int32)), .val (.int (0 : Int32)), .val (.int (3 : Int32)), .val (.ref b310), .unset, .unset, .unset, .unset] []
        refine w_aload ok at_63 rfl rfl ?_
        refine w_iconst ok at_65 (v := (0 : Int32)) rfl ?_
        refine w_lloadN ok at_66 rfl ?_
        refine w_callV ok (y := (⟨"com/example/rowan/rowan/store/IdleHeap", "add", "(IJ)V"⟩ : MethodName)) (a := b310) (argsL := [(.int (0 : Int32)), (.long t0)]) (rest := []) at_67 (hw _ (List.mem_of_getElem? (i := 43) rfl)) (hw _ (List.mem_of_getElem? (i := 44) rfl)) (hw _ (List.mem_of_getElem? (i := 46) rfl)) (hw _ (List.mem_of_getElem? (i := 45) rfl)) (hw _ (List.mem_of_getElem? (i := 2) rfl)) (hw _ (List.mem_of_getElem? (i := 47) rfl)) (by decide) A_b310.1 pd_28IJ29V rfl rfl (by decide) (Nat.le_of_ble_eq_true rfl) (by decide) (by decide) (fun z0 => rm_add l Z a0 hw [] n0 h315 z0 b310 fen fti fsl 0 (fun _ => 0) (fun _ => -1) (fun _ => 0) A_b310 A_fen A_fti A_fsl ge_b310 ge_fen ge_fti ge_fsl nf_0 nf_1 nf_2 nf_3 nf_4 nf_5 (fun _ => none) own_pp0 own_ho0 0 t0 (by decide) rfl (by decide)) (fun v316 h317 qv316 => ?_)
        obtain ⟨rfl, e1, g1, τ1, K1, A0, A1, A2, A3, P1, H1, E1⟩ := qv316
        replace A_b310 : Ob Z h317 b310 "com/example/rowan/rowan/store/IdleHeap" fl_IdleHeap [(.ref fen), (.ref fti), (.ref fsl), (.int (1 : Int32))] := A0
        replace A_fen := A1
        replace A_fti := A2
        replace A_fsl := A3
        show W K l _ n0 _ h317 7 16 70 #[.val (.long t0), .second, .val (.long t1), .second, .val (.int flags), .val (.int f), .val (.int gg), .val (.int (1 : Int32)), .val (.int (0 : Int32)), .val (.int (3 : Int32)), .val (.ref b310), .unset, .unset, .unset, .unset] []
        refine w_iload ok at_70 rfl ?_
        refine w_if_eq ok at_72 (pc' := 82) (by decide) (fun hc319 => False.elim (by revert hc319; decide)) (fun hc319 => ?_)
        show W K l _ n0 _ h317 7 16 75 #[.val (.long t0), .second, .val (.long t1), .second, .val (.int flags), .val (.int f), .val (.int gg), .val (.int (1 : Int32)), .val (.int (0 : Int32)), .val (.int (3 : Int32)), .val (.ref b310), .unset, .unset, .unset, .unset] []
        refine w_aload ok at_75 rfl rfl ?_
        refine w_iconst ok at_77 (v := (1 : Int32)) rfl ?_
        refine w_lloadN ok at_78 rfl ?_
        refine w_callV ok (y := (⟨"com/example/rowan/rowan/store/IdleHeap", "add", "(IJ)V"⟩ : MethodName)) (a := b310) (argsL := [(.int (1 : Int32)), (.long t1)]) (rest := []) at_79 (hw _ (List.mem_of_getElem? (i := 43) rfl)) (hw _ (List.mem_of_getElem? (i := 44) rfl)) (hw _ (List.mem_of_getElem? (i := 46) rfl)) (hw _ (List.mem_of_getElem? (i := 45) rfl)) (hw _ (List.mem_of_getElem? (i := 2) rfl)) (hw _ (List.mem_of_getElem? (i := 47) rfl)) (by decide) A_b310.1 pd_28IJ29V rfl rfl (by decide) (Nat.le_of_ble_eq_true rfl) (by decide) (by decide) (fun z0 => rm_add l Z a0 hw [] n0 h317 z0 b310 fen fti fsl 1 e1 g1 τ1 A_b310 A_fen A_fti A_fsl ge_b310 ge_fen ge_fti ge_fsl nf_0 nf_1 nf_2 nf_3 nf_4 nf_5 (put (fun _ => none) 0 (some t0)) P1 H1 1 t1 (by decide) rfl (by decide)) (fun v320 h321 qv320 => ?_)
        obtain ⟨rfl, e2, g2, τ2, K1, A0, A1, A2, A3, P2, H2, E2⟩ := qv320
        replace A_b310 : Ob Z h321 b310 "com/example/rowan/rowan/store/IdleHeap" fl_IdleHeap [(.ref fen), (.ref fti), (.ref fsl), (.int (2 : Int32))] := A0
        replace A_fen := A1
        replace A_fti := A2
        replace A_fsl := A3
        show W K l _ n0 _ h321 7 16 82 #[.val (.long t0), .second, .val (.long t1), .second, .val (.int flags), .val (.int f), .val (.int gg), .val (.int (1 : Int32)), .val (.int (0 : Int32)), .val (.int (3 : Int32)), .val (.ref b310), .unset, .unset, .unset, .unset] []
        refine w_iload ok at_82 rfl ?_
        refine w_if_eq ok at_84 (pc' := 97) (by decide) (fun hc323 => False.elim (by revert hc323; decide)) (fun hc323 => ?_)
        show W K l _ n0 _ h321 7 16 87 #[.val (.long t0), .second, .val (.long t1), .second, .val (.int flags), .val (.int f), .val (.int gg), .val (.int (1 : Int32)), .val (.int (0 : Int32)), .val (.int (3 : Int32)), .val (.ref b310), .unset, .unset, .unset, .unset] []
        refine w_lloadN ok at_87 rfl ?_
        refine w_lloadN ok at_88 rfl ?_
        refine w_lcmp_ge ok at_89 at_90 (pc' := 97) (by decide) (fun hc325 => ?_) (fun hc325 => ?_)
        · show W K l _ n0 _ h321 7 16 97 #[.val (.long t0), .second, .val (.long t1), .second, .val (.int flags), .val (.int f), .val (.int gg), .val (.int (1 : Int32)), .val (.int (0 : Int32)), .val (.int (3 : Int32)), .val (.ref b310), .unset, .unset, .unset, .unset] []
          refine w_iconst ok at_97 (v := (0 : Int32)) rfl ?_
          show W K l _ n0 _ h321 7 16 98 #[.val (.long t0), .second, .val (.long t1), .second, .val (.int flags), .val (.int f), .val (.int gg), .val (.int (1 : Int32)), .val (.int (0 : Int32)), .val (.int (3 : Int32)), .val (.ref b310), .unset, .unset, .unset, .unset] [(.int (0 : Int32))]
          obtain ⟨o1, o2⟩ := own_one P1
          have E : e2 0 = Int32.ofNat 0 := (E2 (by rw [o2]; exact hc325) (by decide)).trans o1
          refine w_istore ok at_98 (L' := #[.val (.long t0), .second, .val (.long t1), .second, .val (.int flags), .val (.int f), .val (.int gg), .val (.int (1 : Int32)), .val (.int (0 : Int32)), .val (.int (3 : Int32)), .val (.ref b310), .val (.int (0 : Int32)), .unset, .unset, .unset]) rfl ?_
          refine w_iload ok at_100 rfl ?_
          refine w_if_eq ok at_102 (pc' := 112) (by decide) (fun hc327 => False.elim (by revert hc327; decide)) (fun hc327 => ?_)
          show W K l _ n0 _ h321 7 16 105 #[.val (.long t0), .second, .val (.long t1), .second, .val (.int flags), .val (.int f), .val (.int gg), .val (.int (1 : Int32)), .val (.int (0 : Int32)), .val (.int (3 : Int32)), .val (.ref b310), .val (.int (0 : Int32)), .unset, .unset, .unset] []
          refine w_iconst ok at_105 (v := (1 : Int32)) rfl ?_
          refine w_iload ok at_106 rfl ?_
          refine w_isub ok at_108 ?_
          show W K l _ n0 _ h321 7 16 109 #[.val (.long t0), .second, .val (.long t1), .second, .val (.int flags), .val (.int f), .val (.int gg), .val (.int (1 : Int32)), .val (.int (0 : Int32)), .val (.int (3 : Int32)), .val (.ref b310), .val (.int (0 : Int32)), .unset, .unset, .unset] [(.int (1 : Int32))]
          refine w_goto ok at_109 (pc' := 113) (by decide) ?_
          refine w_istore ok at_113 (L' := #[.val (.long t0), .second, .val (.long t1), .second, .val (.int flags), .val (.int f), .val (.int gg), .val (.int (1 : Int32)), .val (.int (0 : Int32)), .val (.int (3 : Int32)), .val (.ref b310), .val (.int (0 : Int32)), .val (.int (1 : Int32)), .unset, .unset]) rfl ?_
          refine w_aload ok at_115 rfl rfl ?_
          refine w_iload ok at_117 rfl ?_
          refine w_iload ok at_119 rfl ?_
          refine w_callV ok (y := (⟨"com/example/rowan/rowan/store/IdleHeap", "renumber", "(II)V"⟩ : MethodName)) (a := b310) (argsL := [(.int (0 : Int32)), (.int (3 : Int32))]) (rest := []) at_121 (hw _ (List.mem_of_getElem? (i := 58) rfl)) (hw _ (List.mem_of_getElem? (i := 59) rfl)) (hw _ (List.mem_of_getElem? (i := 61) rfl)) (hw _ (List.mem_of_getElem? (i := 60) rfl)) (hw _ (List.mem_of_getElem? (i := 2) rfl)) (hw _ (List.mem_of_getElem? (i := 62) rfl)) (by decide) A_b310.1 pd_28II29V rfl rfl (by decide) (Nat.le_of_ble_eq_true rfl) (by decide) (by decide) (fun z0 => rm_ren1 l Z a0 hw [] n0 h321 z0 b310 fen fti fsl 2 e2 g2 τ2 A_b310 A_fen A_fti A_fsl ge_b310 ge_fen ge_fti ge_fsl nf_0 nf_1 nf_2 nf_3 nf_4 nf_5 (put (put (fun _ => none) 0 (some t0)) 1 (some t1)) P2 H2 0 3 t0 (by decide) (by decide) rfl rfl) (fun v328 h329 qv328 => ?_)
          obtain ⟨rfl, e3, g3, τ3, K1, A0, A1, A2, A3, P3, H3, r1, r2⟩ := qv328
          replace A_b310 : Ob Z h329 b310 "com/example/rowan/rowan/store/IdleHeap" fl_IdleHeap [(.ref fen), (.ref fti), (.ref fsl), (.int (2 : Int32))] := A0
          replace A_fen := A1
          replace A_fti := A2
          replace A_fsl := A3
          replace E := r1 E
          show W K l _ n0 _ h329 7 16 124 #[.val (.long t0), .second, .val (.long t1), .second, .val (.int flags), .val (.int f), .val (.int gg), .val (.int (1 : Int32)), .val (.int (0 : Int32)), .val (.int (3 : Int32)), .val (.ref b310), .val (.int (0 : Int32)), .val (.int (1 : Int32)), .unset, .unset] []
          refine w_aload ok at_124 rfl rfl ?_
          refine w_iload ok at_126 rfl ?_
          refine w_callV ok (y := (⟨"com/example/rowan/rowan/store/IdleHeap", "remove", "(I)V"⟩ : MethodName)) (a := b310) (argsL := [(.int (0 : Int32))]) (rest := []) at_128 (hw _ (List.mem_of_getElem? (i := 63) rfl)) (hw _ (List.mem_of_getElem? (i := 64) rfl)) (hw _ (List.mem_of_getElem? (i := 66) rfl)) (hw _ (List.mem_of_getElem? (i := 65) rfl)) (hw _ (List.mem_of_getElem? (i := 2) rfl)) (hw _ (List.mem_of_getElem? (i := 67) rfl)) (by decide) A_b310.1 pd_28I29V rfl rfl (by decide) (Nat.le_of_ble_eq_true rfl) (by decide) (by decide) (fun z0 => rm_remove0 l Z a0 hw [] n0 h329 z0 b310 fen fti fsl 2 e3 g3 τ3 A_b310 A_fen A_fti A_fsl ge_b310 ge_fen ge_fti ge_fsl nf_0 nf_1 nf_2 nf_3 nf_4 nf_5 (put (put (put (put (fun _ => none) 0 (some t0)) 1 (some t1)) 0 none) 3 (some t0)) P3 H3 0 (by decide) rfl) (fun v330 h331 qv330 => ?_)
          obtain ⟨rfl, rfl⟩ := qv330
          show W K l _ n0 _ h329 7 16 131 #[.val (.long t0), .second, .val (.long t1), .second, .val (.int flags), .val (.int f), .val (.int gg), .val (.int (1 : Int32)), .val (.int (0 : Int32)), .val (.int (3 : Int32)), .val (.ref b310), .val (.int (0 : Int32)), .val (.int (1 : Int32)), .unset, .unset] []
          refine w_iload ok at_131 rfl ?_
          refine w_iload ok at_133 rfl ?_
          refine w_iload ok at_135 rfl ?_
          refine w_callS ok (y := (⟨"com/example/rowan/rowan/store/IdleHeapRenumberPinLaw", "map", "(III)I"⟩ : MethodName)) (argsL := [(.int (0 : Int32)), (.int (0 : Int32)), (.int (3 : Int32))]) (rest := []) at_137 (hw _ (List.mem_of_getElem? (i := 68) rfl)) (hw _ (List.mem_of_getElem? (i := 69) rfl)) (hw _ (List.mem_of_getElem? (i := 70) rfl)) (hw _ (List.mem_of_getElem? (i := 71) rfl)) (by decide) pd_28III29I rfl rfl (by decide) (Nat.le_of_ble_eq_true rfl) (by decide) (by decide) (fun z0 => rm_map l Z a0 hw [] n0 h329 z0 (0 : Int32) (0 : Int32) (3 : Int32)) (fun v332 h333 qv332 => ?_)
          obtain ⟨rfl, rfl⟩ := qv332
          rw [show own_map (0 : Int32) (0 : Int32) (3 : Int32) = (3 : Int32) from rfl]
          show W K l _ n0 _ h329 7 16 140 #[.val (.long t0), .second, .val (.long t1), .second, .val (.int flags), .val (.int f), .val (.int gg), .val (.int (1 : Int32)), .val (.int (0 : Int32)), .val (.int (3 : Int32)), .val (.ref b310), .val (.int (0 : Int32)), .val (.int (1 : Int32)), .unset, .unset] [(.int (3 : Int32))]
          refine w_istore ok at_140 (L' := #[.val (.long t0), .second, .val (.long t1), .second, .val (.int flags), .val (.int f), .val (.int gg), .val (.int (1 : Int32)), .val (.int (0 : Int32)), .val (.int (3 : Int32)), .val (.ref b310), .val (.int (0 : Int32)), .val (.int (1 : Int32)), .val (.int (3 : Int32)), .unset]) rfl ?_
          refine w_aload ok at_142 rfl rfl ?_
          refine w_callV ok (y := (⟨"com/example/rowan/rowan/store/IdleHeap", "first", "()I"⟩ : MethodName)) (a := b310) (argsL := []) (rest := []) at_144 (hw _ (List.mem_of_getElem? (i := 72) rfl)) (hw _ (List.mem_of_getElem? (i := 73) rfl)) (hw _ (List.mem_of_getElem? (i := 75) rfl)) (hw _ (List.mem_of_getElem? (i := 74) rfl)) (hw _ (List.mem_of_getElem? (i := 2) rfl)) (hw _ (List.mem_of_getElem? (i := 76) rfl)) (by decide) A_b310.1 pd_2829I rfl rfl (by decide) (Nat.le_of_ble_eq_true rfl) (by decide) (by decide) (fun z0 => rm_first l Z a0 hw [] n0 h329 z0 b310 fen fti fsl 2 e3 g3 τ3 A_b310 A_fen A_fti A_fsl ge_b310 ge_fen ge_fti ge_fsl nf_0 nf_1 nf_2 nf_3 nf_4 nf_5 (put (put (put (put (fun _ => none) 0 (some t0)) 1 (some t1)) 0 none) 3 (some t0)) P3 H3) (fun v334 h335 qv334 => ?_)
          obtain ⟨rfl, ⟨hs0, rfl⟩ | ⟨y, hy, hs, ey, rfl⟩⟩ := qv334
          · exact absurd hs0 (by decide)
          · skip
            obtain rfl : y = 3 := own_inj hy (by decide) (ey.symm.trans E)
            show W K l _ n0 _ h329 7 16 147 #[.val (.long t0), .second, .val (.long t1), .second, .val (.int flags), .val (.int f), .val (.int gg), .val (.int (1 : Int32)), .val (.int (0 : Int32)), .val (.int (3 : Int32)), .val (.ref b310), .val (.int (0 : Int32)), .val (.int (1 : Int32)), .val (.int (3 : Int32)), .unset] [(.int (3 : Int32))]
            refine w_iload ok at_147 rfl ?_
            refine w_icmp_eq ok at_149 (pc' := 154) (by decide) (fun hc337 => ?_) (fun hc337 => False.elim (by revert hc337; decide))
            show W K l _ n0 _ h329 7 16 154 #[.val (.long t0), .second, .val (.long t1), .second, .val (.int flags), .val (.int f), .val (.int gg), .val (.int (1 : Int32)), .val (.int (0 : Int32)), .val (.int (3 : Int32)), .val (.ref b310), .val (.int (0 : Int32)), .val (.int (1 : Int32)), .val (.int (3 : Int32)), .unset] []
            refine w_aload ok at_154 rfl rfl ?_
            refine w_iload ok at_156 rfl ?_
            refine w_callV ok (y := (⟨"com/example/rowan/rowan/store/IdleHeap", "remove", "(I)V"⟩ : MethodName)) (a := b310) (argsL := [(.int (3 : Int32))]) (rest := []) at_158 (hw _ (List.mem_of_getElem? (i := 63) rfl)) (hw _ (List.mem_of_getElem? (i := 64) rfl)) (hw _ (List.mem_of_getElem? (i := 66) rfl)) (hw _ (List.mem_of_getElem? (i := 65) rfl)) (hw _ (List.mem_of_getElem? (i := 2) rfl)) (hw _ (List.mem_of_getElem? (i := 67) rfl)) (by decide) A_b310.1 pd_28I29V rfl rfl (by decide) (Nat.le_of_ble_eq_true rfl) (by decide) (by decide) (fun z0 => rm_remove l Z a0 hw [] n0 h329 z0 b310 fen fti fsl 2 e3 g3 τ3 A_b310 A_fen A_fti A_fsl ge_b310 ge_fen ge_fti ge_fsl nf_0 nf_1 nf_2 nf_3 nf_4 nf_5 (put (put (put (put (fun _ => none) 0 (some t0)) 1 (some t1)) 0 none) 3 (some t0)) P3 H3 3 (by decide)) (fun v339 h340 qv339 => ?_)
            obtain ⟨rfl, sx338, ex338, gx338, τx338, K1, A0, A1, A2, A3, Px338, Hx338⟩ := qv339
            replace A_b310 : Ob Z h340 b310 "com/example/rowan/rowan/store/IdleHeap" fl_IdleHeap [(.ref fen), (.ref fti), (.ref fsl), (.int (Int32.ofNat sx338))] := A0
            replace A_fen := A1
            replace A_fti := A2
            replace A_fsl := A3
            show W K l _ n0 _ h340 7 16 161 #[.val (.long t0), .second, .val (.long t1), .second, .val (.int flags), .val (.int f), .val (.int gg), .val (.int (1 : Int32)), .val (.int (0 : Int32)), .val (.int (3 : Int32)), .val (.ref b310), .val (.int (0 : Int32)), .val (.int (1 : Int32)), .val (.int (3 : Int32)), .unset] []
            refine w_iload ok at_161 rfl ?_
            refine w_iconst ok at_163 (v := (-1 : Int32)) rfl ?_
            refine w_icmp_ne ok at_164 (pc' := 171) (by decide) (fun hc342 => ?_) (fun hc342 => False.elim (by revert hc342; decide))
            show W K l _ n0 _ h340 7 16 171 #[.val (.long t0), .second, .val (.long t1), .second, .val (.int flags), .val (.int f), .val (.int gg), .val (.int (1 : Int32)), .val (.int (0 : Int32)), .val (.int (3 : Int32)), .val (.ref b310), .val (.int (0 : Int32)), .val (.int (1 : Int32)), .val (.int (3 : Int32)), .unset] []
            refine w_iload ok at_171 rfl ?_
            refine w_iload ok at_173 rfl ?_
            refine w_iload ok at_175 rfl ?_
            refine w_callS ok (y := (⟨"com/example/rowan/rowan/store/IdleHeapRenumberPinLaw", "map", "(III)I"⟩ : MethodName)) (argsL := [(.int (1 : Int32)), (.int (0 : Int32)), (.int (3 : Int32))]) (rest := []) at_177 (hw _ (List.mem_of_getElem? (i := 68) rfl)) (hw _ (List.mem_of_getElem? (i := 69) rfl)) (hw _ (List.mem_of_getElem? (i := 70) rfl)) (hw _ (List.mem_of_getElem? (i := 71) rfl)) (by decide) pd_28III29I rfl rfl (by decide) (Nat.le_of_ble_eq_true rfl) (by decide) (by decide) (fun z0 => rm_map l Z a0 hw [] n0 h340 z0 (1 : Int32) (0 : Int32) (3 : Int32)) (fun v343 h344 qv343 => ?_)
            obtain ⟨rfl, rfl⟩ := qv343
            rw [show own_map (1 : Int32) (0 : Int32) (3 : Int32) = (1 : Int32) from rfl]
            show W K l _ n0 _ h340 7 16 180 #[.val (.long t0), .second, .val (.long t1), .second, .val (.int flags), .val (.int f), .val (.int gg), .val (.int (1 : Int32)), .val (.int (0 : Int32)), .val (.int (3 : Int32)), .val (.ref b310), .val (.int (0 : Int32)), .val (.int (1 : Int32)), .val (.int (3 : Int32)), .unset] [(.int (1 : Int32))]
            refine w_istore ok at_180 (L' := #[.val (.long t0), .second, .val (.long t1), .second, .val (.int flags), .val (.int f), .val (.int gg), .val (.int (1 : Int32)), .val (.int (0 : Int32)), .val (.int (3 : Int32)), .val (.ref b310), .val (.int (0 : Int32)), .val (.int (1 : Int32)), .val (.int (3 : Int32)), .val (.int (1 : Int32))]) rfl ?_
            refine w_aload ok at_182 rfl rfl ?_
            refine w_callV ok (y := (⟨"com/example/rowan/rowan/store/IdleHeap", "first", "()I"⟩ : MethodName)) (a := b310) (argsL := []) (rest := []) at_184 (hw _ (List.mem_of_getElem? (i := 72) rfl)) (hw _ (List.mem_of_getElem? (i := 73) rfl)) (hw _ (List.mem_of_getElem? (i := 75) rfl)) (hw _ (List.mem_of_getElem? (i := 74) rfl)) (hw _ (List.mem_of_getElem? (i := 2) rfl)) (hw _ (List.mem_of_getElem? (i := 76) rfl)) (by decide) A_b310.1 pd_2829I rfl rfl (by decide) (Nat.le_of_ble_eq_true rfl) (by decide) (by decide) (fun z0 => rm_first l Z a0 hw [] n0 h340 z0 b310 fen fti fsl sx338 ex338 gx338 τx338 A_b310 A_fen A_fti A_fsl ge_b310 ge_fen ge_fti ge_fsl nf_0 nf_1 nf_2 nf_3 nf_4 nf_5 (put (put (put (put (put (fun _ => none) 0 (some t0)) 1 (some t1)) 0 none) 3 (some t0)) 3 none) Px338 Hx338) (fun v345 h346 qv345 => ?_)
            obtain ⟨rfl, ⟨hs0, rfl⟩ | ⟨y, hy, hs, ey, rfl⟩⟩ := qv345
            · subst hs0; exact (own_none0 Px338 (y := 1) (by decide) rfl).elim
            · have my := (Px338.at hs hy ey).1
              obtain rfl | rfl | rfl | rfl : y = 0 ∨ y = 1 ∨ y = 2 ∨ y = 3 := by omega
              · cases (show none = some _ from my)
              · skip
                show W K l _ n0 _ h340 7 16 187 #[.val (.long t0), .second, .val (.long t1), .second, .val (.int flags), .val (.int f), .val (.int gg), .val (.int (1 : Int32)), .val (.int (0 : Int32)), .val (.int (3 : Int32)), .val (.ref b310), .val (.int (0 : Int32)), .val (.int (1 : Int32)), .val (.int (3 : Int32)), .val (.int (1 : Int32))] [(.int (1 : Int32))]
                refine w_iload ok at_187 rfl ?_
                refine w_icmp_eq ok at_189 (pc' := 194) (by decide) (fun hc348 => ?_) (fun hc348 => False.elim (by revert hc348; decide))
                show W K l _ n0 _ h340 7 16 194 #[.val (.long t0), .second, .val (.long t1), .second, .val (.int flags), .val (.int f), .val (.int gg), .val (.int (1 : Int32)), .val (.int (0 : Int32)), .val (.int (3 : Int32)), .val (.ref b310), .val (.int (0 : Int32)), .val (.int (1 : Int32)), .val (.int (3 : Int32)), .val (.int (1 : Int32))] []
                refine w_iload ok at_194 rfl ?_
                refine w_iconst ok at_196 (v := (-1 : Int32)) rfl ?_
                refine w_icmp_eq ok at_197 (pc' := 218) (by decide) (fun hc350 => False.elim (by revert hc350; decide)) (fun hc350 => ?_)
                show W K l _ n0 _ h340 7 16 200 #[.val (.long t0), .second, .val (.long t1), .second, .val (.int flags), .val (.int f), .val (.int gg), .val (.int (1 : Int32)), .val (.int (0 : Int32)), .val (.int (3 : Int32)), .val (.ref b310), .val (.int (0 : Int32)), .val (.int (1 : Int32)), .val (.int (3 : Int32)), .val (.int (1 : Int32))] []
                refine w_aload ok at_200 rfl rfl ?_
                refine w_iload ok at_202 rfl ?_
                refine w_callV ok (y := (⟨"com/example/rowan/rowan/store/IdleHeap", "remove", "(I)V"⟩ : MethodName)) (a := b310) (argsL := [(.int (1 : Int32))]) (rest := []) at_204 (hw _ (List.mem_of_getElem? (i := 63) rfl)) (hw _ (List.mem_of_getElem? (i := 64) rfl)) (hw _ (List.mem_of_getElem? (i := 66) rfl)) (hw _ (List.mem_of_getElem? (i := 65) rfl)) (hw _ (List.mem_of_getElem? (i := 2) rfl)) (hw _ (List.mem_of_getElem? (i := 67) rfl)) (by decide) A_b310.1 pd_28I29V rfl rfl (by decide) (Nat.le_of_ble_eq_true rfl) (by decide) (by decide) (fun z0 => rm_remove l Z a0 hw [] n0 h340 z0 b310 fen fti fsl sx338 ex338 gx338 τx338 A_b310 A_fen A_fti A_fsl ge_b310 ge_fen ge_fti ge_fsl nf_0 nf_1 nf_2 nf_3 nf_4 nf_5 (put (put (put (put (put (fun _ => none) 0 (some t0)) 1 (some t1)) 0 none) 3 (some t0)) 3 none) Px338 Hx338 1 (by decide)) (fun v352 h353 qv352 => ?_)
                obtain ⟨rfl, sx351, ex351, gx351, τx351, K1, A0, A1, A2, A3, Px351, Hx351⟩ := qv352
                replace A_b310 : Ob Z h353 b310 "com/example/rowan/rowan/store/IdleHeap" fl_IdleHeap [(.ref fen), (.ref fti), (.ref fsl), (.int (Int32.ofNat sx351))] := A0
                replace A_fen := A1
                replace A_fti := A2
                replace A_fsl := A3
                show W K l _ n0 _ h353 7 16 207 #[.val (.long t0), .second, .val (.long t1), .second, .val (.int flags), .val (.int f), .val (.int gg), .val (.int (1 : Int32)), .val (.int (0 : Int32)), .val (.int (3 : Int32)), .val (.ref b310), .val (.int (0 : Int32)), .val (.int (1 : Int32)), .val (.int (3 : Int32)), .val (.int (1 : Int32))] []
                refine w_aload ok at_207 rfl rfl ?_
                refine w_callV ok (y := (⟨"com/example/rowan/rowan/store/IdleHeap", "first", "()I"⟩ : MethodName)) (a := b310) (argsL := []) (rest := []) at_209 (hw _ (List.mem_of_getElem? (i := 72) rfl)) (hw _ (List.mem_of_getElem? (i := 73) rfl)) (hw _ (List.mem_of_getElem? (i := 75) rfl)) (hw _ (List.mem_of_getElem? (i := 74) rfl)) (hw _ (List.mem_of_getElem? (i := 2) rfl)) (hw _ (List.mem_of_getElem? (i := 76) rfl)) (by decide) A_b310.1 pd_2829I rfl rfl (by decide) (Nat.le_of_ble_eq_true rfl) (by decide) (by decide) (fun z0 => rm_first l Z a0 hw [] n0 h353 z0 b310 fen fti fsl sx351 ex351 gx351 τx351 A_b310 A_fen A_fti A_fsl ge_b310 ge_fen ge_fti ge_fsl nf_0 nf_1 nf_2 nf_3 nf_4 nf_5 (put (put (put (put (put (put (fun _ => none) 0 (some t0)) 1 (some t1)) 0 none) 3 (some t0)) 3 none) 1 none) Px351 Hx351) (fun v354 h355 qv354 => ?_)
                obtain ⟨rfl, ⟨hs0, rfl⟩ | ⟨y, hy, hs, ey, rfl⟩⟩ := qv354
                · skip
                  show W K l _ n0 _ h353 7 16 212 #[.val (.long t0), .second, .val (.long t1), .second, .val (.int flags), .val (.int f), .val (.int gg), .val (.int (1 : Int32)), .val (.int (0 : Int32)), .val (.int (3 : Int32)), .val (.ref b310), .val (.int (0 : Int32)), .val (.int (1 : Int32)), .val (.int (3 : Int32)), .val (.int (1 : Int32))] [(.int (-1 : Int32))]
                  refine w_iconst ok at_212 (v := (-1 : Int32)) rfl ?_
                  refine w_icmp_eq ok at_213 (pc' := 218) (by decide) (fun hc357 => ?_) (fun hc357 => False.elim (by revert hc357; decide))
                  show W K l _ n0 _ h353 7 16 218 #[.val (.long t0), .second, .val (.long t1), .second, .val (.int flags), .val (.int f), .val (.int gg), .val (.int (1 : Int32)), .val (.int (0 : Int32)), .val (.int (3 : Int32)), .val (.ref b310), .val (.int (0 : Int32)), .val (.int (1 : Int32)), .val (.int (3 : Int32)), .val (.int (1 : Int32))] []
                  refine w_iconst ok at_218 (v := (1 : Int32)) rfl ?_
                  refine w_bret ok (by simp) at_219 (by decide) (by decide) ?_
                  exact rfl
                · have my := (Px351.at hs hy ey).1
                  obtain rfl | rfl | rfl | rfl : y = 0 ∨ y = 1 ∨ y = 2 ∨ y = 3 := by omega
                  · cases (show none = some _ from my)
                  · cases (show none = some _ from my)
                  · cases (show none = some _ from my)
                  · cases (show none = some _ from my)
              · cases (show none = some _ from my)
              · cases (show none = some _ from my)
        · show W K l _ n0 _ h321 7 16 93 #[.val (.long t0), .second, .val (.long t1), .second, .val (.int flags), .val (.int f), .val (.int gg), .val (.int (1 : Int32)), .val (.int (0 : Int32)), .val (.int (3 : Int32)), .val (.ref b310), .unset, .unset, .unset, .unset] []
          refine w_iconst ok at_93 (v := (1 : Int32)) rfl ?_
          refine w_goto ok at_94 (pc' := 98) (by decide) ?_
          show W K l _ n0 _ h321 7 16 98 #[.val (.long t0), .second, .val (.long t1), .second, .val (.int flags), .val (.int f), .val (.int gg), .val (.int (1 : Int32)), .val (.int (0 : Int32)), .val (.int (3 : Int32)), .val (.ref b310), .unset, .unset, .unset, .unset] [(.int (1 : Int32))]
          obtain ⟨o1, o2⟩ := own_one P1
          have E : e2 0 = Int32.ofNat 1 := own_two P2 H2 hc325
          refine w_istore ok at_98 (L' := #[.val (.long t0), .second, .val (.long t1), .second, .val (.int flags), .val (.int f), .val (.int gg), .val (.int (1 : Int32)), .val (.int (0 : Int32)), .val (.int (3 : Int32)), .val (.ref b310), .val (.int (1 : Int32)), .unset, .unset, .unset]) rfl ?_
          refine w_iload ok at_100 rfl ?_
          refine w_if_eq ok at_102 (pc' := 112) (by decide) (fun hc359 => False.elim (by revert hc359; decide)) (fun hc359 => ?_)
          show W K l _ n0 _ h321 7 16 105 #[.val (.long t0), .second, .val (.long t1), .second, .val (.int flags), .val (.int f), .val (.int gg), .val (.int (1 : Int32)), .val (.int (0 : Int32)), .val (.int (3 : Int32)), .val (.ref b310), .val (.int (1 : Int32)), .unset, .unset, .unset] []
          refine w_iconst ok at_105 (v := (1 : Int32)) rfl ?_
          refine w_iload ok at_106 rfl ?_
          refine w_isub ok at_108 ?_
          show W K l _ n0 _ h321 7 16 109 #[.val (.long t0), .second, .val (.long t1), .second, .val (.int flags), .val (.int f), .val (.int gg), .val (.int (1 : Int32)), .val (.int (0 : Int32)), .val (.int (3 : Int32)), .val (.ref b310), .val (.int (1 : Int32)), .unset, .unset, .unset] [(.int (0 : Int32))]
          refine w_goto ok at_109 (pc' := 113) (by decide) ?_
          refine w_istore ok at_113 (L' := #[.val (.long t0), .second, .val (.long t1), .second, .val (.int flags), .val (.int f), .val (.int gg), .val (.int (1 : Int32)), .val (.int (0 : Int32)), .val (.int (3 : Int32)), .val (.ref b310), .val (.int (1 : Int32)), .val (.int (0 : Int32)), .unset, .unset]) rfl ?_
          refine w_aload ok at_115 rfl rfl ?_
          refine w_iload ok at_117 rfl ?_
          refine w_iload ok at_119 rfl ?_
          refine w_callV ok (y := (⟨"com/example/rowan/rowan/store/IdleHeap", "renumber", "(II)V"⟩ : MethodName)) (a := b310) (argsL := [(.int (0 : Int32)), (.int (3 : Int32))]) (rest := []) at_121 (hw _ (List.mem_of_getElem? (i := 58) rfl)) (hw _ (List.mem_of_getElem? (i := 59) rfl)) (hw _ (List.mem_of_getElem? (i := 61) rfl)) (hw _ (List.mem_of_getElem? (i := 60) rfl)) (hw _ (List.mem_of_getElem? (i := 2) rfl)) (hw _ (List.mem_of_getElem? (i := 62) rfl)) (by decide) A_b310.1 pd_28II29V rfl rfl (by decide) (Nat.le_of_ble_eq_true rfl) (by decide) (by decide) (fun z0 => rm_ren1 l Z a0 hw [] n0 h321 z0 b310 fen fti fsl 2 e2 g2 τ2 A_b310 A_fen A_fti A_fsl ge_b310 ge_fen ge_fti ge_fsl nf_0 nf_1 nf_2 nf_3 nf_4 nf_5 (put (put (fun _ => none) 0 (some t0)) 1 (some t1)) P2 H2 0 3 t0 (by decide) (by decide) rfl rfl) (fun v360 h361 qv360 => ?_)
          obtain ⟨rfl, e3, g3, τ3, K1, A0, A1, A2, A3, P3, H3, r1, r2⟩ := qv360
          replace A_b310 : Ob Z h361 b310 "com/example/rowan/rowan/store/IdleHeap" fl_IdleHeap [(.ref fen), (.ref fti), (.ref fsl), (.int (2 : Int32))] := A0
          replace A_fen := A1
          replace A_fti := A2
          replace A_fsl := A3
          replace E := (r2 (fun q => absurd (own_inj (by decide) (by decide) (E.symm.trans q)) (by decide))).trans E
          show W K l _ n0 _ h361 7 16 124 #[.val (.long t0), .second, .val (.long t1), .second, .val (.int flags), .val (.int f), .val (.int gg), .val (.int (1 : Int32)), .val (.int (0 : Int32)), .val (.int (3 : Int32)), .val (.ref b310), .val (.int (1 : Int32)), .val (.int (0 : Int32)), .unset, .unset] []
          refine w_aload ok at_124 rfl rfl ?_
          refine w_iload ok at_126 rfl ?_
          refine w_callV ok (y := (⟨"com/example/rowan/rowan/store/IdleHeap", "remove", "(I)V"⟩ : MethodName)) (a := b310) (argsL := [(.int (0 : Int32))]) (rest := []) at_128 (hw _ (List.mem_of_getElem? (i := 63) rfl)) (hw _ (List.mem_of_getElem? (i := 64) rfl)) (hw _ (List.mem_of_getElem? (i := 66) rfl)) (hw _ (List.mem_of_getElem? (i := 65) rfl)) (hw _ (List.mem_of_getElem? (i := 2) rfl)) (hw _ (List.mem_of_getElem? (i := 67) rfl)) (by decide) A_b310.1 pd_28I29V rfl rfl (by decide) (Nat.le_of_ble_eq_true rfl) (by decide) (by decide) (fun z0 => rm_remove0 l Z a0 hw [] n0 h361 z0 b310 fen fti fsl 2 e3 g3 τ3 A_b310 A_fen A_fti A_fsl ge_b310 ge_fen ge_fti ge_fsl nf_0 nf_1 nf_2 nf_3 nf_4 nf_5 (put (put (put (put (fun _ => none) 0 (some t0)) 1 (some t1)) 0 none) 3 (some t0)) P3 H3 0 (by decide) rfl) (fun v362 h363 qv362 => ?_)
          obtain ⟨rfl, rfl⟩ := qv362
          show W K l _ n0 _ h361 7 16 131 #[.val (.long t0), .second, .val (.long t1), .second, .val (.int flags), .val (.int f), .val (.int gg), .val (.int (1 : Int32)), .val (.int (0 : Int32)), .val (.int (3 : Int32)), .val (.ref b310), .val (.int (1 : Int32)), .val (.int (0 : Int32)), .unset, .unset] []
          refine w_iload ok at_131 rfl ?_
          refine w_iload ok at_133 rfl ?_
          refine w_iload ok at_135 rfl ?_
          refine w_callS ok (y := (⟨"com/example/rowan/rowan/store/IdleHeapRenumberPinLaw", "map", "(III)I"⟩ : MethodName)) (argsL := [(.int (1 : Int32)), (.int (0 : Int32)), (.int (3 : Int32))]) (rest := []) at_137 (hw _ (List.mem_of_getElem? (i := 68) rfl)) (hw _ (List.mem_of_getElem? (i := 69) rfl)) (hw _ (List.mem_of_getElem? (i := 70) rfl)) (hw _ (List.mem_of_getElem? (i := 71) rfl)) (by decide) pd_28III29I rfl rfl (by decide) (Nat.le_of_ble_eq_true rfl) (by decide) (by decide) (fun z0 => rm_map l Z a0 hw [] n0 h361 z0 (1 : Int32) (0 : Int32) (3 : Int32)) (fun v364 h365 qv364 => ?_)
          obtain ⟨rfl, rfl⟩ := qv364
          rw [show own_map (1 : Int32) (0 : Int32) (3 : Int32) = (1 : Int32) from rfl]
          show W K l _ n0 _ h361 7 16 140 #[.val (.long t0), .second, .val (.long t1), .second, .val (.int flags), .val (.int f), .val (.int gg), .val (.int (1 : Int32)), .val (.int (0 : Int32)), .val (.int (3 : Int32)), .val (.ref b310), .val (.int (1 : Int32)), .val (.int (0 : Int32)), .unset, .unset] [(.int (1 : Int32))]
          refine w_istore ok at_140 (L' := #[.val (.long t0), .second, .val (.long t1), .second, .val (.int flags), .val (.int f), .val (.int gg), .val (.int (1 : Int32)), .val (.int (0 : Int32)), .val (.int (3 : Int32)), .val (.ref b310), .val (.int (1 : Int32)), .val (.int (0 : Int32)), .val (.int (1 : Int32)), .unset]) rfl ?_
          refine w_aload ok at_142 rfl rfl ?_
          refine w_callV ok (y := (⟨"com/example/rowan/rowan/store/IdleHeap", "first", "()I"⟩ : MethodName)) (a := b310) (argsL := []) (rest := []) at_144 (hw _ (List.mem_of_getElem? (i := 72) rfl)) (hw _ (List.mem_of_getElem? (i := 73) rfl)) (hw _ (List.mem_of_getElem? (i := 75) rfl)) (hw _ (List.mem_of_getElem? (i := 74) rfl)) (hw _ (List.mem_of_getElem? (i := 2) rfl)) (hw _ (List.mem_of_getElem? (i := 76) rfl)) (by decide) A_b310.1 pd_2829I rfl rfl (by decide) (Nat.le_of_ble_eq_true rfl) (by decide) (by decide) (fun z0 => rm_first l Z a0 hw [] n0 h361 z0 b310 fen fti fsl 2 e3 g3 τ3 A_b310 A_fen A_fti A_fsl ge_b310 ge_fen ge_fti ge_fsl nf_0 nf_1 nf_2 nf_3 nf_4 nf_5 (put (put (put (put (fun _ => none) 0 (some t0)) 1 (some t1)) 0 none) 3 (some t0)) P3 H3) (fun v366 h367 qv366 => ?_)
          obtain ⟨rfl, ⟨hs0, rfl⟩ | ⟨y, hy, hs, ey, rfl⟩⟩ := qv366
          · exact absurd hs0 (by decide)
          · skip
            obtain rfl : y = 1 := own_inj hy (by decide) (ey.symm.trans E)
            show W K l _ n0 _ h361 7 16 147 #[.val (.long t0), .second, .val (.long t1), .second, .val (.int flags), .val (.int f), .val (.int gg), .val (.int (1 : Int32)), .val (.int (0 : Int32)), .val (.int (3 : Int32)), .val (.ref b310), .val (.int (1 : Int32)), .val (.int (0 : Int32)), .val (.int (1 : Int32)), .unset] [(.int (1 : Int32))]
            refine w_iload ok at_147 rfl ?_
            refine w_icmp_eq ok at_149 (pc' := 154) (by decide) (fun hc369 => ?_) (fun hc369 => False.elim (by revert hc369; decide))
            show W K l _ n0 _ h361 7 16 154 #[.val (.long t0), .second, .val (.long t1), .second, .val (.int flags), .val (.int f), .val (.int gg), .val (.int (1 : Int32)), .val (.int (0 : Int32)), .val (.int (3 : Int32)), .val (.ref b310), .val (.int (1 : Int32)), .val (.int (0 : Int32)), .val (.int (1 : Int32)), .unset] []
            refine w_aload ok at_154 rfl rfl ?_
            refine w_iload ok at_156 rfl ?_
            refine w_callV ok (y := (⟨"com/example/rowan/rowan/store/IdleHeap", "remove", "(I)V"⟩ : MethodName)) (a := b310) (argsL := [(.int (1 : Int32))]) (rest := []) at_158 (hw _ (List.mem_of_getElem? (i := 63) rfl)) (hw _ (List.mem_of_getElem? (i := 64) rfl)) (hw _ (List.mem_of_getElem? (i := 66) rfl)) (hw _ (List.mem_of_getElem? (i := 65) rfl)) (hw _ (List.mem_of_getElem? (i := 2) rfl)) (hw _ (List.mem_of_getElem? (i := 67) rfl)) (by decide) A_b310.1 pd_28I29V rfl rfl (by decide) (Nat.le_of_ble_eq_true rfl) (by decide) (by decide) (fun z0 => rm_remove l Z a0 hw [] n0 h361 z0 b310 fen fti fsl 2 e3 g3 τ3 A_b310 A_fen A_fti A_fsl ge_b310 ge_fen ge_fti ge_fsl nf_0 nf_1 nf_2 nf_3 nf_4 nf_5 (put (put (put (put (fun _ => none) 0 (some t0)) 1 (some t1)) 0 none) 3 (some t0)) P3 H3 1 (by decide)) (fun v371 h372 qv371 => ?_)
            obtain ⟨rfl, sx370, ex370, gx370, τx370, K1, A0, A1, A2, A3, Px370, Hx370⟩ := qv371
            replace A_b310 : Ob Z h372 b310 "com/example/rowan/rowan/store/IdleHeap" fl_IdleHeap [(.ref fen), (.ref fti), (.ref fsl), (.int (Int32.ofNat sx370))] := A0
            replace A_fen := A1
            replace A_fti := A2
            replace A_fsl := A3
            show W K l _ n0 _ h372 7 16 161 #[.val (.long t0), .second, .val (.long t1), .second, .val (.int flags), .val (.int f), .val (.int gg), .val (.int (1 : Int32)), .val (.int (0 : Int32)), .val (.int (3 : Int32)), .val (.ref b310), .val (.int (1 : Int32)), .val (.int (0 : Int32)), .val (.int (1 : Int32)), .unset] []
            refine w_iload ok at_161 rfl ?_
            refine w_iconst ok at_163 (v := (-1 : Int32)) rfl ?_
            refine w_icmp_ne ok at_164 (pc' := 171) (by decide) (fun hc374 => ?_) (fun hc374 => False.elim (by revert hc374; decide))
            show W K l _ n0 _ h372 7 16 171 #[.val (.long t0), .second, .val (.long t1), .second, .val (.int flags), .val (.int f), .val (.int gg), .val (.int (1 : Int32)), .val (.int (0 : Int32)), .val (.int (3 : Int32)), .val (.ref b310), .val (.int (1 : Int32)), .val (.int (0 : Int32)), .val (.int (1 : Int32)), .unset] []
            refine w_iload ok at_171 rfl ?_
            refine w_iload ok at_173 rfl ?_
            refine w_iload ok at_175 rfl ?_
            refine w_callS ok (y := (⟨"com/example/rowan/rowan/store/IdleHeapRenumberPinLaw", "map", "(III)I"⟩ : MethodName)) (argsL := [(.int (0 : Int32)), (.int (0 : Int32)), (.int (3 : Int32))]) (rest := []) at_177 (hw _ (List.mem_of_getElem? (i := 68) rfl)) (hw _ (List.mem_of_getElem? (i := 69) rfl)) (hw _ (List.mem_of_getElem? (i := 70) rfl)) (hw _ (List.mem_of_getElem? (i := 71) rfl)) (by decide) pd_28III29I rfl rfl (by decide) (Nat.le_of_ble_eq_true rfl) (by decide) (by decide) (fun z0 => rm_map l Z a0 hw [] n0 h372 z0 (0 : Int32) (0 : Int32) (3 : Int32)) (fun v375 h376 qv375 => ?_)
            obtain ⟨rfl, rfl⟩ := qv375
            rw [show own_map (0 : Int32) (0 : Int32) (3 : Int32) = (3 : Int32) from rfl]
            show W K l _ n0 _ h372 7 16 180 #[.val (.long t0), .second, .val (.long t1), .second, .val (.int flags), .val (.int f), .val (.int gg), .val (.int (1 : Int32)), .val (.int (0 : Int32)), .val (.int (3 : Int32)), .val (.ref b310), .val (.int (1 : Int32)), .val (.int (0 : Int32)), .val (.int (1 : Int32)), .unset] [(.int (3 : Int32))]
            refine w_istore ok at_180 (L' := #[.val (.long t0), .second, .val (.long t1), .second, .val (.int flags), .val (.int f), .val (.int gg), .val (.int (1 : Int32)), .val (.int (0 : Int32)), .val (.int (3 : Int32)), .val (.ref b310), .val (.int (1 : Int32)), .val (.int (0 : Int32)), .val (.int (1 : Int32)), .val (.int (3 : Int32))]) rfl ?_
            refine w_aload ok at_182 rfl rfl ?_
            refine w_callV ok (y := (⟨"com/example/rowan/rowan/store/IdleHeap", "first", "()I"⟩ : MethodName)) (a := b310) (argsL := []) (rest := []) at_184 (hw _ (List.mem_of_getElem? (i := 72) rfl)) (hw _ (List.mem_of_getElem? (i := 73) rfl)) (hw _ (List.mem_of_getElem? (i := 75) rfl)) (hw _ (List.mem_of_getElem? (i := 74) rfl)) (hw _ (List.mem_of_getElem? (i := 2) rfl)) (hw _ (List.mem_of_getElem? (i := 76) rfl)) (by decide) A_b310.1 pd_2829I rfl rfl (by decide) (Nat.le_of_ble_eq_true rfl) (by decide) (by decide) (fun z0 => rm_first l Z a0 hw [] n0 h372 z0 b310 fen fti fsl sx370 ex370 gx370 τx370 A_b310 A_fen A_fti A_fsl ge_b310 ge_fen ge_fti ge_fsl nf_0 nf_1 nf_2 nf_3 nf_4 nf_5 (put (put (put (put (put (fun _ => none) 0 (some t0)) 1 (some t1)) 0 none) 3 (some t0)) 1 none) Px370 Hx370) (fun v377 h378 qv377 => ?_)
            obtain ⟨rfl, ⟨hs0, rfl⟩ | ⟨y, hy, hs, ey, rfl⟩⟩ := qv377
            · subst hs0; exact (own_none0 Px370 (y := 3) (by decide) rfl).elim
            · have my := (Px370.at hs hy ey).1
              obtain rfl | rfl | rfl | rfl : y = 0 ∨ y = 1 ∨ y = 2 ∨ y = 3 := by omega
              · cases (show none = some _ from my)
              · cases (show none = some _ from my)
              · cases (show none = some _ from my)
              · skip
                show W K l _ n0 _ h372 7 16 187 #[.val (.long t0), .second, .val (.long t1), .second, .val (.int flags), .val (.int f), .val (.int gg), .val (.int (1 : Int32)), .val (.int (0 : Int32)), .val (.int (3 : Int32)), .val (.ref b310), .val (.int (1 : Int32)), .val (.int (0 : Int32)), .val (.int (1 : Int32)), .val (.int (3 : Int32))] [(.int (3 : Int32))]
                refine w_iload ok at_187 rfl ?_
                refine w_icmp_eq ok at_189 (pc' := 194) (by decide) (fun hc380 => ?_) (fun hc380 => False.elim (by revert hc380; decide))
                show W K l _ n0 _ h372 7 16 194 #[.val (.long t0), .second, .val (.long t1), .second, .val (.int flags), .val (.int f), .val (.int gg), .val (.int (1 : Int32)), .val (.int (0 : Int32)), .val (.int (3 : Int32)), .val (.ref b310), .val (.int (1 : Int32)), .val (.int (0 : Int32)), .val (.int (1 : Int32)), .val (.int (3 : Int32))] []
                refine w_iload ok at_194 rfl ?_
                refine w_iconst ok at_196 (v := (-1 : Int32)) rfl ?_
                refine w_icmp_eq ok at_197 (pc' := 218) (by decide) (fun hc382 => False.elim (by revert hc382; decide)) (fun hc382 => ?_)
                show W K l _ n0 _ h372 7 16 200 #[.val (.long t0), .second, .val (.long t1), .second, .val (.int flags), .val (.int f), .val (.int gg), .val (.int (1 : Int32)), .val (.int (0 : Int32)), .val (.int (3 : Int32)), .val (.ref b310), .val (.int (1 : Int32)), .val (.int (0 : Int32)), .val (.int (1 : Int32)), .val (.int (3 : Int32))] []
                refine w_aload ok at_200 rfl rfl ?_
                refine w_iload ok at_202 rfl ?_
                refine w_callV ok (y := (⟨"com/example/rowan/rowan/store/IdleHeap", "remove", "(I)V"⟩ : MethodName)) (a := b310) (argsL := [(.int (3 : Int32))]) (rest := []) at_204 (hw _ (List.mem_of_getElem? (i := 63) rfl)) (hw _ (List.mem_of_getElem? (i := 64) rfl)) (hw _ (List.mem_of_getElem? (i := 66) rfl)) (hw _ (List.mem_of_getElem? (i := 65) rfl)) (hw _ (List.mem_of_getElem? (i := 2) rfl)) (hw _ (List.mem_of_getElem? (i := 67) rfl)) (by decide) A_b310.1 pd_28I29V rfl rfl (by decide) (Nat.le_of_ble_eq_true rfl) (by decide) (by decide) (fun z0 => rm_remove l Z a0 hw [] n0 h372 z0 b310 fen fti fsl sx370 ex370 gx370 τx370 A_b310 A_fen A_fti A_fsl ge_b310 ge_fen ge_fti ge_fsl nf_0 nf_1 nf_2 nf_3 nf_4 nf_5 (put (put (put (put (put (fun _ => none) 0 (some t0)) 1 (some t1)) 0 none) 3 (some t0)) 1 none) Px370 Hx370 3 (by decide)) (fun v384 h385 qv384 => ?_)
                obtain ⟨rfl, sx383, ex383, gx383, τx383, K1, A0, A1, A2, A3, Px383, Hx383⟩ := qv384
                replace A_b310 : Ob Z h385 b310 "com/example/rowan/rowan/store/IdleHeap" fl_IdleHeap [(.ref fen), (.ref fti), (.ref fsl), (.int (Int32.ofNat sx383))] := A0
                replace A_fen := A1
                replace A_fti := A2
                replace A_fsl := A3
                show W K l _ n0 _ h385 7 16 207 #[.val (.long t0), .second, .val (.long t1), .second, .val (.int flags), .val (.int f), .val (.int gg), .val (.int (1 : Int32)), .val (.int (0 : Int32)), .val (.int (3 : Int32)), .val (.ref b310), .val (.int (1 : Int32)), .val (.int (0 : Int32)), .val (.int (1 : Int32)), .val (.int (3 : Int32))] []
                refine w_aload ok at_207 rfl rfl ?_
                refine w_callV ok (y := (⟨"com/example/rowan/rowan/store/IdleHeap", "first", "()I"⟩ : MethodName)) (a := b310) (argsL := []) (rest := []) at_209 (hw _ (List.mem_of_getElem? (i := 72) rfl)) (hw _ (List.mem_of_getElem? (i := 73) rfl)) (hw _ (List.mem_of_getElem? (i := 75) rfl)) (hw _ (List.mem_of_getElem? (i := 74) rfl)) (hw _ (List.mem_of_getElem? (i := 2) rfl)) (hw _ (List.mem_of_getElem? (i := 76) rfl)) (by decide) A_b310.1 pd_2829I rfl rfl (by decide) (Nat.le_of_ble_eq_true rfl) (by decide) (by decide) (fun z0 => rm_first l Z a0 hw [] n0 h385 z0 b310 fen fti fsl sx383 ex383 gx383 τx383 A_b310 A_fen A_fti A_fsl ge_b310 ge_fen ge_fti ge_fsl nf_0 nf_1 nf_2 nf_3 nf_4 nf_5 (put (put (put (put (put (put (fun _ => none) 0 (some t0)) 1 (some t1)) 0 none) 3 (some t0)) 1 none) 3 none) Px383 Hx383) (fun v386 h387 qv386 => ?_)
                obtain ⟨rfl, ⟨hs0, rfl⟩ | ⟨y, hy, hs, ey, rfl⟩⟩ := qv386
                · skip
                  show W K l _ n0 _ h385 7 16 212 #[.val (.long t0), .second, .val (.long t1), .second, .val (.int flags), .val (.int f), .val (.int gg), .val (.int (1 : Int32)), .val (.int (0 : Int32)), .val (.int (3 : Int32)), .val (.ref b310), .val (.int (1 : Int32)), .val (.int (0 : Int32)), .val (.int (1 : Int32)), .val (.int (3 : Int32))] [(.int (-1 : Int32))]
                  refine w_iconst ok at_212 (v := (-1 : Int32)) rfl ?_
                  refine w_icmp_eq ok at_213 (pc' := 218) (by decide) (fun hc389 => ?_) (fun hc389 => False.elim (by revert hc389; decide))
                  show W K l _ n0 _ h385 7 16 218 #[.val (.long t0), .second, .val (.long t1), .second, .val (.int flags), .val (.int f), .val (.int gg), .val (.int (1 : Int32)), .val (.int (0 : Int32)), .val (.int (3 : Int32)), .val (.ref b310), .val (.int (1 : Int32)), .val (.int (0 : Int32)), .val (.int (1 : Int32)), .val (.int (3 : Int32))] []
                  refine w_iconst ok at_218 (v := (1 : Int32)) rfl ?_
                  refine w_bret ok (by simp) at_219 (by decide) (by decide) ?_
                  exact rfl
                · have my := (Px383.at hs hy ey).1
                  obtain rfl | rfl | rfl | rfl : y = 0 ∨ y = 1 ∨ y = 2 ∨ y = 3 := by omega
                  · cases (show none = some _ from my)
                  · cases (show none = some _ from my)
                  · cases (show none = some _ from my)
                  · cases (show none = some _ from my)
    · skip
      show W K l _ n0 _ h0 0 0 20 #[.val (.long t0), .second, .val (.long t1), .second, .val (.int flags), .val (.int f), .val (.int gg), .val (.int (1 : Int32)), .val (.int (1 : Int32)), .unset, .unset, .unset, .unset, .unset, .unset] []
      refine w_iload ok at_20 rfl ?_
      refine w_iconst ok at_22 (v := (2 : Int32)) rfl ?_
      refine w_icmp_ne ok at_23 (pc' := 30) (by decide) (fun hc391 => ?_) (fun hc391 => False.elim (by revert hc391; decide))
      show W K l _ n0 _ h0 0 0 30 #[.val (.long t0), .second, .val (.long t1), .second, .val (.int flags), .val (.int f), .val (.int gg), .val (.int (1 : Int32)), .val (.int (1 : Int32)), .unset, .unset, .unset, .unset, .unset, .unset] []
      refine w_iload ok at_30 rfl ?_
      refine w_iconst ok at_32 (v := (3 : Int32)) rfl ?_
      refine w_icmp_ne ok at_33 (pc' := 40) (by decide) (fun hc393 => ?_) (fun hc393 => False.elim (by revert hc393; decide))
      show W K l _ n0 _ h0 0 0 40 #[.val (.long t0), .second, .val (.long t1), .second, .val (.int flags), .val (.int f), .val (.int gg), .val (.int (1 : Int32)), .val (.int (1 : Int32)), .unset, .unset, .unset, .unset, .unset, .unset] []
      refine w_iconst ok at_40 (v := (2 : Int32)) rfl ?_
      refine w_iload ok at_41 rfl ?_
      refine w_iconst ok at_43 (v := (1 : Int32)) rfl ?_
      refine w_iand ok at_44 ?_
      show W K l _ n0 _ h0 0 0 45 #[.val (.long t0), .second, .val (.long t1), .second, .val (.int flags), .val (.int f), .val (.int gg), .val (.int (1 : Int32)), .val (.int (1 : Int32)), .unset, .unset, .unset, .unset, .unset, .unset] [(.int (gg &&& (1 : Int32))), (.int (2 : Int32))]
      rcases own_and1 gg with eg | eg
      · skip
        rw [eg]
        show W K l _ n0 _ h0 0 0 45 #[.val (.long t0), .second, .val (.long t1), .second, .val (.int flags), .val (.int f), .val (.int gg), .val (.int (1 : Int32)), .val (.int (1 : Int32)), .unset, .unset, .unset, .unset, .unset, .unset] [(.int (0 : Int32)), (.int (2 : Int32))]
        refine w_iadd ok at_45 ?_
        show W K l _ n0 _ h0 0 0 46 #[.val (.long t0), .second, .val (.long t1), .second, .val (.int flags), .val (.int f), .val (.int gg), .val (.int (1 : Int32)), .val (.int (1 : Int32)), .unset, .unset, .unset, .unset, .unset, .unset] [(.int (2 : Int32))]
        refine w_istore ok at_46 (L' := #[.val (.long t0), .second, .val (.long t1), .second, .val (.int flags), .val (.int f), .val (.int gg), .val (.int (1 : Int32)), .val (.int (1 : Int32)), .val (.int (2 : Int32)), .unset, .unset, .unset, .unset, .unset]) rfl ?_
        refine w_new ok at_48 (hw _ (List.mem_of_getElem? (i := 0) rfl)) (hw _ (List.mem_of_getElem? (i := 1) rfl)) (hw _ (List.mem_of_getElem? (i := 2) rfl)) (la_IdleHeap hw) (by decide) (by decide) (fun h395 b394 ea_b394 ge_b394 E_b394 A_b394 => ?_)
        replace A_b394 : Ob Z h395 b394 "com/example/rowan/rowan/store/IdleHeap" fl_IdleHeap [.null, .null, .null, (.int (0 : Int32))] := A_b394
        refine w_dup ok at_51 rfl ?_
        refine w_callI ok (y := (⟨"com/example/rowan/rowan/store/IdleHeap", "<init>", "()V"⟩ : MethodName)) (a := b394) (argsL := []) (rest := [(.ref b394)]) at_52 rfl (hw _ (List.mem_of_getElem? (i := 3) rfl)) (hw _ (List.mem_of_getElem? (i := 4) rfl)) (hw _ (List.mem_of_getElem? (i := 2) rfl)) (hw _ (List.mem_of_getElem? (i := 5) rfl)) (by decide) pd_2829V rfl rfl (by decide) (Nat.le_of_ble_eq_true rfl) (by decide) (by decide) (fun z0 => rm_ctor l Z a0 hw [] n0 h395 z0 b394 A_b394 ge_b394) (fun v396 h397 qv396 => ?_)
        obtain ⟨rfl, een, eti, esl, ⟨sz_een, sz_eti, sz_esl⟩, ⟨ge_een, ge_eti, ge_esl⟩, ⟨ne_0, ne_1, ne_2, ne_3, ne_4, ne_5⟩, K1, A1, A_een, A_eti, A_esl⟩ := qv396
        have ne_b394_een : b394 ≠ een := Nat.ne_of_lt (Nat.lt_of_lt_of_le A_b394.lt sz_een)
        have ne_b394_eti : b394 ≠ eti := Nat.ne_of_lt (Nat.lt_of_lt_of_le A_b394.lt sz_eti)
        have ne_b394_esl : b394 ≠ esl := Nat.ne_of_lt (Nat.lt_of_lt_of_le A_b394.lt sz_esl)
        replace A_b394 := A1
        show W K l _ n0 _ h397 4 4 55 #[.val (.long t0), .second, .val (.long t1), .second, .val (.int flags), .val (.int f), .val (.int gg), .val (.int (1 : Int32)), .val (.int (1 : Int32)), .val (.int (2 : Int32)), .unset, .unset, .unset, .unset, .unset] [(.ref b394)]
        refine w_astore ok at_55 rfl (L' := #[.val (.long t0), .second, .val (.long t1), .second, .val (.int flags), .val (.int f), .val (.int gg), .val (.int (1 : Int32)), .val (.int (1 : Int32)), .val (.int (2 : Int32)), .val (.ref b394), .unset, .unset, .unset, .unset]) rfl ?_
        refine w_aload ok at_57 rfl rfl ?_
        refine w_iconst ok at_59 (v := (4 : Int32)) rfl ?_
        refine w_callV ok (y := (⟨"com/example/rowan/rowan/store/IdleHeap", "resize", "(I)V"⟩ : MethodName)) (a := b394) (argsL := [(.int (4 : Int32))]) (rest := []) at_60 (hw _ (List.mem_of_getElem? (i := 17) rfl)) (hw _ (List.mem_of_getElem? (i := 18) rfl)) (hw _ (List.mem_of_getElem? (i := 20) rfl)) (hw _ (List.mem_of_getElem? (i := 19) rfl)) (hw _ (List.mem_of_getElem? (i := 2) rfl)) (hw _ (List.mem_of_getElem? (i := 21) rfl)) (by decide) A_b394.1 pd_28I29V rfl rfl (by decide) (Nat.le_of_ble_eq_true rfl) (by decide) (by decide) (fun z0 => rm_resize l Z a0 hw [] n0 h397 z0 b394 een eti esl A_b394 A_een A_eti A_esl ge_b394 ne_0 ne_1 ne_2 ne_3 ne_4 ne_5) (fun v398 h399 qv398 => ?_)
        obtain ⟨rfl, fen, fti, fsl, ⟨sz_fen, sz_fti, sz_fsl⟩, ⟨ge_fen, ge_fti, ge_fsl⟩, ⟨nf_0, nf_1, nf_2, nf_3, nf_4, nf_5⟩, K1, A1, A_fen, A_fti, A_fsl⟩ := qv398
        have ne_b394_fen : b394 ≠ fen := Nat.ne_of_lt (Nat.lt_of_lt_of_le A_b394.lt sz_fen)
        have ne_een_fen : een ≠ fen := Nat.ne_of_lt (Nat.lt_of_lt_of_le A_een.lt sz_fen)
        have ne_eti_fen : eti ≠ fen := Nat.ne_of_lt (Nat.lt_of_lt_of_le A_eti.lt sz_fen)
        have ne_esl_fen : esl ≠ fen := Nat.ne_of_lt (Nat.lt_of_lt_of_le A_esl.lt sz_fen)
        have ne_b394_fti : b394 ≠ fti := Nat.ne_of_lt (Nat.lt_of_lt_of_le A_b394.lt sz_fti)
        have ne_een_fti : een ≠ fti := Nat.ne_of_lt (Nat.lt_of_lt_of_le A_een.lt sz_fti)
        have ne_eti_fti : eti ≠ fti := Nat.ne_of_lt (Nat.lt_of_lt_of_le A_eti.lt sz_fti)
        have ne_esl_fti : esl ≠ fti := Nat.ne_of_lt (Nat.lt_of_lt_of_le A_esl.lt sz_fti)
        have ne_b394_fsl : b394 ≠ fsl := Nat.ne_of_lt (Nat.lt_of_lt_of_le A_b394.lt sz_fsl)
        have ne_een_fsl : een ≠ fsl := Nat.ne_of_lt (Nat.lt_of_lt_of_le A_een.lt sz_fsl)
        have ne_eti_fsl : eti ≠ fsl := Nat.ne_of_lt (Nat.lt_of_lt_of_le A_eti.lt sz_fsl)
        have ne_esl_fsl : esl ≠ fsl := Nat.ne_of_lt (Nat.lt_of_lt_of_le A_esl.lt sz_fsl)
        replace A_een := A_een.keep K1 (ninS (Ne.symm ne_0) nin0)
        replace A_eti := A_eti.keep K1 (ninS (Ne.symm ne_1) nin0)
        replace A_esl := A_esl.keep K1 (ninS (Ne.symm ne_2) nin0)
        replace A_b394 := A1
        show W K l _ n0 _ h399 7 16 63 #[.val (.long t0), .second, .val (.long t1), .second, .val (.int flags), .val (.int f), .val (.int gg), .val (.int (1 : Int32)), .val (.int (1 : Int32)), .val (.int (2 : Int32)), .val (.ref b394), .unset, .unset, .unset, .unset] []
        refine w_aload ok at_63 rfl rfl ?_
        refine w_iconst ok at_65 (v := (0 : Int32)) rfl ?_
        refine w_lloadN ok at_66 rfl ?_
        refine w_callV ok (y := (⟨"com/example/rowan/rowan/store/IdleHeap", "add", "(IJ)V"⟩ : MethodName)) (a := b394) (argsL := [(.int (0 : Int32)), (.long t0)]) (rest := []) at_67 (hw _ (List.mem_of_getElem? (i := 43) rfl)) (hw _ (List.mem_of_getElem? (i := 44) rfl)) (hw _ (List.mem_of_getElem? (i := 46) rfl)) (hw _ (List.mem_of_getElem? (i := 45) rfl)) (hw _ (List.mem_of_getElem? (i := 2) rfl)) (hw _ (List.mem_of_getElem? (i := 47) rfl)) (by decide) A_b394.1 pd_28IJ29V rfl rfl (by decide) (Nat.le_of_ble_eq_true rfl) (by decide) (by decide) (fun z0 => rm_add l Z a0 hw [] n0 h399 z0 b394 fen fti fsl 0 (fun _ => 0) (fun _ => -1) (fun _ => 0) A_b394 A_fen A_fti A_fsl ge_b394 ge_fen ge_fti ge_fsl nf_0 nf_1 nf_2 nf_3 nf_4 nf_5 (fun _ => none) own_pp0 own_ho0 0 t0 (by decide) rfl (by decide)) (fun v400 h401 qv400 => ?_)
        obtain ⟨rfl, e1, g1, τ1, K1, A0, A1, A2, A3, P1, H1, E1⟩ := qv400
        replace A_b394 : Ob Z h401 b394 "com/example/rowan/rowan/store/IdleHeap" fl_IdleHeap [(.ref fen), (.ref fti), (.ref fsl), (.int (1 : Int32))] := A0
        replace A_fen := A1
        replace A_fti := A2
        replace A_fsl := A3
        show W K l _ n0 _ h401 7 16 70 #[.val (.long t0), .second, .val (.long t1), .second, .val (.int flags), .val (.int f), .val (.int gg), .val (.int (1 : Int32)), .val (.int (1 : Int32)), .val (.int (2 : Int32)), .val (.ref b394), .unset, .unset, .unset, .unset] []
        refine w_iload ok at_70 rfl ?_
        refine w_if_eq ok at_72 (pc' := 82) (by decide) (fun hc403 => False.elim (by revert hc403; decide)) (fun hc403 => ?_)
        show W K l _ n0 _ h401 7 16 75 #[.val (.long t0), .second, .val (.long t1), .second, .val (.int flags), .val (.int f), .val (.int gg), .val (.int (1 : Int32)), .val (.int (1 : Int32)), .val (.int (2 : Int32)), .val (.ref b394), .unset, .unset, .unset, .unset] []
        refine w_aload ok at_75 rfl rfl ?_
        refine w_iconst ok at_77 (v := (1 : Int32)) rfl ?_
        refine w_lloadN ok at_78 rfl ?_
        refine w_callV ok (y := (⟨"com/example/rowan/rowan/store/IdleHeap", "add", "(IJ)V"⟩ : MethodName)) (a := b394) (argsL := [(.int (1 : Int32)), (.long t1)]) (rest := []) at_79 (hw _ (List.mem_of_getElem? (i := 43) rfl)) (hw _ (List.mem_of_getElem? (i := 44) rfl)) (hw _ (List.mem_of_getElem? (i := 46) rfl)) (hw _ (List.mem_of_getElem? (i := 45) rfl)) (hw _ (List.mem_of_getElem? (i := 2) rfl)) (hw _ (List.mem_of_getElem? (i := 47) rfl)) (by decide) A_b394.1 pd_28IJ29V rfl rfl (by decide) (Nat.le_of_ble_eq_true rfl) (by decide) (by decide) (fun z0 => rm_add l Z a0 hw [] n0 h401 z0 b394 fen fti fsl 1 e1 g1 τ1 A_b394 A_fen A_fti A_fsl ge_b394 ge_fen ge_fti ge_fsl nf_0 nf_1 nf_2 nf_3 nf_4 nf_5 (put (fun _ => none) 0 (some t0)) P1 H1 1 t1 (by decide) rfl (by decide)) (fun v404 h405 qv404 => ?_)
        obtain ⟨rfl, e2, g2, τ2, K1, A0, A1, A2, A3, P2, H2, E2⟩ := qv404
        replace A_b394 : Ob Z h405 b394 "com/example/rowan/rowan/store/IdleHeap" fl_IdleHeap [(.ref fen), (.ref fti), (.ref fsl), (.int (2 : Int32))] := A0
        replace A_fen := A1
        replace A_fti := A2
        replace A_fsl := A3
        show W K l _ n0 _ h405 7 16 82 #[.val (.long t0), .second, .val (.long t1), .second, .val (.int flags), .val (.int f), .val (.int gg), .val (.int (1 : Int32)), .val (.int (1 : Int32)), .val (.int (2 : Int32)), .val (.ref b394), .unset, .unset, .unset, .unset] []
        refine w_iload ok at_82 rfl ?_
        refine w_if_eq ok at_84 (pc' := 97) (by decide) (fun hc407 => False.elim (by revert hc407; decide)) (fun hc407 => ?_)
        show W K l _ n0 _ h405 7 16 87 #[.val (.long t0), .second, .val (.long t1), .second, .val (.int flags), .val (.int f), .val (.int gg), .val (.int (1 : Int32)), .val (.int (1 : Int32)), .val (.int (2 : Int32)), .val (.ref b394), .unset, .unset, .unset, .unset] []
        refine w_lloadN ok at_87 rfl ?_
        refine w_lloadN ok at_88 rfl ?_
        refine w_lcmp_ge ok at_89 at_90 (pc' := 97) (by decide) (fun hc409 => ?_) (fun hc409 => ?_)
        · show W K l _ n0 _ h405 7 16 97 #[.val (.long t0), .second, .val (.long t1), .second, .val (.int flags), .val (.int f), .val (.int gg), .val (.int (1 : Int32)), .val (.int (1 : Int32)), .val (.int (2 : Int32)), .val (.ref b394), .unset, .unset, .unset, .unset] []
          refine w_iconst ok at_97 (v := (0 : Int32)) rfl ?_
          show W K l _ n0 _ h405 7 16 98 #[.val (.long t0), .second, .val (.long t1), .second, .val (.int flags), .val (.int f), .val (.int gg), .val (.int (1 : Int32)), .val (.int (1 : Int32)), .val (.int (2 : Int32)), .val (.ref b394), .unset, .unset, .unset, .unset] [(.int (0 : Int32))]
          obtain ⟨o1, o2⟩ := own_one P1
          have E : e2 0 = Int32.ofNat 0 := (E2 (by rw [o2]; exact hc409) (by decide)).trans o1
          refine w_istore ok at_98 (L' := #[.val (.long t0), .second, .val (.long t1), .second, .val (.int flags), .val (.int f), .val (.int gg), .val (.int (1 : Int32)), .val (.int (1 : Int32)), .val (.int (2 : Int32)), .val (.ref b394), .val (.int (0 : Int32)), .unset, .unset, .unset]) rfl ?_
          refine w_iload ok at_100 rfl ?_
          refine w_if_eq ok at_102 (pc' := 112) (by decide) (fun hc411 => False.elim (by revert hc411; decide)) (fun hc411 => ?_)
          show W K l _ n0 _ h405 7 16 105 #[.val (.long t0), .second, .val (.long t1), .second, .val (.int flags), .val (.int f), .val (.int gg), .val (.int (1 : Int32)), .val (.int (1 : Int32)), .val (.int (2 : Int32)), .val (.ref b394), .val (.int (0 : Int32)), .unset, .unset, .unset] []
          refine w_iconst ok at_105 (v := (1 : Int32)) rfl ?_
          refine w_iload ok at_106 rfl ?_
          refine w_isub ok at_108 ?_
          show W K l _ n0 _ h405 7 16 109 #[.val (.long t0), .second, .val (.long t1), .second, .val (.int flags), .val (.int f), .val (.int gg), .val (.int (1 : Int32)), .val (.int (1 : Int32)), .val (.int (2 : Int32)), .val (.ref b394), .val (.int (0 : Int32)), .unset, .unset, .unset] [(.int (1 : Int32))]
          refine w_goto ok at_109 (pc' := 113) (by decide) ?_
          refine w_istore ok at_113 (L' := #[.val (.long t0), .second, .val (.long t1), .second, .val (.int flags), .val (.int f), .val (.int gg), .val (.int (1 : Int32)), .val (.int (1 : Int32)), .val (.int (2 : Int32)), .val (.ref b394), .val (.int (0 : Int32)), .val (.int (1 : Int32)), .unset, .unset]) rfl ?_
          refine w_aload ok at_115 rfl rfl ?_
          refine w_iload ok at_117 rfl ?_
          refine w_iload ok at_119 rfl ?_
          refine w_callV ok (y := (⟨"com/example/rowan/rowan/store/IdleHeap", "renumber", "(II)V"⟩ : MethodName)) (a := b394) (argsL := [(.int (1 : Int32)), (.int (2 : Int32))]) (rest := []) at_121 (hw _ (List.mem_of_getElem? (i := 58) rfl)) (hw _ (List.mem_of_getElem? (i := 59) rfl)) (hw _ (List.mem_of_getElem? (i := 61) rfl)) (hw _ (List.mem_of_getElem? (i := 60) rfl)) (hw _ (List.mem_of_getElem? (i := 2) rfl)) (hw _ (List.mem_of_getElem? (i := 62) rfl)) (by decide) A_b394.1 pd_28II29V rfl rfl (by decide) (Nat.le_of_ble_eq_true rfl) (by decide) (by decide) (fun z0 => rm_ren1 l Z a0 hw [] n0 h405 z0 b394 fen fti fsl 2 e2 g2 τ2 A_b394 A_fen A_fti A_fsl ge_b394 ge_fen ge_fti ge_fsl nf_0 nf_1 nf_2 nf_3 nf_4 nf_5 (put (put (fun _ => none) 0 (some t0)) 1 (some t1)) P2 H2 1 2 t1 (by decide) (by decide) rfl rfl) (fun v412 h413 qv412 => ?_)
          obtain ⟨rfl, e3, g3, τ3, K1, A0, A1, A2, A3, P3, H3, r1, r2⟩ := qv412
          replace A_b394 : Ob Z h413 b394 "com/example/rowan/rowan/store/IdleHeap" fl_IdleHeap [(.ref fen), (.ref fti), (.ref fsl), (.int (2 : Int32))] := A0
          replace A_fen := A1
          replace A_fti := A2
          replace A_fsl := A3
          replace E := (r2 (fun q => absurd (own_inj (by decide) (by decide) (E.symm.trans q)) (by decide))).trans E
          show W K l _ n0 _ h413 7 16 124 #[.val (.long t0), .second, .val (.long t1), .second, .val (.int flags), .val (.int f), .val (.int gg), .val (.int (1 : Int32)), .val (.int (1 : Int32)), .val (.int (2 : Int32)), .val (.ref b394), .val (.int (0 : Int32)), .val (.int (1 : Int32)), .unset, .unset] []
          refine w_aload ok at_124 rfl rfl ?_
          refine w_iload ok at_126 rfl ?_
          refine w_callV ok (y := (⟨"com/example/rowan/rowan/store/IdleHeap", "remove", "(I)V"⟩ : MethodName)) (a := b394) (argsL := [(.int (1 : Int32))]) (rest := []) at_128 (hw _ (List.mem_of_getElem? (i := 63) rfl)) (hw _ (List.mem_of_getElem? (i := 64) rfl)) (hw _ (List.mem_of_getElem? (i := 66) rfl)) (hw _ (List.mem_of_getElem? (i := 65) rfl)) (hw _ (List.mem_of_getElem? (i := 2) rfl)) (hw _ (List.mem_of_getElem? (i := 67) rfl)) (by decide) A_b394.1 pd_28I29V rfl rfl (by decide) (Nat.le_of_ble_eq_true rfl) (by decide) (by decide) (fun z0 => rm_remove0 l Z a0 hw [] n0 h413 z0 b394 fen fti fsl 2 e3 g3 τ3 A_b394 A_fen A_fti A_fsl ge_b394 ge_fen ge_fti ge_fsl nf_0 nf_1 nf_2 nf_3 nf_4 nf_5 (put (put (put (put (fun _ => none) 0 (some t0)) 1 (some t1)) 1 none) 2 (some t1)) P3 H3 1 (by decide) rfl) (fun v414 h415 qv414 => ?_)
          obtain ⟨rfl, rfl⟩ := qv414
          show W K l _ n0 _ h413 7 16 131 #[.val (.long t0), .second, .val (.long t1), .second, .val (.int flags), .val (.int f), .val (.int gg), .val (.int (1 : Int32)), .val (.int (1 : Int32)), .val (.int (2 : Int32)), .val (.ref b394), .val (.int (0 : Int32)), .val (.int (1 : Int32)), .unset, .unset] []
          refine w_iload ok at_131 rfl ?_
          refine w_iload ok at_133 rfl ?_
          refine w_iload ok at_135 rfl ?_
          refine w_callS ok (y := (⟨"com/example/rowan/rowan/store/IdleHeapRenumberPinLaw", "map", "(III)I"⟩ : MethodName)) (argsL := [(.int (0 : Int32)), (.int (1 : Int32)), (.int (2 : Int32))]) (rest := []) at_137 (hw _ (List.mem_of_getElem? (i := 68) rfl)) (hw _ (List.mem_of_getElem? (i := 69) rfl)) (hw _ (List.mem_of_getElem? (i := 70) rfl)) (hw _ (List.mem_of_getElem? (i := 71) rfl)) (by decide) pd_28III29I rfl rfl (by decide) (Nat.le_of_ble_eq_true rfl) (by decide) (by decide) (fun z0 => rm_map l Z a0 hw [] n0 h413 z0 (0 : Int32) (1 : Int32) (2 : Int32)) (fun v416 h417 qv416 => ?_)
          obtain ⟨rfl, rfl⟩ := qv416
          rw [show own_map (0 : Int32) (1 : Int32) (2 : Int32) = (0 : Int32) from rfl]
          show W K l _ n0 _ h413 7 16 140 #[.val (.long t0), .second, .val (.long t1), .second, .val (.int flags), .val (.int f), .val (.int gg), .val (.int (1 : Int32)), .val (.int (1 : Int32)), .val (.int (2 : Int32)), .val (.ref b394), .val (.int (0 : Int32)), .val (.int (1 : Int32)), .unset, .unset] [(.int (0 : Int32))]
          refine w_istore ok at_140 (L' := #[.val (.long t0), .second, .val (.long t1), .second, .val (.int flags), .val (.int f), .val (.int gg), .val (.int (1 : Int32)), .val (.int (1 : Int32)), .val (.int (2 : Int32)), .val (.ref b394), .val (.int (0 : Int32)), .val (.int (1 : Int32)), .val (.int (0 : Int32)), .unset]) rfl ?_
          refine w_aload ok at_142 rfl rfl ?_
          refine w_callV ok (y := (⟨"com/example/rowan/rowan/store/IdleHeap", "first", "()I"⟩ : MethodName)) (a := b394) (argsL := []) (rest := []) at_144 (hw _ (List.mem_of_getElem? (i := 72) rfl)) (hw _ (List.mem_of_getElem? (i := 73) rfl)) (hw _ (List.mem_of_getElem? (i := 75) rfl)) (hw _ (List.mem_of_getElem? (i := 74) rfl)) (hw _ (List.mem_of_getElem? (i := 2) rfl)) (hw _ (List.mem_of_getElem? (i := 76) rfl)) (by decide) A_b394.1 pd_2829I rfl rfl (by decide) (Nat.le_of_ble_eq_true rfl) (by decide) (by decide) (fun z0 => rm_first l Z a0 hw [] n0 h413 z0 b394 fen fti fsl 2 e3 g3 τ3 A_b394 A_fen A_fti A_fsl ge_b394 ge_fen ge_fti ge_fsl nf_0 nf_1 nf_2 nf_3 nf_4 nf_5 (put (put (put (put (fun _ => none) 0 (some t0)) 1 (some t1)) 1 none) 2 (some t1)) P3 H3) (fun v418 h419 qv418 => ?_)
          obtain ⟨rfl, ⟨hs0, rfl⟩ | ⟨y, hy, hs, ey, rfl⟩⟩ := qv418
          · exact absurd hs0 (by decide)
          · skip
            obtain rfl : y = 0 := own_inj hy (by decide) (ey.symm.trans E)
            show W K l _ n0 _ h413 7 16 147 #[.val (.long t0), .second, .val (.long t1), .second, .val (.int flags), .val (.int f), .val (.int gg), .val (.int (1 : Int32)), .val (.int (1 : Int32)), .val (.int (2 : Int32)), .val (.ref b394), .val (.int (0 : Int32)), .val (.int (1 : Int32)), .val (.int (0 : Int32)), .unset] [(.int (0 : Int32))]
            refine w_iload ok at_147 rfl ?_
            refine w_icmp_eq ok at_149 (pc' := 154) (by decide) (fun hc421 => ?_) (fun hc421 => False.elim (by revert hc421; decide))
            show W K l _ n0 _ h413 7 16 154 #[.val (.long t0), .second, .val (.long t1), .second, .val (.int flags), .val (.int f), .val (.int gg), .val (.int (1 : Int32)), .val (.int (1 : Int32)), .val (.int (2 : Int32)), .val (.ref b394), .val (.int (0 : Int32)), .val (.int (1 : Int32)), .val (.int (0 : Int32)), .unset] []
            refine w_aload ok at_154 rfl rfl ?_
            refine w_iload ok at_156 rfl ?_
            refine w_callV ok (y := (⟨"com/example/rowan/rowan/store/IdleHeap", "remove", "(I)V"⟩ : MethodName)) (a := b394) (argsL := [(.int (0 : Int32))]) (rest := []) at_158 (hw _ (List.mem_of_getElem? (i := 63) rfl)) (hw _ (List.mem_of_getElem? (i := 64) rfl)) (hw _ (List.mem_of_getElem? (i := 66) rfl)) (hw _ (List.mem_of_getElem? (i := 65) rfl)) (hw _ (List.mem_of_getElem? (i := 2) rfl)) (hw _ (List.mem_of_getElem? (i := 67) rfl)) (by decide) A_b394.1 pd_28I29V rfl rfl (by decide) (Nat.le_of_ble_eq_true rfl) (by decide) (by decide) (fun z0 => rm_remove l Z a0 hw [] n0 h413 z0 b394 fen fti fsl 2 e3 g3 τ3 A_b394 A_fen A_fti A_fsl ge_b394 ge_fen ge_fti ge_fsl nf_0 nf_1 nf_2 nf_3 nf_4 nf_5 (put (put (put (put (fun _ => none) 0 (some t0)) 1 (some t1)) 1 none) 2 (some t1)) P3 H3 0 (by decide)) (fun v423 h424 qv423 => ?_)
            obtain ⟨rfl, sx422, ex422, gx422, τx422, K1, A0, A1, A2, A3, Px422, Hx422⟩ := qv423
            replace A_b394 : Ob Z h424 b394 "com/example/rowan/rowan/store/IdleHeap" fl_IdleHeap [(.ref fen), (.ref fti), (.ref fsl), (.int (Int32.ofNat sx422))] := A0
            replace A_fen := A1
            replace A_fti := A2
            replace A_fsl := A3
            show W K l _ n0 _ h424 7 16 161 #[.val (.long t0), .second, .val (.long t1), .second, .val (.int flags), .val (.int f), .val (.int gg), .val (.int (1 : Int32)), .val (.int (1 : Int32)), .val (.int (2 : Int32)), .val (.ref b394), .val (.int (0 : Int32)), .val (.int (1 : Int32)), .val (.int (0 : Int32)), .unset] []
            refine w_iload ok at_161 rfl ?_
            refine w_iconst ok at_163 (v := (-1 : Int32)) rfl ?_
            refine w_icmp_ne ok at_164 (pc' := 171) (by decide) (fun hc426 => ?_) (fun hc426 => False.elim (by revert hc426; decide))
            show W K l _ n0 _ h424 7 16 171 #[.val (.long t0), .second, .val (.long t1), .second, .val (.int flags), .val (.int f), .val (.int gg), .val (.int (1 : Int32)), .val (.int (1 : Int32)), .val (.int (2 : Int32)), .val (.ref b394), .val (.int (0 : Int32)), .val (.int (1 : Int32)), .val (.int (0 : Int32)), .unset] []
            refine w_iload ok at_171 rfl ?_
            refine w_iload ok at_173 rfl ?_
            refine w_iload ok at_175 rfl ?_
            refine w_callS ok (y := (⟨"com/example/rowan/rowan/store/IdleHeapRenumberPinLaw", "map", "(III)I"⟩ : MethodName)) (argsL := [(.int (1 : Int32)), (.int (1 : Int32)), (.int (2 : Int32))]) (rest := []) at_177 (hw _ (List.mem_of_getElem? (i := 68) rfl)) (hw _ (List.mem_of_getElem? (i := 69) rfl)) (hw _ (List.mem_of_getElem? (i := 70) rfl)) (hw _ (List.mem_of_getElem? (i := 71) rfl)) (by decide) pd_28III29I rfl rfl (by decide) (Nat.le_of_ble_eq_true rfl) (by decide) (by decide) (fun z0 => rm_map l Z a0 hw [] n0 h424 z0 (1 : Int32) (1 : Int32) (2 : Int32)) (fun v427 h428 qv427 => ?_)
            obtain ⟨rfl, rfl⟩ := qv427
            rw [show own_map (1 : Int32) (1 : Int32) (2 : Int32) = (2 : Int32) from rfl]
            show W K l _ n0 _ h424 7 16 180 #[.val (.long t0), .second, .val (.long t1), .second, .val (.int flags), .val (.int f), .val (.int gg), .val (.int (1 : Int32)), .val (.int (1 : Int32)), .val (.int (2 : Int32)), .val (.ref b394), .val (.int (0 : Int32)), .val (.int (1 : Int32)), .val (.int (0 : Int32)), .unset] [(.int (2 : Int32))]
            refine w_istore ok at_180 (L' := #[.val (.long t0), .second, .val (.long t1), .second, .val (.int flags), .val (.int f), .val (.int gg), .val (.int (1 : Int32)), .val (.int (1 : Int32)), .val (.int (2 : Int32)), .val (.ref b394), .val (.int (0 : Int32)), .val (.int (1 : Int32)), .val (.int (0 : Int32)), .val (.int (2 : Int32))]) rfl ?_
            refine w_aload ok at_182 rfl rfl ?_
            refine w_callV ok (y := (⟨"com/example/rowan/rowan/store/IdleHeap", "first", "()I"⟩ : MethodName)) (a := b394) (argsL := []) (rest := []) at_184 (hw _ (List.mem_of_getElem? (i := 72) rfl)) (hw _ (List.mem_of_getElem? (i := 73) rfl)) (hw _ (List.mem_of_getElem? (i := 75) rfl)) (hw _ (List.mem_of_getElem? (i := 74) rfl)) (hw _ (List.mem_of_getElem? (i := 2) rfl)) (hw _ (List.mem_of_getElem? (i := 76) rfl)) (by decide) A_b394.1 pd_2829I rfl rfl (by decide) (Nat.le_of_ble_eq_true rfl) (by decide) (by decide) (fun z0 => rm_first l Z a0 hw [] n0 h424 z0 b394 fen fti fsl sx422 ex422 gx422 τx422 A_b394 A_fen A_fti A_fsl ge_b394 ge_fen ge_fti ge_fsl nf_0 nf_1 nf_2 nf_3 nf_4 nf_5 (put (put (put (put (put (fun _ => none) 0 (some t0)) 1 (some t1)) 1 none) 2 (some t1)) 0 none) Px422 Hx422) (fun v429 h430 qv429 => ?_)
            obtain ⟨rfl, ⟨hs0, rfl⟩ | ⟨y, hy, hs, ey, rfl⟩⟩ := qv429
            · subst hs0; exact (own_none0 Px422 (y := 2) (by decide) rfl).elim
            · have my := (Px422.at hs hy ey).1
              obtain rfl | rfl | rfl | rfl : y = 0 ∨ y = 1 ∨ y = 2 ∨ y = 3 := by omega
              · cases (show none = some _ from my)
              · cases (show none = some _ from my)
              · skip
                show W K l _ n0 _ h424 7 16 187 #[.val (.long t0), .second, .val (.long t1), .second, .val (.int flags), .val (.int f), .val (.int gg), .val (.int (1 : Int32)), .val (.int (1 : Int32)), .val (.int (2 : Int32)), .val (.ref b394), .val (.int (0 : Int32)), .val (.int (1 : Int32)), .val (.int (0 : Int32)), .val (.int (2 : Int32))] [(.int (2 : Int32))]
                refine w_iload ok at_187 rfl ?_
                refine w_icmp_eq ok at_189 (pc' := 194) (by decide) (fun hc432 => ?_) (fun hc432 => False.elim (by revert hc432; decide))
                show W K l _ n0 _ h424 7 16 194 #[.val (.long t0), .second, .val (.long t1), .second, .val (.int flags), .val (.int f), .val (.int gg), .val (.int (1 : Int32)), .val (.int (1 : Int32)), .val (.int (2 : Int32)), .val (.ref b394), .val (.int (0 : Int32)), .val (.int (1 : Int32)), .val (.int (0 : Int32)), .val (.int (2 : Int32))] []
                refine w_iload ok at_194 rfl ?_
                refine w_iconst ok at_196 (v := (-1 : Int32)) rfl ?_
                refine w_icmp_eq ok at_197 (pc' := 218) (by decide) (fun hc434 => False.elim (by revert hc434; decide)) (fun hc434 => ?_)
                show W K l _ n0 _ h424 7 16 200 #[.val (.long t0), .second, .val (.long t1), .second, .val (.int flags), .val (.int f), .val (.int gg), .val (.int (1 : Int32)), .val (.int (1 : Int32)), .val (.int (2 : Int32)), .val (.ref b394), .val (.int (0 : Int32)), .val (.int (1 : Int32)), .val (.int (0 : Int32)), .val (.int (2 : Int32))] []
                refine w_aload ok at_200 rfl rfl ?_
                refine w_iload ok at_202 rfl ?_
                refine w_callV ok (y := (⟨"com/example/rowan/rowan/store/IdleHeap", "remove", "(I)V"⟩ : MethodName)) (a := b394) (argsL := [(.int (2 : Int32))]) (rest := []) at_204 (hw _ (List.mem_of_getElem? (i := 63) rfl)) (hw _ (List.mem_of_getElem? (i := 64) rfl)) (hw _ (List.mem_of_getElem? (i := 66) rfl)) (hw _ (List.mem_of_getElem? (i := 65) rfl)) (hw _ (List.mem_of_getElem? (i := 2) rfl)) (hw _ (List.mem_of_getElem? (i := 67) rfl)) (by decide) A_b394.1 pd_28I29V rfl rfl (by decide) (Nat.le_of_ble_eq_true rfl) (by decide) (by decide) (fun z0 => rm_remove l Z a0 hw [] n0 h424 z0 b394 fen fti fsl sx422 ex422 gx422 τx422 A_b394 A_fen A_fti A_fsl ge_b394 ge_fen ge_fti ge_fsl nf_0 nf_1 nf_2 nf_3 nf_4 nf_5 (put (put (put (put (put (fun _ => none) 0 (some t0)) 1 (some t1)) 1 none) 2 (some t1)) 0 none) Px422 Hx422 2 (by decide)) (fun v436 h437 qv436 => ?_)
                obtain ⟨rfl, sx435, ex435, gx435, τx435, K1, A0, A1, A2, A3, Px435, Hx435⟩ := qv436
                replace A_b394 : Ob Z h437 b394 "com/example/rowan/rowan/store/IdleHeap" fl_IdleHeap [(.ref fen), (.ref fti), (.ref fsl), (.int (Int32.ofNat sx435))] := A0
                replace A_fen := A1
                replace A_fti := A2
                replace A_fsl := A3
                show W K l _ n0 _ h437 7 16 207 #[.val (.long t0), .second, .val (.long t1), .second, .val (.int flags), .val (.int f), .val (.int gg), .val (.int (1 : Int32)), .val (.int (1 : Int32)), .val (.int (2 : Int32)), .val (.ref b394), .val (.int (0 : Int32)), .val (.int (1 : Int32)), .val (.int (0 : Int32)), .val (.int (2 : Int32))] []
                refine w_aload ok at_207 rfl rfl ?_
                refine w_callV ok (y := (⟨"com/example/rowan/rowan/store/IdleHeap", "first", "()I"⟩ : MethodName)) (a := b394) (argsL := []) (rest := []) at_209 (hw _ (List.mem_of_getElem? (i := 72) rfl)) (hw _ (List.mem_of_getElem? (i := 73) rfl)) (hw _ (List.mem_of_getElem? (i := 75) rfl)) (hw _ (List.mem_of_getElem? (i := 74) rfl)) (hw _ (List.mem_of_getElem? (i := 2) rfl)) (hw _ (List.mem_of_getElem? (i := 76) rfl)) (by decide) A_b394.1 pd_2829I rfl rfl (by decide) (Nat.le_of_ble_eq_true rfl) (by decide) (by decide) (fun z0 => rm_first l Z a0 hw [] n0 h437 z0 b394 fen fti fsl sx435 ex435 gx435 τx435 A_b394 A_fen A_fti A_fsl ge_b394 ge_fen ge_fti ge_fsl nf_0 nf_1 nf_2 nf_3 nf_4 nf_5 (put (put (put (put (put (put (fun _ => none) 0 (some t0)) 1 (some t1)) 1 none) 2 (some t1)) 0 none) 2 none) Px435 Hx435) (fun v438 h439 qv438 => ?_)
                obtain ⟨rfl, ⟨hs0, rfl⟩ | ⟨y, hy, hs, ey, rfl⟩⟩ := qv438
                · skip
                  show W K l _ n0 _ h437 7 16 212 #[.val (.long t0), .second, .val (.long t1), .second, .val (.int flags), .val (.int f), .val (.int gg), .val (.int (1 : Int32)), .val (.int (1 : Int32)), .val (.int (2 : Int32)), .val (.ref b394), .val (.int (0 : Int32)), .val (.int (1 : Int32)), .val (.int (0 : Int32)), .val (.int (2 : Int32))] [(.int (-1 : Int32))]
                  refine w_iconst ok at_212 (v := (-1 : Int32)) rfl ?_
                  refine w_icmp_eq ok at_213 (pc' := 218) (by decide) (fun hc441 => ?_) (fun hc441 => False.elim (by revert hc441; decide))
                  show W K l _ n0 _ h437 7 16 218 #[.val (.long t0), .second, .val (.long t1), .second, .val (.int flags), .val (.int f), .val (.int gg), .val (.int (1 : Int32)), .val (.int (1 : Int32)), .val (.int (2 : Int32)), .val (.ref b394), .val (.int (0 : Int32)), .val (.int (1 : Int32)), .val (.int (0 : Int32)), .val (.int (2 : Int32))] []
                  refine w_iconst ok at_218 (v := (1 : Int32)) rfl ?_
                  refine w_bret ok (by simp) at_219 (by decide) (by decide) ?_
                  exact rfl
                · have my := (Px435.at hs hy ey).1
                  obtain rfl | rfl | rfl | rfl : y = 0 ∨ y = 1 ∨ y = 2 ∨ y = 3 := by omega
                  · cases (show none = some _ from my)
                  · cases (show none = some _ from my)
                  · cases (show none = some _ from my)
                  · cases (show none = some _ from my)
              · cases (show none = some _ from my)
        · show W K l _ n0 _ h405 7 16 93 #[.val (.long t0), .second, .val (.long t1), .second, .val (.int flags), .val (.int f), .val (.int gg), .val (.int (1 : Int32)), .val (.int (1 : Int32)), .val (.int (2 : Int32)), .val (.ref b394), .unset, .unset, .unset, .unset] []
          refine w_iconst ok at_93 (v := (1 : Int32)) rfl ?_
          refine w_goto ok at_94 (pc' := 98) (by decide) ?_
          show W K l _ n0 _ h405 7 16 98 #[.val (.long t0), .second, .val (.long t1), .second, .val (.int flags), .val (.int f), .val (.int gg), .val (.int (1 : Int32)), .val (.int (1 : Int32)), .val (.int (2 : Int32)), .val (.ref b394), .unset, .unset, .unset, .unset] [(.int (1 : Int32))]
          obtain ⟨o1, o2⟩ := own_one P1
          have E : e2 0 = Int32.ofNat 1 := own_two P2 H2 hc409
          refine w_istore ok at_98 (L' := #[.val (.long t0), .second, .val (.long t1), .second, .val (.int flags), .val (.int f), .val (.int gg), .val (.int (1 : Int32)), .val (.int (1 : Int32)), .val (.int (2 : Int32)), .val (.ref b394), .val (.int (1 : Int32)), .unset, .unset, .unset]) rfl ?_
          refine w_iload ok at_100 rfl ?_
          refine w_if_eq ok at_102 (pc' := 112) (by decide) (fun hc443 => False.elim (by revert hc443; decide)) (fun hc443 => ?_)
          show W K l _ n0 _ h405 7 16 105 #[.val (.long t0), .second, .val (.long t1), .second, .val (.int flags), .val (.int f), .val (.int gg), .val (.int (1 : Int32)), .val (.int (1 : Int32)), .val (.int (2 : Int32)), .val (.ref b394), .val (.int (1 : Int32)), .unset, .unset, .unset] []
          refine w_iconst ok at_105 (v := (1 : Int32)) rfl ?_
          refine w_iload ok at_106 rfl ?_
          refine w_isub ok at_108 ?_
          show W K l _ n0 _ h405 7 16 109 #[.val (.long t0), .second, .val (.long t1), .second, .val (.int flags), .val (.int f), .val (.int gg), .val (.int (1 : Int32)), .val (.int (1 : Int32)), .val (.int (2 : Int32)), .val (.ref b394), .val (.int (1 : Int32)), .unset, .unset, .unset] [(.int (0 : Int32))]
          refine w_goto ok at_109 (pc' := 113) (by decide) ?_
          refine w_istore ok at_113 (L' := #[.val (.long t0), .second, .val (.long t1), .second, .val (.int flags), .val (.int f), .val (.int gg), .val (.int (1 : Int32)), .val (.int (1 : Int32)), .val (.int (2 : Int32)), .val (.ref b394), .val (.int (1 : Int32)), .val (.int (0 : Int32)), .unset, .unset]) rfl ?_
          refine w_aload ok at_115 rfl rfl ?_
          refine w_iload ok at_117 rfl ?_
          refine w_iload ok at_119 rfl ?_
          refine w_callV ok (y := (⟨"com/example/rowan/rowan/store/IdleHeap", "renumber", "(II)V"⟩ : MethodName)) (a := b394) (argsL := [(.int (1 : Int32)), (.int (2 : Int32))]) (rest := []) at_121 (hw _ (List.mem_of_getElem? (i := 58) rfl)) (hw _ (List.mem_of_getElem? (i := 59) rfl)) (hw _ (List.mem_of_getElem? (i := 61) rfl)) (hw _ (List.mem_of_getElem? (i := 60) rfl)) (hw _ (List.mem_of_getElem? (i := 2) rfl)) (hw _ (List.mem_of_getElem? (i := 62) rfl)) (by decide) A_b394.1 pd_28II29V rfl rfl (by decide) (Nat.le_of_ble_eq_true rfl) (by decide) (by decide) (fun z0 => rm_ren1 l Z a0 hw [] n0 h405 z0 b394 fen fti fsl 2 e2 g2 τ2 A_b394 A_fen A_fti A_fsl ge_b394 ge_fen ge_fti ge_fsl nf_0 nf_1 nf_2 nf_3 nf_4 nf_5 (put (put (fun _ => none) 0 (some t0)) 1 (some t1)) P2 H2 1 2 t1 (by decide) (by decide) rfl rfl) (fun v444 h445 qv444 => ?_)
          obtain ⟨rfl, e3, g3, τ3, K1, A0, A1, A2, A3, P3, H3, r1, r2⟩ := qv444
          replace A_b394 : Ob Z h445 b394 "com/example/rowan/rowan/store/IdleHeap" fl_IdleHeap [(.ref fen), (.ref fti), (.ref fsl), (.int (2 : Int32))] := A0
          replace A_fen := A1
          replace A_fti := A2
          replace A_fsl := A3
          replace E := r1 E
          show W K l _ n0 _ h445 7 16 124 #[.val (.long t0), .second, .val (.long t1), .second, .val (.int flags), .val (.int f), .val (.int gg), .val (.int (1 : Int32)), .val (.int (1 : Int32)), .val (.int (2 : Int32)), .val (.ref b394), .val (.int (1 : Int32)), .val (.int (0 : Int32)), .unset, .unset] []
          refine w_aload ok at_124 rfl rfl ?_
          refine w_iload ok at_126 rfl ?_
          refine w_callV ok (y := (⟨"com/example/rowan/rowan/store/IdleHeap", "remove", "(I)V"⟩ : MethodName)) (a := b394) (argsL := [(.int (1 : Int32))]) (rest := []) at_128 (hw _ (List.mem_of_getElem? (i := 63) rfl)) (hw _ (List.mem_of_getElem? (i := 64) rfl)) (hw _ (List.mem_of_getElem? (i := 66) rfl)) (hw _ (List.mem_of_getElem? (i := 65) rfl)) (hw _ (List.mem_of_getElem? (i := 2) rfl)) (hw _ (List.mem_of_getElem? (i := 67) rfl)) (by decide) A_b394.1 pd_28I29V rfl rfl (by decide) (Nat.le_of_ble_eq_true rfl) (by decide) (by decide) (fun z0 => rm_remove0 l Z a0 hw [] n0 h445 z0 b394 fen fti fsl 2 e3 g3 τ3 A_b394 A_fen A_fti A_fsl ge_b394 ge_fen ge_fti ge_fsl nf_0 nf_1 nf_2 nf_3 nf_4 nf_5 (put (put (put (put (fun _ => none) 0 (some t0)) 1 (some t1)) 1 none) 2 (some t1)) P3 H3 1 (by decide) rfl) (fun v446 h447 qv446 => ?_)
          obtain ⟨rfl, rfl⟩ := qv446
          show W K l _ n0 _ h445 7 16 131 #[.val (.long t0), .second, .val (.long t1), .second, .val (.int flags), .val (.int f), .val (.int gg), .val (.int (1 : Int32)), .val (.int (1 : Int32)), .val (.int (2 : Int32)), .val (.ref b394), .val (.int (1 : Int32)), .val (.int (0 : Int32)), .unset, .unset] []
          refine w_iload ok at_131 rfl ?_
          refine w_iload ok at_133 rfl ?_
          refine w_iload ok at_135 rfl ?_
          refine w_callS ok (y := (⟨"com/example/rowan/rowan/store/IdleHeapRenumberPinLaw", "map", "(III)I"⟩ : MethodName)) (argsL := [(.int (1 : Int32)), (.int (1 : Int32)), (.int (2 : Int32))]) (rest := []) at_137 (hw _ (List.mem_of_getElem? (i := 68) rfl)) (hw _ (List.mem_of_getElem? (i := 69) rfl)) (hw _ (List.mem_of_getElem? (i := 70) rfl)) (hw _ (List.mem_of_getElem? (i := 71) rfl)) (by decide) pd_28III29I rfl rfl (by decide) (Nat.le_of_ble_eq_true rfl) (by decide) (by decide) (fun z0 => rm_map l Z a0 hw [] n0 h445 z0 (1 : Int32) (1 : Int32) (2 : Int32)) (fun v448 h449 qv448 => ?_)
          obtain ⟨rfl, rfl⟩ := qv448
          rw [show own_map (1 : Int32) (1 : Int32) (2 : Int32) = (2 : Int32) from rfl]
          show W K l _ n0 _ h445 7 16 140 #[.val (.long t0), .second, .val (.long t1), .second, .val (.int flags), .val (.int f), .val (.int gg), .val (.int (1 : Int32)), .val (.int (1 : Int32)), .val (.int (2 : Int32)), .val (.ref b394), .val (.int (1 : Int32)), .val (.int (0 : Int32)), .unset, .unset] [(.int (2 : Int32))]
          refine w_istore ok at_140 (L' := #[.val (.long t0), .second, .val (.long t1), .second, .val (.int flags), .val (.int f), .val (.int gg), .val (.int (1 : Int32)), .val (.int (1 : Int32)), .val (.int (2 : Int32)), .val (.ref b394), .val (.int (1 : Int32)), .val (.int (0 : Int32)), .val (.int (2 : Int32)), .unset]) rfl ?_
          refine w_aload ok at_142 rfl rfl ?_
          refine w_callV ok (y := (⟨"com/example/rowan/rowan/store/IdleHeap", "first", "()I"⟩ : MethodName)) (a := b394) (argsL := []) (rest := []) at_144 (hw _ (List.mem_of_getElem? (i := 72) rfl)) (hw _ (List.mem_of_getElem? (i := 73) rfl)) (hw _ (List.mem_of_getElem? (i := 75) rfl)) (hw _ (List.mem_of_getElem? (i := 74) rfl)) (hw _ (List.mem_of_getElem? (i := 2) rfl)) (hw _ (List.mem_of_getElem? (i := 76) rfl)) (by decide) A_b394.1 pd_2829I rfl rfl (by decide) (Nat.le_of_ble_eq_true rfl) (by decide) (by decide) (fun z0 => rm_first l Z a0 hw [] n0 h445 z0 b394 fen fti fsl 2 e3 g3 τ3 A_b394 A_fen A_fti A_fsl ge_b394 ge_fen ge_fti ge_fsl nf_0 nf_1 nf_2 nf_3 nf_4 nf_5 (put (put (put (put (fun _ => none) 0 (some t0)) 1 (some t1)) 1 none) 2 (some t1)) P3 H3) (fun v450 h451 qv450 => ?_)
          obtain ⟨rfl, ⟨hs0, rfl⟩ | ⟨y, hy, hs, ey, rfl⟩⟩ := qv450
          · exact absurd hs0 (by decide)
          · skip
            obtain rfl : y = 2 := own_inj hy (by decide) (ey.symm.trans E)
            show W K l _ n0 _ h445 7 16 147 #[.val (.long t0), .second, .val (.long t1), .second, .val (.int flags), .val (.int f), .val (.int gg), .val (.int (1 : Int32)), .val (.int (1 : Int32)), .val (.int (2 : Int32)), .val (.ref b394), .val (.int (1 : Int32)), .val (.int (0 : Int32)), .val (.int (2 : Int32)), .unset] [(.int (2 : Int32))]
            refine w_iload ok at_147 rfl ?_
            refine w_icmp_eq ok at_149 (pc' := 154) (by decide) (fun hc453 => ?_) (fun hc453 => False.elim (by revert hc453; decide))
            show W K l _ n0 _ h445 7 16 154 #[.val (.long t0), .second, .val (.long t1), .second, .val (.int flags), .val (.int f), .val (.int gg), .val (.int (1 : Int32)), .val (.int (1 : Int32)), .val (.int (2 : Int32)), .val (.ref b394), .val (.int (1 : Int32)), .val (.int (0 : Int32)), .val (.int (2 : Int32)), .unset] []
            refine w_aload ok at_154 rfl rfl ?_
            refine w_iload ok at_156 rfl ?_
            refine w_callV ok (y := (⟨"com/example/rowan/rowan/store/IdleHeap", "remove", "(I)V"⟩ : MethodName)) (a := b394) (argsL := [(.int (2 : Int32))]) (rest := []) at_158 (hw _ (List.mem_of_getElem? (i := 63) rfl)) (hw _ (List.mem_of_getElem? (i := 64) rfl)) (hw _ (List.mem_of_getElem? (i := 66) rfl)) (hw _ (List.mem_of_getElem? (i := 65) rfl)) (hw _ (List.mem_of_getElem? (i := 2) rfl)) (hw _ (List.mem_of_getElem? (i := 67) rfl)) (by decide) A_b394.1 pd_28I29V rfl rfl (by decide) (Nat.le_of_ble_eq_true rfl) (by decide) (by decide) (fun z0 => rm_remove l Z a0 hw [] n0 h445 z0 b394 fen fti fsl 2 e3 g3 τ3 A_b394 A_fen A_fti A_fsl ge_b394 ge_fen ge_fti ge_fsl nf_0 nf_1 nf_2 nf_3 nf_4 nf_5 (put (put (put (put (fun _ => none) 0 (some t0)) 1 (some t1)) 1 none) 2 (some t1)) P3 H3 2 (by decide)) (fun v455 h456 qv455 => ?_)
            obtain ⟨rfl, sx454, ex454, gx454, τx454, K1, A0, A1, A2, A3, Px454, Hx454⟩ := qv455
            replace A_b394 : Ob Z h456 b394 "com/example/rowan/rowan/store/IdleHeap" fl_IdleHeap [(.ref fen), (.ref fti), (.ref fsl), (.int (Int32.ofNat sx454))] := A0
            replace A_fen := A1
            replace A_fti := A2
            replace A_fsl := A3
            show W K l _ n0 _ h456 7 16 161 #[.val (.long t0), .second, .val (.long t1), .second, .val (.int flags), .val (.int f), .val (.int gg), .val (.int (1 : Int32)), .val (.int (1 : Int32)), .val (.int (2 : Int32)), .val (.ref b394), .val (.int (1 : Int32)), .val (.int (0 : Int32)), .val (.int (2 : Int32)), .unset] []
            refine w_iload ok at_161 rfl ?_
            refine w_iconst ok at_163 (v := (-1 : Int32)) rfl ?_
            refine w_icmp_ne ok at_164 (pc' := 171) (by decide) (fun hc458 => ?_) (fun hc458 => False.elim (by revert hc458; decide))
            show W K l _ n0 _ h456 7 16 171 #[.val (.long t0), .second, .val (.long t1), .second, .val (.int flags), .val (.int f), .val (.int gg), .val (.int (1 : Int32)), .val (.int (1 : Int32)), .val (.int (2 : Int32)), .val (.ref b394), .val (.int (1 : Int32)), .val (.int (0 : Int32)), .val (.int (2 : Int32)), .unset] []
            refine w_iload ok at_171 rfl ?_
            refine w_iload ok at_173 rfl ?_
            refine w_iload ok at_175 rfl ?_
            refine w_callS ok (y := (⟨"com/example/rowan/rowan/store/IdleHeapRenumberPinLaw", "map", "(III)I"⟩ : MethodName)) (argsL := [(.int (0 : Int32)), (.int (1 : Int32)), (.int (2 : Int32))]) (rest := []) at_177 (hw _ (List.mem_of_getElem? (i := 68) rfl)) (hw _ (List.mem_of_getElem? (i := 69) rfl)) (hw _ (List.mem_of_getElem? (i := 70) rfl)) (hw _ (List.mem_of_getElem? (i := 71) rfl)) (by decide) pd_28III29I rfl rfl (by decide) (Nat.le_of_ble_eq_true rfl) (by decide) (by decide) (fun z0 => rm_map l Z a0 hw [] n0 h456 z0 (0 : Int32) (1 : Int32) (2 : Int32)) (fun v459 h460 qv459 => ?_)
            obtain ⟨rfl, rfl⟩ := qv459
            rw [show own_map (0 : Int32) (1 : Int32) (2 : Int32) = (0 : Int32) from rfl]
            show W K l _ n0 _ h456 7 16 180 #[.val (.long t0), .second, .val (.long t1), .second, .val (.int flags), .val (.int f), .val (.int gg), .val (.int (1 : Int32)), .val (.int (1 : Int32)), .val (.int (2 : Int32)), .val (.ref b394), .val (.int (1 : Int32)), .val (.int (0 : Int32)), .val (.int (2 : Int32)), .unset] [(.int (0 : Int32))]
            refine w_istore ok at_180 (L' := #[.val (.long t0), .second, .val (.long t1), .second, .val (.int flags), .val (.int f), .val (.int gg), .val (.int (1 : Int32)), .val (.int (1 : Int32)), .val (.int (2 : Int32)), .val (.ref b394), .val (.int (1 : Int32)), .val (.int (0 : Int32)), .val (.int (2 : Int32)), .val (.int (0 : Int32))]) rfl ?_
            refine w_aload ok at_182 rfl rfl ?_
            refine w_callV ok (y := (⟨"com/example/rowan/rowan/store/IdleHeap", "first", "()I"⟩ : MethodName)) (a := b394) (argsL := []) (rest := []) at_184 (hw _ (List.mem_of_getElem? (i := 72) rfl)) (hw _ (List.mem_of_getElem? (i := 73) rfl)) (hw _ (List.mem_of_getElem? (i := 75) rfl)) (hw _ (List.mem_of_getElem? (i := 74) rfl)) (hw _ (List.mem_of_getElem? (i := 2) rfl)) (hw _ (List.mem_of_getElem? (i := 76) rfl)) (by decide) A_b394.1 pd_2829I rfl rfl (by decide) (Nat.le_of_ble_eq_true rfl) (by decide) (by decide) (fun z0 => rm_first l Z a0 hw [] n0 h456 z0 b394 fen fti fsl sx454 ex454 gx454 τx454 A_b394 A_fen A_fti A_fsl ge_b394 ge_fen ge_fti ge_fsl nf_0 nf_1 nf_2 nf_3 nf_4 nf_5 (put (put (put (put (put (fun _ => none) 0 (some t0)) 1 (some t1)) 1 none) 2 (some t1)) 2 none) Px454 Hx454) (fun v461 h462 qv461 => ?_)
            obtain ⟨rfl, ⟨hs0, rfl⟩ | ⟨y, hy, hs, ey, rfl⟩⟩ := qv461
            · subst hs0; exact (own_none0 Px454 (y := 0) (by decide) rfl).elim
            · have my := (Px454.at hs hy ey).1
              obtain rfl | rfl | rfl | rfl : y = 0 ∨ y = 1 ∨ y = 2 ∨ y = 3 := by omega
              · skip
                show W K l _ n0 _ h456 7 16 187 #[.val (.long t0), .second, .val (.long t1), .second, .val (.int flags), .val (.int f), .val (.int gg), .val (.int (1 : Int32)), .val (.int (1 : Int32)), .val (.int (2 : Int32)), .val (.ref b394), .val (.int (1 : Int32)), .val (.int (0 : Int32)), .val (.int (2 : Int32)), .val (.int (0 : Int32))] [(.int (0 : Int32))]
                refine w_iload ok at_187 rfl ?_
                refine w_icmp_eq ok at_189 (pc' := 194) (by decide) (fun hc464 => ?_) (fun hc464 => False.elim (by revert hc464; decide))
                show W K l _ n0 _ h456 7 16 194 #[.val (.long t0), .second, .val (.long t1), .second, .val (.int flags), .val (.int f), .val (.int gg), .val (.int (1 : Int32)), .val (.int (1 : Int32)), .val (.int (2 : Int32)), .val (.ref b394), .val (.int (1 : Int32)), .val (.int (0 : Int32)), .val (.int (2 : Int32)), .val (.int (0 : Int32))] []
                refine w_iload ok at_194 rfl ?_
                refine w_iconst ok at_196 (v := (-1 : Int32)) rfl ?_
                refine w_icmp_eq ok at_197 (pc' := 218) (by decide) (fun hc466 => False.elim (by revert hc466; decide)) (fun hc466 => ?_)
                show W K l _ n0 _ h456 7 16 200 #[.val (.long t0), .second, .val (.long t1), .second, .val (.int flags), .val (.int f), .val (.int gg), .val (.int (1 : Int32)), .val (.int (1 : Int32)), .val (.int (2 : Int32)), .val (.ref b394), .val (.int (1 : Int32)), .val (.int (0 : Int32)), .val (.int (2 : Int32)), .val (.int (0 : Int32))] []
                refine w_aload ok at_200 rfl rfl ?_
                refine w_iload ok at_202 rfl ?_
                refine w_callV ok (y := (⟨"com/example/rowan/rowan/store/IdleHeap", "remove", "(I)V"⟩ : MethodName)) (a := b394) (argsL := [(.int (0 : Int32))]) (rest := []) at_204 (hw _ (List.mem_of_getElem? (i := 63) rfl)) (hw _ (List.mem_of_getElem? (i := 64) rfl)) (hw _ (List.mem_of_getElem? (i := 66) rfl)) (hw _ (List.mem_of_getElem? (i := 65) rfl)) (hw _ (List.mem_of_getElem? (i := 2) rfl)) (hw _ (List.mem_of_getElem? (i := 67) rfl)) (by decide) A_b394.1 pd_28I29V rfl rfl (by decide) (Nat.le_of_ble_eq_true rfl) (by decide) (by decide) (fun z0 => rm_remove l Z a0 hw [] n0 h456 z0 b394 fen fti fsl sx454 ex454 gx454 τx454 A_b394 A_fen A_fti A_fsl ge_b394 ge_fen ge_fti ge_fsl nf_0 nf_1 nf_2 nf_3 nf_4 nf_5 (put (put (put (put (put (fun _ => none) 0 (some t0)) 1 (some t1)) 1 none) 2 (some t1)) 2 none) Px454 Hx454 0 (by decide)) (fun v468 h469 qv468 => ?_)
                obtain ⟨rfl, sx467, ex467, gx467, τx467, K1, A0, A1, A2, A3, Px467, Hx467⟩ := qv468
                replace A_b394 : Ob Z h469 b394 "com/example/rowan/rowan/store/IdleHeap" fl_IdleHeap [(.ref fen), (.ref fti), (.ref fsl), (.int (Int32.ofNat sx467))] := A0
                replace A_fen := A1
                replace A_fti := A2
                replace A_fsl := A3
                show W K l _ n0 _ h469 7 16 207 #[.val (.long t0), .second, .val (.long t1), .second, .val (.int flags), .val (.int f), .val (.int gg), .val (.int (1 : Int32)), .val (.int (1 : Int32)), .val (.int (2 : Int32)), .val (.ref b394), .val (.int (1 : Int32)), .val (.int (0 : Int32)), .val (.int (2 : Int32)), .val (.int (0 : Int32))] []
                refine w_aload ok at_207 rfl rfl ?_
                refine w_callV ok (y := (⟨"com/example/rowan/rowan/store/IdleHeap", "first", "()I"⟩ : MethodName)) (a := b394) (argsL := []) (rest := []) at_209 (hw _ (List.mem_of_getElem? (i := 72) rfl)) (hw _ (List.mem_of_getElem? (i := 73) rfl)) (hw _ (List.mem_of_getElem? (i := 75) rfl)) (hw _ (List.mem_of_getElem? (i := 74) rfl)) (hw _ (List.mem_of_getElem? (i := 2) rfl)) (hw _ (List.mem_of_getElem? (i := 76) rfl)) (by decide) A_b394.1 pd_2829I rfl rfl (by decide) (Nat.le_of_ble_eq_true rfl) (by decide) (by decide) (fun z0 => rm_first l Z a0 hw [] n0 h469 z0 b394 fen fti fsl sx467 ex467 gx467 τx467 A_b394 A_fen A_fti A_fsl ge_b394 ge_fen ge_fti ge_fsl nf_0 nf_1 nf_2 nf_3 nf_4 nf_5 (put (put (put (put (put (put (fun _ => none) 0 (some t0)) 1 (some t1)) 1 none) 2 (some t1)) 2 none) 0 none) Px467 Hx467) (fun v470 h471 qv470 => ?_)
                obtain ⟨rfl, ⟨hs0, rfl⟩ | ⟨y, hy, hs, ey, rfl⟩⟩ := qv470
                · skip
                  show W K l _ n0 _ h469 7 16 212 #[.val (.long t0), .second, .val (.long t1), .second, .val (.int flags), .val (.int f), .val (.int gg), .val (.int (1 : Int32)), .val (.int (1 : Int32)), .val (.int (2 : Int32)), .val (.ref b394), .val (.int (1 : Int32)), .val (.int (0 : Int32)), .val (.int (2 : Int32)), .val (.int (0 : Int32))] [(.int (-1 : Int32))]
                  refine w_iconst ok at_212 (v := (-1 : Int32)) rfl ?_
                  refine w_icmp_eq ok at_213 (pc' := 218) (by decide) (fun hc473 => ?_) (fun hc473 => False.elim (by revert hc473; decide))
                  show W K l _ n0 _ h469 7 16 218 #[.val (.long t0), .second, .val (.long t1), .second, .val (.int flags), .val (.int f), .val (.int gg), .val (.int (1 : Int32)), .val (.int (1 : Int32)), .val (.int (2 : Int32)), .val (.ref b394), .val (.int (1 : Int32)), .val (.int (0 : Int32)), .val (.int (2 : Int32)), .val (.int (0 : Int32))] []
                  refine w_iconst ok at_218 (v := (1 : Int32)) rfl ?_
                  refine w_bret ok (by simp) at_219 (by decide) (by decide) ?_
                  exact rfl
                · have my := (Px467.at hs hy ey).1
                  obtain rfl | rfl | rfl | rfl : y = 0 ∨ y = 1 ∨ y = 2 ∨ y = 3 := by omega
                  · cases (show none = some _ from my)
                  · cases (show none = some _ from my)
                  · cases (show none = some _ from my)
                  · cases (show none = some _ from my)
              · cases (show none = some _ from my)
              · cases (show none = some _ from my)
              · cases (show none = some _ from my)
      · skip
        rw [eg]
        show W K l _ n0 _ h0 0 0 45 #[.val (.long t0), .second, .val (.long t1), .second, .val (.int flags), .val (.int f), .val (.int gg), .val (.int (1 : Int32)), .val (.int (1 : Int32)), .unset, .unset, .unset, .unset, .unset, .unset] [(.int (1 : Int32)), (.int (2 : Int32))]
        refine w_iadd ok at_45 ?_
        show W K l _ n0 _ h0 0 0 46 #[.val (.long t0), .second, .val (.long t1), .second, .val (.int flags), .val (.int f), .val (.int gg), .val (.int (1 : Int32)), .val (.int (1 : Int32)), .unset, .unset, .unset, .unset, .unset, .unset] [(.int (3 : Int32))]
        refine w_istore ok at_46 (L' := #[.val (.long t0), .second, .val (.long t1), .second, .val (.int flags), .val (.int f), .val (.int gg), .val (.int (1 : Int32)), .val (.int (1 : Int32)), .val (.int (3 : Int32)), .unset, .unset, .unset, .unset, .unset]) rfl ?_
        refine w_new ok at_48 (hw _ (List.mem_of_getElem? (i := 0) rfl)) (hw _ (List.mem_of_getElem? (i := 1) rfl)) (hw _ (List.mem_of_getElem? (i := 2) rfl)) (la_IdleHeap hw) (by decide) (by decide) (fun h475 b474 ea_b474 ge_b474 E_b474 A_b474 => ?_)
        replace A_b474 : Ob Z h475 b474 "com/example/rowan/rowan/store/IdleHeap" fl_IdleHeap [.null, .null, .null, (.int (0 : Int32))] := A_b474
        refine w_dup ok at_51 rfl ?_
        refine w_callI ok (y := (⟨"com/example/rowan/rowan/store/IdleHeap", "<init>", "()V"⟩ : MethodName)) (a := b474) (argsL := []) (rest := [(.ref b474)]) at_52 rfl (hw _ (List.mem_of_getElem? (i := 3) rfl)) (hw _ (List.mem_of_getElem? (i := 4) rfl)) (hw _ (List.mem_of_getElem? (i := 2) rfl)) (hw _ (List.mem_of_getElem? (i := 5) rfl)) (by decide) pd_2829V rfl rfl (by decide) (Nat.le_of_ble_eq_true rfl) (by decide) (by decide) (fun z0 => rm_ctor l Z a0 hw [] n0 h475 z0 b474 A_b474 ge_b474) (fun v476 h477 qv476 => ?_)
        obtain ⟨rfl, een, eti, esl, ⟨sz_een, sz_eti, sz_esl⟩, ⟨ge_een, ge_eti, ge_esl⟩, ⟨ne_0, ne_1, ne_2, ne_3, ne_4, ne_5⟩, K1, A1, A_een, A_eti, A_esl⟩ := qv476
        have ne_b474_een : b474 ≠ een := Nat.ne_of_lt (Nat.lt_of_lt_of_le A_b474.lt sz_een)
        have ne_b474_eti : b474 ≠ eti := Nat.ne_of_lt (Nat.lt_of_lt_of_le A_b474.lt sz_eti)
        have ne_b474_esl : b474 ≠ esl := Nat.ne_of_lt (Nat.lt_of_lt_of_le A_b474.lt sz_esl)
        replace A_b474 := A1
        show W K l _ n0 _ h477 4 4 55 #[.val (.long t0), .second, .val (.long t1), .second, .val (.int flags), .val (.int f), .val (.int gg), .val (.int (1 : Int32)), .val (.int (1 : Int32)), .val (.int (3 : Int32)), .unset, .unset, .unset, .unset, .unset] [(.ref b474)]
        refine w_astore ok at_55 rfl (L' := #[.val (.long t0), .second, .val (.long t1), .second, .val (.int flags), .val (.int f), .val (.int gg), .val (.int (1 : Int32)), .val (.int (1 : Int32)), .val (.int (3 : Int32)), .val (.ref b474), .unset, .unset, .unset, .unset]) rfl ?_
        refine w_aload ok at_57 rfl rfl ?_
        refine w_iconst ok at_59 (v := (4 : Int32)) rfl ?_
        refine w_callV ok (y := (⟨"com/example/rowan/rowan/store/IdleHeap", "resize", "(I)V"⟩ : MethodName)) (a := b474) (argsL := [(.int (4 : Int32))]) (rest := []) at_60 (hw _ (List.mem_of_getElem? (i := 17) rfl)) (hw _ (List.mem_of_getElem? (i := 18) rfl)) (hw _ (List.mem_of_getElem? (i := 20) rfl)) (hw _ (List.mem_of_getElem? (i := 19) rfl)) (hw _ (List.mem_of_getElem? (i := 2) rfl)) (hw _ (List.mem_of_getElem? (i := 21) rfl)) (by decide) A_b474.1 pd_28I29V rfl rfl (by decide) (Nat.le_of_ble_eq_true rfl) (by decide) (by decide) (fun z0 => rm_resize l Z a0 hw [] n0 h477 z0 b474 een eti esl A_b474 A_een A_eti A_esl ge_b474 ne_0 ne_1 ne_2 ne_3 ne_4 ne_5) (fun v478 h479 qv478 => ?_)
        obtain ⟨rfl, fen, fti, fsl, ⟨sz_fen, sz_fti, sz_fsl⟩, ⟨ge_fen, ge_fti, ge_fsl⟩, ⟨nf_0, nf_1, nf_2, nf_3, nf_4, nf_5⟩, K1, A1, A_fen, A_fti, A_fsl⟩ := qv478
        have ne_b474_fen : b474 ≠ fen := Nat.ne_of_lt (Nat.lt_of_lt_of_le A_b474.lt sz_fen)
        have ne_een_fen : een ≠ fen := Nat.ne_of_lt (Nat.lt_of_lt_of_le A_een.lt sz_fen)
        have ne_eti_fen : eti ≠ fen := Nat.ne_of_lt (Nat.lt_of_lt_of_le A_eti.lt sz_fen)
        have ne_esl_fen : esl ≠ fen := Nat.ne_of_lt (Nat.lt_of_lt_of_le A_esl.lt sz_fen)
        have ne_b474_fti : b474 ≠ fti := Nat.ne_of_lt (Nat.lt_of_lt_of_le A_b474.lt sz_fti)
        have ne_een_fti : een ≠ fti := Nat.ne_of_lt (Nat.lt_of_lt_of_le A_een.lt sz_fti)
        have ne_eti_fti : eti ≠ fti := Nat.ne_of_lt (Nat.lt_of_lt_of_le A_eti.lt sz_fti)
        have ne_esl_fti : esl ≠ fti := Nat.ne_of_lt (Nat.lt_of_lt_of_le A_esl.lt sz_fti)
        have ne_b474_fsl : b474 ≠ fsl := Nat.ne_of_lt (Nat.lt_of_lt_of_le A_b474.lt sz_fsl)
        have ne_een_fsl : een ≠ fsl := Nat.ne_of_lt (Nat.lt_of_lt_of_le A_een.lt sz_fsl)
        have ne_eti_fsl : eti ≠ fsl := Nat.ne_of_lt (Nat.lt_of_lt_of_le A_eti.lt sz_fsl)
        have ne_esl_fsl : esl ≠ fsl := Nat.ne_of_lt (Nat.lt_of_lt_of_le A_esl.lt sz_fsl)
        replace A_een := A_een.keep K1 (ninS (Ne.symm ne_0) nin0)
        replace A_eti := A_eti.keep K1 (ninS (Ne.symm ne_1) nin0)
        replace A_esl := A_esl.keep K1 (ninS (Ne.symm ne_2) nin0)
        replace A_b474 := A1
        show W K l _ n0 _ h479 7 16 63 #[.val (.long t0), .second, .val (.long t1), .second, .val (.int flags), .val (.int f), .val (.int gg), .val (.int (1 : Int32)), .val (.int (1 : Int32)), .val (.int (3 : Int32)), .val (.ref b474), .unset, .unset, .unset, .unset] []
        refine w_aload ok at_63 rfl rfl ?_
        refine w_iconst ok at_65 (v := (0 : Int32)) rfl ?_
        refine w_lloadN ok at_66 rfl ?_
        refine w_callV ok (y := (⟨"com/example/rowan/rowan/store/IdleHeap", "add", "(IJ)V"⟩ : MethodName)) (a := b474) (argsL := [(.int (0 : Int32)), (.long t0)]) (rest := []) at_67 (hw _ (List.mem_of_getElem? (i := 43) rfl)) (hw _ (List.mem_of_getElem? (i := 44) rfl)) (hw _ (List.mem_of_getElem? (i := 46) rfl)) (hw _ (List.mem_of_getElem? (i := 45) rfl)) (hw _ (List.mem_of_getElem? (i := 2) rfl)) (hw _ (List.mem_of_getElem? (i := 47) rfl)) (by decide) A_b474.1 pd_28IJ29V rfl rfl (by decide) (Nat.le_of_ble_eq_true rfl) (by decide) (by decide) (fun z0 => rm_add l Z a0 hw [] n0 h479 z0 b474 fen fti fsl 0 (fun _ => 0) (fun _ => -1) (fun _ => 0) A_b474 A_fen A_fti A_fsl ge_b474 ge_fen ge_fti ge_fsl nf_0 nf_1 nf_2 nf_3 nf_4 nf_5 (fun _ => none) own_pp0 own_ho0 0 t0 (by decide) rfl (by decide)) (fun v480 h481 qv480 => ?_)
        obtain ⟨rfl, e1, g1, τ1, K1, A0, A1, A2, A3, P1, H1, E1⟩ := qv480
        replace A_b474 : Ob Z h481 b474 "com/example/rowan/rowan/store/IdleHeap" fl_IdleHeap [(.ref fen), (.ref fti), (.ref fsl), (.int (1 : Int32))] := A0
        replace A_fen := A1
        replace A_fti := A2
        replace A_fsl := A3
        show W K l _ n0 _ h481 7 16 70 #[.val (.long t0), .second, .val (.long t1), .second, .val (.int flags), .val (.int f), .val (.int gg), .val (.int (1 : Int32)), .val (.int (1 : Int32)), .val (.int (3 : Int32)), .val (.ref b474), .unset, .unset, .unset, .unset] []
        refine w_iload ok at_70 rfl ?_
        refine w_if_eq ok at_72 (pc' := 82) (by decide) (fun hc483 => False.elim (by revert hc483; decide)) (fun hc483 => ?_)
        show W K l _ n0 _ h481 7 16 75 #[.val (.long t0), .second, .val (.long t1), .second, .val (.int flags), .val (.int f), .val (.int gg), .val (.int (1 : Int32)), .val (.int (1 : Int32)), .val (.int (3 : Int32)), .val (.ref b474), .unset, .unset, .unset, .unset] []
        refine w_aload ok at_75 rfl rfl ?_
        refine w_iconst ok at_77 (v := (1 : Int32)) rfl ?_
        refine w_lloadN ok at_78 rfl ?_
        refine w_callV ok (y := (⟨"com/example/rowan/rowan/store/IdleHeap", "add", "(IJ)V"⟩ : MethodName)) (a := b474) (argsL := [(.int (1 : Int32)), (.long t1)]) (rest := []) at_79 (hw _ (List.mem_of_getElem? (i := 43) rfl)) (hw _ (List.mem_of_getElem? (i := 44) rfl)) (hw _ (List.mem_of_getElem? (i := 46) rfl)) (hw _ (List.mem_of_getElem? (i := 45) rfl)) (hw _ (List.mem_of_getElem? (i := 2) rfl)) (hw _ (List.mem_of_getElem? (i := 47) rfl)) (by decide) A_b474.1 pd_28IJ29V rfl rfl (by decide) (Nat.le_of_ble_eq_true rfl) (by decide) (by decide) (fun z0 => rm_add l Z a0 hw [] n0 h481 z0 b474 fen fti fsl 1 e1 g1 τ1 A_b474 A_fen A_fti A_fsl ge_b474 ge_fen ge_fti ge_fsl nf_0 nf_1 nf_2 nf_3 nf_4 nf_5 (put (fun _ => none) 0 (some t0)) P1 H1 1 t1 (by decide) rfl (by decide)) (fun v484 h485 qv484 => ?_)
        obtain ⟨rfl, e2, g2, τ2, K1, A0, A1, A2, A3, P2, H2, E2⟩ := qv484
        replace A_b474 : Ob Z h485 b474 "com/example/rowan/rowan/store/IdleHeap" fl_IdleHeap [(.ref fen), (.ref fti), (.ref fsl), (.int (2 : Int32))] := A0
        replace A_fen := A1
        replace A_fti := A2
        replace A_fsl := A3
        show W K l _ n0 _ h485 7 16 82 #[.val (.long t0), .second, .val (.long t1), .second, .val (.int flags), .val (.int f), .val (.int gg), .val (.int (1 : Int32)), .val (.int (1 : Int32)), .val (.int (3 : Int32)), .val (.ref b474), .unset, .unset, .unset, .unset] []
        refine w_iload ok at_82 rfl ?_
        refine w_if_eq ok at_84 (pc' := 97) (by decide) (fun hc487 => False.elim (by revert hc487; decide)) (fun hc487 => ?_)
        show W K l _ n0 _ h485 7 16 87 #[.val (.long t0), .second, .val (.long t1), .second, .val (.int flags), .val (.int f), .val (.int gg), .val (.int (1 : Int32)), .val (.int (1 : Int32)), .val (.int (3 : Int32)), .val (.ref b474), .unset, .unset, .unset, .unset] []
        refine w_lloadN ok at_87 rfl ?_
        refine w_lloadN ok at_88 rfl ?_
        refine w_lcmp_ge ok at_89 at_90 (pc' := 97) (by decide) (fun hc489 => ?_) (fun hc489 => ?_)
        · show W K l _ n0 _ h485 7 16 97 #[.val (.long t0), .second, .val (.long t1), .second, .val (.int flags), .val (.int f), .val (.int gg), .val (.int (1 : Int32)), .val (.int (1 : Int32)), .val (.int (3 : Int32)), .val (.ref b474), .unset, .unset, .unset, .unset] []
          refine w_iconst ok at_97 (v := (0 : Int32)) rfl ?_
          show W K l _ n0 _ h485 7 16 98 #[.val (.long t0), .second, .val (.long t1), .second, .val (.int flags), .val (.int f), .val (.int gg), .val (.int (1 : Int32)), .val (.int (1 : Int32)), .val (.int (3 : Int32)), .val (.ref b474), .unset, .unset, .unset, .unset] [(.int (0 : Int32))]
          obtain ⟨o1, o2⟩ := own_one P1
          have E : e2 0 = Int32.ofNat 0 := (E2 (by rw [o2]; exact hc489) (by decide)).trans o1
          refine w_istore ok at_98 (L' := #[.val (.long t0), .second, .val (.long t1), .second, .val (.int flags), .val (.int f), .val (.int gg), .val (.int (1 : Int32)), .val (.int (1 : Int32)), .val (.int (3 : Int32)), .val (.ref b474), .val (.int (0 : Int32)), .unset, .unset, .unset]) rfl ?_
          refine w_iload ok at_100 rfl ?_
          refine w_if_eq ok at_102 (pc' := 112) (by decide) (fun hc491 => False.elim (by revert hc491; decide)) (fun hc491 => ?_)
          show W K l _ n0 _ h485 7 16 105 #[.val (.long t0), .second, .val (.long t1), .second, .val (.int flags), .val (.int f), .val (.int gg), .val (.int (1 : Int32)), .val (.int (1 : Int32)), .val (.int (3 : Int32)), .val (.ref b474), .val (.int (0 : Int32)), .unset, .unset, .unset] []
          refine w_iconst ok at_105 (v := (1 : Int32)) rfl ?_
          refine w_iload ok at_106 rfl ?_
          refine w_isub ok at_108 ?_
          show W K l _ n0 _ h485 7 16 109 #[.val (.long t0), .second, .val (.long t1), .second, .val (.int flags), .val (.int f), .val (.int gg), .val (.int (1 : Int32)), .val (.int (1 : Int32)), .val (.int (3 : Int32)), .val (.ref b474), .val (.int (0 : Int32)), .unset, .unset, .unset] [(.int (1 : Int32))]
          refine w_goto ok at_109 (pc' := 113) (by decide) ?_
          refine w_istore ok at_113 (L' := #[.val (.long t0), .second, .val (.long t1), .second, .val (.int flags), .val (.int f), .val (.int gg), .val (.int (1 : Int32)), .val (.int (1 : Int32)), .val (.int (3 : Int32)), .val (.ref b474), .val (.int (0 : Int32)), .val (.int (1 : Int32)), .unset, .unset]) rfl ?_
          refine w_aload ok at_115 rfl rfl ?_
          refine w_iload ok at_117 rfl ?_
          refine w_iload ok at_119 rfl ?_
          refine w_callV ok (y := (⟨"com/example/rowan/rowan/store/IdleHeap", "renumber", "(II)V"⟩ : MethodName)) (a := b474) (argsL := [(.int (1 : Int32)), (.int (3 : Int32))]) (rest := []) at_121 (hw _ (List.mem_of_getElem? (i := 58) rfl)) (hw _ (List.mem_of_getElem? (i := 59) rfl)) (hw _ (List.mem_of_getElem? (i := 61) rfl)) (hw _ (List.mem_of_getElem? (i := 60) rfl)) (hw _ (List.mem_of_getElem? (i := 2) rfl)) (hw _ (List.mem_of_getElem? (i := 62) rfl)) (by decide) A_b474.1 pd_28II29V rfl rfl (by decide) (Nat.le_of_ble_eq_true rfl) (by decide) (by decide) (fun z0 => rm_ren1 l Z a0 hw [] n0 h485 z0 b474 fen fti fsl 2 e2 g2 τ2 A_b474 A_fen A_fti A_fsl ge_b474 ge_fen ge_fti ge_fsl nf_0 nf_1 nf_2 nf_3 nf_4 nf_5 (put (put (fun _ => none) 0 (some t0)) 1 (some t1)) P2 H2 1 3 t1 (by decide) (by decide) rfl rfl) (fun v492 h493 qv492 => ?_)
          obtain ⟨rfl, e3, g3, τ3, K1, A0, A1, A2, A3, P3, H3, r1, r2⟩ := qv492
          replace A_b474 : Ob Z h493 b474 "com/example/rowan/rowan/store/IdleHeap" fl_IdleHeap [(.ref fen), (.ref fti), (.ref fsl), (.int (2 : Int32))] := A0
          replace A_fen := A1
          replace A_fti := A2
          replace A_fsl := A3
          replace E := (r2 (fun q => absurd (own_inj (by decide) (by decide) (E.symm.trans q)) (by decide))).trans E
          show W K l _ n0 _ h493 7 16 124 #[.val (.long t0), .second, .val (.long t1), .second, .val (.int flags), .val (.int f), .val (.int gg), .val (.int (1 : Int32)), .val (.int (1 : Int32)), .val (.int (3 : Int32)), .val (.ref b474), .val (.int (0 : Int32)), .val (.int (1 : Int32)), .unset, .unset] []
          refine w_aload ok at_124 rfl rfl ?_
          refine w_iload ok at_126 rfl ?_
          refine w_callV ok (y := (⟨"com/example/rowan/rowan/store/IdleHeap", "remove", "(I)V"⟩ : MethodName)) (a := b474) (argsL := [(.int (1 : Int32))]) (rest := []) at_128 (hw _ (List.mem_of_getElem? (i := 63) rfl)) (hw _ (List.mem_of_getElem? (i := 64) rfl)) (hw _ (List.mem_of_getElem? (i := 66) rfl)) (hw _ (List.mem_of_getElem? (i := 65) rfl)) (hw _ (List.mem_of_getElem? (i := 2) rfl)) (hw _ (List.mem_of_getElem? (i := 67) rfl)) (by decide) A_b474.1 pd_28I29V rfl rfl (by decide) (Nat.le_of_ble_eq_true rfl) (by decide) (by decide) (fun z0 => rm_remove0 l Z a0 hw [] n0 h493 z0 b474 fen fti fsl 2 e3 g3 τ3 A_b474 A_fen A_fti A_fsl ge_b474 ge_fen ge_fti ge_fsl nf_0 nf_1 nf_2 nf_3 nf_4 nf_5 (put (put (put (put (fun _ => none) 0 (some t0)) 1 (some t1)) 1 none) 3 (some t1)) P3 H3 1 (by decide) rfl) (fun v494 h495 qv494 => ?_)
          obtain ⟨rfl, rfl⟩ := qv494
          show W K l _ n0 _ h493 7 16 131 #[.val (.long t0), .second, .val (.long t1), .second, .val (.int flags), .val (.int f), .val (.int gg), .val (.int (1 : Int32)), .val (.int (1 : Int32)), .val (.int (3 : Int32)), .val (.ref b474), .val (.int (0 : Int32)), .val (.int (1 : Int32)), .unset, .unset] []
          refine w_iload ok at_131 rfl ?_
          refine w_iload ok at_133 rfl ?_
          refine w_iload ok at_135 rfl ?_
          refine w_callS ok (y := (⟨"com/example/rowan/rowan/store/IdleHeapRenumberPinLaw", "map", "(III)I"⟩ : MethodName)) (argsL := [(.int (0 : Int32)), (.int (1 : Int32)), (.int (3 : Int32))]) (rest := []) at_137 (hw _ (List.mem_of_getElem? (i := 68) rfl)) (hw _ (List.mem_of_getElem? (i := 69) rfl)) (hw _ (List.mem_of_getElem? (i := 70) rfl)) (hw _ (List.mem_of_getElem? (i := 71) rfl)) (by decide) pd_28III29I rfl rfl (by decide) (Nat.le_of_ble_eq_true rfl) (by decide) (by decide) (fun z0 => rm_map l Z a0 hw [] n0 h493 z0 (0 : Int32) (1 : Int32) (3 : Int32)) (fun v496 h497 qv496 => ?_)
          obtain ⟨rfl, rfl⟩ := qv496
          rw [show own_map (0 : Int32) (1 : Int32) (3 : Int32) = (0 : Int32) from rfl]
          show W K l _ n0 _ h493 7 16 140 #[.val (.long t0), .second, .val (.long t1), .second, .val (.int flags), .val (.int f), .val (.int gg), .val (.int (1 : Int32)), .val (.int (1 : Int32)), .val (.int (3 : Int32)), .val (.ref b474), .val (.int (0 : Int32)), .val (.int (1 : Int32)), .unset, .unset] [(.int (0 : Int32))]
          refine w_istore ok at_140 (L' := #[.val (.long t0), .second, .val (.long t1), .second, .val (.int flags), .val (.int f), .val (.int gg), .val (.int (1 : Int32)), .val (.int (1 : Int32)), .val (.int (3 : Int32)), .val (.ref b474), .val (.int (0 : Int32)), .val (.int (1 : Int32)), .val (.int (0 : Int32)), .unset]) rfl ?_
          refine w_aload ok at_142 rfl rfl ?_
          refine w_callV ok (y := (⟨"com/example/rowan/rowan/store/IdleHeap", "first", "()I"⟩ : MethodName)) (a := b474) (argsL := []) (rest := []) at_144 (hw _ (List.mem_of_getElem? (i := 72) rfl)) (hw _ (List.mem_of_getElem? (i := 73) rfl)) (hw _ (List.mem_of_getElem? (i := 75) rfl)) (hw _ (List.mem_of_getElem? (i := 74) rfl)) (hw _ (List.mem_of_getElem? (i := 2) rfl)) (hw _ (List.mem_of_getElem? (i := 76) rfl)) (by decide) A_b474.1 pd_2829I rfl rfl (by decide) (Nat.le_of_ble_eq_true rfl) (by decide) (by decide) (fun z0 => rm_first l Z a0 hw [] n0 h493 z0 b474 fen fti fsl 2 e3 g3 τ3 A_b474 A_fen A_fti A_fsl ge_b474 ge_fen ge_fti ge_fsl nf_0 nf_1 nf_2 nf_3 nf_4 nf_5 (put (put (put (put (fun _ => none) 0 (some t0)) 1 (some t1)) 1 none) 3 (some t1)) P3 H3) (fun v498 h499 qv498 => ?_)
          obtain ⟨rfl, ⟨hs0, rfl⟩ | ⟨y, hy, hs, ey, rfl⟩⟩ := qv498
          · exact absurd hs0 (by decide)
          · skip
            obtain rfl : y = 0 := own_inj hy (by decide) (ey.symm.trans E)
            show W K l _ n0 _ h493 7 16 147 #[.val (.long t0), .second, .val (.long t1), .second, .val (.int flags), .val (.int f), .val (.int gg), .val (.int (1 : Int32)), .val (.int (1 : Int32)), .val (.int (3 : Int32)), .val (.ref b474), .val (.int (0 : Int32)), .val (.int (1 : Int32)), .val (.int (0 : Int32)), .unset] [(.int (0 : Int32))]
            refine w_iload ok at_147 rfl ?_
            refine w_icmp_eq ok at_149 (pc' := 154) (by decide) (fun hc501 => ?_) (fun hc501 => False.elim (by revert hc501; decide))
            show W K l _ n0 _ h493 7 16 154 #[.val (.long t0), .second, .val (.long t1), .second, .val (.int flags), .val (.int f), .val (.int gg), .val (.int (1 : Int32)), .val (.int (1 : Int32)), .val (.int (3 : Int32)), .val (.ref b474), .val (.int (0 : Int32)), .val (.int (1 : Int32)), .val (.int (0 : Int32)), .unset] []
            refine w_aload ok at_154 rfl rfl ?_
            refine w_iload ok at_156 rfl ?_
            refine w_callV ok (y := (⟨"com/example/rowan/rowan/store/IdleHeap", "remove", "(I)V"⟩ : MethodName)) (a := b474) (argsL := [(.int (0 : Int32))]) (rest := []) at_158 (hw _ (List.mem_of_getElem? (i := 63) rfl)) (hw _ (List.mem_of_getElem? (i := 64) rfl)) (hw _ (List.mem_of_getElem? (i := 66) rfl)) (hw _ (List.mem_of_getElem? (i := 65) rfl)) (hw _ (List.mem_of_getElem? (i := 2) rfl)) (hw _ (List.mem_of_getElem? (i := 67) rfl)) (by decide) A_b474.1 pd_28I29V rfl rfl (by decide) (Nat.le_of_ble_eq_true rfl) (by decide) (by decide) (fun z0 => rm_remove l Z a0 hw [] n0 h493 z0 b474 fen fti fsl 2 e3 g3 τ3 A_b474 A_fen A_fti A_fsl ge_b474 ge_fen ge_fti ge_fsl nf_0 nf_1 nf_2 nf_3 nf_4 nf_5 (put (put (put (put (fun _ => none) 0 (some t0)) 1 (some t1)) 1 none) 3 (some t1)) P3 H3 0 (by decide)) (fun v503 h504 qv503 => ?_)
            obtain ⟨rfl, sx502, ex502, gx502, τx502, K1, A0, A1, A2, A3, Px502, Hx502⟩ := qv503
            replace A_b474 : Ob Z h504 b474 "com/example/rowan/rowan/store/IdleHeap" fl_IdleHeap [(.ref fen), (.ref fti), (.ref fsl), (.int (Int32.ofNat sx502))] := A0
            replace A_fen := A1
            replace A_fti := A2
            replace A_fsl := A3
            show W K l _ n0 _ h504 7 16 161 #[.val (.long t0), .second, .val (.long t1), .second, .val (.int flags), .val (.int f), .val (.int gg), .val (.int (1 : Int32)), .val (.int (1 : Int32)), .val (.int (3 : Int32)), .val (.ref b474), .val (.int (0 : Int32)), .val (.int (1 : Int32)), .val (.int (0 : Int32)), .unset] []
            refine w_iload ok at_161 rfl ?_
            refine w_iconst ok at_163 (v := (-1 : Int32)) rfl ?_
            refine w_icmp_ne ok at_164 (pc' := 171) (by decide) (fun hc506 => ?_) (fun hc506 => False.elim (by revert hc506; decide))
            show W K l _ n0 _ h504 7 16 171 #[.val (.long t0), .second, .val (.long t1), .second, .val (.int flags), .val (.int f), .val (.int gg), .val (.int (1 : Int32)), .val (.int (1 : Int32)), .val (.int (3 : Int32)), .val (.ref b474), .val (.int (0 : Int32)), .val (.int (1 : Int32)), .val (.int (0 : Int32)), .unset] []
            refine w_iload ok at_171 rfl ?_
            refine w_iload ok at_173 rfl ?_
            refine w_iload ok at_175 rfl ?_
            refine w_callS ok (y := (⟨"com/example/rowan/rowan/store/IdleHeapRenumberPinLaw", "map", "(III)I"⟩ : MethodName)) (argsL := [(.int (1 : Int32)), (.int (1 : Int32)), (.int (3 : Int32))]) (rest := []) at_177 (hw _ (List.mem_of_getElem? (i := 68) rfl)) (hw _ (List.mem_of_getElem? (i := 69) rfl)) (hw _ (List.mem_of_getElem? (i := 70) rfl)) (hw _ (List.mem_of_getElem? (i := 71) rfl)) (by decide) pd_28III29I rfl rfl (by decide) (Nat.le_of_ble_eq_true rfl) (by decide) (by decide) (fun z0 => rm_map l Z a0 hw [] n0 h504 z0 (1 : Int32) (1 : Int32) (3 : Int32)) (fun v507 h508 qv507 => ?_)
            obtain ⟨rfl, rfl⟩ := qv507
            rw [show own_map (1 : Int32) (1 : Int32) (3 : Int32) = (3 : Int32) from rfl]
            show W K l _ n0 _ h504 7 16 180 #[.val (.long t0), .second, .val (.long t1), .second, .val (.int flags), .val (.int f), .val (.int gg), .val (.int (1 : Int32)), .val (.int (1 : Int32)), .val (.int (3 : Int32)), .val (.ref b474), .val (.int (0 : Int32)), .val (.int (1 : Int32)), .val (.int (0 : Int32)), .unset] [(.int (3 : Int32))]
            refine w_istore ok at_180 (L' := #[.val (.long t0), .second, .val (.long t1), .second, .val (.int flags), .val (.int f), .val (.int gg), .val (.int (1 : Int32)), .val (.int (1 : Int32)), .val (.int (3 : Int32)), .val (.ref b474), .val (.int (0 : Int32)), .val (.int (1 : Int32)), .val (.int (0 : Int32)), .val (.int (3 : Int32))]) rfl ?_
            refine w_aload ok at_182 rfl rfl ?_
            refine w_callV ok (y := (⟨"com/example/rowan/rowan/store/IdleHeap", "first", "()I"⟩ : MethodName)) (a := b474) (argsL := []) (rest := []) at_184 (hw _ (List.mem_of_getElem? (i := 72) rfl)) (hw _ (List.mem_of_getElem? (i := 73) rfl)) (hw _ (List.mem_of_getElem? (i := 75) rfl)) (hw _ (List.mem_of_getElem? (i := 74) rfl)) (hw _ (List.mem_of_getElem? (i := 2) rfl)) (hw _ (List.mem_of_getElem? (i := 76) rfl)) (by decide) A_b474.1 pd_2829I rfl rfl (by decide) (Nat.le_of_ble_eq_true rfl) (by decide) (by decide) (fun z0 => rm_first l Z a0 hw [] n0 h504 z0 b474 fen fti fsl sx502 ex502 gx502 τx502 A_b474 A_fen A_fti A_fsl ge_b474 ge_fen ge_fti ge_fsl nf_0 nf_1 nf_2 nf_3 nf_4 nf_5 (put (put (put (put (put (fun _ => none) 0 (some t0)) 1 (some t1)) 1 none) 3 (some t1)) 0 none) Px502 Hx502) (fun v509 h510 qv509 => ?_)
            obtain ⟨rfl, ⟨hs0, rfl⟩ | ⟨y, hy, hs, ey, rfl⟩⟩ := qv509
            · subst hs0; exact (own_none0 Px502 (y := 3) (by decide) rfl).elim
            · have my := (Px502.at hs hy ey).1
              obtain rfl | rfl | rfl | rfl : y = 0 ∨ y = 1 ∨ y = 2 ∨ y = 3 := by omega
              · cases (show none = some _ from my)
              · cases (show none = some _ from my)
              · cases (show none = some _ from my)
              · skip
                show W K l _ n0 _ h504 7 16 187 #[.val (.long t0), .second, .val (.long t1), .second, .val (.int flags), .val (.int f), .val (.int gg), .val (.int (1 : Int32)), .val (.int (1 : Int32)), .val (.int (3 : Int32)), .val (.ref b474), .val (.int (0 : Int32)), .val (.int (1 : Int32)), .val (.int (0 : Int32)), .val (.int (3 : Int32))] [(.int (3 : Int32))]
                refine w_iload ok at_187 rfl ?_
                refine w_icmp_eq ok at_189 (pc' := 194) (by decide) (fun hc512 => ?_) (fun hc512 => False.elim (by revert hc512; decide))
                show W K l _ n0 _ h504 7 16 194 #[.val (.long t0), .second, .val (.long t1), .second, .val (.int flags), .val (.int f), .val (.int gg), .val (.int (1 : Int32)), .val (.int (1 : Int32)), .val (.int (3 : Int32)), .val (.ref b474), .val (.int (0 : Int32)), .val (.int (1 : Int32)), .val (.int (0 : Int32)), .val (.int (3 : Int32))] []
                refine w_iload ok at_194 rfl ?_
                refine w_iconst ok at_196 (v := (-1 : Int32)) rfl ?_
                refine w_icmp_eq ok at_197 (pc' := 218) (by decide) (fun hc514 => False.elim (by revert hc514; decide)) (fun hc514 => ?_)
                show W K l _ n0 _ h504 7 16 200 #[.val (.long t0), .second, .val (.long t1), .second, .val (.int flags), .val (.int f), .val (.int gg), .val (.int (1 : Int32)), .val (.int (1 : Int32)), .val (.int (3 : Int32)), .val (.ref b474), .val (.int (0 : Int32)), .val (.int (1 : Int32)), .val (.int (0 : Int32)), .val (.int (3 : Int32))] []
                refine w_aload ok at_200 rfl rfl ?_
                refine w_iload ok at_202 rfl ?_
                refine w_callV ok (y := (⟨"com/example/rowan/rowan/store/IdleHeap", "remove", "(I)V"⟩ : MethodName)) (a := b474) (argsL := [(.int (3 : Int32))]) (rest := []) at_204 (hw _ (List.mem_of_getElem? (i := 63) rfl)) (hw _ (List.mem_of_getElem? (i := 64) rfl)) (hw _ (List.mem_of_getElem? (i := 66) rfl)) (hw _ (List.mem_of_getElem? (i := 65) rfl)) (hw _ (List.mem_of_getElem? (i := 2) rfl)) (hw _ (List.mem_of_getElem? (i := 67) rfl)) (by decide) A_b474.1 pd_28I29V rfl rfl (by decide) (Nat.le_of_ble_eq_true rfl) (by decide) (by decide) (fun z0 => rm_remove l Z a0 hw [] n0 h504 z0 b474 fen fti fsl sx502 ex502 gx502 τx502 A_b474 A_fen A_fti A_fsl ge_b474 ge_fen ge_fti ge_fsl nf_0 nf_1 nf_2 nf_3 nf_4 nf_5 (put (put (put (put (put (fun _ => none) 0 (some t0)) 1 (some t1)) 1 none) 3 (some t1)) 0 none) Px502 Hx502 3 (by decide)) (fun v516 h517 qv516 => ?_)
                obtain ⟨rfl, sx515, ex515, gx515, τx515, K1, A0, A1, A2, A3, Px515, Hx515⟩ := qv516
                replace A_b474 : Ob Z h517 b474 "com/example/rowan/rowan/store/IdleHeap" fl_IdleHeap [(.ref fen), (.ref fti), (.ref fsl), (.int (Int32.ofNat sx515))] := A0
                replace A_fen := A1
                replace A_fti := A2
                replace A_fsl := A3
                show W K l _ n0 _ h517 7 16 207 #[.val (.long t0), .second, .val (.long t1), .second, .val (.int flags), .val (.int f), .val (.int gg), .val (.int (1 : Int32)), .val (.int (1 : Int32)), .val (.int (3 : Int32)), .val (.ref b474), .val (.int (0 : Int32)), .val (.int (1 : Int32)), .val (.int (0 : Int32)), .val (.int (3 : Int32))] []
                refine w_aload ok at_207 rfl rfl ?_
                refine w_callV ok (y := (⟨"com/example/rowan/rowan/store/IdleHeap", "first", "()I"⟩ : MethodName)) (a := b474) (argsL := []) (rest := []) at_209 (hw _ (List.mem_of_getElem? (i := 72) rfl)) (hw _ (List.mem_of_getElem? (i := 73) rfl)) (hw _ (List.mem_of_getElem? (i := 75) rfl)) (hw _ (List.mem_of_getElem? (i := 74) rfl)) (hw _ (List.mem_of_getElem? (i := 2) rfl)) (hw _ (List.mem_of_getElem? (i := 76) rfl)) (by decide) A_b474.1 pd_2829I rfl rfl (by decide) (Nat.le_of_ble_eq_true rfl) (by decide) (by decide) (fun z0 => rm_first l Z a0 hw [] n0 h517 z0 b474 fen fti fsl sx515 ex515 gx515 τx515 A_b474 A_fen A_fti A_fsl ge_b474 ge_fen ge_fti ge_fsl nf_0 nf_1 nf_2 nf_3 nf_4 nf_5 (put (put (put (put (put (put (fun _ => none) 0 (some t0)) 1 (some t1)) 1 none) 3 (some t1)) 0 none) 3 none) Px515 Hx515) (fun v518 h519 qv518 => ?_)
                obtain ⟨rfl, ⟨hs0, rfl⟩ | ⟨y, hy, hs, ey, rfl⟩⟩ := qv518
                · skip
                  show W K l _ n0 _ h517 7 16 212 #[.val (.long t0), .second, .val (.long t1), .second, .val (.int flags), .val (.int f), .val (.int gg), .val (.int (1 : Int32)), .val (.int (1 : Int32)), .val (.int (3 : Int32)), .val (.ref b474), .val (.int (0 : Int32)), .val (.int (1 : Int32)), .val (.int (0 : Int32)), .val (.int (3 : Int32))] [(.int (-1 : Int32))]
                  refine w_iconst ok at_212 (v := (-1 : Int32)) rfl ?_
                  refine w_icmp_eq ok at_213 (pc' := 218) (by decide) (fun hc521 => ?_) (fun hc521 => False.elim (by revert hc521; decide))
                  show W K l _ n0 _ h517 7 16 218 #[.val (.long t0), .second, .val (.long t1), .second, .val (.int flags), .val (.int f), .val (.int gg), .val (.int (1 : Int32)), .val (.int (1 : Int32)), .val (.int (3 : Int32)), .val (.ref b474), .val (.int (0 : Int32)), .val (.int (1 : Int32)), .val (.int (0 : Int32)), .val (.int (3 : Int32))] []
                  refine w_iconst ok at_218 (v := (1 : Int32)) rfl ?_
                  refine w_bret ok (by simp) at_219 (by decide) (by decide) ?_
                  exact rfl
                · have my := (Px515.at hs hy ey).1
                  obtain rfl | rfl | rfl | rfl : y = 0 ∨ y = 1 ∨ y = 2 ∨ y = 3 := by omega
                  · cases (show none = some _ from my)
                  · cases (show none = some _ from my)
                  · cases (show none = some _ from my)
                  · cases (show none = some _ from my)
        · show W K l _ n0 _ h485 7 16 93 #[.val (.long t0), .second, .val (.long t1), .second, .val (.int flags), .val (.int f), .val (.int gg), .val (.int (1 : Int32)), .val (.int (1 : Int32)), .val (.int (3 : Int32)), .val (.ref b474), .unset, .unset, .unset, .unset] []
          refine w_iconst ok at_93 (v := (1 : Int32)) rfl ?_
          refine w_goto ok at_94 (pc' := 98) (by decide) ?_
          show W K l _ n0 _ h485 7 16 98 #[.val (.long t0), .second, .val (.long t1), .second, .val (.int flags), .val (.int f), .val (.int gg), .val (.int (1 : Int32)), .val (.int (1 : Int32)), .val (.int (3 : Int32)), .val (.ref b474), .unset, .unset, .unset, .unset] [(.int (1 : Int32))]
          obtain ⟨o1, o2⟩ := own_one P1
          have E : e2 0 = Int32.ofNat 1 := own_two P2 H2 hc489
          refine w_istore ok at_98 (L' := #[.val (.long t0), .second, .val (.long t1), .second, .val (.int flags), .val (.int f), .val (.int gg), .val (.int (1 : Int32)), .val (.int (1 : Int32)), .val (.int (3 : Int32)), .val (.ref b474), .val (.int (1 : Int32)), .unset, .unset, .unset]) rfl ?_
          refine w_iload ok at_100 rfl ?_
          refine w_if_eq ok at_102 (pc' := 112) (by decide) (fun hc523 => False.elim (by revert hc523; decide)) (fun hc523 => ?_)
          show W K l _ n0 _ h485 7 16 105 #[.val (.long t0), .second, .val (.long t1), .second, .val (.int flags), .val (.int f), .val (.int gg), .val (.int (1 : Int32)), .val (.int (1 : Int32)), .val (.int (3 : Int32)), .val (.ref b474), .val (.int (1 : Int32)), .unset, .unset, .unset] []
          refine w_iconst ok at_105 (v := (1 : Int32)) rfl ?_
          refine w_iload ok at_106 rfl ?_
          refine w_isub ok at_108 ?_
          show W K l _ n0 _ h485 7 16 109 #[.val (.long t0), .second, .val (.long t1), .second, .val (.int flags), .val (.int f), .val (.int gg), .val (.int (1 : Int32)), .val (.int (1 : Int32)), .val (.int (3 : Int32)), .val (.ref b474), .val (.int (1 : Int32)), .unset, .unset, .unset] [(.int (0 : Int32))]
          refine w_goto ok at_109 (pc' := 113) (by decide) ?_
          refine w_istore ok at_113 (L' := #[.val (.long t0), .second, .val (.long t1), .second, .val (.int flags), .val (.int f), .val (.int gg), .val (.int (1 : Int32)), .val (.int (1 : Int32)), .val (.int (3 : Int32)), .val (.ref b474), .val (.int (1 : Int32)), .val (.int (0 : Int32)), .unset, .unset]) rfl ?_
          refine w_aload ok at_115 rfl rfl ?_
          refine w_iload ok at_117 rfl ?_
          refine w_iload ok at_119 rfl ?_
          refine w_callV ok (y := (⟨"com/example/rowan/rowan/store/IdleHeap", "renumber", "(II)V"⟩ : MethodName)) (a := b474) (argsL := [(.int (1 : Int32)), (.int (3 : Int32))]) (rest := []) at_121 (hw _ (List.mem_of_getElem? (i := 58) rfl)) (hw _ (List.mem_of_getElem? (i := 59) rfl)) (hw _ (List.mem_of_getElem? (i := 61) rfl)) (hw _ (List.mem_of_getElem? (i := 60) rfl)) (hw _ (List.mem_of_getElem? (i := 2) rfl)) (hw _ (List.mem_of_getElem? (i := 62) rfl)) (by decide) A_b474.1 pd_28II29V rfl rfl (by decide) (Nat.le_of_ble_eq_true rfl) (by decide) (by decide) (fun z0 => rm_ren1 l Z a0 hw [] n0 h485 z0 b474 fen fti fsl 2 e2 g2 τ2 A_b474 A_fen A_fti A_fsl ge_b474 ge_fen ge_fti ge_fsl nf_0 nf_1 nf_2 nf_3 nf_4 nf_5 (put (put (fun _ => none) 0 (some t0)) 1 (some t1)) P2 H2 1 3 t1 (by decide) (by decide) rfl rfl) (fun v524 h525 qv524 => ?_)
          obtain ⟨rfl, e3, g3, τ3, K1, A0, A1, A2, A3, P3, H3, r1, r2⟩ := qv524
          replace A_b474 : Ob Z h525 b474 "com/example/rowan/rowan/store/IdleHeap" fl_IdleHeap [(.ref fen), (.ref fti), (.ref fsl), (.int (2 : Int32))] := A0
          replace A_fen := A1
          replace A_fti := A2
          replace A_fsl := A3
          replace E := r1 E
          show W K l _ n0 _ h525 7 16 124 #[.val (.long t0), .second, .val (.long t1), .second, .val (.int flags), .val (.int f), .val (.int gg), .val (.int (1 : Int32)), .val (.int (1 : Int32)), .val (.int (3 : Int32)), .val (.ref b474), .val (.int (1 : Int32)), .val (.int (0 : Int32)), .unset, .unset] []
          refine w_aload ok at_124 rfl rfl ?_
          refine w_iload ok at_126 rfl ?_
          refine w_callV ok (y := (⟨"com/example/rowan/rowan/store/IdleHeap", "remove", "(I)V"⟩ : MethodName)) (a := b474) (argsL := [(.int (1 : Int32))]) (rest := []) at_128 (hw _ (List.mem_of_getElem? (i := 63) rfl)) (hw _ (List.mem_of_getElem? (i := 64) rfl)) (hw _ (List.mem_of_getElem? (i := 66) rfl)) (hw _ (List.mem_of_getElem? (i := 65) rfl)) (hw _ (List.mem_of_getElem? (i := 2) rfl)) (hw _ (List.mem_of_getElem? (i := 67) rfl)) (by decide) A_b474.1 pd_28I29V rfl rfl (by decide) (Nat.le_of_ble_eq_true rfl) (by decide) (by decide) (fun z0 => rm_remove0 l Z a0 hw [] n0 h525 z0 b474 fen fti fsl 2 e3 g3 τ3 A_b474 A_fen A_fti A_fsl ge_b474 ge_fen ge_fti ge_fsl nf_0 nf_1 nf_2 nf_3 nf_4 nf_5 (put (put (put (put (fun _ => none) 0 (some t0)) 1 (some t1)) 1 none) 3 (some t1)) P3 H3 1 (by decide) rfl) (fun v526 h527 qv526 => ?_)
          obtain ⟨rfl, rfl⟩ := qv526
          show W K l _ n0 _ h525 7 16 131 #[.val (.long t0), .second, .val (.long t1), .second, .val (.int flags), .val (.int f), .val (.int gg), .val (.int (1 : Int32)), .val (.int (1 : Int32)), .val (.int (3 : Int32)), .val (.ref b474), .val (.int (1 : Int32)), .val (.int (0 : Int32)), .unset, .unset] []
          refine w_iload ok at_131 rfl ?_
          refine w_iload ok at_133 rfl ?_
          refine w_iload ok at_135 rfl ?_
          refine w_callS ok (y := (⟨"com/example/rowan/rowan/store/IdleHeapRenumberPinLaw", "map", "(III)I"⟩ : MethodName)) (argsL := [(.int (1 : Int32)), (.int (1 : Int32)), (.int (3 : Int32))]) (rest := []) at_137 (hw _ (List.mem_of_getElem? (i := 68) rfl)) (hw _ (List.mem_of_getElem? (i := 69) rfl)) (hw _ (List.mem_of_getElem? (i := 70) rfl)) (hw _ (List.mem_of_getElem? (i := 71) rfl)) (by decide) pd_28III29I rfl rfl (by decide) (Nat.le_of_ble_eq_true rfl) (by decide) (by decide) (fun z0 => rm_map l Z a0 hw [] n0 h525 z0 (1 : Int32) (1 : Int32) (3 : Int32)) (fun v528 h529 qv528 => ?_)
          obtain ⟨rfl, rfl⟩ := qv528
          rw [show own_map (1 : Int32) (1 : Int32) (3 : Int32) = (3 : Int32) from rfl]
          show W K l _ n0 _ h525 7 16 140 #[.val (.long t0), .second, .val (.long t1), .second, .val (.int flags), .val (.int f), .val (.int gg), .val (.int (1 : Int32)), .val (.int (1 : Int32)), .val (.int (3 : Int32)), .val (.ref b474), .val (.int (1 : Int32)), .val (.int (0 : Int32)), .unset, .unset] [(.int (3 : Int32))]
          refine w_istore ok at_140 (L' := #[.val (.long t0), .second, .val (.long t1), .second, .val (.int flags), .val (.int f), .val (.int gg), .val (.int (1 : Int32)), .val (.int (1 : Int32)), .val (.int (3 : Int32)), .val (.ref b474), .val (.int (1 : Int32)), .val (.int (0 : Int32)), .val (.int (3 : Int32)), .unset]) rfl ?_
          refine w_aload ok at_142 rfl rfl ?_
          refine w_callV ok (y := (⟨"com/example/rowan/rowan/store/IdleHeap", "first", "()I"⟩ : MethodName)) (a := b474) (argsL := []) (rest := []) at_144 (hw _ (List.mem_of_getElem? (i := 72) rfl)) (hw _ (List.mem_of_getElem? (i := 73) rfl)) (hw _ (List.mem_of_getElem? (i := 75) rfl)) (hw _ (List.mem_of_getElem? (i := 74) rfl)) (hw _ (List.mem_of_getElem? (i := 2) rfl)) (hw _ (List.mem_of_getElem? (i := 76) rfl)) (by decide) A_b474.1 pd_2829I rfl rfl (by decide) (Nat.le_of_ble_eq_true rfl) (by decide) (by decide) (fun z0 => rm_first l Z a0 hw [] n0 h525 z0 b474 fen fti fsl 2 e3 g3 τ3 A_b474 A_fen A_fti A_fsl ge_b474 ge_fen ge_fti ge_fsl nf_0 nf_1 nf_2 nf_3 nf_4 nf_5 (put (put (put (put (fun _ => none) 0 (some t0)) 1 (some t1)) 1 none) 3 (some t1)) P3 H3) (fun v530 h531 qv530 => ?_)
          obtain ⟨rfl, ⟨hs0, rfl⟩ | ⟨y, hy, hs, ey, rfl⟩⟩ := qv530
          · exact absurd hs0 (by decide)
          · skip
            obtain rfl : y = 3 := own_inj hy (by decide) (ey.symm.trans E)
            show W K l _ n0 _ h525 7 16 147 #[.val (.long t0), .second, .val (.long t1), .second, .val (.int flags), .val (.int f), .val (.int gg), .val (.int (1 : Int32)), .val (.int (1 : Int32)), .val (.int (3 : Int32)), .val (.ref b474), .val (.int (1 : Int32)), .val (.int (0 : Int32)), .val (.int (3 : Int32)), .unset] [(.int (3 : Int32))]
            refine w_iload ok at_147 rfl ?_
            refine w_icmp_eq ok at_149 (pc' := 154) (by decide) (fun hc533 => ?_) (fun hc533 => False.elim (by revert hc533; decide))
            show W K l _ n0 _ h525 7 16 154 #[.val (.long t0), .second, .val (.long t1), .second, .val (.int flags), .val (.int f), .val (.int gg), .val (.int (1 : Int32)), .val (.int (1 : Int32)), .val (.int (3 : Int32)), .val (.ref b474), .val (.int (1 : Int32)), .val (.int (0 : Int32)), .val (.int (3 : Int32)), .unset] []
            refine w_aload ok at_154 rfl rfl ?_
            refine w_iload ok at_156 rfl ?_
            refine w_callV ok (y := (⟨"com/example/rowan/rowan/store/IdleHeap", "remove", "(I)V"⟩ : MethodName)) (a := b474) (argsL := [(.int (3 : Int32))]) (rest := []) at_158 (hw _ (List.mem_of_getElem? (i := 63) rfl)) (hw _ (List.mem_of_getElem? (i := 64) rfl)) (hw _ (List.mem_of_getElem? (i := 66) rfl)) (hw _ (List.mem_of_getElem? (i := 65) rfl)) (hw _ (List.mem_of_getElem? (i := 2) rfl)) (hw _ (List.mem_of_getElem? (i := 67) rfl)) (by decide) A_b474.1 pd_28I29V rfl rfl (by decide) (Nat.le_of_ble_eq_true rfl) (by decide) (by decide) (fun z0 => rm_remove l Z a0 hw [] n0 h525 z0 b474 fen fti fsl 2 e3 g3 τ3 A_b474 A_fen A_fti A_fsl ge_b474 ge_fen ge_fti ge_fsl nf_0 nf_1 nf_2 nf_3 nf_4 nf_5 (put (put (put (put (fun _ => none) 0 (some t0)) 1 (some t1)) 1 none) 3 (some t1)) P3 H3 3 (by decide)) (fun v535 h536 qv535 => ?_)
            obtain ⟨rfl, sx534, ex534, gx534, τx534, K1, A0, A1, A2, A3, Px534, Hx534⟩ := qv535
            replace A_b474 : Ob Z h536 b474 "com/example/rowan/rowan/store/IdleHeap" fl_IdleHeap [(.ref fen), (.ref fti), (.ref fsl), (.int (Int32.ofNat sx534))] := A0
            replace A_fen := A1
            replace A_fti := A2
            replace A_fsl := A3
            show W K l _ n0 _ h536 7 16 161 #[.val (.long t0), .second, .val (.long t1), .second, .val (.int flags), .val (.int f), .val (.int gg), .val (.int (1 : Int32)), .val (.int (1 : Int32)), .val (.int (3 : Int32)), .val (.ref b474), .val (.int (1 : Int32)), .val (.int (0 : Int32)), .val (.int (3 : Int32)), .unset] []
            refine w_iload ok at_161 rfl ?_
            refine w_iconst ok at_163 (v := (-1 : Int32)) rfl ?_
            refine w_icmp_ne ok at_164 (pc' := 171) (by decide) (fun hc538 => ?_) (fun hc538 => False.elim (by revert hc538; decide))
            show W K l _ n0 _ h536 7 16 171 #[.val (.long t0), .second, .val (.long t1), .second, .val (.int flags), .val (.int f), .val (.int gg), .val (.int (1 : Int32)), .val (.int (1 : Int32)), .val (.int (3 : Int32)), .val (.ref b474), .val (.int (1 : Int32)), .val (.int (0 : Int32)), .val (.int (3 : Int32)), .unset] []
            refine w_iload ok at_171 rfl ?_
            refine w_iload ok at_173 rfl ?_
            refine w_iload ok at_175 rfl ?_
            refine w_callS ok (y := (⟨"com/example/rowan/rowan/store/IdleHeapRenumberPinLaw", "map", "(III)I"⟩ : MethodName)) (argsL := [(.int (0 : Int32)), (.int (1 : Int32)), (.int (3 : Int32))]) (rest := []) at_177 (hw _ (List.mem_of_getElem? (i := 68) rfl)) (hw _ (List.mem_of_getElem? (i := 69) rfl)) (hw _ (List.mem_of_getElem? (i := 70) rfl)) (hw _ (List.mem_of_getElem? (i := 71) rfl)) (by decide) pd_28III29I rfl rfl (by decide) (Nat.le_of_ble_eq_true rfl) (by decide) (by decide) (fun z0 => rm_map l Z a0 hw [] n0 h536 z0 (0 : Int32) (1 : Int32) (3 : Int32)) (fun v539 h540 qv539 => ?_)
            obtain ⟨rfl, rfl⟩ := qv539
            rw [show own_map (0 : Int32) (1 : Int32) (3 : Int32) = (0 : Int32) from rfl]
            show W K l _ n0 _ h536 7 16 180 #[.val (.long t0), .second, .val (.long t1), .second, .val (.int flags), .val (.int f), .val (.int gg), .val (.int (1 : Int32)), .val (.int (1 : Int32)), .val (.int (3 : Int32)), .val (.ref b474), .val (.int (1 : Int32)), .val (.int (0 : Int32)), .val (.int (3 : Int32)), .unset] [(.int (0 : Int32))]
            refine w_istore ok at_180 (L' := #[.val (.long t0), .second, .val (.long t1), .second, .val (.int flags), .val (.int f), .val (.int gg), .val (.int (1 : Int32)), .val (.int (1 : Int32)), .val (.int (3 : Int32)), .val (.ref b474), .val (.int (1 : Int32)), .val (.int (0 : Int32)), .val (.int (3 : Int32)), .val (.int (0 : Int32))]) rfl ?_
            refine w_aload ok at_182 rfl rfl ?_
            refine w_callV ok (y := (⟨"com/example/rowan/rowan/store/IdleHeap", "first", "()I"⟩ : MethodName)) (a := b474) (argsL := []) (rest := []) at_184 (hw _ (List.mem_of_getElem? (i := 72) rfl)) (hw _ (List.mem_of_getElem? (i := 73) rfl)) (hw _ (List.mem_of_getElem? (i := 75) rfl)) (hw _ (List.mem_of_getElem? (i := 74) rfl)) (hw _ (List.mem_of_getElem? (i := 2) rfl)) (hw _ (List.mem_of_getElem? (i := 76) rfl)) (by decide) A_b474.1 pd_2829I rfl rfl (by decide) (Nat.le_of_ble_eq_true rfl) (by decide) (by decide) (fun z0 => rm_first l Z a0 hw [] n0 h536 z0 b474 fen fti fsl sx534 ex534 gx534 τx534 A_b474 A_fen A_fti A_fsl ge_b474 ge_fen ge_fti ge_fsl nf_0 nf_1 nf_2 nf_3 nf_4 nf_5 (put (put (put (put (put (fun _ => none) 0 (some t0)) 1 (some t1)) 1 none) 3 (some t1)) 3 none) Px534 Hx534) (fun v541 h542 qv541 => ?_)
            obtain ⟨rfl, ⟨hs0, rfl⟩ | ⟨y, hy, hs, ey, rfl⟩⟩ := qv541
            · subst hs0; exact (own_none0 Px534 (y := 0) (by decide) rfl).elim
            · have my := (Px534.at hs hy ey).1
              obtain rfl | rfl | rfl | rfl : y = 0 ∨ y = 1 ∨ y = 2 ∨ y = 3 := by omega
              · skip
                show W K l _ n0 _ h536 7 16 187 #[.val (.long t0), .second, .val (.long t1), .second, .val (.int flags), .val (.int f), .val (.int gg), .val (.int (1 : Int32)), .val (.int (1 : Int32)), .val (.int (3 : Int32)), .val (.ref b474), .val (.int (1 : Int32)), .val (.int (0 : Int32)), .val (.int (3 : Int32)), .val (.int (0 : Int32))] [(.int (0 : Int32))]
                refine w_iload ok at_187 rfl ?_
                refine w_icmp_eq ok at_189 (pc' := 194) (by decide) (fun hc544 => ?_) (fun hc544 => False.elim (by revert hc544; decide))
                show W K l _ n0 _ h536 7 16 194 #[.val (.long t0), .second, .val (.long t1), .second, .val (.int flags), .val (.int f), .val (.int gg), .val (.int (1 : Int32)), .val (.int (1 : Int32)), .val (.int (3 : Int32)), .val (.ref b474), .val (.int (1 : Int32)), .val (.int (0 : Int32)), .val (.int (3 : Int32)), .val (.int (0 : Int32))] []
                refine w_iload ok at_194 rfl ?_
                refine w_iconst ok at_196 (v := (-1 : Int32)) rfl ?_
                refine w_icmp_eq ok at_197 (pc' := 218) (by decide) (fun hc546 => False.elim (by revert hc546; decide)) (fun hc546 => ?_)
                show W K l _ n0 _ h536 7 16 200 #[.val (.long t0), .second, .val (.long t1), .second, .val (.int flags), .val (.int f), .val (.int gg), .val (.int (1 : Int32)), .val (.int (1 : Int32)), .val (.int (3 : Int32)), .val (.ref b474), .val (.int (1 : Int32)), .val (.int (0 : Int32)), .val (.int (3 : Int32)), .val (.int (0 : Int32))] []
                refine w_aload ok at_200 rfl rfl ?_
                refine w_iload ok at_202 rfl ?_
                refine w_callV ok (y := (⟨"com/example/rowan/rowan/store/IdleHeap", "remove", "(I)V"⟩ : MethodName)) (a := b474) (argsL := [(.int (0 : Int32))]) (rest := []) at_204 (hw _ (List.mem_of_getElem? (i := 63) rfl)) (hw _ (List.mem_of_getElem? (i := 64) rfl)) (hw _ (List.mem_of_getElem? (i := 66) rfl)) (hw _ (List.mem_of_getElem? (i := 65) rfl)) (hw _ (List.mem_of_getElem? (i := 2) rfl)) (hw _ (List.mem_of_getElem? (i := 67) rfl)) (by decide) A_b474.1 pd_28I29V rfl rfl (by decide) (Nat.le_of_ble_eq_true rfl) (by decide) (by decide) (fun z0 => rm_remove l Z a0 hw [] n0 h536 z0 b474 fen fti fsl sx534 ex534 gx534 τx534 A_b474 A_fen A_fti A_fsl ge_b474 ge_fen ge_fti ge_fsl nf_0 nf_1 nf_2 nf_3 nf_4 nf_5 (put (put (put (put (put (fun _ => none) 0 (some t0)) 1 (some t1)) 1 none) 3 (some t1)) 3 none) Px534 Hx534 0 (by decide)) (fun v548 h549 qv548 => ?_)
                obtain ⟨rfl, sx547, ex547, gx547, τx547, K1, A0, A1, A2, A3, Px547, Hx547⟩ := qv548
                replace A_b474 : Ob Z h549 b474 "com/example/rowan/rowan/store/IdleHeap" fl_IdleHeap [(.ref fen), (.ref fti), (.ref fsl), (.int (Int32.ofNat sx547))] := A0
                replace A_fen := A1
                replace A_fti := A2
                replace A_fsl := A3
                show W K l _ n0 _ h549 7 16 207 #[.val (.long t0), .second, .val (.long t1), .second, .val (.int flags), .val (.int f), .val (.int gg), .val (.int (1 : Int32)), .val (.int (1 : Int32)), .val (.int (3 : Int32)), .val (.ref b474), .val (.int (1 : Int32)), .val (.int (0 : Int32)), .val (.int (3 : Int32)), .val (.int (0 : Int32))] []
                refine w_aload ok at_207 rfl rfl ?_
                refine w_callV ok (y := (⟨"com/example/rowan/rowan/store/IdleHeap", "first", "()I"⟩ : MethodName)) (a := b474) (argsL := []) (rest := []) at_209 (hw _ (List.mem_of_getElem? (i := 72) rfl)) (hw _ (List.mem_of_getElem? (i := 73) rfl)) (hw _ (List.mem_of_getElem? (i := 75) rfl)) (hw _ (List.mem_of_getElem? (i := 74) rfl)) (hw _ (List.mem_of_getElem? (i := 2) rfl)) (hw _ (List.mem_of_getElem? (i := 76) rfl)) (by decide) A_b474.1 pd_2829I rfl rfl (by decide) (Nat.le_of_ble_eq_true rfl) (by decide) (by decide) (fun z0 => rm_first l Z a0 hw [] n0 h549 z0 b474 fen fti fsl sx547 ex547 gx547 τx547 A_b474 A_fen A_fti A_fsl ge_b474 ge_fen ge_fti ge_fsl nf_0 nf_1 nf_2 nf_3 nf_4 nf_5 (put (put (put (put (put (put (fun _ => none) 0 (some t0)) 1 (some t1)) 1 none) 3 (some t1)) 3 none) 0 none) Px547 Hx547) (fun v550 h551 qv550 => ?_)
                obtain ⟨rfl, ⟨hs0, rfl⟩ | ⟨y, hy, hs, ey, rfl⟩⟩ := qv550
                · skip
                  show W K l _ n0 _ h549 7 16 212 #[.val (.long t0), .second, .val (.long t1), .second, .val (.int flags), .val (.int f), .val (.int gg), .val (.int (1 : Int32)), .val (.int (1 : Int32)), .val (.int (3 : Int32)), .val (.ref b474), .val (.int (1 : Int32)), .val (.int (0 : Int32)), .val (.int (3 : Int32)), .val (.int (0 : Int32))] [(.int (-1 : Int32))]
                  refine w_iconst ok at_212 (v := (-1 : Int32)) rfl ?_
                  refine w_icmp_eq ok at_213 (pc' := 218) (by decide) (fun hc553 => ?_) (fun hc553 => False.elim (by revert hc553; decide))
                  show W K l _ n0 _ h549 7 16 218 #[.val (.long t0), .second, .val (.long t1), .second, .val (.int flags), .val (.int f), .val (.int gg), .val (.int (1 : Int32)), .val (.int (1 : Int32)), .val (.int (3 : Int32)), .val (.ref b474), .val (.int (1 : Int32)), .val (.int (0 : Int32)), .val (.int (3 : Int32)), .val (.int (0 : Int32))] []
                  refine w_iconst ok at_218 (v := (1 : Int32)) rfl ?_
                  refine w_bret ok (by simp) at_219 (by decide) (by decide) ?_
                  exact rfl
                · have my := (Px547.at hs hy ey).1
                  obtain rfl | rfl | rfl | rfl : y = 0 ∨ y = 1 ∨ y = 2 ∨ y = 3 := by omega
                  · cases (show none = some _ from my)
                  · cases (show none = some _ from my)
                  · cases (show none = some _ from my)
                  · cases (show none = some _ from my)
              · cases (show none = some _ from my)
              · cases (show none = some _ from my)
              · cases (show none = some _ from my)
    · skip
      show W K l _ n0 _ h0 0 0 20 #[.val (.long t0), .second, .val (.long t1), .second, .val (.int flags), .val (.int f), .val (.int gg), .val (.int (1 : Int32)), .val (.int (2 : Int32)), .unset, .unset, .unset, .unset, .unset, .unset] []
      refine w_iload ok at_20 rfl ?_
      refine w_iconst ok at_22 (v := (2 : Int32)) rfl ?_
      refine w_icmp_ne ok at_23 (pc' := 30) (by decide) (fun hc555 => False.elim (by revert hc555; decide)) (fun hc555 => ?_)
      show W K l _ n0 _ h0 0 0 26 #[.val (.long t0), .second, .val (.long t1), .second, .val (.int flags), .val (.int f), .val (.int gg), .val (.int (1 : Int32)), .val (.int (2 : Int32)), .unset, .unset, .unset, .unset, .unset, .unset] []
      refine w_iconst ok at_26 (v := (3 : Int32)) rfl ?_
      refine w_goto ok at_27 (pc' := 46) (by decide) ?_
      refine w_istore ok at_46 (L' := #[.val (.long t0), .second, .val (.long t1), .second, .val (.int flags), .val (.int f), .val (.int gg), .val (.int (1 : Int32)), .val (.int (2 : Int32)), .val (.int (3 : Int32)), .unset, .unset, .unset, .unset, .unset]) rfl ?_
      refine w_new ok at_48 (hw _ (List.mem_of_getElem? (i := 0) rfl)) (hw _ (List.mem_of_getElem? (i := 1) rfl)) (hw _ (List.mem_of_getElem? (i := 2) rfl)) (la_IdleHeap hw) (by decide) (by decide) (fun h557 b556 ea_b556 ge_b556 E_b556 A_b556 => ?_)
      replace A_b556 : Ob Z h557 b556 "com/example/rowan/rowan/store/IdleHeap" fl_IdleHeap [.null, .null, .null, (.int (0 : Int32))] := A_b556
      refine w_dup ok at_51 rfl ?_
      refine w_callI ok (y := (⟨"com/example/rowan/rowan/store/IdleHeap", "<init>", "()V"⟩ : MethodName)) (a := b556) (argsL := []) (rest := [(.ref b556)]) at_52 rfl (hw _ (List.mem_of_getElem? (i := 3) rfl)) (hw _ (List.mem_of_getElem? (i := 4) rfl)) (hw _ (List.mem_of_getElem? (i := 2) rfl)) (hw _ (List.mem_of_getElem? (i := 5) rfl)) (by decide) pd_2829V rfl rfl (by decide) (Nat.le_of_ble_eq_true rfl) (by decide) (by decide) (fun z0 => rm_ctor l Z a0 hw [] n0 h557 z0 b556 A_b556 ge_b556) (fun v558 h559 qv558 => ?_)
      obtain ⟨rfl, een, eti, esl, ⟨sz_een, sz_eti, sz_esl⟩, ⟨ge_een, ge_eti, ge_esl⟩, ⟨ne_0, ne_1, ne_2, ne_3, ne_4, ne_5⟩, K1, A1, A_een, A_eti, A_esl⟩ := qv558
      have ne_b556_een : b556 ≠ een := Nat.ne_of_lt (Nat.lt_of_lt_of_le A_b556.lt sz_een)
      have ne_b556_eti : b556 ≠ eti := Nat.ne_of_lt (Nat.lt_of_lt_of_le A_b556.lt sz_eti)
      have ne_b556_esl : b556 ≠ esl := Nat.ne_of_lt (Nat.lt_of_lt_of_le A_b556.lt sz_esl)
      replace A_b556 := A1
      show W K l _ n0 _ h559 4 4 55 #[.val (.long t0), .second, .val (.long t1), .second, .val (.int flags), .val (.int f), .val (.int gg), .val (.int (1 : Int32)), .val (.int (2 : Int32)), .val (.int (3 : Int32)), .unset, .unset, .unset, .unset, .unset] [(.ref b556)]
      refine w_astore ok at_55 rfl (L' := #[.val (.long t0), .second, .val (.long t1), .second, .val (.int flags), .val (.int f), .val (.int gg), .val (.int (1 : Int32)), .val (.int (2 : Int32)), .val (.int (3 : Int32)), .val (.ref b556), .unset, .unset, .unset, .unset]) rfl ?_
      refine w_aload ok at_57 rfl rfl ?_
      refine w_iconst ok at_59 (v := (4 : Int32)) rfl ?_
      refine w_callV ok (y := (⟨"com/example/rowan/rowan/store/IdleHeap", "resize", "(I)V"⟩ : MethodName)) (a := b556) (argsL := [(.int (4 : Int32))]) (rest := []) at_60 (hw _ (List.mem_of_getElem? (i := 17) rfl)) (hw _ (List.mem_of_getElem? (i := 18) rfl)) (hw _ (List.mem_of_getElem? (i := 20) rfl)) (hw _ (List.mem_of_getElem? (i := 19) rfl)) (hw _ (List.mem_of_getElem? (i := 2) rfl)) (hw _ (List.mem_of_getElem? (i := 21) rfl)) (by decide) A_b556.1 pd_28I29V rfl rfl (by decide) (Nat.le_of_ble_eq_true rfl) (by decide) (by decide) (fun z0 => rm_resize l Z a0 hw [] n0 h559 z0 b556 een eti esl A_b556 A_een A_eti A_esl ge_b556 ne_0 ne_1 ne_2 ne_3 ne_4 ne_5) (fun v560 h561 qv560 => ?_)
      obtain ⟨rfl, fen, fti, fsl, ⟨sz_fen, sz_fti, sz_fsl⟩, ⟨ge_fen, ge_fti, ge_fsl⟩, ⟨nf_0, nf_1, nf_2, nf_3, nf_4, nf_5⟩, K1, A1, A_fen, A_fti, A_fsl⟩ := qv560
      have ne_b556_fen : b556 ≠ fen := Nat.ne_of_lt (Nat.lt_of_lt_of_le A_b556.lt sz_fen)
      have ne_een_fen : een ≠ fen := Nat.ne_of_lt (Nat.lt_of_lt_of_le A_een.lt sz_fen)
      have ne_eti_fen : eti ≠ fen := Nat.ne_of_lt (Nat.lt_of_lt_of_le A_eti.lt sz_fen)
      have ne_esl_fen : esl ≠ fen := Nat.ne_of_lt (Nat.lt_of_lt_of_le A_esl.lt sz_fen)
      have ne_b556_fti : b556 ≠ fti := Nat.ne_of_lt (Nat.lt_of_lt_of_le A_b556.lt sz_fti)
      have ne_een_fti : een ≠ fti := Nat.ne_of_lt (Nat.lt_of_lt_of_le A_een.lt sz_fti)
      have ne_eti_fti : eti ≠ fti := Nat.ne_of_lt (Nat.lt_of_lt_of_le A_eti.lt sz_fti)
      have ne_esl_fti : esl ≠ fti := Nat.ne_of_lt (Nat.lt_of_lt_of_le A_esl.lt sz_fti)
      have ne_b556_fsl : b556 ≠ fsl := Nat.ne_of_lt (Nat.lt_of_lt_of_le A_b556.lt sz_fsl)
      have ne_een_fsl : een ≠ fsl := Nat.ne_of_lt (Nat.lt_of_lt_of_le A_een.lt sz_fsl)
      have ne_eti_fsl : eti ≠ fsl := Nat.ne_of_lt (Nat.lt_of_lt_of_le A_eti.lt sz_fsl)
      have ne_esl_fsl : esl ≠ fsl := Nat.ne_of_lt (Nat.lt_of_lt_of_le A_esl.lt sz_fsl)
      replace A_een := A_een.keep K1 (ninS (Ne.symm ne_0) nin0)
      replace A_eti := A_eti.keep K1 (ninS (Ne.symm ne_1) nin0)
      replace A_esl := A_esl.keep K1 (ninS (Ne.symm ne_2) nin0)
      replace A_b556 := A1
      show W K l _ n0 _ h561 7 16 63 #[.val (.long t0), .second, .val (.long t1), .second, .val (.int flags), .val (.int f), .val (.int gg), .val (.int (1 : Int32)), .val (.int (2 : Int32)), .val (.int (3 : Int32)), .val (.ref b556), .unset, .unset, .unset, .unset] []
      refine w_aload ok at_63 rfl rfl ?_
      refine w_iconst ok at_65 (v := (0 : Int32)) rfl ?_
      refine w_lloadN ok at_66 rfl ?_
      refine w_callV ok (y := (⟨"com/example/rowan/rowan/store/IdleHeap", "add", "(IJ)V"⟩ : MethodName)) (a := b556) (argsL := [(.int (0 : Int32)), (.long t0)]) (rest := []) at_67 (hw _ (List.mem_of_getElem? (i := 43) rfl)) (hw _ (List.mem_of_getElem? (i := 44) rfl)) (hw _ (List.mem_of_getElem? (i := 46) rfl)) (hw _ (List.mem_of_getElem? (i := 45) rfl)) (hw _ (List.mem_of_getElem? (i := 2) rfl)) (hw _ (List.mem_of_getElem? (i := 47) rfl)) (by decide) A_b556.1 pd_28IJ29V rfl rfl (by decide) (Nat.le_of_ble_eq_true rfl) (by decide) (by decide) (fun z0 => rm_add l Z a0 hw [] n0 h561 z0 b556 fen fti fsl 0 (fun _ => 0) (fun _ => -1) (fun _ => 0) A_b556 A_fen A_fti A_fsl ge_b556 ge_fen ge_fti ge_fsl nf_0 nf_1 nf_2 nf_3 nf_4 nf_5 (fun _ => none) own_pp0 own_ho0 0 t0 (by decide) rfl (by decide)) (fun v562 h563 qv562 => ?_)
      obtain ⟨rfl, e1, g1, τ1, K1, A0, A1, A2, A3, P1, H1, E1⟩ := qv562
      replace A_b556 : Ob Z h563 b556 "com/example/rowan/rowan/store/IdleHeap" fl_IdleHeap [(.ref fen), (.ref fti), (.ref fsl), (.int (1 : Int32))] := A0
      replace A_fen := A1
      replace A_fti := A2
      replace A_fsl := A3
      show W K l _ n0 _ h563 7 16 70 #[.val (.long t0), .second, .val (.long t1), .second, .val (.int flags), .val (.int f), .val (.int gg), .val (.int (1 : Int32)), .val (.int (2 : Int32)), .val (.int (3 : Int32)), .val (.ref b556), .unset, .unset, .unset, .unset] []
      refine w_iload ok at_70 rfl ?_
      refine w_if_eq ok at_72 (pc' := 82) (by decide) (fun hc565 => False.elim (by revert hc565; decide)) (fun hc565 => ?_)
      show W K l _ n0 _ h563 7 16 75 #[.val (.long t0), .second, .val (.long t1), .second, .val (.int flags), .val (.int f), .val (.int gg), .val (.int (1 : Int32)), .val (.int (2 : Int32)), .val (.int (3 : Int32)), .val (.ref b556), .unset, .unset, .unset, .unset] []
      refine w_aload ok at_75 rfl rfl ?_
      refine w_iconst ok at_77 (v := (1 : Int32)) rfl ?_
      refine w_lloadN ok at_78 rfl ?_
      refine w_callV ok (y := (⟨"com/example/rowan/rowan/store/IdleHeap", "add", "(IJ)V"⟩ : MethodName)) (a := b556) (argsL := [(.int (1 : Int32)), (.long t1)]) (rest := []) at_79 (hw _ (List.mem_of_getElem? (i := 43) rfl)) (hw _ (List.mem_of_getElem? (i := 44) rfl)) (hw _ (List.mem_of_getElem? (i := 46) rfl)) (hw _ (List.mem_of_getElem? (i := 45) rfl)) (hw _ (List.mem_of_getElem? (i := 2) rfl)) (hw _ (List.mem_of_getElem? (i := 47) rfl)) (by decide) A_b556.1 pd_28IJ29V rfl rfl (by decide) (Nat.le_of_ble_eq_true rfl) (by decide) (by decide) (fun z0 => rm_add l Z a0 hw [] n0 h563 z0 b556 fen fti fsl 1 e1 g1 τ1 A_b556 A_fen A_fti A_fsl ge_b556 ge_fen ge_fti ge_fsl nf_0 nf_1 nf_2 nf_3 nf_4 nf_5 (put (fun _ => none) 0 (some t0)) P1 H1 1 t1 (by decide) rfl (by decide)) (fun v566 h567 qv566 => ?_)
      obtain ⟨rfl, e2, g2, τ2, K1, A0, A1, A2, A3, P2, H2, E2⟩ := qv566
      replace A_b556 : Ob Z h567 b556 "com/example/rowan/rowan/store/IdleHeap" fl_IdleHeap [(.ref fen), (.ref fti), (.ref fsl), (.int (2 : Int32))] := A0
      replace A_fen := A1
      replace A_fti := A2
      replace A_fsl := A3
      show W K l _ n0 _ h567 7 16 82 #[.val (.long t0), .second, .val (.long t1), .second, .val (.int flags), .val (.int f), .val (.int gg), .val (.int (1 : Int32)), .val (.int (2 : Int32)), .val (.int (3 : Int32)), .val (.ref b556), .unset, .unset, .unset, .unset] []
      refine w_iload ok at_82 rfl ?_
      refine w_if_eq ok at_84 (pc' := 97) (by decide) (fun hc569 => False.elim (by revert hc569; decide)) (fun hc569 => ?_)
      show W K l _ n0 _ h567 7 16 87 #[.val (.long t0), .second, .val (.long t1), .second, .val (.int flags), .val (.int f), .val (.int gg), .val (.int (1 : Int32)), .val (.int (2 : Int32)), .val (.int (3 : Int32)), .val (.ref b556), .unset, .unset, .unset, .unset] []
      refine w_lloadN ok at_87 rfl ?_
      refine w_lloadN ok at_88 rfl ?_
      refine w_lcmp_ge ok at_89 at_90 (pc' := 97) (by decide) (fun hc571 => ?_) (fun hc571 => ?_)
      · show W K l _ n0 _ h567 7 16 97 #[.val (.long t0), .second, .val (.long t1), .second, .val (.int flags), .val (.int f), .val (.int gg), .val (.int (1 : Int32)), .val (.int (2 : Int32)), .val (.int (3 : Int32)), .val (.ref b556), .unset, .unset, .unset, .unset] []
        refine w_iconst ok at_97 (v := (0 : Int32)) rfl ?_
        show W K l _ n0 _ h567 7 16 98 #[.val (.long t0), .second, .val (.long t1), .second, .val (.int flags), .val (.int f), .val (.int gg), .val (.int (1 : Int32)), .val (.int (2 : Int32)), .val (.int (3 : Int32)), .val (.ref b556), .unset, .unset, .unset, .unset] [(.int (0 : Int32))]
        obtain ⟨o1, o2⟩ := own_one P1
        have E : e2 0 = Int32.ofNat 0 := (E2 (by rw [o2]; exact hc571) (by decide)).trans o1
        refine w_istore ok at_98 (L' := #[.val (.long t0), .second, .val (.long t1), .second, .val (.int flags), .val (.int f), .val (.int gg), .val (.int (1 : Int32)), .val (.int (2 : Int32)), .val (.int (3 : Int32)), .val (.ref b556), .val (.int (0 : Int32)), .unset, .unset, .unset]) rfl ?_
        refine w_iload ok at_100 rfl ?_
        refine w_if_eq ok at_102 (pc' := 112) (by decide) (fun hc573 => False.elim (by revert hc573; decide)) (fun hc573 => ?_)
        show W K l _ n0 _ h567 7 16 105 #[.val (.long t0), .second, .val (.long t1), .second, .val (.int flags), .val (.int f), .val (.int gg), .val (.int (1 : Int32)), .val (.int (2 : Int32)), .val (.int (3 : Int32)), .val (.ref b556), .val (.int (0 : Int32)), .unset, .unset, .unset] []
        refine w_iconst ok at_105 (v := (1 : Int32)) rfl ?_
        refine w_iload ok at_106 rfl ?_
        refine w_isub ok at_108 ?_
        show W K l _ n0 _ h567 7 16 109 #[.val (.long t0), .second, .val (.long t1), .second, .val (.int flags), .val (.int f), .val (.int gg), .val (.int (1 : Int32)), .val (.int (2 : Int32)), .val (.int (3 : Int32)), .val (.ref b556), .val (.int (0 : Int32)), .unset, .unset, .unset] [(.int (1 : Int32))]
        refine w_goto ok at_109 (pc' := 113) (by decide) ?_
        refine w_istore ok at_113 (L' := #[.val (.long t0), .second, .val (.long t1), .second, .val (.int flags), .val (.int f), .val (.int gg), .val (.int (1 : Int32)), .val (.int (2 : Int32)), .val (.int (3 : Int32)), .val (.ref b556), .val (.int (0 : Int32)), .val (.int (1 : Int32)), .unset, .unset]) rfl ?_
        refine w_aload ok at_115 rfl rfl ?_
        refine w_iload ok at_117 rfl ?_
        refine w_iload ok at_119 rfl ?_
        refine w_callV ok (y := (⟨"com/example/rowan/rowan/store/IdleHeap", "renumber", "(II)V"⟩ : MethodName)) (a := b556) (argsL := [(.int (2 : Int32)), (.int (3 : Int32))]) (rest := []) at_121 (hw _ (List.mem_of_getElem? (i := 58) rfl)) (hw _ (List.mem_of_getElem? (i := 59) rfl)) (hw _ (List.mem_of_getElem? (i := 61) rfl)) (hw _ (List.mem_of_getElem? (i := 60) rfl)) (hw _ (List.mem_of_getElem? (i := 2) rfl)) (hw _ (List.mem_of_getElem? (i := 62) rfl)) (by decide) A_b556.1 pd_28II29V rfl rfl (by decide) (Nat.le_of_ble_eq_true rfl) (by decide) (by decide) (fun z0 => rm_ren0 l Z a0 hw [] n0 h567 z0 b556 fen fti fsl 2 e2 g2 τ2 A_b556 A_fen A_fti A_fsl ge_b556 ge_fen ge_fti ge_fsl nf_0 nf_1 nf_2 nf_3 nf_4 nf_5 (put (put (fun _ => none) 0 (some t0)) 1 (some t1)) P2 H2 2 3 (by decide) (by decide) rfl rfl) (fun v574 h575 qv574 => ?_)
        obtain ⟨rfl, K1, A0, A1, A2, A3⟩ := qv574
        replace A_b556 : Ob Z h575 b556 "com/example/rowan/rowan/store/IdleHeap" fl_IdleHeap [(.ref fen), (.ref fti), (.ref fsl), (.int (2 : Int32))] := A0
        replace A_fen : PA .int Z h575 fen (sv 4 e2) := A1
        replace A_fti : PA .long Z h575 fti (lv 4 τ2) := A2
        replace A_fsl : PA .int Z h575 fsl (sv 4 g2) := A3
        show W K l _ n0 _ h575 7 16 124 #[.val (.long t0), .second, .val (.long t1), .second, .val (.int flags), .val (.int f), .val (.int gg), .val (.int (1 : Int32)), .val (.int (2 : Int32)), .val (.int (3 : Int32)), .val (.ref b556), .val (.int (0 : Int32)), .val (.int (1 : Int32)), .unset, .unset] []
        refine w_aload ok at_124 rfl rfl ?_
        refine w_iload ok at_126 rfl ?_
        refine w_callV ok (y := (⟨"com/example/rowan/rowan/store/IdleHeap", "remove", "(I)V"⟩ : MethodName)) (a := b556) (argsL := [(.int (2 : Int32))]) (rest := []) at_128 (hw _ (List.mem_of_getElem? (i := 63) rfl)) (hw _ (List.mem_of_getElem? (i := 64) rfl)) (hw _ (List.mem_of_getElem? (i := 66) rfl)) (hw _ (List.mem_of_getElem? (i := 65) rfl)) (hw _ (List.mem_of_getElem? (i := 2) rfl)) (hw _ (List.mem_of_getElem? (i := 67) rfl)) (by decide) A_b556.1 pd_28I29V rfl rfl (by decide) (Nat.le_of_ble_eq_true rfl) (by decide) (by decide) (fun z0 => rm_remove0 l Z a0 hw [] n0 h575 z0 b556 fen fti fsl 2 e2 g2 τ2 A_b556 A_fen A_fti A_fsl ge_b556 ge_fen ge_fti ge_fsl nf_0 nf_1 nf_2 nf_3 nf_4 nf_5 (put (put (fun _ => none) 0 (some t0)) 1 (some t1)) P2 H2 2 (by decide) rfl) (fun v576 h577 qv576 => ?_)
        obtain ⟨rfl, rfl⟩ := qv576
        show W K l _ n0 _ h575 7 16 131 #[.val (.long t0), .second, .val (.long t1), .second, .val (.int flags), .val (.int f), .val (.int gg), .val (.int (1 : Int32)), .val (.int (2 : Int32)), .val (.int (3 : Int32)), .val (.ref b556), .val (.int (0 : Int32)), .val (.int (1 : Int32)), .unset, .unset] []
        refine w_iload ok at_131 rfl ?_
        refine w_iload ok at_133 rfl ?_
        refine w_iload ok at_135 rfl ?_
        refine w_callS ok (y := (⟨"com/example/rowan/rowan/store/IdleHeapRenumberPinLaw", "map", "(III)I"⟩ : MethodName)) (argsL := [(.int (0 : Int32)), (.int (2 : Int32)), (.int (3 : Int32))]) (rest := []) at_137 (hw _ (List.mem_of_getElem? (i := 68) rfl)) (hw _ (List.mem_of_getElem? (i := 69) rfl)) (hw _ (List.mem_of_getElem? (i := 70) rfl)) (hw _ (List.mem_of_getElem? (i := 71) rfl)) (by decide) pd_28III29I rfl rfl (by decide) (Nat.le_of_ble_eq_true rfl) (by decide) (by decide) (fun z0 => rm_map l Z a0 hw [] n0 h575 z0 (0 : Int32) (2 : Int32) (3 : Int32)) (fun v578 h579 qv578 => ?_)
        obtain ⟨rfl, rfl⟩ := qv578
        rw [show own_map (0 : Int32) (2 : Int32) (3 : Int32) = (0 : Int32) from rfl]
        show W K l _ n0 _ h575 7 16 140 #[.val (.long t0), .second, .val (.long t1), .second, .val (.int flags), .val (.int f), .val (.int gg), .val (.int (1 : Int32)), .val (.int (2 : Int32)), .val (.int (3 : Int32)), .val (.ref b556), .val (.int (0 : Int32)), .val (.int (1 : Int32)), .unset, .unset] [(.int (0 : Int32))]
        refine w_istore ok at_140 (L' := #[.val (.long t0), .second, .val (.long t1), .second, .val (.int flags), .val (.int f), .val (.int gg), .val (.int (1 : Int32)), .val (.int (2 : Int32)), .val (.int (3 : Int32)), .val (.ref b556), .val (.int (0 : Int32)), .val (.int (1 : Int32)), .val (.int (0 : Int32)), .unset]) rfl ?_
        refine w_aload ok at_142 rfl rfl ?_
        refine w_callV ok (y := (⟨"com/example/rowan/rowan/store/IdleHeap", "first", "()I"⟩ : MethodName)) (a := b556) (argsL := []) (rest := []) at_144 (hw _ (List.mem_of_getElem? (i := 72) rfl)) (hw _ (List.mem_of_getElem? (i := 73) rfl)) (hw _ (List.mem_of_getElem? (i := 75) rfl)) (hw _ (List.mem_of_getElem? (i := 74) rfl)) (hw _ (List.mem_of_getElem? (i := 2) rfl)) (hw _ (List.mem_of_getElem? (i := 76) rfl)) (by decide) A_b556.1 pd_2829I rfl rfl (by decide) (Nat.le_of_ble_eq_true rfl) (by decide) (by decide) (fun z0 => rm_first l Z a0 hw [] n0 h575 z0 b556 fen fti fsl 2 e2 g2 τ2 A_b556 A_fen A_fti A_fsl ge_b556 ge_fen ge_fti ge_fsl nf_0 nf_1 nf_2 nf_3 nf_4 nf_5 (put (put (fun _ => none) 0 (some t0)) 1 (some t1)) P2 H2) (fun v580 h581 qv580 => ?_)
        obtain ⟨rfl, ⟨hs0, rfl⟩ | ⟨y, hy, hs, ey, rfl⟩⟩ := qv580
        · exact absurd hs0 (by decide)
        · skip
          obtain rfl : y = 0 := own_inj hy (by decide) (ey.symm.trans E)
          show W K l _ n0 _ h575 7 16 147 #[.val (.long t0), .second, .val (.long t1), .second, .val (.int flags), .val (.int f), .val (.int gg), .val (.int (1 : Int32)), .val (.int (2 : Int32)), .val (.int (3 : Int32)), .val (.ref b556), .val (.int (0 : Int32)), .val (.int (1 : Int32)), .val (.int (0 : Int32)), .unset] [(.int (0 : Int32))]
          refine w_iload ok at_147 rfl ?_
          refine w_icmp_eq ok at_149 (pc' := 154) (by decide) (fun hc583 => ?_) (fun hc583 => False.elim (by revert hc583; decide))
          show W K l _ n0 _ h575 7 16 154 #[.val (.long t0), .second, .val (.long t1), .second, .val (.int flags), .val (.int f), .val (.int gg), .val (.int (1 : Int32)), .val (.int (2 : Int32)), .val (.int (3 : Int32)), .val (.ref b556), .val (.int (0 : Int32)), .val (.int (1 : Int32)), .val (.int (0 : Int32)), .unset] []
          refine w_aload ok at_154 rfl rfl ?_
          refine w_iload ok at_156 rfl ?_
          refine w_callV ok (y := (⟨"com/example/rowan/rowan/store/IdleHeap", "remove", "(I)V"⟩ : MethodName)) (a := b556) (argsL := [(.int (0 : Int32))]) (rest := []) at_158 (hw _ (List.mem_of_getElem? (i := 63) rfl)) (hw _ (List.mem_of_getElem? (i := 64) rfl)) (hw _ (List.mem_of_getElem? (i := 66) rfl)) (hw _ (List.mem_of_getElem? (i := 65) rfl)) (hw _ (List.mem_of_getElem? (i := 2) rfl)) (hw _ (List.mem_of_getElem? (i := 67) rfl)) (by decide) A_b556.1 pd_28I29V rfl rfl (by decide) (Nat.le_of_ble_eq_true rfl) (by decide) (by decide) (fun z0 => rm_remove l Z a0 hw [] n0 h575 z0 b556 fen fti fsl 2 e2 g2 τ2 A_b556 A_fen A_fti A_fsl ge_b556 ge_fen ge_fti ge_fsl nf_0 nf_1 nf_2 nf_3 nf_4 nf_5 (put (put (fun _ => none) 0 (some t0)) 1 (some t1)) P2 H2 0 (by decide)) (fun v585 h586 qv585 => ?_)
          obtain ⟨rfl, sx584, ex584, gx584, τx584, K1, A0, A1, A2, A3, Px584, Hx584⟩ := qv585
          replace A_b556 : Ob Z h586 b556 "com/example/rowan/rowan/store/IdleHeap" fl_IdleHeap [(.ref fen), (.ref fti), (.ref fsl), (.int (Int32.ofNat sx584))] := A0
          replace A_fen := A1
          replace A_fti := A2
          replace A_fsl := A3
          show W K l _ n0 _ h586 7 16 161 #[.val (.long t0), .second, .val (.long t1), .second, .val (.int flags), .val (.int f), .val (.int gg), .val (.int (1 : Int32)), .val (.int (2 : Int32)), .val (.int (3 : Int32)), .val (.ref b556), .val (.int (0 : Int32)), .val (.int (1 : Int32)), .val (.int (0 : Int32)), .unset] []
          refine w_iload ok at_161 rfl ?_
          refine w_iconst ok at_163 (v := (-1 : Int32)) rfl ?_
          refine w_icmp_ne ok at_164 (pc' := 171) (by decide) (fun hc588 => ?_) (fun hc588 => False.elim (by revert hc588; decide))
          show W K l _ n0 _ h586 7 16 171 #[.val (.long t0), .second, .val (.long t1), .second, .val (.int flags), .val (.int f), .val (.int gg), .val (.int (1 : Int32)), .val (.int (2 : Int32)), .val (.int (3 : Int32)), .val (.ref b556), .val (.int (0 : Int32)), .val (.int (1 : Int32)), .val (.int (0 : Int32)), .unset] []
          refine w_iload ok at_171 rfl ?_
          refine w_iload ok at_173 rfl ?_
          refine w_iload ok at_175 rfl ?_
          refine w_callS ok (y := (⟨"com/example/rowan/rowan/store/IdleHeapRenumberPinLaw", "map", "(III)I"⟩ : MethodName)) (argsL := [(.int (1 : Int32)), (.int (2 : Int32)), (.int (3 : Int32))]) (rest := []) at_177 (hw _ (List.mem_of_getElem? (i := 68) rfl)) (hw _ (List.mem_of_getElem? (i := 69) rfl)) (hw _ (List.mem_of_getElem? (i := 70) rfl)) (hw _ (List.mem_of_getElem? (i := 71) rfl)) (by decide) pd_28III29I rfl rfl (by decide) (Nat.le_of_ble_eq_true rfl) (by decide) (by decide) (fun z0 => rm_map l Z a0 hw [] n0 h586 z0 (1 : Int32) (2 : Int32) (3 : Int32)) (fun v589 h590 qv589 => ?_)
          obtain ⟨rfl, rfl⟩ := qv589
          rw [show own_map (1 : Int32) (2 : Int32) (3 : Int32) = (1 : Int32) from rfl]
          show W K l _ n0 _ h586 7 16 180 #[.val (.long t0), .second, .val (.long t1), .second, .val (.int flags), .val (.int f), .val (.int gg), .val (.int (1 : Int32)), .val (.int (2 : Int32)), .val (.int (3 : Int32)), .val (.ref b556), .val (.int (0 : Int32)), .val (.int (1 : Int32)), .val (.int (0 : Int32)), .unset] [(.int (1 : Int32))]
          refine w_istore ok at_180 (L' := #[.val (.long t0), .second, .val (.long t1), .second, .val (.int flags), .val (.int f), .val (.int gg), .val (.int (1 : Int32)), .val (.int (2 : Int32)), .val (.int (3 : Int32)), .val (.ref b556), .val (.int (0 : Int32)), .val (.int (1 : Int32)), .val (.int (0 : Int32)), .val (.int (1 : Int32))]) rfl ?_
          refine w_aload ok at_182 rfl rfl ?_
          refine w_callV ok (y := (⟨"com/example/rowan/rowan/store/IdleHeap", "first", "()I"⟩ : MethodName)) (a := b556) (argsL := []) (rest := []) at_184 (hw _ (List.mem_of_getElem? (i := 72) rfl)) (hw _ (List.mem_of_getElem? (i := 73) rfl)) (hw _ (List.mem_of_getElem? (i := 75) rfl)) (hw _ (List.mem_of_getElem? (i := 74) rfl)) (hw _ (List.mem_of_getElem? (i := 2) rfl)) (hw _ (List.mem_of_getElem? (i := 76) rfl)) (by decide) A_b556.1 pd_2829I rfl rfl (by decide) (Nat.le_of_ble_eq_true rfl) (by decide) (by decide) (fun z0 => rm_first l Z a0 hw [] n0 h586 z0 b556 fen fti fsl sx584 ex584 gx584 τx584 A_b556 A_fen A_fti A_fsl ge_b556 ge_fen ge_fti ge_fsl nf_0 nf_1 nf_2 nf_3 nf_4 nf_5 (put (put (put (fun _ => none) 0 (some t0)) 1 (some t1)) 0 none) Px584 Hx584) (fun v591 h592 qv591 => ?_)
          obtain ⟨rfl, ⟨hs0, rfl⟩ | ⟨y, hy, hs, ey, rfl⟩⟩ := qv591
          · subst hs0; exact (own_none0 Px584 (y := 1) (by decide) rfl).elim
          · have my := (Px584.at hs hy ey).1
            obtain rfl | rfl | rfl | rfl : y = 0 ∨ y = 1 ∨ y = 2 ∨ y = 3 := by omega
            · cases (show none = some _ from my)
            · skip
              show W K l _ n0 _ h586 7 16 187 #[.val (.long t0), .second, .val (.long t1), .second, .val (.int flags), .val (.int f), .val (.int gg), .val (.int (1 : Int32)), .val (.int (2 : Int32)), .val (.int (3 : Int32)), .val (.ref b556), .val (.int (0 : Int32)), .val (.int (1 : Int32)), .val (.int (0 : Int32)), .val (.int (1 : Int32))] [(.int (1 : Int32))]
              refine w_iload ok at_187 rfl ?_
              refine w_icmp_eq ok at_189 (pc' := 194) (by decide) (fun hc594 => ?_) (fun hc594 => False.elim (by revert hc594; decide))
              show W K l _ n0 _ h586 7 16 194 #[.val (.long t0), .second, .val (.long t1), .second, .val (.int flags), .val (.int f), .val (.int gg), .val (.int (1 : Int32)), .val (.int (2 : Int32)), .val (.int (3 : Int32)), .val (.ref b556), .val (.int (0 : Int32)), .val (.int (1 : Int32)), .val (.int (0 : Int32)), .val (.int (1 : Int32))] []
              refine w_iload ok at_194 rfl ?_
              refine w_iconst ok at_196 (v := (-1 : Int32)) rfl ?_
              refine w_icmp_eq ok at_197 (pc' := 218) (by decide) (fun hc596 => False.elim (by revert hc596; decide)) (fun hc596 => ?_)
              show W K l _ n0 _ h586 7 16 200 #[.val (.long t0), .second, .val (.long t1), .second, .val (.int flags), .val (.int f), .val (.int gg), .val (.int (1 : Int32)), .val (.int (2 : Int32)), .val (.int (3 : Int32)), .val (.ref b556), .val (.int (0 : Int32)), .val (.int (1 : Int32)), .val (.int (0 : Int32)), .val (.int (1 : Int32))] []
              refine w_aload ok at_200 rfl rfl ?_
              refine w_iload ok at_202 rfl ?_
              refine w_callV ok (y := (⟨"com/example/rowan/rowan/store/IdleHeap", "remove", "(I)V"⟩ : MethodName)) (a := b556) (argsL := [(.int (1 : Int32))]) (rest := []) at_204 (hw _ (List.mem_of_getElem? (i := 63) rfl)) (hw _ (List.mem_of_getElem? (i := 64) rfl)) (hw _ (List.mem_of_getElem? (i := 66) rfl)) (hw _ (List.mem_of_getElem? (i := 65) rfl)) (hw _ (List.mem_of_getElem? (i := 2) rfl)) (hw _ (List.mem_of_getElem? (i := 67) rfl)) (by decide) A_b556.1 pd_28I29V rfl rfl (by decide) (Nat.le_of_ble_eq_true rfl) (by decide) (by decide) (fun z0 => rm_remove l Z a0 hw [] n0 h586 z0 b556 fen fti fsl sx584 ex584 gx584 τx584 A_b556 A_fen A_fti A_fsl ge_b556 ge_fen ge_fti ge_fsl nf_0 nf_1 nf_2 nf_3 nf_4 nf_5 (put (put (put (fun _ => none) 0 (some t0)) 1 (some t1)) 0 none) Px584 Hx584 1 (by decide)) (fun v598 h599 qv598 => ?_)
              obtain ⟨rfl, sx597, ex597, gx597, τx597, K1, A0, A1, A2, A3, Px597, Hx597⟩ := qv598
              replace A_b556 : Ob Z h599 b556 "com/example/rowan/rowan/store/IdleHeap" fl_IdleHeap [(.ref fen), (.ref fti), (.ref fsl), (.int (Int32.ofNat sx597))] := A0
              replace A_fen := A1
              replace A_fti := A2
              replace A_fsl := A3
              show W K l _ n0 _ h599 7 16 207 #[.val (.long t0), .second, .val (.long t1), .second, .val (.int flags), .val (.int f), .val (.int gg), .val (.int (1 : Int32)), .val (.int (2 : Int32)), .val (.int (3 : Int32)), .val (.ref b556), .val (.int (0 : Int32)), .val (.int (1 : Int32)), .val (.int (0 : Int32)), .val (.int (1 : Int32))] []
              refine w_aload ok at_207 rfl rfl ?_
              refine w_callV ok (y := (⟨"com/example/rowan/rowan/store/IdleHeap", "first", "()I"⟩ : MethodName)) (a := b556) (argsL := []) (rest := []) at_209 (hw _ (List.mem_of_getElem? (i := 72) rfl)) (hw _ (List.mem_of_getElem? (i := 73) rfl)) (hw _ (List.mem_of_getElem? (i := 75) rfl)) (hw _ (List.mem_of_getElem? (i := 74) rfl)) (hw _ (List.mem_of_getElem? (i := 2) rfl)) (hw _ (List.mem_of_getElem? (i := 76) rfl)) (by decide) A_b556.1 pd_2829I rfl rfl (by decide) (Nat.le_of_ble_eq_true rfl) (by decide) (by decide) (fun z0 => rm_first l Z a0 hw [] n0 h599 z0 b556 fen fti fsl sx597 ex597 gx597 τx597 A_b556 A_fen A_fti A_fsl ge_b556 ge_fen ge_fti ge_fsl nf_0 nf_1 nf_2 nf_3 nf_4 nf_5 (put (put (put (put (fun _ => none) 0 (some t0)) 1 (some t1)) 0 none) 1 none) Px597 Hx597) (fun v600 h601 qv600 => ?_)
              obtain ⟨rfl, ⟨hs0, rfl⟩ | ⟨y, hy, hs, ey, rfl⟩⟩ := qv600
              · skip
                show W K l _ n0 _ h599 7 16 212 #[.val (.long t0), .second, .val (.long t1), .second, .val (.int flags), .val (.int f), .val (.int gg), .val (.int (1 : Int32)), .val (.int (2 : Int32)), .val (.int (3 : Int32)), .val (.ref b556), .val (.int (0 : Int32)), .val (.int (1 : Int32)), .val (.int (0 : Int32)), .val (.int (1 : Int32))] [(.int (-1 : Int32))]
                refine w_iconst ok at_212 (v := (-1 : Int32)) rfl ?_
                refine w_icmp_eq ok at_213 (pc' := 218) (by decide) (fun hc603 => ?_) (fun hc603 => False.elim (by revert hc603; decide))
                show W K l _ n0 _ h599 7 16 218 #[.val (.long t0), .second, .val (.long t1), .second, .val (.int flags), .val (.int f), .val (.int gg), .val (.int (1 : Int32)), .val (.int (2 : Int32)), .val (.int (3 : Int32)), .val (.ref b556), .val (.int (0 : Int32)), .val (.int (1 : Int32)), .val (.int (0 : Int32)), .val (.int (1 : Int32))] []
                refine w_iconst ok at_218 (v := (1 : Int32)) rfl ?_
                refine w_bret ok (by simp) at_219 (by decide) (by decide) ?_
                exact rfl
              · have my := (Px597.at hs hy ey).1
                obtain rfl | rfl | rfl | rfl : y = 0 ∨ y = 1 ∨ y = 2 ∨ y = 3 := by omega
                · cases (show none = some _ from my)
                · cases (show none = some _ from my)
                · cases (show none = some _ from my)
                · cases (show none = some _ from my)
            · cases (show none = some _ from my)
            · cases (show none = some _ from my)
      · show W K l _ n0 _ h567 7 16 93 #[.val (.long t0), .second, .val (.long t1), .second, .val (.int flags), .val (.int f), .val (.int gg), .val (.int (1 : Int32)), .val (.int (2 : Int32)), .val (.int (3 : Int32)), .val (.ref b556), .unset, .unset, .unset, .unset] []
        refine w_iconst ok at_93 (v := (1 : Int32)) rfl ?_
        refine w_goto ok at_94 (pc' := 98) (by decide) ?_
        show W K l _ n0 _ h567 7 16 98 #[.val (.long t0), .second, .val (.long t1), .second, .val (.int flags), .val (.int f), .val (.int gg), .val (.int (1 : Int32)), .val (.int (2 : Int32)), .val (.int (3 : Int32)), .val (.ref b556), .unset, .unset, .unset, .unset] [(.int (1 : Int32))]
        obtain ⟨o1, o2⟩ := own_one P1
        have E : e2 0 = Int32.ofNat 1 := own_two P2 H2 hc571
        refine w_istore ok at_98 (L' := #[.val (.long t0), .second, .val (.long t1), .second, .val (.int flags), .val (.int f), .val (.int gg), .val (.int (1 : Int32)), .val (.int (2 : Int32)), .val (.int (3 : Int32)), .val (.ref b556), .val (.int (1 : Int32)), .unset, .unset, .unset]) rfl ?_
        refine w_iload ok at_100 rfl ?_
        refine w_if_eq ok at_102 (pc' := 112) (by decide) (fun hc605 => False.elim (by revert hc605; decide)) (fun hc605 => ?_)
        show W K l _ n0 _ h567 7 16 105 #[.val (.long t0), .second, .val (.long t1), .second, .val (.int flags), .val (.int f), .val (.int gg), .val (.int (1 : Int32)), .val (.int (2 : Int32)), .val (.int (3 : Int32)), .val (.ref b556), .val (.int (1 : Int32)), .unset, .unset, .unset] []
        refine w_iconst ok at_105 (v := (1 : Int32)) rfl ?_
        refine w_iload ok at_106 rfl ?_
        refine w_isub ok at_108 ?_
        show W K l _ n0 _ h567 7 16 109 #[.val (.long t0), .second, .val (.long t1), .second, .val (.int flags), .val (.int f), .val (.int gg), .val (.int (1 : Int32)), .val (.int (2 : Int32)), .val (.int (3 : Int32)), .val (.ref b556), .val (.int (1 : Int32)), .unset, .unset, .unset] [(.int (0 : Int32))]
        refine w_goto ok at_109 (pc' := 113) (by decide) ?_
        refine w_istore ok at_113 (L' := #[.val (.long t0), .second, .val (.long t1), .second, .val (.int flags), .val (.int f), .val (.int gg), .val (.int (1 : Int32)), .val (.int (2 : Int32)), .val (.int (3 : Int32)), .val (.ref b556), .val (.int (1 : Int32)), .val (.int (0 : Int32)), .unset, .unset]) rfl ?_
        refine w_aload ok at_115 rfl rfl ?_
        refine w_iload ok at_117 rfl ?_
        refine w_iload ok at_119 rfl ?_
        refine w_callV ok (y := (⟨"com/example/rowan/rowan/store/IdleHeap", "renumber", "(II)V"⟩ : MethodName)) (a := b556) (argsL := [(.int (2 : Int32)), (.int (3 : Int32))]) (rest := []) at_121 (hw _ (List.mem_of_getElem? (i := 58) rfl)) (hw _ (List.mem_of_getElem? (i := 59) rfl)) (hw _ (List.mem_of_getElem? (i := 61) rfl)) (hw _ (List.mem_of_getElem? (i := 60) rfl)) (hw _ (List.mem_of_getElem? (i := 2) rfl)) (hw _ (List.mem_of_getElem? (i := 62) rfl)) (by decide) A_b556.1 pd_28II29V rfl rfl (by decide) (Nat.le_of_ble_eq_true rfl) (by decide) (by decide) (fun z0 => rm_ren0 l Z a0 hw [] n0 h567 z0 b556 fen fti fsl 2 e2 g2 τ2 A_b556 A_fen A_fti A_fsl ge_b556 ge_fen ge_fti ge_fsl nf_0 nf_1 nf_2 nf_3 nf_4 nf_5 (put (put (fun _ => none) 0 (some t0)) 1 (some t1)) P2 H2 2 3 (by decide) (by decide) rfl rfl) (fun v606 h607 qv606 => ?_)
        obtain ⟨rfl, K1, A0, A1, A2, A3⟩ := qv606
        replace A_b556 : Ob Z h607 b556 "com/example/rowan/rowan/store/IdleHeap" fl_IdleHeap [(.ref fen), (.ref fti), (.ref fsl), (.int (2 : Int32))] := A0
        replace A_fen : PA .int Z h607 fen (sv 4 e2) := A1
        replace A_fti : PA .long Z h607 fti (lv 4 τ2) := A2
        replace A_fsl : PA .int Z h607 fsl (sv 4 g2) := A3
        show W K l _ n0 _ h607 7 16 124 #[.val (.long t0), .second, .val (.long t1), .second, .val (.int flags), .val (.int f), .val (.int gg), .val (.int (1 : Int32)), .val (.int (2 : Int32)), .val (.int (3 : Int32)), .val (.ref b556), .val (.int (1 : Int32)), .val (.int (0 : Int32)), .unset, .unset] []
        refine w_aload ok at_124 rfl rfl ?_
        refine w_iload ok at_126 rfl ?_
        refine w_callV ok (y := (⟨"com/example/rowan/rowan/store/IdleHeap", "remove", "(I)V"⟩ : MethodName)) (a := b556) (argsL := [(.int (2 : Int32))]) (rest := []) at_128 (hw _ (List.mem_of_getElem? (i := 63) rfl)) (hw _ (List.mem_of_getElem? (i := 64) rfl)) (hw _ (List.mem_of_getElem? (i := 66) rfl)) (hw _ (List.mem_of_getElem? (i := 65) rfl)) (hw _ (List.mem_of_getElem? (i := 2) rfl)) (hw _ (List.mem_of_getElem? (i := 67) rfl)) (by decide) A_b556.1 pd_28I29V rfl rfl (by decide) (Nat.le_of_ble_eq_true rfl) (by decide) (by decide) (fun z0 => rm_remove0 l Z a0 hw [] n0 h607 z0 b556 fen fti fsl 2 e2 g2 τ2 A_b556 A_fen A_fti A_fsl ge_b556 ge_fen ge_fti ge_fsl nf_0 nf_1 nf_2 nf_3 nf_4 nf_5 (put (put (fun _ => none) 0 (some t0)) 1 (some t1)) P2 H2 2 (by decide) rfl) (fun v608 h609 qv608 => ?_)
        obtain ⟨rfl, rfl⟩ := qv608
        show W K l _ n0 _ h607 7 16 131 #[.val (.long t0), .second, .val (.long t1), .second, .val (.int flags), .val (.int f), .val (.int gg), .val (.int (1 : Int32)), .val (.int (2 : Int32)), .val (.int (3 : Int32)), .val (.ref b556), .val (.int (1 : Int32)), .val (.int (0 : Int32)), .unset, .unset] []
        refine w_iload ok at_131 rfl ?_
        refine w_iload ok at_133 rfl ?_
        refine w_iload ok at_135 rfl ?_
        refine w_callS ok (y := (⟨"com/example/rowan/rowan/store/IdleHeapRenumberPinLaw", "map", "(III)I"⟩ : MethodName)) (argsL := [(.int (1 : Int32)), (.int (2 : Int32)), (.int (3 : Int32))]) (rest := []) at_137 (hw _ (List.mem_of_getElem? (i := 68) rfl)) (hw _ (List.mem_of_getElem? (i := 69) rfl)) (hw _ (List.mem_of_getElem? (i := 70) rfl)) (hw _ (List.mem_of_getElem? (i := 71) rfl)) (by decide) pd_28III29I rfl rfl (by decide) (Nat.le_of_ble_eq_true rfl) (by decide) (by decide) (fun z0 => rm_map l Z a0 hw [] n0 h607 z0 (1 : Int32) (2 : Int32) (3 : Int32)) (fun v610 h611 qv610 => ?_)
        obtain ⟨rfl, rfl⟩ := qv610
        rw [show own_map (1 : Int32) (2 : Int32) (3 : Int32) = (1 : Int32) from rfl]
        show W K l _ n0 _ h607 7 16 140 #[.val (.long t0), .second, .val (.long t1), .second, .val (.int flags), .val (.int f), .val (.int gg), .val (.int (1 : Int32)), .val (.int (2 : Int32)), .val (.int (3 : Int32)), .val (.ref b556), .val (.int (1 : Int32)), .val (.int (0 : Int32)), .unset, .unset] [(.int (1 : Int32))]
        refine w_istore ok at_140 (L' := #[.val (.long t0), .second, .val (.long t1), .second, .val (.int flags), .val (.int f), .val (.int gg), .val (.int (1 : Int32)), .val (.int (2 : Int32)), .val (.int (3 : Int32)), .val (.ref b556), .val (.int (1 : Int32)), .val (.int (0 : Int32)), .val (.int (1 : Int32)), .unset]) rfl ?_
        refine w_aload ok at_142 rfl rfl ?_
        refine w_callV ok (y := (⟨"com/example/rowan/rowan/store/IdleHeap", "first", "()I"⟩ : MethodName)) (a := b556) (argsL := []) (rest := []) at_144 (hw _ (List.mem_of_getElem? (i := 72) rfl)) (hw _ (List.mem_of_getElem? (i := 73) rfl)) (hw _ (List.mem_of_getElem? (i := 75) rfl)) (hw _ (List.mem_of_getElem? (i := 74) rfl)) (hw _ (List.mem_of_getElem? (i := 2) rfl)) (hw _ (List.mem_of_getElem? (i := 76) rfl)) (by decide) A_b556.1 pd_2829I rfl rfl (by decide) (Nat.le_of_ble_eq_true rfl) (by decide) (by decide) (fun z0 => rm_first l Z a0 hw [] n0 h607 z0 b556 fen fti fsl 2 e2 g2 τ2 A_b556 A_fen A_fti A_fsl ge_b556 ge_fen ge_fti ge_fsl nf_0 nf_1 nf_2 nf_3 nf_4 nf_5 (put (put (fun _ => none) 0 (some t0)) 1 (some t1)) P2 H2) (fun v612 h613 qv612 => ?_)
        obtain ⟨rfl, ⟨hs0, rfl⟩ | ⟨y, hy, hs, ey, rfl⟩⟩ := qv612
        · exact absurd hs0 (by decide)
        · skip
          obtain rfl : y = 1 := own_inj hy (by decide) (ey.symm.trans E)
          show W K l _ n0 _ h607 7 16 147 #[.val (.long t0), .second, .val (.long t1), .second, .val (.int flags), .val (.int f), .val (.int gg), .val (.int (1 : Int32)), .val (.int (2 : Int32)), .val (.int (3 : Int32)), .val (.ref b556), .val (.int (1 : Int32)), .val (.int (0 : Int32)), .val (.int (1 : Int32)), .unset] [(.int (1 : Int32))]
          refine w_iload ok at_147 rfl ?_
          refine w_icmp_eq ok at_149 (pc' := 154) (by decide) (fun hc615 => ?_) (fun hc615 => False.elim (by revert hc615; decide))
          show W K l _ n0 _ h607 7 16 154 #[.val (.long t0), .second, .val (.long t1), .second, .val (.int flags), .val (.int f), .val (.int gg), .val (.int (1 : Int32)), .val (.int (2 : Int32)), .val (.int (3 : Int32)), .val (.ref b556), .val (.int (1 : Int32)), .val (.int (0 : Int32)), .val (.int (1 : Int32)), .unset] []
          refine w_aload ok at_154 rfl rfl ?_
          refine w_iload ok at_156 rfl ?_
          refine w_callV ok (y := (⟨"com/example/rowan/rowan/store/IdleHeap", "remove", "(I)V"⟩ : MethodName)) (a := b556) (argsL := [(.int (1 : Int32))]) (rest := []) at_158 (hw _ (List.mem_of_getElem? (i := 63) rfl)) (hw _ (List.mem_of_getElem? (i := 64) rfl)) (hw _ (List.mem_of_getElem? (i := 66) rfl)) (hw _ (List.mem_of_getElem? (i := 65) rfl)) (hw _ (List.mem_of_getElem? (i := 2) rfl)) (hw _ (List.mem_of_getElem? (i := 67) rfl)) (by decide) A_b556.1 pd_28I29V rfl rfl (by decide) (Nat.le_of_ble_eq_true rfl) (by decide) (by decide) (fun z0 => rm_remove l Z a0 hw [] n0 h607 z0 b556 fen fti fsl 2 e2 g2 τ2 A_b556 A_fen A_fti A_fsl ge_b556 ge_fen ge_fti ge_fsl nf_0 nf_1 nf_2 nf_3 nf_4 nf_5 (put (put (fun _ => none) 0 (some t0)) 1 (some t1)) P2 H2 1 (by decide)) (fun v617 h618 qv617 => ?_)
          obtain ⟨rfl, sx616, ex616, gx616, τx616, K1, A0, A1, A2, A3, Px616, Hx616⟩ := qv617
          replace A_b556 : Ob Z h618 b556 "com/example/rowan/rowan/store/IdleHeap" fl_IdleHeap [(.ref fen), (.ref fti), (.ref fsl), (.int (Int32.ofNat sx616))] := A0
          replace A_fen := A1
          replace A_fti := A2
          replace A_fsl := A3
          show W K l _ n0 _ h618 7 16 161 #[.val (.long t0), .second, .val (.long t1), .second, .val (.int flags), .val (.int f), .val (.int gg), .val (.int (1 : Int32)), .val (.int (2 : Int32)), .val (.int (3 : Int32)), .val (.ref b556), .val (.int (1 : Int32)), .val (.int (0 : Int32)), .val (.int (1 : Int32)), .unset] []
          refine w_iload ok at_161 rfl ?_
          refine w_iconst ok at_163 (v := (-1 : Int32)) rfl ?_
          refine w_icmp_ne ok at_164 (pc' := 171) (by decide) (fun hc620 => ?_) (fun hc620 => False.elim (by revert hc620; decide))
          show W K l _ n0 _ h618 7 16 171 #[.val (.long t0), .second, .val (.long t1), .second, .val (.int flags), .val (.int f), .val (.int gg), .val (.int (1 : Int32)), .val (.int (2 : Int32)), .val (.int (3 : Int32)), .val (.ref b556), .val (.int (1 : Int32)), .val (.int (0 : Int32)), .val (.int (1 : Int32)), .unset] []
          refine w_iload ok at_171 rfl ?_
          refine w_iload ok at_173 rfl ?_
          refine w_iload ok at_175 rfl ?_
          refine w_callS ok (y := (⟨"com/example/rowan/rowan/store/IdleHeapRenumberPinLaw", "map", "(III)I"⟩ : MethodName)) (argsL := [(.int (0 : Int32)), (.int (2 : Int32)), (.int (3 : Int32))]) (rest := []) at_177 (hw _ (List.mem_of_getElem? (i := 68) rfl)) (hw _ (List.mem_of_getElem? (i := 69) rfl)) (hw _ (List.mem_of_getElem? (i := 70) rfl)) (hw _ (List.mem_of_getElem? (i := 71) rfl)) (by decide) pd_28III29I rfl rfl (by decide) (Nat.le_of_ble_eq_true rfl) (by decide) (by decide) (fun z0 => rm_map l Z a0 hw [] n0 h618 z0 (0 : Int32) (2 : Int32) (3 : Int32)) (fun v621 h622 qv621 => ?_)
          obtain ⟨rfl, rfl⟩ := qv621
          rw [show own_map (0 : Int32) (2 : Int32) (3 : Int32) = (0 : Int32) from rfl]
          show W K l _ n0 _ h618 7 16 180 #[.val (.long t0), .second, .val (.long t1), .second, .val (.int flags), .val (.int f), .val (.int gg), .val (.int (1 : Int32)), .val (.int (2 : Int32)), .val (.int (3 : Int32)), .val (.ref b556), .val (.int (1 : Int32)), .val (.int (0 : Int32)), .val (.int (1 : Int32)), .unset] [(.int (0 : Int32))]
          refine w_istore ok at_180 (L' := #[.val (.long t0), .second, .val (.long t1), .second, .val (.int flags), .val (.int f), .val (.int gg), .val (.int (1 : Int32)), .val (.int (2 : Int32)), .val (.int (3 : Int32)), .val (.ref b556), .val (.int (1 : Int32)), .val (.int (0 : Int32)), .val (.int (1 : Int32)), .val (.int (0 : Int32))]) rfl ?_
          refine w_aload ok at_182 rfl rfl ?_
          refine w_callV ok (y := (⟨"com/example/rowan/rowan/store/IdleHeap", "first", "()I"⟩ : MethodName)) (a := b556) (argsL := []) (rest := []) at_184 (hw _ (List.mem_of_getElem? (i := 72) rfl)) (hw _ (List.mem_of_getElem? (i := 73) rfl)) (hw _ (List.mem_of_getElem? (i := 75) rfl)) (hw _ (List.mem_of_getElem? (i := 74) rfl)) (hw _ (List.mem_of_getElem? (i := 2) rfl)) (hw _ (List.mem_of_getElem? (i := 76) rfl)) (by decide) A_b556.1 pd_2829I rfl rfl (by decide) (Nat.le_of_ble_eq_true rfl) (by decide) (by decide) (fun z0 => rm_first l Z a0 hw [] n0 h618 z0 b556 fen fti fsl sx616 ex616 gx616 τx616 A_b556 A_fen A_fti A_fsl ge_b556 ge_fen ge_fti ge_fsl nf_0 nf_1 nf_2 nf_3 nf_4 nf_5 (put (put (put (fun _ => none) 0 (some t0)) 1 (some t1)) 1 none) Px616 Hx616) (fun v623 h624 qv623 => ?_)
          obtain ⟨rfl, ⟨hs0, rfl⟩ | ⟨y, hy, hs, ey, rfl⟩⟩ := qv623
          · subst hs0; exact (own_none0 Px616 (y := 0) (by decide) rfl).elim
          · have my := (Px616.at hs hy ey).1
            obtain rfl | rfl | rfl | rfl : y = 0 ∨ y = 1 ∨ y = 2 ∨ y = 3 := by omega
            · skip
              show W K l _ n0 _ h618 7 16 187 #[.val (.long t0), .second, .val (.long t1), .second, .val (.int flags), .val (.int f), .val (.int gg), .val (.int (1 : Int32)), .val (.int (2 : Int32)), .val (.int (3 : Int32)), .val (.ref b556), .val (.int (1 : Int32)), .val (.int (0 : Int32)), .val (.int (1 : Int32)), .val (.int (0 : Int32))] [(.int (0 : Int32))]
              refine w_iload ok at_187 rfl ?_
              refine w_icmp_eq ok at_189 (pc' := 194) (by decide) (fun hc626 => ?_) (fun hc626 => False.elim (by revert hc626; decide))
              show W K l _ n0 _ h618 7 16 194 #[.val (.long t0), .second, .val (.long t1), .second, .val (.int flags), .val (.int f), .val (.int gg), .val (.int (1 : Int32)), .val (.int (2 : Int32)), .val (.int (3 : Int32)), .val (.ref b556), .val (.int (1 : Int32)), .val (.int (0 : Int32)), .val (.int (1 : Int32)), .val (.int (0 : Int32))] []
              refine w_iload ok at_194 rfl ?_
              refine w_iconst ok at_196 (v := (-1 : Int32)) rfl ?_
              refine w_icmp_eq ok at_197 (pc' := 218) (by decide) (fun hc628 => False.elim (by revert hc628; decide)) (fun hc628 => ?_)
              show W K l _ n0 _ h618 7 16 200 #[.val (.long t0), .second, .val (.long t1), .second, .val (.int flags), .val (.int f), .val (.int gg), .val (.int (1 : Int32)), .val (.int (2 : Int32)), .val (.int (3 : Int32)), .val (.ref b556), .val (.int (1 : Int32)), .val (.int (0 : Int32)), .val (.int (1 : Int32)), .val (.int (0 : Int32))] []
              refine w_aload ok at_200 rfl rfl ?_
              refine w_iload ok at_202 rfl ?_
              refine w_callV ok (y := (⟨"com/example/rowan/rowan/store/IdleHeap", "remove", "(I)V"⟩ : MethodName)) (a := b556) (argsL := [(.int (0 : Int32))]) (rest := []) at_204 (hw _ (List.mem_of_getElem? (i := 63) rfl)) (hw _ (List.mem_of_getElem? (i := 64) rfl)) (hw _ (List.mem_of_getElem? (i := 66) rfl)) (hw _ (List.mem_of_getElem? (i := 65) rfl)) (hw _ (List.mem_of_getElem? (i := 2) rfl)) (hw _ (List.mem_of_getElem? (i := 67) rfl)) (by decide) A_b556.1 pd_28I29V rfl rfl (by decide) (Nat.le_of_ble_eq_true rfl) (by decide) (by decide) (fun z0 => rm_remove l Z a0 hw [] n0 h618 z0 b556 fen fti fsl sx616 ex616 gx616 τx616 A_b556 A_fen A_fti A_fsl ge_b556 ge_fen ge_fti ge_fsl nf_0 nf_1 nf_2 nf_3 nf_4 nf_5 (put (put (put (fun _ => none) 0 (some t0)) 1 (some t1)) 1 none) Px616 Hx616 0 (by decide)) (fun v630 h631 qv630 => ?_)
              obtain ⟨rfl, sx629, ex629, gx629, τx629, K1, A0, A1, A2, A3, Px629, Hx629⟩ := qv630
              replace A_b556 : Ob Z h631 b556 "com/example/rowan/rowan/store/IdleHeap" fl_IdleHeap [(.ref fen), (.ref fti), (.ref fsl), (.int (Int32.ofNat sx629))] := A0
              replace A_fen := A1
              replace A_fti := A2
              replace A_fsl := A3
              show W K l _ n0 _ h631 7 16 207 #[.val (.long t0), .second, .val (.long t1), .second, .val (.int flags), .val (.int f), .val (.int gg), .val (.int (1 : Int32)), .val (.int (2 : Int32)), .val (.int (3 : Int32)), .val (.ref b556), .val (.int (1 : Int32)), .val (.int (0 : Int32)), .val (.int (1 : Int32)), .val (.int (0 : Int32))] []
              refine w_aload ok at_207 rfl rfl ?_
              refine w_callV ok (y := (⟨"com/example/rowan/rowan/store/IdleHeap", "first", "()I"⟩ : MethodName)) (a := b556) (argsL := []) (rest := []) at_209 (hw _ (List.mem_of_getElem? (i := 72) rfl)) (hw _ (List.mem_of_getElem? (i := 73) rfl)) (hw _ (List.mem_of_getElem? (i := 75) rfl)) (hw _ (List.mem_of_getElem? (i := 74) rfl)) (hw _ (List.mem_of_getElem? (i := 2) rfl)) (hw _ (List.mem_of_getElem? (i := 76) rfl)) (by decide) A_b556.1 pd_2829I rfl rfl (by decide) (Nat.le_of_ble_eq_true rfl) (by decide) (by decide) (fun z0 => rm_first l Z a0 hw [] n0 h631 z0 b556 fen fti fsl sx629 ex629 gx629 τx629 A_b556 A_fen A_fti A_fsl ge_b556 ge_fen ge_fti ge_fsl nf_0 nf_1 nf_2 nf_3 nf_4 nf_5 (put (put (put (put (fun _ => none) 0 (some t0)) 1 (some t1)) 1 none) 0 none) Px629 Hx629) (fun v632 h633 qv632 => ?_)
              obtain ⟨rfl, ⟨hs0, rfl⟩ | ⟨y, hy, hs, ey, rfl⟩⟩ := qv632
              · skip
                show W K l _ n0 _ h631 7 16 212 #[.val (.long t0), .second, .val (.long t1), .second, .val (.int flags), .val (.int f), .val (.int gg), .val (.int (1 : Int32)), .val (.int (2 : Int32)), .val (.int (3 : Int32)), .val (.ref b556), .val (.int (1 : Int32)), .val (.int (0 : Int32)), .val (.int (1 : Int32)), .val (.int (0 : Int32))] [(.int (-1 : Int32))]
                refine w_iconst ok at_212 (v := (-1 : Int32)) rfl ?_
                refine w_icmp_eq ok at_213 (pc' := 218) (by decide) (fun hc635 => ?_) (fun hc635 => False.elim (by revert hc635; decide))
                show W K l _ n0 _ h631 7 16 218 #[.val (.long t0), .second, .val (.long t1), .second, .val (.int flags), .val (.int f), .val (.int gg), .val (.int (1 : Int32)), .val (.int (2 : Int32)), .val (.int (3 : Int32)), .val (.ref b556), .val (.int (1 : Int32)), .val (.int (0 : Int32)), .val (.int (1 : Int32)), .val (.int (0 : Int32))] []
                refine w_iconst ok at_218 (v := (1 : Int32)) rfl ?_
                refine w_bret ok (by simp) at_219 (by decide) (by decide) ?_
                exact rfl
              · have my := (Px629.at hs hy ey).1
                obtain rfl | rfl | rfl | rfl : y = 0 ∨ y = 1 ∨ y = 2 ∨ y = 3 := by omega
                · cases (show none = some _ from my)
                · cases (show none = some _ from my)
                · cases (show none = some _ from my)
                · cases (show none = some _ from my)
            · cases (show none = some _ from my)
            · cases (show none = some _ from my)
            · cases (show none = some _ from my)
    · skip
      show W K l _ n0 _ h0 0 0 20 #[.val (.long t0), .second, .val (.long t1), .second, .val (.int flags), .val (.int f), .val (.int gg), .val (.int (1 : Int32)), .val (.int (3 : Int32)), .unset, .unset, .unset, .unset, .unset, .unset] []
      refine w_iload ok at_20 rfl ?_
      refine w_iconst ok at_22 (v := (2 : Int32)) rfl ?_
      refine w_icmp_ne ok at_23 (pc' := 30) (by decide) (fun hc637 => ?_) (fun hc637 => False.elim (by revert hc637; decide))
      show W K l _ n0 _ h0 0 0 30 #[.val (.long t0), .second, .val (.long t1), .second, .val (.int flags), .val (.int f), .val (.int gg), .val (.int (1 : Int32)), .val (.int (3 : Int32)), .unset, .unset, .unset, .unset, .unset, .unset] []
      refine w_iload ok at_30 rfl ?_
      refine w_iconst ok at_32 (v := (3 : Int32)) rfl ?_
      refine w_icmp_ne ok at_33 (pc' := 40) (by decide) (fun hc639 => False.elim (by revert hc639; decide)) (fun hc639 => ?_)
      show W K l _ n0 _ h0 0 0 36 #[.val (.long t0), .second, .val (.long t1), .second, .val (.int flags), .val (.int f), .val (.int gg), .val (.int (1 : Int32)), .val (.int (3 : Int32)), .unset, .unset, .unset, .unset, .unset, .unset] []
      refine w_iconst ok at_36 (v := (2 : Int32)) rfl ?_
      refine w_goto ok at_37 (pc' := 46) (by decide) ?_
      refine w_istore ok at_46 (L' := #[.val (.long t0), .second, .val (.long t1), .second, .val (.int flags), .val (.int f), .val (.int gg), .val (.int (1 : Int32)), .val (.int (3 : Int32)), .val (.int (2 : Int32)), .unset, .unset, .unset, .unset, .unset]) rfl ?_
      refine w_new ok at_48 (hw _ (List.mem_of_getElem? (i := 0) rfl)) (hw _ (List.mem_of_getElem? (i := 1) rfl)) (hw _ (List.mem_of_getElem? (i := 2) rfl)) (la_IdleHeap hw) (by decide) (by decide) (fun h641 b640 ea_b640 ge_b640 E_b640 A_b640 => ?_)
      replace A_b640 : Ob Z h641 b640 "com/example/rowan/rowan/store/IdleHeap" fl_IdleHeap [.null, .null, .null, (.int (0 : Int32))] := A_b640
      refine w_dup ok at_51 rfl ?_
      refine w_callI ok (y := (⟨"com/example/rowan/rowan/store/IdleHeap", "<init>", "()V"⟩ : MethodName)) (a := b640) (argsL := []) (rest := [(.ref b640)]) at_52 rfl (hw _ (List.mem_of_getElem? (i := 3) rfl)) (hw _ (List.mem_of_getElem? (i := 4) rfl)) (hw _ (List.mem_of_getElem? (i := 2) rfl)) (hw _ (List.mem_of_getElem? (i := 5) rfl)) (by decide) pd_2829V rfl rfl (by decide) (Nat.le_of_ble_eq_true rfl) (by decide) (by decide) (fun z0 => rm_ctor l Z a0 hw [] n0 h641 z0 b640 A_b640 ge_b640) (fun v642 h643 qv642 => ?_)
      obtain ⟨rfl, een, eti, esl, ⟨sz_een, sz_eti, sz_esl⟩, ⟨ge_een, ge_eti, ge_esl⟩, ⟨ne_0, ne_1, ne_2, ne_3, ne_4, ne_5⟩, K1, A1, A_een, A_eti, A_esl⟩ := qv642
      have ne_b640_een : b640 ≠ een := Nat.ne_of_lt (Nat.lt_of_lt_of_le A_b640.lt sz_een)
      have ne_b640_eti : b640 ≠ eti := Nat.ne_of_lt (Nat.lt_of_lt_of_le A_b640.lt sz_eti)
      have ne_b640_esl : b640 ≠ esl := Nat.ne_of_lt (Nat.lt_of_lt_of_le A_b640.lt sz_esl)
      replace A_b640 := A1
      show W K l _ n0 _ h643 4 4 55 #[.val (.long t0), .second, .val (.long t1), .second, .val (.int flags), .val (.int f), .val (.int gg), .val (.int (1 : Int32)), .val (.int (3 : Int32)), .val (.int (2 : Int32)), .unset, .unset, .unset, .unset, .unset] [(.ref b640)]
      refine w_astore ok at_55 rfl (L' := #[.val (.long t0), .second, .val (.long t1), .second, .val (.int flags), .val (.int f), .val (.int gg), .val (.int (1 : Int32)), .val (.int (3 : Int32)), .val (.int (2 : Int32)), .val (.ref b640), .unset, .unset, .unset, .unset]) rfl ?_
      refine w_aload ok at_57 rfl rfl ?_
      refine w_iconst ok at_59 (v := (4 : Int32)) rfl ?_
      refine w_callV ok (y := (⟨"com/example/rowan/rowan/store/IdleHeap", "resize", "(I)V"⟩ : MethodName)) (a := b640) (argsL := [(.int (4 : Int32))]) (rest := []) at_60 (hw _ (List.mem_of_getElem? (i := 17) rfl)) (hw _ (List.mem_of_getElem? (i := 18) rfl)) (hw _ (List.mem_of_getElem? (i := 20) rfl)) (hw _ (List.mem_of_getElem? (i := 19) rfl)) (hw _ (List.mem_of_getElem? (i := 2) rfl)) (hw _ (List.mem_of_getElem? (i := 21) rfl)) (by decide) A_b640.1 pd_28I29V rfl rfl (by decide) (Nat.le_of_ble_eq_true rfl) (by decide) (by decide) (fun z0 => rm_resize l Z a0 hw [] n0 h643 z0 b640 een eti esl A_b640 A_een A_eti A_esl ge_b640 ne_0 ne_1 ne_2 ne_3 ne_4 ne_5) (fun v644 h645 qv644 => ?_)
      obtain ⟨rfl, fen, fti, fsl, ⟨sz_fen, sz_fti, sz_fsl⟩, ⟨ge_fen, ge_fti, ge_fsl⟩, ⟨nf_0, nf_1, nf_2, nf_3, nf_4, nf_5⟩, K1, A1, A_fen, A_fti, A_fsl⟩ := qv644
      have ne_b640_fen : b640 ≠ fen := Nat.ne_of_lt (Nat.lt_of_lt_of_le A_b640.lt sz_fen)
      have ne_een_fen : een ≠ fen := Nat.ne_of_lt (Nat.lt_of_lt_of_le A_een.lt sz_fen)
      have ne_eti_fen : eti ≠ fen := Nat.ne_of_lt (Nat.lt_of_lt_of_le A_eti.lt sz_fen)
      have ne_esl_fen : esl ≠ fen := Nat.ne_of_lt (Nat.lt_of_lt_of_le A_esl.lt sz_fen)
      have ne_b640_fti : b640 ≠ fti := Nat.ne_of_lt (Nat.lt_of_lt_of_le A_b640.lt sz_fti)
      have ne_een_fti : een ≠ fti := Nat.ne_of_lt (Nat.lt_of_lt_of_le A_een.lt sz_fti)
      have ne_eti_fti : eti ≠ fti := Nat.ne_of_lt (Nat.lt_of_lt_of_le A_eti.lt sz_fti)
      have ne_esl_fti : esl ≠ fti := Nat.ne_of_lt (Nat.lt_of_lt_of_le A_esl.lt sz_fti)
      have ne_b640_fsl : b640 ≠ fsl := Nat.ne_of_lt (Nat.lt_of_lt_of_le A_b640.lt sz_fsl)
      have ne_een_fsl : een ≠ fsl := Nat.ne_of_lt (Nat.lt_of_lt_of_le A_een.lt sz_fsl)
      have ne_eti_fsl : eti ≠ fsl := Nat.ne_of_lt (Nat.lt_of_lt_of_le A_eti.lt sz_fsl)
      have ne_esl_fsl : esl ≠ fsl := Nat.ne_of_lt (Nat.lt_of_lt_of_le A_esl.lt sz_fsl)
      replace A_een := A_een.keep K1 (ninS (Ne.symm ne_0) nin0)
      replace A_eti := A_eti.keep K1 (ninS (Ne.symm ne_1) nin0)
      replace A_esl := A_esl.keep K1 (ninS (Ne.symm ne_2) nin0)
      replace A_b640 := A1
      show W K l _ n0 _ h645 7 16 63 #[.val (.long t0), .second, .val (.long t1), .second, .val (.int flags), .val (.int f), .val (.int gg), .val (.int (1 : Int32)), .val (.int (3 : Int32)), .val (.int (2 : Int32)), .val (.ref b640), .unset, .unset, .unset, .unset] []
      refine w_aload ok at_63 rfl rfl ?_
      refine w_iconst ok at_65 (v := (0 : Int32)) rfl ?_
      refine w_lloadN ok at_66 rfl ?_
      refine w_callV ok (y := (⟨"com/example/rowan/rowan/store/IdleHeap", "add", "(IJ)V"⟩ : MethodName)) (a := b640) (argsL := [(.int (0 : Int32)), (.long t0)]) (rest := []) at_67 (hw _ (List.mem_of_getElem? (i := 43) rfl)) (hw _ (List.mem_of_getElem? (i := 44) rfl)) (hw _ (List.mem_of_getElem? (i := 46) rfl)) (hw _ (List.mem_of_getElem? (i := 45) rfl)) (hw _ (List.mem_of_getElem? (i := 2) rfl)) (hw _ (List.mem_of_getElem? (i := 47) rfl)) (by decide) A_b640.1 pd_28IJ29V rfl rfl (by decide) (Nat.le_of_ble_eq_true rfl) (by decide) (by decide) (fun z0 => rm_add l Z a0 hw [] n0 h645 z0 b640 fen fti fsl 0 (fun _ => 0) (fun _ => -1) (fun _ => 0) A_b640 A_fen A_fti A_fsl ge_b640 ge_fen ge_fti ge_fsl nf_0 nf_1 nf_2 nf_3 nf_4 nf_5 (fun _ => none) own_pp0 own_ho0 0 t0 (by decide) rfl (by decide)) (fun v646 h647 qv646 => ?_)
      obtain ⟨rfl, e1, g1, τ1, K1, A0, A1, A2, A3, P1, H1, E1⟩ := qv646
      replace A_b640 : Ob Z h647 b640 "com/example/rowan/rowan/store/IdleHeap" fl_IdleHeap [(.ref fen), (.ref fti), (.ref fsl), (.int (1 : Int32))] := A0
      replace A_fen := A1
      replace A_fti := A2
      replace A_fsl := A3
      show W K l _ n0 _ h647 7 16 70 #[.val (.long t0), .second, .val (.long t1), .second, .val (.int flags), .val (.int f), .val (.int gg), .val (.int (1 : Int32)), .val (.int (3 : Int32)), .val (.int (2 : Int32)), .val (.ref b640), .unset, .unset, .unset, .unset] []
      refine w_iload ok at_70 rfl ?_
      refine w_if_eq ok at_72 (pc' := 82) (by decide) (fun hc649 => False.elim (by revert hc649; decide)) (fun hc649 => ?_)
      show W K l _ n0 _ h647 7 16 75 #[.val (.long t0), .second, .val (.long t1), .second, .val (.int flags), .val (.int f), .val (.int gg), .val (.int (1 : Int32)), .val (.int (3 : Int32)), .val (.int (2 : Int32)), .val (.ref b640), .unset, .unset, .unset, .unset] []
      refine w_aload ok at_75 rfl rfl ?_
      refine w_iconst ok at_77 (v := (1 : Int32)) rfl ?_
      refine w_lloadN ok at_78 rfl ?_
      refine w_callV ok (y := (⟨"com/example/rowan/rowan/store/IdleHeap", "add", "(IJ)V"⟩ : MethodName)) (a := b640) (argsL := [(.int (1 : Int32)), (.long t1)]) (rest := []) at_79 (hw _ (List.mem_of_getElem? (i := 43) rfl)) (hw _ (List.mem_of_getElem? (i := 44) rfl)) (hw _ (List.mem_of_getElem? (i := 46) rfl)) (hw _ (List.mem_of_getElem? (i := 45) rfl)) (hw _ (List.mem_of_getElem? (i := 2) rfl)) (hw _ (List.mem_of_getElem? (i := 47) rfl)) (by decide) A_b640.1 pd_28IJ29V rfl rfl (by decide) (Nat.le_of_ble_eq_true rfl) (by decide) (by decide) (fun z0 => rm_add l Z a0 hw [] n0 h647 z0 b640 fen fti fsl 1 e1 g1 τ1 A_b640 A_fen A_fti A_fsl ge_b640 ge_fen ge_fti ge_fsl nf_0 nf_1 nf_2 nf_3 nf_4 nf_5 (put (fun _ => none) 0 (some t0)) P1 H1 1 t1 (by decide) rfl (by decide)) (fun v650 h651 qv650 => ?_)
      obtain ⟨rfl, e2, g2, τ2, K1, A0, A1, A2, A3, P2, H2, E2⟩ := qv650
      replace A_b640 : Ob Z h651 b640 "com/example/rowan/rowan/store/IdleHeap" fl_IdleHeap [(.ref fen), (.ref fti), (.ref fsl), (.int (2 : Int32))] := A0
      replace A_fen := A1
      replace A_fti := A2
      replace A_fsl := A3
      show W K l _ n0 _ h651 7 16 82 #[.val (.long t0), .second, .val (.long t1), .second, .val (.int flags), .val (.int f), .val (.int gg), .val (.int (1 : Int32)), .val (.int (3 : Int32)), .val (.int (2 : Int32)), .val (.ref b640), .unset, .unset, .unset, .unset] []
      refine w_iload ok at_82 rfl ?_
      refine w_if_eq ok at_84 (pc' := 97) (by decide) (fun hc653 => False.elim (by revert hc653; decide)) (fun hc653 => ?_)
      show W K l _ n0 _ h651 7 16 87 #[.val (.long t0), .second, .val (.long t1), .second, .val (.int flags), .val (.int f), .val (.int gg), .val (.int (1 : Int32)), .val (.int (3 : Int32)), .val (.int (2 : Int32)), .val (.ref b640), .unset, .unset, .unset, .unset] []
      refine w_lloadN ok at_87 rfl ?_
      refine w_lloadN ok at_88 rfl ?_
      refine w_lcmp_ge ok at_89 at_90 (pc' := 97) (by decide) (fun hc655 => ?_) (fun hc655 => ?_)
      · show W K l _ n0 _ h651 7 16 97 #[.val (.long t0), .second, .val (.long t1), .second, .val (.int flags), .val (.int f), .val (.int gg), .val (.int (1 : Int32)), .val (.int (3 : Int32)), .val (.int (2 : Int32)), .val (.ref b640), .unset, .unset, .unset, .unset] []
        refine w_iconst ok at_97 (v := (0 : Int32)) rfl ?_
        show W K l _ n0 _ h651 7 16 98 #[.val (.long t0), .second, .val (.long t1), .second, .val (.int flags), .val (.int f), .val (.int gg), .val (.int (1 : Int32)), .val (.int (3 : Int32)), .val (.int (2 : Int32)), .val (.ref b640), .unset, .unset, .unset, .unset] [(.int (0 : Int32))]
        obtain ⟨o1, o2⟩ := own_one P1
        have E : e2 0 = Int32.ofNat 0 := (E2 (by rw [o2]; exact hc655) (by decide)).trans o1
        refine w_istore ok at_98 (L' := #[.val (.long t0), .second, .val (.long t1), .second, .val (.int flags), .val (.int f), .val (.int gg), .val (.int (1 : Int32)), .val (.int (3 : Int32)), .val (.int (2 : Int32)), .val (.ref b640), .val (.int (0 : Int32)), .unset, .unset, .unset]) rfl ?_
        refine w_iload ok at_100 rfl ?_
        refine w_if_eq ok at_102 (pc' := 112) (by decide) (fun hc657 => False.elim (by revert hc657; decide)) (fun hc657 => ?_)
        show W K l _ n0 _ h651 7 16 105 #[.val (.long t0), .second, .val (.long t1), .second, .val (.int flags), .val (.int f), .val (.int gg), .val (.int (1 : Int32)), .val (.int (3 : Int32)), .val (.int (2 : Int32)), .val (.ref b640), .val (.int (0 : Int32)), .unset, .unset, .unset] []
        refine w_iconst ok at_105 (v := (1 : Int32)) rfl ?_
        refine w_iload ok at_106 rfl ?_
        refine w_isub ok at_108 ?_
        show W K l _ n0 _ h651 7 16 109 #[.val (.long t0), .second, .val (.long t1), .second, .val (.int flags), .val (.int f), .val (.int gg), .val (.int (1 : Int32)), .val (.int (3 : Int32)), .val (.int (2 : Int32)), .val (.ref b640), .val (.int (0 : Int32)), .unset, .unset, .unset] [(.int (1 : Int32))]
        refine w_goto ok at_109 (pc' := 113) (by decide) ?_
        refine w_istore ok at_113 (L' := #[.val (.long t0), .second, .val (.long t1), .second, .val (.int flags), .val (.int f), .val (.int gg), .val (.int (1 : Int32)), .val (.int (3 : Int32)), .val (.int (2 : Int32)), .val (.ref b640), .val (.int (0 : Int32)), .val (.int (1 : Int32)), .unset, .unset]) rfl ?_
        refine w_aload ok at_115 rfl rfl ?_
        refine w_iload ok at_117 rfl ?_
        refine w_iload ok at_119 rfl ?_
        refine w_callV ok (y := (⟨"com/example/rowan/rowan/store/IdleHeap", "renumber", "(II)V"⟩ : MethodName)) (a := b640) (argsL := [(.int (3 : Int32)), (.int (2 : Int32))]) (rest := []) at_121 (hw _ (List.mem_of_getElem? (i := 58) rfl)) (hw _ (List.mem_of_getElem? (i := 59) rfl)) (hw _ (List.mem_of_getElem? (i := 61) rfl)) (hw _ (List.mem_of_getElem? (i := 60) rfl)) (hw _ (List.mem_of_getElem? (i := 2) rfl)) (hw _ (List.mem_of_getElem? (i := 62) rfl)) (by decide) A_b640.1 pd_28II29V rfl rfl (by decide) (Nat.le_of_ble_eq_true rfl) (by decide) (by decide) (fun z0 => rm_ren0 l Z a0 hw [] n0 h651 z0 b640 fen fti fsl 2 e2 g2 τ2 A_b640 A_fen A_fti A_fsl ge_b640 ge_fen ge_fti ge_fsl nf_0 nf_1 nf_2 nf_3 nf_4 nf_5 (put (put (fun _ => none) 0 (some t0)) 1 (some t1)) P2 H2 3 2 (by decide) (by decide) rfl rfl) (fun v658 h659 qv658 => ?_)
        obtain ⟨rfl, K1, A0, A1, A2, A3⟩ := qv658
        replace A_b640 : Ob Z h659 b640 "com/example/rowan/rowan/store/IdleHeap" fl_IdleHeap [(.ref fen), (.ref fti), (.ref fsl), (.int (2 : Int32))] := A0
        replace A_fen : PA .int Z h659 fen (sv 4 e2) := A1
        replace A_fti : PA .long Z h659 fti (lv 4 τ2) := A2
        replace A_fsl : PA .int Z h659 fsl (sv 4 g2) := A3
        show W K l _ n0 _ h659 7 16 124 #[.val (.long t0), .second, .val (.long t1), .second, .val (.int flags), .val (.int f), .val (.int gg), .val (.int (1 : Int32)), .val (.int (3 : Int32)), .val (.int (2 : Int32)), .val (.ref b640), .val (.int (0 : Int32)), .val (.int (1 : Int32)), .unset, .unset] []
        refine w_aload ok at_124 rfl rfl ?_
        refine w_iload ok at_126 rfl ?_
        refine w_callV ok (y := (⟨"com/example/rowan/rowan/store/IdleHeap", "remove", "(I)V"⟩ : MethodName)) (a := b640) (argsL := [(.int (3 : Int32))]) (rest := []) at_128 (hw _ (List.mem_of_getElem? (i := 63) rfl)) (hw _ (List.mem_of_getElem? (i := 64) rfl)) (hw _ (List.mem_of_getElem? (i := 66) rfl)) (hw _ (List.mem_of_getElem? (i := 65) rfl)) (hw _ (List.mem_of_getElem? (i := 2) rfl)) (hw _ (List.mem_of_getElem? (i := 67) rfl)) (by decide) A_b640.1 pd_28I29V rfl rfl (by decide) (Nat.le_of_ble_eq_true rfl) (by decide) (by decide) (fun z0 => rm_remove0 l Z a0 hw [] n0 h659 z0 b640 fen fti fsl 2 e2 g2 τ2 A_b640 A_fen A_fti A_fsl ge_b640 ge_fen ge_fti ge_fsl nf_0 nf_1 nf_2 nf_3 nf_4 nf_5 (put (put (fun _ => none) 0 (some t0)) 1 (some t1)) P2 H2 3 (by decide) rfl) (fun v660 h661 qv660 => ?_)
        obtain ⟨rfl, rfl⟩ := qv660
        show W K l _ n0 _ h659 7 16 131 #[.val (.long t0), .second, .val (.long t1), .second, .val (.int flags), .val (.int f), .val (.int gg), .val (.int (1 : Int32)), .val (.int (3 : Int32)), .val (.int (2 : Int32)), .val (.ref b640), .val (.int (0 : Int32)), .val (.int (1 : Int32)), .unset, .unset] []
        refine w_iload ok at_131 rfl ?_
        refine w_iload ok at_133 rfl ?_
        refine w_iload ok at_135 rfl ?_
        refine w_callS ok (y := (⟨"com/example/rowan/rowan/store/IdleHeapRenumberPinLaw", "map", "(III)I"⟩ : MethodName)) (argsL := [(.int (0 : Int32)), (.int (3 : Int32)), (.int (2 : Int32))]) (rest := []) at_137 (hw _ (List.mem_of_getElem? (i := 68) rfl)) (hw _ (List.mem_of_getElem? (i := 69) rfl)) (hw _ (List.mem_of_getElem? (i := 70) rfl)) (hw _ (List.mem_of_getElem? (i := 71) rfl)) (by decide) pd_28III29I rfl rfl (by decide) (Nat.le_of_ble_eq_true rfl) (by decide) (by decide) (fun z0 => rm_map l Z a0 hw [] n0 h659 z0 (0 : Int32) (3 : Int32) (2 : Int32)) (fun v662 h663 qv662 => ?_)
        obtain ⟨rfl, rfl⟩ := qv662
        rw [show own_map (0 : Int32) (3 : Int32) (2 : Int32) = (0 : Int32) from rfl]
        show W K l _ n0 _ h659 7 16 140 #[.val (.long t0), .second, .val (.long t1), .second, .val (.int flags), .val (.int f), .val (.int gg), .val (.int (1 : Int32)), .val (.int (3 : Int32)), .val (.int (2 : Int32)), .val (.ref b640), .val (.int (0 : Int32)), .val (.int (1 : Int32)), .unset, .unset] [(.int (0 : Int32))]
        refine w_istore ok at_140 (L' := #[.val (.long t0), .second, .val (.long t1), .second, .val (.int flags), .val (.int f), .val (.int gg), .val (.int (1 : Int32)), .val (.int (3 : Int32)), .val (.int (2 : Int32)), .val (.ref b640), .val (.int (0 : Int32)), .val (.int (1 : Int32)), .val (.int (0 : Int32)), .unset]) rfl ?_
        refine w_aload ok at_142 rfl rfl ?_
        refine w_callV ok (y := (⟨"com/example/rowan/rowan/store/IdleHeap", "first", "()I"⟩ : MethodName)) (a := b640) (argsL := []) (rest := []) at_144 (hw _ (List.mem_of_getElem? (i := 72) rfl)) (hw _ (List.mem_of_getElem? (i := 73) rfl)) (hw _ (List.mem_of_getElem? (i := 75) rfl)) (hw _ (List.mem_of_getElem? (i := 74) rfl)) (hw _ (List.mem_of_getElem? (i := 2) rfl)) (hw _ (List.mem_of_getElem? (i := 76) rfl)) (by decide) A_b640.1 pd_2829I rfl rfl (by decide) (Nat.le_of_ble_eq_true rfl) (by decide) (by decide) (fun z0 => rm_first l Z a0 hw [] n0 h659 z0 b640 fen fti fsl 2 e2 g2 τ2 A_b640 A_fen A_fti A_fsl ge_b640 ge_fen ge_fti ge_fsl nf_0 nf_1 nf_2 nf_3 nf_4 nf_5 (put (put (fun _ => none) 0 (some t0)) 1 (some t1)) P2 H2) (fun v664 h665 qv664 => ?_)
        obtain ⟨rfl, ⟨hs0, rfl⟩ | ⟨y, hy, hs, ey, rfl⟩⟩ := qv664
        · exact absurd hs0 (by decide)
        · skip
          obtain rfl : y = 0 := own_inj hy (by decide) (ey.symm.trans E)
          show W K l _ n0 _ h659 7 16 147 #[.val (.long t0), .second, .val (.long t1), .second, .val (.int flags), .val (.int f), .val (.int gg), .val (.int (1 : Int32)), .val (.int (3 : Int32)), .val (.int (2 : Int32)), .val (.ref b640), .val (.int (0 : Int32)), .val (.int (1 : Int32)), .val (.int (0 : Int32)), .unset] [(.int (0 : Int32))]
          refine w_iload ok at_147 rfl ?_
          refine w_icmp_eq ok at_149 (pc' := 154) (by decide) (fun hc667 => ?_) (fun hc667 => False.elim (by revert hc667; decide))
          show W K l _ n0 _ h659 7 16 154 #[.val (.long t0), .second, .val (.long t1), .second, .val (.int flags), .val (.int f), .val (.int gg), .val (.int (1 : Int32)), .val (.int (3 : Int32)), .val (.int (2 : Int32)), .val (.ref b640), .val (.int (0 : Int32)), .val (.int (1 : Int32)), .val (.int (0 : Int32)), .unset] []
          refine w_aload ok at_154 rfl rfl ?_
          refine w_iload ok at_156 rfl ?_
          refine w_callV ok (y := (⟨"com/example/rowan/rowan/store/IdleHeap", "remove", "(I)V"⟩ : MethodName)) (a := b640) (argsL := [(.int (0 : Int32))]) (rest := []) at_158 (hw _ (List.mem_of_getElem? (i := 63) rfl)) (hw _ (List.mem_of_getElem? (i := 64) rfl)) (hw _ (List.mem_of_getElem? (i := 66) rfl)) (hw _ (List.mem_of_getElem? (i := 65) rfl)) (hw _ (List.mem_of_getElem? (i := 2) rfl)) (hw _ (List.mem_of_getElem? (i := 67) rfl)) (by decide) A_b640.1 pd_28I29V rfl rfl (by decide) (Nat.le_of_ble_eq_true rfl) (by decide) (by decide) (fun z0 => rm_remove l Z a0 hw [] n0 h659 z0 b640 fen fti fsl 2 e2 g2 τ2 A_b640 A_fen A_fti A_fsl ge_b640 ge_fen ge_fti ge_fsl nf_0 nf_1 nf_2 nf_3 nf_4 nf_5 (put (put (fun _ => none) 0 (some t0)) 1 (some t1)) P2 H2 0 (by decide)) (fun v669 h670 qv669 => ?_)
          obtain ⟨rfl, sx668, ex668, gx668, τx668, K1, A0, A1, A2, A3, Px668, Hx668⟩ := qv669
          replace A_b640 : Ob Z h670 b640 "com/example/rowan/rowan/store/IdleHeap" fl_IdleHeap [(.ref fen), (.ref fti), (.ref fsl), (.int (Int32.ofNat sx668))] := A0
          replace A_fen := A1
          replace A_fti := A2
          replace A_fsl := A3
          show W K l _ n0 _ h670 7 16 161 #[.val (.long t0), .second, .val (.long t1), .second, .val (.int flags), .val (.int f), .val (.int gg), .val (.int (1 : Int32)), .val (.int (3 : Int32)), .val (.int (2 : Int32)), .val (.ref b640), .val (.int (0 : Int32)), .val (.int (1 : Int32)), .val (.int (0 : Int32)), .unset] []
          refine w_iload ok at_161 rfl ?_
          refine w_iconst ok at_163 (v := (-1 : Int32)) rfl ?_
          refine w_icmp_ne ok at_164 (pc' := 171) (by decide) (fun hc672 => ?_) (fun hc672 => False.elim (by revert hc672; decide))
          show W K l _ n0 _ h670 7 16 171 #[.val (.long t0), .second, .val (.long t1), .second, .val (.int flags), .val (.int f), .val (.int gg), .val (.int (1 : Int32)), .val (.int (3 : Int32)), .val (.int (2 : Int32)), .val (.ref b640), .val (.int (0 : Int32)), .val (.int (1 : Int32)), .val (.int (0 : Int32)), .unset] []
          refine w_iload ok at_171 rfl ?_
          refine w_iload ok at_173 rfl ?_
          refine w_iload ok at_175 rfl ?_
          refine w_callS ok (y := (⟨"com/example/rowan/rowan/store/IdleHeapRenumberPinLaw", "map", "(III)I"⟩ : MethodName)) (argsL := [(.int (1 : Int32)), (.int (3 : Int32)), (.int (2 : Int32))]) (rest := []) at_177 (hw _ (List.mem_of_getElem? (i := 68) rfl)) (hw _ (List.mem_of_getElem? (i := 69) rfl)) (hw _ (List.mem_of_getElem? (i := 70) rfl)) (hw _ (List.mem_of_getElem? (i := 71) rfl)) (by decide) pd_28III29I rfl rfl (by decide) (Nat.le_of_ble_eq_true rfl) (by decide) (by decide) (fun z0 => rm_map l Z a0 hw [] n0 h670 z0 (1 : Int32) (3 : Int32) (2 : Int32)) (fun v673 h674 qv673 => ?_)
          obtain ⟨rfl, rfl⟩ := qv673
          rw [show own_map (1 : Int32) (3 : Int32) (2 : Int32) = (1 : Int32) from rfl]
          show W K l _ n0 _ h670 7 16 180 #[.val (.long t0), .second, .val (.long t1), .second, .val (.int flags), .val (.int f), .val (.int gg), .val (.int (1 : Int32)), .val (.int (3 : Int32)), .val (.int (2 : Int32)), .val (.ref b640), .val (.int (0 : Int32)), .val (.int (1 : Int32)), .val (.int (0 : Int32)), .unset] [(.int (1 : Int32))]
          refine w_istore ok at_180 (L' := #[.val (.long t0), .second, .val (.long t1), .second, .val (.int flags), .val (.int f), .val (.int gg), .val (.int (1 : Int32)), .val (.int (3 : Int32)), .val (.int (2 : Int32)), .val (.ref b640), .val (.int (0 : Int32)), .val (.int (1 : Int32)), .val (.int (0 : Int32)), .val (.int (1 : Int32))]) rfl ?_
          refine w_aload ok at_182 rfl rfl ?_
          refine w_callV ok (y := (⟨"com/example/rowan/rowan/store/IdleHeap", "first", "()I"⟩ : MethodName)) (a := b640) (argsL := []) (rest := []) at_184 (hw _ (List.mem_of_getElem? (i := 72) rfl)) (hw _ (List.mem_of_getElem? (i := 73) rfl)) (hw _ (List.mem_of_getElem? (i := 75) rfl)) (hw _ (List.mem_of_getElem? (i := 74) rfl)) (hw _ (List.mem_of_getElem? (i := 2) rfl)) (hw _ (List.mem_of_getElem? (i := 76) rfl)) (by decide) A_b640.1 pd_2829I rfl rfl (by decide) (Nat.le_of_ble_eq_true rfl) (by decide) (by decide) (fun z0 => rm_first l Z a0 hw [] n0 h670 z0 b640 fen fti fsl sx668 ex668 gx668 τx668 A_b640 A_fen A_fti A_fsl ge_b640 ge_fen ge_fti ge_fsl nf_0 nf_1 nf_2 nf_3 nf_4 nf_5 (put (put (put (fun _ => none) 0 (some t0)) 1 (some t1)) 0 none) Px668 Hx668) (fun v675 h676 qv675 => ?_)
          obtain ⟨rfl, ⟨hs0, rfl⟩ | ⟨y, hy, hs, ey, rfl⟩⟩ := qv675
          · subst hs0; exact (own_none0 Px668 (y := 1) (by decide) rfl).elim
          · have my := (Px668.at hs hy ey).1
            obtain rfl | rfl | rfl | rfl : y = 0 ∨ y = 1 ∨ y = 2 ∨ y = 3 := by omega
            · cases (show none = some _ from my)
            · skip
              show W K l _ n0 _ h670 7 16 187 #[.val (.long t0), .second, .val (.long t1), .second, .val (.int flags), .val (.int f), .val (.int gg), .val (.int (1 : Int32)), .val (.int (3 : Int32)), .val (.int (2 : Int32)), .val (.ref b640), .val (.int (0 : Int32)), .val (.int (1 : Int32)), .val (.int (0 : Int32)), .val (.int (1 : Int32))] [(.int (1 : Int32))]
              refine w_iload ok at_187 rfl ?_
              refine w_icmp_eq ok at_189 (pc' := 194) (by decide) (fun hc678 => ?_) (fun hc678 => False.elim (by revert hc678; decide))
              show W K l _ n0 _ h670 7 16 194 #[.val (.long t0), .second, .val (.long t1), .second, .val (.int flags), .val (.int f), .val (.int gg), .val (.int (1 : Int32)), .val (.int (3 : Int32)), .val (.int (2 : Int32)), .val (.ref b640), .val (.int (0 : Int32)), .val (.int (1 : Int32)), .val (.int (0 : Int32)), .val (.int (1 : Int32))] []
              refine w_iload ok at_194 rfl ?_
              refine w_iconst ok at_196 (v := (-1 : Int32)) rfl ?_
              refine w_icmp_eq ok at_197 (pc' := 218) (by decide) (fun hc680 => False.elim (by revert hc680; decide)) (fun hc680 => ?_)
              show W K l _ n0 _ h670 7 16 200 #[.val (.long t0), .second, .val (.long t1), .second, .val (.int flags), .val (.int f), .val (.int gg), .val (.int (1 : Int32)), .val (.int (3 : Int32)), .val (.int (2 : Int32)), .val (.ref b640), .val (.int (0 : Int32)), .val (.int (1 : Int32)), .val (.int (0 : Int32)), .val (.int (1 : Int32))] []
              refine w_aload ok at_200 rfl rfl ?_
              refine w_iload ok at_202 rfl ?_
              refine w_callV ok (y := (⟨"com/example/rowan/rowan/store/IdleHeap", "remove", "(I)V"⟩ : MethodName)) (a := b640) (argsL := [(.int (1 : Int32))]) (rest := []) at_204 (hw _ (List.mem_of_getElem? (i := 63) rfl)) (hw _ (List.mem_of_getElem? (i := 64) rfl)) (hw _ (List.mem_of_getElem? (i := 66) rfl)) (hw _ (List.mem_of_getElem? (i := 65) rfl)) (hw _ (List.mem_of_getElem? (i := 2) rfl)) (hw _ (List.mem_of_getElem? (i := 67) rfl)) (by decide) A_b640.1 pd_28I29V rfl rfl (by decide) (Nat.le_of_ble_eq_true rfl) (by decide) (by decide) (fun z0 => rm_remove l Z a0 hw [] n0 h670 z0 b640 fen fti fsl sx668 ex668 gx668 τx668 A_b640 A_fen A_fti A_fsl ge_b640 ge_fen ge_fti ge_fsl nf_0 nf_1 nf_2 nf_3 nf_4 nf_5 (put (put (put (fun _ => none) 0 (some t0)) 1 (some t1)) 0 none) Px668 Hx668 1 (by decide)) (fun v682 h683 qv682 => ?_)
              obtain ⟨rfl, sx681, ex681, gx681, τx681, K1, A0, A1, A2, A3, Px681, Hx681⟩ := qv682
              replace A_b640 : Ob Z h683 b640 "com/example/rowan/rowan/store/IdleHeap" fl_IdleHeap [(.ref fen), (.ref fti), (.ref fsl), (.int (Int32.ofNat sx681))] := A0
              replace A_fen := A1
              replace A_fti := A2
              replace A_fsl := A3
              show W K l _ n0 _ h683 7 16 207 #[.val (.long t0), .second, .val (.long t1), .second, .val (.int flags), .val (.int f), .val (.int gg), .val (.int (1 : Int32)), .val (.int (3 : Int32)), .val (.int (2 : Int32)), .val (.ref b640), .val (.int (0 : Int32)), .val (.int (1 : Int32)), .val (.int (0 : Int32)), .val (.int (1 : Int32))] []
              refine w_aload ok at_207 rfl rfl ?_
              refine w_callV ok (y := (⟨"com/example/rowan/rowan/store/IdleHeap", "first", "()I"⟩ : MethodName)) (a := b640) (argsL := []) (rest := []) at_209 (hw _ (List.mem_of_getElem? (i := 72) rfl)) (hw _ (List.mem_of_getElem? (i := 73) rfl)) (hw _ (List.mem_of_getElem? (i := 75) rfl)) (hw _ (List.mem_of_getElem? (i := 74) rfl)) (hw _ (List.mem_of_getElem? (i := 2) rfl)) (hw _ (List.mem_of_getElem? (i := 76) rfl)) (by decide) A_b640.1 pd_2829I rfl rfl (by decide) (Nat.le_of_ble_eq_true rfl) (by decide) (by decide) (fun z0 => rm_first l Z a0 hw [] n0 h683 z0 b640 fen fti fsl sx681 ex681 gx681 τx681 A_b640 A_fen A_fti A_fsl ge_b640 ge_fen ge_fti ge_fsl nf_0 nf_1 nf_2 nf_3 nf_4 nf_5 (put (put (put (put (fun _ => none) 0 (some t0)) 1 (some t1)) 0 none) 1 none) Px681 Hx681) (fun v684 h685 qv684 => ?_)
              obtain ⟨rfl, ⟨hs0, rfl⟩ | ⟨y, hy, hs, ey, rfl⟩⟩ := qv684
              · skip
                show W K l _ n0 _ h683 7 16 212 #[.val (.long t0), .second, .val (.long t1), .second, .val (.int flags), .val (.int f), .val (.int gg), .val (.int (1 : Int32)), .val (.int (3 : Int32)), .val (.int (2 : Int32)), .val (.ref b640), .val (.int (0 : Int32)), .val (.int (1 : Int32)), .val (.int (0 : Int32)), .val (.int (1 : Int32))] [(.int (-1 : Int32))]
                refine w_iconst ok at_212 (v := (-1 : Int32)) rfl ?_
                refine w_icmp_eq ok at_213 (pc' := 218) (by decide) (fun hc687 => ?_) (fun hc687 => False.elim (by revert hc687; decide))
                show W K l _ n0 _ h683 7 16 218 #[.val (.long t0), .second, .val (.long t1), .second, .val (.int flags), .val (.int f), .val (.int gg), .val (.int (1 : Int32)), .val (.int (3 : Int32)), .val (.int (2 : Int32)), .val (.ref b640), .val (.int (0 : Int32)), .val (.int (1 : Int32)), .val (.int (0 : Int32)), .val (.int (1 : Int32))] []
                refine w_iconst ok at_218 (v := (1 : Int32)) rfl ?_
                refine w_bret ok (by simp) at_219 (by decide) (by decide) ?_
                exact rfl
              · have my := (Px681.at hs hy ey).1
                obtain rfl | rfl | rfl | rfl : y = 0 ∨ y = 1 ∨ y = 2 ∨ y = 3 := by omega
                · cases (show none = some _ from my)
                · cases (show none = some _ from my)
                · cases (show none = some _ from my)
                · cases (show none = some _ from my)
            · cases (show none = some _ from my)
            · cases (show none = some _ from my)
      · show W K l _ n0 _ h651 7 16 93 #[.val (.long t0), .second, .val (.long t1), .second, .val (.int flags), .val (.int f), .val (.int gg), .val (.int (1 : Int32)), .val (.int (3 : Int32)), .val (.int (2 : Int32)), .val (.ref b640), .unset, .unset, .unset, .unset] []
        refine w_iconst ok at_93 (v := (1 : Int32)) rfl ?_
        refine w_goto ok at_94 (pc' := 98) (by decide) ?_
        show W K l _ n0 _ h651 7 16 98 #[.val (.long t0), .second, .val (.long t1), .second, .val (.int flags), .val (.int f), .val (.int gg), .val (.int (1 : Int32)), .val (.int (3 : Int32)), .val (.int (2 : Int32)), .val (.ref b640), .unset, .unset, .unset, .unset] [(.int (1 : Int32))]
        obtain ⟨o1, o2⟩ := own_one P1
        have E : e2 0 = Int32.ofNat 1 := own_two P2 H2 hc655
        refine w_istore ok at_98 (L' := #[.val (.long t0), .second, .val (.long t1), .second, .val (.int flags), .val (.int f), .val (.int gg), .val (.int (1 : Int32)), .val (.int (3 : Int32)), .val (.int (2 : Int32)), .val (.ref b640), .val (.int (1 : Int32)), .unset, .unset, .unset]) rfl ?_
        refine w_iload ok at_100 rfl ?_
        refine w_if_eq ok at_102 (pc' := 112) (by decide) (fun hc689 => False.elim (by revert hc689; decide)) (fun hc689 => ?_)
        show W K l _ n0 _ h651 7 16 105 #[.val (.long t0), .second, .val (.long t1), .second, .val (.int flags), .val (.int f), .val (.int gg), .val (.int (1 : Int32)), .val (.int (3 : Int32)), .val (.int (2 : Int32)), .val (.ref b640), .val (.int (1 : Int32)), .unset, .unset, .unset] []
        refine w_iconst ok at_105 (v := (1 : Int32)) rfl ?_
        refine w_iload ok at_106 rfl ?_
        refine w_isub ok at_108 ?_
        show W K l _ n0 _ h651 7 16 109 #[.val (.long t0), .second, .val (.long t1), .second, .val (.int flags), .val (.int f), .val (.int gg), .val (.int (1 : Int32)), .val (.int (3 : Int32)), .val (.int (2 : Int32)), .val (.ref b640), .val (.int (1 : Int32)), .unset, .unset, .unset] [(.int (0 : Int32))]
        refine w_goto ok at_109 (pc' := 113) (by decide) ?_
        refine w_istore ok at_113 (L' := #[.val (.long t0), .second, .val (.long t1), .second, .val (.int flags), .val (.int f), .val (.int gg), .val (.int (1 : Int32)), .val (.int (3 : Int32)), .val (.int (2 : Int32)), .val (.ref b640), .val (.int (1 : Int32)), .val (.int (0 : Int32)), .unset, .unset]) rfl ?_
        refine w_aload ok at_115 rfl rfl ?_
        refine w_iload ok at_117 rfl ?_
        refine w_iload ok at_119 rfl ?_
        refine w_callV ok (y := (⟨"com/example/rowan/rowan/store/IdleHeap", "renumber", "(II)V"⟩ : MethodName)) (a := b640) (argsL := [(.int (3 : Int32)), (.int (2 : Int32))]) (rest := []) at_121 (hw _ (List.mem_of_getElem? (i := 58) rfl)) (hw _ (List.mem_of_getElem? (i := 59) rfl)) (hw _ (List.mem_of_getElem? (i := 61) rfl)) (hw _ (List.mem_of_getElem? (i := 60) rfl)) (hw _ (List.mem_of_getElem? (i := 2) rfl)) (hw _ (List.mem_of_getElem? (i := 62) rfl)) (by decide) A_b640.1 pd_28II29V rfl rfl (by decide) (Nat.le_of_ble_eq_true rfl) (by decide) (by decide) (fun z0 => rm_ren0 l Z a0 hw [] n0 h651 z0 b640 fen fti fsl 2 e2 g2 τ2 A_b640 A_fen A_fti A_fsl ge_b640 ge_fen ge_fti ge_fsl nf_0 nf_1 nf_2 nf_3 nf_4 nf_5 (put (put (fun _ => none) 0 (some t0)) 1 (some t1)) P2 H2 3 2 (by decide) (by decide) rfl rfl) (fun v690 h691 qv690 => ?_)
        obtain ⟨rfl, K1, A0, A1, A2, A3⟩ := qv690
        replace A_b640 : Ob Z h691 b640 "com/example/rowan/rowan/store/IdleHeap" fl_IdleHeap [(.ref fen), (.ref fti), (.ref fsl), (.int (2 : Int32))] := A0
        replace A_fen : PA .int Z h691 fen (sv 4 e2) := A1
        replace A_fti : PA .long Z h691 fti (lv 4 τ2) := A2
        replace A_fsl : PA .int Z h691 fsl (sv 4 g2) := A3
        show W K l _ n0 _ h691 7 16 124 #[.val (.long t0), .second, .val (.long t1), .second, .val (.int flags), .val (.int f), .val (.int gg), .val (.int (1 : Int32)), .val (.int (3 : Int32)), .val (.int (2 : Int32)), .val (.ref b640), .val (.int (1 : Int32)), .val (.int (0 : Int32)), .unset, .unset] []
        refine w_aload ok at_124 rfl rfl ?_
        refine w_iload ok at_126 rfl ?_
        refine w_callV ok (y := (⟨"com/example/rowan/rowan/store/IdleHeap", "remove", "(I)V"⟩ : MethodName)) (a := b640) (argsL := [(.int (3 : Int32))]) (rest := []) at_128 (hw _ (List.mem_of_getElem? (i := 63) rfl)) (hw _ (List.mem_of_getElem? (i := 64) rfl)) (hw _ (List.mem_of_getElem? (i := 66) rfl)) (hw _ (List.mem_of_getElem? (i := 65) rfl)) (hw _ (List.mem_of_getElem? (i := 2) rfl)) (hw _ (List.mem_of_getElem? (i := 67) rfl)) (by decide) A_b640.1 pd_28I29V rfl rfl (by decide) (Nat.le_of_ble_eq_true rfl) (by decide) (by decide) (fun z0 => rm_remove0 l Z a0 hw [] n0 h691 z0 b640 fen fti fsl 2 e2 g2 τ2 A_b640 A_fen A_fti A_fsl ge_b640 ge_fen ge_fti ge_fsl nf_0 nf_1 nf_2 nf_3 nf_4 nf_5 (put (put (fun _ => none) 0 (some t0)) 1 (some t1)) P2 H2 3 (by decide) rfl) (fun v692 h693 qv692 => ?_)
        obtain ⟨rfl, rfl⟩ := qv692
        show W K l _ n0 _ h691 7 16 131 #[.val (.long t0), .second, .val (.long t1), .second, .val (.int flags), .val (.int f), .val (.int gg), .val (.int (1 : Int32)), .val (.int (3 : Int32)), .val (.int (2 : Int32)), .val (.ref b640), .val (.int (1 : Int32)), .val (.int (0 : Int32)), .unset, .unset] []
        refine w_iload ok at_131 rfl ?_
        refine w_iload ok at_133 rfl ?_
        refine w_iload ok at_135 rfl ?_
        refine w_callS ok (y := (⟨"com/example/rowan/rowan/store/IdleHeapRenumberPinLaw", "map", "(III)I"⟩ : MethodName)) (argsL := [(.int (1 : Int32)), (.int (3 : Int32)), (.int (2 : Int32))]) (rest := []) at_137 (hw _ (List.mem_of_getElem? (i := 68) rfl)) (hw _ (List.mem_of_getElem? (i := 69) rfl)) (hw _ (List.mem_of_getElem? (i := 70) rfl)) (hw _ (List.mem_of_getElem? (i := 71) rfl)) (by decide) pd_28III29I rfl rfl (by decide) (Nat.le_of_ble_eq_true rfl) (by decide) (by decide) (fun z0 => rm_map l Z a0 hw [] n0 h691 z0 (1 : Int32) (3 : Int32) (2 : Int32)) (fun v694 h695 qv694 => ?_)
        obtain ⟨rfl, rfl⟩ := qv694
        rw [show own_map (1 : Int32) (3 : Int32) (2 : Int32) = (1 : Int32) from rfl]
        show W K l _ n0 _ h691 7 16 140 #[.val (.long t0), .second, .val (.long t1), .second, .val (.int flags), .val (.int f), .val (.int gg), .val (.int (1 : Int32)), .val (.int (3 : Int32)), .val (.int (2 : Int32)), .val (.ref b640), .val (.int (1 : Int32)), .val (.int (0 : Int32)), .unset, .unset] [(.int (1 : Int32))]
        refine w_istore ok at_140 (L' := #[.val (.long t0), .second, .val (.long t1), .second, .val (.int flags), .val (.int f), .val (.int gg), .val (.int (1 : Int32)), .val (.int (3 : Int32)), .val (.int (2 : Int32)), .val (.ref b640), .val (.int (1 : Int32)), .val (.int (0 : Int32)), .val (.int (1 : Int32)), .unset]) rfl ?_
        refine w_aload ok at_142 rfl rfl ?_
        refine w_callV ok (y := (⟨"com/example/rowan/rowan/store/IdleHeap", "first", "()I"⟩ : MethodName)) (a := b640) (argsL := []) (rest := []) at_144 (hw _ (List.mem_of_getElem? (i := 72) rfl)) (hw _ (List.mem_of_getElem? (i := 73) rfl)) (hw _ (List.mem_of_getElem? (i := 75) rfl)) (hw _ (List.mem_of_getElem? (i := 74) rfl)) (hw _ (List.mem_of_getElem? (i := 2) rfl)) (hw _ (List.mem_of_getElem? (i := 76) rfl)) (by decide) A_b640.1 pd_2829I rfl rfl (by decide) (Nat.le_of_ble_eq_true rfl) (by decide) (by decide) (fun z0 => rm_first l Z a0 hw [] n0 h691 z0 b640 fen fti fsl 2 e2 g2 τ2 A_b640 A_fen A_fti A_fsl ge_b640 ge_fen ge_fti ge_fsl nf_0 nf_1 nf_2 nf_3 nf_4 nf_5 (put (put (fun _ => none) 0 (some t0)) 1 (some t1)) P2 H2) (fun v696 h697 qv696 => ?_)
        obtain ⟨rfl, ⟨hs0, rfl⟩ | ⟨y, hy, hs, ey, rfl⟩⟩ := qv696
        · exact absurd hs0 (by decide)
        · skip
          obtain rfl : y = 1 := own_inj hy (by decide) (ey.symm.trans E)
          show W K l _ n0 _ h691 7 16 147 #[.val (.long t0), .second, .val (.long t1), .second, .val (.int flags), .val (.int f), .val (.int gg), .val (.int (1 : Int32)), .val (.int (3 : Int32)), .val (.int (2 : Int32)), .val (.ref b640), .val (.int (1 : Int32)), .val (.int (0 : Int32)), .val (.int (1 : Int32)), .unset] [(.int (1 : Int32))]
          refine w_iload ok at_147 rfl ?_
          refine w_icmp_eq ok at_149 (pc' := 154) (by decide) (fun hc699 => ?_) (fun hc699 => False.elim (by revert hc699; decide))
          show W K l _ n0 _ h691 7 16 154 #[.val (.long t0), .second, .val (.long t1), .second, .val (.int flags), .val (.int f), .val (.int gg), .val (.int (1 : Int32)), .val (.int (3 : Int32)), .val (.int (2 : Int32)), .val (.ref b640), .val (.int (1 : Int32)), .val (.int (0 : Int32)), .val (.int (1 : Int32)), .unset] []
          refine w_aload ok at_154 rfl rfl ?_
          refine w_iload ok at_156 rfl ?_
          refine w_callV ok (y := (⟨"com/example/rowan/rowan/store/IdleHeap", "remove", "(I)V"⟩ : MethodName)) (a := b640) (argsL := [(.int (1 : Int32))]) (rest := []) at_158 (hw _ (List.mem_of_getElem? (i := 63) rfl)) (hw _ (List.mem_of_getElem? (i := 64) rfl)) (hw _ (List.mem_of_getElem? (i := 66) rfl)) (hw _ (List.mem_of_getElem? (i := 65) rfl)) (hw _ (List.mem_of_getElem? (i := 2) rfl)) (hw _ (List.mem_of_getElem? (i := 67) rfl)) (by decide) A_b640.1 pd_28I29V rfl rfl (by decide) (Nat.le_of_ble_eq_true rfl) (by decide) (by decide) (fun z0 => rm_remove l Z a0 hw [] n0 h691 z0 b640 fen fti fsl 2 e2 g2 τ2 A_b640 A_fen A_fti A_fsl ge_b640 ge_fen ge_fti ge_fsl nf_0 nf_1 nf_2 nf_3 nf_4 nf_5 (put (put (fun _ => none) 0 (some t0)) 1 (some t1)) P2 H2 1 (by decide)) (fun v701 h702 qv701 => ?_)
          obtain ⟨rfl, sx700, ex700, gx700, τx700, K1, A0, A1, A2, A3, Px700, Hx700⟩ := qv701
          replace A_b640 : Ob Z h702 b640 "com/example/rowan/rowan/store/IdleHeap" fl_IdleHeap [(.ref fen), (.ref fti), (.ref fsl), (.int (Int32.ofNat sx700))] := A0
          replace A_fen := A1
          replace A_fti := A2
          replace A_fsl := A3
          show W K l _ n0 _ h702 7 16 161 #[.val (.long t0), .second, .val (.long t1), .second, .val (.int flags), .val (.int f), .val (.int gg), .val (.int (1 : Int32)), .val (.int (3 : Int32)), .val (.int (2 : Int32)), .val (.ref b640), .val (.int (1 : Int32)), .val (.int (0 : Int32)), .val (.int (1 : Int32)), .unset] []
          refine w_iload ok at_161 rfl ?_
          refine w_iconst ok at_163 (v := (-1 : Int32)) rfl ?_
          refine w_icmp_ne ok at_164 (pc' := 171) (by decide) (fun hc704 => ?_) (fun hc704 => False.elim (by revert hc704; decide))
          show W K l _ n0 _ h702 7 16 171 #[.val (.long t0), .second, .val (.long t1), .second, .val (.int flags), .val (.int f), .val (.int gg), .val (.int (1 : Int32)), .val (.int (3 : Int32)), .val (.int (2 : Int32)), .val (.ref b640), .val (.int (1 : Int32)), .val (.int (0 : Int32)), .val (.int (1 : Int32)), .unset] []
          refine w_iload ok at_171 rfl ?_
          refine w_iload ok at_173 rfl ?_
          refine w_iload ok at_175 rfl ?_
          refine w_callS ok (y := (⟨"com/example/rowan/rowan/store/IdleHeapRenumberPinLaw", "map", "(III)I"⟩ : MethodName)) (argsL := [(.int (0 : Int32)), (.int (3 : Int32)), (.int (2 : Int32))]) (rest := []) at_177 (hw _ (List.mem_of_getElem? (i := 68) rfl)) (hw _ (List.mem_of_getElem? (i := 69) rfl)) (hw _ (List.mem_of_getElem? (i := 70) rfl)) (hw _ (List.mem_of_getElem? (i := 71) rfl)) (by decide) pd_28III29I rfl rfl (by decide) (Nat.le_of_ble_eq_true rfl) (by decide) (by decide) (fun z0 => rm_map l Z a0 hw [] n0 h702 z0 (0 : Int32) (3 : Int32) (2 : Int32)) (fun v705 h706 qv705 => ?_)
          obtain ⟨rfl, rfl⟩ := qv705
          rw [show own_map (0 : Int32) (3 : Int32) (2 : Int32) = (0 : Int32) from rfl]
          show W K l _ n0 _ h702 7 16 180 #[.val (.long t0), .second, .val (.long t1), .second, .val (.int flags), .val (.int f), .val (.int gg), .val (.int (1 : Int32)), .val (.int (3 : Int32)), .val (.int (2 : Int32)), .val (.ref b640), .val (.int (1 : Int32)), .val (.int (0 : Int32)), .val (.int (1 : Int32)), .unset] [(.int (0 : Int32))]
          refine w_istore ok at_180 (L' := #[.val (.long t0), .second, .val (.long t1), .second, .val (.int flags), .val (.int f), .val (.int gg), .val (.int (1 : Int32)), .val (.int (3 : Int32)), .val (.int (2 : Int32)), .val (.ref b640), .val (.int (1 : Int32)), .val (.int (0 : Int32)), .val (.int (1 : Int32)), .val (.int (0 : Int32))]) rfl ?_
          refine w_aload ok at_182 rfl rfl ?_
          refine w_callV ok (y := (⟨"com/example/rowan/rowan/store/IdleHeap", "first", "()I"⟩ : MethodName)) (a := b640) (argsL := []) (rest := []) at_184 (hw _ (List.mem_of_getElem? (i := 72) rfl)) (hw _ (List.mem_of_getElem? (i := 73) rfl)) (hw _ (List.mem_of_getElem? (i := 75) rfl)) (hw _ (List.mem_of_getElem? (i := 74) rfl)) (hw _ (List.mem_of_getElem? (i := 2) rfl)) (hw _ (List.mem_of_getElem? (i := 76) rfl)) (by decide) A_b640.1 pd_2829I rfl rfl (by decide) (Nat.le_of_ble_eq_true rfl) (by decide) (by decide) (fun z0 => rm_first l Z a0 hw [] n0 h702 z0 b640 fen fti fsl sx700 ex700 gx700 τx700 A_b640 A_fen A_fti A_fsl ge_b640 ge_fen ge_fti ge_fsl nf_0 nf_1 nf_2 nf_3 nf_4 nf_5 (put (put (put (fun _ => none) 0 (some t0)) 1 (some t1)) 1 none) Px700 Hx700) (fun v707 h708 qv707 => ?_)
          obtain ⟨rfl, ⟨hs0, rfl⟩ | ⟨y, hy, hs, ey, rfl⟩⟩ := qv707
          · subst hs0; exact (own_none0 Px700 (y := 0) (by decide) rfl).elim
          · have my := (Px700.at hs hy ey).1
            obtain rfl | rfl | rfl | rfl : y = 0 ∨ y = 1 ∨ y = 2 ∨ y = 3 := by omega
            · skip
              show W K l _ n0 _ h702 7 16 187 #[.val (.long t0), .second, .val (.long t1), .second, .val (.int flags), .val (.int f), .val (.int gg), .val (.int (1 : Int32)), .val (.int (3 : Int32)), .val (.int (2 : Int32)), .val (.ref b640), .val (.int (1 : Int32)), .val (.int (0 : Int32)), .val (.int (1 : Int32)), .val (.int (0 : Int32))] [(.int (0 : Int32))]
              refine w_iload ok at_187 rfl ?_
              refine w_icmp_eq ok at_189 (pc' := 194) (by decide) (fun hc710 => ?_) (fun hc710 => False.elim (by revert hc710; decide))
              show W K l _ n0 _ h702 7 16 194 #[.val (.long t0), .second, .val (.long t1), .second, .val (.int flags), .val (.int f), .val (.int gg), .val (.int (1 : Int32)), .val (.int (3 : Int32)), .val (.int (2 : Int32)), .val (.ref b640), .val (.int (1 : Int32)), .val (.int (0 : Int32)), .val (.int (1 : Int32)), .val (.int (0 : Int32))] []
              refine w_iload ok at_194 rfl ?_
              refine w_iconst ok at_196 (v := (-1 : Int32)) rfl ?_
              refine w_icmp_eq ok at_197 (pc' := 218) (by decide) (fun hc712 => False.elim (by revert hc712; decide)) (fun hc712 => ?_)
              show W K l _ n0 _ h702 7 16 200 #[.val (.long t0), .second, .val (.long t1), .second, .val (.int flags), .val (.int f), .val (.int gg), .val (.int (1 : Int32)), .val (.int (3 : Int32)), .val (.int (2 : Int32)), .val (.ref b640), .val (.int (1 : Int32)), .val (.int (0 : Int32)), .val (.int (1 : Int32)), .val (.int (0 : Int32))] []
              refine w_aload ok at_200 rfl rfl ?_
              refine w_iload ok at_202 rfl ?_
              refine w_callV ok (y := (⟨"com/example/rowan/rowan/store/IdleHeap", "remove", "(I)V"⟩ : MethodName)) (a := b640) (argsL := [(.int (0 : Int32))]) (rest := []) at_204 (hw _ (List.mem_of_getElem? (i := 63) rfl)) (hw _ (List.mem_of_getElem? (i := 64) rfl)) (hw _ (List.mem_of_getElem? (i := 66) rfl)) (hw _ (List.mem_of_getElem? (i := 65) rfl)) (hw _ (List.mem_of_getElem? (i := 2) rfl)) (hw _ (List.mem_of_getElem? (i := 67) rfl)) (by decide) A_b640.1 pd_28I29V rfl rfl (by decide) (Nat.le_of_ble_eq_true rfl) (by decide) (by decide) (fun z0 => rm_remove l Z a0 hw [] n0 h702 z0 b640 fen fti fsl sx700 ex700 gx700 τx700 A_b640 A_fen A_fti A_fsl ge_b640 ge_fen ge_fti ge_fsl nf_0 nf_1 nf_2 nf_3 nf_4 nf_5 (put (put (put (fun _ => none) 0 (some t0)) 1 (some t1)) 1 none) Px700 Hx700 0 (by decide)) (fun v714 h715 qv714 => ?_)
              obtain ⟨rfl, sx713, ex713, gx713, τx713, K1, A0, A1, A2, A3, Px713, Hx713⟩ := qv714
              replace A_b640 : Ob Z h715 b640 "com/example/rowan/rowan/store/IdleHeap" fl_IdleHeap [(.ref fen), (.ref fti), (.ref fsl), (.int (Int32.ofNat sx713))] := A0
              replace A_fen := A1
              replace A_fti := A2
              replace A_fsl := A3
              show W K l _ n0 _ h715 7 16 207 #[.val (.long t0), .second, .val (.long t1), .second, .val (.int flags), .val (.int f), .val (.int gg), .val (.int (1 : Int32)), .val (.int (3 : Int32)), .val (.int (2 : Int32)), .val (.ref b640), .val (.int (1 : Int32)), .val (.int (0 : Int32)), .val (.int (1 : Int32)), .val (.int (0 : Int32))] []
              refine w_aload ok at_207 rfl rfl ?_
              refine w_callV ok (y := (⟨"com/example/rowan/rowan/store/IdleHeap", "first", "()I"⟩ : MethodName)) (a := b640) (argsL := []) (rest := []) at_209 (hw _ (List.mem_of_getElem? (i := 72) rfl)) (hw _ (List.mem_of_getElem? (i := 73) rfl)) (hw _ (List.mem_of_getElem? (i := 75) rfl)) (hw _ (List.mem_of_getElem? (i := 74) rfl)) (hw _ (List.mem_of_getElem? (i := 2) rfl)) (hw _ (List.mem_of_getElem? (i := 76) rfl)) (by decide) A_b640.1 pd_2829I rfl rfl (by decide) (Nat.le_of_ble_eq_true rfl) (by decide) (by decide) (fun z0 => rm_first l Z a0 hw [] n0 h715 z0 b640 fen fti fsl sx713 ex713 gx713 τx713 A_b640 A_fen A_fti A_fsl ge_b640 ge_fen ge_fti ge_fsl nf_0 nf_1 nf_2 nf_3 nf_4 nf_5 (put (put (put (put (fun _ => none) 0 (some t0)) 1 (some t1)) 1 none) 0 none) Px713 Hx713) (fun v716 h717 qv716 => ?_)
              obtain ⟨rfl, ⟨hs0, rfl⟩ | ⟨y, hy, hs, ey, rfl⟩⟩ := qv716
              · skip
                show W K l _ n0 _ h715 7 16 212 #[.val (.long t0), .second, .val (.long t1), .second, .val (.int flags), .val (.int f), .val (.int gg), .val (.int (1 : Int32)), .val (.int (3 : Int32)), .val (.int (2 : Int32)), .val (.ref b640), .val (.int (1 : Int32)), .val (.int (0 : Int32)), .val (.int (1 : Int32)), .val (.int (0 : Int32))] [(.int (-1 : Int32))]
                refine w_iconst ok at_212 (v := (-1 : Int32)) rfl ?_
                refine w_icmp_eq ok at_213 (pc' := 218) (by decide) (fun hc719 => ?_) (fun hc719 => False.elim (by revert hc719; decide))
                show W K l _ n0 _ h715 7 16 218 #[.val (.long t0), .second, .val (.long t1), .second, .val (.int flags), .val (.int f), .val (.int gg), .val (.int (1 : Int32)), .val (.int (3 : Int32)), .val (.int (2 : Int32)), .val (.ref b640), .val (.int (1 : Int32)), .val (.int (0 : Int32)), .val (.int (1 : Int32)), .val (.int (0 : Int32))] []
                refine w_iconst ok at_218 (v := (1 : Int32)) rfl ?_
                refine w_bret ok (by simp) at_219 (by decide) (by decide) ?_
                exact rfl
              · have my := (Px713.at hs hy ey).1
                obtain rfl | rfl | rfl | rfl : y = 0 ∨ y = 1 ∨ y = 2 ∨ y = 3 := by omega
                · cases (show none = some _ from my)
                · cases (show none = some _ from my)
                · cases (show none = some _ from my)
                · cases (show none = some _ from my)
            · cases (show none = some _ from my)
            · cases (show none = some _ from my)
            · cases (show none = some _ from my)
set_option maxRecDepth 65536 in
set_option maxHeartbeats 40000000 in
theorem comes_1 {Post : Tables → Env → Array Value → State → Outcome → State → Prop} (hpost : ∀ tb e args s v u, (limb_1_1.after args s (.returned v) u = true ∧ limb_1_2.after args s (.returned v) u = true) → FrameEnd s (.returned v) u (Jvm.fieldLocs frame_1_writes args s ++ Jvm.arrayLocs frame_1_arrays args s ++ Jvm.staticLocs frame_1_statics s) 24 128 → Post tb e args s (.returned v) u) :
    ArmFor flags0 classFile x code maxLocals ret World_1 tables_1 room_1 Calls_1 rest_1 Pre_1 Post := by
  intro l hfl _ _ p e ha hc hk s m args below hf hA hF happ hP
  obtain ⟨hcalls, hrest, hpre⟩ := hP
  obtain ⟨-, -, -, hnamed, -, -, -, hat⟩ := (Spec.applies_iff hf).mp happ
  obtain ⟨hg, hn⟩ := and_e (Cond.before_iff.mp (show (Jvm.Cond.and given_1 narrow_1).before args s = true from hpre))
  obtain ⟨g0, r0⟩ := and_e hg
  obtain ⟨g1, r1⟩ := and_e r0
  obtain ⟨g2, r2⟩ := and_e r1
  obtain ⟨g3, r3⟩ := and_e r2
  obtain ⟨g4, r4⟩ := and_e r3
  obtain ⟨w0, w1, w2, w3, w4, rfl⟩ : ∃ w0 w1 w2 w3 w4 : Value, args = #[w0, w1, w2, w3, w4] := by
    have hs : args.size = 5 := by simpa [Cond.value, given_1] using g0
    obtain ⟨L⟩ := args
    match L, hs with
    | [w0, w1, w2, w3, w4], _ => exact ⟨w0, w1, w2, w3, w4, rfl⟩
  have hw := fun d (hd : d ∈ tables_1) => atoms_spec (ws := Jvm.Cond.code x code maxLocals ret :: tables_1) hat d (List.mem_cons_of_mem _ hd)
  have hfit : Fit s := fun {y c} hc i hi => by
    obtain ⟨ha, rfl⟩ := Array.getElem?_eq_some_iff.mp hc
    have q := List.all_eq_true.mp ((Array.all_eq_true_iff_forall_mem.mp hF) _ (Array.getElem_mem ha)) i (List.mem_range.mpr hi)
    simpa [Array.getElem?_eq_getElem hi] using q
  obtain ⟨i0, ei0⟩ := isL_v g1
  obtain rfl : w0 = (.long i0) := Option.some.inj ei0
  obtain ⟨i1, ei1⟩ := isL_v g2
  obtain rfl : w1 = (.long i1) := Option.some.inj ei1
  obtain ⟨i2, ei2⟩ := is_v g3
  obtain rfl : w2 = (.int i2) := Option.some.inj ei2
  obtain ⟨i3, ei3⟩ := is_v g4
  obtain rfl : w3 = (.int i3) := Option.some.inj ei3
  obtain ⟨i4, ei4⟩ := is_v r4
  obtain rfl : w4 = (.int i4) := Option.some.inj ei4
  obtain ⟨n, o, h1, h2, h3, _, L, rfl, ⟨rfl, N⟩, hq⟩ := rm0 l s _ hw tables_1 s.heap.size s.heap (Old.start s) i0 i1 i2 i3 i4  p e ha hc hk s m _ below hf ((Spec.applies_iff_loose hf).mp happ).1 ⟨rfl, State.Warmed39.refl s, rfl⟩ trivial
  exact ⟨n, _, h1, h2, h3, hpost _ _ _ _ _ _ ⟨Cond.after_iff.mpr rfl, Cond.after_iff.mpr (eq_i res_at (Term.int_eval (1)) rfl)⟩ (frame_fin hq N (by decide) (by decide))⟩
theorem main_1_1 : Claimed_1_1 := comes_1 fun _ _ _ _ _ _ h hF => ⟨h.1, hF⟩
theorem main_1_2 : Claimed_1_2 := comes_1 fun _ _ _ _ _ _ h hF => ⟨h.2, hF⟩
end Jvm.Pilot.@@N@@
namespace Jvm.Pilot.@@N@@
open Jvm Jvm.ClassFile Sem Op Lib Jvm.Free Jvm.Stand Jvm.Pilot.@@N@@.Jvm.D
/-! MADE BY PROGRAM (witnessworld.py) out of the Statement's table words and the real class files: 14 classes; the members and pool entries that the words name. The judged class is class 1, her method 2. -/
namespace start1
open Jvm.ClassFile
def u (s : String) : CpInfo := .utf8 (stringToUtf16 s)
/-- a pool by its gaps: so many unusable entries, then the entry; so many at the end -/
def gap : Nat → List CpInfo → List CpInfo
  | 0, r => r
  | n + 1, r => .unusable :: gap n r
def poolList (es : List (Nat × CpInfo)) (last : Nat) : List CpInfo := es.foldr (fun e r => gap e.1 (e.2 :: r)) (gap last [])
def pool (es : List (Nat × CpInfo)) (last : Nat) : Array CpInfo := ⟨poolList es last⟩
def fileOf (pool : Array CpInfo) (this : Nat) (attrs : Array Attribute := #[]) (ms : Array MethodInfo := #[]) (fl : Nat := 33) (sup : Nat := 0) (ifs : Array Nat := #[]) (fds : Array FieldInfo := #[]) : ClassFile where
  minorVersion := 0
  majorVersion := 65
  constantPool := pool
  accessFlags := fl
  thisClass := this
  superClass := sup
  interfaces := ifs
  fields := fds
  methods := ms
  attributes := attrs
def plain (name : String) (sup : Option ClassId) : Class where
  name := name
  kind := .ordinary
  loader := none
  accessFlags := 33
  super := sup
  interfaces := #[]
  cf := none
  fields := #[]
  methods := #[]
  instanceTypes := #[]
  staticTypes := #[]
  resolved := #[]
  callSites := []
  init := .initialized
  statics := none
  mirror := none

def pool0 : Array CpInfo := pool [(5, u "<init>"), (0, u "()V"), (1, .class_ 10), (1, u "java/lang/Object")] 113

def k0c0 : Code := { maxStack := 0, maxLocals := 1, code := object_method_1_code, exceptionTable := #[], attributes := #[] }
def k0m0 : Method := { name := "<init>", desc := "()V", sig := { parameters := [], returnType := none }, accessFlags := 1, code := some k0c0 }
/-- java/lang/Object -/
def k0 : Class := { plain "java/lang/Object" none with
  accessFlags := 33
  interfaces := #[]
  cf := some (fileOf pool0 8 #[] #[{ accessFlags := 1, nameIndex := 5, descriptorIndex := 6, attributes := #[] }] 33 0 #[] #[])
  fields := #[]
  methods := #[k0m0]
  instanceTypes := #[]
  staticTypes := #[]
  resolved := Array.replicate 124 none
  statics := none }

def pool1 : Array CpInfo := pool [(2, .class_ 4), (0, .nameAndType 5 6), (0, u "java/lang/Object"), (0, u "<init>"), (0, u "()V"), (0, .class_ 8), (0, u "com/example/rowan/rowan/store/IdleHeap"), (0, .methodref 7 3), (0, .methodref 7 11), (0, .nameAndType 12 13), (0, u "resize"), (0, u "(I)V"), (0, .methodref 7 15), (0, .nameAndType 16 17), (0, u "add"), (0, u "(IJ)V"), (0, .methodref 7 19), (0, .nameAndType 20 21), (0, u "renumber"), (0, u "(II)V"), (0, .methodref 7 23), (0, .nameAndType 24 13), (0, u "remove"), (0, .methodref 26 27), (0, .class_ 28), (0, .nameAndType 29 30), (0, u "com/example/rowan/rowan/store/IdleHeapRenumberPinLaw"), (0, u "map"), (0, u "(III)I"), (0, .methodref 7 32), (0, .nameAndType 33 34), (0, u "first"), (0, u "()I"), (3, u "law"), (0, u "(JJIII)Z")] 2

def k1m0 : Method := { name := "<init>", desc := "()V", sig := { parameters := [], returnType := none }, accessFlags := 1, code := none }
def k1c1 : Code := { maxStack := 2, maxLocals := 3, code := method_2_code, exceptionTable := #[], attributes := #[] }
def k1m1 : Method := { name := "map", desc := "(III)I", sig := { parameters := [.int, .int, .int], returnType := some .int }, accessFlags := 10, code := some k1c1 }
def k1c2 : Code := { maxStack := 4, maxLocals := 15, code := code, exceptionTable := #[], attributes := #[] }
def k1m2 : Method := { name := "law", desc := "(JJIII)Z", sig := { parameters := [.long, .long, .int, .int, .int], returnType := some .boolean }, accessFlags := 9, code := some k1c2 }
/-- com/example/rowan/rowan/store/IdleHeapRenumberPinLaw -/
def k1 : Class := { plain "com/example/rowan/rowan/store/IdleHeapRenumberPinLaw" (some 0) with
  accessFlags := 49
  interfaces := #[]
  cf := some (fileOf pool1 26 #[] #[{ accessFlags := 1, nameIndex := 5, descriptorIndex := 6, attributes := #[] }, { accessFlags := 10, nameIndex := 29, descriptorIndex := 30, attributes := #[] }, { accessFlags := 9, nameIndex := 38, descriptorIndex := 39, attributes := #[] }] 49 2 #[] #[])
  fields := #[]
  methods := #[k1m0, k1m1, k1m2]
  instanceTypes := #[]
  staticTypes := #[]
  resolved := Array.replicate 42 none
  statics := none }

def pool2 : Array CpInfo := pool [(1, .methodref 2 3), (0, .class_ 4), (0, .nameAndType 5 6), (0, u "java/lang/Object"), (0, u "<init>"), (0, u "()V"), (0, .fieldref 8 9), (0, .class_ 10), (0, .nameAndType 11 12), (0, u "com/example/rowan/rowan/store/IdleHeap"), (0, u "entries"), (0, u "[I"), (0, .fieldref 8 14), (0, .nameAndType 15 16), (0, u "times"), (0, u "[J"), (0, .fieldref 8 18), (0, .nameAndType 19 12), (0, u "slots"), (0, .methodref 21 22), (0, .class_ 23), (0, .nameAndType 24 25), (0, u "java/util/Arrays"), (0, u "copyOf"), (0, u "([II)[I"), (0, .methodref 21 27), (0, .nameAndType 24 28), (0, u "([JI)[J"), (0, .methodref 21 30), (0, .nameAndType 31 32), (0, u "fill"), (0, u "([IIII)V"), (0, .fieldref 8 34), (0, .nameAndType 35 36), (0, u "size"), (0, u "I"), (0, .methodref 8 38), (0, .nameAndType 39 40), (0, u "place"), (0, u "(IJI)V"), (0, .methodref 8 42), (0, .nameAndType 43 44), (0, u "siftUp"), (0, u "(I)V"), (0, .methodref 8 46), (0, .nameAndType 47 44), (0, u "siftDown"), (0, .methodref 8 49), (0, .nameAndType 50 51), (0, u "earlierChild"), (0, u "(I)I"), (0, u "NONE"), (4, u "resize"), (1, u "first"), (0, u "()I"), (2, u "add"), (0, u "(IJ)V"), (1, u "remove"), (0, u "renumber"), (0, u "(II)V")] 2

def k2c0 : Code := { maxStack := 2, maxLocals := 1, code := prog_26_method_1_code, exceptionTable := #[], attributes := #[] }
def k2m0 : Method := { name := "<init>", desc := "()V", sig := { parameters := [], returnType := none }, accessFlags := 0, code := some k2c0 }
def k2c1 : Code := { maxStack := 4, maxLocals := 3, code := prog_26_method_2_code, exceptionTable := #[], attributes := #[] }
def k2m1 : Method := { name := "resize", desc := "(I)V", sig := { parameters := [.int], returnType := none }, accessFlags := 0, code := some k2c1 }
def k2c2 : Code := { maxStack := 2, maxLocals := 1, code := prog_26_method_3_code, exceptionTable := #[], attributes := #[] }
def k2m2 : Method := { name := "first", desc := "()I", sig := { parameters := [], returnType := some .int }, accessFlags := 0, code := some k2c2 }
def k2c3 : Code := { maxStack := 5, maxLocals := 4, code := prog_26_method_5_code, exceptionTable := #[], attributes := #[] }
def k2m3 : Method := { name := "add", desc := "(IJ)V", sig := { parameters := [.int, .long], returnType := none }, accessFlags := 0, code := some k2c3 }
def k2c4 : Code := { maxStack := 5, maxLocals := 4, code := prog_26_method_7_code, exceptionTable := #[], attributes := #[] }
def k2m4 : Method := { name := "remove", desc := "(I)V", sig := { parameters := [.int], returnType := none }, accessFlags := 0, code := some k2c4 }
def k2c5 : Code := { maxStack := 3, maxLocals := 4, code := prog_26_method_8_code, exceptionTable := #[], attributes := #[] }
def k2m5 : Method := { name := "renumber", desc := "(II)V", sig := { parameters := [.int, .int], returnType := none }, accessFlags := 0, code := some k2c5 }
def k2c6 : Code := { maxStack := 5, maxLocals := 7, code := prog_26_method_9_code, exceptionTable := #[], attributes := #[] }
def k2m6 : Method := { name := "siftUp", desc := "(I)V", sig := { parameters := [.int], returnType := none }, accessFlags := 2, code := some k2c6 }
def k2c7 : Code := { maxStack := 5, maxLocals := 7, code := prog_26_method_10_code, exceptionTable := #[], attributes := #[] }
def k2m7 : Method := { name := "siftDown", desc := "(I)V", sig := { parameters := [.int], returnType := none }, accessFlags := 2, code := some k2c7 }
def k2c8 : Code := { maxStack := 4, maxLocals := 3, code := prog_26_method_11_code, exceptionTable := #[], attributes := #[] }
def k2m8 : Method := { name := "earlierChild", desc := "(I)I", sig := { parameters := [.int], returnType := some .int }, accessFlags := 2, code := some k2c8 }
def k2c9 : Code := { maxStack := 4, maxLocals := 5, code := prog_26_method_12_code, exceptionTable := #[], attributes := #[] }
def k2m9 : Method := { name := "place", desc := "(IJI)V", sig := { parameters := [.int, .long, .int], returnType := none }, accessFlags := 2, code := some k2c9 }
/-- com/example/rowan/rowan/store/IdleHeap -/
def k2 : Class := { plain "com/example/rowan/rowan/store/IdleHeap" (some 0) with
  accessFlags := 32
  interfaces := #[]
  cf := some (fileOf pool2 8 #[] #[{ accessFlags := 0, nameIndex := 5, descriptorIndex := 6, attributes := #[] }, { accessFlags := 0, nameIndex := 57, descriptorIndex := 44, attributes := #[] }, { accessFlags := 0, nameIndex := 59, descriptorIndex := 60, attributes := #[] }, { accessFlags := 0, nameIndex := 63, descriptorIndex := 64, attributes := #[] }, { accessFlags := 0, nameIndex := 66, descriptorIndex := 44, attributes := #[] }, { accessFlags := 0, nameIndex := 67, descriptorIndex := 68, attributes := #[] }, { accessFlags := 2, nameIndex := 43, descriptorIndex := 44, attributes := #[] }, { accessFlags := 2, nameIndex := 47, descriptorIndex := 44, attributes := #[] }, { accessFlags := 2, nameIndex := 50, descriptorIndex := 51, attributes := #[] }, { accessFlags := 2, nameIndex := 39, descriptorIndex := 40, attributes := #[] }] 32 2 #[] #[{ accessFlags := 24, nameIndex := 52, descriptorIndex := 36, attributes := #[] }, { accessFlags := 2, nameIndex := 11, descriptorIndex := 12, attributes := #[] }, { accessFlags := 2, nameIndex := 15, descriptorIndex := 16, attributes := #[] }, { accessFlags := 2, nameIndex := 19, descriptorIndex := 12, attributes := #[] }, { accessFlags := 2, nameIndex := 35, descriptorIndex := 36, attributes := #[] }])
  fields := #[{ name := "NONE", type := .int, accessFlags := 24, slot := 0, constantValue := 0 }, { name := "entries", type := (.array .int), accessFlags := 2, slot := 0, constantValue := 0 }, { name := "times", type := (.array .long), accessFlags := 2, slot := 1, constantValue := 0 }, { name := "slots", type := (.array .int), accessFlags := 2, slot := 2, constantValue := 0 }, { name := "size", type := .int, accessFlags := 2, slot := 3, constantValue := 0 }]
  methods := #[k2m0, k2m1, k2m2, k2m3, k2m4, k2m5, k2m6, k2m7, k2m8, k2m9]
  instanceTypes := #[(.array .int), (.array .long), (.array .int), .int]
  staticTypes := #[.int]
  resolved := Array.replicate 71 none
  statics := none }

def pool3 : Array CpInfo := pool [(2, .class_ 4), (1, u "java/lang/Object"), (0, u "<init>"), (0, u "()V"), (5, u "([IIII)V"), (0, .methodref 14 15), (0, .class_ 16), (0, .nameAndType 17 18), (0, u "java/util/Arrays"), (0, u "rangeCheck"), (0, u "(III)V"), (55, .class_ 76), (1, u "java/util/Arrays$NaturalOrder"), (36, .class_ 115), (1, u "java/util/Arrays$LegacyMergeSort"), (1, u "Z"), (32, .methodref 151 152), (0, .class_ 153), (0, .nameAndType 154 155), (0, u "java/lang/System"), (0, u "arraycopy"), (0, u "(Ljava/lang/Object;ILjava/lang/Object;II)V"), (146, u "copyOf"), (1, .methodref 305 306), (0, .class_ 307), (0, .nameAndType 308 309), (0, u "java/lang/Math"), (0, u "min"), (0, u "(II)I"), (65, .class_ 376), (0, u "java/util/Arrays$ArrayList"), (68, u "$assertionsDisabled"), (269, u "MIN_ARRAY_SORT_GRAN"), (0, u "I"), (2, u "INSERTIONSORT_THRESHOLD"), (120, u "fill"), (30, u "([II)[I"), (0, u "([JI)[J"), (102, .class_ 976), (0, u "java/util/Arrays$ArrayItr")] 52

def k3m0 : Method := { name := "<init>", desc := "()V", sig := { parameters := [], returnType := none }, accessFlags := 2, code := none }
def k3c1 : Code := { maxStack := 4, maxLocals := 3, code := jdk_65_method_30_code, exceptionTable := #[], attributes := #[] }
def k3m1 : Method := { name := "rangeCheck", desc := "(III)V", sig := { parameters := [.int, .int, .int], returnType := none }, accessFlags := 8, code := some k3c1 }
def k3c2 : Code := { maxStack := 3, maxLocals := 5, code := jdk_65_method_104_code, exceptionTable := #[], attributes := #[] }
def k3m2 : Method := { name := "fill", desc := "([IIII)V", sig := { parameters := [(.array .int), .int, .int, .int], returnType := none }, accessFlags := 9, code := some k3c2 }
def k3c3 : Code := { maxStack := 6, maxLocals := 3, code := jdk_65_method_123_code, exceptionTable := #[], attributes := #[] }
def k3m3 : Method := { name := "copyOf", desc := "([II)[I", sig := { parameters := [(.array .int), .int], returnType := some (.array .int) }, accessFlags := 9, code := some k3c3 }
def k3c4 : Code := { maxStack := 6, maxLocals := 3, code := jdk_65_method_124_code, exceptionTable := #[], attributes := #[] }
def k3m4 : Method := { name := "copyOf", desc := "([JI)[J", sig := { parameters := [(.array .long), .int], returnType := some (.array .long) }, accessFlags := 9, code := some k3c4 }
/-- java/util/Arrays -/
def k3 : Class := { plain "java/util/Arrays" (some 0) with
  accessFlags := 49
  interfaces := #[]
  cf := some (fileOf pool3 14 #[.nestMembers #[975, 375, 113, 74]] #[{ accessFlags := 2, nameIndex := 5, descriptorIndex := 6, attributes := #[] }, { accessFlags := 8, nameIndex := 17, descriptorIndex := 18, attributes := #[] }, { accessFlags := 9, nameIndex := 840, descriptorIndex := 12, attributes := #[] }, { accessFlags := 9, nameIndex := 302, descriptorIndex := 871, attributes := #[] }, { accessFlags := 9, nameIndex := 302, descriptorIndex := 872, attributes := #[] }] 49 2 #[] #[{ accessFlags := 26, nameIndex := 715, descriptorIndex := 716, attributes := #[] }, { accessFlags := 26, nameIndex := 719, descriptorIndex := 716, attributes := #[] }, { accessFlags := 4120, nameIndex := 445, descriptorIndex := 117, attributes := #[] }])
  fields := #[{ name := "MIN_ARRAY_SORT_GRAN", type := .int, accessFlags := 26, slot := 0, constantValue := 0 }, { name := "INSERTIONSORT_THRESHOLD", type := .int, accessFlags := 26, slot := 1, constantValue := 0 }, { name := "$assertionsDisabled", type := .boolean, accessFlags := 4120, slot := 2, constantValue := 0 }]
  methods := #[k3m0, k3m1, k3m2, k3m3, k3m4]
  instanceTypes := #[]
  staticTypes := #[.int, .int, .boolean]
  resolved := Array.replicate 1029 none
  statics := none }

def pool4 : Array CpInfo := pool [(1, .class_ 2), (0, u "java/lang/Math"), (1, .class_ 6), (1, u "java/lang/Object"), (0, u "<init>"), (0, u "()V"), (89, .class_ 100), (1, u "java/lang/Math$RandomNumberGeneratorHolder"), (71, u "negativeZeroFloatBits"), (0, u "J"), (2, u "negativeZeroDoubleBits"), (24, u "min"), (43, u "$assertionsDisabled"), (0, u "Z"), (88, u "(II)I"), (2, u "twoToTheDoubleScaleDown"), (0, u "D"), (4, u "twoToTheDoubleScaleUp"), (9, u "E"), (3, u "PI"), (2, u "TAU"), (2, u "DEGREES_TO_RADIANS"), (0, u "RADIANS_TO_DEGREES")] 94

def k4m0 : Method := { name := "<init>", desc := "()V", sig := { parameters := [], returnType := none }, accessFlags := 2, code := none }
def k4c1 : Code := { maxStack := 2, maxLocals := 2, code := jdk_29_method_69_code, exceptionTable := #[], attributes := #[] }
def k4m1 : Method := { name := "min", desc := "(II)I", sig := { parameters := [.int, .int], returnType := some .int }, accessFlags := 9, code := some k4c1 }
/-- java/lang/Math -/
def k4 : Class := { plain "java/lang/Math" (some 0) with
  accessFlags := 49
  interfaces := #[]
  cf := some (fileOf pool4 1 #[.nestMembers #[98]] #[{ accessFlags := 2, nameIndex := 7, descriptorIndex := 8, attributes := #[] }, { accessFlags := 9, nameIndex := 201, descriptorIndex := 335, attributes := #[] }] 49 4 #[] #[{ accessFlags := 25, nameIndex := 354, descriptorIndex := 339, attributes := #[] }, { accessFlags := 25, nameIndex := 358, descriptorIndex := 339, attributes := #[] }, { accessFlags := 25, nameIndex := 361, descriptorIndex := 339, attributes := #[] }, { accessFlags := 26, nameIndex := 364, descriptorIndex := 339, attributes := #[] }, { accessFlags := 26, nameIndex := 365, descriptorIndex := 339, attributes := #[] }, { accessFlags := 26, nameIndex := 172, descriptorIndex := 173, attributes := #[] }, { accessFlags := 26, nameIndex := 176, descriptorIndex := 173, attributes := #[] }, { accessFlags := 8, nameIndex := 344, descriptorIndex := 339, attributes := #[] }, { accessFlags := 8, nameIndex := 338, descriptorIndex := 339, attributes := #[] }, { accessFlags := 4120, nameIndex := 245, descriptorIndex := 246, attributes := #[] }])
  fields := #[{ name := "E", type := .double, accessFlags := 25, slot := 0, constantValue := 0 }, { name := "PI", type := .double, accessFlags := 25, slot := 1, constantValue := 0 }, { name := "TAU", type := .double, accessFlags := 25, slot := 2, constantValue := 0 }, { name := "DEGREES_TO_RADIANS", type := .double, accessFlags := 26, slot := 3, constantValue := 0 }, { name := "RADIANS_TO_DEGREES", type := .double, accessFlags := 26, slot := 4, constantValue := 0 }, { name := "negativeZeroFloatBits", type := .long, accessFlags := 26, slot := 5, constantValue := 0 }, { name := "negativeZeroDoubleBits", type := .long, accessFlags := 26, slot := 6, constantValue := 0 }, { name := "twoToTheDoubleScaleUp", type := .double, accessFlags := 8, slot := 7, constantValue := 0 }, { name := "twoToTheDoubleScaleDown", type := .double, accessFlags := 8, slot := 8, constantValue := 0 }, { name := "$assertionsDisabled", type := .boolean, accessFlags := 4120, slot := 9, constantValue := 0 }]
  methods := #[k4m0, k4m1]
  instanceTypes := #[]
  staticTypes := #[.double, .double, .double, .double, .double, .long, .long, .double, .double, .boolean]
  resolved := Array.replicate 460 none
  statics := none }

def pool5 : Array CpInfo := pool [(2, .class_ 4), (1, u "java/lang/Object"), (0, u "<init>"), (0, u "()V"), (1, .class_ 10), (1, u "java/lang/System"), (0, u "allowSecurityManager"), (0, u "I"), (16, u "cons"), (0, u "Ljava/io/Console;"), (77, .class_ 110), (1, u "java/lang/System$CallersHolder"), (43, u "initialErrStream"), (0, u "Ljava/io/PrintStream;"), (19, u "security"), (0, u "Ljava/lang/SecurityManager;"), (31, .class_ 209), (0, u "java/lang/System$1"), (7, u "props"), (0, u "Ljava/util/Properties;"), (2, u "lineSeparator"), (0, u "Ljava/lang/String;"), (96, .class_ 321), (1, u "java/lang/System$LoggerFinder"), (5, .class_ 328), (0, u "java/lang/System$Logger"), (67, u "err"), (2, u "out"), (91, u "notSupportedJnuEncoding"), (15, u "in"), (17, u "initialIn"), (0, u "Ljava/io/InputStream;"), (35, u "bootLayer"), (0, u "Ljava/lang/ModuleLayer;"), (99, .class_ 664), (0, u "java/lang/System$2"), (9, u "NEVER"), (2, u "MAYBE"), (49, u "arraycopy"), (0, u "(Ljava/lang/Object;ILjava/lang/Object;II)V"), (72, .class_ 802), (0, u "java/lang/System$Logger$Level")] 31

def k5m0 : Method := { name := "<init>", desc := "()V", sig := { parameters := [], returnType := none }, accessFlags := 2, code := none }
def k5m1 : Method := { name := "arraycopy", desc := "(Ljava/lang/Object;ILjava/lang/Object;II)V", sig := { parameters := [(.object "java/lang/Object"), .int, (.object "java/lang/Object"), .int, .int], returnType := none }, accessFlags := 265, code := none }
/-- java/lang/System -/
def k5 : Class := { plain "java/lang/System" (some 0) with
  accessFlags := 49
  interfaces := #[]
  cf := some (fileOf pool5 8 #[.nestMembers #[319, 327, 801, 108, 663, 208]] #[{ accessFlags := 2, nameIndex := 5, descriptorIndex := 6, attributes := #[] }, { accessFlags := 265, nameIndex := 727, descriptorIndex := 728, attributes := #[] }] 49 2 #[] #[{ accessFlags := 25, nameIndex := 507, descriptorIndex := 526, attributes := #[] }, { accessFlags := 25, nameIndex := 399, descriptorIndex := 155, attributes := #[] }, { accessFlags := 25, nameIndex := 396, descriptorIndex := 155, attributes := #[] }, { accessFlags := 10, nameIndex := 525, descriptorIndex := 526, attributes := #[] }, { accessFlags := 26, nameIndex := 674, descriptorIndex := 12, attributes := #[] }, { accessFlags := 26, nameIndex := 677, descriptorIndex := 12, attributes := #[] }, { accessFlags := 10, nameIndex := 11, descriptorIndex := 12, attributes := #[] }, { accessFlags := 74, nameIndex := 175, descriptorIndex := 176, attributes := #[] }, { accessFlags := 10, nameIndex := 491, descriptorIndex := 222, attributes := #[] }, { accessFlags := 74, nameIndex := 29, descriptorIndex := 30, attributes := #[] }, { accessFlags := 74, nameIndex := 154, descriptorIndex := 155, attributes := #[] }, { accessFlags := 10, nameIndex := 217, descriptorIndex := 218, attributes := #[] }, { accessFlags := 10, nameIndex := 221, descriptorIndex := 222, attributes := #[] }, { accessFlags := 8, nameIndex := 562, descriptorIndex := 563, attributes := #[] }])
  fields := #[{ name := "in", type := (.object "java/io/InputStream"), accessFlags := 25, slot := 0, constantValue := 0 }, { name := "out", type := (.object "java/io/PrintStream"), accessFlags := 25, slot := 1, constantValue := 0 }, { name := "err", type := (.object "java/io/PrintStream"), accessFlags := 25, slot := 2, constantValue := 0 }, { name := "initialIn", type := (.object "java/io/InputStream"), accessFlags := 10, slot := 3, constantValue := 0 }, { name := "NEVER", type := .int, accessFlags := 26, slot := 4, constantValue := 0 }, { name := "MAYBE", type := .int, accessFlags := 26, slot := 5, constantValue := 0 }, { name := "allowSecurityManager", type := .int, accessFlags := 10, slot := 6, constantValue := 0 }, { name := "security", type := (.object "java/lang/SecurityManager"), accessFlags := 74, slot := 7, constantValue := 0 }, { name := "notSupportedJnuEncoding", type := (.object "java/lang/String"), accessFlags := 10, slot := 8, constantValue := 0 }, { name := "cons", type := (.object "java/io/Console"), accessFlags := 74, slot := 9, constantValue := 0 }, { name := "initialErrStream", type := (.object "java/io/PrintStream"), accessFlags := 74, slot := 10, constantValue := 0 }, { name := "props", type := (.object "java/util/Properties"), accessFlags := 10, slot := 11, constantValue := 0 }, { name := "lineSeparator", type := (.object "java/lang/String"), accessFlags := 10, slot := 12, constantValue := 0 }, { name := "bootLayer", type := (.object "java/lang/ModuleLayer"), accessFlags := 8, slot := 13, constantValue := 0 }]
  methods := #[k5m0, k5m1]
  instanceTypes := #[]
  staticTypes := #[(.object "java/io/InputStream"), (.object "java/io/PrintStream"), (.object "java/io/PrintStream"), (.object "java/io/InputStream"), .int, .int, .int, (.object "java/lang/SecurityManager"), (.object "java/lang/String"), (.object "java/io/Console"), (.object "java/io/PrintStream"), (.object "java/util/Properties"), (.object "java/lang/String"), (.object "java/lang/ModuleLayer")]
  resolved := Array.replicate 834 none
  statics := none }

def pool6 : Array CpInfo := pool [(1, u "java/lang/Cloneable"), (0, .class_ 1), (0, u "java/lang/Object"), (0, .class_ 3)] 3

/-- java/lang/Cloneable -/
def k6 : Class := { plain "java/lang/Cloneable" (some 0) with
  accessFlags := 1537
  interfaces := #[]
  cf := some (fileOf pool6 2 #[] #[] 1537 4 #[] #[])
  fields := #[]
  methods := #[]
  instanceTypes := #[]
  staticTypes := #[]
  resolved := Array.replicate 8 none
  statics := none }

def pool7 : Array CpInfo := pool [(1, u "java/io/Serializable"), (0, .class_ 1), (0, u "java/lang/Object"), (0, .class_ 3)] 3

/-- java/io/Serializable -/
def k7 : Class := { plain "java/io/Serializable" (some 0) with
  accessFlags := 1537
  interfaces := #[]
  cf := some (fileOf pool7 2 #[] #[] 1537 4 #[] #[])
  fields := #[]
  methods := #[]
  instanceTypes := #[]
  staticTypes := #[]
  resolved := Array.replicate 8 none
  statics := none }

/-- the primitive byte -/
def k8 : Class := { plain "byte" none with kind := .primitive 'B', accessFlags := 0x411 }
/-- [B -/
def k9 : Class := { plain "[B" (some 0) with kind := .array 8 .byte, interfaces := #[6, 7], accessFlags := 1041 }

/-- the primitive int -/
def k10 : Class := { plain "int" none with kind := .primitive 'I', accessFlags := 0x411 }
/-- [I -/
def k11 : Class := { plain "[I" (some 0) with kind := .array 10 .int, interfaces := #[6, 7], accessFlags := 1041 }

/-- the primitive long -/
def k12 : Class := { plain "long" none with kind := .primitive 'J', accessFlags := 0x411 }
/-- [J -/
def k13 : Class := { plain "[J" (some 0) with kind := .array 12 .long, interfaces := #[6, 7], accessFlags := 1041 }

def heap : Heap := #[]
def classes : Array Class := #[k0, k1, k2, k3, k4, k5, k6, k7, k8, k9, k10, k11, k12, k13]
def interned : List (Array UInt16 × Addr) := []
def slotsUsed : Nat := 0
def theMethod : MethodId := ⟨1, 2⟩
def args0 : Array Value := #[.long 5, .long 7, .int 1, .int 1, .int 0]
def aboutOver (below : List Frame) : State where
  vm := { classes := classes, interned := interned.toArray }
  heap := heap
  slotsUsed := slotsUsed
  threads := #[{ frames := .invoking theMethod args0 :: below }]
def below0 : List Frame := [.native { method := ⟨0, 0⟩, args := #[] }]
def about1 : State := aboutOver below0
def p0 : Program := .bare "" "" ""
def e0 : Env := launch0.env 0 0 0
theorem w_frames : about1.frames = Frame.invoking theMethod args0 :: below0 := rfl
set_option maxRecDepth 65536 in
theorem w_args : argsFit about1.vm theMethod args0 = true := by decide +kernel
set_option maxRecDepth 65536 in
theorem w_heap : heapFits about1 = true := by decide +kernel
set_option maxRecDepth 65536 in
theorem w_runnable : about1.curStatus? = some .runnable := by decide +kernel
set_option maxRecDepth 65536 in
theorem w_alone : about1.alone = true := by decide +kernel
set_option maxRecDepth 65536 in
theorem w_named : about1.methodNamed? x = some theMethod := by decide +kernel
set_option maxRecDepth 65536 in
theorem w_hears : about1.hears theMethod below0 = true := by decide +kernel
set_option maxRecDepth 65536 in
theorem w_ripe : about1.ripe theMethod args0 below0 = true := by decide +kernel
theorem w_running : about1.status = .running := rfl
set_option maxRecDepth 65536 in
theorem w_room : about1.hasRoom e0.platform room_1 = true :=
  launch0.hasRoom_least _ room_1 (by decide +kernel) (by decide +kernel) (by decide +kernel) (by decide +kernel) (by decide +kernel) (by decide +kernel)
theorem allAtoms_all (ts : List Jvm.Cond) (a : Array Jvm.Value) (st : Jvm.State) : (allAtoms ts).before a st = ts.all (fun c => c.before a st) := by
  induction ts with
  | nil => rfl
  | cons c t ih =>
    show (Jvm.Cond.and c (allAtoms t)).before a st = _
    rw [Jvm.Cond.before_and, ih, List.all_cons]
def words1 : List Jvm.Cond := Jvm.Cond.code x code maxLocals ret :: tables_1
/-- a 'code' word, met by the world's own term for the bytes: nothing is compared byte by byte -/
theorem code_word {y : MethodName} {bytes : ByteArray} {mx : Nat} {rt : Option FieldType} {a : Array Value} {s : State} {m : MethodId} {meth : Method} {c : Code} (h1 : s.methodNamed? y = some m) (h2 : s.vm.method? m = some meth) (h3 : meth.code = some c) (h4 : c.code = bytes)
    (h5 : (c.maxLocals == mx && c.exceptionTable.isEmpty && decide (c.maxStack ≤ mostOperands) && decide (meth.sig.returnType = rt) && !meth.locks && decide (parseMethodDescriptor y.desc = some meth.sig)) = true) : (Jvm.Cond.code y bytes mx rt).before a s = true := by
  simp only [Bool.and_eq_true, beq_iff_eq, Bool.not_eq_true', decide_eq_true_eq] at h5
  obtain ⟨⟨⟨⟨⟨g1, g2⟩, g3⟩, g4⟩, g5⟩, g6⟩ := h5
  simp [Cond.before, Cond.holds, Cond.value, h1, h2, h3, h4, g1, g2, g3, g4, g5, g6]
def isCode : Jvm.Cond → Bool
  | .code _ _ _ _ => true
  | _ => false
theorem all_split {L : List Jvm.Cond} {P : Jvm.Cond → Bool} (h1 : L.all (fun c => isCode c || P c) = true) (h2 : ∀ c ∈ L.filter isCode, P c = true) : L.all P = true := by
  refine List.all_eq_true.mpr fun c hc => ?_
  have h := List.all_eq_true.mp h1 c hc
  rcases Bool.eq_false_or_eq_true (isCode c) with hi | hi
  · exact h2 c (List.mem_filter.mpr ⟨hc, hi⟩)
  · simpa [hi] using h
set_option maxRecDepth 65536 in
theorem w_c0 : (Jvm.Cond.code x code maxLocals ret).before args0 about1 = true := code_word (m := ⟨1, 2⟩) (meth := k1m2) (c := k1c2) (by decide +kernel) rfl rfl rfl (by decide +kernel)
set_option maxRecDepth 65536 in
theorem w_c1 : (Jvm.Cond.code ({ cls := "com/example/rowan/rowan/store/IdleHeap", name := "<init>", desc := "()V" } : Jvm.MethodName) prog_26_method_1_code (1 : Nat) (Option.none : Option Jvm.ClassFile.FieldType)).before args0 about1 = true := code_word (m := ⟨2, 0⟩) (meth := k2m0) (c := k2c0) (by decide +kernel) rfl rfl rfl (by decide +kernel)
set_option maxRecDepth 65536 in
theorem w_c2 : (Jvm.Cond.code ({ cls := "java/lang/Object", name := "<init>", desc := "()V" } : Jvm.MethodName) object_method_1_code (1 : Nat) (Option.none : Option Jvm.ClassFile.FieldType)).before args0 about1 = true := code_word (m := ⟨0, 0⟩) (meth := k0m0) (c := k0c0) (by decide +kernel) rfl rfl rfl (by decide +kernel)
set_option maxRecDepth 65536 in
theorem w_c3 : (Jvm.Cond.code ({ cls := "com/example/rowan/rowan/store/IdleHeap", name := "resize", desc := "(I)V" } : Jvm.MethodName) prog_26_method_2_code (3 : Nat) (Option.none : Option Jvm.ClassFile.FieldType)).before args0 about1 = true := code_word (m := ⟨2, 1⟩) (meth := k2m1) (c := k2c1) (by decide +kernel) rfl rfl rfl (by decide +kernel)
set_option maxRecDepth 65536 in
theorem w_c4 : (Jvm.Cond.code ({ cls := "java/util/Arrays", name := "copyOf", desc := "([II)[I" } : Jvm.MethodName) jdk_65_method_123_code (3 : Nat) (Option.some (Jvm.ClassFile.FieldType.array Jvm.ClassFile.FieldType.int))).before args0 about1 = true := code_word (m := ⟨3, 3⟩) (meth := k3m3) (c := k3c3) (by decide +kernel) rfl rfl rfl (by decide +kernel)
set_option maxRecDepth 65536 in
theorem w_c5 : (Jvm.Cond.code ({ cls := "java/lang/Math", name := "min", desc := "(II)I" } : Jvm.MethodName) jdk_29_method_69_code (2 : Nat) (Option.some Jvm.ClassFile.FieldType.int)).before args0 about1 = true := code_word (m := ⟨4, 1⟩) (meth := k4m1) (c := k4c1) (by decide +kernel) rfl rfl rfl (by decide +kernel)
set_option maxRecDepth 65536 in
theorem w_c6 : (Jvm.Cond.code ({ cls := "java/util/Arrays", name := "copyOf", desc := "([JI)[J" } : Jvm.MethodName) jdk_65_method_124_code (3 : Nat) (Option.some (Jvm.ClassFile.FieldType.array Jvm.ClassFile.FieldType.long))).before args0 about1 = true := code_word (m := ⟨3, 4⟩) (meth := k3m4) (c := k3c4) (by decide +kernel) rfl rfl rfl (by decide +kernel)
set_option maxRecDepth 65536 in
theorem w_c7 : (Jvm.Cond.code ({ cls := "java/util/Arrays", name := "fill", desc := "([IIII)V" } : Jvm.MethodName) jdk_65_method_104_code (5 : Nat) (Option.none : Option Jvm.ClassFile.FieldType)).before args0 about1 = true := code_word (m := ⟨3, 2⟩) (meth := k3m2) (c := k3c2) (by decide +kernel) rfl rfl rfl (by decide +kernel)
set_option maxRecDepth 65536 in
theorem w_c8 : (Jvm.Cond.code ({ cls := "java/util/Arrays", name := "rangeCheck", desc := "(III)V" } : Jvm.MethodName) jdk_65_method_30_code (3 : Nat) (Option.none : Option Jvm.ClassFile.FieldType)).before args0 about1 = true := code_word (m := ⟨3, 1⟩) (meth := k3m1) (c := k3c1) (by decide +kernel) rfl rfl rfl (by decide +kernel)
set_option maxRecDepth 65536 in
theorem w_c9 : (Jvm.Cond.code ({ cls := "com/example/rowan/rowan/store/IdleHeap", name := "add", desc := "(IJ)V" } : Jvm.MethodName) prog_26_method_5_code (4 : Nat) (Option.none : Option Jvm.ClassFile.FieldType)).before args0 about1 = true := code_word (m := ⟨2, 3⟩) (meth := k2m3) (c := k2c3) (by decide +kernel) rfl rfl rfl (by decide +kernel)
set_option maxRecDepth 65536 in
theorem w_c10 : (Jvm.Cond.code ({ cls := "com/example/rowan/rowan/store/IdleHeap", name := "place", desc := "(IJI)V" } : Jvm.MethodName) prog_26_method_12_code (5 : Nat) (Option.none : Option Jvm.ClassFile.FieldType)).before args0 about1 = true := code_word (m := ⟨2, 9⟩) (meth := k2m9) (c := k2c9) (by decide +kernel) rfl rfl rfl (by decide +kernel)
set_option maxRecDepth 65536 in
theorem w_c11 : (Jvm.Cond.code ({ cls := "com/example/rowan/rowan/store/IdleHeap", name := "siftUp", desc := "(I)V" } : Jvm.MethodName) prog_26_method_9_code (7 : Nat) (Option.none : Option Jvm.ClassFile.FieldType)).before args0 about1 = true := code_word (m := ⟨2, 6⟩) (meth := k2m6) (c := k2c6) (by decide +kernel) rfl rfl rfl (by decide +kernel)
set_option maxRecDepth 65536 in
theorem w_c12 : (Jvm.Cond.code ({ cls := "com/example/rowan/rowan/store/IdleHeap", name := "renumber", desc := "(II)V" } : Jvm.MethodName) prog_26_method_8_code (4 : Nat) (Option.none : Option Jvm.ClassFile.FieldType)).before args0 about1 = true := code_word (m := ⟨2, 5⟩) (meth := k2m5) (c := k2c5) (by decide +kernel) rfl rfl rfl (by decide +kernel)
set_option maxRecDepth 65536 in
theorem w_c13 : (Jvm.Cond.code ({ cls := "com/example/rowan/rowan/store/IdleHeap", name := "remove", desc := "(I)V" } : Jvm.MethodName) prog_26_method_7_code (4 : Nat) (Option.none : Option Jvm.ClassFile.FieldType)).before args0 about1 = true := code_word (m := ⟨2, 4⟩) (meth := k2m4) (c := k2c4) (by decide +kernel) rfl rfl rfl (by decide +kernel)
set_option maxRecDepth 65536 in
theorem w_c14 : (Jvm.Cond.code ({ cls := "com/example/rowan/rowan/store/IdleHeapRenumberPinLaw", name := "map", desc := "(III)I" } : Jvm.MethodName) method_2_code (3 : Nat) (Option.some Jvm.ClassFile.FieldType.int)).before args0 about1 = true := code_word (m := ⟨1, 1⟩) (meth := k1m1) (c := k1c1) (by decide +kernel) rfl rfl rfl (by decide +kernel)
set_option maxRecDepth 65536 in
theorem w_c15 : (Jvm.Cond.code ({ cls := "com/example/rowan/rowan/store/IdleHeap", name := "first", desc := "()I" } : Jvm.MethodName) prog_26_method_3_code (1 : Nat) (Option.some Jvm.ClassFile.FieldType.int)).before args0 about1 = true := code_word (m := ⟨2, 2⟩) (meth := k2m2) (c := k2c2) (by decide +kernel) rfl rfl rfl (by decide +kernel)
set_option maxRecDepth 65536 in
theorem w_c16 : (Jvm.Cond.code ({ cls := "com/example/rowan/rowan/store/IdleHeap", name := "siftDown", desc := "(I)V" } : Jvm.MethodName) prog_26_method_10_code (7 : Nat) (Option.none : Option Jvm.ClassFile.FieldType)).before args0 about1 = true := code_word (m := ⟨2, 7⟩) (meth := k2m7) (c := k2c7) (by decide +kernel) rfl rfl rfl (by decide +kernel)
set_option maxRecDepth 65536 in
theorem w_c17 : (Jvm.Cond.code ({ cls := "com/example/rowan/rowan/store/IdleHeap", name := "earlierChild", desc := "(I)I" } : Jvm.MethodName) prog_26_method_11_code (3 : Nat) (Option.some Jvm.ClassFile.FieldType.int)).before args0 about1 = true := code_word (m := ⟨2, 8⟩) (meth := k2m8) (c := k2c8) (by decide +kernel) rfl rfl rfl (by decide +kernel)
def codes1 : List Jvm.Cond := [Jvm.Cond.code x code maxLocals ret, Jvm.Cond.code ({ cls := "com/example/rowan/rowan/store/IdleHeap", name := "<init>", desc := "()V" } : Jvm.MethodName) prog_26_method_1_code (1 : Nat) (Option.none : Option Jvm.ClassFile.FieldType), Jvm.Cond.code ({ cls := "java/lang/Object", name := "<init>", desc := "()V" } : Jvm.MethodName) object_method_1_code (1 : Nat) (Option.none : Option Jvm.ClassFile.FieldType), Jvm.Cond.code ({ cls := "com/example/rowan/rowan/store/IdleHeap", name := "resize", desc := "(I)V" } : Jvm.MethodName) prog_26_method_2_code (3 : Nat) (Option.none : Option Jvm.ClassFile.FieldType), Jvm.Cond.code ({ cls := "java/util/Arrays", name := "copyOf", desc := "([II)[I" } : Jvm.MethodName) jdk_65_method_123_code (3 : Nat) (Option.some (Jvm.ClassFile.FieldType.array Jvm.ClassFile.FieldType.int)), Jvm.Cond.code ({ cls := "java/lang/Math", name := "min", desc := "(II)I" } : Jvm.MethodName) jdk_29_method_69_code (2 : Nat) (Option.some Jvm.ClassFile.FieldType.int), Jvm.Cond.code ({ cls := "java/util/Arrays", name := "copyOf", desc := "([JI)[J" } : Jvm.MethodName) jdk_65_method_124_code (3 : Nat) (Option.some (Jvm.ClassFile.FieldType.array Jvm.ClassFile.FieldType.long)), Jvm.Cond.code ({ cls := "java/util/Arrays", name := "fill", desc := "([IIII)V" } : Jvm.MethodName) jdk_65_method_104_code (5 : Nat) (Option.none : Option Jvm.ClassFile.FieldType), Jvm.Cond.code ({ cls := "java/util/Arrays", name := "rangeCheck", desc := "(III)V" } : Jvm.MethodName) jdk_65_method_30_code (3 : Nat) (Option.none : Option Jvm.ClassFile.FieldType), Jvm.Cond.code ({ cls := "com/example/rowan/rowan/store/IdleHeap", name := "add", desc := "(IJ)V" } : Jvm.MethodName) prog_26_method_5_code (4 : Nat) (Option.none : Option Jvm.ClassFile.FieldType), Jvm.Cond.code ({ cls := "com/example/rowan/rowan/store/IdleHeap", name := "place", desc := "(IJI)V" } : Jvm.MethodName) prog_26_method_12_code (5 : Nat) (Option.none : Option Jvm.ClassFile.FieldType), Jvm.Cond.code ({ cls := "com/example/rowan/rowan/store/IdleHeap", name := "siftUp", desc := "(I)V" } : Jvm.MethodName) prog_26_method_9_code (7 : Nat) (Option.none : Option Jvm.ClassFile.FieldType), Jvm.Cond.code ({ cls := "com/example/rowan/rowan/store/IdleHeap", name := "renumber", desc := "(II)V" } : Jvm.MethodName) prog_26_method_8_code (4 : Nat) (Option.none : Option Jvm.ClassFile.FieldType), Jvm.Cond.code ({ cls := "com/example/rowan/rowan/store/IdleHeap", name := "remove", desc := "(I)V" } : Jvm.MethodName) prog_26_method_7_code (4 : Nat) (Option.none : Option Jvm.ClassFile.FieldType), Jvm.Cond.code ({ cls := "com/example/rowan/rowan/store/IdleHeapRenumberPinLaw", name := "map", desc := "(III)I" } : Jvm.MethodName) method_2_code (3 : Nat) (Option.some Jvm.ClassFile.FieldType.int), Jvm.Cond.code ({ cls := "com/example/rowan/rowan/store/IdleHeap", name := "first", desc := "()I" } : Jvm.MethodName) prog_26_method_3_code (1 : Nat) (Option.some Jvm.ClassFile.FieldType.int), Jvm.Cond.code ({ cls := "com/example/rowan/rowan/store/IdleHeap", name := "siftDown", desc := "(I)V" } : Jvm.MethodName) prog_26_method_10_code (7 : Nat) (Option.none : Option Jvm.ClassFile.FieldType), Jvm.Cond.code ({ cls := "com/example/rowan/rowan/store/IdleHeap", name := "earlierChild", desc := "(I)I" } : Jvm.MethodName) prog_26_method_11_code (3 : Nat) (Option.some Jvm.ClassFile.FieldType.int)]
set_option maxRecDepth 65536 in
theorem codes_eq : words1.filter isCode = codes1 := rfl
theorem w_codes : ∀ c ∈ words1.filter isCode, c.before args0 about1 = true := by
  rw [codes_eq]
  intro c hc
  simp only [codes1, List.mem_cons, List.not_mem_nil, or_false] at hc
  rcases hc with rfl | rfl | rfl | rfl | rfl | rfl | rfl | rfl | rfl | rfl | rfl | rfl | rfl | rfl | rfl | rfl | rfl | rfl
  · exact w_c0
  · exact w_c1
  · exact w_c2
  · exact w_c3
  · exact w_c4
  · exact w_c5
  · exact w_c6
  · exact w_c7
  · exact w_c8
  · exact w_c9
  · exact w_c10
  · exact w_c11
  · exact w_c12
  · exact w_c13
  · exact w_c14
  · exact w_c15
  · exact w_c16
  · exact w_c17
set_option maxRecDepth 65536 in
theorem w_t1 : (words1.take 24).all (fun c => isCode c || c.before args0 about1) = true := by decide +kernel
set_option maxRecDepth 65536 in
theorem w_t2 : ((words1.drop 24).take 24).all (fun c => isCode c || c.before args0 about1) = true := by decide +kernel
set_option maxRecDepth 65536 in
theorem w_t3 : (((words1.drop 24).drop 24).take 24).all (fun c => isCode c || c.before args0 about1) = true := by decide +kernel
set_option maxRecDepth 65536 in
theorem w_t4 : (((words1.drop 24).drop 24).drop 24).all (fun c => isCode c || c.before args0 about1) = true := by decide +kernel
theorem w_tables : (allAtoms (Jvm.Cond.code x code maxLocals ret :: tables_1)).before args0 about1 = true := by
  rw [allAtoms_all]
  show words1.all (fun c => c.before args0 about1) = true
  refine all_split ?_ w_codes
  rw [← List.take_append_drop 24 words1, List.all_append, w_t1, ← List.take_append_drop 24 (words1.drop 24), List.all_append, w_t2, ← List.take_append_drop 24 ((words1.drop 24).drop 24), List.all_append, w_t3, w_t4]
  rfl
set_option maxRecDepth 65536 in
theorem w_case : (Jvm.Cond.and given_1 narrow_1).before args0 about1 = true := by decide +kernel
theorem w_applies : (headSpec (Jvm.Cond.code x code maxLocals ret :: tables_1) room_1).applies x e0.platform about1 = true :=
  (Spec.applies_iff w_frames).mpr ⟨w_running, w_runnable, w_alone, w_named, w_hears, w_ripe, w_room, w_tables⟩
theorem atStart : AtStart classFile x code maxLocals ret World_1 tables_1 room_1 Calls_1 rest_1 Pre_1 launch0 p0 e0 about1 theMethod args0 below0 :=
  ⟨lists_1, trivial, launch0.admits_env _ _ _, launch0.least_env, fairChoices_fair.cas, fairChoices_fair.clock, w_frames, w_args, w_heap, w_applies, trivial, trivial, w_case⟩
end start1
theorem witness_1 : WitnessClaimed_1 := ⟨start1.p0, start1.e0, start1.about1, start1.theMethod, start1.args0, start1.below0, start1.atStart⟩
end Jvm.Pilot.@@N@@
