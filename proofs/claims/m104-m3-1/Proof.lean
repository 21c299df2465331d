import JvmDerived
import JvmDerived.Pilot.@@N@@Statement
import JvmDerived.Pilot.@@N@@Code
set_option linter.unusedVariables false
set_option linter.unusedSimpArgs false
namespace Jvm.OwnKit
open Sem ClassFile Op Lib Jvm.Stand Jvm.Free Jvm.LawKit Jvm.RoadKit Bundle
/-- the run's own things: program, environment, start state, method, arguments, frames below, its record, its code -/
abbrev Cx := Program × Env × State × MethodId × Array Value × List Frame × Method × Code
def Ok (K : Cx) (Z : State) (n0 : Nat) (own : String) (code : ByteArray) (maxL : Nat) (ret : Option FieldType) (nm : String) : Prop :=
  match K with
  | (p, _, s, m, _, _, meth, c) => p.tables.exec = Jvm.exec ∧ Z.Warmed39 s.vm ∧ s.vm.findClass own = some m.cls ∧ c.code = code ∧ c.maxLocals = maxL ∧ meth.sig.returnType = ret ∧ meth.name = nm ∧ meth.locks = false ∧ Old Z n0 s.heap
/-- from heap h, with k cells and n slots made, at pc with locals L and stack S, the run comes to a return that P likes -/
def W (K : Cx) (l : Launch) (R : Room) (n0 : Nat) (P : Option Value → Heap → Prop) (h : Heap) (k n pc : Nat) (L : Array Slot) (S : List Value) : Prop :=
  match K with
  | (p, e, s, m, args, below, meth, c) => ∀ T locs, Stand p l e R s m args below meth c T locs k n → T.heap = h → Fr n0 locs →
    ∃ s₂ o, Steps p.tables e below (T.setTop (mkF m pc L S)) s₂ ∧ s₂.status = .running ∧ Ended s₂ below o ∧ ∃ v L', o = .returned v ∧ (P v s₂.heap ∧ Fr n0 L') ∧ FrameEnd s o s₂ L' R.cells R.slots
/-- a method's contract: called with as' at heap h it returns what Q likes -/
abbrev Met (l : Launch) (Z : State) (n0 : Nat) (y : MethodName) (bytes : ByteArray) (mL : Nat) (rt : Option FieldType) (ws : List Cond) (rm : Room) (as' : Array Value) (h : Heap) (Q : Option Value → Heap → Prop) : Prop :=
  MetFree l y (head1 (Cond.code y bytes mL rt :: ws) rm) (fun a U => a = as' ∧ Z.Warmed39 U.vm ∧ U.heap = h) (fun _ _ _ _ _ => True) (fun _ U o U' => ∃ v L, o = .returned v ∧ (Q v U'.heap ∧ Fr n0 L) ∧ FrameEnd U o U' L rm.cells rm.slots)
theorem old_now {p : Program} {l : Launch} {e : Env} {R : Room} {s : State} {m : MethodId} {args : Array Value} {below : List Frame} {meth : Method} {c : Code} {T : State} {locs : List Loc} {k n : Nat} {Z : State} {n0 : Nat} (O : Old Z n0 s.heap) (X : Stand p l e R s m args below meth c T locs k n) (N : Fr n0 locs) : Old Z n0 T.heap := by
  refine ⟨O.1, Nat.le_trans O.2.1 X.same.2.1, fun a c hc => ?_⟩
  have h1 := O.2.2 a c hc
  have ha : a < n0 := O.1 ▸ (Array.getElem?_eq_some_iff.mp hc).1
  obtain ⟨c', q1, q2, q3, q4⟩ := X.same.2.2.2.2.2 a c h1
  have q5 : c'.slots = c.slots := Array.ext_getElem? fun i => q4 i fun hm => Nat.lt_irrefl _ (Nat.lt_of_lt_of_le ha (N _ hm))
  rw [q5] at q2
  have q6 : T.heap[a]? = some c' := q1
  rw [q6, q2]
theorem old_ge {p : Program} {l : Launch} {e : Env} {R : Room} {s : State} {m : MethodId} {args : Array Value} {below : List Frame} {meth : Method} {c : Code} {T : State} {locs : List Loc} {k n : Nat} {Z : State} {n0 : Nat} (O : Old Z n0 s.heap) (X : Stand p l e R s m args below meth c T locs k n) (N : Fr n0 locs) : n0 ≤ T.heap.size := by
  have q := old_now O X N
  rw [← q.1]; exact q.2.1
theorem met_of {l : Launch} {Z : State} {n0 : Nat} {y : MethodName} {bytes : ByteArray} {mL : Nat} {rt : Option FieldType} {ws : List Cond} {rm : Room} {as' : Array Value} {h : Heap} {Q : Option Value → Heap → Prop} (Z0 : Old Z n0 h) (pn : plainFor y = true) {Ls : Array Slot} (ef : ∀ m, entryFrame m as' mL = mkF m 0 Ls [])
    (H : ∀ K, Ok K Z n0 y.cls bytes mL rt y.name → W K l rm n0 Q h 0 0 0 Ls []) : Met l Z n0 y bytes mL rt ws rm as' h Q := by
  refine MetFree.of_bodySF pn hisR ?_
  intro p e s m args below meth c s₁ Bd hml0 hP hK
  obtain ⟨rfl, hZ, hh⟩ := hP
  have hnm := (name_of_methodNamed Bd.named Bd.method).1
  have X0 : Stand p l e rm s m args below meth c s₁ [] 0 0 := Stand.of_body Bd
  have e0 : s₁.heap = h := by rw [← hh, Bd.state]; rfl
  obtain ⟨s₂, o, st, r⟩ := H (p, e, s, m, args, below, meth, c) ⟨Bd.exec, hZ, findClass_of_methodNamed Bd.named, Bd.bytes, hml0, Bd.returns, hnm, Bd.notSynchronized, by show Old Z n0 s.heap; rw [hh]; exact Z0⟩ s₁ [] X0 e0 (Fr.nil n0)
  exact ⟨s₂, o, castTop (ef m) st, r⟩
section S
variable {K : Cx} {l : Launch} {R : Room} {Z : State} {n0 : Nat} {P : Option Value → Heap → Prop} {h : Heap} {k n pc : Nat} {L : Array Slot} {S : List Value} {own : String} {code : ByteArray} {maxL : Nat} {ret : Option FieldType} {nm : String} {a0 : Array Value}
theorem W.mono {P' : Option Value → Heap → Prop} (q : ∀ v h, P v h → P' v h) (w : W K l R n0 P h k n pc L S) : W K l R n0 P' h k n pc L S := by
  obtain ⟨p, e, s, m, args, below, meth, c⟩ := K
  intro T locs X eT N
  obtain ⟨s₂, o, st, r1, r2, v, L', r3, ⟨r4, r5⟩, r6⟩ := w T locs X eT N
  exact ⟨s₂, o, st, r1, r2, v, L', r3, ⟨q _ _ r4, r5⟩, r6⟩
theorem W.more {k' n' : Nat} (w : W K l R n0 P h k' n' pc L S) (hk : k ≤ k') (hn : n ≤ n') : W K l R n0 P h k n pc L S := by
  obtain ⟨p, e, s, m, args, below, meth, c⟩ := K
  intro T locs X eT N
  exact w T locs (X.more hk hn) eT N
theorem w_iloadN (ok : Ok K Z n0 own code maxL ret nm) {i : Fin 4} {v : Int32} (hd : decode code pc = .ok (.iload_n i, 1)) (hl : L[i.val]? = some (.val (.int v))) (w : W K l R n0 P h k n (pc + 1) L (.int v :: S)) : W K l R n0 P h k n pc L (S) := by
  obtain ⟨p, e, s, m, args, below, meth, c⟩ := K
  obtain ⟨hx, hZ, hown, hby, -⟩ := ok
  intro T locs X eT N
  obtain ⟨s₂, o, st, r⟩ := w T locs X eT N
  exact ⟨s₂, o, XS.iloadN X.here hx rfl (hb hby hd) hl st, r⟩
theorem w_iload (ok : Ok K Z n0 own code maxL ret nm) {i : Nat} {v : Int32} (hd : decode code pc = .ok (.iload i, 2)) (hl : L[i]? = some (.val (.int v))) (w : W K l R n0 P h k n (pc + 2) L (.int v :: S)) : W K l R n0 P h k n pc L (S) := by
  obtain ⟨p, e, s, m, args, below, meth, c⟩ := K
  obtain ⟨hx, hZ, hown, hby, -⟩ := ok
  intro T locs X eT N
  obtain ⟨s₂, o, st, r⟩ := w T locs X eT N
  exact ⟨s₂, o, XS.iload X.here hx rfl (hb hby hd) hl st, r⟩
theorem w_istoreN (ok : Ok K Z n0 own code maxL ret nm) {i : Fin 4} {v : Int32} {L' : Array Slot} (hd : decode code pc = .ok (.istore_n i, 1)) (hl : storeLocals L i.val (.int v) = some L') (w : W K l R n0 P h k n (pc + 1) L' (S)) : W K l R n0 P h k n pc L (.int v :: S) := by
  obtain ⟨p, e, s, m, args, below, meth, c⟩ := K
  obtain ⟨hx, hZ, hown, hby, -⟩ := ok
  intro T locs X eT N
  obtain ⟨s₂, o, st, r⟩ := w T locs X eT N
  exact ⟨s₂, o, XS.istoreN X.here hx rfl (hb hby hd) rfl hl st, r⟩
theorem w_istore (ok : Ok K Z n0 own code maxL ret nm) {i : Nat} {v : Int32} {L' : Array Slot} (hd : decode code pc = .ok (.istore i, 2)) (hl : storeLocals L i (.int v) = some L') (w : W K l R n0 P h k n (pc + 2) L' (S)) : W K l R n0 P h k n pc L (.int v :: S) := by
  obtain ⟨p, e, s, m, args, below, meth, c⟩ := K
  obtain ⟨hx, hZ, hown, hby, -⟩ := ok
  intro T locs X eT N
  obtain ⟨s₂, o, st, r⟩ := w T locs X eT N
  exact ⟨s₂, o, XS.istore X.here hx rfl (hb hby hd) rfl hl st, r⟩
theorem w_lloadN (ok : Ok K Z n0 own code maxL ret nm) {i : Fin 4} {v : Int64} (hd : decode code pc = .ok (.lload_n i, 1)) (hl : L[i.val]? = some (.val (.long v))) (w : W K l R n0 P h k n (pc + 1) L (.long v :: S)) : W K l R n0 P h k n pc L (S) := by
  obtain ⟨p, e, s, m, args, below, meth, c⟩ := K
  obtain ⟨hx, hZ, hown, hby, -⟩ := ok
  intro T locs X eT N
  obtain ⟨s₂, o, st, r⟩ := w T locs X eT N
  exact ⟨s₂, o, XS.lloadN X.here hx rfl (hb hby hd) hl st, r⟩
theorem w_lload (ok : Ok K Z n0 own code maxL ret nm) {i : Nat} {v : Int64} (hd : decode code pc = .ok (.lload i, 2)) (hl : L[i]? = some (.val (.long v))) (w : W K l R n0 P h k n (pc + 2) L (.long v :: S)) : W K l R n0 P h k n pc L (S) := by
  obtain ⟨p, e, s, m, args, below, meth, c⟩ := K
  obtain ⟨hx, hZ, hown, hby, -⟩ := ok
  intro T locs X eT N
  obtain ⟨s₂, o, st, r⟩ := w T locs X eT N
  exact ⟨s₂, o, XS.lload X.here hx rfl (hb hby hd) hl st, r⟩
theorem w_lstoreN (ok : Ok K Z n0 own code maxL ret nm) {i : Fin 4} {v : Int64} {L' : Array Slot} (hd : decode code pc = .ok (.lstore_n i, 1)) (hl : storeLocals L i.val (.long v) = some L') (w : W K l R n0 P h k n (pc + 1) L' (S)) : W K l R n0 P h k n pc L (.long v :: S) := by
  obtain ⟨p, e, s, m, args, below, meth, c⟩ := K
  obtain ⟨hx, hZ, hown, hby, -⟩ := ok
  intro T locs X eT N
  obtain ⟨s₂, o, st, r⟩ := w T locs X eT N
  exact ⟨s₂, o, XS.lstoreN X.here hx rfl (hb hby hd) rfl hl st, r⟩
theorem w_lstore (ok : Ok K Z n0 own code maxL ret nm) {i : Nat} {v : Int64} {L' : Array Slot} (hd : decode code pc = .ok (.lstore i, 2)) (hl : storeLocals L i (.long v) = some L') (w : W K l R n0 P h k n (pc + 2) L' (S)) : W K l R n0 P h k n pc L (.long v :: S) := by
  obtain ⟨p, e, s, m, args, below, meth, c⟩ := K
  obtain ⟨hx, hZ, hown, hby, -⟩ := ok
  intro T locs X eT N
  obtain ⟨s₂, o, st, r⟩ := w T locs X eT N
  exact ⟨s₂, o, XS.lstore X.here hx rfl (hb hby hd) rfl hl st, r⟩
theorem w_aloadN (ok : Ok K Z n0 own code maxL ret nm) {i : Fin 4} {v : Value} (hd : decode code pc = .ok (.aload_n i, 1)) (hl : L[i.val]? = some (.val v)) (hv : v.isRef = true) (w : W K l R n0 P h k n (pc + 1) L (v :: S)) : W K l R n0 P h k n pc L (S) := by
  obtain ⟨p, e, s, m, args, below, meth, c⟩ := K
  obtain ⟨hx, hZ, hown, hby, -⟩ := ok
  intro T locs X eT N
  obtain ⟨s₂, o, st, r⟩ := w T locs X eT N
  exact ⟨s₂, o, XS.aloadN X.here hx rfl (hb hby hd) hl hv st, r⟩
theorem w_aload (ok : Ok K Z n0 own code maxL ret nm) {i : Nat} {v : Value} (hd : decode code pc = .ok (.aload i, 2)) (hl : L[i]? = some (.val v)) (hv : v.isRef = true) (w : W K l R n0 P h k n (pc + 2) L (v :: S)) : W K l R n0 P h k n pc L (S) := by
  obtain ⟨p, e, s, m, args, below, meth, c⟩ := K
  obtain ⟨hx, hZ, hown, hby, -⟩ := ok
  intro T locs X eT N
  obtain ⟨s₂, o, st, r⟩ := w T locs X eT N
  exact ⟨s₂, o, XS.aload X.here hx rfl (hb hby hd) hl hv st, r⟩
theorem w_astoreN (ok : Ok K Z n0 own code maxL ret nm) {i : Fin 4} {v : Value} {L' : Array Slot} (hd : decode code pc = .ok (.astore_n i, 1)) (hv : v.isRef = true) (hl : storeLocals L i.val v = some L') (w : W K l R n0 P h k n (pc + 1) L' (S)) : W K l R n0 P h k n pc L (v :: S) := by
  obtain ⟨p, e, s, m, args, below, meth, c⟩ := K
  obtain ⟨hx, hZ, hown, hby, -⟩ := ok
  intro T locs X eT N
  obtain ⟨s₂, o, st, r⟩ := w T locs X eT N
  exact ⟨s₂, o, XS.astoreN X.here hx rfl (hb hby hd) rfl hv hl st, r⟩
theorem w_astore (ok : Ok K Z n0 own code maxL ret nm) {i : Nat} {v : Value} {L' : Array Slot} (hd : decode code pc = .ok (.astore i, 2)) (hv : v.isRef = true) (hl : storeLocals L i v = some L') (w : W K l R n0 P h k n (pc + 2) L' (S)) : W K l R n0 P h k n pc L (v :: S) := by
  obtain ⟨p, e, s, m, args, below, meth, c⟩ := K
  obtain ⟨hx, hZ, hown, hby, -⟩ := ok
  intro T locs X eT N
  obtain ⟨s₂, o, st, r⟩ := w T locs X eT N
  exact ⟨s₂, o, XS.astore X.here hx rfl (hb hby hd) rfl hv hl st, r⟩
theorem w_iconst (ok : Ok K Z n0 own code maxL ret nm) {i : Int} {v : Int32} (hd : decode code pc = .ok (.iconst i, 1)) (hv : Int32.ofInt i = v) (w : W K l R n0 P h k n (pc + 1) L (.int v :: S)) : W K l R n0 P h k n pc L (S) := by
  obtain ⟨p, e, s, m, args, below, meth, c⟩ := K
  obtain ⟨hx, hZ, hown, hby, -⟩ := ok
  intro T locs X eT N
  obtain ⟨s₂, o, st, r⟩ := w T locs X eT N
  exact ⟨s₂, o, XS.iconst X.here hx rfl (hb hby hd) (hv ▸ st), r⟩
theorem w_bipush (ok : Ok K Z n0 own code maxL ret nm) {i : Int} {v : Int32} (hd : decode code pc = .ok (.bipush i, 2)) (hv : (Int8.ofInt i).toInt32 = v) (w : W K l R n0 P h k n (pc + 2) L (.int v :: S)) : W K l R n0 P h k n pc L (S) := by
  obtain ⟨p, e, s, m, args, below, meth, c⟩ := K
  obtain ⟨hx, hZ, hown, hby, -⟩ := ok
  intro T locs X eT N
  obtain ⟨s₂, o, st, r⟩ := w T locs X eT N
  exact ⟨s₂, o, XS.bipush X.here hx rfl (hb hby hd) (hv ▸ st), r⟩
theorem w_sipush (ok : Ok K Z n0 own code maxL ret nm) {i : Int} {v : Int32} (hd : decode code pc = .ok (.sipush i, 3)) (hv : (Int16.ofInt i).toInt32 = v) (w : W K l R n0 P h k n (pc + 3) L (.int v :: S)) : W K l R n0 P h k n pc L (S) := by
  obtain ⟨p, e, s, m, args, below, meth, c⟩ := K
  obtain ⟨hx, hZ, hown, hby, -⟩ := ok
  intro T locs X eT N
  obtain ⟨s₂, o, st, r⟩ := w T locs X eT N
  exact ⟨s₂, o, XS.sipush X.here hx rfl (hb hby hd) (hv ▸ st), r⟩
theorem w_lconst (ok : Ok K Z n0 own code maxL ret nm) {i : Fin 2} {v : Int64} (hd : decode code pc = .ok (.lconst i, 1)) (hv : Int64.ofNat i = v) (w : W K l R n0 P h k n (pc + 1) L (.long v :: S)) : W K l R n0 P h k n pc L (S) := by
  obtain ⟨p, e, s, m, args, below, meth, c⟩ := K
  obtain ⟨hx, hZ, hown, hby, -⟩ := ok
  intro T locs X eT N
  obtain ⟨s₂, o, st, r⟩ := w T locs X eT N
  exact ⟨s₂, o, XS.lconst X.here hx rfl (hb hby hd) (hv ▸ st), r⟩
theorem w_aconstNull (ok : Ok K Z n0 own code maxL ret nm)  (hd : decode code pc = .ok (.aconst_null, 1)) (w : W K l R n0 P h k n (pc + 1) L (.null :: S)) : W K l R n0 P h k n pc L (S) := by
  obtain ⟨p, e, s, m, args, below, meth, c⟩ := K
  obtain ⟨hx, hZ, hown, hby, -⟩ := ok
  intro T locs X eT N
  obtain ⟨s₂, o, st, r⟩ := w T locs X eT N
  exact ⟨s₂, o, XS.aconstNull X.here hx rfl (hb hby hd)  st, r⟩
theorem w_dup (ok : Ok K Z n0 own code maxL ret nm) {v : Value} (hd : decode code pc = .ok (.dup, 1)) (hv : v.category = 1) (w : W K l R n0 P h k n (pc + 1) L (v :: v :: S)) : W K l R n0 P h k n pc L (v :: S) := by
  obtain ⟨p, e, s, m, args, below, meth, c⟩ := K
  obtain ⟨hx, hZ, hown, hby, -⟩ := ok
  intro T locs X eT N
  obtain ⟨s₂, o, st, r⟩ := w T locs X eT N
  exact ⟨s₂, o, XS.dup X.here hx rfl (hb hby hd) rfl hv st, r⟩
theorem w_dupX1 (ok : Ok K Z n0 own code maxL ret nm) {v u : Value} (hd : decode code pc = .ok (.dup_x1, 1)) (hv : v.category = 1) (hu : u.category = 1) (w : W K l R n0 P h k n (pc + 1) L (v :: u :: v :: S)) : W K l R n0 P h k n pc L (v :: u :: S) := by
  obtain ⟨p, e, s, m, args, below, meth, c⟩ := K
  obtain ⟨hx, hZ, hown, hby, -⟩ := ok
  intro T locs X eT N
  obtain ⟨s₂, o, st, r⟩ := w T locs X eT N
  exact ⟨s₂, o, XS.dupX1 X.here hx rfl (hb hby hd) rfl hv hu st, r⟩
theorem w_pop (ok : Ok K Z n0 own code maxL ret nm) {v : Value} (hd : decode code pc = .ok (.pop, 1)) (hv : v.category = 1) (w : W K l R n0 P h k n (pc + 1) L (S)) : W K l R n0 P h k n pc L (v :: S) := by
  obtain ⟨p, e, s, m, args, below, meth, c⟩ := K
  obtain ⟨hx, hZ, hown, hby, -⟩ := ok
  intro T locs X eT N
  obtain ⟨s₂, o, st, r⟩ := w T locs X eT N
  exact ⟨s₂, o, XS.pop X.here hx rfl (hb hby hd) rfl hv st, r⟩
theorem w_dup2 (ok : Ok K Z n0 own code maxL ret nm) {v u : Value} (hd : decode code pc = .ok (.dup2, 1)) (hv : v.category = 1) (hu : u.category = 1) (w : W K l R n0 P h k n (pc + 1) L (v :: u :: v :: u :: S)) : W K l R n0 P h k n pc L (v :: u :: S) := by
  obtain ⟨p, e, s, m, args, below, meth, c⟩ := K
  obtain ⟨hx, hZ, hown, hby, -⟩ := ok
  intro T locs X eT N
  obtain ⟨s₂, o, st, r⟩ := w T locs X eT N
  exact ⟨s₂, o, XT.dup2 X.here hx rfl (hb hby hd) rfl hv hu st, r⟩
theorem w_iinc (ok : Ok K Z n0 own code maxL ret nm) {i : Nat} {c : Int} {v u : Int32} {L' : Array Slot} (hd : decode code pc = .ok (.iinc i c, 3)) (hu : Int32.ofInt c = u) (hl : L[i]? = some (.val (.int v))) (hl' : storeLocals L i (.int (v + u)) = some L') (w : W K l R n0 P h k n (pc + 3) L' (S)) : W K l R n0 P h k n pc L (S) := by
  obtain ⟨p, e, s, m, args, below, meth, c⟩ := K
  obtain ⟨hx, hZ, hown, hby, -⟩ := ok
  intro T locs X eT N
  obtain ⟨s₂, o, st, r⟩ := w T locs X eT N
  exact ⟨s₂, o, XS.iinc X.here hx rfl (hb hby hd) hl (by rw [hu]; exact hl') st, r⟩
theorem w_iadd (ok : Ok K Z n0 own code maxL ret nm) {x y : Int32} (hd : decode code pc = .ok (.iadd, 1)) (w : W K l R n0 P h k n (pc + 1) L (.int (x + y) :: S)) : W K l R n0 P h k n pc L (.int y :: .int x :: S) := by
  obtain ⟨p, e, s, m, args, below, meth, c⟩ := K
  obtain ⟨hx, hZ, hown, hby, -⟩ := ok
  intro T locs X eT N
  obtain ⟨s₂, o, st, r⟩ := w T locs X eT N
  exact ⟨s₂, o, XS.iadd X.here hx rfl (hb hby hd) rfl st, r⟩
theorem w_isub (ok : Ok K Z n0 own code maxL ret nm) {x y : Int32} (hd : decode code pc = .ok (.isub, 1)) (w : W K l R n0 P h k n (pc + 1) L (.int (x - y) :: S)) : W K l R n0 P h k n pc L (.int y :: .int x :: S) := by
  obtain ⟨p, e, s, m, args, below, meth, c⟩ := K
  obtain ⟨hx, hZ, hown, hby, -⟩ := ok
  intro T locs X eT N
  obtain ⟨s₂, o, st, r⟩ := w T locs X eT N
  exact ⟨s₂, o, XS.isub X.here hx rfl (hb hby hd) rfl st, r⟩
theorem w_imul (ok : Ok K Z n0 own code maxL ret nm) {x y : Int32} (hd : decode code pc = .ok (.imul, 1)) (w : W K l R n0 P h k n (pc + 1) L (.int (x * y) :: S)) : W K l R n0 P h k n pc L (.int y :: .int x :: S) := by
  obtain ⟨p, e, s, m, args, below, meth, c⟩ := K
  obtain ⟨hx, hZ, hown, hby, -⟩ := ok
  intro T locs X eT N
  obtain ⟨s₂, o, st, r⟩ := w T locs X eT N
  exact ⟨s₂, o, XS.imul X.here hx rfl (hb hby hd) rfl st, r⟩
theorem w_iand (ok : Ok K Z n0 own code maxL ret nm) {x y : Int32} (hd : decode code pc = .ok (.iand, 1)) (w : W K l R n0 P h k n (pc + 1) L (.int (x &&& y) :: S)) : W K l R n0 P h k n pc L (.int y :: .int x :: S) := by
  obtain ⟨p, e, s, m, args, below, meth, c⟩ := K
  obtain ⟨hx, hZ, hown, hby, -⟩ := ok
  intro T locs X eT N
  obtain ⟨s₂, o, st, r⟩ := w T locs X eT N
  exact ⟨s₂, o, XS.iand X.here hx rfl (hb hby hd) rfl st, r⟩
theorem w_ior (ok : Ok K Z n0 own code maxL ret nm) {x y : Int32} (hd : decode code pc = .ok (.ior, 1)) (w : W K l R n0 P h k n (pc + 1) L (.int (x ||| y) :: S)) : W K l R n0 P h k n pc L (.int y :: .int x :: S) := by
  obtain ⟨p, e, s, m, args, below, meth, c⟩ := K
  obtain ⟨hx, hZ, hown, hby, -⟩ := ok
  intro T locs X eT N
  obtain ⟨s₂, o, st, r⟩ := w T locs X eT N
  exact ⟨s₂, o, XS.ior X.here hx rfl (hb hby hd) rfl st, r⟩
theorem w_ixor (ok : Ok K Z n0 own code maxL ret nm) {x y : Int32} (hd : decode code pc = .ok (.ixor, 1)) (w : W K l R n0 P h k n (pc + 1) L (.int (x ^^^ y) :: S)) : W K l R n0 P h k n pc L (.int y :: .int x :: S) := by
  obtain ⟨p, e, s, m, args, below, meth, c⟩ := K
  obtain ⟨hx, hZ, hown, hby, -⟩ := ok
  intro T locs X eT N
  obtain ⟨s₂, o, st, r⟩ := w T locs X eT N
  exact ⟨s₂, o, XS.ixor X.here hx rfl (hb hby hd) rfl st, r⟩
theorem w_ishl (ok : Ok K Z n0 own code maxL ret nm) {x y : Int32} (hd : decode code pc = .ok (.ishl, 1)) (w : W K l R n0 P h k n (pc + 1) L (.int (x <<< (y &&& 31)) :: S)) : W K l R n0 P h k n pc L (.int y :: .int x :: S) := by
  obtain ⟨p, e, s, m, args, below, meth, c⟩ := K
  obtain ⟨hx, hZ, hown, hby, -⟩ := ok
  intro T locs X eT N
  obtain ⟨s₂, o, st, r⟩ := w T locs X eT N
  exact ⟨s₂, o, XS.ishl X.here hx rfl (hb hby hd) rfl st, r⟩
theorem w_ishr (ok : Ok K Z n0 own code maxL ret nm) {x y : Int32} (hd : decode code pc = .ok (.ishr, 1)) (w : W K l R n0 P h k n (pc + 1) L (.int (x >>> (y &&& 31)) :: S)) : W K l R n0 P h k n pc L (.int y :: .int x :: S) := by
  obtain ⟨p, e, s, m, args, below, meth, c⟩ := K
  obtain ⟨hx, hZ, hown, hby, -⟩ := ok
  intro T locs X eT N
  obtain ⟨s₂, o, st, r⟩ := w T locs X eT N
  exact ⟨s₂, o, XS.ishr X.here hx rfl (hb hby hd) rfl st, r⟩
theorem w_iushr (ok : Ok K Z n0 own code maxL ret nm) {x y : Int32} (hd : decode code pc = .ok (.iushr, 1)) (w : W K l R n0 P h k n (pc + 1) L (.int (XT.ushr x y) :: S)) : W K l R n0 P h k n pc L (.int y :: .int x :: S) := by
  obtain ⟨p, e, s, m, args, below, meth, c⟩ := K
  obtain ⟨hx, hZ, hown, hby, -⟩ := ok
  intro T locs X eT N
  obtain ⟨s₂, o, st, r⟩ := w T locs X eT N
  exact ⟨s₂, o, XS.iushr X.here hx rfl (hb hby hd) rfl st, r⟩
theorem w_ladd (ok : Ok K Z n0 own code maxL ret nm) {x y : Int64} (hd : decode code pc = .ok (.ladd, 1)) (w : W K l R n0 P h k n (pc + 1) L (.long (x + y) :: S)) : W K l R n0 P h k n pc L (.long y :: .long x :: S) := by
  obtain ⟨p, e, s, m, args, below, meth, c⟩ := K
  obtain ⟨hx, hZ, hown, hby, -⟩ := ok
  intro T locs X eT N
  obtain ⟨s₂, o, st, r⟩ := w T locs X eT N
  exact ⟨s₂, o, XS.ladd X.here hx rfl (hb hby hd) rfl st, r⟩
theorem w_lsub (ok : Ok K Z n0 own code maxL ret nm) {x y : Int64} (hd : decode code pc = .ok (.lsub, 1)) (w : W K l R n0 P h k n (pc + 1) L (.long (x - y) :: S)) : W K l R n0 P h k n pc L (.long y :: .long x :: S) := by
  obtain ⟨p, e, s, m, args, below, meth, c⟩ := K
  obtain ⟨hx, hZ, hown, hby, -⟩ := ok
  intro T locs X eT N
  obtain ⟨s₂, o, st, r⟩ := w T locs X eT N
  exact ⟨s₂, o, XS.lsub X.here hx rfl (hb hby hd) rfl st, r⟩
theorem w_lmul (ok : Ok K Z n0 own code maxL ret nm) {x y : Int64} (hd : decode code pc = .ok (.lmul, 1)) (w : W K l R n0 P h k n (pc + 1) L (.long (x * y) :: S)) : W K l R n0 P h k n pc L (.long y :: .long x :: S) := by
  obtain ⟨p, e, s, m, args, below, meth, c⟩ := K
  obtain ⟨hx, hZ, hown, hby, -⟩ := ok
  intro T locs X eT N
  obtain ⟨s₂, o, st, r⟩ := w T locs X eT N
  exact ⟨s₂, o, XS.lmul X.here hx rfl (hb hby hd) rfl st, r⟩
theorem w_land (ok : Ok K Z n0 own code maxL ret nm) {x y : Int64} (hd : decode code pc = .ok (.land, 1)) (w : W K l R n0 P h k n (pc + 1) L (.long (x &&& y) :: S)) : W K l R n0 P h k n pc L (.long y :: .long x :: S) := by
  obtain ⟨p, e, s, m, args, below, meth, c⟩ := K
  obtain ⟨hx, hZ, hown, hby, -⟩ := ok
  intro T locs X eT N
  obtain ⟨s₂, o, st, r⟩ := w T locs X eT N
  exact ⟨s₂, o, XS.land X.here hx rfl (hb hby hd) rfl st, r⟩
theorem w_lor (ok : Ok K Z n0 own code maxL ret nm) {x y : Int64} (hd : decode code pc = .ok (.lor, 1)) (w : W K l R n0 P h k n (pc + 1) L (.long (x ||| y) :: S)) : W K l R n0 P h k n pc L (.long y :: .long x :: S) := by
  obtain ⟨p, e, s, m, args, below, meth, c⟩ := K
  obtain ⟨hx, hZ, hown, hby, -⟩ := ok
  intro T locs X eT N
  obtain ⟨s₂, o, st, r⟩ := w T locs X eT N
  exact ⟨s₂, o, XS.lor X.here hx rfl (hb hby hd) rfl st, r⟩
theorem w_lxor (ok : Ok K Z n0 own code maxL ret nm) {x y : Int64} (hd : decode code pc = .ok (.lxor, 1)) (w : W K l R n0 P h k n (pc + 1) L (.long (x ^^^ y) :: S)) : W K l R n0 P h k n pc L (.long y :: .long x :: S) := by
  obtain ⟨p, e, s, m, args, below, meth, c⟩ := K
  obtain ⟨hx, hZ, hown, hby, -⟩ := ok
  intro T locs X eT N
  obtain ⟨s₂, o, st, r⟩ := w T locs X eT N
  exact ⟨s₂, o, XS.lxor X.here hx rfl (hb hby hd) rfl st, r⟩
theorem w_lshl (ok : Ok K Z n0 own code maxL ret nm) {x : Int64} {y : Int32} (hd : decode code pc = .ok (.lshl, 1)) (w : W K l R n0 P h k n (pc + 1) L (.long (x <<< (y &&& 0x3f).toInt64) :: S)) : W K l R n0 P h k n pc L (.int y :: .long x :: S) := by
  obtain ⟨p, e, s, m, args, below, meth, c⟩ := K
  obtain ⟨hx, hZ, hown, hby, -⟩ := ok
  intro T locs X eT N
  obtain ⟨s₂, o, st, r⟩ := w T locs X eT N
  exact ⟨s₂, o, XS.lshl X.here hx rfl (hb hby hd) rfl st, r⟩
theorem w_lshr (ok : Ok K Z n0 own code maxL ret nm) {x : Int64} {y : Int32} (hd : decode code pc = .ok (.lshr, 1)) (w : W K l R n0 P h k n (pc + 1) L (.long (x >>> (y &&& 0x3f).toInt64) :: S)) : W K l R n0 P h k n pc L (.int y :: .long x :: S) := by
  obtain ⟨p, e, s, m, args, below, meth, c⟩ := K
  obtain ⟨hx, hZ, hown, hby, -⟩ := ok
  intro T locs X eT N
  obtain ⟨s₂, o, st, r⟩ := w T locs X eT N
  exact ⟨s₂, o, XS.lshr X.here hx rfl (hb hby hd) rfl st, r⟩
theorem w_lushr (ok : Ok K Z n0 own code maxL ret nm) {x : Int64} {y : Int32} (hd : decode code pc = .ok (.lushr, 1)) (w : W K l R n0 P h k n (pc + 1) L (.long ((x.toUInt64 >>> (y &&& 0x3f).toInt64.toUInt64).toInt64) :: S)) : W K l R n0 P h k n pc L (.int y :: .long x :: S) := by
  obtain ⟨p, e, s, m, args, below, meth, c⟩ := K
  obtain ⟨hx, hZ, hown, hby, -⟩ := ok
  intro T locs X eT N
  obtain ⟨s₂, o, st, r⟩ := w T locs X eT N
  exact ⟨s₂, o, XS.lushr X.here hx rfl (hb hby hd) rfl st, r⟩
theorem w_i2l (ok : Ok K Z n0 own code maxL ret nm) {x : Int32} (hd : decode code pc = .ok (.i2l, 1)) (w : W K l R n0 P h k n (pc + 1) L (.long (x.toInt64) :: S)) : W K l R n0 P h k n pc L (.int x :: S) := by
  obtain ⟨p, e, s, m, args, below, meth, c⟩ := K
  obtain ⟨hx, hZ, hown, hby, -⟩ := ok
  intro T locs X eT N
  obtain ⟨s₂, o, st, r⟩ := w T locs X eT N
  exact ⟨s₂, o, XS.i2l X.here hx rfl (hb hby hd) rfl st, r⟩
theorem w_l2i (ok : Ok K Z n0 own code maxL ret nm) {x : Int64} (hd : decode code pc = .ok (.l2i, 1)) (w : W K l R n0 P h k n (pc + 1) L (.int (x.toInt32) :: S)) : W K l R n0 P h k n pc L (.long x :: S) := by
  obtain ⟨p, e, s, m, args, below, meth, c⟩ := K
  obtain ⟨hx, hZ, hown, hby, -⟩ := ok
  intro T locs X eT N
  obtain ⟨s₂, o, st, r⟩ := w T locs X eT N
  exact ⟨s₂, o, XS.l2i X.here hx rfl (hb hby hd) rfl st, r⟩
theorem w_i2b (ok : Ok K Z n0 own code maxL ret nm) {x : Int32} (hd : decode code pc = .ok (.i2b, 1)) (w : W K l R n0 P h k n (pc + 1) L (.int (x.toInt8.toInt32) :: S)) : W K l R n0 P h k n pc L (.int x :: S) := by
  obtain ⟨p, e, s, m, args, below, meth, c⟩ := K
  obtain ⟨hx, hZ, hown, hby, -⟩ := ok
  intro T locs X eT N
  obtain ⟨s₂, o, st, r⟩ := w T locs X eT N
  exact ⟨s₂, o, XS.i2b X.here hx rfl (hb hby hd) rfl st, r⟩
theorem w_i2c (ok : Ok K Z n0 own code maxL ret nm) {x : Int32} (hd : decode code pc = .ok (.i2c, 1)) (w : W K l R n0 P h k n (pc + 1) L (.int (x.toUInt32.toUInt16.toUInt32.toInt32) :: S)) : W K l R n0 P h k n pc L (.int x :: S) := by
  obtain ⟨p, e, s, m, args, below, meth, c⟩ := K
  obtain ⟨hx, hZ, hown, hby, -⟩ := ok
  intro T locs X eT N
  obtain ⟨s₂, o, st, r⟩ := w T locs X eT N
  exact ⟨s₂, o, XS.i2c X.here hx rfl (hb hby hd) rfl st, r⟩
theorem w_ineg (ok : Ok K Z n0 own code maxL ret nm) {x : Int32} (hd : decode code pc = .ok (.ineg, 1)) (w : W K l R n0 P h k n (pc + 1) L (.int (-x) :: S)) : W K l R n0 P h k n pc L (.int x :: S) := by
  obtain ⟨p, e, s, m, args, below, meth, c⟩ := K
  obtain ⟨hx, hZ, hown, hby, -⟩ := ok
  intro T locs X eT N
  obtain ⟨s₂, o, st, r⟩ := w T locs X eT N
  exact ⟨s₂, o, XS.ineg X.here hx rfl (hb hby hd) rfl st, r⟩
theorem w_idiv (ok : Ok K Z n0 own code maxL ret nm) {x y : Int32} (hd : decode code pc = .ok (.idiv, 1)) (hy : y ≠ 0) (w : W K l R n0 P h k n (pc + 1) L (.int (x / y) :: S)) : W K l R n0 P h k n pc L (.int y :: .int x :: S) := by
  obtain ⟨p, e, s, m, args, below, meth, c⟩ := K
  obtain ⟨hx, hZ, hown, hby, -⟩ := ok
  intro T locs X eT N
  obtain ⟨s₂, o, st, r⟩ := w T locs X eT N
  exact ⟨s₂, o, XS.idiv X.here hx rfl (hb hby hd) rfl hy st, r⟩
theorem w_irem (ok : Ok K Z n0 own code maxL ret nm) {x y : Int32} (hd : decode code pc = .ok (.irem, 1)) (hy : y ≠ 0) (w : W K l R n0 P h k n (pc + 1) L (.int (x % y) :: S)) : W K l R n0 P h k n pc L (.int y :: .int x :: S) := by
  obtain ⟨p, e, s, m, args, below, meth, c⟩ := K
  obtain ⟨hx, hZ, hown, hby, -⟩ := ok
  intro T locs X eT N
  obtain ⟨s₂, o, st, r⟩ := w T locs X eT N
  exact ⟨s₂, o, iremM X hx rfl (hb hby hd) rfl hy st, r⟩
theorem w_ldiv (ok : Ok K Z n0 own code maxL ret nm) {x y : Int64} (hd : decode code pc = .ok (.ldiv, 1)) (hy : y ≠ 0) (w : W K l R n0 P h k n (pc + 1) L (.long (x / y) :: S)) : W K l R n0 P h k n pc L (.long y :: .long x :: S) := by
  obtain ⟨p, e, s, m, args, below, meth, c⟩ := K
  obtain ⟨hx, hZ, hown, hby, -⟩ := ok
  intro T locs X eT N
  obtain ⟨s₂, o, st, r⟩ := w T locs X eT N
  exact ⟨s₂, o, XS.ldiv X.here hx rfl (hb hby hd) rfl hy st, r⟩
theorem w_lrem (ok : Ok K Z n0 own code maxL ret nm) {x y : Int64} (hd : decode code pc = .ok (.lrem, 1)) (hy : y ≠ 0) (w : W K l R n0 P h k n (pc + 1) L (.long (x % y) :: S)) : W K l R n0 P h k n pc L (.long y :: .long x :: S) := by
  obtain ⟨p, e, s, m, args, below, meth, c⟩ := K
  obtain ⟨hx, hZ, hown, hby, -⟩ := ok
  intro T locs X eT N
  obtain ⟨s₂, o, st, r⟩ := w T locs X eT N
  exact ⟨s₂, o, XS.lrem X.here hx rfl (hb hby hd) rfl hy (by rw [lrem_mod]; exact st), r⟩
theorem w_goto (ok : Ok K Z n0 own code maxL ret nm) {o : Int} {pc' : Nat} (hd : decode code pc = .ok (.goto o, 3)) (hp : (pc : Int) + o = (pc' : Int)) (w : W K l R n0 P h k n (pc') L (S)) : W K l R n0 P h k n pc L (S) := by
  obtain ⟨p, e, s, m, args, below, meth, c⟩ := K
  obtain ⟨hx, hZ, hown, hby, -⟩ := ok
  intro T locs X eT N
  obtain ⟨s₂, o, st, r⟩ := w T locs X eT N
  exact ⟨s₂, o, XS.goto X.here hx rfl (pc0 := pc) (pc' := pc') rfl (hb hby hd) (by rw [hp]; exact Int.natCast_nonneg _) (by rw [hp]; rfl) st, r⟩
theorem w_ldcI (ok : Ok K Z n0 own code maxL ret nm) {i : Nat} {v : Int32} (hd : decode code pc = .ok (.ldc i, 2)) (w1 : (Cond.constant own i v).before a0 Z = true) (w : W K l R n0 P h k n (pc + 2) L (.int v :: S)) : W K l R n0 P h k n pc L (S) := by
  obtain ⟨p, e, s, m, args, below, meth, c⟩ := K
  obtain ⟨hx, hZ, hown, hby, -⟩ := ok
  intro T locs X eT N
  obtain ⟨s₂, o, st, r⟩ := w T locs X eT N
  exact ⟨s₂, o, X.ldcInt hx hown (mvT hZ w1) (g := mkF m pc L S) rfl (hb hby hd) _ st, r⟩
theorem w_ldc2J (ok : Ok K Z n0 own code maxL ret nm) {i : Nat} {v : Int64} (hd : decode code pc = .ok (.ldc2_w i, 3)) (w1 : (Cond.constantLong own i v).before a0 Z = true) (w : W K l R n0 P h k n (pc + 3) L (.long v :: S)) : W K l R n0 P h k n pc L (S) := by
  obtain ⟨p, e, s, m, args, below, meth, c⟩ := K
  obtain ⟨hx, hZ, hown, hby, -⟩ := ok
  intro T locs X eT N
  obtain ⟨s₂, o, st, r⟩ := w T locs X eT N
  exact ⟨s₂, o, X.ldc2Long hx hown (mvT hZ w1) (g := mkF m pc L S) rfl (hb hby hd) _ st, r⟩
theorem w_icmp_eq (ok : Ok K Z n0 own code maxL ret nm) {x y : Int32} {o : Int} {pc' : Nat} (hd : decode code pc = .ok (.if_icmp .eq o, 3)) (hp : (pc : Int) + o = (pc' : Int)) (wy : x = y → W K l R n0 P h k n pc' L S) (wn : ¬ x = y → W K l R n0 P h k n (pc + 3) L S) : W K l R n0 P h k n pc L (.int y :: .int x :: S) := by
  obtain ⟨p, e, s, m, args, below, meth, c⟩ := K
  obtain ⟨hx, hZ, hown, hby, -⟩ := ok
  intro T locs X eT N
  by_cases hc : x = y
  · obtain ⟨s₂, o, st, r⟩ := wy hc T locs X eT N
    exact ⟨s₂, o, XS.icmpYes X.here hx rfl (pc0 := pc) (pc' := pc') rfl (hb hby hd) rfl (teq hc).1 (by rw [hp]; exact Int.natCast_nonneg _) (by rw [hp]; rfl) st, r⟩
  · obtain ⟨s₂, o, st, r⟩ := wn hc T locs X eT N
    exact ⟨s₂, o, XS.icmpNo X.here hx rfl (hb hby hd) rfl (feq hc).1 st, r⟩
theorem w_if_eq (ok : Ok K Z n0 own code maxL ret nm) {x : Int32} {o : Int} {pc' : Nat} (hd : decode code pc = .ok (.ifCond .eq o, 3)) (hp : (pc : Int) + o = (pc' : Int)) (wy : x = 0 → W K l R n0 P h k n pc' L S) (wn : ¬ x = 0 → W K l R n0 P h k n (pc + 3) L S) : W K l R n0 P h k n pc L (.int x :: S) := by
  obtain ⟨p, e, s, m, args, below, meth, c⟩ := K
  obtain ⟨hx, hZ, hown, hby, -⟩ := ok
  intro T locs X eT N
  by_cases hc : x = 0
  · obtain ⟨s₂, o, st, r⟩ := wy hc T locs X eT N
    exact ⟨s₂, o, XS.ifYes X.here hx rfl (pc0 := pc) (pc' := pc') rfl (hb hby hd) rfl ((if0 _ _).trans (teq hc).1) (by rw [hp]; exact Int.natCast_nonneg _) (by rw [hp]; rfl) st, r⟩
  · obtain ⟨s₂, o, st, r⟩ := wn hc T locs X eT N
    exact ⟨s₂, o, XS.ifNo X.here hx rfl (hb hby hd) rfl ((if0 _ _).trans (feq hc).1) st, r⟩
theorem w_icmp_ne (ok : Ok K Z n0 own code maxL ret nm) {x y : Int32} {o : Int} {pc' : Nat} (hd : decode code pc = .ok (.if_icmp .ne o, 3)) (hp : (pc : Int) + o = (pc' : Int)) (wy : ¬ x = y → W K l R n0 P h k n pc' L S) (wn : x = y → W K l R n0 P h k n (pc + 3) L S) : W K l R n0 P h k n pc L (.int y :: .int x :: S) := by
  obtain ⟨p, e, s, m, args, below, meth, c⟩ := K
  obtain ⟨hx, hZ, hown, hby, -⟩ := ok
  intro T locs X eT N
  by_cases hc : x = y
  · obtain ⟨s₂, o, st, r⟩ := wn hc T locs X eT N
    exact ⟨s₂, o, XS.icmpNo X.here hx rfl (hb hby hd) rfl (teq hc).2 st, r⟩
  · obtain ⟨s₂, o, st, r⟩ := wy hc T locs X eT N
    exact ⟨s₂, o, XS.icmpYes X.here hx rfl (pc0 := pc) (pc' := pc') rfl (hb hby hd) rfl (feq hc).2 (by rw [hp]; exact Int.natCast_nonneg _) (by rw [hp]; rfl) st, r⟩
theorem w_if_ne (ok : Ok K Z n0 own code maxL ret nm) {x : Int32} {o : Int} {pc' : Nat} (hd : decode code pc = .ok (.ifCond .ne o, 3)) (hp : (pc : Int) + o = (pc' : Int)) (wy : ¬ x = 0 → W K l R n0 P h k n pc' L S) (wn : x = 0 → W K l R n0 P h k n (pc + 3) L S) : W K l R n0 P h k n pc L (.int x :: S) := by
  obtain ⟨p, e, s, m, args, below, meth, c⟩ := K
  obtain ⟨hx, hZ, hown, hby, -⟩ := ok
  intro T locs X eT N
  by_cases hc : x = 0
  · obtain ⟨s₂, o, st, r⟩ := wn hc T locs X eT N
    exact ⟨s₂, o, XS.ifNo X.here hx rfl (hb hby hd) rfl ((if0 _ _).trans (teq hc).2) st, r⟩
  · obtain ⟨s₂, o, st, r⟩ := wy hc T locs X eT N
    exact ⟨s₂, o, XS.ifYes X.here hx rfl (pc0 := pc) (pc' := pc') rfl (hb hby hd) rfl ((if0 _ _).trans (feq hc).2) (by rw [hp]; exact Int.natCast_nonneg _) (by rw [hp]; rfl) st, r⟩
theorem w_icmp_lt (ok : Ok K Z n0 own code maxL ret nm) {x y : Int32} {o : Int} {pc' : Nat} (hd : decode code pc = .ok (.if_icmp .lt o, 3)) (hp : (pc : Int) + o = (pc' : Int)) (wy : x < y → W K l R n0 P h k n pc' L S) (wn : ¬ x < y → W K l R n0 P h k n (pc + 3) L S) : W K l R n0 P h k n pc L (.int y :: .int x :: S) := by
  obtain ⟨p, e, s, m, args, below, meth, c⟩ := K
  obtain ⟨hx, hZ, hown, hby, -⟩ := ok
  intro T locs X eT N
  by_cases hc : x < y
  · obtain ⟨s₂, o, st, r⟩ := wy hc T locs X eT N
    exact ⟨s₂, o, XS.icmpYes X.here hx rfl (pc0 := pc) (pc' := pc') rfl (hb hby hd) rfl (tlt hc).1 (by rw [hp]; exact Int.natCast_nonneg _) (by rw [hp]; rfl) st, r⟩
  · obtain ⟨s₂, o, st, r⟩ := wn hc T locs X eT N
    exact ⟨s₂, o, XS.icmpNo X.here hx rfl (hb hby hd) rfl (flt hc).1 st, r⟩
theorem w_if_lt (ok : Ok K Z n0 own code maxL ret nm) {x : Int32} {o : Int} {pc' : Nat} (hd : decode code pc = .ok (.ifCond .lt o, 3)) (hp : (pc : Int) + o = (pc' : Int)) (wy : x < 0 → W K l R n0 P h k n pc' L S) (wn : ¬ x < 0 → W K l R n0 P h k n (pc + 3) L S) : W K l R n0 P h k n pc L (.int x :: S) := by
  obtain ⟨p, e, s, m, args, below, meth, c⟩ := K
  obtain ⟨hx, hZ, hown, hby, -⟩ := ok
  intro T locs X eT N
  by_cases hc : x < 0
  · obtain ⟨s₂, o, st, r⟩ := wy hc T locs X eT N
    exact ⟨s₂, o, XS.ifYes X.here hx rfl (pc0 := pc) (pc' := pc') rfl (hb hby hd) rfl ((if0 _ _).trans (tlt hc).1) (by rw [hp]; exact Int.natCast_nonneg _) (by rw [hp]; rfl) st, r⟩
  · obtain ⟨s₂, o, st, r⟩ := wn hc T locs X eT N
    exact ⟨s₂, o, XS.ifNo X.here hx rfl (hb hby hd) rfl ((if0 _ _).trans (flt hc).1) st, r⟩
theorem w_icmp_ge (ok : Ok K Z n0 own code maxL ret nm) {x y : Int32} {o : Int} {pc' : Nat} (hd : decode code pc = .ok (.if_icmp .ge o, 3)) (hp : (pc : Int) + o = (pc' : Int)) (wy : ¬ x < y → W K l R n0 P h k n pc' L S) (wn : x < y → W K l R n0 P h k n (pc + 3) L S) : W K l R n0 P h k n pc L (.int y :: .int x :: S) := by
  obtain ⟨p, e, s, m, args, below, meth, c⟩ := K
  obtain ⟨hx, hZ, hown, hby, -⟩ := ok
  intro T locs X eT N
  by_cases hc : x < y
  · obtain ⟨s₂, o, st, r⟩ := wn hc T locs X eT N
    exact ⟨s₂, o, XS.icmpNo X.here hx rfl (hb hby hd) rfl (tlt hc).2.1 st, r⟩
  · obtain ⟨s₂, o, st, r⟩ := wy hc T locs X eT N
    exact ⟨s₂, o, XS.icmpYes X.here hx rfl (pc0 := pc) (pc' := pc') rfl (hb hby hd) rfl (flt hc).2.1 (by rw [hp]; exact Int.natCast_nonneg _) (by rw [hp]; rfl) st, r⟩
theorem w_if_ge (ok : Ok K Z n0 own code maxL ret nm) {x : Int32} {o : Int} {pc' : Nat} (hd : decode code pc = .ok (.ifCond .ge o, 3)) (hp : (pc : Int) + o = (pc' : Int)) (wy : ¬ x < 0 → W K l R n0 P h k n pc' L S) (wn : x < 0 → W K l R n0 P h k n (pc + 3) L S) : W K l R n0 P h k n pc L (.int x :: S) := by
  obtain ⟨p, e, s, m, args, below, meth, c⟩ := K
  obtain ⟨hx, hZ, hown, hby, -⟩ := ok
  intro T locs X eT N
  by_cases hc : x < 0
  · obtain ⟨s₂, o, st, r⟩ := wn hc T locs X eT N
    exact ⟨s₂, o, XS.ifNo X.here hx rfl (hb hby hd) rfl ((if0 _ _).trans (tlt hc).2.1) st, r⟩
  · obtain ⟨s₂, o, st, r⟩ := wy hc T locs X eT N
    exact ⟨s₂, o, XS.ifYes X.here hx rfl (pc0 := pc) (pc' := pc') rfl (hb hby hd) rfl ((if0 _ _).trans (flt hc).2.1) (by rw [hp]; exact Int.natCast_nonneg _) (by rw [hp]; rfl) st, r⟩
theorem w_icmp_gt (ok : Ok K Z n0 own code maxL ret nm) {x y : Int32} {o : Int} {pc' : Nat} (hd : decode code pc = .ok (.if_icmp .gt o, 3)) (hp : (pc : Int) + o = (pc' : Int)) (wy : y < x → W K l R n0 P h k n pc' L S) (wn : ¬ y < x → W K l R n0 P h k n (pc + 3) L S) : W K l R n0 P h k n pc L (.int y :: .int x :: S) := by
  obtain ⟨p, e, s, m, args, below, meth, c⟩ := K
  obtain ⟨hx, hZ, hown, hby, -⟩ := ok
  intro T locs X eT N
  by_cases hc : y < x
  · obtain ⟨s₂, o, st, r⟩ := wy hc T locs X eT N
    exact ⟨s₂, o, XS.icmpYes X.here hx rfl (pc0 := pc) (pc' := pc') rfl (hb hby hd) rfl (tlt hc).2.2.1 (by rw [hp]; exact Int.natCast_nonneg _) (by rw [hp]; rfl) st, r⟩
  · obtain ⟨s₂, o, st, r⟩ := wn hc T locs X eT N
    exact ⟨s₂, o, XS.icmpNo X.here hx rfl (hb hby hd) rfl (flt hc).2.2.1 st, r⟩
theorem w_if_gt (ok : Ok K Z n0 own code maxL ret nm) {x : Int32} {o : Int} {pc' : Nat} (hd : decode code pc = .ok (.ifCond .gt o, 3)) (hp : (pc : Int) + o = (pc' : Int)) (wy : 0 < x → W K l R n0 P h k n pc' L S) (wn : ¬ 0 < x → W K l R n0 P h k n (pc + 3) L S) : W K l R n0 P h k n pc L (.int x :: S) := by
  obtain ⟨p, e, s, m, args, below, meth, c⟩ := K
  obtain ⟨hx, hZ, hown, hby, -⟩ := ok
  intro T locs X eT N
  by_cases hc : 0 < x
  · obtain ⟨s₂, o, st, r⟩ := wy hc T locs X eT N
    exact ⟨s₂, o, XS.ifYes X.here hx rfl (pc0 := pc) (pc' := pc') rfl (hb hby hd) rfl ((if0 _ _).trans (tlt hc).2.2.1) (by rw [hp]; exact Int.natCast_nonneg _) (by rw [hp]; rfl) st, r⟩
  · obtain ⟨s₂, o, st, r⟩ := wn hc T locs X eT N
    exact ⟨s₂, o, XS.ifNo X.here hx rfl (hb hby hd) rfl ((if0 _ _).trans (flt hc).2.2.1) st, r⟩
theorem w_icmp_le (ok : Ok K Z n0 own code maxL ret nm) {x y : Int32} {o : Int} {pc' : Nat} (hd : decode code pc = .ok (.if_icmp .le o, 3)) (hp : (pc : Int) + o = (pc' : Int)) (wy : ¬ y < x → W K l R n0 P h k n pc' L S) (wn : y < x → W K l R n0 P h k n (pc + 3) L S) : W K l R n0 P h k n pc L (.int y :: .int x :: S) := by
  obtain ⟨p, e, s, m, args, below, meth, c⟩ := K
  obtain ⟨hx, hZ, hown, hby, -⟩ := ok
  intro T locs X eT N
  by_cases hc : y < x
  · obtain ⟨s₂, o, st, r⟩ := wn hc T locs X eT N
    exact ⟨s₂, o, XS.icmpNo X.here hx rfl (hb hby hd) rfl (tlt hc).2.2.2 st, r⟩
  · obtain ⟨s₂, o, st, r⟩ := wy hc T locs X eT N
    exact ⟨s₂, o, XS.icmpYes X.here hx rfl (pc0 := pc) (pc' := pc') rfl (hb hby hd) rfl (flt hc).2.2.2 (by rw [hp]; exact Int.natCast_nonneg _) (by rw [hp]; rfl) st, r⟩
theorem w_if_le (ok : Ok K Z n0 own code maxL ret nm) {x : Int32} {o : Int} {pc' : Nat} (hd : decode code pc = .ok (.ifCond .le o, 3)) (hp : (pc : Int) + o = (pc' : Int)) (wy : ¬ 0 < x → W K l R n0 P h k n pc' L S) (wn : 0 < x → W K l R n0 P h k n (pc + 3) L S) : W K l R n0 P h k n pc L (.int x :: S) := by
  obtain ⟨p, e, s, m, args, below, meth, c⟩ := K
  obtain ⟨hx, hZ, hown, hby, -⟩ := ok
  intro T locs X eT N
  by_cases hc : 0 < x
  · obtain ⟨s₂, o, st, r⟩ := wn hc T locs X eT N
    exact ⟨s₂, o, XS.ifNo X.here hx rfl (hb hby hd) rfl ((if0 _ _).trans (tlt hc).2.2.2) st, r⟩
  · obtain ⟨s₂, o, st, r⟩ := wy hc T locs X eT N
    exact ⟨s₂, o, XS.ifYes X.here hx rfl (pc0 := pc) (pc' := pc') rfl (hb hby hd) rfl ((if0 _ _).trans (flt hc).2.2.2) (by rw [hp]; exact Int.natCast_nonneg _) (by rw [hp]; rfl) st, r⟩
theorem w_lcmp (ok : Ok K Z n0 own code maxL ret nm) {x y : Int64} (hd : decode code pc = .ok (.lcmp, 1)) (w : W K l R n0 P h k n (pc + 1) L (.int (lcmpW x y) :: S)) : W K l R n0 P h k n pc L (.long y :: .long x :: S) := by
  obtain ⟨p, e, s, m, args, below, meth, c⟩ := K
  obtain ⟨hx, hZ, hown, hby, -⟩ := ok
  intro T locs X eT N
  obtain ⟨s₂, o, st, r⟩ := w T locs X eT N
  exact ⟨s₂, o, XS.lcmp X.here hx rfl (hb hby hd) rfl st, r⟩
theorem w_lcmp_eq (ok : Ok K Z n0 own code maxL ret nm) {x y : Int64} {o : Int} {pc' : Nat} (hd : decode code pc = .ok (.lcmp, 1)) (hd2 : decode code (pc + 1) = .ok (.ifCond .eq o, 3)) (hp : ((pc + 1 : Nat) : Int) + o = (pc' : Int)) (wy : x = y → W K l R n0 P h k n pc' L S) (wn : ¬ x = y → W K l R n0 P h k n (pc + 4) L S) : W K l R n0 P h k n pc L (.long y :: .long x :: S) :=
  w_lcmp ok hd (w_if_eq ok hd2 hp (fun hc => wy ((lw_eq x y).mp hc)) (fun hc => wn (fun q => hc ((lw_eq x y).mpr q))))
theorem w_lcmp_ne (ok : Ok K Z n0 own code maxL ret nm) {x y : Int64} {o : Int} {pc' : Nat} (hd : decode code pc = .ok (.lcmp, 1)) (hd2 : decode code (pc + 1) = .ok (.ifCond .ne o, 3)) (hp : ((pc + 1 : Nat) : Int) + o = (pc' : Int)) (wy : ¬ x = y → W K l R n0 P h k n pc' L S) (wn : x = y → W K l R n0 P h k n (pc + 4) L S) : W K l R n0 P h k n pc L (.long y :: .long x :: S) :=
  w_lcmp ok hd (w_if_ne ok hd2 hp (fun hc => wy (fun q => hc ((lw_eq x y).mpr q))) (fun hc => wn ((lw_eq x y).mp hc)))
theorem w_lcmp_lt (ok : Ok K Z n0 own code maxL ret nm) {x y : Int64} {o : Int} {pc' : Nat} (hd : decode code pc = .ok (.lcmp, 1)) (hd2 : decode code (pc + 1) = .ok (.ifCond .lt o, 3)) (hp : ((pc + 1 : Nat) : Int) + o = (pc' : Int)) (wy : x < y → W K l R n0 P h k n pc' L S) (wn : ¬ x < y → W K l R n0 P h k n (pc + 4) L S) : W K l R n0 P h k n pc L (.long y :: .long x :: S) :=
  w_lcmp ok hd (w_if_lt ok hd2 hp (fun hc => wy ((lw_lt x y).mp hc)) (fun hc => wn (fun q => hc ((lw_lt x y).mpr q))))
theorem w_lcmp_ge (ok : Ok K Z n0 own code maxL ret nm) {x y : Int64} {o : Int} {pc' : Nat} (hd : decode code pc = .ok (.lcmp, 1)) (hd2 : decode code (pc + 1) = .ok (.ifCond .ge o, 3)) (hp : ((pc + 1 : Nat) : Int) + o = (pc' : Int)) (wy : ¬ x < y → W K l R n0 P h k n pc' L S) (wn : x < y → W K l R n0 P h k n (pc + 4) L S) : W K l R n0 P h k n pc L (.long y :: .long x :: S) :=
  w_lcmp ok hd (w_if_ge ok hd2 hp (fun hc => wy (fun q => hc ((lw_lt x y).mpr q))) (fun hc => wn ((lw_lt x y).mp hc)))
theorem w_lcmp_gt (ok : Ok K Z n0 own code maxL ret nm) {x y : Int64} {o : Int} {pc' : Nat} (hd : decode code pc = .ok (.lcmp, 1)) (hd2 : decode code (pc + 1) = .ok (.ifCond .gt o, 3)) (hp : ((pc + 1 : Nat) : Int) + o = (pc' : Int)) (wy : y < x → W K l R n0 P h k n pc' L S) (wn : ¬ y < x → W K l R n0 P h k n (pc + 4) L S) : W K l R n0 P h k n pc L (.long y :: .long x :: S) :=
  w_lcmp ok hd (w_if_gt ok hd2 hp (fun hc => wy ((lw_gt x y).mp hc)) (fun hc => wn (fun q => hc ((lw_gt x y).mpr q))))
theorem w_lcmp_le (ok : Ok K Z n0 own code maxL ret nm) {x y : Int64} {o : Int} {pc' : Nat} (hd : decode code pc = .ok (.lcmp, 1)) (hd2 : decode code (pc + 1) = .ok (.ifCond .le o, 3)) (hp : ((pc + 1 : Nat) : Int) + o = (pc' : Int)) (wy : ¬ y < x → W K l R n0 P h k n pc' L S) (wn : y < x → W K l R n0 P h k n (pc + 4) L S) : W K l R n0 P h k n pc L (.long y :: .long x :: S) :=
  w_lcmp ok hd (w_if_le ok hd2 hp (fun hc => wy (fun q => hc ((lw_gt x y).mpr q))) (fun hc => wn ((lw_gt x y).mp hc)))
theorem w_out {t : FieldType} {i : Instr} {w : Value} (ok : Ok K Z n0 own code maxL (some t) nm) (hn : narrow t w = w) (hi : (i = .ireturn ∧ (t = .int ∨ t = .boolean ∨ t = .byte ∨ t = .char ∨ t = .short) ∧ ∃ z, w = .int z) ∨ (i = .lreturn ∧ t = .long ∧ ∃ z, w = .long z) ∨ (i = .dreturn ∧ t = .double ∧ ∃ z, w = .double z) ∨ (i = .freturn ∧ t = .float ∧ ∃ z, w = .float z) ∨ (i = .areturn ∧ t.isReference = true ∧ w.isRef = true))
    (hd : decode code pc = .ok (i, 1)) (hk : k ≤ R.cells) (hs : n ≤ R.slots) (hP : P (some w) h) : W K l R n0 P h k n pc L (w :: S) := by
  obtain ⟨p, e, s, m, args, below, meth, c⟩ := K
  obtain ⟨hx, hZ, hown, hby, hml, hret, hnm, hlk, hn0⟩ := ok
  intro T locs X eT N
  obtain ⟨fs, hr, hrun, hended, hW, hsame⟩ := X.leave (v := some w) (fun q => by rw [hret] at q; cases q)
  exact ⟨_, _, retOut X hx hret hn hi (hb hby hd) hr, hrun, hended, _, _, rfl, ⟨by show P (some w) T.heap; rw [eT]; exact hP, N⟩, ⟨_, rfl⟩, hW, hsame.mono hk hs⟩
theorem w_iret {z : Int32} (ok : Ok K Z n0 own code maxL (some .int) nm) (hd : decode code pc = .ok (.ireturn, 1)) (hk : k ≤ R.cells) (hs : n ≤ R.slots) (hP : P (some (.int z)) h) : W K l R n0 P h k n pc L (.int z :: S) :=
  w_out ok rfl (Or.inl ⟨rfl, by simp, z, rfl⟩) hd hk hs hP
theorem w_lret {z : Int64} (ok : Ok K Z n0 own code maxL (some .long) nm) (hd : decode code pc = .ok (.lreturn, 1)) (hk : k ≤ R.cells) (hs : n ≤ R.slots) (hP : P (some (.long z)) h) : W K l R n0 P h k n pc L (.long z :: S) :=
  w_out ok rfl (Or.inr (Or.inl ⟨rfl, rfl, z, rfl⟩)) hd hk hs hP
theorem w_aret {w : Value} {t : FieldType} (ok : Ok K Z n0 own code maxL (some t) nm) (ht : t.isReference = true) (hw : w.isRef = true) (hd : decode code pc = .ok (.areturn, 1)) (hk : k ≤ R.cells) (hs : n ≤ R.slots) (hP : P (some w) h) : W K l R n0 P h k n pc L (w :: S) :=
  w_out ok (by rcases ref_cases hw with rfl | ⟨_, rfl⟩ <;> cases t <;> first | rfl | cases ht) (Or.inr (Or.inr (Or.inr (Or.inr ⟨rfl, ht, hw⟩)))) hd hk hs hP
theorem w_bret {z : Int32} {t : FieldType} (ok : Ok K Z n0 own code maxL (some t) nm) (ht : t = .boolean ∨ t = .byte ∨ t = .char ∨ t = .short) (hd : decode code pc = .ok (.ireturn, 1)) (hk : k ≤ R.cells) (hs : n ≤ R.slots) (hP : P (some (.int (nar t z))) h) : W K l R n0 P h k n pc L (.int z :: S) := by
  obtain ⟨p, e, s, m, args, below, meth, c⟩ := K
  obtain ⟨hx, hZ, hown, hby, hml, hret, hnm, hlk, hn0⟩ := ok
  intro T locs X eT N
  obtain ⟨fs, hr, hrun, hended, hW, hsame⟩ := X.leave (v := some (.int (nar t z))) (fun q => by rw [hret] at q; cases q)
  exact ⟨_, _, retN X hx hret ht (hb hby hd) hr, hrun, hended, _, _, rfl, ⟨by show P (some (.int (nar t z))) T.heap; rw [eT]; exact hP, N⟩, ⟨_, rfl⟩, hW, hsame.mono hk hs⟩
theorem w_ret (ok : Ok K Z n0 own code maxL none nm) (hd : decode code pc = .ok (.return_, 1)) (hk : k ≤ R.cells) (hs : n ≤ R.slots) (hP : P none h) : W K l R n0 P h k n pc L [] := by
  obtain ⟨p, e, s, m, args, below, meth, c⟩ := K
  obtain ⟨hx, hZ, hown, hby, hml, hret, hnm, hlk, hn0⟩ := ok
  intro T locs X eT N
  obtain ⟨fs, hr, hrun, hended, hW, hsame⟩ := X.leave (v := none) (fun _ => rfl)
  exact ⟨_, _, X.returnOut hx hret (hb hby hd) hr, hrun, hended, _, _, rfl, ⟨by show P none T.heap; rw [eT]; exact hP, N⟩, ⟨_, rfl⟩, hW, hsame.mono hk hs⟩
abbrev notHandle (y : MethodName) : Prop := y.cls ≠ "java/lang/invoke/MethodHandle" ∧ y.cls ≠ "java/lang/invoke/VarHandle"
theorem w_callS (ok : Ok K Z n0 own code maxL ret nm) {index : Nat} {y : MethodName} {bytes : ByteArray} {mL : Nat} {rt : Option FieldType} {rm : Room} {argsL rest : List Value} {Q : Option Value → Heap → Prop} {ps : List FieldType} {r : Option FieldType}
    (hd : decode code pc = .ok (.invokestatic index, 3)) (w1 : (Cond.methodLink own index y).before a0 Z = true) (w2 : (Cond.static y).before a0 Z = true) (w3 : (Cond.initialized y.cls).before a0 Z = true) (w4 : (Cond.code y bytes mL rt).before a0 Z = true) (hy : notHandle y)
    (pd : parseMethodDescriptor y.desc = some ⟨ps, r⟩) (hlen : argsL.length = ps.length) (hL : L.size = maxL) (hf : rm.frames + 1 ≤ R.frames) (hl : (rest.map fun v => v.category).sum + (mL + 11) + rm.locals ≤ R.locals) (hc : k + rm.cells ≤ R.cells) (hs : n + rm.slots ≤ R.slots)
    (hM : Old Z n0 h → Met l Z n0 y bytes mL rt [] rm argsL.toArray h Q) (w : ∀ v h', Q v h' → W K l R n0 P h' (k + rm.cells) (n + rm.slots) (pc + 3) L (v.toList ++ rest)) : W K l R n0 P h k n pc L (argsL.reverse ++ rest) := by
  obtain ⟨p, e, s, m, args, below, meth, c⟩ := K
  obtain ⟨hx, hZ, hown, hby, hml, hret, hnm, hlk, hn0⟩ := ok
  intro T locs X eT N
  have hM := hM (by rw [← eT]; exact old_now hn0 X N)
  obtain ⟨v, _, ⟨T1, L1, k1, n1⟩, -, X1, ⟨Lc, ⟨hQ, N1⟩, l1, y1, z1⟩, st⟩ := Jvm.LawKit.callS X hx (y := y) hown (mvT hZ w1) (mvT hZ w2) (mvT hZ w3) (mvT hZ w4) hy (backOf (W := (rest.map fun v => v.category).sum) (Q := fun v h L => Q v h ∧ Fr n0 L) hM hZ w4 w3 hf hl) (g := mkF m pc L (argsL.reverse ++ rest)) rfl (hL.trans hml.symm) (argsL := argsL) (rest := rest) (lenOf pd hlen) rfl (by show 2 * 0 + _ ≤ _; omega) (hb hby hd) (fun _ _ => ⟨rfl, eT, hc, hs⟩)
  dsimp only [Pt.U, Pt.locs, Pt.cells, Pt.slots] at X1 l1 y1 z1 st hQ
  subst l1 y1 z1
  obtain ⟨s₂, o, st2, r2⟩ := w v _ hQ T1 _ X1 rfl (Fr.app N N1)
  exact ⟨s₂, o, st _ st2, r2⟩
theorem pa_z {N : Nat} (q : N < 2 ^ 31) : ∃ z : Int32, N = z.toNatClampNeg ∧ ¬ z < 0 := by
  have e : (Int32.ofNat N).toInt = N := Int32.toInt_ofNat_of_lt q
  refine ⟨Int32.ofNat N, ?_, ?_⟩
  · simp [Int32.toNatClampNeg, e]
  · rw [Int32.lt_iff_toInt_lt, e]; simp
def PA (ty : FieldType) (Z : State) (h : Heap) (a : Addr) (vs : List Value) : Prop := ∃ c : Cell, Arr Z h a c ty ∧ vs.length < 2 ^ 31 ∧ c.slots = vs.toArray ∧ ∀ v ∈ vs, fits ty v = true
theorem pa_in {c : Cell} {vs : List Value} {j : Int32} (q : c.slots = vs.toArray) (h0 : ¬ j < 0) (hj : j.toNatClampNeg < vs.length) : ¬ (j < 0 ∨ c.slots.size ≤ j.toNatClampNeg) := by
  rw [q]; rintro (y | y)
  · exact h0 y
  · simp at y; omega
section PAs
variable {ty : FieldType} {h' : Heap} {a b : Addr} {vs : List Value} {v : Value} {sl : Nat} {ws : List Addr}
theorem PA.lt (A : PA ty Z h a vs) : a < h.size := by obtain ⟨c, A, -⟩ := A; exact A.lt
theorem PA.len (A : PA ty Z h a vs) : vs.length < 2 ^ 31 := by obtain ⟨c, A, q, -⟩ := A; exact q
theorem PA.ext (A : PA ty Z h a vs) (E : Ext h h') : PA ty Z h' a vs := by obtain ⟨c, A, r⟩ := A; exact ⟨c, A.ext E, r⟩
theorem PA.other (A : PA ty Z h b vs) (W1 : Wr h h' a sl v) (ne : b ≠ a) : PA ty Z h' b vs := by obtain ⟨c, A, r⟩ := A; exact ⟨c, A.other W1 ne, r⟩
theorem PA.keep (A : PA ty Z h a vs) (K1 : Keep h h' ws) (q : a ∉ ws) : PA ty Z h' a vs := by obtain ⟨c, A, r⟩ := A; exact ⟨c, ⟨K1.2.1 a c A.1 q, A.2⟩, r⟩
theorem PA.set (A : PA ty Z h a vs) (W1 : Wr h h' a sl v) (hv : fits ty v = true) : PA ty Z h' a (vs.set sl v) := by
  obtain ⟨c, A, hl, hs, hf⟩ := A
  refine ⟨c.setSlot sl v, A.same W1, by rw [List.length_set]; exact hl, ?_, ?_⟩
  · show c.slots.setIfInBounds sl v = _
    rw [hs]; simp
  · intro u hu
    rcases List.mem_or_eq_of_mem_set hu with q | rfl
    · exact hf _ q
    · exact hv
theorem PA.arv (A : PA ty Z h a vs) {z : Int32} (hz : vs.length = z.toNatClampNeg) (hz0 : ¬ z < 0) (d : Value) : ∃ k, Arv Z h a k ty z vs d := by
  obtain ⟨c, A, hl, hs, hf⟩ := A
  refine ⟨c.cls, c, A, rfl, by rw [hs]; simpa using hz, hz0, fun i hi => ?_, fun i hi => ?_⟩
  · rw [hs] at hi ⊢
    simp at hi
    simp [List.getD_eq_getElem?_getD, List.getElem?_eq_getElem hi]
  · rw [hs] at hi
    simp at hi
    rw [List.getD_eq_getElem?_getD, List.getElem?_eq_getElem hi]
    exact hf _ (List.getElem_mem hi)
theorem PA.of_arv {k : ClassId} {z : Int32} {d : Value} (B : Arv Z h a k ty z vs d) (hl : vs.length = z.toNatClampNeg) : PA ty Z h a vs := by
  obtain ⟨c, A, -, S1, N1, H, G⟩ := B
  have e : c.slots = vs.toArray := by
    apply Array.ext_getElem?
    intro i
    by_cases q : i < c.slots.size
    · rw [H i q]
      have q2 : i < vs.length := by omega
      simp [List.getD_eq_getElem?_getD, List.getElem?_eq_getElem q2]
    · rw [Array.getElem?_eq_none (by omega)]
      simp; omega
  refine ⟨c, A, by have := (back32 N1).2; omega, e, fun v hv => ?_⟩
  obtain ⟨i, hi, rfl⟩ := List.getElem_of_mem hv
  have q := G i (by omega)
  rw [List.getD_eq_getElem?_getD, List.getElem?_eq_getElem hi] at q
  exact q
end PAs
theorem w_arraylength (ok : Ok K Z n0 own code maxL ret nm) {ty : FieldType} {a : Addr} {vs : List Value} {z : Int32} (hd : decode code pc = .ok (.arraylength, 1)) (A : PA ty Z h a vs) (hz : vs.length = z.toNatClampNeg) (hz0 : ¬ z < 0) (w : W K l R n0 P h k n (pc + 1) L (.int z :: S)) : W K l R n0 P h k n pc L (.ref a :: S) := by
  obtain ⟨p, e, s, m, args, below, meth, c⟩ := K
  obtain ⟨hx, hZ, hown, hby, -⟩ := ok
  intro T locs X eT N
  obtain ⟨s₂, o, st, r⟩ := w T locs X eT N
  obtain ⟨cl, A, q1, q2, q3⟩ := A
  have e1 : cl.slots.size.toInt32 = z := len_of (by rw [q2]; simpa using hz) hz0
  exact ⟨s₂, o, X.arraylength hx (by rw [eT]; exact A.1) (State.isArrayOf_alike hZ.alike A.2.1) (g := mkF m pc L (.ref a :: S)) rfl rfl (hb hby hd) _ (by rw [e1]; exact st), r⟩
theorem w_newarray (ok : Ok K Z n0 own code maxL ret nm) {aty : ArrayType} {z : Int32} (hd : decode code pc = .ok (.newarray aty, 2)) (w1 : (Cond.arrayClass (newarray.typeOf aty)).before a0 Z = true) (hz : ¬ z < 0) {cap : Nat} (hcap : z.toNatClampNeg ≤ cap) (hb1 : cap * 8 ≤ 536870912) (hc : k + 1 ≤ R.cells) (hl : n + cap ≤ R.slots)
    (w : ∀ h' a, a = h.size → n0 ≤ a → Ext h h' → PA (newarray.typeOf aty) Z h' a (List.replicate z.toNatClampNeg (defaultValue (newarray.typeOf aty))) → W K l R n0 P h' (k + 1) (n + cap) (pc + 2) L (.ref a :: S)) : W K l R n0 P h k n pc L (.int z :: S) := by
  obtain ⟨p, e, s, m, args, below, meth, c⟩ := K
  obtain ⟨hx, hZ, hown, hby, hml, hret, hnm, hlk, hn0⟩ := ok
  intro T locs X eT N
  obtain ⟨T1, h1, cA, X1, e1, E1, A1, st⟩ := newP X hx hZ w1 eT (g := mkF m pc L (.int z :: S)) rfl (hb hby hd) rfl hz hcap hb1 hc hl
  have A2 : PA (newarray.typeOf aty) Z h1 h.size (List.replicate z.toNatClampNeg (defaultValue (newarray.typeOf aty))) := by
    refine ⟨_, A1, by simpa using (back32 hz).2, by simp [newA], fun v hv => ?_⟩
    rw [List.eq_of_mem_replicate hv]
    cases aty <;> rfl
  obtain ⟨s₂, o, st2, r⟩ := w h1 h.size rfl (by rw [← eT]; exact old_ge hn0 X N) E1 A2 T1 _ X1 e1 N
  exact ⟨s₂, o, st _ st2, r⟩
theorem w_arraycopy (ok : Ok K Z n0 own code maxL ret nm) {index : Nat} {ty : FieldType} {a b : Addr} {vs vd : List Value} {sp dp nn : Int32} {sp' dp' nn' : Nat} (hd : decode code pc = .ok (.invokestatic index, 3)) (w1 : (Cond.methodLink own index Jvm.Stand.acN).before a0 Z = true) (w2 : (Cond.native Jvm.Stand.acN).before a0 Z = true) (w3 : (Cond.static Jvm.Stand.acN).before a0 Z = true) (w4 : (Cond.initialized "java/lang/System").before a0 Z = true)
    (A : PA ty Z h a vs) (B : PA ty Z h b vd) (hty : refKind ty = false) (ge : n0 ≤ b) (h1 : ¬ sp < 0) (h2 : ¬ dp < 0) (h3 : ¬ nn < 0) (es : sp.toNatClampNeg = sp') (ed : dp.toNatClampNeg = dp') (en : nn.toNatClampNeg = nn') (h4 : sp' + nn' ≤ vs.length) (h5 : dp' + nn' ≤ vd.length) (hL : L.size = maxL) (hf : 1 ≤ R.frames) (hlo : (S.map fun v => v.category).sum + (nativeFrameWords "java/lang/System" "arraycopy" 5 + 11) ≤ R.locals)
    (w : ∀ h', Keep h h' [b] → PA ty Z h' b (vd.take dp' ++ (vs.drop sp').take nn' ++ vd.drop (dp' + nn')) → W K l R n0 P h' k n (pc + 3) L S) : W K l R n0 P h k n pc L (.int nn :: .int dp :: .ref b :: .int sp :: .ref a :: S) := by
  obtain ⟨p, e, s, m, args, below, meth, c⟩ := K
  obtain ⟨hx, hZ, hown, hby, hml, hret, hnm, hlk, hn0⟩ := ok
  intro T locs X eT N
  subst es ed en
  obtain ⟨z1, hz1, hz2⟩ : ∃ z : Int32, vs.length = z.toNatClampNeg ∧ ¬ z < 0 := pa_z A.len
  obtain ⟨z3, hz3, hz4⟩ : ∃ z : Int32, vd.length = z.toNatClampNeg ∧ ¬ z < 0 := pa_z B.len
  obtain ⟨k1, A1⟩ := A.arv hz1 hz2 .null
  obtain ⟨k2, B1⟩ := B.arv hz3 hz4 .null
  obtain ⟨T1, h1', L1, X1, e1, N1, K1, B2, st⟩ := cpA X hx hZ hown w1 w2 w3 w4 eT A1 B1 (Or.inl ⟨rfl, hty⟩) h1 h2 h3 (by omega) (by omega) rfl h5 N ge (g := mkF m pc L (.int nn :: .int dp :: .ref b :: .int sp :: .ref a :: S)) rfl (hL.trans hml.symm) rfl (hb hby hd) hf (W := (S.map fun v => v.category).sum) (by show 2 * 0 + _ ≤ _; omega) hlo
  have e2 : ((List.range nn.toNatClampNeg).map fun i => vs.getD (sp.toNatClampNeg + i) Value.null) = (vs.drop sp.toNatClampNeg).take nn.toNatClampNeg := by
    apply List.ext_getElem
    · simp; omega
    · intro i q1 q2
      simp at q1
      simp [List.getD_eq_getElem?_getD, List.getElem?_eq_getElem (show sp.toNatClampNeg + i < vs.length by omega)]
  rw [e2] at B2
  obtain ⟨s₂, o, st2, r⟩ := w h1' K1 (PA.of_arv B2 (by simp; omega)) T1 _ X1 e1 N1
  exact ⟨s₂, o, st _ st2, r⟩
theorem w_iaload (ok : Ok K Z n0 own code maxL ret nm) {a : Addr} {vs : List Value} {j : Int32} {v : Value} (hd : decode code pc = .ok (.iaload, 1)) (A : PA .int Z h a vs) (h0 : ¬ j < 0) (hj : vs[j.toNatClampNeg]? = some v) (w : W K l R n0 P h k n (pc + 1) L (v :: S)) : W K l R n0 P h k n pc L (.int j :: .ref a :: S) := by
  obtain ⟨p, e, s, m, args, below, meth, c⟩ := K
  obtain ⟨hx, hZ, hown, hby, -⟩ := ok
  intro T locs X eT N
  obtain ⟨s₂, o, st, r⟩ := w T locs X eT N
  obtain ⟨cl, A, q1, q2, q3⟩ := A
  exact ⟨s₂, o, X.iaload hx (j := j) (v := v) (by rw [eT]; exact A.1) (State.isArrayOf_alike hZ.alike A.2.1) A.2.2 (pa_in q2 h0 (List.getElem?_eq_some_iff.mp hj).1) (by rw [q2]; simpa using hj) (g := mkF m pc L (.int j :: .ref a :: S)) rfl rfl (hb hby hd) _ st, r⟩
theorem w_laload (ok : Ok K Z n0 own code maxL ret nm) {a : Addr} {vs : List Value} {j : Int32} {v : Value} (hd : decode code pc = .ok (.laload, 1)) (A : PA .long Z h a vs) (h0 : ¬ j < 0) (hj : vs[j.toNatClampNeg]? = some v) (w : W K l R n0 P h k n (pc + 1) L (v :: S)) : W K l R n0 P h k n pc L (.int j :: .ref a :: S) := by
  obtain ⟨p, e, s, m, args, below, meth, c⟩ := K
  obtain ⟨hx, hZ, hown, hby, -⟩ := ok
  intro T locs X eT N
  obtain ⟨s₂, o, st, r⟩ := w T locs X eT N
  obtain ⟨cl, A, q1, q2, q3⟩ := A
  exact ⟨s₂, o, X.laload hx (j := j) (v := v) (by rw [eT]; exact A.1) (State.isArrayOf_alike hZ.alike A.2.1) A.2.2 (pa_in q2 h0 (List.getElem?_eq_some_iff.mp hj).1) (by rw [q2]; simpa using hj) (g := mkF m pc L (.int j :: .ref a :: S)) rfl rfl (hb hby hd) _ st, r⟩
theorem w_caload (ok : Ok K Z n0 own code maxL ret nm) {a : Addr} {vs : List Value} {j : Int32} {v : Value} (hd : decode code pc = .ok (.caload, 1)) (A : PA .char Z h a vs) (h0 : ¬ j < 0) (hj : vs[j.toNatClampNeg]? = some v) (w : W K l R n0 P h k n (pc + 1) L (v :: S)) : W K l R n0 P h k n pc L (.int j :: .ref a :: S) := by
  obtain ⟨p, e, s, m, args, below, meth, c⟩ := K
  obtain ⟨hx, hZ, hown, hby, -⟩ := ok
  intro T locs X eT N
  obtain ⟨s₂, o, st, r⟩ := w T locs X eT N
  obtain ⟨cl, A, q1, q2, q3⟩ := A
  exact ⟨s₂, o, X.caload hx (j := j) (v := v) (by rw [eT]; exact A.1) (State.isArrayOf_alike hZ.alike A.2.1) A.2.2 (pa_in q2 h0 (List.getElem?_eq_some_iff.mp hj).1) (by rw [q2]; simpa using hj) (g := mkF m pc L (.int j :: .ref a :: S)) rfl rfl (hb hby hd) _ st, r⟩
theorem w_baload (ok : Ok K Z n0 own code maxL ret nm) {a : Addr} {vs : List Value} {j : Int32} {v : Value} (hd : decode code pc = .ok (.baload, 1)) (A : PA .byte Z h a vs) (h0 : ¬ j < 0) (hj : vs[j.toNatClampNeg]? = some v) (w : W K l R n0 P h k n (pc + 1) L (v :: S)) : W K l R n0 P h k n pc L (.int j :: .ref a :: S) := by
  obtain ⟨p, e, s, m, args, below, meth, c⟩ := K
  obtain ⟨hx, hZ, hown, hby, -⟩ := ok
  intro T locs X eT N
  obtain ⟨s₂, o, st, r⟩ := w T locs X eT N
  obtain ⟨cl, A, q1, q2, q3⟩ := A
  exact ⟨s₂, o, X.baloadBytes hx (j := j) (v := v) (by rw [eT]; exact A.1) (State.isArrayOf_alike hZ.alike A.2.1) A.2.2 (pa_in q2 h0 (List.getElem?_eq_some_iff.mp hj).1) (by rw [q2]; simpa using hj) (g := mkF m pc L (.int j :: .ref a :: S)) rfl rfl (hb hby hd) _ st, r⟩
theorem w_zaload (ok : Ok K Z n0 own code maxL ret nm) {a : Addr} {vs : List Value} {j : Int32} {v : Value} (hd : decode code pc = .ok (.baload, 1)) (A : PA .boolean Z h a vs) (h0 : ¬ j < 0) (hj : vs[j.toNatClampNeg]? = some v) (w : W K l R n0 P h k n (pc + 1) L (v :: S)) : W K l R n0 P h k n pc L (.int j :: .ref a :: S) := by
  obtain ⟨p, e, s, m, args, below, meth, c⟩ := K
  obtain ⟨hx, hZ, hown, hby, -⟩ := ok
  intro T locs X eT N
  obtain ⟨s₂, o, st, r⟩ := w T locs X eT N
  obtain ⟨cl, A, q1, q2, q3⟩ := A
  exact ⟨s₂, o, X.baloadBooleans hx (j := j) (v := v) (by rw [eT]; exact A.1) (State.isArrayOf_alike hZ.alike A.2.1) A.2.2 (pa_in q2 h0 (List.getElem?_eq_some_iff.mp hj).1) (by rw [q2]; simpa using hj) (g := mkF m pc L (.int j :: .ref a :: S)) rfl rfl (hb hby hd) _ st, r⟩
theorem w_aaload (ok : Ok K Z n0 own code maxL ret nm) {ty : FieldType} {a : Addr} {vs : List Value} {j : Int32} {v : Value} (hd : decode code pc = .ok (.aaload, 1)) (A : PA ty Z h a vs) (ht : ty.isReference = true) (h0 : ¬ j < 0) (hj : vs[j.toNatClampNeg]? = some v) (w : W K l R n0 P h k n (pc + 1) L (v :: S)) : W K l R n0 P h k n pc L (.int j :: .ref a :: S) := by
  obtain ⟨p, e, s, m, args, below, meth, c⟩ := K
  obtain ⟨hx, hZ, hown, hby, -⟩ := ok
  intro T locs X eT N
  obtain ⟨s₂, o, st, r⟩ := w T locs X eT N
  obtain ⟨cl, A, q1, q2, q3⟩ := A
  exact ⟨s₂, o, X.aaload hx (j := j) (v := v) (by rw [eT]; exact A.1) (State.isArrayOf_alike hZ.alike A.2.1) ht A.2.2 (pa_in q2 h0 (List.getElem?_eq_some_iff.mp hj).1) (by rw [q2]; simpa using hj) (g := mkF m pc L (.int j :: .ref a :: S)) rfl rfl (hb hby hd) _ st, r⟩
theorem w_iastore (ok : Ok K Z n0 own code maxL ret nm) {a : Addr} {vs : List Value} {j : Int32} {x : Int32} (hd : decode code pc = .ok (.iastore, 1)) (A : PA .int Z h a vs) (ge : n0 ≤ a) (h0 : ¬ j < 0) (hj : j.toNatClampNeg < vs.length) (w : ∀ h', Wr h h' a j.toNatClampNeg (.int x) → PA .int Z h' a (vs.set j.toNatClampNeg (.int x)) → W K l R n0 P h' k n (pc + 1) L S) : W K l R n0 P h k n pc L (.int x :: .int j :: .ref a :: S) := by
  obtain ⟨p, e, s, m, args, below, meth, c⟩ := K
  obtain ⟨hx, hZ, hown, hby, -⟩ := ok
  intro T locs X eT N
  have A0 := A
  obtain ⟨cl, A, q1, q2, q3⟩ := A
  obtain ⟨T1, h1, X1, e1, W1, st⟩ := stI X hx hZ eT A (j := j) (pa_in q2 h0 hj) (g := mkF m pc L (.int x :: .int j :: .ref a :: S)) rfl rfl (hb hby hd)
  obtain ⟨s₂, o, st2, r⟩ := w h1 W1 (A0.set W1 rfl) T1 _ X1 e1 (Fr.snoc X1 N ge)
  exact ⟨s₂, o, st _ st2, r⟩
theorem w_lastore (ok : Ok K Z n0 own code maxL ret nm) {a : Addr} {vs : List Value} {j : Int32} {x : Int64} (hd : decode code pc = .ok (.lastore, 1)) (A : PA .long Z h a vs) (ge : n0 ≤ a) (h0 : ¬ j < 0) (hj : j.toNatClampNeg < vs.length) (w : ∀ h', Wr h h' a j.toNatClampNeg (.long x) → PA .long Z h' a (vs.set j.toNatClampNeg (.long x)) → W K l R n0 P h' k n (pc + 1) L S) : W K l R n0 P h k n pc L (.long x :: .int j :: .ref a :: S) := by
  obtain ⟨p, e, s, m, args, below, meth, c⟩ := K
  obtain ⟨hx, hZ, hown, hby, -⟩ := ok
  intro T locs X eT N
  have A0 := A
  obtain ⟨cl, A, q1, q2, q3⟩ := A
  obtain ⟨T1, h1, X1, e1, W1, st⟩ := stJ X hx hZ eT A (j := j) (pa_in q2 h0 hj) (g := mkF m pc L (.long x :: .int j :: .ref a :: S)) rfl rfl (hb hby hd)
  obtain ⟨s₂, o, st2, r⟩ := w h1 W1 (A0.set W1 rfl) T1 _ X1 e1 (Fr.snoc X1 N ge)
  exact ⟨s₂, o, st _ st2, r⟩
theorem w_castore (ok : Ok K Z n0 own code maxL ret nm) {a : Addr} {vs : List Value} {j : Int32} {x : Int32} (hd : decode code pc = .ok (.castore, 1)) (A : PA .char Z h a vs) (ge : n0 ≤ a) (h0 : ¬ j < 0) (hj : j.toNatClampNeg < vs.length) (w : ∀ h', Wr h h' a j.toNatClampNeg (.int (nar .char x)) → PA .char Z h' a (vs.set j.toNatClampNeg (.int (nar .char x))) → W K l R n0 P h' k n (pc + 1) L S) : W K l R n0 P h k n pc L (.int x :: .int j :: .ref a :: S) := by
  obtain ⟨p, e, s, m, args, below, meth, c⟩ := K
  obtain ⟨hx, hZ, hown, hby, -⟩ := ok
  intro T locs X eT N
  have A0 := A
  obtain ⟨cl, A, q1, q2, q3⟩ := A
  obtain ⟨T1, h1, X1, e1, W1, st⟩ := stC X hx hZ eT A (j := j) (pa_in q2 h0 hj) (g := mkF m pc L (.int x :: .int j :: .ref a :: S)) rfl rfl (hb hby hd)
  obtain ⟨s₂, o, st2, r⟩ := w h1 W1 (A0.set W1 (fits_nar_char x)) T1 _ X1 e1 (Fr.snoc X1 N ge)
  exact ⟨s₂, o, st _ st2, r⟩
theorem w_bastore (ok : Ok K Z n0 own code maxL ret nm) {a : Addr} {vs : List Value} {j : Int32} {x : Int32} (hd : decode code pc = .ok (.bastore, 1)) (A : PA .byte Z h a vs) (ge : n0 ≤ a) (h0 : ¬ j < 0) (hj : j.toNatClampNeg < vs.length) (w : ∀ h', Wr h h' a j.toNatClampNeg (.int (nar .byte x)) → PA .byte Z h' a (vs.set j.toNatClampNeg (.int (nar .byte x))) → W K l R n0 P h' k n (pc + 1) L S) : W K l R n0 P h k n pc L (.int x :: .int j :: .ref a :: S) := by
  obtain ⟨p, e, s, m, args, below, meth, c⟩ := K
  obtain ⟨hx, hZ, hown, hby, -⟩ := ok
  intro T locs X eT N
  have A0 := A
  obtain ⟨cl, A, q1, q2, q3⟩ := A
  obtain ⟨T1, h1, X1, e1, W1, st⟩ := stB X hx hZ eT A (j := j) (pa_in q2 h0 hj) (g := mkF m pc L (.int x :: .int j :: .ref a :: S)) rfl rfl (hb hby hd)
  obtain ⟨s₂, o, st2, r⟩ := w h1 W1 (A0.set W1 (fits_nar_byte x)) T1 _ X1 e1 (Fr.snoc X1 N ge)
  exact ⟨s₂, o, st _ st2, r⟩
theorem w_zastore (ok : Ok K Z n0 own code maxL ret nm) {a : Addr} {vs : List Value} {j : Int32} {x : Int32} (hd : decode code pc = .ok (.bastore, 1)) (A : PA .boolean Z h a vs) (ge : n0 ≤ a) (h0 : ¬ j < 0) (hj : j.toNatClampNeg < vs.length) (w : ∀ h', Wr h h' a j.toNatClampNeg (.int (nar .boolean x)) → PA .boolean Z h' a (vs.set j.toNatClampNeg (.int (nar .boolean x))) → W K l R n0 P h' k n (pc + 1) L S) : W K l R n0 P h k n pc L (.int x :: .int j :: .ref a :: S) := by
  obtain ⟨p, e, s, m, args, below, meth, c⟩ := K
  obtain ⟨hx, hZ, hown, hby, -⟩ := ok
  intro T locs X eT N
  have A0 := A
  obtain ⟨cl, A, q1, q2, q3⟩ := A
  obtain ⟨T1, h1, X1, e1, W1, st⟩ := stZ X hx hZ eT A (j := j) (pa_in q2 h0 hj) (g := mkF m pc L (.int x :: .int j :: .ref a :: S)) rfl rfl (hb hby hd)
  obtain ⟨s₂, o, st2, r⟩ := w h1 W1 (A0.set W1 (fits_nar_bool x)) T1 _ X1 e1 (Fr.snoc X1 N ge)
  exact ⟨s₂, o, st _ st2, r⟩
/-! objects -/
abbrev Fl := List (String × String × String × FieldType)
def Ob (Z : State) (h : Heap) (a : Addr) (C : String) (fl : Fl) (vals : List Value) : Prop := Exa Z h a C ∧ ∀ (i : Nat) f v, fl[i]? = some f → vals[i]? = some v → Fld Z h a f.1 f.2.1 f.2.2.1 v
def LA (Z : State) (a0 : Array Value) (C : String) (fl : Fl) : Prop := (∀ f ∈ fl, Laid Z a0 C f.1 f.2.1 f.2.2.1 ∧ parseFieldDescriptor f.2.2.1 = some f.2.2.2) ∧ (fl.map (·.2.1)).Nodup
section Obs
variable {h' : Heap} {a b : Addr} {C : String} {fl : Fl} {vals : List Value} {v : Value} {sl : Nat} {ws : List Addr}
theorem Ob.lt (O : Ob Z h a C fl vals) : a < h.size := O.1.lt
theorem Ob.ext (O : Ob Z h a C fl vals) (E : Ext h h') : Ob Z h' a C fl vals := ⟨O.1.ext E, fun i f v q r => (O.2 i f v q r).ext E⟩
theorem Ob.other (O : Ob Z h b C fl vals) (W1 : Wr h h' a sl v) (ne : b ≠ a) : Ob Z h' b C fl vals := ⟨O.1.wr W1, fun i f v q r => (O.2 i f v q r).other W1 (Or.inl ne)⟩
theorem Ob.keep (O : Ob Z h a C fl vals) (K1 : Keep h h' ws) (q : a ∉ ws) : Ob Z h' a C fl vals := ⟨O.1.keep K1, fun i f v r r' => (O.2 i f v r r').keep K1 q⟩
theorem Ob.put (O : Ob Z h a C fl vals) (LAs : LA Z a0 C fl) {i : Nat} {f : String × String × String × FieldType} {u : Value} (hf : fl[i]? = some f) (hv : vals[i]? = some u) (W1 : Wr h h' a (Jvm.RoadKit.slotOf Z f.1 f.2.1 f.2.2.1) v) : Ob Z h' a C fl (vals.set i v) := by
  refine ⟨O.1.wr W1, fun j g w hg hw => ?_⟩
  by_cases e : i = j
  · subst e
    cases hf.symm.trans hg
    rw [List.getElem?_set_self (List.getElem?_eq_some_iff.mp hv).1] at hw
    cases hw
    exact (O.2 i f u hf hv).same W1
  · rw [List.getElem?_set_ne e] at hw
    refine (O.2 j g w hg hw).other W1 (Or.inr ?_)
    have m1 := LAs.1 f (List.mem_of_getElem? hf)
    have m2 := LAs.1 g (List.mem_of_getElem? hg)
    refine slot_ne m2.1 m1.1 (fun q => e ?_) m2.2 m1.2
    have hi := (List.getElem?_eq_some_iff.mp hf)
    have hj := (List.getElem?_eq_some_iff.mp hg)
    have nd := LAs.2
    have q1 : (fl.map (·.2.1))[i]? = some f.2.1 := by simp [hf]
    have q2 : (fl.map (·.2.1))[j]? = some f.2.1 := by simp [hg, q]
    exact (List.getElem?_inj (by simpa using hi.1) nd).mp (q1.trans q2.symm)
end Obs
theorem w_getfield (ok : Ok K Z n0 own code maxL ret nm) {index : Nat} {a : Addr} {C R0 host : String} {fl : Fl} {vals : List Value} {v : Value} {f : String × String × String × FieldType} (i : Nat) (hd : decode code pc = .ok (.getfield index, 3)) (w1 : (Cond.fieldLink own index R0 f.2.1 f.2.2.1).before a0 Z = true ∨ (Cond.fieldLinkNest own index R0 f.2.1 f.2.2.1 host).before a0 Z = true) (via : Via Z R0 f.1 f.2.1 f.2.2.1) (O : Ob Z h a C fl vals) (hf : fl[i]? = some f) (hv : vals[i]? = some v)
    (w : W K l R n0 P h k n (pc + 3) L (v :: S)) : W K l R n0 P h k n pc L (.ref a :: S) := by
  obtain ⟨p, e, s, m, args, below, meth, c⟩ := K
  obtain ⟨hx, hZ, hown, hby, -⟩ := ok
  intro T locs X eT N
  obtain ⟨T1, X1, e1, st⟩ := getF X hx hZ hown w1 via eT (O.2 i f v hf hv) (g := mkF m pc L (.ref a :: S)) rfl rfl (hb hby hd)
  obtain ⟨s₂, o, st2, r⟩ := w T1 locs X1 e1 N
  exact ⟨s₂, o, st _ st2, r⟩
theorem w_putfield (ok : Ok K Z n0 own code maxL ret nm) {index kk : Nat} {a : Addr} {C R0 host : String} {fl : Fl} {vals : List Value} {v u : Value} {f : String × String × String × FieldType} (i : Nat) (hd : decode code pc = .ok (.putfield index, 3)) (w1 : (Cond.fieldLink own index R0 f.2.1 f.2.2.1).before a0 Z = true ∨ (Cond.fieldLinkNest own index R0 f.2.1 f.2.2.1 host).before a0 Z = true) (via : Via Z R0 f.1 f.2.1 f.2.2.1) (O : Ob Z h a C fl vals) (LAs : LA Z a0 C fl) (hf : fl[i]? = some f) (hv : vals[i]? = some u)
    (w2 : (Cond.lays C f.1 f.2.1 f.2.2.1).before a0 Z = true ∨ ((Cond.laysFinal C f.1 f.2.1 f.2.2.1).before a0 Z = true ∧ own = f.1 ∧ nm = "<init>")) (w3 : (Cond.instantiable C kk).before a0 Z = true) (hn : narrow f.2.2.2 v = v) (hfit : fits f.2.2.2 v = true) (ge : n0 ≤ a)
    (w : ∀ h', Wr h h' a (Jvm.RoadKit.slotOf Z f.1 f.2.1 f.2.2.1) v → Ob Z h' a C fl (vals.set i v) → W K l R n0 P h' k n (pc + 3) L S) : W K l R n0 P h k n pc L (v :: .ref a :: S) := by
  obtain ⟨p, e, s, m, args, below, meth, c⟩ := K
  obtain ⟨hx, hZ, hown, hby, hml, hret, hnm, hlk, hn0⟩ := ok
  intro T locs X eT N
  obtain ⟨T1, h1, X1, e1, W1, st⟩ := putF X hx hZ hown w1 via eT (O.2 i f u hf hv) O.1 (w2.imp id fun q => ⟨q.1, q.2.1, hnm.trans q.2.2⟩) w3 (LAs.1 f (List.mem_of_getElem? hf)).2 hn hfit (g := mkF m pc L (v :: .ref a :: S)) rfl rfl (hb hby hd)
  obtain ⟨s₂, o, st2, r⟩ := w h1 W1 (O.put LAs hf hv W1) T1 _ X1 e1 (Fr.snoc X1 N ge)
  exact ⟨s₂, o, st _ st2, r⟩
theorem w_new (ok : Ok K Z n0 own code maxL ret nm) {index kk : Nat} {C : String} {fl : Fl} (hd : decode code pc = .ok (.new index, 3)) (w1 : (Cond.classLink own index C).before a0 Z = true) (w2 : (Cond.instantiable C kk).before a0 Z = true) (w3 : (Cond.initialized C).before a0 Z = true) (LAs : LA Z a0 C fl) (hc : k + 1 ≤ R.cells) (hl : n + kk ≤ R.slots)
    (w : ∀ h' a, a = h.size → n0 ≤ a → Ext h h' → Ob Z h' a C fl (fl.map fun f => defaultValue f.2.2.2) → W K l R n0 P h' (k + 1) (n + kk) (pc + 3) L (.ref a :: S)) : W K l R n0 P h k n pc L S := by
  obtain ⟨p, e, s, m, args, below, meth, c⟩ := K
  obtain ⟨hx, hZ, hown, hby, hml, hret, hnm, hlk, hn0⟩ := ok
  intro T locs X eT N
  obtain ⟨T1, h1, X1, e1, E1, A1, D1, -, st⟩ := newO X hx hZ hown w1 w2 w3 eT (g := mkF m pc L S) rfl (hb hby hd) hc hl
  obtain ⟨s₂, o, st2, r⟩ := w h1 h.size rfl (by rw [← eT]; exact old_ge hn0 X N) E1 ⟨A1, fun i f v hf hv => by
    simp [hf] at hv; subst hv
    exact D1 (LAs.1 f (List.mem_of_getElem? hf)).1 (LAs.1 f (List.mem_of_getElem? hf)).2⟩ T1 _ X1 e1 N
  exact ⟨s₂, o, st _ st2, r⟩
theorem w_initO (ok : Ok K Z n0 own code maxL ret nm) {index : Nat} {a : Addr} (hd : decode code pc = .ok (.invokespecial index, 3)) (w1 : (Cond.methodLink own index Lib.objectInit).before a0 Z = true) (w2 : (Cond.instanceMethod Lib.objectInit).before a0 Z = true) (w3 : (Cond.code Lib.objectInit ⟨#[0xb1]⟩ 1 none).before a0 Z = true) (hL : L.size = maxL) (hf : 1 ≤ R.frames) (hl : (S.map fun v => v.category).sum + 12 ≤ R.locals)
    (w : W K l R n0 P h k n (pc + 3) L S) : W K l R n0 P h k n pc L (.ref a :: S) := by
  obtain ⟨p, e, s, m, args, below, meth, c⟩ := K
  obtain ⟨hx, hZ, hown, hby, hml, hret, hnm, hlk, hn0⟩ := ok
  intro T locs X eT N
  obtain ⟨T1, X1, e1, st⟩ := initO X hx hZ hown w1 w2 w3 eT (g := mkF m pc L (.ref a :: S)) rfl (hL.trans hml.symm) rfl (hb hby hd) hf (W := (S.map fun v => v.category).sum) (by show 2 * 0 + _ ≤ _; omega) hl
  obtain ⟨s₂, o, st2, r⟩ := w T1 locs X1 e1 N
  exact ⟨s₂, o, st _ st2, r⟩
theorem w_callI (ok : Ok K Z n0 own code maxL ret nm) {index : Nat} {y : MethodName} {bytes : ByteArray} {mL : Nat} {rm : Room} {a : Addr} {argsL rest : List Value} {Q : Option Value → Heap → Prop} {ps : List FieldType} {r : Option FieldType}
    (hd : decode code pc = .ok (.invokespecial index, 3)) (hy1 : y.name = "<init>") (w1 : (Cond.methodLink own index y).before a0 Z = true) (w2 : (Cond.instanceMethod y).before a0 Z = true) (w3 : (Cond.initialized y.cls).before a0 Z = true) (w4 : (Cond.code y bytes mL none).before a0 Z = true) (hy : notHandle y)
    (pd : parseMethodDescriptor y.desc = some ⟨ps, r⟩) (hlen : argsL.length = ps.length) (hL : L.size = maxL) (hf : rm.frames + 1 ≤ R.frames) (hl : (rest.map fun v => v.category).sum + (mL + 11) + rm.locals ≤ R.locals) (hc : k + rm.cells ≤ R.cells) (hs : n + rm.slots ≤ R.slots)
    (hM : Old Z n0 h → Met l Z n0 y bytes mL none [] rm (.ref a :: argsL).toArray h Q) (w : ∀ v h', Q v h' → W K l R n0 P h' (k + rm.cells) (n + rm.slots) (pc + 3) L (v.toList ++ rest)) : W K l R n0 P h k n pc L (argsL.reverse ++ .ref a :: rest) := by
  obtain ⟨p, e, s, m, args, below, meth, c⟩ := K
  obtain ⟨hx, hZ, hown, hby, hml, hret, hnm, hlk, hn0⟩ := ok
  intro T locs X eT N
  have hM := hM (by rw [← eT]; exact old_now hn0 X N)
  obtain ⟨v, _, ⟨T1, L1, k1, n1⟩, -, X1, ⟨Lc, ⟨hQ, N1⟩, l1, y1, z1⟩, st⟩ := X.specialBack hx (y := y) hy1 hown (mvT hZ w1) (mvT hZ w2) (mvT hZ w4) hy (backOf (W := (rest.map fun v => v.category).sum) (Q := fun v h L => Q v h ∧ Fr n0 L) hM hZ w4 w3 hf hl) (g := mkF m pc L (argsL.reverse ++ .ref a :: rest)) rfl (hL.trans hml.symm) (Steps.refl _) (a := a) (argsL := argsL) (rest := rest) (lenOf pd hlen) rfl (by show 2 * 0 + _ ≤ _; omega) (hb hby hd) (fun _ _ => ⟨rfl, eT, hc, hs⟩)
  dsimp only [Pt.U, Pt.locs, Pt.cells, Pt.slots] at X1 l1 y1 z1 st hQ
  subst l1 y1 z1
  obtain ⟨s₂, o, st2, r2⟩ := w v _ hQ T1 _ X1 rfl (Fr.app N N1)
  exact ⟨s₂, o, st.trans st2, r2⟩
theorem w_callV (ok : Ok K Z n0 own code maxL ret nm) {index : Nat} {C : String} {y : MethodName} {bytes : ByteArray} {mL : Nat} {rt : Option FieldType} {rm : Room} {a : Addr} {argsL rest : List Value} {Q : Option Value → Heap → Prop} {ps : List FieldType} {r : Option FieldType}
    (hd : decode code pc = .ok (.invokevirtual index, 3)) (w1 : (Cond.methodLink own index y).before a0 Z = true) (w2 : (Cond.declares y).before a0 Z = true) (w3 : (Cond.selects C y y).before a0 Z = true) (w4 : (Cond.instanceMethod y).before a0 Z = true) (w5 : (Cond.initialized y.cls).before a0 Z = true) (w6 : (Cond.code y bytes mL rt).before a0 Z = true) (hy : notHandle y)
    (E : Exa Z h a C) (pd : parseMethodDescriptor y.desc = some ⟨ps, r⟩) (hlen : argsL.length = ps.length) (hL : L.size = maxL) (hf : rm.frames + 1 ≤ R.frames) (hl : (rest.map fun v => v.category).sum + (mL + 11) + rm.locals ≤ R.locals) (hc : k + rm.cells ≤ R.cells) (hs : n + rm.slots ≤ R.slots)
    (hM : Old Z n0 h → Met l Z n0 y bytes mL rt [] rm (.ref a :: argsL).toArray h Q) (w : ∀ v h', Q v h' → W K l R n0 P h' (k + rm.cells) (n + rm.slots) (pc + 3) L (v.toList ++ rest)) : W K l R n0 P h k n pc L (argsL.reverse ++ .ref a :: rest) := by
  obtain ⟨p, e, s, m, args, below, meth, c⟩ := K
  obtain ⟨hx, hZ, hown, hby, hml, hret, hnm, hlk, hn0⟩ := ok
  intro T locs X eT N
  have hM := hM (by rw [← eT]; exact old_now hn0 X N)
  obtain ⟨cq, kq, qa, qb, qc⟩ := isOf hZ eT E
  obtain ⟨v, _, ⟨T1, L1, k1, n1⟩, -, X1, ⟨Lc, ⟨hQ, N1⟩, l1, y1, z1⟩, st⟩ := X.virtualBack hx (y := y) (z := y) hown (mvT hZ w1) (mvT hZ w2) (notFace_of_selects (args := #[]) (mvT hZ w3)) (mvT hZ w3) (mvT hZ w4) hy (backOf (W := (rest.map fun v => v.category).sum) (Q := fun v h L => Q v h ∧ Fr n0 L) hM hZ w6 w5 hf hl) qa qc (g := mkF m pc L (argsL.reverse ++ .ref a :: rest)) rfl (hL.trans hml.symm) (Steps.refl _) (argsL := argsL) (rest := rest) (lenOf pd hlen) rfl (by show 2 * 0 + _ ≤ _; omega) (hb hby hd) (fun _ _ => ⟨rfl, eT, hc, hs⟩)
  dsimp only [Pt.U, Pt.locs, Pt.cells, Pt.slots] at X1 l1 y1 z1 st hQ
  subst l1 y1 z1
  obtain ⟨s₂, o, st2, r2⟩ := w v _ hQ T1 _ X1 rfl (Fr.app N N1)
  exact ⟨s₂, o, st.trans st2, r2⟩
theorem w_callP (ok : Ok K Z n0 own code maxL ret nm) {index kk : Nat} {y : MethodName} {bytes : ByteArray} {mL : Nat} {rt : Option FieldType} {rm : Room} {a : Addr} {argsL rest : List Value} {Q : Option Value → Heap → Prop} {ps : List FieldType} {r : Option FieldType}
    (hd : decode code pc = .ok (.invokevirtual index, 3)) (w1 : (Cond.methodLink own index y).before a0 Z = true) (w2 : (Cond.instanceMethod y).before a0 Z = true) (w3 : (Cond.privateMethod y).before a0 Z = true) (w4 : (Cond.instantiable y.cls kk).before a0 Z = true) (w5 : (Cond.initialized y.cls).before a0 Z = true) (w6 : (Cond.code y bytes mL rt).before a0 Z = true) (hy : notHandle y)
    (E : Exa Z h a y.cls) (pd : parseMethodDescriptor y.desc = some ⟨ps, r⟩) (hlen : argsL.length = ps.length) (hL : L.size = maxL) (hf : rm.frames + 1 ≤ R.frames) (hl : (rest.map fun v => v.category).sum + (mL + 11) + rm.locals ≤ R.locals) (hc : k + rm.cells ≤ R.cells) (hs : n + rm.slots ≤ R.slots)
    (hM : Old Z n0 h → Met l Z n0 y bytes mL rt [] rm (.ref a :: argsL).toArray h Q) (w : ∀ v h', Q v h' → W K l R n0 P h' (k + rm.cells) (n + rm.slots) (pc + 3) L (v.toList ++ rest)) : W K l R n0 P h k n pc L (argsL.reverse ++ .ref a :: rest) := by
  obtain ⟨p, e, s, m, args, below, meth, c⟩ := K
  obtain ⟨hx, hZ, hown, hby, hml, hret, hnm, hlk, hn0⟩ := ok
  intro T locs X eT N
  have hM := hM (by rw [← eT]; exact old_now hn0 X N)
  have hP : s.PrivateAt y := Cond.privateMethod_at (mvP hZ w3 (args := #[]))
  obtain ⟨ci, ki, i1, i2, i3, i4, -⟩ := Cond.instantiable_spec (mvT (args := args) hZ w4)
  have hni : ki.isInterface = false := by
    cases q : ki.isInterface
    · rfl
    · rw [q] at i4; cases i4
  have hsel := selects_self_of_private (args := args) i1 i2 hni hP (mvT hZ w2) hy
  obtain ⟨cell, hcell, hobj⟩ := E.cell
  obtain ⟨v, _, ⟨T1, L1, k1, n1⟩, -, X1, ⟨Lc, ⟨hQ, N1⟩, l1, y1, z1⟩, st⟩ := X.privateBack hx (y := y) hown (mvT hZ w1) (mvT hZ w2) hsel hP (mvT hZ w6) hy (backOf (W := (rest.map fun v => v.category).sum) (Q := fun v h L => Q v h ∧ Fr n0 L) hM hZ w6 w5 hf hl) (g := mkF m pc L (argsL.reverse ++ .ref a :: rest)) rfl (hL.trans hml.symm) (Steps.refl _) (a := a) (by rw [eT]; exact hcell) hobj (argsL := argsL) (rest := rest) (lenOf pd hlen) rfl (by show 2 * 0 + _ ≤ _; omega) (hb hby hd) (fun _ _ => ⟨rfl, eT, hc, hs⟩)
  dsimp only [Pt.U, Pt.locs, Pt.cells, Pt.slots] at X1 l1 y1 z1 st hQ
  subst l1 y1 z1
  obtain ⟨s₂, o, st2, r2⟩ := w v _ hQ T1 _ X1 rfl (Fr.app N N1)
  exact ⟨s₂, o, st.trans st2, r2⟩
theorem w_getstatic (ok : Ok K Z n0 own code maxL ret nm) {index : Nat} {R0 O n' d : String} {v : Value} (hd : decode code pc = .ok (.getstatic index, 3)) (w1 : (Cond.fieldLink own index R0 n' d).before a0 Z = true) (via : Via Z R0 O n' d) (F : Sta Z Z.heap O n' d v) (w : W K l R n0 P h k n (pc + 3) L (v :: S)) : W K l R n0 P h k n pc L S := by
  obtain ⟨p, e, s, m, args, below, meth, c⟩ := K
  obtain ⟨hx, hZ, hown, hby, hml, hret, hnm, hlk, hn0⟩ := ok
  intro T locs X eT N
  have O := old_now hn0 X N
  obtain ⟨T1, X1, e1, st⟩ := getS (host := "") X hx hZ hown w1 via rfl (F.ext O.2) (g := mkF m pc L S) rfl (hb hby hd)
  obtain ⟨s₂, o, st2, r⟩ := w T1 locs X1 (e1.trans eT) N
  exact ⟨s₂, o, st _ st2, r⟩
theorem w_acmp (ok : Ok K Z n0 own code maxL ret nm) {cd : ACond} {x y : Value} {o : Int} {pc1 pc' : Nat} (hd : decode code pc = .ok (.if_acmp cd o, 3)) (hp : (pc : Int) + o = (pc1 : Int)) (h1 : x.isRef = true) (h2 : y.isRef = true) (same : Bool) (hq : decide (x = y) = same) (hpc : pc' = if acV cd same = true then pc1 else pc + 3) (w : W K l R n0 P h k n pc' L S) : W K l R n0 P h k n pc L (y :: x :: S) := by
  obtain ⟨p, e, s, m, args, below, meth, c⟩ := K
  obtain ⟨hx, hZ, hown, hby, -⟩ := ok
  intro T locs X eT N
  obtain ⟨s₂, o, st, r⟩ := w T locs X eT N
  exact ⟨s₂, o, acmp X hx rfl h1 h2 (pc0 := pc) (pc' := pc') (same := same) rfl (hb hby hd) rfl hq (by rw [hp]; exact Int.natCast_nonneg _) (by rw [hp]; exact hpc) st, r⟩
theorem w_ifnullY (ok : Ok K Z n0 own code maxL ret nm) {o : Int} {pc' : Nat} (hd : decode code pc = .ok (.ifnull o, 3)) (hp : (pc : Int) + o = (pc' : Int)) (w : W K l R n0 P h k n pc' L S) : W K l R n0 P h k n pc L (.null :: S) := by
  obtain ⟨p, e, s, m, args, below, meth, c⟩ := K
  obtain ⟨hx, hZ, hown, hby, -⟩ := ok
  intro T locs X eT N
  obtain ⟨s₂, o, st, r⟩ := w T locs X eT N
  exact ⟨s₂, o, XS.ifnullYes X.here hx rfl (pc0 := pc) (pc' := pc') rfl (hb hby hd) rfl (by rw [hp]; exact Int.natCast_nonneg _) (by rw [hp]; rfl) st, r⟩
theorem w_ifnullN (ok : Ok K Z n0 own code maxL ret nm) {o : Int} {a : Addr} (hd : decode code pc = .ok (.ifnull o, 3)) (w : W K l R n0 P h k n (pc + 3) L S) : W K l R n0 P h k n pc L (.ref a :: S) := by
  obtain ⟨p, e, s, m, args, below, meth, c⟩ := K
  obtain ⟨hx, hZ, hown, hby, -⟩ := ok
  intro T locs X eT N
  obtain ⟨s₂, o, st, r⟩ := w T locs X eT N
  exact ⟨s₂, o, XS.ifnullNo X.here hx rfl (hb hby hd) rfl st, r⟩
theorem w_ifnonnullY (ok : Ok K Z n0 own code maxL ret nm) {o : Int} {pc' : Nat} {a : Addr} (hd : decode code pc = .ok (.ifnonnull o, 3)) (hp : (pc : Int) + o = (pc' : Int)) (w : W K l R n0 P h k n pc' L S) : W K l R n0 P h k n pc L (.ref a :: S) := by
  obtain ⟨p, e, s, m, args, below, meth, c⟩ := K
  obtain ⟨hx, hZ, hown, hby, -⟩ := ok
  intro T locs X eT N
  obtain ⟨s₂, o, st, r⟩ := w T locs X eT N
  exact ⟨s₂, o, XS.ifnonnullYes X.here hx rfl (pc0 := pc) (pc' := pc') rfl (hb hby hd) rfl (by rw [hp]; exact Int.natCast_nonneg _) (by rw [hp]; rfl) st, r⟩
theorem w_ifnonnullN (ok : Ok K Z n0 own code maxL ret nm) {o : Int} (hd : decode code pc = .ok (.ifnonnull o, 3)) (w : W K l R n0 P h k n (pc + 3) L S) : W K l R n0 P h k n pc L (.null :: S) := by
  obtain ⟨p, e, s, m, args, below, meth, c⟩ := K
  obtain ⟨hx, hZ, hown, hby, -⟩ := ok
  intro T locs X eT N
  obtain ⟨s₂, o, st, r⟩ := w T locs X eT N
  exact ⟨s₂, o, XS.ifnonnullNo X.here hx rfl (hb hby hd) rfl st, r⟩
/-- what may lie in the array at a: objects of C -/
def OvA (Z : State) (h : Heap) (a : Addr) (C : String) : Prop := ∃ c : Cell, h[a]? = some c ∧ Ovr Z c.cls C
theorem OvA.ext {h' : Heap} {a : Addr} {C : String} (A : OvA Z h a C) (E : Ext h h') : OvA Z h' a C := by obtain ⟨c, q, r⟩ := A; exact ⟨c, E.2 _ _ q, r⟩
theorem OvA.keep {h' : Heap} {a : Addr} {C : String} {ws : List Addr} (A : OvA Z h a C) (K1 : Keep h h' ws) : OvA Z h' a C := by obtain ⟨c, q, r⟩ := A; obtain ⟨c', q', r1, r2⟩ := K1.2.2 a c q; exact ⟨c', q', by rw [r1]; exact r⟩
theorem w_anewarray (ok : Ok K Z n0 own code maxL ret nm) {index : Nat} {C : String} {z : Int32} (hd : decode code pc = .ok (.anewarray index, 3)) (w1 : (Cond.classLink own index C).before a0 Z = true) (w2 : (Cond.arrayOver (.object C)).before a0 Z = true) (hz : ¬ z < 0) {cap : Nat} (hcap : z.toNatClampNeg ≤ cap) (hb1 : cap * 8 ≤ 536870912) (hc : k + 1 ≤ R.cells) (hl : n + cap ≤ R.slots)
    (w : ∀ h' a, a = h.size → n0 ≤ a → Ext h h' → PA (.object C) Z h' a (List.replicate z.toNatClampNeg .null) → OvA Z h' a C → W K l R n0 P h' (k + 1) (n + cap) (pc + 3) L (.ref a :: S)) : W K l R n0 P h k n pc L (.int z :: S) := by
  obtain ⟨p, e, s, m, args, below, meth, c⟩ := K
  obtain ⟨hx, hZ, hown, hby, hml, hret, hnm, hlk, hn0⟩ := ok
  intro T locs X eT N
  obtain ⟨T1, h1, cA, X1, e1, E1, A1, O1, st⟩ := newR X hx hZ hown w1 w2 eT (g := mkF m pc L (.int z :: S)) rfl (hb hby hd) rfl hz hcap hb1 hc hl
  have A2 : PA (.object C) Z h1 h.size (List.replicate z.toNatClampNeg .null) := by
    refine ⟨_, A1, by simpa using (back32 hz).2, by simp [newA, defaultValue], fun v hv => ?_⟩
    rw [List.eq_of_mem_replicate hv]; rfl
  obtain ⟨s₂, o, st2, r⟩ := w h1 h.size rfl (by rw [← eT]; exact old_ge hn0 X N) E1 A2 ⟨_, A1.1, O1⟩ T1 _ X1 e1 N
  exact ⟨s₂, o, st _ st2, r⟩
theorem w_aastore (ok : Ok K Z n0 own code maxL ret nm) {ty : FieldType} {C : String} {a b : Addr} {vs : List Value} {j : Int32} (hd : decode code pc = .ok (.aastore, 1)) (A : PA ty Z h a vs) (OA : OvA Z h a C) (I1 : Ins Z h b C true) (hty : ty.isReference = true) (hfit : fits ty (.ref b) = true) (ge : n0 ≤ a) (h0 : ¬ j < 0) (hj : j.toNatClampNeg < vs.length)
    (w : ∀ h', Wr h h' a j.toNatClampNeg (.ref b) → PA ty Z h' a (vs.set j.toNatClampNeg (.ref b)) → W K l R n0 P h' k n (pc + 1) L S) : W K l R n0 P h k n pc L (.ref b :: .int j :: .ref a :: S) := by
  obtain ⟨p, e, s, m, args, below, meth, c⟩ := K
  obtain ⟨hx, hZ, hown, hby, -⟩ := ok
  intro T locs X eT N
  have A0 := A
  obtain ⟨cl, A, q1, q2, q3⟩ := A
  obtain ⟨c2, y1, y2⟩ := OA
  cases A.1.symm.trans y1
  obtain ⟨T1, h1, X1, e1, W1, st⟩ := stR X hx hZ eT A (j := j) (pa_in q2 h0 hj) hty (Sto.of A y2 I1) (g := mkF m pc L (.ref b :: .int j :: .ref a :: S)) rfl rfl (hb hby hd)
  obtain ⟨s₂, o, st2, r⟩ := w h1 W1 (A0.set W1 hfit) T1 _ X1 e1 (Fr.snoc X1 N ge)
  exact ⟨s₂, o, st _ st2, r⟩
theorem frame_fin {s u : State} {L L' : List Loc} {v : Option Value} {c c' n n' : Nat} (hq : FrameEnd s (.returned v) u L c n) (N : Fr s.heap.size L) (h1 : c ≤ c') (h2 : n ≤ n') : FrameEnd s (.returned v) u L' c' n' :=
  ⟨hq.1, hq.2.1, (hq.2.2.sift fun y hy => Or.inr (N y hy)).mono h1 h2⟩
end S
end Jvm.OwnKit
namespace Jvm.Pilot.@@N@@
open Jvm Jvm.ClassFile Sem Op Lib Jvm.Free Jvm.Stand Jvm.LawKit Jvm.RoadKit Bundle Jvm.OwnKit Jvm.Pilot.@@N@@.Jvm.D
abbrev fl_IdleHeap : Fl := [("com/example/rowan/rowan/store/IdleHeap", "entries", "[I", (.array .int)), ("com/example/rowan/rowan/store/IdleHeap", "times", "[J", (.array .long)), ("com/example/rowan/rowan/store/IdleHeap", "slots", "[I", (.array .int)), ("com/example/rowan/rowan/store/IdleHeap", "size", "I", .int)]
theorem la_IdleHeap {Z : State} {a0 : Array Value} (hw : ∀ d ∈ tables_1, d.before a0 Z = true) : LA Z a0 "com/example/rowan/rowan/store/IdleHeap" fl_IdleHeap := by
  refine ⟨fun f hf => ?_, by decide⟩
  simp only [fl_IdleHeap, List.mem_cons, List.not_mem_nil, or_false] at hf
  rcases hf with rfl | rfl | rfl | rfl
  · exact ⟨Or.inl (hw _ (List.mem_of_getElem? (i := 11) rfl)), by decide⟩
  · exact ⟨Or.inl (hw _ (List.mem_of_getElem? (i := 14) rfl)), by decide⟩
  · exact ⟨Or.inl (hw _ (List.mem_of_getElem? (i := 16) rfl)), by decide⟩
  · exact ⟨Or.inl (hw _ (List.mem_of_getElem? (i := 49) rfl)), by decide⟩
def sv (N : Nat) (f : Nat → Int32) : List Value := (List.range N).map fun j => Value.int (f j)
def upd (f : Nat → Int32) (r : Nat) (v : Int32) : Nat → Int32 := fun j => if j = r then v else f j
theorem upd_same (f : Nat → Int32) (r : Nat) (v : Int32) : upd f r v r = v := if_pos rfl
theorem upd_ne {f : Nat → Int32} {r j : Nat} {v : Int32} (h : j ≠ r) : upd f r v j = f j := if_neg h
theorem sv_len (N : Nat) (f : Nat → Int32) : (sv N f).length = N := by simp [sv]
theorem sv_get {N : Nat} {f : Nat → Int32} {j : Nat} (h : j < N) : (sv N f)[j]? = some (.int (f j)) := by simp [sv, h]
theorem sv_set (N : Nat) (f : Nat → Int32) (r : Nat) (v : Int32) : (sv N f).set r (.int v) = sv N (upd f r v) := by
  apply List.ext_getElem?
  intro i
  by_cases hi : i < N
  · rw [sv_get hi]
    by_cases e : r = i
    · subst e; rw [List.getElem?_set_self (by rw [sv_len]; exact hi), upd_same]
    · rw [List.getElem?_set_ne e, sv_get hi, upd_ne (Ne.symm e)]
  · rw [List.getElem?_eq_none (by rw [List.length_set, sv_len]; omega), List.getElem?_eq_none (by rw [sv_len]; omega)]
def lv (N : Nat) (f : Nat → Int64) : List Value := (List.range N).map fun j => Value.long (f j)
def updL (f : Nat → Int64) (r : Nat) (v : Int64) : Nat → Int64 := fun j => if j = r then v else f j
theorem updL_same (f : Nat → Int64) (r : Nat) (v : Int64) : updL f r v r = v := if_pos rfl
theorem updL_ne {f : Nat → Int64} {r j : Nat} {v : Int64} (h : j ≠ r) : updL f r v j = f j := if_neg h
theorem lv_len (N : Nat) (f : Nat → Int64) : (lv N f).length = N := by simp [lv]
theorem lv_get {N : Nat} {f : Nat → Int64} {j : Nat} (h : j < N) : (lv N f)[j]? = some (.long (f j)) := by simp [lv, h]
theorem lv_set (N : Nat) (f : Nat → Int64) (r : Nat) (v : Int64) : (lv N f).set r (.long v) = lv N (updL f r v) := by
  apply List.ext_getElem?
  intro i
  by_cases hi : i < N
  · rw [lv_get hi]
    by_cases e : r = i
    · subst e; rw [List.getElem?_set_self (by rw [lv_len]; exact hi), updL_same]
    · rw [List.getElem?_set_ne e, lv_get hi, updL_ne (Ne.symm e)]
  · rw [List.getElem?_eq_none (by rw [List.length_set, lv_len]; omega), List.getElem?_eq_none (by rw [lv_len]; omega)]
theorem own_ofNat {j : Nat} (h : j < 2147483648) : (Int32.ofNat j).toInt = j := Int32.toInt_ofNat_of_lt h
theorem own_clamp {z : Int32} {n : Nat} (h : z.toInt = n) : z.toNatClampNeg = n := by rw [Int32.toNatClampNeg, h]; rfl
theorem own_nn {z : Int32} {n : Nat} (h : z.toInt = n) : ¬ z < 0 := by rw [Int32.lt_iff_toInt_lt, h]; show ¬ (n : Int) < 0; omega
theorem own_inj {a b : Nat} (ha : a < 4) (hb : b < 4) (h : Int32.ofNat a = Int32.ofNat b) : a = b := by
  have := congrArg Int32.toInt h
  rw [own_ofNat (by omega), own_ofNat (by omega)] at this; omega
theorem own_ne1 {a : Nat} (ha : a < 4) : Int32.ofNat a ≠ -1 := fun h => by
  have := congrArg Int32.toInt h
  rw [own_ofNat (by omega)] at this
  have e : (-1 : Int32).toInt = -1 := rfl
  omega
theorem own_uid (f : Nat → Int32) (r : Nat) {v : Int32} (h : f r = v) : upd f r v = f := by
  funext j; by_cases e : j = r
  · rw [e, upd_same, h]
  · rw [upd_ne e]
theorem own_uidL (f : Nat → Int64) (r : Nat) {v : Int64} (h : f r = v) : updL f r v = f := by
  funext j; by_cases e : j = r
  · rw [e, updL_same, h]
  · rw [updL_ne e]
/-- entries, times and slots hold the map M: sz entries -/
def PP (sz : Nat) (e : Nat → Int32) (τ : Nat → Int64) (g : Nat → Int32) (M : Nat → Option Int64) : Prop :=
  sz ≤ 3 ∧ (∀ i, i < sz → ∃ y, y < 4 ∧ e i = Int32.ofNat y ∧ M y = some (τ i) ∧ g y = Int32.ofNat i) ∧ (∀ y, y < 4 → (M y = none ∧ g y = -1) ∨ ∃ i, i < sz ∧ e i = Int32.ofNat y)
def HO (sz : Nat) (τ : Nat → Int64) : Prop := ∀ i, i < sz → (τ 0).toInt ≤ (τ i).toInt
def put (M : Nat → Option Int64) (y : Nat) (v : Option Int64) : Nat → Option Int64 := fun j => if j = y then v else M j
theorem put_same (M : Nat → Option Int64) (y : Nat) (v : Option Int64) : put M y v y = v := if_pos rfl
theorem put_ne {M : Nat → Option Int64} {y j : Nat} {v : Option Int64} (h : j ≠ y) : put M y v j = M j := if_neg h
theorem PP.dist {sz : Nat} {e g : Nat → Int32} {τ : Nat → Int64} {M : Nat → Option Int64} (P : PP sz e τ g M) {i j y : Nat} (hi : i < sz) (hj : j < sz) (hy : y < 4) (ei : e i = Int32.ofNat y) (ej : e j = Int32.ofNat y) : i = j := by
  obtain ⟨s, P1, -⟩ := P
  obtain ⟨a, a1, a2, -, a4⟩ := P1 i hi
  obtain ⟨b, b1, b2, -, b4⟩ := P1 j hj
  have e1 := own_inj a1 hy (a2.symm.trans ei)
  have e2 := own_inj b1 hy (b2.symm.trans ej)
  subst e1 e2
  exact own_inj (by omega) (by omega) (a4.symm.trans b4)
theorem PP.at {sz : Nat} {e g : Nat → Int32} {τ : Nat → Int64} {M : Nat → Option Int64} (P : PP sz e τ g M) {i y : Nat} (hi : i < sz) (hy : y < 4) (ei : e i = Int32.ofNat y) : M y = some (τ i) ∧ g y = Int32.ofNat i := by
  obtain ⟨s, P1, -⟩ := P
  obtain ⟨a, a1, a2, a3, a4⟩ := P1 i hi
  have e1 := own_inj a1 hy (a2.symm.trans ei)
  subst e1; exact ⟨a3, a4⟩
theorem PP.swap {sz : Nat} {e g : Nat → Int32} {τ : Nat → Int64} {M : Nat → Option Int64} (P : PP sz e τ g M) {i j yi yj : Nat} (hi : i < sz) (hj : j < sz) (hij : i ≠ j) (hyi : yi < 4) (hyj : yj < 4) (ei : e i = Int32.ofNat yi) (ej : e j = Int32.ofNat yj) :
    PP sz (upd (upd e i (Int32.ofNat yj)) j (Int32.ofNat yi)) (updL (updL τ i (τ j)) j (τ i)) (upd (upd g yj (Int32.ofNat i)) yi (Int32.ofNat j)) M := by
  have ne : yj ≠ yi := fun q => hij (P.dist hi hj hyi ei (q ▸ ej))
  obtain ⟨mi, -⟩ := P.at hi hyi ei
  obtain ⟨mj, -⟩ := P.at hj hyj ej
  have P0 := P
  obtain ⟨s, P1, P2⟩ := P
  refine ⟨s, fun k hk => ?_, fun y hy => ?_⟩
  · by_cases kj : k = j
    · subst kj; exact ⟨yi, hyi, upd_same _ _ _, by rw [updL_same]; exact mi, upd_same _ _ _⟩
    · by_cases ki : k = i
      · subst ki; exact ⟨yj, hyj, by rw [upd_ne kj, upd_same], by rw [updL_ne kj, updL_same]; exact mj, by rw [upd_ne ne, upd_same]⟩
      · obtain ⟨a, a1, a2, a3, a4⟩ := P1 k hk
        refine ⟨a, a1, by rw [upd_ne kj, upd_ne ki]; exact a2, by rw [updL_ne kj, updL_ne ki]; exact a3, ?_⟩
        rw [upd_ne, upd_ne]
        · exact a4
        · exact fun q => kj (P0.dist hk hj hyj (q ▸ a2) ej)
        · exact fun q => ki (P0.dist hk hi hyi (q ▸ a2) ei)
  · rcases P2 y hy with ⟨q1, q2⟩ | ⟨k, k1, k2⟩
    · refine Or.inl ⟨q1, ?_⟩
      rw [upd_ne, upd_ne]
      · exact q2
      · exact fun q => by rw [q, mj] at q1; cases q1
      · exact fun q => by rw [q, mi] at q1; cases q1
    · refine Or.inr ?_
      by_cases kj : k = j
      · refine ⟨i, hi, ?_⟩
        rw [upd_ne hij, upd_same, ← ej, ← kj]; exact k2
      · by_cases ki : k = i
        · refine ⟨j, hj, ?_⟩
          rw [upd_same, ← ei, ← ki]; exact k2
        · exact ⟨k, k1, by rw [upd_ne kj, upd_ne ki]; exact k2⟩
theorem PP.keep {sz : Nat} {e g : Nat → Int32} {τ : Nat → Int64} {M : Nat → Option Int64} (P : PP sz e τ g M) {i y : Nat} (hi : i < sz) (hy : y < 4) (ei : e i = Int32.ofNat y) : PP sz (upd e i (Int32.ofNat y)) (updL τ i (τ i)) (upd g y (Int32.ofNat i)) M := by
  rw [own_uid e i ei, own_uidL τ i rfl, own_uid g y (P.at hi hy ei).2]; exact P
/-- a new entry at the end -/
theorem PP.push {sz : Nat} {e g : Nat → Int32} {τ : Nat → Int64} {M : Nat → Option Int64} (P : PP sz e τ g M) (hs : sz < 3) {y : Nat} (hy : y < 4) (hM : M y = none) (v : Int64) : PP (sz + 1) (upd e sz (Int32.ofNat y)) (updL τ sz v) (upd g y (Int32.ofNat sz)) (put M y (some v)) := by
  obtain ⟨s, P1, P2⟩ := P
  refine ⟨by omega, fun k hk => ?_, fun x hx => ?_⟩
  · by_cases q : k = sz
    · subst q; exact ⟨y, hy, upd_same _ _ _, by rw [put_same, updL_same], upd_same _ _ _⟩
    · obtain ⟨a, a1, a2, a3, a4⟩ := P1 k (by omega)
      have ay : a ≠ y := fun r => by rw [r, hM] at a3; cases a3
      exact ⟨a, a1, by rw [upd_ne q]; exact a2, by rw [put_ne ay, updL_ne q]; exact a3, by rw [upd_ne ay]; exact a4⟩
  · by_cases q : x = y
    · subst q; exact Or.inr ⟨sz, by omega, upd_same _ _ _⟩
    · rcases P2 x hx with ⟨q1, q2⟩ | ⟨k, k1, k2⟩
      · exact Or.inl ⟨by rw [put_ne q]; exact q1, by rw [upd_ne q]; exact q2⟩
      · exact Or.inr ⟨k, by omega, by rw [upd_ne (by omega)]; exact k2⟩
/-- a later time -/
theorem PP.time {sz : Nat} {e g : Nat → Int32} {τ : Nat → Int64} {M : Nat → Option Int64} (P : PP sz e τ g M) {i y : Nat} (hi : i < sz) (hy : y < 4) (ei : e i = Int32.ofNat y) (v : Int64) : PP sz e (updL τ i v) g (put M y (some v)) := by
  have P0 := P
  obtain ⟨s, P1, P2⟩ := P
  obtain ⟨mi, gi⟩ := P0.at hi hy ei
  refine ⟨s, fun k hk => ?_, fun x hx => ?_⟩
  · by_cases q : k = i
    · subst q; exact ⟨y, hy, ei, by rw [put_same, updL_same], gi⟩
    · obtain ⟨a, a1, a2, a3, a4⟩ := P1 k hk
      have ay : a ≠ y := fun r => q (P0.dist hk hi hy (r ▸ a2) ei)
      exact ⟨a, a1, a2, by rw [put_ne ay, updL_ne q]; exact a3, a4⟩
  · rcases P2 x hx with ⟨q1, q2⟩ | r
    · exact Or.inl ⟨by rw [put_ne (fun q => by rw [q, mi] at q1; cases q1)]; exact q1, q2⟩
    · exact Or.inr r
/-- the last entry taken out -/
theorem PP.pop {sz : Nat} {e g : Nat → Int32} {τ : Nat → Int64} {M : Nat → Option Int64} (P : PP (sz + 1) e τ g M) {y : Nat} (hy : y < 4) (ei : e sz = Int32.ofNat y) : PP sz e τ (upd g y (-1)) (put M y none) := by
  have P0 := P
  obtain ⟨s, P1, P2⟩ := P
  refine ⟨by omega, fun k hk => ?_, fun x hx => ?_⟩
  · obtain ⟨a, a1, a2, a3, a4⟩ := P1 k (by omega)
    have ay : a ≠ y := fun r => by have := P0.dist (show k < sz + 1 by omega) (show sz < sz + 1 by omega) hy (r ▸ a2) ei; omega
    exact ⟨a, a1, a2, by rw [put_ne ay]; exact a3, by rw [upd_ne ay]; exact a4⟩
  · by_cases q : x = y
    · subst q; exact Or.inl ⟨put_same _ _ _, upd_same _ _ _⟩
    · rcases P2 x hx with ⟨q1, q2⟩ | ⟨k, k1, k2⟩
      · exact Or.inl ⟨by rw [put_ne q]; exact q1, by rw [upd_ne q]; exact q2⟩
      · refine Or.inr ⟨k, ?_, k2⟩
        rcases Nat.lt_or_ge k sz with r | r
        · exact r
        · have : k = sz := by omega
          subst this
          exact absurd (own_inj hx hy (k2.symm.trans ei)) q
/-- an entry taken out of the middle, the last one in its place -/
theorem PP.fill {sz : Nat} {e g : Nat → Int32} {τ : Nat → Int64} {M : Nat → Option Int64} (P : PP (sz + 1) e τ g M) {i y z : Nat} (hi : i < sz) (hy : y < 4) (hz : z < 4) (ei : e i = Int32.ofNat y) (ez : e sz = Int32.ofNat z) : PP sz (upd e i (Int32.ofNat z)) (updL τ i (τ sz)) (upd (upd g y (-1)) z (Int32.ofNat i)) (put M y none) := by
  have P0 := P
  have yz : z ≠ y := fun q => by have := P0.dist (show i < sz + 1 by omega) (show sz < sz + 1 by omega) hy ei (q ▸ ez); omega
  obtain ⟨mz, -⟩ := P0.at (show sz < sz + 1 by omega) hz ez
  obtain ⟨s, P1, P2⟩ := P
  refine ⟨by omega, fun k hk => ?_, fun x hx => ?_⟩
  · by_cases q : k = i
    · subst q; exact ⟨z, hz, upd_same _ _ _, by rw [put_ne yz, updL_same]; exact mz, upd_same _ _ _⟩
    · obtain ⟨a, a1, a2, a3, a4⟩ := P1 k (by omega)
      have ay : a ≠ y := fun r => q (P0.dist (by omega) (by omega) hy (r ▸ a2) ei)
      have az : a ≠ z := fun r => by have := P0.dist (show k < sz + 1 by omega) (show sz < sz + 1 by omega) hz (r ▸ a2) ez; omega
      exact ⟨a, a1, by rw [upd_ne q]; exact a2, by rw [put_ne ay, updL_ne q]; exact a3, by rw [upd_ne az, upd_ne ay]; exact a4⟩
  · by_cases q : x = y
    · subst q; exact Or.inl ⟨put_same _ _ _, by rw [upd_ne (Ne.symm yz), upd_same]⟩
    · rcases P2 x hx with ⟨q1, q2⟩ | ⟨k, k1, k2⟩
      · have xz : x ≠ z := fun r => by rw [r, mz] at q1; cases q1
        exact Or.inl ⟨by rw [put_ne q]; exact q1, by rw [upd_ne xz, upd_ne q]; exact q2⟩
      · refine Or.inr ?_
        by_cases ki : k = i
        · subst ki; exact absurd (own_inj hx hy (k2.symm.trans ei)) q
        · rcases Nat.lt_or_ge k sz with r | r
          · exact ⟨k, r, by rw [upd_ne ki]; exact k2⟩
          · have : k = sz := by omega
            subst this
            exact ⟨i, hi, by rw [upd_same, ← ez]; exact k2⟩
theorem own_ix {j : Nat} (h : j < 4) : (Int32.ofNat j).toNatClampNeg = j := own_clamp (own_ofNat (by omega))
theorem own_ix0 {j : Nat} (h : j < 4) : ¬ Int32.ofNat j < 0 := own_nn (own_ofNat (by omega))
theorem own_svg {f : Nat → Int32} {j : Nat} (h : j < 4) : (sv 4 f)[(Int32.ofNat j).toNatClampNeg]? = some (.int (f j)) := by rw [own_ix h]; exact sv_get h
theorem own_lvg {f : Nat → Int64} {j : Nat} (h : j < 4) : (lv 4 f)[(Int32.ofNat j).toNatClampNeg]? = some (.long (f j)) := by rw [own_ix h]; exact lv_get h
theorem own_svl {f : Nat → Int32} {j : Nat} (h : j < 4) : (Int32.ofNat j).toNatClampNeg < (sv 4 f).length := by rw [own_ix h, sv_len]; exact h
theorem own_lvl {f : Nat → Int64} {j : Nat} (h : j < 4) : (Int32.ofNat j).toNatClampNeg < (lv 4 f).length := by rw [own_ix h, lv_len]; exact h
theorem own_ho1 {τ : Nat → Int64} : HO 1 τ := fun i hi => by
  obtain rfl : i = 0 := by omega
  exact Int.le_refl _
theorem own_ho2 {τ : Nat → Int64} (h : ¬ τ 1 < τ 0) : HO 2 τ := fun i hi => by
  rw [Int64.lt_iff_toInt_lt] at h
  obtain rfl | rfl : i = 0 ∨ i = 1 := by omega
  · exact Int.le_refl _
  · omega
theorem own_ho3 {τ : Nat → Int64} (h : ¬ τ 1 < τ 0) (h' : ¬ τ 2 < τ 0) : HO 3 τ := fun i hi => by
  rw [Int64.lt_iff_toInt_lt] at h h'
  obtain rfl | rfl | rfl : i = 0 ∨ i = 1 ∨ i = 2 := by omega
  · exact Int.le_refl _
  · omega
  · omega
theorem own_lt64 {a b : Int64} (h : a < b) : ¬ b < a := by rw [Int64.lt_iff_toInt_lt] at *; omega
theorem own_le64 {a b : Int64} (h : a.toInt ≤ b.toInt) : ¬ b < a := by rw [Int64.lt_iff_toInt_lt]; omega
theorem own_tr64 {a b c : Int64} (h : a < b) (h' : ¬ c < b) : ¬ c < a := by rw [Int64.lt_iff_toInt_lt] at *; omega
theorem own_tr64' {a b c : Int64} (h : ¬ b < a) (h' : ¬ c < b) : ¬ c < a := by rw [Int64.lt_iff_toInt_lt] at *; omega
theorem own_u0 {τ : Nat → Int64} {i : Nat} {a c : Int64} (h : 0 ≠ i) : updL (updL τ 0 a) i c 0 = a := by rw [updL_ne h, updL_same]
theorem PP.has {sz : Nat} {e g : Nat → Int32} {τ : Nat → Int64} {M : Nat → Option Int64} (P : PP sz e τ g M) {y : Nat} {v : Int64} (hy : y < 4) (hM : M y = some v) : ∃ i, i < sz ∧ e i = Int32.ofNat y ∧ τ i = v ∧ g y = Int32.ofNat i := by
  rcases P.2.2 y hy with ⟨q, -⟩ | ⟨i, hi, ei⟩
  · rw [q] at hM; cases hM
  · obtain ⟨m, gg⟩ := P.at hi hy ei
    rw [hM] at m
    exact ⟨i, hi, ei, (Option.some.inj m).symm, gg⟩
theorem own_put0 {M : Nat → Option Int64} {y : Nat} (h : M y = none) : put M y none = M := by
  funext j; by_cases q : j = y
  · rw [q, put_same, h]
  · rw [put_ne q]
theorem own_hoU {sz f : Nat} {τ : Nat → Int64} (h : HO sz τ) : ∀ i, i < sz → i ≠ f → (τ 0).toInt ≤ (τ i).toInt := fun i hi _ => h i hi
theorem own_hoA {sz : Nat} {τ : Nat → Int64} {v : Int64} (h : HO sz τ) : ∀ i, i < sz + 1 → i ≠ sz → (updL τ sz v 0).toInt ≤ (updL τ sz v i).toInt := fun i hi q => by
  rw [updL_ne q, updL_ne (by omega)]; exact h i (by omega)
theorem own_hoD {sz i : Nat} {τ : Nat → Int64} {v w : Int64} (h : HO sz τ) (hw : τ i = w) (hv : w.toInt ≤ v.toInt) (hi : i < sz) : i ≠ 0 → HO sz (updL τ i v) := fun q j hj => by
  rw [updL_ne (Ne.symm q)]
  by_cases r : j = i
  · rw [r, updL_same]; have := h i hi; rw [hw] at this; omega
  · rw [updL_ne r]; exact h j hj
theorem own_hoR {sz i : Nat} {τ : Nat → Int64} (h : HO (sz + 1) τ) : i ≠ 0 → HO sz (updL τ i (τ sz)) := fun q j hj => by
  rw [updL_ne (Ne.symm q)]
  by_cases r : j = i
  · rw [r, updL_same]; exact h sz (by omega)
  · rw [updL_ne r]; exact h j (by omega)
theorem own_hoP {sz : Nat} {τ : Nat → Int64} (h : HO (sz + 1) τ) : HO sz τ := fun j hj => h j (by omega)
theorem d1_0 : decode prog_26_method_1_code 0 = .ok (.aload_n 0, 1) := by decide +kernel
theorem d1_1 : decode prog_26_method_1_code 1 = .ok (.invokespecial 1, 3) := by decide +kernel
theorem d1_4 : decode prog_26_method_1_code 4 = .ok (.aload_n 0, 1) := by decide +kernel
theorem d1_5 : decode prog_26_method_1_code 5 = .ok (.iconst 0, 1) := by decide +kernel
theorem d1_6 : decode prog_26_method_1_code 6 = .ok (.newarray .int, 2) := by decide +kernel
theorem d1_8 : decode prog_26_method_1_code 8 = .ok (.putfield 7, 3) := by decide +kernel
theorem d1_11 : decode prog_26_method_1_code 11 = .ok (.aload_n 0, 1) := by decide +kernel
theorem d1_12 : decode prog_26_method_1_code 12 = .ok (.iconst 0, 1) := by decide +kernel
theorem d1_13 : decode prog_26_method_1_code 13 = .ok (.newarray .long, 2) := by decide +kernel
theorem d1_15 : decode prog_26_method_1_code 15 = .ok (.putfield 13, 3) := by decide +kernel
theorem d1_18 : decode prog_26_method_1_code 18 = .ok (.aload_n 0, 1) := by decide +kernel
theorem d1_19 : decode prog_26_method_1_code 19 = .ok (.iconst 0, 1) := by decide +kernel
theorem d1_20 : decode prog_26_method_1_code 20 = .ok (.newarray .int, 2) := by decide +kernel
theorem d1_22 : decode prog_26_method_1_code 22 = .ok (.putfield 17, 3) := by decide +kernel
theorem d1_25 : decode prog_26_method_1_code 25 = .ok (.return_, 1) := by decide +kernel
theorem pn_com_example_rowan_rowan_store_IdleHeap : plainName "com/example/rowan/rowan/store/IdleHeap" = true := by first | (simp [plainName, overriddenIn]; done) | decide +kernel
set_option maxRecDepth 65536 in
set_option maxHeartbeats 40000000 in
theorem rm_ctor (l : Launch) (Z : State) (a0 : Array Value) (hw : ∀ d ∈ tables_1, d.before a0 Z = true) (ws : List Jvm.Cond) (n0 : Nat) (h0 : Heap) (Z0 : Old Z n0 h0) (t : Addr) (A_t : Ob Z h0 t "com/example/rowan/rowan/store/IdleHeap" fl_IdleHeap [.null, .null, .null, .int 0]) (ge_t : n0 ≤ t)  :
    Met l Z n0 (⟨"com/example/rowan/rowan/store/IdleHeap", "<init>", "()V"⟩ : MethodName) prog_26_method_1_code 1 none ws ({ frames := 1, cells := 3, slots := 0, locals := 12 } : Room) #[(.ref t)] h0 (fun u h => u = none ∧ ∃ en ti sl, (h0.size ≤ en ∧ h0.size ≤ ti ∧ h0.size ≤ sl) ∧ (n0 ≤ en ∧ n0 ≤ ti ∧ n0 ≤ sl) ∧ (t ≠ en ∧ t ≠ ti ∧ t ≠ sl ∧ en ≠ ti ∧ en ≠ sl ∧ ti ≠ sl) ∧ Keep h0 h [t] ∧ Ob Z h t "com/example/rowan/rowan/store/IdleHeap" fl_IdleHeap [.ref en, .ref ti, .ref sl, .int 0] ∧ PA .int Z h en [] ∧ PA .long Z h ti [] ∧ PA .int Z h sl []) := by
  refine met_of Z0 (plainFor_of_name pn_com_example_rowan_rowan_store_IdleHeap) (Ls := #[.val (.ref t)]) (fun m => by first | (simp [entryFrame, mkF, argsToLocals, Value.category]; done) | rfl) ?_
  intro K ok
  have Kp : Keep h0 h0 [t] := Keep.refl _ _
  show W K l _ n0 _ h0 0 0 0 #[.val (.ref t)] []
  refine w_aloadN ok d1_0 rfl rfl ?_
  refine w_initO ok d1_1 (hw _ (List.mem_of_getElem? (i := 6) rfl)) (hw _ (List.mem_of_getElem? (i := 7) rfl)) (hw _ (List.mem_of_getElem? (i := 8) rfl)) rfl (by decide) (Nat.le_of_ble_eq_true rfl) ?_
  show W K l _ n0 _ h0 0 0 4 #[.val (.ref t)] []
  refine w_aloadN ok d1_4 rfl rfl ?_
  refine w_iconst ok d1_5 (v := (0 : Int32)) rfl ?_
  refine w_newarray ok d1_6 (hw _ (List.mem_of_getElem? (i := 9) rfl)) (by decide) (cap := 0) (by decide) (by decide) (by decide) (by decide) (fun h2 b1 ea_b1 ge_b1 E_b1 A_b1 => ?_)
  have sz_b1 : h0.size ≤ b1 := Nat.le_trans Kp.1 (Nat.le_of_eq ea_b1.symm)
  have ne_t_b1 : t ≠ b1 := fun q => Nat.lt_irrefl _ (Nat.lt_of_lt_of_eq A_t.lt (ea_b1.symm.trans q.symm))
  replace Kp := Kp.ext E_b1
  replace A_t := A_t.ext E_b1
  replace A_b1 : PA .int Z h2 b1 [] := A_b1
  refine w_putfield ok (host := "") (f := ("com/example/rowan/rowan/store/IdleHeap", "entries", "[I", (.array .int))) 0 d1_8 (Or.inl (hw _ (List.mem_of_getElem? (i := 10) rfl))) Via.refl A_t (la_IdleHeap hw) rfl rfl (Or.inl (hw _ (List.mem_of_getElem? (i := 11) rfl))) (hw _ (List.mem_of_getElem? (i := 1) rfl)) rfl rfl ge_t (fun h3 W_h3 A1_h3 => ?_)
  replace Kp := Kp.wr W_h3 (Or.inl (by simp))
  replace A_b1 := A_b1.other W_h3 (Ne.symm ne_t_b1)
  replace A_t : Ob Z h3 t "com/example/rowan/rowan/store/IdleHeap" fl_IdleHeap [(.ref b1), .null, .null, (.int (0 : Int32))] := A1_h3
  refine w_aloadN ok d1_11 rfl rfl ?_
  refine w_iconst ok d1_12 (v := (0 : Int32)) rfl ?_
  refine w_newarray ok d1_13 (hw _ (List.mem_of_getElem? (i := 12) rfl)) (by decide) (cap := 0) (by decide) (by decide) (by decide) (by decide) (fun h5 b4 ea_b4 ge_b4 E_b4 A_b4 => ?_)
  have sz_b4 : h0.size ≤ b4 := Nat.le_trans Kp.1 (Nat.le_of_eq ea_b4.symm)
  have ne_t_b4 : t ≠ b4 := fun q => Nat.lt_irrefl _ (Nat.lt_of_lt_of_eq A_t.lt (ea_b4.symm.trans q.symm))
  have ne_b1_b4 : b1 ≠ b4 := fun q => Nat.lt_irrefl _ (Nat.lt_of_lt_of_eq A_b1.lt (ea_b4.symm.trans q.symm))
  replace Kp := Kp.ext E_b4
  replace A_t := A_t.ext E_b4
  replace A_b1 := A_b1.ext E_b4
  replace A_b4 : PA .long Z h5 b4 [] := A_b4
  refine w_putfield ok (host := "") (f := ("com/example/rowan/rowan/store/IdleHeap", "times", "[J", (.array .long))) 1 d1_15 (Or.inl (hw _ (List.mem_of_getElem? (i := 13) rfl))) Via.refl A_t (la_IdleHeap hw) rfl rfl (Or.inl (hw _ (List.mem_of_getElem? (i := 14) rfl))) (hw _ (List.mem_of_getElem? (i := 1) rfl)) rfl rfl ge_t (fun h6 W_h6 A1_h6 => ?_)
  replace Kp := Kp.wr W_h6 (Or.inl (by simp))
  replace A_b1 := A_b1.other W_h6 (Ne.symm ne_t_b1)
  replace A_b4 := A_b4.other W_h6 (Ne.symm ne_t_b4)
  replace A_t : Ob Z h6 t "com/example/rowan/rowan/store/IdleHeap" fl_IdleHeap [(.ref b1), (.ref b4), .null, (.int (0 : Int32))] := A1_h6
  refine w_aloadN ok d1_18 rfl rfl ?_
  refine w_iconst ok d1_19 (v := (0 : Int32)) rfl ?_
  refine w_newarray ok d1_20 (hw _ (List.mem_of_getElem? (i := 9) rfl)) (by decide) (cap := 0) (by decide) (by decide) (by decide) (by decide) (fun h8 b7 ea_b7 ge_b7 E_b7 A_b7 => ?_)
  have sz_b7 : h0.size ≤ b7 := Nat.le_trans Kp.1 (Nat.le_of_eq ea_b7.symm)
  have ne_t_b7 : t ≠ b7 := fun q => Nat.lt_irrefl _ (Nat.lt_of_lt_of_eq A_t.lt (ea_b7.symm.trans q.symm))
  have ne_b1_b7 : b1 ≠ b7 := fun q => Nat.lt_irrefl _ (Nat.lt_of_lt_of_eq A_b1.lt (ea_b7.symm.trans q.symm))
  have ne_b4_b7 : b4 ≠ b7 := fun q => Nat.lt_irrefl _ (Nat.lt_of_lt_of_eq A_b4.lt (ea_b7.symm.trans q.symm))
  replace Kp := Kp.ext E_b7
  replace A_t := A_t.ext E_b7
  replace A_b1 := A_b1.ext E_b7
  replace A_b4 := A_b4.ext E_b7
  replace A_b7 : PA .int Z h8 b7 [] := A_b7
  refine w_putfield ok (host := "") (f := ("com/example/rowan/rowan/store/IdleHeap", "slots", "[I", (.array .int))) 2 d1_22 (Or.inl (hw _ (List.mem_of_getElem? (i := 15) rfl))) Via.refl A_t (la_IdleHeap hw) rfl rfl (Or.inl (hw _ (List.mem_of_getElem? (i := 16) rfl))) (hw _ (List.mem_of_getElem? (i := 1) rfl)) rfl rfl ge_t (fun h9 W_h9 A1_h9 => ?_)
  replace Kp := Kp.wr W_h9 (Or.inl (by simp))
  replace A_b1 := A_b1.other W_h9 (Ne.symm ne_t_b1)
  replace A_b4 := A_b4.other W_h9 (Ne.symm ne_t_b4)
  replace A_b7 := A_b7.other W_h9 (Ne.symm ne_t_b7)
  replace A_t : Ob Z h9 t "com/example/rowan/rowan/store/IdleHeap" fl_IdleHeap [(.ref b1), (.ref b4), (.ref b7), (.int (0 : Int32))] := A1_h9
  refine w_ret ok d1_25 (by decide) (by decide) ?_
  exact ⟨rfl, b1, b4, b7, ⟨sz_b1, sz_b4, sz_b7⟩, ⟨ge_b1, ge_b4, ge_b7⟩, ⟨ne_t_b1, ne_t_b4, ne_t_b7, ne_b1_b4, ne_b1_b7, ne_b4_b7⟩, Kp, A_t, A_b1, A_b4, A_b7⟩
def own_min (a b : Int32) : Int32 := if b < a then b else a
theorem own_min_lt {a b : Int32} (h : a.toNatClampNeg < b.toNatClampNeg) (h0 : ¬ a < 0) (h1 : ¬ b < 0) : own_min a b = a := by
  rw [own_min, if_neg]
  have e1 := nat_of h0; have e2 := nat_of h1
  rw [Int32.lt_iff_toInt_lt]; omega
theorem d5_0 : decode jdk_29_method_69_code 0 = .ok (.iload_n 0, 1) := by decide +kernel
theorem d5_1 : decode jdk_29_method_69_code 1 = .ok (.iload_n 1, 1) := by decide +kernel
theorem d5_2 : decode jdk_29_method_69_code 2 = .ok (.if_icmp .gt 7, 3) := by decide +kernel
theorem d5_5 : decode jdk_29_method_69_code 5 = .ok (.iload_n 0, 1) := by decide +kernel
theorem d5_6 : decode jdk_29_method_69_code 6 = .ok (.goto 4, 3) := by decide +kernel
theorem d5_9 : decode jdk_29_method_69_code 9 = .ok (.iload_n 1, 1) := by decide +kernel
theorem d5_10 : decode jdk_29_method_69_code 10 = .ok (.ireturn, 1) := by decide +kernel
set_option maxRecDepth 65536 in
set_option maxHeartbeats 40000000 in
theorem rm_min (l : Launch) (Z : State) (a0 : Array Value) (hw : ∀ d ∈ tables_1, d.before a0 Z = true) (ws : List Jvm.Cond) (n0 : Nat) (h0 : Heap) (Z0 : Old Z n0 h0) (a b : Int32)  :
    Met l Z n0 (⟨"java/lang/Math", "min", "(II)I"⟩ : MethodName) jdk_29_method_69_code 2 (some .int) ws ({ frames := 0, cells := 0, slots := 0, locals := 0 } : Room) #[(.int a), (.int b)] h0 (fun u h => u = some (.int (own_min a b)) ∧ h0 = h) := by
  refine met_of Z0 (Jvm.Free.JP.mathPlain rfl (by decide +kernel)) (Ls := #[.val (.int a), .val (.int b)]) (fun m => by first | (simp [entryFrame, mkF, argsToLocals, Value.category]; done) | rfl) ?_
  intro K ok
  show W K l _ n0 _ h0 0 0 0 #[.val (.int a), .val (.int b)] []
  refine w_iloadN ok d5_0 rfl ?_
  refine w_iloadN ok d5_1 rfl ?_
  refine w_icmp_gt ok d5_2 (pc' := 9) (by decide) (fun hc1 => ?_) (fun hc1 => ?_)
  · show W K l _ n0 _ h0 0 0 9 #[.val (.int a), .val (.int b)] []
    refine w_iloadN ok d5_9 rfl ?_
    refine w_iret ok d5_10 (by decide) (by decide) ?_
    exact ⟨by simp [own_min, *], rfl⟩
  · show W K l _ n0 _ h0 0 0 5 #[.val (.int a), .val (.int b)] []
    refine w_iloadN ok d5_5 rfl ?_
    refine w_goto ok d5_6 (pc' := 10) (by decide) ?_
    refine w_iret ok d5_10 (by decide) (by decide) ?_
    exact ⟨by simp [own_min, *], rfl⟩
theorem d4_0 : decode jdk_65_method_123_code 0 = .ok (.iload_n 1, 1) := by decide +kernel
theorem d4_1 : decode jdk_65_method_123_code 1 = .ok (.aload_n 0, 1) := by decide +kernel
theorem d4_2 : decode jdk_65_method_123_code 2 = .ok (.arraylength, 1) := by decide +kernel
theorem d4_3 : decode jdk_65_method_123_code 3 = .ok (.if_icmp .ne 11, 3) := by decide +kernel
theorem d4_6 : decode jdk_65_method_123_code 6 = .ok (.aload_n 0, 1) := by decide +kernel
theorem d4_7 : decode jdk_65_method_123_code 7 = .ok (.invokevirtual 316, 3) := by decide +kernel
theorem d4_10 : decode jdk_65_method_123_code 10 = .ok (.checkcast 317, 3) := by decide +kernel
theorem d4_13 : decode jdk_65_method_123_code 13 = .ok (.areturn, 1) := by decide +kernel
theorem d4_14 : decode jdk_65_method_123_code 14 = .ok (.iload_n 1, 1) := by decide +kernel
theorem d4_15 : decode jdk_65_method_123_code 15 = .ok (.newarray .int, 2) := by decide +kernel
theorem d4_17 : decode jdk_65_method_123_code 17 = .ok (.astore_n 2, 1) := by decide +kernel
theorem d4_18 : decode jdk_65_method_123_code 18 = .ok (.aload_n 0, 1) := by decide +kernel
theorem d4_19 : decode jdk_65_method_123_code 19 = .ok (.iconst 0, 1) := by decide +kernel
theorem d4_20 : decode jdk_65_method_123_code 20 = .ok (.aload_n 2, 1) := by decide +kernel
theorem d4_21 : decode jdk_65_method_123_code 21 = .ok (.iconst 0, 1) := by decide +kernel
theorem d4_22 : decode jdk_65_method_123_code 22 = .ok (.aload_n 0, 1) := by decide +kernel
theorem d4_23 : decode jdk_65_method_123_code 23 = .ok (.arraylength, 1) := by decide +kernel
theorem d4_24 : decode jdk_65_method_123_code 24 = .ok (.iload_n 1, 1) := by decide +kernel
theorem d4_25 : decode jdk_65_method_123_code 25 = .ok (.invokestatic 304, 3) := by decide +kernel
theorem d4_28 : decode jdk_65_method_123_code 28 = .ok (.invokestatic 150, 3) := by decide +kernel
theorem d4_31 : decode jdk_65_method_123_code 31 = .ok (.aload_n 2, 1) := by decide +kernel
theorem d4_32 : decode jdk_65_method_123_code 32 = .ok (.areturn, 1) := by decide +kernel
theorem pn_java_util_Arrays : plainName "java/util/Arrays" = true := by first | (simp [plainName, overriddenIn]; done) | decide +kernel
theorem pd_28II29I : parseMethodDescriptor "(II)I" = some ⟨[.int, .int], some .int⟩ := by decide +kernel
set_option maxRecDepth 65536 in
set_option maxHeartbeats 40000000 in
theorem cp_int (l : Launch) (Z : State) (a0 : Array Value) (hw : ∀ d ∈ tables_1, d.before a0 Z = true) (ws : List Jvm.Cond) (n0 : Nat) (h0 : Heap) (Z0 : Old Z n0 h0) (a : Addr) (vs : List Value) (z : Int32) (A_a : PA .int Z h0 a vs) (hz : vs.length < z.toNatClampNeg) (hz0 : ¬ z < 0) (hcap : z.toNatClampNeg ≤ 4)  :
    Met l Z n0 (⟨"java/util/Arrays", "copyOf", "([II)[I"⟩ : MethodName) jdk_65_method_123_code 3 (some (.array .int)) ws ({ frames := 1, cells := 1, slots := 4, locals := 18 } : Room) #[(.ref a), (.int z)] h0 (fun u h => ∃ b, u = some (.ref b) ∧ h0.size ≤ b ∧ n0 ≤ b ∧ Keep h0 h [] ∧ PA .int Z h b (vs ++ List.replicate (z.toNatClampNeg - vs.length) (Value.int 0))) := by
  refine met_of Z0 (plainFor_of_name pn_java_util_Arrays) (Ls := #[.val (.ref a), .val (.int z), .unset]) (fun m => by first | (simp [entryFrame, mkF, argsToLocals, Value.category]; done) | rfl) ?_
  intro K ok
  have Kp : Keep h0 h0 [] := Keep.refl _ _
  obtain ⟨q, hq, hq0⟩ := pa_z A_a.len
  show W K l _ n0 _ h0 0 0 0 #[.val (.ref a), .val (.int z), .unset] []
  refine w_iloadN ok d4_0 rfl ?_
  refine w_aloadN ok d4_1 rfl rfl ?_
  refine w_arraylength ok (z := q) d4_2 A_a hq hq0 ?_
  show W K l _ n0 _ h0 0 0 3 #[.val (.ref a), .val (.int z), .unset] [(.int q), (.int z)]
  refine w_icmp_ne ok d4_3 (pc' := 14) (by decide) (fun hc1 => ?_) (fun hc1 => False.elim (by rw [hc1] at hz; omega))
  show W K l _ n0 _ h0 0 0 14 #[.val (.ref a), .val (.int z), .unset] []
  refine w_iloadN ok d4_14 rfl ?_
  refine w_newarray ok d4_15 (hw _ (List.mem_of_getElem? (i := 9) rfl)) hz0 (cap := 4) hcap (by decide) (by decide) (by decide) (fun h3 b2 ea_b2 ge_b2 E_b2 A_b2 => ?_)
  have sz_b2 : h0.size ≤ b2 := Nat.le_trans Kp.1 (Nat.le_of_eq ea_b2.symm)
  have ne_a_b2 : a ≠ b2 := fun q => Nat.lt_irrefl _ (Nat.lt_of_lt_of_eq A_a.lt (ea_b2.symm.trans q.symm))
  replace Kp := Kp.ext E_b2
  replace A_a := A_a.ext E_b2
  replace A_b2 : PA .int Z h3 b2 (List.replicate z.toNatClampNeg (.int (0 : Int32))) := A_b2
  refine w_astoreN ok d4_17 rfl (L' := #[.val (.ref a), .val (.int z), .val (.ref b2)]) rfl ?_
  refine w_aloadN ok d4_18 rfl rfl ?_
  refine w_iconst ok d4_19 (v := (0 : Int32)) rfl ?_
  refine w_aloadN ok d4_20 rfl rfl ?_
  refine w_iconst ok d4_21 (v := (0 : Int32)) rfl ?_
  refine w_aloadN ok d4_22 rfl rfl ?_
  refine w_arraylength ok (z := q) d4_23 A_a hq hq0 ?_
  show W K l _ n0 _ h3 1 4 24 #[.val (.ref a), .val (.int z), .val (.ref b2)] [(.int q), (.int (0 : Int32)), (.ref b2), (.int (0 : Int32)), (.ref a)]
  refine w_iloadN ok d4_24 rfl ?_
  refine w_callS ok (y := (⟨"java/lang/Math", "min", "(II)I"⟩ : MethodName)) (argsL := [(.int q), (.int z)]) (rest := [(.int (0 : Int32)), (.ref b2), (.int (0 : Int32)), (.ref a)]) d4_25 (hw _ (List.mem_of_getElem? (i := 26) rfl)) (hw _ (List.mem_of_getElem? (i := 27) rfl)) (hw _ (List.mem_of_getElem? (i := 28) rfl)) (hw _ (List.mem_of_getElem? (i := 29) rfl)) (by decide) pd_28II29I rfl rfl (by decide) (Nat.le_of_ble_eq_true rfl) (by decide) (by decide) (fun z0 => rm_min l Z a0 hw [] n0 h3 z0 q z) (fun v4 h5 qv4 => ?_)
  obtain ⟨rfl, rfl⟩ := qv4
  rw [own_min_lt (a := q) (b := z) (by omega) hq0 hz0]
  show W K l _ n0 _ h3 1 4 28 #[.val (.ref a), .val (.int z), .val (.ref b2)] [(.int q), (.int (0 : Int32)), (.ref b2), (.int (0 : Int32)), (.ref a)]
  refine w_arraycopy ok (sp' := 0) (dp' := 0) (nn' := vs.length) d4_28 (hw _ (List.mem_of_getElem? (i := 30) rfl)) (hw _ (List.mem_of_getElem? (i := 33) rfl)) (hw _ (List.mem_of_getElem? (i := 31) rfl)) (hw _ (List.mem_of_getElem? (i := 32) rfl)) A_a A_b2 rfl ge_b2 (by decide) (by decide) hq0 rfl rfl hq.symm (by omega) (by simp; omega) rfl (by decide) (Nat.le_of_ble_eq_true rfl) (fun h6 K_h6 A1_h6 => ?_)
  replace Kp := Kp.trans K_h6 (allS (Or.inr sz_b2) all0)
  replace A_a := A_a.keep K_h6 (ninS ne_a_b2 nin0)
  replace A_b2 : PA .int Z h6 b2 (vs ++ List.replicate (z.toNatClampNeg - vs.length) (Value.int 0)) := (by simpa using A1_h6)
  show W K l _ n0 _ h6 1 4 31 #[.val (.ref a), .val (.int z), .val (.ref b2)] []
  refine w_aloadN ok d4_31 rfl rfl ?_
  refine w_aret ok rfl rfl d4_32 (by decide) (by decide) ?_
  exact ⟨b2, rfl, sz_b2, ge_b2, Kp, A_b2⟩
theorem d6_0 : decode jdk_65_method_124_code 0 = .ok (.iload_n 1, 1) := by decide +kernel
theorem d6_1 : decode jdk_65_method_124_code 1 = .ok (.aload_n 0, 1) := by decide +kernel
theorem d6_2 : decode jdk_65_method_124_code 2 = .ok (.arraylength, 1) := by decide +kernel
theorem d6_3 : decode jdk_65_method_124_code 3 = .ok (.if_icmp .ne 11, 3) := by decide +kernel
theorem d6_6 : decode jdk_65_method_124_code 6 = .ok (.aload_n 0, 1) := by decide +kernel
theorem d6_7 : decode jdk_65_method_124_code 7 = .ok (.invokevirtual 319, 3) := by decide +kernel
theorem d6_10 : decode jdk_65_method_124_code 10 = .ok (.checkcast 320, 3) := by decide +kernel
theorem d6_13 : decode jdk_65_method_124_code 13 = .ok (.areturn, 1) := by decide +kernel
theorem d6_14 : decode jdk_65_method_124_code 14 = .ok (.iload_n 1, 1) := by decide +kernel
theorem d6_15 : decode jdk_65_method_124_code 15 = .ok (.newarray .long, 2) := by decide +kernel
theorem d6_17 : decode jdk_65_method_124_code 17 = .ok (.astore_n 2, 1) := by decide +kernel
theorem d6_18 : decode jdk_65_method_124_code 18 = .ok (.aload_n 0, 1) := by decide +kernel
theorem d6_19 : decode jdk_65_method_124_code 19 = .ok (.iconst 0, 1) := by decide +kernel
theorem d6_20 : decode jdk_65_method_124_code 20 = .ok (.aload_n 2, 1) := by decide +kernel
theorem d6_21 : decode jdk_65_method_124_code 21 = .ok (.iconst 0, 1) := by decide +kernel
theorem d6_22 : decode jdk_65_method_124_code 22 = .ok (.aload_n 0, 1) := by decide +kernel
theorem d6_23 : decode jdk_65_method_124_code 23 = .ok (.arraylength, 1) := by decide +kernel
theorem d6_24 : decode jdk_65_method_124_code 24 = .ok (.iload_n 1, 1) := by decide +kernel
theorem d6_25 : decode jdk_65_method_124_code 25 = .ok (.invokestatic 304, 3) := by decide +kernel
theorem d6_28 : decode jdk_65_method_124_code 28 = .ok (.invokestatic 150, 3) := by decide +kernel
theorem d6_31 : decode jdk_65_method_124_code 31 = .ok (.aload_n 2, 1) := by decide +kernel
theorem d6_32 : decode jdk_65_method_124_code 32 = .ok (.areturn, 1) := by decide +kernel
set_option maxRecDepth 65536 in
set_option maxHeartbeats 40000000 in
theorem cp_long (l : Launch) (Z : State) (a0 : Array Value) (hw : ∀ d ∈ tables_1, d.before a0 Z = true) (ws : List Jvm.Cond) (n0 : Nat) (h0 : Heap) (Z0 : Old Z n0 h0) (a : Addr) (vs : List Value) (z : Int32) (A_a : PA .long Z h0 a vs) (hz : vs.length < z.toNatClampNeg) (hz0 : ¬ z < 0) (hcap : z.toNatClampNeg ≤ 4)  :
    Met l Z n0 (⟨"java/util/Arrays", "copyOf", "([JI)[J"⟩ : MethodName) jdk_65_method_124_code 3 (some (.array .long)) ws ({ frames := 1, cells := 1, slots := 4, locals := 18 } : Room) #[(.ref a), (.int z)] h0 (fun u h => ∃ b, u = some (.ref b) ∧ h0.size ≤ b ∧ n0 ≤ b ∧ Keep h0 h [] ∧ PA .long Z h b (vs ++ List.replicate (z.toNatClampNeg - vs.length) (Value.long 0))) := by
  refine met_of Z0 (plainFor_of_name pn_java_util_Arrays) (Ls := #[.val (.ref a), .val (.int z), .unset]) (fun m => by first | (simp [entryFrame, mkF, argsToLocals, Value.category]; done) | rfl) ?_
  intro K ok
  have Kp : Keep h0 h0 [] := Keep.refl _ _
  obtain ⟨q, hq, hq0⟩ := pa_z A_a.len
  show W K l _ n0 _ h0 0 0 0 #[.val (.ref a), .val (.int z), .unset] []
  refine w_iloadN ok d6_0 rfl ?_
  refine w_aloadN ok d6_1 rfl rfl ?_
  refine w_arraylength ok (z := q) d6_2 A_a hq hq0 ?_
  show W K l _ n0 _ h0 0 0 3 #[.val (.ref a), .val (.int z), .unset] [(.int q), (.int z)]
  refine w_icmp_ne ok d6_3 (pc' := 14) (by decide) (fun hc1 => ?_) (fun hc1 => False.elim (by rw [hc1] at hz; omega))
  show W K l _ n0 _ h0 0 0 14 #[.val (.ref a), .val (.int z), .unset] []
  refine w_iloadN ok d6_14 rfl ?_
  refine w_newarray ok d6_15 (hw _ (List.mem_of_getElem? (i := 12) rfl)) hz0 (cap := 4) hcap (by decide) (by decide) (by decide) (fun h3 b2 ea_b2 ge_b2 E_b2 A_b2 => ?_)
  have sz_b2 : h0.size ≤ b2 := Nat.le_trans Kp.1 (Nat.le_of_eq ea_b2.symm)
  have ne_a_b2 : a ≠ b2 := fun q => Nat.lt_irrefl _ (Nat.lt_of_lt_of_eq A_a.lt (ea_b2.symm.trans q.symm))
  replace Kp := Kp.ext E_b2
  replace A_a := A_a.ext E_b2
  replace A_b2 : PA .long Z h3 b2 (List.replicate z.toNatClampNeg (.long (0 : Int64))) := A_b2
  refine w_astoreN ok d6_17 rfl (L' := #[.val (.ref a), .val (.int z), .val (.ref b2)]) rfl ?_
  refine w_aloadN ok d6_18 rfl rfl ?_
  refine w_iconst ok d6_19 (v := (0 : Int32)) rfl ?_
  refine w_aloadN ok d6_20 rfl rfl ?_
  refine w_iconst ok d6_21 (v := (0 : Int32)) rfl ?_
  refine w_aloadN ok d6_22 rfl rfl ?_
  refine w_arraylength ok (z := q) d6_23 A_a hq hq0 ?_
  show W K l _ n0 _ h3 1 4 24 #[.val (.ref a), .val (.int z), .val (.ref b2)] [(.int q), (.int (0 : Int32)), (.ref b2), (.int (0 : Int32)), (.ref a)]
  refine w_iloadN ok d6_24 rfl ?_
  refine w_callS ok (y := (⟨"java/lang/Math", "min", "(II)I"⟩ : MethodName)) (argsL := [(.int q), (.int z)]) (rest := [(.int (0 : Int32)), (.ref b2), (.int (0 : Int32)), (.ref a)]) d6_25 (hw _ (List.mem_of_getElem? (i := 26) rfl)) (hw _ (List.mem_of_getElem? (i := 27) rfl)) (hw _ (List.mem_of_getElem? (i := 28) rfl)) (hw _ (List.mem_of_getElem? (i := 29) rfl)) (by decide) pd_28II29I rfl rfl (by decide) (Nat.le_of_ble_eq_true rfl) (by decide) (by decide) (fun z0 => rm_min l Z a0 hw [] n0 h3 z0 q z) (fun v4 h5 qv4 => ?_)
  obtain ⟨rfl, rfl⟩ := qv4
  rw [own_min_lt (a := q) (b := z) (by omega) hq0 hz0]
  show W K l _ n0 _ h3 1 4 28 #[.val (.ref a), .val (.int z), .val (.ref b2)] [(.int q), (.int (0 : Int32)), (.ref b2), (.int (0 : Int32)), (.ref a)]
  refine w_arraycopy ok (sp' := 0) (dp' := 0) (nn' := vs.length) d6_28 (hw _ (List.mem_of_getElem? (i := 30) rfl)) (hw _ (List.mem_of_getElem? (i := 33) rfl)) (hw _ (List.mem_of_getElem? (i := 31) rfl)) (hw _ (List.mem_of_getElem? (i := 32) rfl)) A_a A_b2 rfl ge_b2 (by decide) (by decide) hq0 rfl rfl hq.symm (by omega) (by simp; omega) rfl (by decide) (Nat.le_of_ble_eq_true rfl) (fun h6 K_h6 A1_h6 => ?_)
  replace Kp := Kp.trans K_h6 (allS (Or.inr sz_b2) all0)
  replace A_a := A_a.keep K_h6 (ninS ne_a_b2 nin0)
  replace A_b2 : PA .long Z h6 b2 (vs ++ List.replicate (z.toNatClampNeg - vs.length) (Value.long 0)) := (by simpa using A1_h6)
  show W K l _ n0 _ h6 1 4 31 #[.val (.ref a), .val (.int z), .val (.ref b2)] []
  refine w_aloadN ok d6_31 rfl rfl ?_
  refine w_aret ok rfl rfl d6_32 (by decide) (by decide) ?_
  exact ⟨b2, rfl, sz_b2, ge_b2, Kp, A_b2⟩
theorem d8_0 : decode jdk_65_method_30_code 0 = .ok (.iload_n 1, 1) := by decide +kernel
theorem d8_1 : decode jdk_65_method_30_code 1 = .ok (.iload_n 2, 1) := by decide +kernel
theorem d8_2 : decode jdk_65_method_30_code 2 = .ok (.if_icmp .le 44, 3) := by decide +kernel
theorem d8_5 : decode jdk_65_method_30_code 5 = .ok (.new 43, 3) := by decide +kernel
theorem d8_8 : decode jdk_65_method_30_code 8 = .ok (.dup, 1) := by decide +kernel
theorem d8_9 : decode jdk_65_method_30_code 9 = .ok (.new 45, 3) := by decide +kernel
theorem d8_12 : decode jdk_65_method_30_code 12 = .ok (.dup, 1) := by decide +kernel
theorem d8_13 : decode jdk_65_method_30_code 13 = .ok (.invokespecial 47, 3) := by decide +kernel
theorem d8_16 : decode jdk_65_method_30_code 16 = .ok (.ldc 48, 2) := by decide +kernel
theorem d8_18 : decode jdk_65_method_30_code 18 = .ok (.invokevirtual 50, 3) := by decide +kernel
theorem d8_21 : decode jdk_65_method_30_code 21 = .ok (.iload_n 1, 1) := by decide +kernel
theorem d8_22 : decode jdk_65_method_30_code 22 = .ok (.invokevirtual 54, 3) := by decide +kernel
theorem d8_25 : decode jdk_65_method_30_code 25 = .ok (.ldc 57, 2) := by decide +kernel
theorem d8_27 : decode jdk_65_method_30_code 27 = .ok (.invokevirtual 50, 3) := by decide +kernel
theorem d8_30 : decode jdk_65_method_30_code 30 = .ok (.iload_n 2, 1) := by decide +kernel
theorem d8_31 : decode jdk_65_method_30_code 31 = .ok (.invokevirtual 54, 3) := by decide +kernel
theorem d8_34 : decode jdk_65_method_30_code 34 = .ok (.ldc 59, 2) := by decide +kernel
theorem d8_36 : decode jdk_65_method_30_code 36 = .ok (.invokevirtual 50, 3) := by decide +kernel
theorem d8_39 : decode jdk_65_method_30_code 39 = .ok (.invokevirtual 61, 3) := by decide +kernel
theorem d8_42 : decode jdk_65_method_30_code 42 = .ok (.invokespecial 65, 3) := by decide +kernel
theorem d8_46 : decode jdk_65_method_30_code 46 = .ok (.iload_n 1, 1) := by decide +kernel
theorem d8_47 : decode jdk_65_method_30_code 47 = .ok (.ifCond .ge 12, 3) := by decide +kernel
theorem d8_50 : decode jdk_65_method_30_code 50 = .ok (.new 68, 3) := by decide +kernel
theorem d8_53 : decode jdk_65_method_30_code 53 = .ok (.dup, 1) := by decide +kernel
theorem d8_54 : decode jdk_65_method_30_code 54 = .ok (.iload_n 1, 1) := by decide +kernel
theorem d8_55 : decode jdk_65_method_30_code 55 = .ok (.invokespecial 70, 3) := by decide +kernel
theorem d8_59 : decode jdk_65_method_30_code 59 = .ok (.iload_n 2, 1) := by decide +kernel
theorem d8_60 : decode jdk_65_method_30_code 60 = .ok (.iload_n 0, 1) := by decide +kernel
theorem d8_61 : decode jdk_65_method_30_code 61 = .ok (.if_icmp .le 12, 3) := by decide +kernel
theorem d8_64 : decode jdk_65_method_30_code 64 = .ok (.new 68, 3) := by decide +kernel
theorem d8_67 : decode jdk_65_method_30_code 67 = .ok (.dup, 1) := by decide +kernel
theorem d8_68 : decode jdk_65_method_30_code 68 = .ok (.iload_n 2, 1) := by decide +kernel
theorem d8_69 : decode jdk_65_method_30_code 69 = .ok (.invokespecial 70, 3) := by decide +kernel
theorem d8_73 : decode jdk_65_method_30_code 73 = .ok (.return_, 1) := by decide +kernel
set_option maxRecDepth 65536 in
set_option maxHeartbeats 40000000 in
theorem rm_rc (l : Launch) (Z : State) (a0 : Array Value) (hw : ∀ d ∈ tables_1, d.before a0 Z = true) (ws : List Jvm.Cond) (n0 : Nat) (h0 : Heap) (Z0 : Old Z n0 h0)   :
    Met l Z n0 (⟨"java/util/Arrays", "rangeCheck", "(III)V"⟩ : MethodName) jdk_65_method_30_code 3 none ws ({ frames := 0, cells := 0, slots := 0, locals := 0 } : Room) #[(.int (4 : Int32)), (.int (0 : Int32)), (.int (4 : Int32))] h0 (fun u h => u = none ∧ h0 = h) := by
  refine met_of Z0 (plainFor_of_name pn_java_util_Arrays) (Ls := #[.val (.int (4 : Int32)), .val (.int (0 : Int32)), .val (.int (4 : Int32))]) (fun m => by first | (simp [entryFrame, mkF, argsToLocals, Value.category]; done) | rfl) ?_
  intro K ok
  show W K l _ n0 _ h0 0 0 0 #[.val (.int (4 : Int32)), .val (.int (0 : Int32)), .val (.int (4 : Int32))] []
  refine w_iloadN ok d8_0 rfl ?_
  refine w_iloadN ok d8_1 rfl ?_
  refine w_icmp_le ok d8_2 (pc' := 46) (by decide) (fun hc1 => ?_) (fun hc1 => False.elim (by revert hc1; decide))
  show W K l _ n0 _ h0 0 0 46 #[.val (.int (4 : Int32)), .val (.int (0 : Int32)), .val (.int (4 : Int32))] []
  refine w_iloadN ok d8_46 rfl ?_
  refine w_if_ge ok d8_47 (pc' := 59) (by decide) (fun hc3 => ?_) (fun hc3 => False.elim (by revert hc3; decide))
  show W K l _ n0 _ h0 0 0 59 #[.val (.int (4 : Int32)), .val (.int (0 : Int32)), .val (.int (4 : Int32))] []
  refine w_iloadN ok d8_59 rfl ?_
  refine w_iloadN ok d8_60 rfl ?_
  refine w_icmp_le ok d8_61 (pc' := 73) (by decide) (fun hc5 => ?_) (fun hc5 => False.elim (by revert hc5; decide))
  show W K l _ n0 _ h0 0 0 73 #[.val (.int (4 : Int32)), .val (.int (0 : Int32)), .val (.int (4 : Int32))] []
  refine w_ret ok d8_73 (by decide) (by decide) ?_
  exact ⟨rfl, rfl⟩
theorem d7_0 : decode jdk_65_method_104_code 0 = .ok (.aload_n 0, 1) := by decide +kernel
theorem d7_1 : decode jdk_65_method_104_code 1 = .ok (.arraylength, 1) := by decide +kernel
theorem d7_2 : decode jdk_65_method_104_code 2 = .ok (.iload_n 1, 1) := by decide +kernel
theorem d7_3 : decode jdk_65_method_104_code 3 = .ok (.iload_n 2, 1) := by decide +kernel
theorem d7_4 : decode jdk_65_method_104_code 4 = .ok (.invokestatic 13, 3) := by decide +kernel
theorem d7_7 : decode jdk_65_method_104_code 7 = .ok (.iload_n 1, 1) := by decide +kernel
theorem d7_8 : decode jdk_65_method_104_code 8 = .ok (.istore 4, 2) := by decide +kernel
theorem d7_10 : decode jdk_65_method_104_code 10 = .ok (.iload 4, 2) := by decide +kernel
theorem d7_12 : decode jdk_65_method_104_code 12 = .ok (.iload_n 2, 1) := by decide +kernel
theorem d7_13 : decode jdk_65_method_104_code 13 = .ok (.if_icmp .ge 14, 3) := by decide +kernel
theorem d7_16 : decode jdk_65_method_104_code 16 = .ok (.aload_n 0, 1) := by decide +kernel
theorem d7_17 : decode jdk_65_method_104_code 17 = .ok (.iload 4, 2) := by decide +kernel
theorem d7_19 : decode jdk_65_method_104_code 19 = .ok (.iload_n 3, 1) := by decide +kernel
theorem d7_20 : decode jdk_65_method_104_code 20 = .ok (.iastore, 1) := by decide +kernel
theorem d7_21 : decode jdk_65_method_104_code 21 = .ok (.iinc 4 1, 3) := by decide +kernel
theorem d7_24 : decode jdk_65_method_104_code 24 = .ok (.goto (-14), 3) := by decide +kernel
theorem d7_27 : decode jdk_65_method_104_code 27 = .ok (.return_, 1) := by decide +kernel
theorem pd_28III29V : parseMethodDescriptor "(III)V" = some ⟨[.int, .int, .int], none⟩ := by decide +kernel
set_option maxRecDepth 65536 in
set_option maxHeartbeats 40000000 in
theorem rm_fill (l : Launch) (Z : State) (a0 : Array Value) (hw : ∀ d ∈ tables_1, d.before a0 Z = true) (ws : List Jvm.Cond) (n0 : Nat) (h0 : Heap) (Z0 : Old Z n0 h0) (a : Addr) (A_a : PA .int Z h0 a [(.int (0 : Int32)), (.int (0 : Int32)), (.int (0 : Int32)), (.int (0 : Int32))]) (ge_a : n0 ≤ a)  :
    Met l Z n0 (⟨"java/util/Arrays", "fill", "([IIII)V"⟩ : MethodName) jdk_65_method_104_code 5 none ws ({ frames := 1, cells := 0, slots := 0, locals := 14 } : Room) #[(.ref a), (.int (0 : Int32)), (.int (4 : Int32)), (.int (-1 : Int32))] h0 (fun u h => u = none ∧ Keep h0 h [a] ∧ PA .int Z h a [(.int (-1 : Int32)), (.int (-1 : Int32)), (.int (-1 : Int32)), (.int (-1 : Int32))]) := by
  refine met_of Z0 (plainFor_of_name pn_java_util_Arrays) (Ls := #[.val (.ref a), .val (.int (0 : Int32)), .val (.int (4 : Int32)), .val (.int (-1 : Int32)), .unset]) (fun m => by first | (simp [entryFrame, mkF, argsToLocals, Value.category]; done) | rfl) ?_
  intro K ok
  have Kp : Keep h0 h0 [a] := Keep.refl _ _
  show W K l _ n0 _ h0 0 0 0 #[.val (.ref a), .val (.int (0 : Int32)), .val (.int (4 : Int32)), .val (.int (-1 : Int32)), .unset] []
  refine w_aloadN ok d7_0 rfl rfl ?_
  refine w_arraylength ok (z := (4 : Int32)) d7_1 A_a rfl (by decide) ?_
  show W K l _ n0 _ h0 0 0 2 #[.val (.ref a), .val (.int (0 : Int32)), .val (.int (4 : Int32)), .val (.int (-1 : Int32)), .unset] [(.int (4 : Int32))]
  refine w_iloadN ok d7_2 rfl ?_
  refine w_iloadN ok d7_3 rfl ?_
  refine w_callS ok (y := (⟨"java/util/Arrays", "rangeCheck", "(III)V"⟩ : MethodName)) (argsL := [(.int (4 : Int32)), (.int (0 : Int32)), (.int (4 : Int32))]) (rest := []) d7_4 (hw _ (List.mem_of_getElem? (i := 40) rfl)) (hw _ (List.mem_of_getElem? (i := 41) rfl)) (hw _ (List.mem_of_getElem? (i := 24) rfl)) (hw _ (List.mem_of_getElem? (i := 42) rfl)) (by decide) pd_28III29V rfl rfl (by decide) (Nat.le_of_ble_eq_true rfl) (by decide) (by decide) (fun z0 => rm_rc l Z a0 hw [] n0 h0 z0) (fun v1 h2 qv1 => ?_)
  obtain ⟨rfl, rfl⟩ := qv1
  show W K l _ n0 _ h0 0 0 7 #[.val (.ref a), .val (.int (0 : Int32)), .val (.int (4 : Int32)), .val (.int (-1 : Int32)), .unset] []
  refine w_iloadN ok d7_7 rfl ?_
  refine w_istore ok d7_8 (L' := #[.val (.ref a), .val (.int (0 : Int32)), .val (.int (4 : Int32)), .val (.int (-1 : Int32)), .val (.int (0 : Int32))]) rfl ?_
  refine w_iload ok d7_10 rfl ?_
  refine w_iloadN ok d7_12 rfl ?_
  refine w_icmp_ge ok d7_13 (pc' := 27) (by decide) (fun hc4 => False.elim (by revert hc4; decide)) (fun hc4 => ?_)
  show W K l _ n0 _ h0 0 0 16 #[.val (.ref a), .val (.int (0 : Int32)), .val (.int (4 : Int32)), .val (.int (-1 : Int32)), .val (.int (0 : Int32))] []
  refine w_aloadN ok d7_16 rfl rfl ?_
  refine w_iload ok d7_17 rfl ?_
  refine w_iloadN ok d7_19 rfl ?_
  refine w_iastore ok d7_20 A_a ge_a (by decide) (Nat.le_of_ble_eq_true rfl) (fun h5 W_h5 A1_h5 => ?_)
  replace Kp := Kp.wr W_h5 (Or.inl (by simp))
  replace A_a : PA .int Z h5 a [(.int (-1 : Int32)), (.int (0 : Int32)), (.int (0 : Int32)), (.int (0 : Int32))] := A1_h5
  refine w_iinc ok d7_21 (u := (1 : Int32)) rfl rfl (L' := #[.val (.ref a), .val (.int (0 : Int32)), .val (.int (4 : Int32)), .val (.int (-1 : Int32)), .val (.int (1 : Int32))]) rfl ?_
  show W K l _ n0 _ h5 0 0 24 #[.val (.ref a), .val (.int (0 : Int32)), .val (.int (4 : Int32)), .val (.int (-1 : Int32)), .val (.int (1 : Int32))] []
  refine w_goto ok d7_24 (pc' := 10) (by decide) ?_
  refine w_iload ok d7_10 rfl ?_
  refine w_iloadN ok d7_12 rfl ?_
  refine w_icmp_ge ok d7_13 (pc' := 27) (by decide) (fun hc7 => False.elim (by revert hc7; decide)) (fun hc7 => ?_)
  show W K l _ n0 _ h5 0 0 16 #[.val (.ref a), .val (.int (0 : Int32)), .val (.int (4 : Int32)), .val (.int (-1 : Int32)), .val (.int (1 : Int32))] []
  refine w_aloadN ok d7_16 rfl rfl ?_
  refine w_iload ok d7_17 rfl ?_
  refine w_iloadN ok d7_19 rfl ?_
  refine w_iastore ok d7_20 A_a ge_a (by decide) (Nat.le_of_ble_eq_true rfl) (fun h8 W_h8 A1_h8 => ?_)
  replace Kp := Kp.wr W_h8 (Or.inl (by simp))
  replace A_a : PA .int Z h8 a [(.int (-1 : Int32)), (.int (-1 : Int32)), (.int (0 : Int32)), (.int (0 : Int32))] := A1_h8
  refine w_iinc ok d7_21 (u := (1 : Int32)) rfl rfl (L' := #[.val (.ref a), .val (.int (0 : Int32)), .val (.int (4 : Int32)), .val (.int (-1 : Int32)), .val (.int (2 : Int32))]) rfl ?_
  show W K l _ n0 _ h8 0 0 24 #[.val (.ref a), .val (.int (0 : Int32)), .val (.int (4 : Int32)), .val (.int (-1 : Int32)), .val (.int (2 : Int32))] []
  refine w_goto ok d7_24 (pc' := 10) (by decide) ?_
  refine w_iload ok d7_10 rfl ?_
  refine w_iloadN ok d7_12 rfl ?_
  refine w_icmp_ge ok d7_13 (pc' := 27) (by decide) (fun hc10 => False.elim (by revert hc10; decide)) (fun hc10 => ?_)
  show W K l _ n0 _ h8 0 0 16 #[.val (.ref a), .val (.int (0 : Int32)), .val (.int (4 : Int32)), .val (.int (-1 : Int32)), .val (.int (2 : Int32))] []
  refine w_aloadN ok d7_16 rfl rfl ?_
  refine w_iload ok d7_17 rfl ?_
  refine w_iloadN ok d7_19 rfl ?_
  refine w_iastore ok d7_20 A_a ge_a (by decide) (Nat.le_of_ble_eq_true rfl) (fun h11 W_h11 A1_h11 => ?_)
  replace Kp := Kp.wr W_h11 (Or.inl (by simp))
  replace A_a : PA .int Z h11 a [(.int (-1 : Int32)), (.int (-1 : Int32)), (.int (-1 : Int32)), (.int (0 : Int32))] := A1_h11
  refine w_iinc ok d7_21 (u := (1 : Int32)) rfl rfl (L' := #[.val (.ref a), .val (.int (0 : Int32)), .val (.int (4 : Int32)), .val (.int (-1 : Int32)), .val (.int (3 : Int32))]) rfl ?_
  show W K l _ n0 _ h11 0 0 24 #[.val (.ref a), .val (.int (0 : Int32)), .val (.int (4 : Int32)), .val (.int (-1 : Int32)), .val (.int (3 : Int32))] []
  refine w_goto ok d7_24 (pc' := 10) (by decide) ?_
  refine w_iload ok d7_10 rfl ?_
  refine w_iloadN ok d7_12 rfl ?_
  refine w_icmp_ge ok d7_13 (pc' := 27) (by decide) (fun hc13 => False.elim (by revert hc13; decide)) (fun hc13 => ?_)
  show W K l _ n0 _ h11 0 0 16 #[.val (.ref a), .val (.int (0 : Int32)), .val (.int (4 : Int32)), .val (.int (-1 : Int32)), .val (.int (3 : Int32))] []
  refine w_aloadN ok d7_16 rfl rfl ?_
  refine w_iload ok d7_17 rfl ?_
  refine w_iloadN ok d7_19 rfl ?_
  refine w_iastore ok d7_20 A_a ge_a (by decide) (Nat.le_of_ble_eq_true rfl) (fun h14 W_h14 A1_h14 => ?_)
  replace Kp := Kp.wr W_h14 (Or.inl (by simp))
  replace A_a : PA .int Z h14 a [(.int (-1 : Int32)), (.int (-1 : Int32)), (.int (-1 : Int32)), (.int (-1 : Int32))] := A1_h14
  refine w_iinc ok d7_21 (u := (1 : Int32)) rfl rfl (L' := #[.val (.ref a), .val (.int (0 : Int32)), .val (.int (4 : Int32)), .val (.int (-1 : Int32)), .val (.int (4 : Int32))]) rfl ?_
  show W K l _ n0 _ h14 0 0 24 #[.val (.ref a), .val (.int (0 : Int32)), .val (.int (4 : Int32)), .val (.int (-1 : Int32)), .val (.int (4 : Int32))] []
  refine w_goto ok d7_24 (pc' := 10) (by decide) ?_
  refine w_iload ok d7_10 rfl ?_
  refine w_iloadN ok d7_12 rfl ?_
  refine w_icmp_ge ok d7_13 (pc' := 27) (by decide) (fun hc16 => ?_) (fun hc16 => False.elim (by revert hc16; decide))
  show W K l _ n0 _ h14 0 0 27 #[.val (.ref a), .val (.int (0 : Int32)), .val (.int (4 : Int32)), .val (.int (-1 : Int32)), .val (.int (4 : Int32))] []
  refine w_ret ok d7_27 (by decide) (by decide) ?_
  exact ⟨rfl, Kp, A_a⟩
theorem d3_0 : decode prog_26_method_2_code 0 = .ok (.aload_n 0, 1) := by decide +kernel
theorem d3_1 : decode prog_26_method_2_code 1 = .ok (.getfield 17, 3) := by decide +kernel
theorem d3_4 : decode prog_26_method_2_code 4 = .ok (.arraylength, 1) := by decide +kernel
theorem d3_5 : decode prog_26_method_2_code 5 = .ok (.istore_n 2, 1) := by decide +kernel
theorem d3_6 : decode prog_26_method_2_code 6 = .ok (.aload_n 0, 1) := by decide +kernel
theorem d3_7 : decode prog_26_method_2_code 7 = .ok (.aload_n 0, 1) := by decide +kernel
theorem d3_8 : decode prog_26_method_2_code 8 = .ok (.getfield 7, 3) := by decide +kernel
theorem d3_11 : decode prog_26_method_2_code 11 = .ok (.iload_n 1, 1) := by decide +kernel
theorem d3_12 : decode prog_26_method_2_code 12 = .ok (.invokestatic 20, 3) := by decide +kernel
theorem d3_15 : decode prog_26_method_2_code 15 = .ok (.putfield 7, 3) := by decide +kernel
theorem d3_18 : decode prog_26_method_2_code 18 = .ok (.aload_n 0, 1) := by decide +kernel
theorem d3_19 : decode prog_26_method_2_code 19 = .ok (.aload_n 0, 1) := by decide +kernel
theorem d3_20 : decode prog_26_method_2_code 20 = .ok (.getfield 13, 3) := by decide +kernel
theorem d3_23 : decode prog_26_method_2_code 23 = .ok (.iload_n 1, 1) := by decide +kernel
theorem d3_24 : decode prog_26_method_2_code 24 = .ok (.invokestatic 26, 3) := by decide +kernel
theorem d3_27 : decode prog_26_method_2_code 27 = .ok (.putfield 13, 3) := by decide +kernel
theorem d3_30 : decode prog_26_method_2_code 30 = .ok (.aload_n 0, 1) := by decide +kernel
theorem d3_31 : decode prog_26_method_2_code 31 = .ok (.aload_n 0, 1) := by decide +kernel
theorem d3_32 : decode prog_26_method_2_code 32 = .ok (.getfield 17, 3) := by decide +kernel
theorem d3_35 : decode prog_26_method_2_code 35 = .ok (.iload_n 1, 1) := by decide +kernel
theorem d3_36 : decode prog_26_method_2_code 36 = .ok (.invokestatic 20, 3) := by decide +kernel
theorem d3_39 : decode prog_26_method_2_code 39 = .ok (.putfield 17, 3) := by decide +kernel
theorem d3_42 : decode prog_26_method_2_code 42 = .ok (.iload_n 1, 1) := by decide +kernel
theorem d3_43 : decode prog_26_method_2_code 43 = .ok (.iload_n 2, 1) := by decide +kernel
theorem d3_44 : decode prog_26_method_2_code 44 = .ok (.if_icmp .le 13, 3) := by decide +kernel
theorem d3_47 : decode prog_26_method_2_code 47 = .ok (.aload_n 0, 1) := by decide +kernel
theorem d3_48 : decode prog_26_method_2_code 48 = .ok (.getfield 17, 3) := by decide +kernel
theorem d3_51 : decode prog_26_method_2_code 51 = .ok (.iload_n 2, 1) := by decide +kernel
theorem d3_52 : decode prog_26_method_2_code 52 = .ok (.iload_n 1, 1) := by decide +kernel
theorem d3_53 : decode prog_26_method_2_code 53 = .ok (.iconst (-1), 1) := by decide +kernel
theorem d3_54 : decode prog_26_method_2_code 54 = .ok (.invokestatic 29, 3) := by decide +kernel
theorem d3_57 : decode prog_26_method_2_code 57 = .ok (.return_, 1) := by decide +kernel
theorem pd_285bII295bI : parseMethodDescriptor "([II)[I" = some ⟨[(.array .int), .int], some (.array .int)⟩ := by decide +kernel
theorem pd_285bJI295bJ : parseMethodDescriptor "([JI)[J" = some ⟨[(.array .long), .int], some (.array .long)⟩ := by decide +kernel
theorem pd_285bIIII29V : parseMethodDescriptor "([IIII)V" = some ⟨[(.array .int), .int, .int, .int], none⟩ := by decide +kernel
set_option maxRecDepth 65536 in
set_option maxHeartbeats 40000000 in
theorem rm_resize (l : Launch) (Z : State) (a0 : Array Value) (hw : ∀ d ∈ tables_1, d.before a0 Z = true) (ws : List Jvm.Cond) (n0 : Nat) (h0 : Heap) (Z0 : Old Z n0 h0) (t en ti sl : Addr) (A_t : Ob Z h0 t "com/example/rowan/rowan/store/IdleHeap" fl_IdleHeap [.ref en, .ref ti, .ref sl, .int 0]) (A_en : PA .int Z h0 en []) (A_ti : PA .long Z h0 ti []) (A_sl : PA .int Z h0 sl []) (ge_t : n0 ≤ t) (ne_t_en : t ≠ en) (ne_t_ti : t ≠ ti) (ne_t_sl : t ≠ sl) (ne_en_ti : en ≠ ti) (ne_en_sl : en ≠ sl) (ne_ti_sl : ti ≠ sl)  :
    Met l Z n0 (⟨"com/example/rowan/rowan/store/IdleHeap", "resize", "(I)V"⟩ : MethodName) prog_26_method_2_code 3 none ws ({ frames := 2, cells := 3, slots := 12, locals := 33 } : Room) #[(.ref t), (.int (4 : Int32))] h0 (fun u h => u = none ∧ ∃ en ti sl, (h0.size ≤ en ∧ h0.size ≤ ti ∧ h0.size ≤ sl) ∧ (n0 ≤ en ∧ n0 ≤ ti ∧ n0 ≤ sl) ∧ (t ≠ en ∧ t ≠ ti ∧ t ≠ sl ∧ en ≠ ti ∧ en ≠ sl ∧ ti ≠ sl) ∧ Keep h0 h [t] ∧ Ob Z h t "com/example/rowan/rowan/store/IdleHeap" fl_IdleHeap [.ref en, .ref ti, .ref sl, .int 0] ∧ PA .int Z h en (sv 4 (fun _ => 0)) ∧ PA .long Z h ti (lv 4 (fun _ => 0)) ∧ PA .int Z h sl (sv 4 (fun _ => -1))) := by
  refine met_of Z0 (plainFor_of_name pn_com_example_rowan_rowan_store_IdleHeap) (Ls := #[.val (.ref t), .val (.int (4 : Int32)), .unset]) (fun m => by first | (simp [entryFrame, mkF, argsToLocals, Value.category]; done) | rfl) ?_
  intro K ok
  have Kp : Keep h0 h0 [t] := Keep.refl _ _
  show W K l _ n0 _ h0 0 0 0 #[.val (.ref t), .val (.int (4 : Int32)), .unset] []
  refine w_aloadN ok d3_0 rfl rfl ?_
  refine w_getfield ok (v := (.ref sl)) (host := "") (f := ("com/example/rowan/rowan/store/IdleHeap", "slots", "[I", (.array .int))) 2 d3_1 (Or.inl (hw _ (List.mem_of_getElem? (i := 15) rfl))) Via.refl A_t rfl rfl ?_
  refine w_arraylength ok (z := (0 : Int32)) d3_4 A_sl rfl (by decide) ?_
  show W K l _ n0 _ h0 0 0 5 #[.val (.ref t), .val (.int (4 : Int32)), .unset] [(.int (0 : Int32))]
  refine w_istoreN ok d3_5 (L' := #[.val (.ref t), .val (.int (4 : Int32)), .val (.int (0 : Int32))]) rfl ?_
  refine w_aloadN ok d3_6 rfl rfl ?_
  refine w_aloadN ok d3_7 rfl rfl ?_
  refine w_getfield ok (v := (.ref en)) (host := "") (f := ("com/example/rowan/rowan/store/IdleHeap", "entries", "[I", (.array .int))) 0 d3_8 (Or.inl (hw _ (List.mem_of_getElem? (i := 10) rfl))) Via.refl A_t rfl rfl ?_
  refine w_iloadN ok d3_11 rfl ?_
  refine w_callS ok (y := (⟨"java/util/Arrays", "copyOf", "([II)[I"⟩ : MethodName)) (argsL := [(.ref en), (.int (4 : Int32))]) (rest := [(.ref t)]) d3_12 (hw _ (List.mem_of_getElem? (i := 22) rfl)) (hw _ (List.mem_of_getElem? (i := 23) rfl)) (hw _ (List.mem_of_getElem? (i := 24) rfl)) (hw _ (List.mem_of_getElem? (i := 25) rfl)) (by decide) pd_285bII295bI rfl rfl (by decide) (Nat.le_of_ble_eq_true rfl) (by decide) (by decide) (fun z0 => cp_int l Z a0 hw [] n0 h0 z0 en [] 4 A_en (by decide) (by decide) (by decide)) (fun v2 h3 qv2 => ?_)
  obtain ⟨c1, rfl, sz_c1, ge_c1, K1, A_c1⟩ := qv2
  have ne_t_c1 : t ≠ c1 := Nat.ne_of_lt (Nat.lt_of_lt_of_le A_t.lt sz_c1)
  have ne_en_c1 : en ≠ c1 := Nat.ne_of_lt (Nat.lt_of_lt_of_le A_en.lt sz_c1)
  have ne_ti_c1 : ti ≠ c1 := Nat.ne_of_lt (Nat.lt_of_lt_of_le A_ti.lt sz_c1)
  have ne_sl_c1 : sl ≠ c1 := Nat.ne_of_lt (Nat.lt_of_lt_of_le A_sl.lt sz_c1)
  have szq_c1 : h0.size ≤ c1 := Nat.le_trans Kp.1 sz_c1
  replace Kp := Kp.trans K1 all0
  replace A_t := A_t.keep K1 nin0
  replace A_en := A_en.keep K1 nin0
  replace A_ti := A_ti.keep K1 nin0
  replace A_sl := A_sl.keep K1 nin0
  replace A_c1 : PA .int Z h3 c1 [(.int (0 : Int32)), (.int (0 : Int32)), (.int (0 : Int32)), (.int (0 : Int32))] := A_c1
  show W K l _ n0 _ h3 1 4 15 #[.val (.ref t), .val (.int (4 : Int32)), .val (.int (0 : Int32))] [(.ref c1), (.ref t)]
  refine w_putfield ok (host := "") (f := ("com/example/rowan/rowan/store/IdleHeap", "entries", "[I", (.array .int))) 0 d3_15 (Or.inl (hw _ (List.mem_of_getElem? (i := 10) rfl))) Via.refl A_t (la_IdleHeap hw) rfl rfl (Or.inl (hw _ (List.mem_of_getElem? (i := 11) rfl))) (hw _ (List.mem_of_getElem? (i := 1) rfl)) rfl rfl ge_t (fun h4 W_h4 A1_h4 => ?_)
  replace Kp := Kp.wr W_h4 (Or.inl (by simp))
  replace A_en := A_en.other W_h4 (Ne.symm ne_t_en)
  replace A_ti := A_ti.other W_h4 (Ne.symm ne_t_ti)
  replace A_sl := A_sl.other W_h4 (Ne.symm ne_t_sl)
  replace A_c1 := A_c1.other W_h4 (Ne.symm ne_t_c1)
  replace A_t : Ob Z h4 t "com/example/rowan/rowan/store/IdleHeap" fl_IdleHeap [(.ref c1), (.ref ti), (.ref sl), (.int (0 : Int32))] := A1_h4
  refine w_aloadN ok d3_18 rfl rfl ?_
  refine w_aloadN ok d3_19 rfl rfl ?_
  refine w_getfield ok (v := (.ref ti)) (host := "") (f := ("com/example/rowan/rowan/store/IdleHeap", "times", "[J", (.array .long))) 1 d3_20 (Or.inl (hw _ (List.mem_of_getElem? (i := 13) rfl))) Via.refl A_t rfl rfl ?_
  refine w_iloadN ok d3_23 rfl ?_
  refine w_callS ok (y := (⟨"java/util/Arrays", "copyOf", "([JI)[J"⟩ : MethodName)) (argsL := [(.ref ti), (.int (4 : Int32))]) (rest := [(.ref t)]) d3_24 (hw _ (List.mem_of_getElem? (i := 34) rfl)) (hw _ (List.mem_of_getElem? (i := 35) rfl)) (hw _ (List.mem_of_getElem? (i := 24) rfl)) (hw _ (List.mem_of_getElem? (i := 36) rfl)) (by decide) pd_285bJI295bJ rfl rfl (by decide) (Nat.le_of_ble_eq_true rfl) (by decide) (by decide) (fun z0 => cp_long l Z a0 hw [] n0 h4 z0 ti [] 4 A_ti (by decide) (by decide) (by decide)) (fun v6 h7 qv6 => ?_)
  obtain ⟨c5, rfl, sz_c5, ge_c5, K1, A_c5⟩ := qv6
  have ne_t_c5 : t ≠ c5 := Nat.ne_of_lt (Nat.lt_of_lt_of_le A_t.lt sz_c5)
  have ne_en_c5 : en ≠ c5 := Nat.ne_of_lt (Nat.lt_of_lt_of_le A_en.lt sz_c5)
  have ne_ti_c5 : ti ≠ c5 := Nat.ne_of_lt (Nat.lt_of_lt_of_le A_ti.lt sz_c5)
  have ne_sl_c5 : sl ≠ c5 := Nat.ne_of_lt (Nat.lt_of_lt_of_le A_sl.lt sz_c5)
  have ne_c1_c5 : c1 ≠ c5 := Nat.ne_of_lt (Nat.lt_of_lt_of_le A_c1.lt sz_c5)
  have szq_c5 : h0.size ≤ c5 := Nat.le_trans Kp.1 sz_c5
  replace Kp := Kp.trans K1 all0
  replace A_t := A_t.keep K1 nin0
  replace A_en := A_en.keep K1 nin0
  replace A_ti := A_ti.keep K1 nin0
  replace A_sl := A_sl.keep K1 nin0
  replace A_c1 := A_c1.keep K1 nin0
  replace A_c5 : PA .long Z h7 c5 [(.long (0 : Int64)), (.long (0 : Int64)), (.long (0 : Int64)), (.long (0 : Int64))] := A_c5
  show W K l _ n0 _ h7 2 8 27 #[.val (.ref t), .val (.int (4 : Int32)), .val (.int (0 : Int32))] [(.ref c5), (.ref t)]
  refine w_putfield ok (host := "") (f := ("com/example/rowan/rowan/store/IdleHeap", "times", "[J", (.array .long))) 1 d3_27 (Or.inl (hw _ (List.mem_of_getElem? (i := 13) rfl))) Via.refl A_t (la_IdleHeap hw) rfl rfl (Or.inl (hw _ (List.mem_of_getElem? (i := 14) rfl))) (hw _ (List.mem_of_getElem? (i := 1) rfl)) rfl rfl ge_t (fun h8 W_h8 A1_h8 => ?_)
  replace Kp := Kp.wr W_h8 (Or.inl (by simp))
  replace A_en := A_en.other W_h8 (Ne.symm ne_t_en)
  replace A_ti := A_ti.other W_h8 (Ne.symm ne_t_ti)
  replace A_sl := A_sl.other W_h8 (Ne.symm ne_t_sl)
  replace A_c1 := A_c1.other W_h8 (Ne.symm ne_t_c1)
  replace A_c5 := A_c5.other W_h8 (Ne.symm ne_t_c5)
  replace A_t : Ob Z h8 t "com/example/rowan/rowan/store/IdleHeap" fl_IdleHeap [(.ref c1), (.ref c5), (.ref sl), (.int (0 : Int32))] := A1_h8
  refine w_aloadN ok d3_30 rfl rfl ?_
  refine w_aloadN ok d3_31 rfl rfl ?_
  refine w_getfield ok (v := (.ref sl)) (host := "") (f := ("com/example/rowan/rowan/store/IdleHeap", "slots", "[I", (.array .int))) 2 d3_32 (Or.inl (hw _ (List.mem_of_getElem? (i := 15) rfl))) Via.refl A_t rfl rfl ?_
  refine w_iloadN ok d3_35 rfl ?_
  refine w_callS ok (y := (⟨"java/util/Arrays", "copyOf", "([II)[I"⟩ : MethodName)) (argsL := [(.ref sl), (.int (4 : Int32))]) (rest := [(.ref t)]) d3_36 (hw _ (List.mem_of_getElem? (i := 22) rfl)) (hw _ (List.mem_of_getElem? (i := 23) rfl)) (hw _ (List.mem_of_getElem? (i := 24) rfl)) (hw _ (List.mem_of_getElem? (i := 25) rfl)) (by decide) pd_285bII295bI rfl rfl (by decide) (Nat.le_of_ble_eq_true rfl) (by decide) (by decide) (fun z0 => cp_int l Z a0 hw [] n0 h8 z0 sl [] 4 A_sl (by decide) (by decide) (by decide)) (fun v10 h11 qv10 => ?_)
  obtain ⟨c9, rfl, sz_c9, ge_c9, K1, A_c9⟩ := qv10
  have ne_t_c9 : t ≠ c9 := Nat.ne_of_lt (Nat.lt_of_lt_of_le A_t.lt sz_c9)
  have ne_en_c9 : en ≠ c9 := Nat.ne_of_lt (Nat.lt_of_lt_of_le A_en.lt sz_c9)
  have ne_ti_c9 : ti ≠ c9 := Nat.ne_of_lt (Nat.lt_of_lt_of_le A_ti.lt sz_c9)
  have ne_sl_c9 : sl ≠ c9 := Nat.ne_of_lt (Nat.lt_of_lt_of_le A_sl.lt sz_c9)
  have ne_c1_c9 : c1 ≠ c9 := Nat.ne_of_lt (Nat.lt_of_lt_of_le A_c1.lt sz_c9)
  have ne_c5_c9 : c5 ≠ c9 := Nat.ne_of_lt (Nat.lt_of_lt_of_le A_c5.lt sz_c9)
  have szq_c9 : h0.size ≤ c9 := Nat.le_trans Kp.1 sz_c9
  replace Kp := Kp.trans K1 all0
  replace A_t := A_t.keep K1 nin0
  replace A_en := A_en.keep K1 nin0
  replace A_ti := A_ti.keep K1 nin0
  replace A_sl := A_sl.keep K1 nin0
  replace A_c1 := A_c1.keep K1 nin0
  replace A_c5 := A_c5.keep K1 nin0
  replace A_c9 : PA .int Z h11 c9 [(.int (0 : Int32)), (.int (0 : Int32)), (.int (0 : Int32)), (.int (0 : Int32))] := A_c9
  show W K l _ n0 _ h11 3 12 39 #[.val (.ref t), .val (.int (4 : Int32)), .val (.int (0 : Int32))] [(.ref c9), (.ref t)]
  refine w_putfield ok (host := "") (f := ("com/example/rowan/rowan/store/IdleHeap", "slots", "[I", (.array .int))) 2 d3_39 (Or.inl (hw _ (List.mem_of_getElem? (i := 15) rfl))) Via.refl A_t (la_IdleHeap hw) rfl rfl (Or.inl (hw _ (List.mem_of_getElem? (i := 16) rfl))) (hw _ (List.mem_of_getElem? (i := 1) rfl)) rfl rfl ge_t (fun h12 W_h12 A1_h12 => ?_)
  replace Kp := Kp.wr W_h12 (Or.inl (by simp))
  replace A_en := A_en.other W_h12 (Ne.symm ne_t_en)
  replace A_ti := A_ti.other W_h12 (Ne.symm ne_t_ti)
  replace A_sl := A_sl.other W_h12 (Ne.symm ne_t_sl)
  replace A_c1 := A_c1.other W_h12 (Ne.symm ne_t_c1)
  replace A_c5 := A_c5.other W_h12 (Ne.symm ne_t_c5)
  replace A_c9 := A_c9.other W_h12 (Ne.symm ne_t_c9)
  replace A_t : Ob Z h12 t "com/example/rowan/rowan/store/IdleHeap" fl_IdleHeap [(.ref c1), (.ref c5), (.ref c9), (.int (0 : Int32))] := A1_h12
  refine w_iloadN ok d3_42 rfl ?_
  refine w_iloadN ok d3_43 rfl ?_
  refine w_icmp_le ok d3_44 (pc' := 57) (by decide) (fun hc14 => False.elim (by revert hc14; decide)) (fun hc14 => ?_)
  show W K l _ n0 _ h12 3 12 47 #[.val (.ref t), .val (.int (4 : Int32)), .val (.int (0 : Int32))] []
  refine w_aloadN ok d3_47 rfl rfl ?_
  refine w_getfield ok (v := (.ref c9)) (host := "") (f := ("com/example/rowan/rowan/store/IdleHeap", "slots", "[I", (.array .int))) 2 d3_48 (Or.inl (hw _ (List.mem_of_getElem? (i := 15) rfl))) Via.refl A_t rfl rfl ?_
  refine w_iloadN ok d3_51 rfl ?_
  refine w_iloadN ok d3_52 rfl ?_
  refine w_iconst ok d3_53 (v := (-1 : Int32)) rfl ?_
  refine w_callS ok (y := (⟨"java/util/Arrays", "fill", "([IIII)V"⟩ : MethodName)) (argsL := [(.ref c9), (.int (0 : Int32)), (.int (4 : Int32)), (.int (-1 : Int32))]) (rest := []) d3_54 (hw _ (List.mem_of_getElem? (i := 37) rfl)) (hw _ (List.mem_of_getElem? (i := 38) rfl)) (hw _ (List.mem_of_getElem? (i := 24) rfl)) (hw _ (List.mem_of_getElem? (i := 39) rfl)) (by decide) pd_285bIIII29V rfl rfl (by decide) (Nat.le_of_ble_eq_true rfl) (by decide) (by decide) (fun z0 => rm_fill l Z a0 hw [] n0 h12 z0 c9 A_c9 ge_c9) (fun v15 h16 qv15 => ?_)
  obtain ⟨rfl, K1, A1⟩ := qv15
  replace Kp := Kp.trans K1 (allS (Or.inr szq_c9) all0)
  replace A_t := A_t.keep K1 (ninS ne_t_c9 nin0)
  replace A_en := A_en.keep K1 (ninS ne_en_c9 nin0)
  replace A_ti := A_ti.keep K1 (ninS ne_ti_c9 nin0)
  replace A_sl := A_sl.keep K1 (ninS ne_sl_c9 nin0)
  replace A_c1 := A_c1.keep K1 (ninS ne_c1_c9 nin0)
  replace A_c5 := A_c5.keep K1 (ninS ne_c5_c9 nin0)
  replace A_c9 := A1
  show W K l _ n0 _ h16 3 12 57 #[.val (.ref t), .val (.int (4 : Int32)), .val (.int (0 : Int32))] []
  refine w_ret ok d3_57 (by decide) (by decide) ?_
  exact ⟨rfl, c1, c5, c9, ⟨szq_c1, szq_c5, szq_c9⟩, ⟨ge_c1, ge_c5, ge_c9⟩, ⟨ne_t_c1, ne_t_c5, ne_t_c9, ne_c1_c5, ne_c1_c9, ne_c5_c9⟩, Kp, A_t, A_c1, A_c5, A_c9⟩
theorem d10_0 : decode prog_26_method_12_code 0 = .ok (.aload_n 0, 1) := by decide +kernel
theorem d10_1 : decode prog_26_method_12_code 1 = .ok (.getfield 7, 3) := by decide +kernel
theorem d10_4 : decode prog_26_method_12_code 4 = .ok (.iload 4, 2) := by decide +kernel
theorem d10_6 : decode prog_26_method_12_code 6 = .ok (.iload_n 1, 1) := by decide +kernel
theorem d10_7 : decode prog_26_method_12_code 7 = .ok (.iastore, 1) := by decide +kernel
theorem d10_8 : decode prog_26_method_12_code 8 = .ok (.aload_n 0, 1) := by decide +kernel
theorem d10_9 : decode prog_26_method_12_code 9 = .ok (.getfield 13, 3) := by decide +kernel
theorem d10_12 : decode prog_26_method_12_code 12 = .ok (.iload 4, 2) := by decide +kernel
theorem d10_14 : decode prog_26_method_12_code 14 = .ok (.lload_n 2, 1) := by decide +kernel
theorem d10_15 : decode prog_26_method_12_code 15 = .ok (.lastore, 1) := by decide +kernel
theorem d10_16 : decode prog_26_method_12_code 16 = .ok (.aload_n 0, 1) := by decide +kernel
theorem d10_17 : decode prog_26_method_12_code 17 = .ok (.getfield 17, 3) := by decide +kernel
theorem d10_20 : decode prog_26_method_12_code 20 = .ok (.iload_n 1, 1) := by decide +kernel
theorem d10_21 : decode prog_26_method_12_code 21 = .ok (.iload 4, 2) := by decide +kernel
theorem d10_23 : decode prog_26_method_12_code 23 = .ok (.iastore, 1) := by decide +kernel
theorem d10_24 : decode prog_26_method_12_code 24 = .ok (.return_, 1) := by decide +kernel
set_option maxRecDepth 65536 in
set_option maxHeartbeats 40000000 in
theorem rm_place (l : Launch) (Z : State) (a0 : Array Value) (hw : ∀ d ∈ tables_1, d.before a0 Z = true) (ws : List Jvm.Cond) (n0 : Nat) (h0 : Heap) (Z0 : Old Z n0 h0) (t en ti sl : Addr) (s : Int32) (e g : Nat → Int32) (τ : Nat → Int64) (A_t : Ob Z h0 t "com/example/rowan/rowan/store/IdleHeap" fl_IdleHeap [.ref en, .ref ti, .ref sl, .int s]) (A_en : PA .int Z h0 en (sv 4 e)) (A_ti : PA .long Z h0 ti (lv 4 τ)) (A_sl : PA .int Z h0 sl (sv 4 g)) (ge_t : n0 ≤ t) (ge_en : n0 ≤ en) (ge_ti : n0 ≤ ti) (ge_sl : n0 ≤ sl) (ne_t_en : t ≠ en) (ne_t_ti : t ≠ ti) (ne_t_sl : t ≠ sl) (ne_en_ti : en ≠ ti) (ne_en_sl : en ≠ sl) (ne_ti_sl : ti ≠ sl) (y i : Nat) (tm : Int64) (hy : y < 4) (hi : i < 4)  :
    Met l Z n0 (⟨"com/example/rowan/rowan/store/IdleHeap", "place", "(IJI)V"⟩ : MethodName) prog_26_method_12_code 5 none ws ({ frames := 0, cells := 0, slots := 0, locals := 0 } : Room) #[(.ref t), (.int (Int32.ofNat y)), (.long tm), (.int (Int32.ofNat i))] h0 (fun u h => u = none ∧ Keep h0 h [en, ti, sl] ∧ PA .int Z h en (sv 4 (upd e i (Int32.ofNat y))) ∧ PA .long Z h ti (lv 4 (updL τ i tm)) ∧ PA .int Z h sl (sv 4 (upd g y (Int32.ofNat i)))) := by
  refine met_of Z0 (plainFor_of_name pn_com_example_rowan_rowan_store_IdleHeap) (Ls := #[.val (.ref t), .val (.int (Int32.ofNat y)), .val (.long tm), .second, .val (.int (Int32.ofNat i))]) (fun m => by first | (simp [entryFrame, mkF, argsToLocals, Value.category]; done) | rfl) ?_
  intro K ok
  have Kp : Keep h0 h0 [en, ti, sl] := Keep.refl _ _
  show W K l _ n0 _ h0 0 0 0 #[.val (.ref t), .val (.int (Int32.ofNat y)), .val (.long tm), .second, .val (.int (Int32.ofNat i))] []
  refine w_aloadN ok d10_0 rfl rfl ?_
  refine w_getfield ok (v := (.ref en)) (host := "") (f := ("com/example/rowan/rowan/store/IdleHeap", "entries", "[I", (.array .int))) 0 d10_1 (Or.inl (hw _ (List.mem_of_getElem? (i := 10) rfl))) Via.refl A_t rfl rfl ?_
  refine w_iload ok d10_4 rfl ?_
  refine w_iloadN ok d10_6 rfl ?_
  refine w_iastore ok d10_7 A_en ge_en (own_ix0 hi) (own_svl hi) (fun h1 W_h1 A1_h1 => ?_)
  replace Kp := Kp.wr W_h1 (Or.inl (by simp))
  replace A_t := A_t.other W_h1 ne_t_en
  replace A_ti := A_ti.other W_h1 (Ne.symm ne_en_ti)
  replace A_sl := A_sl.other W_h1 (Ne.symm ne_en_sl)
  replace A_en : PA .int Z h1 en ((sv 4 e).set (Int32.ofNat i).toNatClampNeg (.int (Int32.ofNat y))) := A1_h1
  rw [own_ix hi, sv_set] at A_en
  refine w_aloadN ok d10_8 rfl rfl ?_
  refine w_getfield ok (v := (.ref ti)) (host := "") (f := ("com/example/rowan/rowan/store/IdleHeap", "times", "[J", (.array .long))) 1 d10_9 (Or.inl (hw _ (List.mem_of_getElem? (i := 13) rfl))) Via.refl A_t rfl rfl ?_
  refine w_iload ok d10_12 rfl ?_
  refine w_lloadN ok d10_14 rfl ?_
  refine w_lastore ok d10_15 A_ti ge_ti (own_ix0 hi) (own_lvl hi) (fun h2 W_h2 A1_h2 => ?_)
  replace Kp := Kp.wr W_h2 (Or.inl (by simp))
  replace A_t := A_t.other W_h2 ne_t_ti
  replace A_en := A_en.other W_h2 ne_en_ti
  replace A_sl := A_sl.other W_h2 (Ne.symm ne_ti_sl)
  replace A_ti : PA .long Z h2 ti ((lv 4 τ).set (Int32.ofNat i).toNatClampNeg (.long tm)) := A1_h2
  rw [own_ix hi, lv_set] at A_ti
  refine w_aloadN ok d10_16 rfl rfl ?_
  refine w_getfield ok (v := (.ref sl)) (host := "") (f := ("com/example/rowan/rowan/store/IdleHeap", "slots", "[I", (.array .int))) 2 d10_17 (Or.inl (hw _ (List.mem_of_getElem? (i := 15) rfl))) Via.refl A_t rfl rfl ?_
  refine w_iloadN ok d10_20 rfl ?_
  refine w_iload ok d10_21 rfl ?_
  refine w_iastore ok d10_23 A_sl ge_sl (own_ix0 hy) (own_svl hy) (fun h3 W_h3 A1_h3 => ?_)
  replace Kp := Kp.wr W_h3 (Or.inl (by simp))
  replace A_t := A_t.other W_h3 ne_t_sl
  replace A_en := A_en.other W_h3 ne_en_sl
  replace A_ti := A_ti.other W_h3 ne_ti_sl
  replace A_sl : PA .int Z h3 sl ((sv 4 g).set (Int32.ofNat y).toNatClampNeg (.int (Int32.ofNat i))) := A1_h3
  rw [own_ix hy, sv_set] at A_sl
  refine w_ret ok d10_24 (by decide) (by decide) ?_
  exact ⟨rfl, Kp, A_en, A_ti, A_sl⟩
theorem d15_0 : decode prog_26_method_11_code 0 = .ok (.iconst 2, 1) := by decide +kernel
theorem d15_1 : decode prog_26_method_11_code 1 = .ok (.iload_n 1, 1) := by decide +kernel
theorem d15_2 : decode prog_26_method_11_code 2 = .ok (.imul, 1) := by decide +kernel
theorem d15_3 : decode prog_26_method_11_code 3 = .ok (.iconst 1, 1) := by decide +kernel
theorem d15_4 : decode prog_26_method_11_code 4 = .ok (.iadd, 1) := by decide +kernel
theorem d15_5 : decode prog_26_method_11_code 5 = .ok (.istore_n 2, 1) := by decide +kernel
theorem d15_6 : decode prog_26_method_11_code 6 = .ok (.iload_n 2, 1) := by decide +kernel
theorem d15_7 : decode prog_26_method_11_code 7 = .ok (.iconst 1, 1) := by decide +kernel
theorem d15_8 : decode prog_26_method_11_code 8 = .ok (.iadd, 1) := by decide +kernel
theorem d15_9 : decode prog_26_method_11_code 9 = .ok (.aload_n 0, 1) := by decide +kernel
theorem d15_10 : decode prog_26_method_11_code 10 = .ok (.getfield 33, 3) := by decide +kernel
theorem d15_13 : decode prog_26_method_11_code 13 = .ok (.if_icmp .ge 27, 3) := by decide +kernel
theorem d15_16 : decode prog_26_method_11_code 16 = .ok (.aload_n 0, 1) := by decide +kernel
theorem d15_17 : decode prog_26_method_11_code 17 = .ok (.getfield 13, 3) := by decide +kernel
theorem d15_20 : decode prog_26_method_11_code 20 = .ok (.iload_n 2, 1) := by decide +kernel
theorem d15_21 : decode prog_26_method_11_code 21 = .ok (.iconst 1, 1) := by decide +kernel
theorem d15_22 : decode prog_26_method_11_code 22 = .ok (.iadd, 1) := by decide +kernel
theorem d15_23 : decode prog_26_method_11_code 23 = .ok (.laload, 1) := by decide +kernel
theorem d15_24 : decode prog_26_method_11_code 24 = .ok (.aload_n 0, 1) := by decide +kernel
theorem d15_25 : decode prog_26_method_11_code 25 = .ok (.getfield 13, 3) := by decide +kernel
theorem d15_28 : decode prog_26_method_11_code 28 = .ok (.iload_n 2, 1) := by decide +kernel
theorem d15_29 : decode prog_26_method_11_code 29 = .ok (.laload, 1) := by decide +kernel
theorem d15_30 : decode prog_26_method_11_code 30 = .ok (.lcmp, 1) := by decide +kernel
theorem d15_31 : decode prog_26_method_11_code 31 = .ok (.ifCond .ge 9, 3) := by decide +kernel
theorem d15_34 : decode prog_26_method_11_code 34 = .ok (.iload_n 2, 1) := by decide +kernel
theorem d15_35 : decode prog_26_method_11_code 35 = .ok (.iconst 1, 1) := by decide +kernel
theorem d15_36 : decode prog_26_method_11_code 36 = .ok (.iadd, 1) := by decide +kernel
theorem d15_37 : decode prog_26_method_11_code 37 = .ok (.goto 4, 3) := by decide +kernel
theorem d15_40 : decode prog_26_method_11_code 40 = .ok (.iload_n 2, 1) := by decide +kernel
theorem d15_41 : decode prog_26_method_11_code 41 = .ok (.ireturn, 1) := by decide +kernel
set_option maxRecDepth 65536 in
set_option maxHeartbeats 40000000 in
theorem rm_ec10 (l : Launch) (Z : State) (a0 : Array Value) (hw : ∀ d ∈ tables_1, d.before a0 Z = true) (ws : List Jvm.Cond) (n0 : Nat) (h0 : Heap) (Z0 : Old Z n0 h0) (t en ti sl : Addr) (e g : Nat → Int32) (τ : Nat → Int64) (A_t : Ob Z h0 t "com/example/rowan/rowan/store/IdleHeap" fl_IdleHeap [.ref en, .ref ti, .ref sl, .int (1 : Int32)]) (A_en : PA .int Z h0 en (sv 4 e)) (A_ti : PA .long Z h0 ti (lv 4 τ)) (A_sl : PA .int Z h0 sl (sv 4 g)) (ge_t : n0 ≤ t) (ge_en : n0 ≤ en) (ge_ti : n0 ≤ ti) (ge_sl : n0 ≤ sl) (ne_t_en : t ≠ en) (ne_t_ti : t ≠ ti) (ne_t_sl : t ≠ sl) (ne_en_ti : en ≠ ti) (ne_en_sl : en ≠ sl) (ne_ti_sl : ti ≠ sl)  :
    Met l Z n0 (⟨"com/example/rowan/rowan/store/IdleHeap", "earlierChild", "(I)I"⟩ : MethodName) prog_26_method_11_code 3 (some .int) ws ({ frames := 0, cells := 0, slots := 0, locals := 0 } : Room) #[(.ref t), (.int (0 : Int32))] h0 (fun u h => u = some (.int 1) ∧ h0 = h) := by
  refine met_of Z0 (plainFor_of_name pn_com_example_rowan_rowan_store_IdleHeap) (Ls := #[.val (.ref t), .val (.int (0 : Int32)), .unset]) (fun m => by first | (simp [entryFrame, mkF, argsToLocals, Value.category]; done) | rfl) ?_
  intro K ok
  show W K l _ n0 _ h0 0 0 0 #[.val (.ref t), .val (.int (0 : Int32)), .unset] []
  refine w_iconst ok d15_0 (v := (2 : Int32)) rfl ?_
  refine w_iloadN ok d15_1 rfl ?_
  refine w_imul ok d15_2 ?_
  show W K l _ n0 _ h0 0 0 3 #[.val (.ref t), .val (.int (0 : Int32)), .unset] [(.int (0 : Int32))]
  refine w_iconst ok d15_3 (v := (1 : Int32)) rfl ?_
  refine w_iadd ok d15_4 ?_
  show W K l _ n0 _ h0 0 0 5 #[.val (.ref t), .val (.int (0 : Int32)), .unset] [(.int (1 : Int32))]
  refine w_istoreN ok d15_5 (L' := #[.val (.ref t), .val (.int (0 : Int32)), .val (.int (1 : Int32))]) rfl ?_
  refine w_iloadN ok d15_6 rfl ?_
  refine w_iconst ok d15_7 (v := (1 : Int32)) rfl ?_
  refine w_iadd ok d15_8 ?_
  show W K l _ n0 _ h0 0 0 9 #[.val (.ref t), .val (.int (0 : Int32)), .val (.int (1 : Int32))] [(.int (2 : Int32))]
  refine w_aloadN ok d15_9 rfl rfl ?_
  refine w_getfield ok (v := (.int (1 : Int32))) (host := "") (f := ("com/example/rowan/rowan/store/IdleHeap", "size", "I", .int)) 3 d15_10 (Or.inl (hw _ (List.mem_of_getElem? (i := 48) rfl))) Via.refl A_t rfl rfl ?_
  refine w_icmp_ge ok d15_13 (pc' := 40) (by decide) (fun hc1 => ?_) (fun hc1 => False.elim (by revert hc1; decide))
  show W K l _ n0 _ h0 0 0 40 #[.val (.ref t), .val (.int (0 : Int32)), .val (.int (1 : Int32))] []
  refine w_iloadN ok d15_40 rfl ?_
  refine w_iret ok d15_41 (by decide) (by decide) ?_
  exact ⟨rfl, rfl⟩
set_option maxRecDepth 65536 in
set_option maxHeartbeats 40000000 in
theorem rm_ec20 (l : Launch) (Z : State) (a0 : Array Value) (hw : ∀ d ∈ tables_1, d.before a0 Z = true) (ws : List Jvm.Cond) (n0 : Nat) (h0 : Heap) (Z0 : Old Z n0 h0) (t en ti sl : Addr) (e g : Nat → Int32) (τ : Nat → Int64) (A_t : Ob Z h0 t "com/example/rowan/rowan/store/IdleHeap" fl_IdleHeap [.ref en, .ref ti, .ref sl, .int (2 : Int32)]) (A_en : PA .int Z h0 en (sv 4 e)) (A_ti : PA .long Z h0 ti (lv 4 τ)) (A_sl : PA .int Z h0 sl (sv 4 g)) (ge_t : n0 ≤ t) (ge_en : n0 ≤ en) (ge_ti : n0 ≤ ti) (ge_sl : n0 ≤ sl) (ne_t_en : t ≠ en) (ne_t_ti : t ≠ ti) (ne_t_sl : t ≠ sl) (ne_en_ti : en ≠ ti) (ne_en_sl : en ≠ sl) (ne_ti_sl : ti ≠ sl)  :
    Met l Z n0 (⟨"com/example/rowan/rowan/store/IdleHeap", "earlierChild", "(I)I"⟩ : MethodName) prog_26_method_11_code 3 (some .int) ws ({ frames := 0, cells := 0, slots := 0, locals := 0 } : Room) #[(.ref t), (.int (0 : Int32))] h0 (fun u h => u = some (.int 1) ∧ h0 = h) := by
  refine met_of Z0 (plainFor_of_name pn_com_example_rowan_rowan_store_IdleHeap) (Ls := #[.val (.ref t), .val (.int (0 : Int32)), .unset]) (fun m => by first | (simp [entryFrame, mkF, argsToLocals, Value.category]; done) | rfl) ?_
  intro K ok
  show W K l _ n0 _ h0 0 0 0 #[.val (.ref t), .val (.int (0 : Int32)), .unset] []
  refine w_iconst ok d15_0 (v := (2 : Int32)) rfl ?_
  refine w_iloadN ok d15_1 rfl ?_
  refine w_imul ok d15_2 ?_
  show W K l _ n0 _ h0 0 0 3 #[.val (.ref t), .val (.int (0 : Int32)), .unset] [(.int (0 : Int32))]
  refine w_iconst ok d15_3 (v := (1 : Int32)) rfl ?_
  refine w_iadd ok d15_4 ?_
  show W K l _ n0 _ h0 0 0 5 #[.val (.ref t), .val (.int (0 : Int32)), .unset] [(.int (1 : Int32))]
  refine w_istoreN ok d15_5 (L' := #[.val (.ref t), .val (.int (0 : Int32)), .val (.int (1 : Int32))]) rfl ?_
  refine w_iloadN ok d15_6 rfl ?_
  refine w_iconst ok d15_7 (v := (1 : Int32)) rfl ?_
  refine w_iadd ok d15_8 ?_
  show W K l _ n0 _ h0 0 0 9 #[.val (.ref t), .val (.int (0 : Int32)), .val (.int (1 : Int32))] [(.int (2 : Int32))]
  refine w_aloadN ok d15_9 rfl rfl ?_
  refine w_getfield ok (v := (.int (2 : Int32))) (host := "") (f := ("com/example/rowan/rowan/store/IdleHeap", "size", "I", .int)) 3 d15_10 (Or.inl (hw _ (List.mem_of_getElem? (i := 48) rfl))) Via.refl A_t rfl rfl ?_
  refine w_icmp_ge ok d15_13 (pc' := 40) (by decide) (fun hc1 => ?_) (fun hc1 => False.elim (by revert hc1; decide))
  show W K l _ n0 _ h0 0 0 40 #[.val (.ref t), .val (.int (0 : Int32)), .val (.int (1 : Int32))] []
  refine w_iloadN ok d15_40 rfl ?_
  refine w_iret ok d15_41 (by decide) (by decide) ?_
  exact ⟨rfl, rfl⟩
set_option maxRecDepth 65536 in
set_option maxHeartbeats 40000000 in
theorem rm_ec21 (l : Launch) (Z : State) (a0 : Array Value) (hw : ∀ d ∈ tables_1, d.before a0 Z = true) (ws : List Jvm.Cond) (n0 : Nat) (h0 : Heap) (Z0 : Old Z n0 h0) (t en ti sl : Addr) (e g : Nat → Int32) (τ : Nat → Int64) (A_t : Ob Z h0 t "com/example/rowan/rowan/store/IdleHeap" fl_IdleHeap [.ref en, .ref ti, .ref sl, .int (2 : Int32)]) (A_en : PA .int Z h0 en (sv 4 e)) (A_ti : PA .long Z h0 ti (lv 4 τ)) (A_sl : PA .int Z h0 sl (sv 4 g)) (ge_t : n0 ≤ t) (ge_en : n0 ≤ en) (ge_ti : n0 ≤ ti) (ge_sl : n0 ≤ sl) (ne_t_en : t ≠ en) (ne_t_ti : t ≠ ti) (ne_t_sl : t ≠ sl) (ne_en_ti : en ≠ ti) (ne_en_sl : en ≠ sl) (ne_ti_sl : ti ≠ sl)  :
    Met l Z n0 (⟨"com/example/rowan/rowan/store/IdleHeap", "earlierChild", "(I)I"⟩ : MethodName) prog_26_method_11_code 3 (some .int) ws ({ frames := 0, cells := 0, slots := 0, locals := 0 } : Room) #[(.ref t), (.int (1 : Int32))] h0 (fun u h => u = some (.int 3) ∧ h0 = h) := by
  refine met_of Z0 (plainFor_of_name pn_com_example_rowan_rowan_store_IdleHeap) (Ls := #[.val (.ref t), .val (.int (1 : Int32)), .unset]) (fun m => by first | (simp [entryFrame, mkF, argsToLocals, Value.category]; done) | rfl) ?_
  intro K ok
  show W K l _ n0 _ h0 0 0 0 #[.val (.ref t), .val (.int (1 : Int32)), .unset] []
  refine w_iconst ok d15_0 (v := (2 : Int32)) rfl ?_
  refine w_iloadN ok d15_1 rfl ?_
  refine w_imul ok d15_2 ?_
  show W K l _ n0 _ h0 0 0 3 #[.val (.ref t), .val (.int (1 : Int32)), .unset] [(.int (2 : Int32))]
  refine w_iconst ok d15_3 (v := (1 : Int32)) rfl ?_
  refine w_iadd ok d15_4 ?_
  show W K l _ n0 _ h0 0 0 5 #[.val (.ref t), .val (.int (1 : Int32)), .unset] [(.int (3 : Int32))]
  refine w_istoreN ok d15_5 (L' := #[.val (.ref t), .val (.int (1 : Int32)), .val (.int (3 : Int32))]) rfl ?_
  refine w_iloadN ok d15_6 rfl ?_
  refine w_iconst ok d15_7 (v := (1 : Int32)) rfl ?_
  refine w_iadd ok d15_8 ?_
  show W K l _ n0 _ h0 0 0 9 #[.val (.ref t), .val (.int (1 : Int32)), .val (.int (3 : Int32))] [(.int (4 : Int32))]
  refine w_aloadN ok d15_9 rfl rfl ?_
  refine w_getfield ok (v := (.int (2 : Int32))) (host := "") (f := ("com/example/rowan/rowan/store/IdleHeap", "size", "I", .int)) 3 d15_10 (Or.inl (hw _ (List.mem_of_getElem? (i := 48) rfl))) Via.refl A_t rfl rfl ?_
  refine w_icmp_ge ok d15_13 (pc' := 40) (by decide) (fun hc1 => ?_) (fun hc1 => False.elim (by revert hc1; decide))
  show W K l _ n0 _ h0 0 0 40 #[.val (.ref t), .val (.int (1 : Int32)), .val (.int (3 : Int32))] []
  refine w_iloadN ok d15_40 rfl ?_
  refine w_iret ok d15_41 (by decide) (by decide) ?_
  exact ⟨rfl, rfl⟩
set_option maxRecDepth 65536 in
set_option maxHeartbeats 40000000 in
theorem rm_ec30 (l : Launch) (Z : State) (a0 : Array Value) (hw : ∀ d ∈ tables_1, d.before a0 Z = true) (ws : List Jvm.Cond) (n0 : Nat) (h0 : Heap) (Z0 : Old Z n0 h0) (t en ti sl : Addr) (e g : Nat → Int32) (τ : Nat → Int64) (A_t : Ob Z h0 t "com/example/rowan/rowan/store/IdleHeap" fl_IdleHeap [.ref en, .ref ti, .ref sl, .int (3 : Int32)]) (A_en : PA .int Z h0 en (sv 4 e)) (A_ti : PA .long Z h0 ti (lv 4 τ)) (A_sl : PA .int Z h0 sl (sv 4 g)) (ge_t : n0 ≤ t) (ge_en : n0 ≤ en) (ge_ti : n0 ≤ ti) (ge_sl : n0 ≤ sl) (ne_t_en : t ≠ en) (ne_t_ti : t ≠ ti) (ne_t_sl : t ≠ sl) (ne_en_ti : en ≠ ti) (ne_en_sl : en ≠ sl) (ne_ti_sl : ti ≠ sl)  :
    Met l Z n0 (⟨"com/example/rowan/rowan/store/IdleHeap", "earlierChild", "(I)I"⟩ : MethodName) prog_26_method_11_code 3 (some .int) ws ({ frames := 0, cells := 0, slots := 0, locals := 0 } : Room) #[(.ref t), (.int (0 : Int32))] h0 (fun u h => (u = some (.int 2) ∧ τ 2 < τ 1 ∧ h0 = h) ∨ (u = some (.int 1) ∧ ¬ τ 2 < τ 1 ∧ h0 = h)) := by
  refine met_of Z0 (plainFor_of_name pn_com_example_rowan_rowan_store_IdleHeap) (Ls := #[.val (.ref t), .val (.int (0 : Int32)), .unset]) (fun m => by first | (simp [entryFrame, mkF, argsToLocals, Value.category]; done) | rfl) ?_
  intro K ok
  show W K l _ n0 _ h0 0 0 0 #[.val (.ref t), .val (.int (0 : Int32)), .unset] []
  refine w_iconst ok d15_0 (v := (2 : Int32)) rfl ?_
  refine w_iloadN ok d15_1 rfl ?_
  refine w_imul ok d15_2 ?_
  show W K l _ n0 _ h0 0 0 3 #[.val (.ref t), .val (.int (0 : Int32)), .unset] [(.int (0 : Int32))]
  refine w_iconst ok d15_3 (v := (1 : Int32)) rfl ?_
  refine w_iadd ok d15_4 ?_
  show W K l _ n0 _ h0 0 0 5 #[.val (.ref t), .val (.int (0 : Int32)), .unset] [(.int (1 : Int32))]
  refine w_istoreN ok d15_5 (L' := #[.val (.ref t), .val (.int (0 : Int32)), .val (.int (1 : Int32))]) rfl ?_
  refine w_iloadN ok d15_6 rfl ?_
  refine w_iconst ok d15_7 (v := (1 : Int32)) rfl ?_
  refine w_iadd ok d15_8 ?_
  show W K l _ n0 _ h0 0 0 9 #[.val (.ref t), .val (.int (0 : Int32)), .val (.int (1 : Int32))] [(.int (2 : Int32))]
  refine w_aloadN ok d15_9 rfl rfl ?_
  refine w_getfield ok (v := (.int (3 : Int32))) (host := "") (f := ("com/example/rowan/rowan/store/IdleHeap", "size", "I", .int)) 3 d15_10 (Or.inl (hw _ (List.mem_of_getElem? (i := 48) rfl))) Via.refl A_t rfl rfl ?_
  refine w_icmp_ge ok d15_13 (pc' := 40) (by decide) (fun hc1 => False.elim (by revert hc1; decide)) (fun hc1 => ?_)
  show W K l _ n0 _ h0 0 0 16 #[.val (.ref t), .val (.int (0 : Int32)), .val (.int (1 : Int32))] []
  refine w_aloadN ok d15_16 rfl rfl ?_
  refine w_getfield ok (v := (.ref ti)) (host := "") (f := ("com/example/rowan/rowan/store/IdleHeap", "times", "[J", (.array .long))) 1 d15_17 (Or.inl (hw _ (List.mem_of_getElem? (i := 13) rfl))) Via.refl A_t rfl rfl ?_
  refine w_iloadN ok d15_20 rfl ?_
  refine w_iconst ok d15_21 (v := (1 : Int32)) rfl ?_
  refine w_iadd ok d15_22 ?_
  show W K l _ n0 _ h0 0 0 23 #[.val (.ref t), .val (.int (0 : Int32)), .val (.int (1 : Int32))] [(.int (2 : Int32)), (.ref ti)]
  refine w_laload ok (v := (.long (τ 2))) d15_23 A_ti (by decide) (own_lvg (j := 2) (by decide)) ?_
  refine w_aloadN ok d15_24 rfl rfl ?_
  refine w_getfield ok (v := (.ref ti)) (host := "") (f := ("com/example/rowan/rowan/store/IdleHeap", "times", "[J", (.array .long))) 1 d15_25 (Or.inl (hw _ (List.mem_of_getElem? (i := 13) rfl))) Via.refl A_t rfl rfl ?_
  refine w_iloadN ok d15_28 rfl ?_
  refine w_laload ok (v := (.long (τ 1))) d15_29 A_ti (by decide) (own_lvg (j := 1) (by decide)) ?_
  refine w_lcmp_ge ok d15_30 d15_31 (pc' := 40) (by decide) (fun hc3 => ?_) (fun hc3 => ?_)
  · show W K l _ n0 _ h0 0 0 40 #[.val (.ref t), .val (.int (0 : Int32)), .val (.int (1 : Int32))] []
    refine w_iloadN ok d15_40 rfl ?_
    refine w_iret ok d15_41 (by decide) (by decide) ?_
    exact Or.inr ⟨rfl, hc3, rfl⟩
  · show W K l _ n0 _ h0 0 0 34 #[.val (.ref t), .val (.int (0 : Int32)), .val (.int (1 : Int32))] []
    refine w_iloadN ok d15_34 rfl ?_
    refine w_iconst ok d15_35 (v := (1 : Int32)) rfl ?_
    refine w_iadd ok d15_36 ?_
    show W K l _ n0 _ h0 0 0 37 #[.val (.ref t), .val (.int (0 : Int32)), .val (.int (1 : Int32))] [(.int (2 : Int32))]
    refine w_goto ok d15_37 (pc' := 41) (by decide) ?_
    refine w_iret ok d15_41 (by decide) (by decide) ?_
    exact Or.inl ⟨rfl, hc3, rfl⟩
set_option maxRecDepth 65536 in
set_option maxHeartbeats 40000000 in
theorem rm_ec31 (l : Launch) (Z : State) (a0 : Array Value) (hw : ∀ d ∈ tables_1, d.before a0 Z = true) (ws : List Jvm.Cond) (n0 : Nat) (h0 : Heap) (Z0 : Old Z n0 h0) (t en ti sl : Addr) (e g : Nat → Int32) (τ : Nat → Int64) (A_t : Ob Z h0 t "com/example/rowan/rowan/store/IdleHeap" fl_IdleHeap [.ref en, .ref ti, .ref sl, .int (3 : Int32)]) (A_en : PA .int Z h0 en (sv 4 e)) (A_ti : PA .long Z h0 ti (lv 4 τ)) (A_sl : PA .int Z h0 sl (sv 4 g)) (ge_t : n0 ≤ t) (ge_en : n0 ≤ en) (ge_ti : n0 ≤ ti) (ge_sl : n0 ≤ sl) (ne_t_en : t ≠ en) (ne_t_ti : t ≠ ti) (ne_t_sl : t ≠ sl) (ne_en_ti : en ≠ ti) (ne_en_sl : en ≠ sl) (ne_ti_sl : ti ≠ sl)  :
    Met l Z n0 (⟨"com/example/rowan/rowan/store/IdleHeap", "earlierChild", "(I)I"⟩ : MethodName) prog_26_method_11_code 3 (some .int) ws ({ frames := 0, cells := 0, slots := 0, locals := 0 } : Room) #[(.ref t), (.int (1 : Int32))] h0 (fun u h => u = some (.int 3) ∧ h0 = h) := by
  refine met_of Z0 (plainFor_of_name pn_com_example_rowan_rowan_store_IdleHeap) (Ls := #[.val (.ref t), .val (.int (1 : Int32)), .unset]) (fun m => by first | (simp [entryFrame, mkF, argsToLocals, Value.category]; done) | rfl) ?_
  intro K ok
  show W K l _ n0 _ h0 0 0 0 #[.val (.ref t), .val (.int (1 : Int32)), .unset] []
  refine w_iconst ok d15_0 (v := (2 : Int32)) rfl ?_
  refine w_iloadN ok d15_1 rfl ?_
  refine w_imul ok d15_2 ?_
  show W K l _ n0 _ h0 0 0 3 #[.val (.ref t), .val (.int (1 : Int32)), .unset] [(.int (2 : Int32))]
  refine w_iconst ok d15_3 (v := (1 : Int32)) rfl ?_
  refine w_iadd ok d15_4 ?_
  show W K l _ n0 _ h0 0 0 5 #[.val (.ref t), .val (.int (1 : Int32)), .unset] [(.int (3 : Int32))]
  refine w_istoreN ok d15_5 (L' := #[.val (.ref t), .val (.int (1 : Int32)), .val (.int (3 : Int32))]) rfl ?_
  refine w_iloadN ok d15_6 rfl ?_
  refine w_iconst ok d15_7 (v := (1 : Int32)) rfl ?_
  refine w_iadd ok d15_8 ?_
  show W K l _ n0 _ h0 0 0 9 #[.val (.ref t), .val (.int (1 : Int32)), .val (.int (3 : Int32))] [(.int (4 : Int32))]
  refine w_aloadN ok d15_9 rfl rfl ?_
  refine w_getfield ok (v := (.int (3 : Int32))) (host := "") (f := ("com/example/rowan/rowan/store/IdleHeap", "size", "I", .int)) 3 d15_10 (Or.inl (hw _ (List.mem_of_getElem? (i := 48) rfl))) Via.refl A_t rfl rfl ?_
  refine w_icmp_ge ok d15_13 (pc' := 40) (by decide) (fun hc1 => ?_) (fun hc1 => False.elim (by revert hc1; decide))
  show W K l _ n0 _ h0 0 0 40 #[.val (.ref t), .val (.int (1 : Int32)), .val (.int (3 : Int32))] []
  refine w_iloadN ok d15_40 rfl ?_
  refine w_iret ok d15_41 (by decide) (by decide) ?_
  exact ⟨rfl, rfl⟩
set_option maxRecDepth 65536 in
set_option maxHeartbeats 40000000 in
theorem rm_ec32 (l : Launch) (Z : State) (a0 : Array Value) (hw : ∀ d ∈ tables_1, d.before a0 Z = true) (ws : List Jvm.Cond) (n0 : Nat) (h0 : Heap) (Z0 : Old Z n0 h0) (t en ti sl : Addr) (e g : Nat → Int32) (τ : Nat → Int64) (A_t : Ob Z h0 t "com/example/rowan/rowan/store/IdleHeap" fl_IdleHeap [.ref en, .ref ti, .ref sl, .int (3 : Int32)]) (A_en : PA .int Z h0 en (sv 4 e)) (A_ti : PA .long Z h0 ti (lv 4 τ)) (A_sl : PA .int Z h0 sl (sv 4 g)) (ge_t : n0 ≤ t) (ge_en : n0 ≤ en) (ge_ti : n0 ≤ ti) (ge_sl : n0 ≤ sl) (ne_t_en : t ≠ en) (ne_t_ti : t ≠ ti) (ne_t_sl : t ≠ sl) (ne_en_ti : en ≠ ti) (ne_en_sl : en ≠ sl) (ne_ti_sl : ti ≠ sl)  :
    Met l Z n0 (⟨"com/example/rowan/rowan/store/IdleHeap", "earlierChild", "(I)I"⟩ : MethodName) prog_26_method_11_code 3 (some .int) ws ({ frames := 0, cells := 0, slots := 0, locals := 0 } : Room) #[(.ref t), (.int (2 : Int32))] h0 (fun u h => u = some (.int 5) ∧ h0 = h) := by
  refine met_of Z0 (plainFor_of_name pn_com_example_rowan_rowan_store_IdleHeap) (Ls := #[.val (.ref t), .val (.int (2 : Int32)), .unset]) (fun m => by first | (simp [entryFrame, mkF, argsToLocals, Value.category]; done) | rfl) ?_
  intro K ok
  show W K l _ n0 _ h0 0 0 0 #[.val (.ref t), .val (.int (2 : Int32)), .unset] []
  refine w_iconst ok d15_0 (v := (2 : Int32)) rfl ?_
  refine w_iloadN ok d15_1 rfl ?_
  refine w_imul ok d15_2 ?_
  show W K l _ n0 _ h0 0 0 3 #[.val (.ref t), .val (.int (2 : Int32)), .unset] [(.int (4 : Int32))]
  refine w_iconst ok d15_3 (v := (1 : Int32)) rfl ?_
  refine w_iadd ok d15_4 ?_
  show W K l _ n0 _ h0 0 0 5 #[.val (.ref t), .val (.int (2 : Int32)), .unset] [(.int (5 : Int32))]
  refine w_istoreN ok d15_5 (L' := #[.val (.ref t), .val (.int (2 : Int32)), .val (.int (5 : Int32))]) rfl ?_
  refine w_iloadN ok d15_6 rfl ?_
  refine w_iconst ok d15_7 (v := (1 : Int32)) rfl ?_
  refine w_iadd ok d15_8 ?_
  show W K l _ n0 _ h0 0 0 9 #[.val (.ref t), .val (.int (2 : Int32)), .val (.int (5 : Int32))] [(.int (6 : Int32))]
  refine w_aloadN ok d15_9 rfl rfl ?_
  refine w_getfield ok (v := (.int (3 : Int32))) (host := "") (f := ("com/example/rowan/rowan/store/IdleHeap", "size", "I", .int)) 3 d15_10 (Or.inl (hw _ (List.mem_of_getElem? (i := 48) rfl))) Via.refl A_t rfl rfl ?_
  refine w_icmp_ge ok d15_13 (pc' := 40) (by decide) (fun hc1 => ?_) (fun hc1 => False.elim (by revert hc1; decide))
  show W K l _ n0 _ h0 0 0 40 #[.val (.ref t), .val (.int (2 : Int32)), .val (.int (5 : Int32))] []
  refine w_iloadN ok d15_40 rfl ?_
  refine w_iret ok d15_41 (by decide) (by decide) ?_
  exact ⟨rfl, rfl⟩
theorem d11_0 : decode prog_26_method_9_code 0 = .ok (.aload_n 0, 1) := by decide +kernel
theorem d11_1 : decode prog_26_method_9_code 1 = .ok (.getfield 7, 3) := by decide +kernel
theorem d11_4 : decode prog_26_method_9_code 4 = .ok (.iload_n 1, 1) := by decide +kernel
theorem d11_5 : decode prog_26_method_9_code 5 = .ok (.iaload, 1) := by decide +kernel
theorem d11_6 : decode prog_26_method_9_code 6 = .ok (.istore_n 2, 1) := by decide +kernel
theorem d11_7 : decode prog_26_method_9_code 7 = .ok (.aload_n 0, 1) := by decide +kernel
theorem d11_8 : decode prog_26_method_9_code 8 = .ok (.getfield 13, 3) := by decide +kernel
theorem d11_11 : decode prog_26_method_9_code 11 = .ok (.iload_n 1, 1) := by decide +kernel
theorem d11_12 : decode prog_26_method_9_code 12 = .ok (.laload, 1) := by decide +kernel
theorem d11_13 : decode prog_26_method_9_code 13 = .ok (.lstore_n 3, 1) := by decide +kernel
theorem d11_14 : decode prog_26_method_9_code 14 = .ok (.iload_n 1, 1) := by decide +kernel
theorem d11_15 : decode prog_26_method_9_code 15 = .ok (.istore 5, 2) := by decide +kernel
theorem d11_17 : decode prog_26_method_9_code 17 = .ok (.iload 5, 2) := by decide +kernel
theorem d11_19 : decode prog_26_method_9_code 19 = .ok (.ifCond .le 54, 3) := by decide +kernel
theorem d11_22 : decode prog_26_method_9_code 22 = .ok (.aload_n 0, 1) := by decide +kernel
theorem d11_23 : decode prog_26_method_9_code 23 = .ok (.getfield 13, 3) := by decide +kernel
theorem d11_26 : decode prog_26_method_9_code 26 = .ok (.iload 5, 2) := by decide +kernel
theorem d11_28 : decode prog_26_method_9_code 28 = .ok (.iconst 1, 1) := by decide +kernel
theorem d11_29 : decode prog_26_method_9_code 29 = .ok (.isub, 1) := by decide +kernel
theorem d11_30 : decode prog_26_method_9_code 30 = .ok (.iconst 2, 1) := by decide +kernel
theorem d11_31 : decode prog_26_method_9_code 31 = .ok (.idiv, 1) := by decide +kernel
theorem d11_32 : decode prog_26_method_9_code 32 = .ok (.laload, 1) := by decide +kernel
theorem d11_33 : decode prog_26_method_9_code 33 = .ok (.lload_n 3, 1) := by decide +kernel
theorem d11_34 : decode prog_26_method_9_code 34 = .ok (.lcmp, 1) := by decide +kernel
theorem d11_35 : decode prog_26_method_9_code 35 = .ok (.ifCond .le 38, 3) := by decide +kernel
theorem d11_38 : decode prog_26_method_9_code 38 = .ok (.iload 5, 2) := by decide +kernel
theorem d11_40 : decode prog_26_method_9_code 40 = .ok (.iconst 1, 1) := by decide +kernel
theorem d11_41 : decode prog_26_method_9_code 41 = .ok (.isub, 1) := by decide +kernel
theorem d11_42 : decode prog_26_method_9_code 42 = .ok (.iconst 2, 1) := by decide +kernel
theorem d11_43 : decode prog_26_method_9_code 43 = .ok (.idiv, 1) := by decide +kernel
theorem d11_44 : decode prog_26_method_9_code 44 = .ok (.istore 6, 2) := by decide +kernel
theorem d11_46 : decode prog_26_method_9_code 46 = .ok (.aload_n 0, 1) := by decide +kernel
theorem d11_47 : decode prog_26_method_9_code 47 = .ok (.aload_n 0, 1) := by decide +kernel
theorem d11_48 : decode prog_26_method_9_code 48 = .ok (.getfield 7, 3) := by decide +kernel
theorem d11_51 : decode prog_26_method_9_code 51 = .ok (.iload 6, 2) := by decide +kernel
theorem d11_53 : decode prog_26_method_9_code 53 = .ok (.iaload, 1) := by decide +kernel
theorem d11_54 : decode prog_26_method_9_code 54 = .ok (.aload_n 0, 1) := by decide +kernel
theorem d11_55 : decode prog_26_method_9_code 55 = .ok (.getfield 13, 3) := by decide +kernel
theorem d11_58 : decode prog_26_method_9_code 58 = .ok (.iload 6, 2) := by decide +kernel
theorem d11_60 : decode prog_26_method_9_code 60 = .ok (.laload, 1) := by decide +kernel
theorem d11_61 : decode prog_26_method_9_code 61 = .ok (.iload 5, 2) := by decide +kernel
theorem d11_63 : decode prog_26_method_9_code 63 = .ok (.invokevirtual 37, 3) := by decide +kernel
theorem d11_66 : decode prog_26_method_9_code 66 = .ok (.iload 6, 2) := by decide +kernel
theorem d11_68 : decode prog_26_method_9_code 68 = .ok (.istore 5, 2) := by decide +kernel
theorem d11_70 : decode prog_26_method_9_code 70 = .ok (.goto (-53), 3) := by decide +kernel
theorem d11_73 : decode prog_26_method_9_code 73 = .ok (.aload_n 0, 1) := by decide +kernel
theorem d11_74 : decode prog_26_method_9_code 74 = .ok (.iload_n 2, 1) := by decide +kernel
theorem d11_75 : decode prog_26_method_9_code 75 = .ok (.lload_n 3, 1) := by decide +kernel
theorem d11_76 : decode prog_26_method_9_code 76 = .ok (.iload 5, 2) := by decide +kernel
theorem d11_78 : decode prog_26_method_9_code 78 = .ok (.invokevirtual 37, 3) := by decide +kernel
theorem d11_81 : decode prog_26_method_9_code 81 = .ok (.return_, 1) := by decide +kernel
theorem pd_28IJI29V : parseMethodDescriptor "(IJI)V" = some ⟨[.int, .long, .int], none⟩ := by decide +kernel
set_option maxRecDepth 65536 in
set_option maxHeartbeats 40000000 in
theorem rm_up (l : Launch) (Z : State) (a0 : Array Value) (hw : ∀ d ∈ tables_1, d.before a0 Z = true) (ws : List Jvm.Cond) (n0 : Nat) (h0 : Heap) (Z0 : Old Z n0 h0) (t en ti sl : Addr) (sz : Nat) (e g : Nat → Int32) (τ : Nat → Int64) (A_t : Ob Z h0 t "com/example/rowan/rowan/store/IdleHeap" fl_IdleHeap [.ref en, .ref ti, .ref sl, .int (Int32.ofNat sz)]) (A_en : PA .int Z h0 en (sv 4 e)) (A_ti : PA .long Z h0 ti (lv 4 τ)) (A_sl : PA .int Z h0 sl (sv 4 g)) (ge_t : n0 ≤ t) (ge_en : n0 ≤ en) (ge_ti : n0 ≤ ti) (ge_sl : n0 ≤ sl) (ne_t_en : t ≠ en) (ne_t_ti : t ≠ ti) (ne_t_sl : t ≠ sl) (ne_en_ti : en ≠ ti) (ne_en_sl : en ≠ sl) (ne_ti_sl : ti ≠ sl) (f : Nat) (M : Nat → Option Int64) (P : PP sz e τ g M) (hf : f < sz) (hU : ∀ i, i < sz → i ≠ f → (τ 0).toInt ≤ (τ i).toInt) :
    Met l Z n0 (⟨"com/example/rowan/rowan/store/IdleHeap", "siftUp", "(I)V"⟩ : MethodName) prog_26_method_9_code 7 none ws ({ frames := 1, cells := 0, slots := 0, locals := 16 } : Room) #[.ref t, .int (Int32.ofNat f)] h0 (fun u h => u = none ∧ ∃ e' g' τ', Keep h0 h [en, ti, sl] ∧ PA .int Z h en (sv 4 e') ∧ PA .long Z h ti (lv 4 τ') ∧ PA .int Z h sl (sv 4 g') ∧ PP sz e' τ' g' M ∧ HO sz τ') := by
  refine met_of Z0 (plainFor_of_name pn_com_example_rowan_rowan_store_IdleHeap) (Ls := #[.val (.ref t), .val (.int (Int32.ofNat f)), .unset, .unset, .unset, .unset, .unset]) (fun m => by first | (simp [entryFrame, mkF, argsToLocals, Value.category]; done) | rfl) ?_
  intro K ok
  obtain ⟨rfl, rfl⟩ | ⟨rfl, rfl⟩ | ⟨rfl, rfl⟩ | ⟨rfl, rfl⟩ | ⟨rfl, rfl⟩ | ⟨rfl, rfl⟩ : (sz = 1 ∧ f = 0) ∨ (sz = 2 ∧ f = 0) ∨ (sz = 2 ∧ f = 1) ∨ (sz = 3 ∧ f = 0) ∨ (sz = 3 ∧ f = 1) ∨ (sz = 3 ∧ f = 2) := by have := P.1; omega
  · have Kp : Keep h0 h0 [en, ti, sl] := Keep.refl _ _
    obtain ⟨y0, hy0, ey0, -, -⟩ := P.2.1 0 (by decide)
    show W K l _ n0 _ h0 0 0 0 #[.val (.ref t), .val (.int (0 : Int32)), .unset, .unset, .unset, .unset, .unset] []
    refine w_aloadN ok d11_0 rfl rfl ?_
    refine w_getfield ok (v := (.ref en)) (host := "") (f := ("com/example/rowan/rowan/store/IdleHeap", "entries", "[I", (.array .int))) 0 d11_1 (Or.inl (hw _ (List.mem_of_getElem? (i := 10) rfl))) Via.refl A_t rfl rfl ?_
    refine w_iloadN ok d11_4 rfl ?_
    refine w_iaload ok (v := (.int (Int32.ofNat y0))) d11_5 A_en (by decide) (ey0 ▸ own_svg (j := 0) (by decide)) ?_
    refine w_istoreN ok d11_6 (L' := #[.val (.ref t), .val (.int (0 : Int32)), .val (.int (Int32.ofNat y0)), .unset, .unset, .unset, .unset]) rfl ?_
    refine w_aloadN ok d11_7 rfl rfl ?_
    refine w_getfield ok (v := (.ref ti)) (host := "") (f := ("com/example/rowan/rowan/store/IdleHeap", "times", "[J", (.array .long))) 1 d11_8 (Or.inl (hw _ (List.mem_of_getElem? (i := 13) rfl))) Via.refl A_t rfl rfl ?_
    refine w_iloadN ok d11_11 rfl ?_
    refine w_laload ok (v := (.long (τ 0))) d11_12 A_ti (by decide) (own_lvg (j := 0) (by decide)) ?_
    refine w_lstoreN ok d11_13 (L' := #[.val (.ref t), .val (.int (0 : Int32)), .val (.int (Int32.ofNat y0)), .val (.long (τ 0)), .second, .unset, .unset]) rfl ?_
    refine w_iloadN ok d11_14 rfl ?_
    refine w_istore ok d11_15 (L' := #[.val (.ref t), .val (.int (0 : Int32)), .val (.int (Int32.ofNat y0)), .val (.long (τ 0)), .second, .val (.int (0 : Int32)), .unset]) rfl ?_
    refine w_iload ok d11_17 rfl ?_
    refine w_if_le ok d11_19 (pc' := 73) (by decide) (fun hc1 => ?_) (fun hc1 => False.elim (by revert hc1; decide))
    show W K l _ n0 _ h0 0 0 73 #[.val (.ref t), .val (.int (0 : Int32)), .val (.int (Int32.ofNat y0)), .val (.long (τ 0)), .second, .val (.int (0 : Int32)), .unset] []
    refine w_aloadN ok d11_73 rfl rfl ?_
    refine w_iloadN ok d11_74 rfl ?_
    refine w_lloadN ok d11_75 rfl ?_
    refine w_iload ok d11_76 rfl ?_
    refine w_callP ok (y := (⟨"com/example/rowan/rowan/store/IdleHeap", "place", "(IJI)V"⟩ : MethodName)) (a := t) (argsL := [(.int (Int32.ofNat y0)), (.long (τ 0)), (.int (0 : Int32))]) (rest := []) d11_78 (hw _ (List.mem_of_getElem? (i := 50) rfl)) (hw _ (List.mem_of_getElem? (i := 51) rfl)) (hw _ (List.mem_of_getElem? (i := 52) rfl)) (hw _ (List.mem_of_getElem? (i := 1) rfl)) (hw _ (List.mem_of_getElem? (i := 2) rfl)) (hw _ (List.mem_of_getElem? (i := 53) rfl)) (by decide) A_t.1 pd_28IJI29V rfl rfl (by decide) (Nat.le_of_ble_eq_true rfl) (by decide) (by decide) (fun z0 => rm_place l Z a0 hw [] n0 h0 z0 t en ti sl (1 : Int32) e g τ A_t A_en A_ti A_sl ge_t ge_en ge_ti ge_sl ne_t_en ne_t_ti ne_t_sl ne_en_ti ne_en_sl ne_ti_sl y0 0 (τ 0) hy0 (by decide)) (fun v2 h3 qv2 => ?_)
    obtain ⟨rfl, K1, A1, A2, A3⟩ := qv2
    replace Kp := Kp.trans K1 (allS (Or.inl (by simp)) (allS (Or.inl (by simp)) (allS (Or.inl (by simp)) all0)))
    replace A_t := A_t.keep K1 (ninS ne_t_en (ninS ne_t_ti (ninS ne_t_sl nin0)))
    replace A_en := A1
    replace A_ti := A2
    replace A_sl := A3
    show W K l _ n0 _ h3 0 0 81 #[.val (.ref t), .val (.int (0 : Int32)), .val (.int (Int32.ofNat y0)), .val (.long (τ 0)), .second, .val (.int (0 : Int32)), .unset] []
    refine w_ret ok d11_81 (by decide) (by decide) ?_
    refine ⟨rfl, _, _, _, Kp, A_en, A_ti, A_sl, (P.keep (by decide) hy0 ey0), ?_⟩
    rw [own_uidL τ 0 rfl]
    exact fun i hi => if q : i = 0 then by rw [q]; exact Int.le_refl _ else hU i hi q
  · have Kp : Keep h0 h0 [en, ti, sl] := Keep.refl _ _
    obtain ⟨y0, hy0, ey0, -, -⟩ := P.2.1 0 (by decide)
    obtain ⟨y1, hy1, ey1, -, -⟩ := P.2.1 1 (by decide)
    show W K l _ n0 _ h0 0 0 0 #[.val (.ref t), .val (.int (0 : Int32)), .unset, .unset, .unset, .unset, .unset] []
    refine w_aloadN ok d11_0 rfl rfl ?_
    refine w_getfield ok (v := (.ref en)) (host := "") (f := ("com/example/rowan/rowan/store/IdleHeap", "entries", "[I", (.array .int))) 0 d11_1 (Or.inl (hw _ (List.mem_of_getElem? (i := 10) rfl))) Via.refl A_t rfl rfl ?_
    refine w_iloadN ok d11_4 rfl ?_
    refine w_iaload ok (v := (.int (Int32.ofNat y0))) d11_5 A_en (by decide) (ey0 ▸ own_svg (j := 0) (by decide)) ?_
    refine w_istoreN ok d11_6 (L' := #[.val (.ref t), .val (.int (0 : Int32)), .val (.int (Int32.ofNat y0)), .unset, .unset, .unset, .unset]) rfl ?_
    refine w_aloadN ok d11_7 rfl rfl ?_
    refine w_getfield ok (v := (.ref ti)) (host := "") (f := ("com/example/rowan/rowan/store/IdleHeap", "times", "[J", (.array .long))) 1 d11_8 (Or.inl (hw _ (List.mem_of_getElem? (i := 13) rfl))) Via.refl A_t rfl rfl ?_
    refine w_iloadN ok d11_11 rfl ?_
    refine w_laload ok (v := (.long (τ 0))) d11_12 A_ti (by decide) (own_lvg (j := 0) (by decide)) ?_
    refine w_lstoreN ok d11_13 (L' := #[.val (.ref t), .val (.int (0 : Int32)), .val (.int (Int32.ofNat y0)), .val (.long (τ 0)), .second, .unset, .unset]) rfl ?_
    refine w_iloadN ok d11_14 rfl ?_
    refine w_istore ok d11_15 (L' := #[.val (.ref t), .val (.int (0 : Int32)), .val (.int (Int32.ofNat y0)), .val (.long (τ 0)), .second, .val (.int (0 : Int32)), .unset]) rfl ?_
    refine w_iload ok d11_17 rfl ?_
    refine w_if_le ok d11_19 (pc' := 73) (by decide) (fun hc1 => ?_) (fun hc1 => False.elim (by revert hc1; decide))
    show W K l _ n0 _ h0 0 0 73 #[.val (.ref t), .val (.int (0 : Int32)), .val (.int (Int32.ofNat y0)), .val (.long (τ 0)), .second, .val (.int (0 : Int32)), .unset] []
    refine w_aloadN ok d11_73 rfl rfl ?_
    refine w_iloadN ok d11_74 rfl ?_
    refine w_lloadN ok d11_75 rfl ?_
    refine w_iload ok d11_76 rfl ?_
    refine w_callP ok (y := (⟨"com/example/rowan/rowan/store/IdleHeap", "place", "(IJI)V"⟩ : MethodName)) (a := t) (argsL := [(.int (Int32.ofNat y0)), (.long (τ 0)), (.int (0 : Int32))]) (rest := []) d11_78 (hw _ (List.mem_of_getElem? (i := 50) rfl)) (hw _ (List.mem_of_getElem? (i := 51) rfl)) (hw _ (List.mem_of_getElem? (i := 52) rfl)) (hw _ (List.mem_of_getElem? (i := 1) rfl)) (hw _ (List.mem_of_getElem? (i := 2) rfl)) (hw _ (List.mem_of_getElem? (i := 53) rfl)) (by decide) A_t.1 pd_28IJI29V rfl rfl (by decide) (Nat.le_of_ble_eq_true rfl) (by decide) (by decide) (fun z0 => rm_place l Z a0 hw [] n0 h0 z0 t en ti sl (2 : Int32) e g τ A_t A_en A_ti A_sl ge_t ge_en ge_ti ge_sl ne_t_en ne_t_ti ne_t_sl ne_en_ti ne_en_sl ne_ti_sl y0 0 (τ 0) hy0 (by decide)) (fun v2 h3 qv2 => ?_)
    obtain ⟨rfl, K1, A1, A2, A3⟩ := qv2
    replace Kp := Kp.trans K1 (allS (Or.inl (by simp)) (allS (Or.inl (by simp)) (allS (Or.inl (by simp)) all0)))
    replace A_t := A_t.keep K1 (ninS ne_t_en (ninS ne_t_ti (ninS ne_t_sl nin0)))
    replace A_en := A1
    replace A_ti := A2
    replace A_sl := A3
    show W K l _ n0 _ h3 0 0 81 #[.val (.ref t), .val (.int (0 : Int32)), .val (.int (Int32.ofNat y0)), .val (.long (τ 0)), .second, .val (.int (0 : Int32)), .unset] []
    refine w_ret ok d11_81 (by decide) (by decide) ?_
    refine ⟨rfl, _, _, _, Kp, A_en, A_ti, A_sl, (P.keep (by decide) hy0 ey0), ?_⟩
    rw [own_uidL τ 0 rfl]
    exact fun i hi => if q : i = 0 then by rw [q]; exact Int.le_refl _ else hU i hi q
  · have Kp : Keep h0 h0 [en, ti, sl] := Keep.refl _ _
    obtain ⟨y0, hy0, ey0, -, -⟩ := P.2.1 0 (by decide)
    obtain ⟨y1, hy1, ey1, -, -⟩ := P.2.1 1 (by decide)
    show W K l _ n0 _ h0 0 0 0 #[.val (.ref t), .val (.int (1 : Int32)), .unset, .unset, .unset, .unset, .unset] []
    refine w_aloadN ok d11_0 rfl rfl ?_
    refine w_getfield ok (v := (.ref en)) (host := "") (f := ("com/example/rowan/rowan/store/IdleHeap", "entries", "[I", (.array .int))) 0 d11_1 (Or.inl (hw _ (List.mem_of_getElem? (i := 10) rfl))) Via.refl A_t rfl rfl ?_
    refine w_iloadN ok d11_4 rfl ?_
    refine w_iaload ok (v := (.int (Int32.ofNat y1))) d11_5 A_en (by decide) (ey1 ▸ own_svg (j := 1) (by decide)) ?_
    refine w_istoreN ok d11_6 (L' := #[.val (.ref t), .val (.int (1 : Int32)), .val (.int (Int32.ofNat y1)), .unset, .unset, .unset, .unset]) rfl ?_
    refine w_aloadN ok d11_7 rfl rfl ?_
    refine w_getfield ok (v := (.ref ti)) (host := "") (f := ("com/example/rowan/rowan/store/IdleHeap", "times", "[J", (.array .long))) 1 d11_8 (Or.inl (hw _ (List.mem_of_getElem? (i := 13) rfl))) Via.refl A_t rfl rfl ?_
    refine w_iloadN ok d11_11 rfl ?_
    refine w_laload ok (v := (.long (τ 1))) d11_12 A_ti (by decide) (own_lvg (j := 1) (by decide)) ?_
    refine w_lstoreN ok d11_13 (L' := #[.val (.ref t), .val (.int (1 : Int32)), .val (.int (Int32.ofNat y1)), .val (.long (τ 1)), .second, .unset, .unset]) rfl ?_
    refine w_iloadN ok d11_14 rfl ?_
    refine w_istore ok d11_15 (L' := #[.val (.ref t), .val (.int (1 : Int32)), .val (.int (Int32.ofNat y1)), .val (.long (τ 1)), .second, .val (.int (1 : Int32)), .unset]) rfl ?_
    refine w_iload ok d11_17 rfl ?_
    refine w_if_le ok d11_19 (pc' := 73) (by decide) (fun hc1 => False.elim (by revert hc1; decide)) (fun hc1 => ?_)
    show W K l _ n0 _ h0 0 0 22 #[.val (.ref t), .val (.int (1 : Int32)), .val (.int (Int32.ofNat y1)), .val (.long (τ 1)), .second, .val (.int (1 : Int32)), .unset] []
    refine w_aloadN ok d11_22 rfl rfl ?_
    refine w_getfield ok (v := (.ref ti)) (host := "") (f := ("com/example/rowan/rowan/store/IdleHeap", "times", "[J", (.array .long))) 1 d11_23 (Or.inl (hw _ (List.mem_of_getElem? (i := 13) rfl))) Via.refl A_t rfl rfl ?_
    refine w_iload ok d11_26 rfl ?_
    refine w_iconst ok d11_28 (v := (1 : Int32)) rfl ?_
    refine w_isub ok d11_29 ?_
    show W K l _ n0 _ h0 0 0 30 #[.val (.ref t), .val (.int (1 : Int32)), .val (.int (Int32.ofNat y1)), .val (.long (τ 1)), .second, .val (.int (1 : Int32)), .unset] [(.int (0 : Int32)), (.ref ti)]
    refine w_iconst ok d11_30 (v := (2 : Int32)) rfl ?_
    refine w_idiv ok d11_31 (by decide) ?_
    show W K l _ n0 _ h0 0 0 32 #[.val (.ref t), .val (.int (1 : Int32)), .val (.int (Int32.ofNat y1)), .val (.long (τ 1)), .second, .val (.int (1 : Int32)), .unset] [(.int (0 : Int32)), (.ref ti)]
    refine w_laload ok (v := (.long (τ 0))) d11_32 A_ti (by decide) (own_lvg (j := 0) (by decide)) ?_
    refine w_lloadN ok d11_33 rfl ?_
    refine w_lcmp_le ok d11_34 d11_35 (pc' := 73) (by decide) (fun hc3 => ?_) (fun hc3 => ?_)
    · show W K l _ n0 _ h0 0 0 73 #[.val (.ref t), .val (.int (1 : Int32)), .val (.int (Int32.ofNat y1)), .val (.long (τ 1)), .second, .val (.int (1 : Int32)), .unset] []
      refine w_aloadN ok d11_73 rfl rfl ?_
      refine w_iloadN ok d11_74 rfl ?_
      refine w_lloadN ok d11_75 rfl ?_
      refine w_iload ok d11_76 rfl ?_
      refine w_callP ok (y := (⟨"com/example/rowan/rowan/store/IdleHeap", "place", "(IJI)V"⟩ : MethodName)) (a := t) (argsL := [(.int (Int32.ofNat y1)), (.long (τ 1)), (.int (1 : Int32))]) (rest := []) d11_78 (hw _ (List.mem_of_getElem? (i := 50) rfl)) (hw _ (List.mem_of_getElem? (i := 51) rfl)) (hw _ (List.mem_of_getElem? (i := 52) rfl)) (hw _ (List.mem_of_getElem? (i := 1) rfl)) (hw _ (List.mem_of_getElem? (i := 2) rfl)) (hw _ (List.mem_of_getElem? (i := 53) rfl)) (by decide) A_t.1 pd_28IJI29V rfl rfl (by decide) (Nat.le_of_ble_eq_true rfl) (by decide) (by decide) (fun z0 => rm_place l Z a0 hw [] n0 h0 z0 t en ti sl (2 : Int32) e g τ A_t A_en A_ti A_sl ge_t ge_en ge_ti ge_sl ne_t_en ne_t_ti ne_t_sl ne_en_ti ne_en_sl ne_ti_sl y1 1 (τ 1) hy1 (by decide)) (fun v4 h5 qv4 => ?_)
      obtain ⟨rfl, K1, A1, A2, A3⟩ := qv4
      replace Kp := Kp.trans K1 (allS (Or.inl (by simp)) (allS (Or.inl (by simp)) (allS (Or.inl (by simp)) all0)))
      replace A_t := A_t.keep K1 (ninS ne_t_en (ninS ne_t_ti (ninS ne_t_sl nin0)))
      replace A_en := A1
      replace A_ti := A2
      replace A_sl := A3
      show W K l _ n0 _ h5 0 0 81 #[.val (.ref t), .val (.int (1 : Int32)), .val (.int (Int32.ofNat y1)), .val (.long (τ 1)), .second, .val (.int (1 : Int32)), .unset] []
      refine w_ret ok d11_81 (by decide) (by decide) ?_
      refine ⟨rfl, _, _, _, Kp, A_en, A_ti, A_sl, (P.keep (by decide) hy1 ey1), ?_⟩
      rw [own_uidL τ 1 rfl]
      exact fun i hi => if q : i = 1 then by rw [q]; have := hc3; rw [Int64.lt_iff_toInt_lt] at this; omega else hU i hi q
    · show W K l _ n0 _ h0 0 0 38 #[.val (.ref t), .val (.int (1 : Int32)), .val (.int (Int32.ofNat y1)), .val (.long (τ 1)), .second, .val (.int (1 : Int32)), .unset] []
      refine w_iload ok d11_38 rfl ?_
      refine w_iconst ok d11_40 (v := (1 : Int32)) rfl ?_
      refine w_isub ok d11_41 ?_
      show W K l _ n0 _ h0 0 0 42 #[.val (.ref t), .val (.int (1 : Int32)), .val (.int (Int32.ofNat y1)), .val (.long (τ 1)), .second, .val (.int (1 : Int32)), .unset] [(.int (0 : Int32))]
      refine w_iconst ok d11_42 (v := (2 : Int32)) rfl ?_
      refine w_idiv ok d11_43 (by decide) ?_
      show W K l _ n0 _ h0 0 0 44 #[.val (.ref t), .val (.int (1 : Int32)), .val (.int (Int32.ofNat y1)), .val (.long (τ 1)), .second, .val (.int (1 : Int32)), .unset] [(.int (0 : Int32))]
      refine w_istore ok d11_44 (L' := #[.val (.ref t), .val (.int (1 : Int32)), .val (.int (Int32.ofNat y1)), .val (.long (τ 1)), .second, .val (.int (1 : Int32)), .val (.int (0 : Int32))]) rfl ?_
      refine w_aloadN ok d11_46 rfl rfl ?_
      refine w_aloadN ok d11_47 rfl rfl ?_
      refine w_getfield ok (v := (.ref en)) (host := "") (f := ("com/example/rowan/rowan/store/IdleHeap", "entries", "[I", (.array .int))) 0 d11_48 (Or.inl (hw _ (List.mem_of_getElem? (i := 10) rfl))) Via.refl A_t rfl rfl ?_
      refine w_iload ok d11_51 rfl ?_
      refine w_iaload ok (v := (.int (Int32.ofNat y0))) d11_53 A_en (by decide) (ey0 ▸ own_svg (j := 0) (by decide)) ?_
      refine w_aloadN ok d11_54 rfl rfl ?_
      refine w_getfield ok (v := (.ref ti)) (host := "") (f := ("com/example/rowan/rowan/store/IdleHeap", "times", "[J", (.array .long))) 1 d11_55 (Or.inl (hw _ (List.mem_of_getElem? (i := 13) rfl))) Via.refl A_t rfl rfl ?_
      refine w_iload ok d11_58 rfl ?_
      refine w_laload ok (v := (.long (τ 0))) d11_60 A_ti (by decide) (own_lvg (j := 0) (by decide)) ?_
      refine w_iload ok d11_61 rfl ?_
      refine w_callP ok (y := (⟨"com/example/rowan/rowan/store/IdleHeap", "place", "(IJI)V"⟩ : MethodName)) (a := t) (argsL := [(.int (Int32.ofNat y0)), (.long (τ 0)), (.int (1 : Int32))]) (rest := []) d11_63 (hw _ (List.mem_of_getElem? (i := 50) rfl)) (hw _ (List.mem_of_getElem? (i := 51) rfl)) (hw _ (List.mem_of_getElem? (i := 52) rfl)) (hw _ (List.mem_of_getElem? (i := 1) rfl)) (hw _ (List.mem_of_getElem? (i := 2) rfl)) (hw _ (List.mem_of_getElem? (i := 53) rfl)) (by decide) A_t.1 pd_28IJI29V rfl rfl (by decide) (Nat.le_of_ble_eq_true rfl) (by decide) (by decide) (fun z0 => rm_place l Z a0 hw [] n0 h0 z0 t en ti sl (2 : Int32) e g τ A_t A_en A_ti A_sl ge_t ge_en ge_ti ge_sl ne_t_en ne_t_ti ne_t_sl ne_en_ti ne_en_sl ne_ti_sl y0 1 (τ 0) hy0 (by decide)) (fun v6 h7 qv6 => ?_)
      obtain ⟨rfl, K1, A1, A2, A3⟩ := qv6
      replace Kp := Kp.trans K1 (allS (Or.inl (by simp)) (allS (Or.inl (by simp)) (allS (Or.inl (by simp)) all0)))
      replace A_t := A_t.keep K1 (ninS ne_t_en (ninS ne_t_ti (ninS ne_t_sl nin0)))
      replace A_en := A1
      replace A_ti := A2
      replace A_sl := A3
      show W K l _ n0 _ h7 0 0 66 #[.val (.ref t), .val (.int (1 : Int32)), .val (.int (Int32.ofNat y1)), .val (.long (τ 1)), .second, .val (.int (1 : Int32)), .val (.int (0 : Int32))] []
      refine w_iload ok d11_66 rfl ?_
      refine w_istore ok d11_68 (L' := #[.val (.ref t), .val (.int (1 : Int32)), .val (.int (Int32.ofNat y1)), .val (.long (τ 1)), .second, .val (.int (0 : Int32)), .val (.int (0 : Int32))]) rfl ?_
      refine w_goto ok d11_70 (pc' := 17) (by decide) ?_
      refine w_iload ok d11_17 rfl ?_
      refine w_if_le ok d11_19 (pc' := 73) (by decide) (fun hc9 => ?_) (fun hc9 => False.elim (by revert hc9; decide))
      show W K l _ n0 _ h7 0 0 73 #[.val (.ref t), .val (.int (1 : Int32)), .val (.int (Int32.ofNat y1)), .val (.long (τ 1)), .second, .val (.int (0 : Int32)), .val (.int (0 : Int32))] []
      refine w_aloadN ok d11_73 rfl rfl ?_
      refine w_iloadN ok d11_74 rfl ?_
      refine w_lloadN ok d11_75 rfl ?_
      refine w_iload ok d11_76 rfl ?_
      refine w_callP ok (y := (⟨"com/example/rowan/rowan/store/IdleHeap", "place", "(IJI)V"⟩ : MethodName)) (a := t) (argsL := [(.int (Int32.ofNat y1)), (.long (τ 1)), (.int (0 : Int32))]) (rest := []) d11_78 (hw _ (List.mem_of_getElem? (i := 50) rfl)) (hw _ (List.mem_of_getElem? (i := 51) rfl)) (hw _ (List.mem_of_getElem? (i := 52) rfl)) (hw _ (List.mem_of_getElem? (i := 1) rfl)) (hw _ (List.mem_of_getElem? (i := 2) rfl)) (hw _ (List.mem_of_getElem? (i := 53) rfl)) (by decide) A_t.1 pd_28IJI29V rfl rfl (by decide) (Nat.le_of_ble_eq_true rfl) (by decide) (by decide) (fun z0 => rm_place l Z a0 hw [] n0 h7 z0 t en ti sl (2 : Int32) (upd e 1 (Int32.ofNat y0)) (upd g y0 (Int32.ofNat 1)) (updL τ 1 (τ 0)) A_t A_en A_ti A_sl ge_t ge_en ge_ti ge_sl ne_t_en ne_t_ti ne_t_sl ne_en_ti ne_en_sl ne_ti_sl y1 0 (τ 1) hy1 (by decide)) (fun v10 h11 qv10 => ?_)
      obtain ⟨rfl, K1, A1, A2, A3⟩ := qv10
      replace Kp := Kp.trans K1 (allS (Or.inl (by simp)) (allS (Or.inl (by simp)) (allS (Or.inl (by simp)) all0)))
      replace A_t := A_t.keep K1 (ninS ne_t_en (ninS ne_t_ti (ninS ne_t_sl nin0)))
      replace A_en := A1
      replace A_ti := A2
      replace A_sl := A3
      show W K l _ n0 _ h11 0 0 81 #[.val (.ref t), .val (.int (1 : Int32)), .val (.int (Int32.ofNat y1)), .val (.long (τ 1)), .second, .val (.int (0 : Int32)), .val (.int (0 : Int32))] []
      refine w_ret ok d11_81 (by decide) (by decide) ?_
      refine ⟨rfl, _, _, _, Kp, A_en, A_ti, A_sl, (P.swap (i := 1) (j := 0) (by decide) (by decide) (by decide) hy1 hy0 ey1 ey0), ?_⟩
      have hk := hc3; rw [Int64.lt_iff_toInt_lt] at hk
      intro i hi
      rw [updL_same]
      by_cases q0 : i = 0
      · rw [q0, updL_same]; exact Int.le_refl _
      · rw [updL_ne q0]
        by_cases qf : i = 1
        · rw [qf, updL_same]; omega
        · rw [updL_ne qf]; have := hU i hi qf; omega
  · have Kp : Keep h0 h0 [en, ti, sl] := Keep.refl _ _
    obtain ⟨y0, hy0, ey0, -, -⟩ := P.2.1 0 (by decide)
    obtain ⟨y1, hy1, ey1, -, -⟩ := P.2.1 1 (by decide)
    obtain ⟨y2, hy2, ey2, -, -⟩ := P.2.1 2 (by decide)
    show W K l _ n0 _ h0 0 0 0 #[.val (.ref t), .val (.int (0 : Int32)), .unset, .unset, .unset, .unset, .unset] []
    refine w_aloadN ok d11_0 rfl rfl ?_
    refine w_getfield ok (v := (.ref en)) (host := "") (f := ("com/example/rowan/rowan/store/IdleHeap", "entries", "[I", (.array .int))) 0 d11_1 (Or.inl (hw _ (List.mem_of_getElem? (i := 10) rfl))) Via.refl A_t rfl rfl ?_
    refine w_iloadN ok d11_4 rfl ?_
    refine w_iaload ok (v := (.int (Int32.ofNat y0))) d11_5 A_en (by decide) (ey0 ▸ own_svg (j := 0) (by decide)) ?_
    refine w_istoreN ok d11_6 (L' := #[.val (.ref t), .val (.int (0 : Int32)), .val (.int (Int32.ofNat y0)), .unset, .unset, .unset, .unset]) rfl ?_
    refine w_aloadN ok d11_7 rfl rfl ?_
    refine w_getfield ok (v := (.ref ti)) (host := "") (f := ("com/example/rowan/rowan/store/IdleHeap", "times", "[J", (.array .long))) 1 d11_8 (Or.inl (hw _ (List.mem_of_getElem? (i := 13) rfl))) Via.refl A_t rfl rfl ?_
    refine w_iloadN ok d11_11 rfl ?_
    refine w_laload ok (v := (.long (τ 0))) d11_12 A_ti (by decide) (own_lvg (j := 0) (by decide)) ?_
    refine w_lstoreN ok d11_13 (L' := #[.val (.ref t), .val (.int (0 : Int32)), .val (.int (Int32.ofNat y0)), .val (.long (τ 0)), .second, .unset, .unset]) rfl ?_
    refine w_iloadN ok d11_14 rfl ?_
    refine w_istore ok d11_15 (L' := #[.val (.ref t), .val (.int (0 : Int32)), .val (.int (Int32.ofNat y0)), .val (.long (τ 0)), .second, .val (.int (0 : Int32)), .unset]) rfl ?_
    refine w_iload ok d11_17 rfl ?_
    refine w_if_le ok d11_19 (pc' := 73) (by decide) (fun hc1 => ?_) (fun hc1 => False.elim (by revert hc1; decide))
    show W K l _ n0 _ h0 0 0 73 #[.val (.ref t), .val (.int (0 : Int32)), .val (.int (Int32.ofNat y0)), .val (.long (τ 0)), .second, .val (.int (0 : Int32)), .unset] []
    refine w_aloadN ok d11_73 rfl rfl ?_
    refine w_iloadN ok d11_74 rfl ?_
    refine w_lloadN ok d11_75 rfl ?_
    refine w_iload ok d11_76 rfl ?_
    refine w_callP ok (y := (⟨"com/example/rowan/rowan/store/IdleHeap", "place", "(IJI)V"⟩ : MethodName)) (a := t) (argsL := [(.int (Int32.ofNat y0)), (.long (τ 0)), (.int (0 : Int32))]) (rest := []) d11_78 (hw _ (List.mem_of_getElem? (i := 50) rfl)) (hw _ (List.mem_of_getElem? (i := 51) rfl)) (hw _ (List.mem_of_getElem? (i := 52) rfl)) (hw _ (List.mem_of_getElem? (i := 1) rfl)) (hw _ (List.mem_of_getElem? (i := 2) rfl)) (hw _ (List.mem_of_getElem? (i := 53) rfl)) (by decide) A_t.1 pd_28IJI29V rfl rfl (by decide) (Nat.le_of_ble_eq_true rfl) (by decide) (by decide) (fun z0 => rm_place l Z a0 hw [] n0 h0 z0 t en ti sl (3 : Int32) e g τ A_t A_en A_ti A_sl ge_t ge_en ge_ti ge_sl ne_t_en ne_t_ti ne_t_sl ne_en_ti ne_en_sl ne_ti_sl y0 0 (τ 0) hy0 (by decide)) (fun v2 h3 qv2 => ?_)
    obtain ⟨rfl, K1, A1, A2, A3⟩ := qv2
    replace Kp := Kp.trans K1 (allS (Or.inl (by simp)) (allS (Or.inl (by simp)) (allS (Or.inl (by simp)) all0)))
    replace A_t := A_t.keep K1 (ninS ne_t_en (ninS ne_t_ti (ninS ne_t_sl nin0)))
    replace A_en := A1
    replace A_ti := A2
    replace A_sl := A3
    show W K l _ n0 _ h3 0 0 81 #[.val (.ref t), .val (.int (0 : Int32)), .val (.int (Int32.ofNat y0)), .val (.long (τ 0)), .second, .val (.int (0 : Int32)), .unset] []
    refine w_ret ok d11_81 (by decide) (by decide) ?_
    refine ⟨rfl, _, _, _, Kp, A_en, A_ti, A_sl, (P.keep (by decide) hy0 ey0), ?_⟩
    rw [own_uidL τ 0 rfl]
    exact fun i hi => if q : i = 0 then by rw [q]; exact Int.le_refl _ else hU i hi q
  · have Kp : Keep h0 h0 [en, ti, sl] := Keep.refl _ _
    obtain ⟨y0, hy0, ey0, -, -⟩ := P.2.1 0 (by decide)
    obtain ⟨y1, hy1, ey1, -, -⟩ := P.2.1 1 (by decide)
    obtain ⟨y2, hy2, ey2, -, -⟩ := P.2.1 2 (by decide)
    show W K l _ n0 _ h0 0 0 0 #[.val (.ref t), .val (.int (1 : Int32)), .unset, .unset, .unset, .unset, .unset] []
    refine w_aloadN ok d11_0 rfl rfl ?_
    refine w_getfield ok (v := (.ref en)) (host := "") (f := ("com/example/rowan/rowan/store/IdleHeap", "entries", "[I", (.array .int))) 0 d11_1 (Or.inl (hw _ (List.mem_of_getElem? (i := 10) rfl))) Via.refl A_t rfl rfl ?_
    refine w_iloadN ok d11_4 rfl ?_
    refine w_iaload ok (v := (.int (Int32.ofNat y1))) d11_5 A_en (by decide) (ey1 ▸ own_svg (j := 1) (by decide)) ?_
    refine w_istoreN ok d11_6 (L' := #[.val (.ref t), .val (.int (1 : Int32)), .val (.int (Int32.ofNat y1)), .unset, .unset, .unset, .unset]) rfl ?_
    refine w_aloadN ok d11_7 rfl rfl ?_
    refine w_getfield ok (v := (.ref ti)) (host := "") (f := ("com/example/rowan/rowan/store/IdleHeap", "times", "[J", (.array .long))) 1 d11_8 (Or.inl (hw _ (List.mem_of_getElem? (i := 13) rfl))) Via.refl A_t rfl rfl ?_
    refine w_iloadN ok d11_11 rfl ?_
    refine w_laload ok (v := (.long (τ 1))) d11_12 A_ti (by decide) (own_lvg (j := 1) (by decide)) ?_
    refine w_lstoreN ok d11_13 (L' := #[.val (.ref t), .val (.int (1 : Int32)), .val (.int (Int32.ofNat y1)), .val (.long (τ 1)), .second, .unset, .unset]) rfl ?_
    refine w_iloadN ok d11_14 rfl ?_
    refine w_istore ok d11_15 (L' := #[.val (.ref t), .val (.int (1 : Int32)), .val (.int (Int32.ofNat y1)), .val (.long (τ 1)), .second, .val (.int (1 : Int32)), .unset]) rfl ?_
    refine w_iload ok d11_17 rfl ?_
    refine w_if_le ok d11_19 (pc' := 73) (by decide) (fun hc1 => False.elim (by revert hc1; decide)) (fun hc1 => ?_)
    show W K l _ n0 _ h0 0 0 22 #[.val (.ref t), .val (.int (1 : Int32)), .val (.int (Int32.ofNat y1)), .val (.long (τ 1)), .second, .val (.int (1 : Int32)), .unset] []
    refine w_aloadN ok d11_22 rfl rfl ?_
    refine w_getfield ok (v := (.ref ti)) (host := "") (f := ("com/example/rowan/rowan/store/IdleHeap", "times", "[J", (.array .long))) 1 d11_23 (Or.inl (hw _ (List.mem_of_getElem? (i := 13) rfl))) Via.refl A_t rfl rfl ?_
    refine w_iload ok d11_26 rfl ?_
    refine w_iconst ok d11_28 (v := (1 : Int32)) rfl ?_
    refine w_isub ok d11_29 ?_
    show W K l _ n0 _ h0 0 0 30 #[.val (.ref t), .val (.int (1 : Int32)), .val (.int (Int32.ofNat y1)), .val (.long (τ 1)), .second, .val (.int (1 : Int32)), .unset] [(.int (0 : Int32)), (.ref ti)]
    refine w_iconst ok d11_30 (v := (2 : Int32)) rfl ?_
    refine w_idiv ok d11_31 (by decide) ?_
    show W K l _ n0 _ h0 0 0 32 #[.val (.ref t), .val (.int (1 : Int32)), .val (.int (Int32.ofNat y1)), .val (.long (τ 1)), .second, .val (.int (1 : Int32)), .unset] [(.int (0 : Int32)), (.ref ti)]
    refine w_laload ok (v := (.long (τ 0))) d11_32 A_ti (by decide) (own_lvg (j := 0) (by decide)) ?_
    refine w_lloadN ok d11_33 rfl ?_
    refine w_lcmp_le ok d11_34 d11_35 (pc' := 73) (by decide) (fun hc3 => ?_) (fun hc3 => ?_)
    · show W K l _ n0 _ h0 0 0 73 #[.val (.ref t), .val (.int (1 : Int32)), .val (.int (Int32.ofNat y1)), .val (.long (τ 1)), .second, .val (.int (1 : Int32)), .unset] []
      refine w_aloadN ok d11_73 rfl rfl ?_
      refine w_iloadN ok d11_74 rfl ?_
      refine w_lloadN ok d11_75 rfl ?_
      refine w_iload ok d11_76 rfl ?_
      refine w_callP ok (y := (⟨"com/example/rowan/rowan/store/IdleHeap", "place", "(IJI)V"⟩ : MethodName)) (a := t) (argsL := [(.int (Int32.ofNat y1)), (.long (τ 1)), (.int (1 : Int32))]) (rest := []) d11_78 (hw _ (List.mem_of_getElem? (i := 50) rfl)) (hw _ (List.mem_of_getElem? (i := 51) rfl)) (hw _ (List.mem_of_getElem? (i := 52) rfl)) (hw _ (List.mem_of_getElem? (i := 1) rfl)) (hw _ (List.mem_of_getElem? (i := 2) rfl)) (hw _ (List.mem_of_getElem? (i := 53) rfl)) (by decide) A_t.1 pd_28IJI29V rfl rfl (by decide) (Nat.le_of_ble_eq_true rfl) (by decide) (by decide) (fun z0 => rm_place l Z a0 hw [] n0 h0 z0 t en ti sl (3 : Int32) e g τ A_t A_en A_ti A_sl ge_t ge_en ge_ti ge_sl ne_t_en ne_t_ti ne_t_sl ne_en_ti ne_en_sl ne_ti_sl y1 1 (τ 1) hy1 (by decide)) (fun v4 h5 qv4 => ?_)
      obtain ⟨rfl, K1, A1, A2, A3⟩ := qv4
      replace Kp := Kp.trans K1 (allS (Or.inl (by simp)) (allS (Or.inl (by simp)) (allS (Or.inl (by simp)) all0)))
      replace A_t := A_t.keep K1 (ninS ne_t_en (ninS ne_t_ti (ninS ne_t_sl nin0)))
      replace A_en := A1
      replace A_ti := A2
      replace A_sl := A3
      show W K l _ n0 _ h5 0 0 81 #[.val (.ref t), .val (.int (1 : Int32)), .val (.int (Int32.ofNat y1)), .val (.long (τ 1)), .second, .val (.int (1 : Int32)), .unset] []
      refine w_ret ok d11_81 (by decide) (by decide) ?_
      refine ⟨rfl, _, _, _, Kp, A_en, A_ti, A_sl, (P.keep (by decide) hy1 ey1), ?_⟩
      rw [own_uidL τ 1 rfl]
      exact fun i hi => if q : i = 1 then by rw [q]; have := hc3; rw [Int64.lt_iff_toInt_lt] at this; omega else hU i hi q
    · show W K l _ n0 _ h0 0 0 38 #[.val (.ref t), .val (.int (1 : Int32)), .val (.int (Int32.ofNat y1)), .val (.long (τ 1)), .second, .val (.int (1 : Int32)), .unset] []
      refine w_iload ok d11_38 rfl ?_
      refine w_iconst ok d11_40 (v := (1 : Int32)) rfl ?_
      refine w_isub ok d11_41 ?_
      show W K l _ n0 _ h0 0 0 42 #[.val (.ref t), .val (.int (1 : Int32)), .val (.int (Int32.ofNat y1)), .val (.long (τ 1)), .second, .val (.int (1 : Int32)), .unset] [(.int (0 : Int32))]
      refine w_iconst ok d11_42 (v := (2 : Int32)) rfl ?_
      refine w_idiv ok d11_43 (by decide) ?_
      show W K l _ n0 _ h0 0 0 44 #[.val (.ref t), .val (.int (1 : Int32)), .val (.int (Int32.ofNat y1)), .val (.long (τ 1)), .second, .val (.int (1 : Int32)), .unset] [(.int (0 : Int32))]
      refine w_istore ok d11_44 (L' := #[.val (.ref t), .val (.int (1 : Int32)), .val (.int (Int32.ofNat y1)), .val (.long (τ 1)), .second, .val (.int (1 : Int32)), .val (.int (0 : Int32))]) rfl ?_
      refine w_aloadN ok d11_46 rfl rfl ?_
      refine w_aloadN ok d11_47 rfl rfl ?_
      refine w_getfield ok (v := (.ref en)) (host := "") (f := ("com/example/rowan/rowan/store/IdleHeap", "entries", "[I", (.array .int))) 0 d11_48 (Or.inl (hw _ (List.mem_of_getElem? (i := 10) rfl))) Via.refl A_t rfl rfl ?_
      refine w_iload ok d11_51 rfl ?_
      refine w_iaload ok (v := (.int (Int32.ofNat y0))) d11_53 A_en (by decide) (ey0 ▸ own_svg (j := 0) (by decide)) ?_
      refine w_aloadN ok d11_54 rfl rfl ?_
      refine w_getfield ok (v := (.ref ti)) (host := "") (f := ("com/example/rowan/rowan/store/IdleHeap", "times", "[J", (.array .long))) 1 d11_55 (Or.inl (hw _ (List.mem_of_getElem? (i := 13) rfl))) Via.refl A_t rfl rfl ?_
      refine w_iload ok d11_58 rfl ?_
      refine w_laload ok (v := (.long (τ 0))) d11_60 A_ti (by decide) (own_lvg (j := 0) (by decide)) ?_
      refine w_iload ok d11_61 rfl ?_
      refine w_callP ok (y := (⟨"com/example/rowan/rowan/store/IdleHeap", "place", "(IJI)V"⟩ : MethodName)) (a := t) (argsL := [(.int (Int32.ofNat y0)), (.long (τ 0)), (.int (1 : Int32))]) (rest := []) d11_63 (hw _ (List.mem_of_getElem? (i := 50) rfl)) (hw _ (List.mem_of_getElem? (i := 51) rfl)) (hw _ (List.mem_of_getElem? (i := 52) rfl)) (hw _ (List.mem_of_getElem? (i := 1) rfl)) (hw _ (List.mem_of_getElem? (i := 2) rfl)) (hw _ (List.mem_of_getElem? (i := 53) rfl)) (by decide) A_t.1 pd_28IJI29V rfl rfl (by decide) (Nat.le_of_ble_eq_true rfl) (by decide) (by decide) (fun z0 => rm_place l Z a0 hw [] n0 h0 z0 t en ti sl (3 : Int32) e g τ A_t A_en A_ti A_sl ge_t ge_en ge_ti ge_sl ne_t_en ne_t_ti ne_t_sl ne_en_ti ne_en_sl ne_ti_sl y0 1 (τ 0) hy0 (by decide)) (fun v6 h7 qv6 => ?_)
      obtain ⟨rfl, K1, A1, A2, A3⟩ := qv6
      replace Kp := Kp.trans K1 (allS (Or.inl (by simp)) (allS (Or.inl (by simp)) (allS (Or.inl (by simp)) all0)))
      replace A_t := A_t.keep K1 (ninS ne_t_en (ninS ne_t_ti (ninS ne_t_sl nin0)))
      replace A_en := A1
      replace A_ti := A2
      replace A_sl := A3
      show W K l _ n0 _ h7 0 0 66 #[.val (.ref t), .val (.int (1 : Int32)), .val (.int (Int32.ofNat y1)), .val (.long (τ 1)), .second, .val (.int (1 : Int32)), .val (.int (0 : Int32))] []
      refine w_iload ok d11_66 rfl ?_
      refine w_istore ok d11_68 (L' := #[.val (.ref t), .val (.int (1 : Int32)), .val (.int (Int32.ofNat y1)), .val (.long (τ 1)), .second, .val (.int (0 : Int32)), .val (.int (0 : Int32))]) rfl ?_
      refine w_goto ok d11_70 (pc' := 17) (by decide) ?_
      refine w_iload ok d11_17 rfl ?_
      refine w_if_le ok d11_19 (pc' := 73) (by decide) (fun hc9 => ?_) (fun hc9 => False.elim (by revert hc9; decide))
      show W K l _ n0 _ h7 0 0 73 #[.val (.ref t), .val (.int (1 : Int32)), .val (.int (Int32.ofNat y1)), .val (.long (τ 1)), .second, .val (.int (0 : Int32)), .val (.int (0 : Int32))] []
      refine w_aloadN ok d11_73 rfl rfl ?_
      refine w_iloadN ok d11_74 rfl ?_
      refine w_lloadN ok d11_75 rfl ?_
      refine w_iload ok d11_76 rfl ?_
      refine w_callP ok (y := (⟨"com/example/rowan/rowan/store/IdleHeap", "place", "(IJI)V"⟩ : MethodName)) (a := t) (argsL := [(.int (Int32.ofNat y1)), (.long (τ 1)), (.int (0 : Int32))]) (rest := []) d11_78 (hw _ (List.mem_of_getElem? (i := 50) rfl)) (hw _ (List.mem_of_getElem? (i := 51) rfl)) (hw _ (List.mem_of_getElem? (i := 52) rfl)) (hw _ (List.mem_of_getElem? (i := 1) rfl)) (hw _ (List.mem_of_getElem? (i := 2) rfl)) (hw _ (List.mem_of_getElem? (i := 53) rfl)) (by decide) A_t.1 pd_28IJI29V rfl rfl (by decide) (Nat.le_of_ble_eq_true rfl) (by decide) (by decide) (fun z0 => rm_place l Z a0 hw [] n0 h7 z0 t en ti sl (3 : Int32) (upd e 1 (Int32.ofNat y0)) (upd g y0 (Int32.ofNat 1)) (updL τ 1 (τ 0)) A_t A_en A_ti A_sl ge_t ge_en ge_ti ge_sl ne_t_en ne_t_ti ne_t_sl ne_en_ti ne_en_sl ne_ti_sl y1 0 (τ 1) hy1 (by decide)) (fun v10 h11 qv10 => ?_)
      obtain ⟨rfl, K1, A1, A2, A3⟩ := qv10
      replace Kp := Kp.trans K1 (allS (Or.inl (by simp)) (allS (Or.inl (by simp)) (allS (Or.inl (by simp)) all0)))
      replace A_t := A_t.keep K1 (ninS ne_t_en (ninS ne_t_ti (ninS ne_t_sl nin0)))
      replace A_en := A1
      replace A_ti := A2
      replace A_sl := A3
      show W K l _ n0 _ h11 0 0 81 #[.val (.ref t), .val (.int (1 : Int32)), .val (.int (Int32.ofNat y1)), .val (.long (τ 1)), .second, .val (.int (0 : Int32)), .val (.int (0 : Int32))] []
      refine w_ret ok d11_81 (by decide) (by decide) ?_
      refine ⟨rfl, _, _, _, Kp, A_en, A_ti, A_sl, (P.swap (i := 1) (j := 0) (by decide) (by decide) (by decide) hy1 hy0 ey1 ey0), ?_⟩
      have hk := hc3; rw [Int64.lt_iff_toInt_lt] at hk
      intro i hi
      rw [updL_same]
      by_cases q0 : i = 0
      · rw [q0, updL_same]; exact Int.le_refl _
      · rw [updL_ne q0]
        by_cases qf : i = 1
        · rw [qf, updL_same]; omega
        · rw [updL_ne qf]; have := hU i hi qf; omega
  · have Kp : Keep h0 h0 [en, ti, sl] := Keep.refl _ _
    obtain ⟨y0, hy0, ey0, -, -⟩ := P.2.1 0 (by decide)
    obtain ⟨y1, hy1, ey1, -, -⟩ := P.2.1 1 (by decide)
    obtain ⟨y2, hy2, ey2, -, -⟩ := P.2.1 2 (by decide)
    show W K l _ n0 _ h0 0 0 0 #[.val (.ref t), .val (.int (2 : Int32)), .unset, .unset, .unset, .unset, .unset] []
    refine w_aloadN ok d11_0 rfl rfl ?_
    refine w_getfield ok (v := (.ref en)) (host := "") (f := ("com/example/rowan/rowan/store/IdleHeap", "entries", "[I", (.array .int))) 0 d11_1 (Or.inl (hw _ (List.mem_of_getElem? (i := 10) rfl))) Via.refl A_t rfl rfl ?_
    refine w_iloadN ok d11_4 rfl ?_
    refine w_iaload ok (v := (.int (Int32.ofNat y2))) d11_5 A_en (by decide) (ey2 ▸ own_svg (j := 2) (by decide)) ?_
    refine w_istoreN ok d11_6 (L' := #[.val (.ref t), .val (.int (2 : Int32)), .val (.int (Int32.ofNat y2)), .unset, .unset, .unset, .unset]) rfl ?_
    refine w_aloadN ok d11_7 rfl rfl ?_
    refine w_getfield ok (v := (.ref ti)) (host := "") (f := ("com/example/rowan/rowan/store/IdleHeap", "times", "[J", (.array .long))) 1 d11_8 (Or.inl (hw _ (List.mem_of_getElem? (i := 13) rfl))) Via.refl A_t rfl rfl ?_
    refine w_iloadN ok d11_11 rfl ?_
    refine w_laload ok (v := (.long (τ 2))) d11_12 A_ti (by decide) (own_lvg (j := 2) (by decide)) ?_
    refine w_lstoreN ok d11_13 (L' := #[.val (.ref t), .val (.int (2 : Int32)), .val (.int (Int32.ofNat y2)), .val (.long (τ 2)), .second, .unset, .unset]) rfl ?_
    refine w_iloadN ok d11_14 rfl ?_
    refine w_istore ok d11_15 (L' := #[.val (.ref t), .val (.int (2 : Int32)), .val (.int (Int32.ofNat y2)), .val (.long (τ 2)), .second, .val (.int (2 : Int32)), .unset]) rfl ?_
    refine w_iload ok d11_17 rfl ?_
    refine w_if_le ok d11_19 (pc' := 73) (by decide) (fun hc1 => False.elim (by revert hc1; decide)) (fun hc1 => ?_)
    show W K l _ n0 _ h0 0 0 22 #[.val (.ref t), .val (.int (2 : Int32)), .val (.int (Int32.ofNat y2)), .val (.long (τ 2)), .second, .val (.int (2 : Int32)), .unset] []
    refine w_aloadN ok d11_22 rfl rfl ?_
    refine w_getfield ok (v := (.ref ti)) (host := "") (f := ("com/example/rowan/rowan/store/IdleHeap", "times", "[J", (.array .long))) 1 d11_23 (Or.inl (hw _ (List.mem_of_getElem? (i := 13) rfl))) Via.refl A_t rfl rfl ?_
    refine w_iload ok d11_26 rfl ?_
    refine w_iconst ok d11_28 (v := (1 : Int32)) rfl ?_
    refine w_isub ok d11_29 ?_
    show W K l _ n0 _ h0 0 0 30 #[.val (.ref t), .val (.int (2 : Int32)), .val (.int (Int32.ofNat y2)), .val (.long (τ 2)), .second, .val (.int (2 : Int32)), .unset] [(.int (1 : Int32)), (.ref ti)]
    refine w_iconst ok d11_30 (v := (2 : Int32)) rfl ?_
    refine w_idiv ok d11_31 (by decide) ?_
    show W K l _ n0 _ h0 0 0 32 #[.val (.ref t), .val (.int (2 : Int32)), .val (.int (Int32.ofNat y2)), .val (.long (τ 2)), .second, .val (.int (2 : Int32)), .unset] [(.int (0 : Int32)), (.ref ti)]
    refine w_laload ok (v := (.long (τ 0))) d11_32 A_ti (by decide) (own_lvg (j := 0) (by decide)) ?_
    refine w_lloadN ok d11_33 rfl ?_
    refine w_lcmp_le ok d11_34 d11_35 (pc' := 73) (by decide) (fun hc3 => ?_) (fun hc3 => ?_)
    · show W K l _ n0 _ h0 0 0 73 #[.val (.ref t), .val (.int (2 : Int32)), .val (.int (Int32.ofNat y2)), .val (.long (τ 2)), .second, .val (.int (2 : Int32)), .unset] []
      refine w_aloadN ok d11_73 rfl rfl ?_
      refine w_iloadN ok d11_74 rfl ?_
      refine w_lloadN ok d11_75 rfl ?_
      refine w_iload ok d11_76 rfl ?_
      refine w_callP ok (y := (⟨"com/example/rowan/rowan/store/IdleHeap", "place", "(IJI)V"⟩ : MethodName)) (a := t) (argsL := [(.int (Int32.ofNat y2)), (.long (τ 2)), (.int (2 : Int32))]) (rest := []) d11_78 (hw _ (List.mem_of_getElem? (i := 50) rfl)) (hw _ (List.mem_of_getElem? (i := 51) rfl)) (hw _ (List.mem_of_getElem? (i := 52) rfl)) (hw _ (List.mem_of_getElem? (i := 1) rfl)) (hw _ (List.mem_of_getElem? (i := 2) rfl)) (hw _ (List.mem_of_getElem? (i := 53) rfl)) (by decide) A_t.1 pd_28IJI29V rfl rfl (by decide) (Nat.le_of_ble_eq_true rfl) (by decide) (by decide) (fun z0 => rm_place l Z a0 hw [] n0 h0 z0 t en ti sl (3 : Int32) e g τ A_t A_en A_ti A_sl ge_t ge_en ge_ti ge_sl ne_t_en ne_t_ti ne_t_sl ne_en_ti ne_en_sl ne_ti_sl y2 2 (τ 2) hy2 (by decide)) (fun v4 h5 qv4 => ?_)
      obtain ⟨rfl, K1, A1, A2, A3⟩ := qv4
      replace Kp := Kp.trans K1 (allS (Or.inl (by simp)) (allS (Or.inl (by simp)) (allS (Or.inl (by simp)) all0)))
      replace A_t := A_t.keep K1 (ninS ne_t_en (ninS ne_t_ti (ninS ne_t_sl nin0)))
      replace A_en := A1
      replace A_ti := A2
      replace A_sl := A3
      show W K l _ n0 _ h5 0 0 81 #[.val (.ref t), .val (.int (2 : Int32)), .val (.int (Int32.ofNat y2)), .val (.long (τ 2)), .second, .val (.int (2 : Int32)), .unset] []
      refine w_ret ok d11_81 (by decide) (by decide) ?_
      refine ⟨rfl, _, _, _, Kp, A_en, A_ti, A_sl, (P.keep (by decide) hy2 ey2), ?_⟩
      rw [own_uidL τ 2 rfl]
      exact fun i hi => if q : i = 2 then by rw [q]; have := hc3; rw [Int64.lt_iff_toInt_lt] at this; omega else hU i hi q
    · show W K l _ n0 _ h0 0 0 38 #[.val (.ref t), .val (.int (2 : Int32)), .val (.int (Int32.ofNat y2)), .val (.long (τ 2)), .second, .val (.int (2 : Int32)), .unset] []
      refine w_iload ok d11_38 rfl ?_
      refine w_iconst ok d11_40 (v := (1 : Int32)) rfl ?_
      refine w_isub ok d11_41 ?_
      show W K l _ n0 _ h0 0 0 42 #[.val (.ref t), .val (.int (2 : Int32)), .val (.int (Int32.ofNat y2)), .val (.long (τ 2)), .second, .val (.int (2 : Int32)), .unset] [(.int (1 : Int32))]
      refine w_iconst ok d11_42 (v := (2 : Int32)) rfl ?_
      refine w_idiv ok d11_43 (by decide) ?_
      show W K l _ n0 _ h0 0 0 44 #[.val (.ref t), .val (.int (2 : Int32)), .val (.int (Int32.ofNat y2)), .val (.long (τ 2)), .second, .val (.int (2 : Int32)), .unset] [(.int (0 : Int32))]
      refine w_istore ok d11_44 (L' := #[.val (.ref t), .val (.int (2 : Int32)), .val (.int (Int32.ofNat y2)), .val (.long (τ 2)), .second, .val (.int (2 : Int32)), .val (.int (0 : Int32))]) rfl ?_
      refine w_aloadN ok d11_46 rfl rfl ?_
      refine w_aloadN ok d11_47 rfl rfl ?_
      refine w_getfield ok (v := (.ref en)) (host := "") (f := ("com/example/rowan/rowan/store/IdleHeap", "entries", "[I", (.array .int))) 0 d11_48 (Or.inl (hw _ (List.mem_of_getElem? (i := 10) rfl))) Via.refl A_t rfl rfl ?_
      refine w_iload ok d11_51 rfl ?_
      refine w_iaload ok (v := (.int (Int32.ofNat y0))) d11_53 A_en (by decide) (ey0 ▸ own_svg (j := 0) (by decide)) ?_
      refine w_aloadN ok d11_54 rfl rfl ?_
      refine w_getfield ok (v := (.ref ti)) (host := "") (f := ("com/example/rowan/rowan/store/IdleHeap", "times", "[J", (.array .long))) 1 d11_55 (Or.inl (hw _ (List.mem_of_getElem? (i := 13) rfl))) Via.refl A_t rfl rfl ?_
      refine w_iload ok d11_58 rfl ?_
      refine w_laload ok (v := (.long (τ 0))) d11_60 A_ti (by decide) (own_lvg (j := 0) (by decide)) ?_
      refine w_iload ok d11_61 rfl ?_
      refine w_callP ok (y := (⟨"com/example/rowan/rowan/store/IdleHeap", "place", "(IJI)V"⟩ : MethodName)) (a := t) (argsL := [(.int (Int32.ofNat y0)), (.long (τ 0)), (.int (2 : Int32))]) (rest := []) d11_63 (hw _ (List.mem_of_getElem? (i := 50) rfl)) (hw _ (List.mem_of_getElem? (i := 51) rfl)) (hw _ (List.mem_of_getElem? (i := 52) rfl)) (hw _ (List.mem_of_getElem? (i := 1) rfl)) (hw _ (List.mem_of_getElem? (i := 2) rfl)) (hw _ (List.mem_of_getElem? (i := 53) rfl)) (by decide) A_t.1 pd_28IJI29V rfl rfl (by decide) (Nat.le_of_ble_eq_true rfl) (by decide) (by decide) (fun z0 => rm_place l Z a0 hw [] n0 h0 z0 t en ti sl (3 : Int32) e g τ A_t A_en A_ti A_sl ge_t ge_en ge_ti ge_sl ne_t_en ne_t_ti ne_t_sl ne_en_ti ne_en_sl ne_ti_sl y0 2 (τ 0) hy0 (by decide)) (fun v6 h7 qv6 => ?_)
      obtain ⟨rfl, K1, A1, A2, A3⟩ := qv6
      replace Kp := Kp.trans K1 (allS (Or.inl (by simp)) (allS (Or.inl (by simp)) (allS (Or.inl (by simp)) all0)))
      replace A_t := A_t.keep K1 (ninS ne_t_en (ninS ne_t_ti (ninS ne_t_sl nin0)))
      replace A_en := A1
      replace A_ti := A2
      replace A_sl := A3
      show W K l _ n0 _ h7 0 0 66 #[.val (.ref t), .val (.int (2 : Int32)), .val (.int (Int32.ofNat y2)), .val (.long (τ 2)), .second, .val (.int (2 : Int32)), .val (.int (0 : Int32))] []
      refine w_iload ok d11_66 rfl ?_
      refine w_istore ok d11_68 (L' := #[.val (.ref t), .val (.int (2 : Int32)), .val (.int (Int32.ofNat y2)), .val (.long (τ 2)), .second, .val (.int (0 : Int32)), .val (.int (0 : Int32))]) rfl ?_
      refine w_goto ok d11_70 (pc' := 17) (by decide) ?_
      refine w_iload ok d11_17 rfl ?_
      refine w_if_le ok d11_19 (pc' := 73) (by decide) (fun hc9 => ?_) (fun hc9 => False.elim (by revert hc9; decide))
      show W K l _ n0 _ h7 0 0 73 #[.val (.ref t), .val (.int (2 : Int32)), .val (.int (Int32.ofNat y2)), .val (.long (τ 2)), .second, .val (.int (0 : Int32)), .val (.int (0 : Int32))] []
      refine w_aloadN ok d11_73 rfl rfl ?_
      refine w_iloadN ok d11_74 rfl ?_
      refine w_lloadN ok d11_75 rfl ?_
      refine w_iload ok d11_76 rfl ?_
      refine w_callP ok (y := (⟨"com/example/rowan/rowan/store/IdleHeap", "place", "(IJI)V"⟩ : MethodName)) (a := t) (argsL := [(.int (Int32.ofNat y2)), (.long (τ 2)), (.int (0 : Int32))]) (rest := []) d11_78 (hw _ (List.mem_of_getElem? (i := 50) rfl)) (hw _ (List.mem_of_getElem? (i := 51) rfl)) (hw _ (List.mem_of_getElem? (i := 52) rfl)) (hw _ (List.mem_of_getElem? (i := 1) rfl)) (hw _ (List.mem_of_getElem? (i := 2) rfl)) (hw _ (List.mem_of_getElem? (i := 53) rfl)) (by decide) A_t.1 pd_28IJI29V rfl rfl (by decide) (Nat.le_of_ble_eq_true rfl) (by decide) (by decide) (fun z0 => rm_place l Z a0 hw [] n0 h7 z0 t en ti sl (3 : Int32) (upd e 2 (Int32.ofNat y0)) (upd g y0 (Int32.ofNat 2)) (updL τ 2 (τ 0)) A_t A_en A_ti A_sl ge_t ge_en ge_ti ge_sl ne_t_en ne_t_ti ne_t_sl ne_en_ti ne_en_sl ne_ti_sl y2 0 (τ 2) hy2 (by decide)) (fun v10 h11 qv10 => ?_)
      obtain ⟨rfl, K1, A1, A2, A3⟩ := qv10
      replace Kp := Kp.trans K1 (allS (Or.inl (by simp)) (allS (Or.inl (by simp)) (allS (Or.inl (by simp)) all0)))
      replace A_t := A_t.keep K1 (ninS ne_t_en (ninS ne_t_ti (ninS ne_t_sl nin0)))
      replace A_en := A1
      replace A_ti := A2
      replace A_sl := A3
      show W K l _ n0 _ h11 0 0 81 #[.val (.ref t), .val (.int (2 : Int32)), .val (.int (Int32.ofNat y2)), .val (.long (τ 2)), .second, .val (.int (0 : Int32)), .val (.int (0 : Int32))] []
      refine w_ret ok d11_81 (by decide) (by decide) ?_
      refine ⟨rfl, _, _, _, Kp, A_en, A_ti, A_sl, (P.swap (i := 2) (j := 0) (by decide) (by decide) (by decide) hy2 hy0 ey2 ey0), ?_⟩
      have hk := hc3; rw [Int64.lt_iff_toInt_lt] at hk
      intro i hi
      rw [updL_same]
      by_cases q0 : i = 0
      · rw [q0, updL_same]; exact Int.le_refl _
      · rw [updL_ne q0]
        by_cases qf : i = 2
        · rw [qf, updL_same]; omega
        · rw [updL_ne qf]; have := hU i hi qf; omega
theorem d14_0 : decode prog_26_method_10_code 0 = .ok (.aload_n 0, 1) := by decide +kernel
theorem d14_1 : decode prog_26_method_10_code 1 = .ok (.getfield 7, 3) := by decide +kernel
theorem d14_4 : decode prog_26_method_10_code 4 = .ok (.iload_n 1, 1) := by decide +kernel
theorem d14_5 : decode prog_26_method_10_code 5 = .ok (.iaload, 1) := by decide +kernel
theorem d14_6 : decode prog_26_method_10_code 6 = .ok (.istore_n 2, 1) := by decide +kernel
theorem d14_7 : decode prog_26_method_10_code 7 = .ok (.aload_n 0, 1) := by decide +kernel
theorem d14_8 : decode prog_26_method_10_code 8 = .ok (.getfield 13, 3) := by decide +kernel
theorem d14_11 : decode prog_26_method_10_code 11 = .ok (.iload_n 1, 1) := by decide +kernel
theorem d14_12 : decode prog_26_method_10_code 12 = .ok (.laload, 1) := by decide +kernel
theorem d14_13 : decode prog_26_method_10_code 13 = .ok (.lstore_n 3, 1) := by decide +kernel
theorem d14_14 : decode prog_26_method_10_code 14 = .ok (.iload_n 1, 1) := by decide +kernel
theorem d14_15 : decode prog_26_method_10_code 15 = .ok (.istore 5, 2) := by decide +kernel
theorem d14_17 : decode prog_26_method_10_code 17 = .ok (.aload_n 0, 1) := by decide +kernel
theorem d14_18 : decode prog_26_method_10_code 18 = .ok (.iload 5, 2) := by decide +kernel
theorem d14_20 : decode prog_26_method_10_code 20 = .ok (.invokevirtual 48, 3) := by decide +kernel
theorem d14_23 : decode prog_26_method_10_code 23 = .ok (.istore 6, 2) := by decide +kernel
theorem d14_25 : decode prog_26_method_10_code 25 = .ok (.iload 6, 2) := by decide +kernel
theorem d14_27 : decode prog_26_method_10_code 27 = .ok (.aload_n 0, 1) := by decide +kernel
theorem d14_28 : decode prog_26_method_10_code 28 = .ok (.getfield 33, 3) := by decide +kernel
theorem d14_31 : decode prog_26_method_10_code 31 = .ok (.if_icmp .ge 50, 3) := by decide +kernel
theorem d14_34 : decode prog_26_method_10_code 34 = .ok (.aload_n 0, 1) := by decide +kernel
theorem d14_35 : decode prog_26_method_10_code 35 = .ok (.getfield 13, 3) := by decide +kernel
theorem d14_38 : decode prog_26_method_10_code 38 = .ok (.iload 6, 2) := by decide +kernel
theorem d14_40 : decode prog_26_method_10_code 40 = .ok (.laload, 1) := by decide +kernel
theorem d14_41 : decode prog_26_method_10_code 41 = .ok (.lload_n 3, 1) := by decide +kernel
theorem d14_42 : decode prog_26_method_10_code 42 = .ok (.lcmp, 1) := by decide +kernel
theorem d14_43 : decode prog_26_method_10_code 43 = .ok (.ifCond .ge 38, 3) := by decide +kernel
theorem d14_46 : decode prog_26_method_10_code 46 = .ok (.aload_n 0, 1) := by decide +kernel
theorem d14_47 : decode prog_26_method_10_code 47 = .ok (.aload_n 0, 1) := by decide +kernel
theorem d14_48 : decode prog_26_method_10_code 48 = .ok (.getfield 7, 3) := by decide +kernel
theorem d14_51 : decode prog_26_method_10_code 51 = .ok (.iload 6, 2) := by decide +kernel
theorem d14_53 : decode prog_26_method_10_code 53 = .ok (.iaload, 1) := by decide +kernel
theorem d14_54 : decode prog_26_method_10_code 54 = .ok (.aload_n 0, 1) := by decide +kernel
theorem d14_55 : decode prog_26_method_10_code 55 = .ok (.getfield 13, 3) := by decide +kernel
theorem d14_58 : decode prog_26_method_10_code 58 = .ok (.iload 6, 2) := by decide +kernel
theorem d14_60 : decode prog_26_method_10_code 60 = .ok (.laload, 1) := by decide +kernel
theorem d14_61 : decode prog_26_method_10_code 61 = .ok (.iload 5, 2) := by decide +kernel
theorem d14_63 : decode prog_26_method_10_code 63 = .ok (.invokevirtual 37, 3) := by decide +kernel
theorem d14_66 : decode prog_26_method_10_code 66 = .ok (.iload 6, 2) := by decide +kernel
theorem d14_68 : decode prog_26_method_10_code 68 = .ok (.istore 5, 2) := by decide +kernel
theorem d14_70 : decode prog_26_method_10_code 70 = .ok (.aload_n 0, 1) := by decide +kernel
theorem d14_71 : decode prog_26_method_10_code 71 = .ok (.iload 5, 2) := by decide +kernel
theorem d14_73 : decode prog_26_method_10_code 73 = .ok (.invokevirtual 48, 3) := by decide +kernel
theorem d14_76 : decode prog_26_method_10_code 76 = .ok (.istore 6, 2) := by decide +kernel
theorem d14_78 : decode prog_26_method_10_code 78 = .ok (.goto (-53), 3) := by decide +kernel
theorem d14_81 : decode prog_26_method_10_code 81 = .ok (.aload_n 0, 1) := by decide +kernel
theorem d14_82 : decode prog_26_method_10_code 82 = .ok (.iload_n 2, 1) := by decide +kernel
theorem d14_83 : decode prog_26_method_10_code 83 = .ok (.lload_n 3, 1) := by decide +kernel
theorem d14_84 : decode prog_26_method_10_code 84 = .ok (.iload 5, 2) := by decide +kernel
theorem d14_86 : decode prog_26_method_10_code 86 = .ok (.invokevirtual 37, 3) := by decide +kernel
theorem d14_89 : decode prog_26_method_10_code 89 = .ok (.return_, 1) := by decide +kernel
theorem pd_28I29I : parseMethodDescriptor "(I)I" = some ⟨[.int], some .int⟩ := by decide +kernel
set_option maxRecDepth 65536 in
set_option maxHeartbeats 40000000 in
theorem rm_down (l : Launch) (Z : State) (a0 : Array Value) (hw : ∀ d ∈ tables_1, d.before a0 Z = true) (ws : List Jvm.Cond) (n0 : Nat) (h0 : Heap) (Z0 : Old Z n0 h0) (t en ti sl : Addr) (sz : Nat) (e g : Nat → Int32) (τ : Nat → Int64) (A_t : Ob Z h0 t "com/example/rowan/rowan/store/IdleHeap" fl_IdleHeap [.ref en, .ref ti, .ref sl, .int (Int32.ofNat sz)]) (A_en : PA .int Z h0 en (sv 4 e)) (A_ti : PA .long Z h0 ti (lv 4 τ)) (A_sl : PA .int Z h0 sl (sv 4 g)) (ge_t : n0 ≤ t) (ge_en : n0 ≤ en) (ge_ti : n0 ≤ ti) (ge_sl : n0 ≤ sl) (ne_t_en : t ≠ en) (ne_t_ti : t ≠ ti) (ne_t_sl : t ≠ sl) (ne_en_ti : en ≠ ti) (ne_en_sl : en ≠ sl) (ne_ti_sl : ti ≠ sl) (f : Nat) (M : Nat → Option Int64) (P : PP sz e τ g M) (hf : f < sz) (hD : f ≠ 0 → HO sz τ) :
    Met l Z n0 (⟨"com/example/rowan/rowan/store/IdleHeap", "siftDown", "(I)V"⟩ : MethodName) prog_26_method_10_code 7 none ws ({ frames := 1, cells := 0, slots := 0, locals := 16 } : Room) #[.ref t, .int (Int32.ofNat f)] h0 (fun u h => u = none ∧ ∃ e' g' τ', Keep h0 h [en, ti, sl] ∧ PA .int Z h en (sv 4 e') ∧ PA .long Z h ti (lv 4 τ') ∧ PA .int Z h sl (sv 4 g') ∧ PP sz e' τ' g' M ∧ HO sz τ') := by
  refine met_of Z0 (plainFor_of_name pn_com_example_rowan_rowan_store_IdleHeap) (Ls := #[.val (.ref t), .val (.int (Int32.ofNat f)), .unset, .unset, .unset, .unset, .unset]) (fun m => by first | (simp [entryFrame, mkF, argsToLocals, Value.category]; done) | rfl) ?_
  intro K ok
  obtain ⟨rfl, rfl⟩ | ⟨rfl, rfl⟩ | ⟨rfl, rfl⟩ | ⟨rfl, rfl⟩ | ⟨rfl, rfl⟩ | ⟨rfl, rfl⟩ : (sz = 1 ∧ f = 0) ∨ (sz = 2 ∧ f = 0) ∨ (sz = 2 ∧ f = 1) ∨ (sz = 3 ∧ f = 0) ∨ (sz = 3 ∧ f = 1) ∨ (sz = 3 ∧ f = 2) := by have := P.1; omega
  · have Kp : Keep h0 h0 [en, ti, sl] := Keep.refl _ _
    obtain ⟨y0, hy0, ey0, -, -⟩ := P.2.1 0 (by decide)
    show W K l _ n0 _ h0 0 0 0 #[.val (.ref t), .val (.int (0 : Int32)), .unset, .unset, .unset, .unset, .unset] []
    refine w_aloadN ok d14_0 rfl rfl ?_
    refine w_getfield ok (v := (.ref en)) (host := "") (f := ("com/example/rowan/rowan/store/IdleHeap", "entries", "[I", (.array .int))) 0 d14_1 (Or.inl (hw _ (List.mem_of_getElem? (i := 10) rfl))) Via.refl A_t rfl rfl ?_
    refine w_iloadN ok d14_4 rfl ?_
    refine w_iaload ok (v := (.int (Int32.ofNat y0))) d14_5 A_en (by decide) (ey0 ▸ own_svg (j := 0) (by decide)) ?_
    refine w_istoreN ok d14_6 (L' := #[.val (.ref t), .val (.int (0 : Int32)), .val (.int (Int32.ofNat y0)), .unset, .unset, .unset, .unset]) rfl ?_
    refine w_aloadN ok d14_7 rfl rfl ?_
    refine w_getfield ok (v := (.ref ti)) (host := "") (f := ("com/example/rowan/rowan/store/IdleHeap", "times", "[J", (.array .long))) 1 d14_8 (Or.inl (hw _ (List.mem_of_getElem? (i := 13) rfl))) Via.refl A_t rfl rfl ?_
    refine w_iloadN ok d14_11 rfl ?_
    refine w_laload ok (v := (.long (τ 0))) d14_12 A_ti (by decide) (own_lvg (j := 0) (by decide)) ?_
    refine w_lstoreN ok d14_13 (L' := #[.val (.ref t), .val (.int (0 : Int32)), .val (.int (Int32.ofNat y0)), .val (.long (τ 0)), .second, .unset, .unset]) rfl ?_
    refine w_iloadN ok d14_14 rfl ?_
    refine w_istore ok d14_15 (L' := #[.val (.ref t), .val (.int (0 : Int32)), .val (.int (Int32.ofNat y0)), .val (.long (τ 0)), .second, .val (.int (0 : Int32)), .unset]) rfl ?_
    refine w_aloadN ok d14_17 rfl rfl ?_
    refine w_iload ok d14_18 rfl ?_
    refine w_callP ok (y := (⟨"com/example/rowan/rowan/store/IdleHeap", "earlierChild", "(I)I"⟩ : MethodName)) (a := t) (argsL := [(.int (0 : Int32))]) (rest := []) d14_20 (hw _ (List.mem_of_getElem? (i := 70) rfl)) (hw _ (List.mem_of_getElem? (i := 71) rfl)) (hw _ (List.mem_of_getElem? (i := 72) rfl)) (hw _ (List.mem_of_getElem? (i := 1) rfl)) (hw _ (List.mem_of_getElem? (i := 2) rfl)) (hw _ (List.mem_of_getElem? (i := 73) rfl)) (by decide) A_t.1 pd_28I29I rfl rfl (by decide) (Nat.le_of_ble_eq_true rfl) (by decide) (by decide) (fun z0 => rm_ec10 l Z a0 hw [] n0 h0 z0 t en ti sl e g τ A_t A_en A_ti A_sl ge_t ge_en ge_ti ge_sl ne_t_en ne_t_ti ne_t_sl ne_en_ti ne_en_sl ne_ti_sl ) (fun v1 h2 qv1 => ?_)
    obtain ⟨rfl, rfl⟩ := qv1
    show W K l _ n0 _ h0 0 0 23 #[.val (.ref t), .val (.int (0 : Int32)), .val (.int (Int32.ofNat y0)), .val (.long (τ 0)), .second, .val (.int (0 : Int32)), .unset] [(.int (1 : Int32))]
    refine w_istore ok d14_23 (L' := #[.val (.ref t), .val (.int (0 : Int32)), .val (.int (Int32.ofNat y0)), .val (.long (τ 0)), .second, .val (.int (0 : Int32)), .val (.int (1 : Int32))]) rfl ?_
    refine w_iload ok d14_25 rfl ?_
    refine w_aloadN ok d14_27 rfl rfl ?_
    refine w_getfield ok (v := (.int (1 : Int32))) (host := "") (f := ("com/example/rowan/rowan/store/IdleHeap", "size", "I", .int)) 3 d14_28 (Or.inl (hw _ (List.mem_of_getElem? (i := 48) rfl))) Via.refl A_t rfl rfl ?_
    refine w_icmp_ge ok d14_31 (pc' := 81) (by decide) (fun hc4 => ?_) (fun hc4 => False.elim (by revert hc4; decide))
    show W K l _ n0 _ h0 0 0 81 #[.val (.ref t), .val (.int (0 : Int32)), .val (.int (Int32.ofNat y0)), .val (.long (τ 0)), .second, .val (.int (0 : Int32)), .val (.int (1 : Int32))] []
    refine w_aloadN ok d14_81 rfl rfl ?_
    refine w_iloadN ok d14_82 rfl ?_
    refine w_lloadN ok d14_83 rfl ?_
    refine w_iload ok d14_84 rfl ?_
    refine w_callP ok (y := (⟨"com/example/rowan/rowan/store/IdleHeap", "place", "(IJI)V"⟩ : MethodName)) (a := t) (argsL := [(.int (Int32.ofNat y0)), (.long (τ 0)), (.int (0 : Int32))]) (rest := []) d14_86 (hw _ (List.mem_of_getElem? (i := 50) rfl)) (hw _ (List.mem_of_getElem? (i := 51) rfl)) (hw _ (List.mem_of_getElem? (i := 52) rfl)) (hw _ (List.mem_of_getElem? (i := 1) rfl)) (hw _ (List.mem_of_getElem? (i := 2) rfl)) (hw _ (List.mem_of_getElem? (i := 53) rfl)) (by decide) A_t.1 pd_28IJI29V rfl rfl (by decide) (Nat.le_of_ble_eq_true rfl) (by decide) (by decide) (fun z0 => rm_place l Z a0 hw [] n0 h0 z0 t en ti sl (1 : Int32) e g τ A_t A_en A_ti A_sl ge_t ge_en ge_ti ge_sl ne_t_en ne_t_ti ne_t_sl ne_en_ti ne_en_sl ne_ti_sl y0 0 (τ 0) hy0 (by decide)) (fun v5 h6 qv5 => ?_)
    obtain ⟨rfl, K1, A1, A2, A3⟩ := qv5
    replace Kp := Kp.trans K1 (allS (Or.inl (by simp)) (allS (Or.inl (by simp)) (allS (Or.inl (by simp)) all0)))
    replace A_t := A_t.keep K1 (ninS ne_t_en (ninS ne_t_ti (ninS ne_t_sl nin0)))
    replace A_en := A1
    replace A_ti := A2
    replace A_sl := A3
    show W K l _ n0 _ h6 0 0 89 #[.val (.ref t), .val (.int (0 : Int32)), .val (.int (Int32.ofNat y0)), .val (.long (τ 0)), .second, .val (.int (0 : Int32)), .val (.int (1 : Int32))] []
    refine w_ret ok d14_89 (by decide) (by decide) ?_
    refine ⟨rfl, _, _, _, Kp, A_en, A_ti, A_sl, (P.keep (by decide) hy0 ey0), ?_⟩
    rw [own_uidL τ 0 rfl]
    exact own_ho1
  · have Kp : Keep h0 h0 [en, ti, sl] := Keep.refl _ _
    obtain ⟨y0, hy0, ey0, -, -⟩ := P.2.1 0 (by decide)
    obtain ⟨y1, hy1, ey1, -, -⟩ := P.2.1 1 (by decide)
    show W K l _ n0 _ h0 0 0 0 #[.val (.ref t), .val (.int (0 : Int32)), .unset, .unset, .unset, .unset, .unset] []
    refine w_aloadN ok d14_0 rfl rfl ?_
    refine w_getfield ok (v := (.ref en)) (host := "") (f := ("com/example/rowan/rowan/store/IdleHeap", "entries", "[I", (.array .int))) 0 d14_1 (Or.inl (hw _ (List.mem_of_getElem? (i := 10) rfl))) Via.refl A_t rfl rfl ?_
    refine w_iloadN ok d14_4 rfl ?_
    refine w_iaload ok (v := (.int (Int32.ofNat y0))) d14_5 A_en (by decide) (ey0 ▸ own_svg (j := 0) (by decide)) ?_
    refine w_istoreN ok d14_6 (L' := #[.val (.ref t), .val (.int (0 : Int32)), .val (.int (Int32.ofNat y0)), .unset, .unset, .unset, .unset]) rfl ?_
    refine w_aloadN ok d14_7 rfl rfl ?_
    refine w_getfield ok (v := (.ref ti)) (host := "") (f := ("com/example/rowan/rowan/store/IdleHeap", "times", "[J", (.array .long))) 1 d14_8 (Or.inl (hw _ (List.mem_of_getElem? (i := 13) rfl))) Via.refl A_t rfl rfl ?_
    refine w_iloadN ok d14_11 rfl ?_
    refine w_laload ok (v := (.long (τ 0))) d14_12 A_ti (by decide) (own_lvg (j := 0) (by decide)) ?_
    refine w_lstoreN ok d14_13 (L' := #[.val (.ref t), .val (.int (0 : Int32)), .val (.int (Int32.ofNat y0)), .val (.long (τ 0)), .second, .unset, .unset]) rfl ?_
    refine w_iloadN ok d14_14 rfl ?_
    refine w_istore ok d14_15 (L' := #[.val (.ref t), .val (.int (0 : Int32)), .val (.int (Int32.ofNat y0)), .val (.long (τ 0)), .second, .val (.int (0 : Int32)), .unset]) rfl ?_
    refine w_aloadN ok d14_17 rfl rfl ?_
    refine w_iload ok d14_18 rfl ?_
    refine w_callP ok (y := (⟨"com/example/rowan/rowan/store/IdleHeap", "earlierChild", "(I)I"⟩ : MethodName)) (a := t) (argsL := [(.int (0 : Int32))]) (rest := []) d14_20 (hw _ (List.mem_of_getElem? (i := 70) rfl)) (hw _ (List.mem_of_getElem? (i := 71) rfl)) (hw _ (List.mem_of_getElem? (i := 72) rfl)) (hw _ (List.mem_of_getElem? (i := 1) rfl)) (hw _ (List.mem_of_getElem? (i := 2) rfl)) (hw _ (List.mem_of_getElem? (i := 73) rfl)) (by decide) A_t.1 pd_28I29I rfl rfl (by decide) (Nat.le_of_ble_eq_true rfl) (by decide) (by decide) (fun z0 => rm_ec20 l Z a0 hw [] n0 h0 z0 t en ti sl e g τ A_t A_en A_ti A_sl ge_t ge_en ge_ti ge_sl ne_t_en ne_t_ti ne_t_sl ne_en_ti ne_en_sl ne_ti_sl ) (fun v1 h2 qv1 => ?_)
    obtain ⟨rfl, rfl⟩ := qv1
    show W K l _ n0 _ h0 0 0 23 #[.val (.ref t), .val (.int (0 : Int32)), .val (.int (Int32.ofNat y0)), .val (.long (τ 0)), .second, .val (.int (0 : Int32)), .unset] [(.int (1 : Int32))]
    refine w_istore ok d14_23 (L' := #[.val (.ref t), .val (.int (0 : Int32)), .val (.int (Int32.ofNat y0)), .val (.long (τ 0)), .second, .val (.int (0 : Int32)), .val (.int (1 : Int32))]) rfl ?_
    refine w_iload ok d14_25 rfl ?_
    refine w_aloadN ok d14_27 rfl rfl ?_
    refine w_getfield ok (v := (.int (2 : Int32))) (host := "") (f := ("com/example/rowan/rowan/store/IdleHeap", "size", "I", .int)) 3 d14_28 (Or.inl (hw _ (List.mem_of_getElem? (i := 48) rfl))) Via.refl A_t rfl rfl ?_
    refine w_icmp_ge ok d14_31 (pc' := 81) (by decide) (fun hc4 => False.elim (by revert hc4; decide)) (fun hc4 => ?_)
    show W K l _ n0 _ h0 0 0 34 #[.val (.ref t), .val (.int (0 : Int32)), .val (.int (Int32.ofNat y0)), .val (.long (τ 0)), .second, .val (.int (0 : Int32)), .val (.int (1 : Int32))] []
    refine w_aloadN ok d14_34 rfl rfl ?_
    refine w_getfield ok (v := (.ref ti)) (host := "") (f := ("com/example/rowan/rowan/store/IdleHeap", "times", "[J", (.array .long))) 1 d14_35 (Or.inl (hw _ (List.mem_of_getElem? (i := 13) rfl))) Via.refl A_t rfl rfl ?_
    refine w_iload ok d14_38 rfl ?_
    refine w_laload ok (v := (.long (τ 1))) d14_40 A_ti (by decide) (own_lvg (j := 1) (by decide)) ?_
    refine w_lloadN ok d14_41 rfl ?_
    refine w_lcmp_ge ok d14_42 d14_43 (pc' := 81) (by decide) (fun hc6 => ?_) (fun hc6 => ?_)
    · show W K l _ n0 _ h0 0 0 81 #[.val (.ref t), .val (.int (0 : Int32)), .val (.int (Int32.ofNat y0)), .val (.long (τ 0)), .second, .val (.int (0 : Int32)), .val (.int (1 : Int32))] []
      refine w_aloadN ok d14_81 rfl rfl ?_
      refine w_iloadN ok d14_82 rfl ?_
      refine w_lloadN ok d14_83 rfl ?_
      refine w_iload ok d14_84 rfl ?_
      refine w_callP ok (y := (⟨"com/example/rowan/rowan/store/IdleHeap", "place", "(IJI)V"⟩ : MethodName)) (a := t) (argsL := [(.int (Int32.ofNat y0)), (.long (τ 0)), (.int (0 : Int32))]) (rest := []) d14_86 (hw _ (List.mem_of_getElem? (i := 50) rfl)) (hw _ (List.mem_of_getElem? (i := 51) rfl)) (hw _ (List.mem_of_getElem? (i := 52) rfl)) (hw _ (List.mem_of_getElem? (i := 1) rfl)) (hw _ (List.mem_of_getElem? (i := 2) rfl)) (hw _ (List.mem_of_getElem? (i := 53) rfl)) (by decide) A_t.1 pd_28IJI29V rfl rfl (by decide) (Nat.le_of_ble_eq_true rfl) (by decide) (by decide) (fun z0 => rm_place l Z a0 hw [] n0 h0 z0 t en ti sl (2 : Int32) e g τ A_t A_en A_ti A_sl ge_t ge_en ge_ti ge_sl ne_t_en ne_t_ti ne_t_sl ne_en_ti ne_en_sl ne_ti_sl y0 0 (τ 0) hy0 (by decide)) (fun v7 h8 qv7 => ?_)
      obtain ⟨rfl, K1, A1, A2, A3⟩ := qv7
      replace Kp := Kp.trans K1 (allS (Or.inl (by simp)) (allS (Or.inl (by simp)) (allS (Or.inl (by simp)) all0)))
      replace A_t := A_t.keep K1 (ninS ne_t_en (ninS ne_t_ti (ninS ne_t_sl nin0)))
      replace A_en := A1
      replace A_ti := A2
      replace A_sl := A3
      show W K l _ n0 _ h8 0 0 89 #[.val (.ref t), .val (.int (0 : Int32)), .val (.int (Int32.ofNat y0)), .val (.long (τ 0)), .second, .val (.int (0 : Int32)), .val (.int (1 : Int32))] []
      refine w_ret ok d14_89 (by decide) (by decide) ?_
      refine ⟨rfl, _, _, _, Kp, A_en, A_ti, A_sl, (P.keep (by decide) hy0 ey0), ?_⟩
      rw [own_uidL τ 0 rfl]
      exact own_ho2 hc6
    · show W K l _ n0 _ h0 0 0 46 #[.val (.ref t), .val (.int (0 : Int32)), .val (.int (Int32.ofNat y0)), .val (.long (τ 0)), .second, .val (.int (0 : Int32)), .val (.int (1 : Int32))] []
      refine w_aloadN ok d14_46 rfl rfl ?_
      refine w_aloadN ok d14_47 rfl rfl ?_
      refine w_getfield ok (v := (.ref en)) (host := "") (f := ("com/example/rowan/rowan/store/IdleHeap", "entries", "[I", (.array .int))) 0 d14_48 (Or.inl (hw _ (List.mem_of_getElem? (i := 10) rfl))) Via.refl A_t rfl rfl ?_
      refine w_iload ok d14_51 rfl ?_
      refine w_iaload ok (v := (.int (Int32.ofNat y1))) d14_53 A_en (by decide) (ey1 ▸ own_svg (j := 1) (by decide)) ?_
      refine w_aloadN ok d14_54 rfl rfl ?_
      refine w_getfield ok (v := (.ref ti)) (host := "") (f := ("com/example/rowan/rowan/store/IdleHeap", "times", "[J", (.array .long))) 1 d14_55 (Or.inl (hw _ (List.mem_of_getElem? (i := 13) rfl))) Via.refl A_t rfl rfl ?_
      refine w_iload ok d14_58 rfl ?_
      refine w_laload ok (v := (.long (τ 1))) d14_60 A_ti (by decide) (own_lvg (j := 1) (by decide)) ?_
      refine w_iload ok d14_61 rfl ?_
      refine w_callP ok (y := (⟨"com/example/rowan/rowan/store/IdleHeap", "place", "(IJI)V"⟩ : MethodName)) (a := t) (argsL := [(.int (Int32.ofNat y1)), (.long (τ 1)), (.int (0 : Int32))]) (rest := []) d14_63 (hw _ (List.mem_of_getElem? (i := 50) rfl)) (hw _ (List.mem_of_getElem? (i := 51) rfl)) (hw _ (List.mem_of_getElem? (i := 52) rfl)) (hw _ (List.mem_of_getElem? (i := 1) rfl)) (hw _ (List.mem_of_getElem? (i := 2) rfl)) (hw _ (List.mem_of_getElem? (i := 53) rfl)) (by decide) A_t.1 pd_28IJI29V rfl rfl (by decide) (Nat.le_of_ble_eq_true rfl) (by decide) (by decide) (fun z0 => rm_place l Z a0 hw [] n0 h0 z0 t en ti sl (2 : Int32) e g τ A_t A_en A_ti A_sl ge_t ge_en ge_ti ge_sl ne_t_en ne_t_ti ne_t_sl ne_en_ti ne_en_sl ne_ti_sl y1 0 (τ 1) hy1 (by decide)) (fun v9 h10 qv9 => ?_)
      obtain ⟨rfl, K1, A1, A2, A3⟩ := qv9
      replace Kp := Kp.trans K1 (allS (Or.inl (by simp)) (allS (Or.inl (by simp)) (allS (Or.inl (by simp)) all0)))
      replace A_t := A_t.keep K1 (ninS ne_t_en (ninS ne_t_ti (ninS ne_t_sl nin0)))
      replace A_en := A1
      replace A_ti := A2
      replace A_sl := A3
      show W K l _ n0 _ h10 0 0 66 #[.val (.ref t), .val (.int (0 : Int32)), .val (.int (Int32.ofNat y0)), .val (.long (τ 0)), .second, .val (.int (0 : Int32)), .val (.int (1 : Int32))] []
      refine w_iload ok d14_66 rfl ?_
      refine w_istore ok d14_68 (L' := #[.val (.ref t), .val (.int (0 : Int32)), .val (.int (Int32.ofNat y0)), .val (.long (τ 0)), .second, .val (.int (1 : Int32)), .val (.int (1 : Int32))]) rfl ?_
      refine w_aloadN ok d14_70 rfl rfl ?_
      refine w_iload ok d14_71 rfl ?_
      refine w_callP ok (y := (⟨"com/example/rowan/rowan/store/IdleHeap", "earlierChild", "(I)I"⟩ : MethodName)) (a := t) (argsL := [(.int (1 : Int32))]) (rest := []) d14_73 (hw _ (List.mem_of_getElem? (i := 70) rfl)) (hw _ (List.mem_of_getElem? (i := 71) rfl)) (hw _ (List.mem_of_getElem? (i := 72) rfl)) (hw _ (List.mem_of_getElem? (i := 1) rfl)) (hw _ (List.mem_of_getElem? (i := 2) rfl)) (hw _ (List.mem_of_getElem? (i := 73) rfl)) (by decide) A_t.1 pd_28I29I rfl rfl (by decide) (Nat.le_of_ble_eq_true rfl) (by decide) (by decide) (fun z0 => rm_ec21 l Z a0 hw [] n0 h10 z0 t en ti sl (upd e 0 (Int32.ofNat y1)) (upd g y1 (Int32.ofNat 0)) (updL τ 0 (τ 1)) A_t A_en A_ti A_sl ge_t ge_en ge_ti ge_sl ne_t_en ne_t_ti ne_t_sl ne_en_ti ne_en_sl ne_ti_sl ) (fun v11 h12 qv11 => ?_)
      obtain ⟨rfl, rfl⟩ := qv11
      show W K l _ n0 _ h10 0 0 76 #[.val (.ref t), .val (.int (0 : Int32)), .val (.int (Int32.ofNat y0)), .val (.long (τ 0)), .second, .val (.int (1 : Int32)), .val (.int (1 : Int32))] [(.int (3 : Int32))]
      refine w_istore ok d14_76 (L' := #[.val (.ref t), .val (.int (0 : Int32)), .val (.int (Int32.ofNat y0)), .val (.long (τ 0)), .second, .val (.int (1 : Int32)), .val (.int (3 : Int32))]) rfl ?_
      refine w_goto ok d14_78 (pc' := 25) (by decide) ?_
      refine w_iload ok d14_25 rfl ?_
      refine w_aloadN ok d14_27 rfl rfl ?_
      refine w_getfield ok (v := (.int (2 : Int32))) (host := "") (f := ("com/example/rowan/rowan/store/IdleHeap", "size", "I", .int)) 3 d14_28 (Or.inl (hw _ (List.mem_of_getElem? (i := 48) rfl))) Via.refl A_t rfl rfl ?_
      refine w_icmp_ge ok d14_31 (pc' := 81) (by decide) (fun hc14 => ?_) (fun hc14 => False.elim (by revert hc14; decide))
      show W K l _ n0 _ h10 0 0 81 #[.val (.ref t), .val (.int (0 : Int32)), .val (.int (Int32.ofNat y0)), .val (.long (τ 0)), .second, .val (.int (1 : Int32)), .val (.int (3 : Int32))] []
      refine w_aloadN ok d14_81 rfl rfl ?_
      refine w_iloadN ok d14_82 rfl ?_
      refine w_lloadN ok d14_83 rfl ?_
      refine w_iload ok d14_84 rfl ?_
      refine w_callP ok (y := (⟨"com/example/rowan/rowan/store/IdleHeap", "place", "(IJI)V"⟩ : MethodName)) (a := t) (argsL := [(.int (Int32.ofNat y0)), (.long (τ 0)), (.int (1 : Int32))]) (rest := []) d14_86 (hw _ (List.mem_of_getElem? (i := 50) rfl)) (hw _ (List.mem_of_getElem? (i := 51) rfl)) (hw _ (List.mem_of_getElem? (i := 52) rfl)) (hw _ (List.mem_of_getElem? (i := 1) rfl)) (hw _ (List.mem_of_getElem? (i := 2) rfl)) (hw _ (List.mem_of_getElem? (i := 53) rfl)) (by decide) A_t.1 pd_28IJI29V rfl rfl (by decide) (Nat.le_of_ble_eq_true rfl) (by decide) (by decide) (fun z0 => rm_place l Z a0 hw [] n0 h10 z0 t en ti sl (2 : Int32) (upd e 0 (Int32.ofNat y1)) (upd g y1 (Int32.ofNat 0)) (updL τ 0 (τ 1)) A_t A_en A_ti A_sl ge_t ge_en ge_ti ge_sl ne_t_en ne_t_ti ne_t_sl ne_en_ti ne_en_sl ne_ti_sl y0 1 (τ 0) hy0 (by decide)) (fun v15 h16 qv15 => ?_)
      obtain ⟨rfl, K1, A1, A2, A3⟩ := qv15
      replace Kp := Kp.trans K1 (allS (Or.inl (by simp)) (allS (Or.inl (by simp)) (allS (Or.inl (by simp)) all0)))
      replace A_t := A_t.keep K1 (ninS ne_t_en (ninS ne_t_ti (ninS ne_t_sl nin0)))
      replace A_en := A1
      replace A_ti := A2
      replace A_sl := A3
      show W K l _ n0 _ h16 0 0 89 #[.val (.ref t), .val (.int (0 : Int32)), .val (.int (Int32.ofNat y0)), .val (.long (τ 0)), .second, .val (.int (1 : Int32)), .val (.int (3 : Int32))] []
      refine w_ret ok d14_89 (by decide) (by decide) ?_
      refine ⟨rfl, _, _, _, Kp, A_en, A_ti, A_sl, (P.swap (i := 0) (j := 1) (by decide) (by decide) (by decide) hy0 hy1 ey0 ey1), ?_⟩
      exact own_ho2 (own_lt64 hc6)
  · have Kp : Keep h0 h0 [en, ti, sl] := Keep.refl _ _
    obtain ⟨y0, hy0, ey0, -, -⟩ := P.2.1 0 (by decide)
    obtain ⟨y1, hy1, ey1, -, -⟩ := P.2.1 1 (by decide)
    show W K l _ n0 _ h0 0 0 0 #[.val (.ref t), .val (.int (1 : Int32)), .unset, .unset, .unset, .unset, .unset] []
    refine w_aloadN ok d14_0 rfl rfl ?_
    refine w_getfield ok (v := (.ref en)) (host := "") (f := ("com/example/rowan/rowan/store/IdleHeap", "entries", "[I", (.array .int))) 0 d14_1 (Or.inl (hw _ (List.mem_of_getElem? (i := 10) rfl))) Via.refl A_t rfl rfl ?_
    refine w_iloadN ok d14_4 rfl ?_
    refine w_iaload ok (v := (.int (Int32.ofNat y1))) d14_5 A_en (by decide) (ey1 ▸ own_svg (j := 1) (by decide)) ?_
    refine w_istoreN ok d14_6 (L' := #[.val (.ref t), .val (.int (1 : Int32)), .val (.int (Int32.ofNat y1)), .unset, .unset, .unset, .unset]) rfl ?_
    refine w_aloadN ok d14_7 rfl rfl ?_
    refine w_getfield ok (v := (.ref ti)) (host := "") (f := ("com/example/rowan/rowan/store/IdleHeap", "times", "[J", (.array .long))) 1 d14_8 (Or.inl (hw _ (List.mem_of_getElem? (i := 13) rfl))) Via.refl A_t rfl rfl ?_
    refine w_iloadN ok d14_11 rfl ?_
    refine w_laload ok (v := (.long (τ 1))) d14_12 A_ti (by decide) (own_lvg (j := 1) (by decide)) ?_
    refine w_lstoreN ok d14_13 (L' := #[.val (.ref t), .val (.int (1 : Int32)), .val (.int (Int32.ofNat y1)), .val (.long (τ 1)), .second, .unset, .unset]) rfl ?_
    refine w_iloadN ok d14_14 rfl ?_
    refine w_istore ok d14_15 (L' := #[.val (.ref t), .val (.int (1 : Int32)), .val (.int (Int32.ofNat y1)), .val (.long (τ 1)), .second, .val (.int (1 : Int32)), .unset]) rfl ?_
    refine w_aloadN ok d14_17 rfl rfl ?_
    refine w_iload ok d14_18 rfl ?_
    refine w_callP ok (y := (⟨"com/example/rowan/rowan/store/IdleHeap", "earlierChild", "(I)I"⟩ : MethodName)) (a := t) (argsL := [(.int (1 : Int32))]) (rest := []) d14_20 (hw _ (List.mem_of_getElem? (i := 70) rfl)) (hw _ (List.mem_of_getElem? (i := 71) rfl)) (hw _ (List.mem_of_getElem? (i := 72) rfl)) (hw _ (List.mem_of_getElem? (i := 1) rfl)) (hw _ (List.mem_of_getElem? (i := 2) rfl)) (hw _ (List.mem_of_getElem? (i := 73) rfl)) (by decide) A_t.1 pd_28I29I rfl rfl (by decide) (Nat.le_of_ble_eq_true rfl) (by decide) (by decide) (fun z0 => rm_ec21 l Z a0 hw [] n0 h0 z0 t en ti sl e g τ A_t A_en A_ti A_sl ge_t ge_en ge_ti ge_sl ne_t_en ne_t_ti ne_t_sl ne_en_ti ne_en_sl ne_ti_sl ) (fun v1 h2 qv1 => ?_)
    obtain ⟨rfl, rfl⟩ := qv1
    show W K l _ n0 _ h0 0 0 23 #[.val (.ref t), .val (.int (1 : Int32)), .val (.int (Int32.ofNat y1)), .val (.long (τ 1)), .second, .val (.int (1 : Int32)), .unset] [(.int (3 : Int32))]
    refine w_istore ok d14_23 (L' := #[.val (.ref t), .val (.int (1 : Int32)), .val (.int (Int32.ofNat y1)), .val (.long (τ 1)), .second, .val (.int (1 : Int32)), .val (.int (3 : Int32))]) rfl ?_
    refine w_iload ok d14_25 rfl ?_
    refine w_aloadN ok d14_27 rfl rfl ?_
    refine w_getfield ok (v := (.int (2 : Int32))) (host := "") (f := ("com/example/rowan/rowan/store/IdleHeap", "size", "I", .int)) 3 d14_28 (Or.inl (hw _ (List.mem_of_getElem? (i := 48) rfl))) Via.refl A_t rfl rfl ?_
    refine w_icmp_ge ok d14_31 (pc' := 81) (by decide) (fun hc4 => ?_) (fun hc4 => False.elim (by revert hc4; decide))
    show W K l _ n0 _ h0 0 0 81 #[.val (.ref t), .val (.int (1 : Int32)), .val (.int (Int32.ofNat y1)), .val (.long (τ 1)), .second, .val (.int (1 : Int32)), .val (.int (3 : Int32))] []
    refine w_aloadN ok d14_81 rfl rfl ?_
    refine w_iloadN ok d14_82 rfl ?_
    refine w_lloadN ok d14_83 rfl ?_
    refine w_iload ok d14_84 rfl ?_
    refine w_callP ok (y := (⟨"com/example/rowan/rowan/store/IdleHeap", "place", "(IJI)V"⟩ : MethodName)) (a := t) (argsL := [(.int (Int32.ofNat y1)), (.long (τ 1)), (.int (1 : Int32))]) (rest := []) d14_86 (hw _ (List.mem_of_getElem? (i := 50) rfl)) (hw _ (List.mem_of_getElem? (i := 51) rfl)) (hw _ (List.mem_of_getElem? (i := 52) rfl)) (hw _ (List.mem_of_getElem? (i := 1) rfl)) (hw _ (List.mem_of_getElem? (i := 2) rfl)) (hw _ (List.mem_of_getElem? (i := 53) rfl)) (by decide) A_t.1 pd_28IJI29V rfl rfl (by decide) (Nat.le_of_ble_eq_true rfl) (by decide) (by decide) (fun z0 => rm_place l Z a0 hw [] n0 h0 z0 t en ti sl (2 : Int32) e g τ A_t A_en A_ti A_sl ge_t ge_en ge_ti ge_sl ne_t_en ne_t_ti ne_t_sl ne_en_ti ne_en_sl ne_ti_sl y1 1 (τ 1) hy1 (by decide)) (fun v5 h6 qv5 => ?_)
    obtain ⟨rfl, K1, A1, A2, A3⟩ := qv5
    replace Kp := Kp.trans K1 (allS (Or.inl (by simp)) (allS (Or.inl (by simp)) (allS (Or.inl (by simp)) all0)))
    replace A_t := A_t.keep K1 (ninS ne_t_en (ninS ne_t_ti (ninS ne_t_sl nin0)))
    replace A_en := A1
    replace A_ti := A2
    replace A_sl := A3
    show W K l _ n0 _ h6 0 0 89 #[.val (.ref t), .val (.int (1 : Int32)), .val (.int (Int32.ofNat y1)), .val (.long (τ 1)), .second, .val (.int (1 : Int32)), .val (.int (3 : Int32))] []
    refine w_ret ok d14_89 (by decide) (by decide) ?_
    refine ⟨rfl, _, _, _, Kp, A_en, A_ti, A_sl, (P.keep (by decide) hy1 ey1), ?_⟩
    rw [own_uidL τ 1 rfl]
    exact hD (by decide)
  · have Kp : Keep h0 h0 [en, ti, sl] := Keep.refl _ _
    obtain ⟨y0, hy0, ey0, -, -⟩ := P.2.1 0 (by decide)
    obtain ⟨y1, hy1, ey1, -, -⟩ := P.2.1 1 (by decide)
    obtain ⟨y2, hy2, ey2, -, -⟩ := P.2.1 2 (by decide)
    show W K l _ n0 _ h0 0 0 0 #[.val (.ref t), .val (.int (0 : Int32)), .unset, .unset, .unset, .unset, .unset] []
    refine w_aloadN ok d14_0 rfl rfl ?_
    refine w_getfield ok (v := (.ref en)) (host := "") (f := ("com/example/rowan/rowan/store/IdleHeap", "entries", "[I", (.array .int))) 0 d14_1 (Or.inl (hw _ (List.mem_of_getElem? (i := 10) rfl))) Via.refl A_t rfl rfl ?_
    refine w_iloadN ok d14_4 rfl ?_
    refine w_iaload ok (v := (.int (Int32.ofNat y0))) d14_5 A_en (by decide) (ey0 ▸ own_svg (j := 0) (by decide)) ?_
    refine w_istoreN ok d14_6 (L' := #[.val (.ref t), .val (.int (0 : Int32)), .val (.int (Int32.ofNat y0)), .unset, .unset, .unset, .unset]) rfl ?_
    refine w_aloadN ok d14_7 rfl rfl ?_
    refine w_getfield ok (v := (.ref ti)) (host := "") (f := ("com/example/rowan/rowan/store/IdleHeap", "times", "[J", (.array .long))) 1 d14_8 (Or.inl (hw _ (List.mem_of_getElem? (i := 13) rfl))) Via.refl A_t rfl rfl ?_
    refine w_iloadN ok d14_11 rfl ?_
    refine w_laload ok (v := (.long (τ 0))) d14_12 A_ti (by decide) (own_lvg (j := 0) (by decide)) ?_
    refine w_lstoreN ok d14_13 (L' := #[.val (.ref t), .val (.int (0 : Int32)), .val (.int (Int32.ofNat y0)), .val (.long (τ 0)), .second, .unset, .unset]) rfl ?_
    refine w_iloadN ok d14_14 rfl ?_
    refine w_istore ok d14_15 (L' := #[.val (.ref t), .val (.int (0 : Int32)), .val (.int (Int32.ofNat y0)), .val (.long (τ 0)), .second, .val (.int (0 : Int32)), .unset]) rfl ?_
    refine w_aloadN ok d14_17 rfl rfl ?_
    refine w_iload ok d14_18 rfl ?_
    refine w_callP ok (y := (⟨"com/example/rowan/rowan/store/IdleHeap", "earlierChild", "(I)I"⟩ : MethodName)) (a := t) (argsL := [(.int (0 : Int32))]) (rest := []) d14_20 (hw _ (List.mem_of_getElem? (i := 70) rfl)) (hw _ (List.mem_of_getElem? (i := 71) rfl)) (hw _ (List.mem_of_getElem? (i := 72) rfl)) (hw _ (List.mem_of_getElem? (i := 1) rfl)) (hw _ (List.mem_of_getElem? (i := 2) rfl)) (hw _ (List.mem_of_getElem? (i := 73) rfl)) (by decide) A_t.1 pd_28I29I rfl rfl (by decide) (Nat.le_of_ble_eq_true rfl) (by decide) (by decide) (fun z0 => rm_ec30 l Z a0 hw [] n0 h0 z0 t en ti sl e g τ A_t A_en A_ti A_sl ge_t ge_en ge_ti ge_sl ne_t_en ne_t_ti ne_t_sl ne_en_ti ne_en_sl ne_ti_sl ) (fun v1 h2 qv1 => ?_)
    rcases qv1 with ⟨rfl, hec, rfl⟩ | ⟨rfl, hec, rfl⟩
    · skip
      show W K l _ n0 _ h0 0 0 23 #[.val (.ref t), .val (.int (0 : Int32)), .val (.int (Int32.ofNat y0)), .val (.long (τ 0)), .second, .val (.int (0 : Int32)), .unset] [(.int (2 : Int32))]
      refine w_istore ok d14_23 (L' := #[.val (.ref t), .val (.int (0 : Int32)), .val (.int (Int32.ofNat y0)), .val (.long (τ 0)), .second, .val (.int (0 : Int32)), .val (.int (2 : Int32))]) rfl ?_
      refine w_iload ok d14_25 rfl ?_
      refine w_aloadN ok d14_27 rfl rfl ?_
      refine w_getfield ok (v := (.int (3 : Int32))) (host := "") (f := ("com/example/rowan/rowan/store/IdleHeap", "size", "I", .int)) 3 d14_28 (Or.inl (hw _ (List.mem_of_getElem? (i := 48) rfl))) Via.refl A_t rfl rfl ?_
      refine w_icmp_ge ok d14_31 (pc' := 81) (by decide) (fun hc4 => False.elim (by revert hc4; decide)) (fun hc4 => ?_)
      show W K l _ n0 _ h0 0 0 34 #[.val (.ref t), .val (.int (0 : Int32)), .val (.int (Int32.ofNat y0)), .val (.long (τ 0)), .second, .val (.int (0 : Int32)), .val (.int (2 : Int32))] []
      refine w_aloadN ok d14_34 rfl rfl ?_
      refine w_getfield ok (v := (.ref ti)) (host := "") (f := ("com/example/rowan/rowan/store/IdleHeap", "times", "[J", (.array .long))) 1 d14_35 (Or.inl (hw _ (List.mem_of_getElem? (i := 13) rfl))) Via.refl A_t rfl rfl ?_
      refine w_iload ok d14_38 rfl ?_
      refine w_laload ok (v := (.long (τ 2))) d14_40 A_ti (by decide) (own_lvg (j := 2) (by decide)) ?_
      refine w_lloadN ok d14_41 rfl ?_
      refine w_lcmp_ge ok d14_42 d14_43 (pc' := 81) (by decide) (fun hc6 => ?_) (fun hc6 => ?_)
      · show W K l _ n0 _ h0 0 0 81 #[.val (.ref t), .val (.int (0 : Int32)), .val (.int (Int32.ofNat y0)), .val (.long (τ 0)), .second, .val (.int (0 : Int32)), .val (.int (2 : Int32))] []
        refine w_aloadN ok d14_81 rfl rfl ?_
        refine w_iloadN ok d14_82 rfl ?_
        refine w_lloadN ok d14_83 rfl ?_
        refine w_iload ok d14_84 rfl ?_
        refine w_callP ok (y := (⟨"com/example/rowan/rowan/store/IdleHeap", "place", "(IJI)V"⟩ : MethodName)) (a := t) (argsL := [(.int (Int32.ofNat y0)), (.long (τ 0)), (.int (0 : Int32))]) (rest := []) d14_86 (hw _ (List.mem_of_getElem? (i := 50) rfl)) (hw _ (List.mem_of_getElem? (i := 51) rfl)) (hw _ (List.mem_of_getElem? (i := 52) rfl)) (hw _ (List.mem_of_getElem? (i := 1) rfl)) (hw _ (List.mem_of_getElem? (i := 2) rfl)) (hw _ (List.mem_of_getElem? (i := 53) rfl)) (by decide) A_t.1 pd_28IJI29V rfl rfl (by decide) (Nat.le_of_ble_eq_true rfl) (by decide) (by decide) (fun z0 => rm_place l Z a0 hw [] n0 h0 z0 t en ti sl (3 : Int32) e g τ A_t A_en A_ti A_sl ge_t ge_en ge_ti ge_sl ne_t_en ne_t_ti ne_t_sl ne_en_ti ne_en_sl ne_ti_sl y0 0 (τ 0) hy0 (by decide)) (fun v7 h8 qv7 => ?_)
        obtain ⟨rfl, K1, A1, A2, A3⟩ := qv7
        replace Kp := Kp.trans K1 (allS (Or.inl (by simp)) (allS (Or.inl (by simp)) (allS (Or.inl (by simp)) all0)))
        replace A_t := A_t.keep K1 (ninS ne_t_en (ninS ne_t_ti (ninS ne_t_sl nin0)))
        replace A_en := A1
        replace A_ti := A2
        replace A_sl := A3
        show W K l _ n0 _ h8 0 0 89 #[.val (.ref t), .val (.int (0 : Int32)), .val (.int (Int32.ofNat y0)), .val (.long (τ 0)), .second, .val (.int (0 : Int32)), .val (.int (2 : Int32))] []
        refine w_ret ok d14_89 (by decide) (by decide) ?_
        refine ⟨rfl, _, _, _, Kp, A_en, A_ti, A_sl, (P.keep (by decide) hy0 ey0), ?_⟩
        rw [own_uidL τ 0 rfl]
        exact own_ho3 (own_tr64' hc6 (own_lt64 hec)) hc6
      · show W K l _ n0 _ h0 0 0 46 #[.val (.ref t), .val (.int (0 : Int32)), .val (.int (Int32.ofNat y0)), .val (.long (τ 0)), .second, .val (.int (0 : Int32)), .val (.int (2 : Int32))] []
        refine w_aloadN ok d14_46 rfl rfl ?_
        refine w_aloadN ok d14_47 rfl rfl ?_
        refine w_getfield ok (v := (.ref en)) (host := "") (f := ("com/example/rowan/rowan/store/IdleHeap", "entries", "[I", (.array .int))) 0 d14_48 (Or.inl (hw _ (List.mem_of_getElem? (i := 10) rfl))) Via.refl A_t rfl rfl ?_
        refine w_iload ok d14_51 rfl ?_
        refine w_iaload ok (v := (.int (Int32.ofNat y2))) d14_53 A_en (by decide) (ey2 ▸ own_svg (j := 2) (by decide)) ?_
        refine w_aloadN ok d14_54 rfl rfl ?_
        refine w_getfield ok (v := (.ref ti)) (host := "") (f := ("com/example/rowan/rowan/store/IdleHeap", "times", "[J", (.array .long))) 1 d14_55 (Or.inl (hw _ (List.mem_of_getElem? (i := 13) rfl))) Via.refl A_t rfl rfl ?_
        refine w_iload ok d14_58 rfl ?_
        refine w_laload ok (v := (.long (τ 2))) d14_60 A_ti (by decide) (own_lvg (j := 2) (by decide)) ?_
        refine w_iload ok d14_61 rfl ?_
        refine w_callP ok (y := (⟨"com/example/rowan/rowan/store/IdleHeap", "place", "(IJI)V"⟩ : MethodName)) (a := t) (argsL := [(.int (Int32.ofNat y2)), (.long (τ 2)), (.int (0 : Int32))]) (rest := []) d14_63 (hw _ (List.mem_of_getElem? (i := 50) rfl)) (hw _ (List.mem_of_getElem? (i := 51) rfl)) (hw _ (List.mem_of_getElem? (i := 52) rfl)) (hw _ (List.mem_of_getElem? (i := 1) rfl)) (hw _ (List.mem_of_getElem? (i := 2) rfl)) (hw _ (List.mem_of_getElem? (i := 53) rfl)) (by decide) A_t.1 pd_28IJI29V rfl rfl (by decide) (Nat.le_of_ble_eq_true rfl) (by decide) (by decide) (fun z0 => rm_place l Z a0 hw [] n0 h0 z0 t en ti sl (3 : Int32) e g τ A_t A_en A_ti A_sl ge_t ge_en ge_ti ge_sl ne_t_en ne_t_ti ne_t_sl ne_en_ti ne_en_sl ne_ti_sl y2 0 (τ 2) hy2 (by decide)) (fun v9 h10 qv9 => ?_)
        obtain ⟨rfl, K1, A1, A2, A3⟩ := qv9
        replace Kp := Kp.trans K1 (allS (Or.inl (by simp)) (allS (Or.inl (by simp)) (allS (Or.inl (by simp)) all0)))
        replace A_t := A_t.keep K1 (ninS ne_t_en (ninS ne_t_ti (ninS ne_t_sl nin0)))
        replace A_en := A1
        replace A_ti := A2
        replace A_sl := A3
        show W K l _ n0 _ h10 0 0 66 #[.val (.ref t), .val (.int (0 : Int32)), .val (.int (Int32.ofNat y0)), .val (.long (τ 0)), .second, .val (.int (0 : Int32)), .val (.int (2 : Int32))] []
        refine w_iload ok d14_66 rfl ?_
        refine w_istore ok d14_68 (L' := #[.val (.ref t), .val (.int (0 : Int32)), .val (.int (Int32.ofNat y0)), .val (.long (τ 0)), .second, .val (.int (2 : Int32)), .val (.int (2 : Int32))]) rfl ?_
        refine w_aloadN ok d14_70 rfl rfl ?_
        refine w_iload ok d14_71 rfl ?_
        refine w_callP ok (y := (⟨"com/example/rowan/rowan/store/IdleHeap", "earlierChild", "(I)I"⟩ : MethodName)) (a := t) (argsL := [(.int (2 : Int32))]) (rest := []) d14_73 (hw _ (List.mem_of_getElem? (i := 70) rfl)) (hw _ (List.mem_of_getElem? (i := 71) rfl)) (hw _ (List.mem_of_getElem? (i := 72) rfl)) (hw _ (List.mem_of_getElem? (i := 1) rfl)) (hw _ (List.mem_of_getElem? (i := 2) rfl)) (hw _ (List.mem_of_getElem? (i := 73) rfl)) (by decide) A_t.1 pd_28I29I rfl rfl (by decide) (Nat.le_of_ble_eq_true rfl) (by decide) (by decide) (fun z0 => rm_ec32 l Z a0 hw [] n0 h10 z0 t en ti sl (upd e 0 (Int32.ofNat y2)) (upd g y2 (Int32.ofNat 0)) (updL τ 0 (τ 2)) A_t A_en A_ti A_sl ge_t ge_en ge_ti ge_sl ne_t_en ne_t_ti ne_t_sl ne_en_ti ne_en_sl ne_ti_sl ) (fun v11 h12 qv11 => ?_)
        obtain ⟨rfl, rfl⟩ := qv11
        show W K l _ n0 _ h10 0 0 76 #[.val (.ref t), .val (.int (0 : Int32)), .val (.int (Int32.ofNat y0)), .val (.long (τ 0)), .second, .val (.int (2 : Int32)), .val (.int (2 : Int32))] [(.int (5 : Int32))]
        refine w_istore ok d14_76 (L' := #[.val (.ref t), .val (.int (0 : Int32)), .val (.int (Int32.ofNat y0)), .val (.long (τ 0)), .second, .val (.int (2 : Int32)), .val (.int (5 : Int32))]) rfl ?_
        refine w_goto ok d14_78 (pc' := 25) (by decide) ?_
        refine w_iload ok d14_25 rfl ?_
        refine w_aloadN ok d14_27 rfl rfl ?_
        refine w_getfield ok (v := (.int (3 : Int32))) (host := "") (f := ("com/example/rowan/rowan/store/IdleHeap", "size", "I", .int)) 3 d14_28 (Or.inl (hw _ (List.mem_of_getElem? (i := 48) rfl))) Via.refl A_t rfl rfl ?_
        refine w_icmp_ge ok d14_31 (pc' := 81) (by decide) (fun hc14 => ?_) (fun hc14 => False.elim (by revert hc14; decide))
        show W K l _ n0 _ h10 0 0 81 #[.val (.ref t), .val (.int (0 : Int32)), .val (.int (Int32.ofNat y0)), .val (.long (τ 0)), .second, .val (.int (2 : Int32)), .val (.int (5 : Int32))] []
        refine w_aloadN ok d14_81 rfl rfl ?_
        refine w_iloadN ok d14_82 rfl ?_
        refine w_lloadN ok d14_83 rfl ?_
        refine w_iload ok d14_84 rfl ?_
        refine w_callP ok (y := (⟨"com/example/rowan/rowan/store/IdleHeap", "place", "(IJI)V"⟩ : MethodName)) (a := t) (argsL := [(.int (Int32.ofNat y0)), (.long (τ 0)), (.int (2 : Int32))]) (rest := []) d14_86 (hw _ (List.mem_of_getElem? (i := 50) rfl)) (hw _ (List.mem_of_getElem? (i := 51) rfl)) (hw _ (List.mem_of_getElem? (i := 52) rfl)) (hw _ (List.mem_of_getElem? (i := 1) rfl)) (hw _ (List.mem_of_getElem? (i := 2) rfl)) (hw _ (List.mem_of_getElem? (i := 53) rfl)) (by decide) A_t.1 pd_28IJI29V rfl rfl (by decide) (Nat.le_of_ble_eq_true rfl) (by decide) (by decide) (fun z0 => rm_place l Z a0 hw [] n0 h10 z0 t en ti sl (3 : Int32) (upd e 0 (Int32.ofNat y2)) (upd g y2 (Int32.ofNat 0)) (updL τ 0 (τ 2)) A_t A_en A_ti A_sl ge_t ge_en ge_ti ge_sl ne_t_en ne_t_ti ne_t_sl ne_en_ti ne_en_sl ne_ti_sl y0 2 (τ 0) hy0 (by decide)) (fun v15 h16 qv15 => ?_)
        obtain ⟨rfl, K1, A1, A2, A3⟩ := qv15
        replace Kp := Kp.trans K1 (allS (Or.inl (by simp)) (allS (Or.inl (by simp)) (allS (Or.inl (by simp)) all0)))
        replace A_t := A_t.keep K1 (ninS ne_t_en (ninS ne_t_ti (ninS ne_t_sl nin0)))
        replace A_en := A1
        replace A_ti := A2
        replace A_sl := A3
        show W K l _ n0 _ h16 0 0 89 #[.val (.ref t), .val (.int (0 : Int32)), .val (.int (Int32.ofNat y0)), .val (.long (τ 0)), .second, .val (.int (2 : Int32)), .val (.int (5 : Int32))] []
        refine w_ret ok d14_89 (by decide) (by decide) ?_
        refine ⟨rfl, _, _, _, Kp, A_en, A_ti, A_sl, (P.swap (i := 0) (j := 2) (by decide) (by decide) (by decide) hy0 hy2 ey0 ey2), ?_⟩
        exact own_ho3 (own_lt64 hec) (own_lt64 hc6)
    · skip
      show W K l _ n0 _ h0 0 0 23 #[.val (.ref t), .val (.int (0 : Int32)), .val (.int (Int32.ofNat y0)), .val (.long (τ 0)), .second, .val (.int (0 : Int32)), .unset] [(.int (1 : Int32))]
      refine w_istore ok d14_23 (L' := #[.val (.ref t), .val (.int (0 : Int32)), .val (.int (Int32.ofNat y0)), .val (.long (τ 0)), .second, .val (.int (0 : Int32)), .val (.int (1 : Int32))]) rfl ?_
      refine w_iload ok d14_25 rfl ?_
      refine w_aloadN ok d14_27 rfl rfl ?_
      refine w_getfield ok (v := (.int (3 : Int32))) (host := "") (f := ("com/example/rowan/rowan/store/IdleHeap", "size", "I", .int)) 3 d14_28 (Or.inl (hw _ (List.mem_of_getElem? (i := 48) rfl))) Via.refl A_t rfl rfl ?_
      refine w_icmp_ge ok d14_31 (pc' := 81) (by decide) (fun hc18 => False.elim (by revert hc18; decide)) (fun hc18 => ?_)
      show W K l _ n0 _ h0 0 0 34 #[.val (.ref t), .val (.int (0 : Int32)), .val (.int (Int32.ofNat y0)), .val (.long (τ 0)), .second, .val (.int (0 : Int32)), .val (.int (1 : Int32))] []
      refine w_aloadN ok d14_34 rfl rfl ?_
      refine w_getfield ok (v := (.ref ti)) (host := "") (f := ("com/example/rowan/rowan/store/IdleHeap", "times", "[J", (.array .long))) 1 d14_35 (Or.inl (hw _ (List.mem_of_getElem? (i := 13) rfl))) Via.refl A_t rfl rfl ?_
      refine w_iload ok d14_38 rfl ?_
      refine w_laload ok (v := (.long (τ 1))) d14_40 A_ti (by decide) (own_lvg (j := 1) (by decide)) ?_
      refine w_lloadN ok d14_41 rfl ?_
      refine w_lcmp_ge ok d14_42 d14_43 (pc' := 81) (by decide) (fun hc20 => ?_) (fun hc20 => ?_)
      · show W K l _ n0 _ h0 0 0 81 #[.val (.ref t), .val (.int (0 : Int32)), .val (.int (Int32.ofNat y0)), .val (.long (τ 0)), .second, .val (.int (0 : Int32)), .val (.int (1 : Int32))] []
        refine w_aloadN ok d14_81 rfl rfl ?_
        refine w_iloadN ok d14_82 rfl ?_
        refine w_lloadN ok d14_83 rfl ?_
        refine w_iload ok d14_84 rfl ?_
        refine w_callP ok (y := (⟨"com/example/rowan/rowan/store/IdleHeap", "place", "(IJI)V"⟩ : MethodName)) (a := t) (argsL := [(.int (Int32.ofNat y0)), (.long (τ 0)), (.int (0 : Int32))]) (rest := []) d14_86 (hw _ (List.mem_of_getElem? (i := 50) rfl)) (hw _ (List.mem_of_getElem? (i := 51) rfl)) (hw _ (List.mem_of_getElem? (i := 52) rfl)) (hw _ (List.mem_of_getElem? (i := 1) rfl)) (hw _ (List.mem_of_getElem? (i := 2) rfl)) (hw _ (List.mem_of_getElem? (i := 53) rfl)) (by decide) A_t.1 pd_28IJI29V rfl rfl (by decide) (Nat.le_of_ble_eq_true rfl) (by decide) (by decide) (fun z0 => rm_place l Z a0 hw [] n0 h0 z0 t en ti sl (3 : Int32) e g τ A_t A_en A_ti A_sl ge_t ge_en ge_ti ge_sl ne_t_en ne_t_ti ne_t_sl ne_en_ti ne_en_sl ne_ti_sl y0 0 (τ 0) hy0 (by decide)) (fun v21 h22 qv21 => ?_)
        obtain ⟨rfl, K1, A1, A2, A3⟩ := qv21
        replace Kp := Kp.trans K1 (allS (Or.inl (by simp)) (allS (Or.inl (by simp)) (allS (Or.inl (by simp)) all0)))
        replace A_t := A_t.keep K1 (ninS ne_t_en (ninS ne_t_ti (ninS ne_t_sl nin0)))
        replace A_en := A1
        replace A_ti := A2
        replace A_sl := A3
        show W K l _ n0 _ h22 0 0 89 #[.val (.ref t), .val (.int (0 : Int32)), .val (.int (Int32.ofNat y0)), .val (.long (τ 0)), .second, .val (.int (0 : Int32)), .val (.int (1 : Int32))] []
        refine w_ret ok d14_89 (by decide) (by decide) ?_
        refine ⟨rfl, _, _, _, Kp, A_en, A_ti, A_sl, (P.keep (by decide) hy0 ey0), ?_⟩
        rw [own_uidL τ 0 rfl]
        exact own_ho3 hc20 (own_tr64' hc20 hec)
      · show W K l _ n0 _ h0 0 0 46 #[.val (.ref t), .val (.int (0 : Int32)), .val (.int (Int32.ofNat y0)), .val (.long (τ 0)), .second, .val (.int (0 : Int32)), .val (.int (1 : Int32))] []
        refine w_aloadN ok d14_46 rfl rfl ?_
        refine w_aloadN ok d14_47 rfl rfl ?_
        refine w_getfield ok (v := (.ref en)) (host := "") (f := ("com/example/rowan/rowan/store/IdleHeap", "entries", "[I", (.array .int))) 0 d14_48 (Or.inl (hw _ (List.mem_of_getElem? (i := 10) rfl))) Via.refl A_t rfl rfl ?_
        refine w_iload ok d14_51 rfl ?_
        refine w_iaload ok (v := (.int (Int32.ofNat y1))) d14_53 A_en (by decide) (ey1 ▸ own_svg (j := 1) (by decide)) ?_
        refine w_aloadN ok d14_54 rfl rfl ?_
        refine w_getfield ok (v := (.ref ti)) (host := "") (f := ("com/example/rowan/rowan/store/IdleHeap", "times", "[J", (.array .long))) 1 d14_55 (Or.inl (hw _ (List.mem_of_getElem? (i := 13) rfl))) Via.refl A_t rfl rfl ?_
        refine w_iload ok d14_58 rfl ?_
        refine w_laload ok (v := (.long (τ 1))) d14_60 A_ti (by decide) (own_lvg (j := 1) (by decide)) ?_
        refine w_iload ok d14_61 rfl ?_
        refine w_callP ok (y := (⟨"com/example/rowan/rowan/store/IdleHeap", "place", "(IJI)V"⟩ : MethodName)) (a := t) (argsL := [(.int (Int32.ofNat y1)), (.long (τ 1)), (.int (0 : Int32))]) (rest := []) d14_63 (hw _ (List.mem_of_getElem? (i := 50) rfl)) (hw _ (List.mem_of_getElem? (i := 51) rfl)) (hw _ (List.mem_of_getElem? (i := 52) rfl)) (hw _ (List.mem_of_getElem? (i := 1) rfl)) (hw _ (List.mem_of_getElem? (i := 2) rfl)) (hw _ (List.mem_of_getElem? (i := 53) rfl)) (by decide) A_t.1 pd_28IJI29V rfl rfl (by decide) (Nat.le_of_ble_eq_true rfl) (by decide) (by decide) (fun z0 => rm_place l Z a0 hw [] n0 h0 z0 t en ti sl (3 : Int32) e g τ A_t A_en A_ti A_sl ge_t ge_en ge_ti ge_sl ne_t_en ne_t_ti ne_t_sl ne_en_ti ne_en_sl ne_ti_sl y1 0 (τ 1) hy1 (by decide)) (fun v23 h24 qv23 => ?_)
        obtain ⟨rfl, K1, A1, A2, A3⟩ := qv23
        replace Kp := Kp.trans K1 (allS (Or.inl (by simp)) (allS (Or.inl (by simp)) (allS (Or.inl (by simp)) all0)))
        replace A_t := A_t.keep K1 (ninS ne_t_en (ninS ne_t_ti (ninS ne_t_sl nin0)))
        replace A_en := A1
        replace A_ti := A2
        replace A_sl := A3
        show W K l _ n0 _ h24 0 0 66 #[.val (.ref t), .val (.int (0 : Int32)), .val (.int (Int32.ofNat y0)), .val (.long (τ 0)), .second, .val (.int (0 : Int32)), .val (.int (1 : Int32))] []
        refine w_iload ok d14_66 rfl ?_
        refine w_istore ok d14_68 (L' := #[.val (.ref t), .val (.int (0 : Int32)), .val (.int (Int32.ofNat y0)), .val (.long (τ 0)), .second, .val (.int (1 : Int32)), .val (.int (1 : Int32))]) rfl ?_
        refine w_aloadN ok d14_70 rfl rfl ?_
        refine w_iload ok d14_71 rfl ?_
        refine w_callP ok (y := (⟨"com/example/rowan/rowan/store/IdleHeap", "earlierChild", "(I)I"⟩ : MethodName)) (a := t) (argsL := [(.int (1 : Int32))]) (rest := []) d14_73 (hw _ (List.mem_of_getElem? (i := 70) rfl)) (hw _ (List.mem_of_getElem? (i := 71) rfl)) (hw _ (List.mem_of_getElem? (i := 72) rfl)) (hw _ (List.mem_of_getElem? (i := 1) rfl)) (hw _ (List.mem_of_getElem? (i := 2) rfl)) (hw _ (List.mem_of_getElem? (i := 73) rfl)) (by decide) A_t.1 pd_28I29I rfl rfl (by decide) (Nat.le_of_ble_eq_true rfl) (by decide) (by decide) (fun z0 => rm_ec31 l Z a0 hw [] n0 h24 z0 t en ti sl (upd e 0 (Int32.ofNat y1)) (upd g y1 (Int32.ofNat 0)) (updL τ 0 (τ 1)) A_t A_en A_ti A_sl ge_t ge_en ge_ti ge_sl ne_t_en ne_t_ti ne_t_sl ne_en_ti ne_en_sl ne_ti_sl ) (fun v25 h26 qv25 => ?_)
        obtain ⟨rfl, rfl⟩ := qv25
        show W K l _ n0 _ h24 0 0 76 #[.val (.ref t), .val (.int (0 : Int32)), .val (.int (Int32.ofNat y0)), .val (.long (τ 0)), .second, .val (.int (1 : Int32)), .val (.int (1 : Int32))] [(.int (3 : Int32))]
        refine w_istore ok d14_76 (L' := #[.val (.ref t), .val (.int (0 : Int32)), .val (.int (Int32.ofNat y0)), .val (.long (τ 0)), .second, .val (.int (1 : Int32)), .val (.int (3 : Int32))]) rfl ?_
        refine w_goto ok d14_78 (pc' := 25) (by decide) ?_
        refine w_iload ok d14_25 rfl ?_
        refine w_aloadN ok d14_27 rfl rfl ?_
        refine w_getfield ok (v := (.int (3 : Int32))) (host := "") (f := ("com/example/rowan/rowan/store/IdleHeap", "size", "I", .int)) 3 d14_28 (Or.inl (hw _ (List.mem_of_getElem? (i := 48) rfl))) Via.refl A_t rfl rfl ?_
        refine w_icmp_ge ok d14_31 (pc' := 81) (by decide) (fun hc28 => ?_) (fun hc28 => False.elim (by revert hc28; decide))
        show W K l _ n0 _ h24 0 0 81 #[.val (.ref t), .val (.int (0 : Int32)), .val (.int (Int32.ofNat y0)), .val (.long (τ 0)), .second, .val (.int (1 : Int32)), .val (.int (3 : Int32))] []
        refine w_aloadN ok d14_81 rfl rfl ?_
        refine w_iloadN ok d14_82 rfl ?_
        refine w_lloadN ok d14_83 rfl ?_
        refine w_iload ok d14_84 rfl ?_
        refine w_callP ok (y := (⟨"com/example/rowan/rowan/store/IdleHeap", "place", "(IJI)V"⟩ : MethodName)) (a := t) (argsL := [(.int (Int32.ofNat y0)), (.long (τ 0)), (.int (1 : Int32))]) (rest := []) d14_86 (hw _ (List.mem_of_getElem? (i := 50) rfl)) (hw _ (List.mem_of_getElem? (i := 51) rfl)) (hw _ (List.mem_of_getElem? (i := 52) rfl)) (hw _ (List.mem_of_getElem? (i := 1) rfl)) (hw _ (List.mem_of_getElem? (i := 2) rfl)) (hw _ (List.mem_of_getElem? (i := 53) rfl)) (by decide) A_t.1 pd_28IJI29V rfl rfl (by decide) (Nat.le_of_ble_eq_true rfl) (by decide) (by decide) (fun z0 => rm_place l Z a0 hw [] n0 h24 z0 t en ti sl (3 : Int32) (upd e 0 (Int32.ofNat y1)) (upd g y1 (Int32.ofNat 0)) (updL τ 0 (τ 1)) A_t A_en A_ti A_sl ge_t ge_en ge_ti ge_sl ne_t_en ne_t_ti ne_t_sl ne_en_ti ne_en_sl ne_ti_sl y0 1 (τ 0) hy0 (by decide)) (fun v29 h30 qv29 => ?_)
        obtain ⟨rfl, K1, A1, A2, A3⟩ := qv29
        replace Kp := Kp.trans K1 (allS (Or.inl (by simp)) (allS (Or.inl (by simp)) (allS (Or.inl (by simp)) all0)))
        replace A_t := A_t.keep K1 (ninS ne_t_en (ninS ne_t_ti (ninS ne_t_sl nin0)))
        replace A_en := A1
        replace A_ti := A2
        replace A_sl := A3
        show W K l _ n0 _ h30 0 0 89 #[.val (.ref t), .val (.int (0 : Int32)), .val (.int (Int32.ofNat y0)), .val (.long (τ 0)), .second, .val (.int (1 : Int32)), .val (.int (3 : Int32))] []
        refine w_ret ok d14_89 (by decide) (by decide) ?_
        refine ⟨rfl, _, _, _, Kp, A_en, A_ti, A_sl, (P.swap (i := 0) (j := 1) (by decide) (by decide) (by decide) hy0 hy1 ey0 ey1), ?_⟩
        exact own_ho3 (own_lt64 hc20) hec
  · have Kp : Keep h0 h0 [en, ti, sl] := Keep.refl _ _
    obtain ⟨y0, hy0, ey0, -, -⟩ := P.2.1 0 (by decide)
    obtain ⟨y1, hy1, ey1, -, -⟩ := P.2.1 1 (by decide)
    obtain ⟨y2, hy2, ey2, -, -⟩ := P.2.1 2 (by decide)
    show W K l _ n0 _ h0 0 0 0 #[.val (.ref t), .val (.int (1 : Int32)), .unset, .unset, .unset, .unset, .unset] []
    refine w_aloadN ok d14_0 rfl rfl ?_
    refine w_getfield ok (v := (.ref en)) (host := "") (f := ("com/example/rowan/rowan/store/IdleHeap", "entries", "[I", (.array .int))) 0 d14_1 (Or.inl (hw _ (List.mem_of_getElem? (i := 10) rfl))) Via.refl A_t rfl rfl ?_
    refine w_iloadN ok d14_4 rfl ?_
    refine w_iaload ok (v := (.int (Int32.ofNat y1))) d14_5 A_en (by decide) (ey1 ▸ own_svg (j := 1) (by decide)) ?_
    refine w_istoreN ok d14_6 (L' := #[.val (.ref t), .val (.int (1 : Int32)), .val (.int (Int32.ofNat y1)), .unset, .unset, .unset, .unset]) rfl ?_
    refine w_aloadN ok d14_7 rfl rfl ?_
    refine w_getfield ok (v := (.ref ti)) (host := "") (f := ("com/example/rowan/rowan/store/IdleHeap", "times", "[J", (.array .long))) 1 d14_8 (Or.inl (hw _ (List.mem_of_getElem? (i := 13) rfl))) Via.refl A_t rfl rfl ?_
    refine w_iloadN ok d14_11 rfl ?_
    refine w_laload ok (v := (.long (τ 1))) d14_12 A_ti (by decide) (own_lvg (j := 1) (by decide)) ?_
    refine w_lstoreN ok d14_13 (L' := #[.val (.ref t), .val (.int (1 : Int32)), .val (.int (Int32.ofNat y1)), .val (.long (τ 1)), .second, .unset, .unset]) rfl ?_
    refine w_iloadN ok d14_14 rfl ?_
    refine w_istore ok d14_15 (L' := #[.val (.ref t), .val (.int (1 : Int32)), .val (.int (Int32.ofNat y1)), .val (.long (τ 1)), .second, .val (.int (1 : Int32)), .unset]) rfl ?_
    refine w_aloadN ok d14_17 rfl rfl ?_
    refine w_iload ok d14_18 rfl ?_
    refine w_callP ok (y := (⟨"com/example/rowan/rowan/store/IdleHeap", "earlierChild", "(I)I"⟩ : MethodName)) (a := t) (argsL := [(.int (1 : Int32))]) (rest := []) d14_20 (hw _ (List.mem_of_getElem? (i := 70) rfl)) (hw _ (List.mem_of_getElem? (i := 71) rfl)) (hw _ (List.mem_of_getElem? (i := 72) rfl)) (hw _ (List.mem_of_getElem? (i := 1) rfl)) (hw _ (List.mem_of_getElem? (i := 2) rfl)) (hw _ (List.mem_of_getElem? (i := 73) rfl)) (by decide) A_t.1 pd_28I29I rfl rfl (by decide) (Nat.le_of_ble_eq_true rfl) (by decide) (by decide) (fun z0 => rm_ec31 l Z a0 hw [] n0 h0 z0 t en ti sl e g τ A_t A_en A_ti A_sl ge_t ge_en ge_ti ge_sl ne_t_en ne_t_ti ne_t_sl ne_en_ti ne_en_sl ne_ti_sl ) (fun v1 h2 qv1 => ?_)
    obtain ⟨rfl, rfl⟩ := qv1
    show W K l _ n0 _ h0 0 0 23 #[.val (.ref t), .val (.int (1 : Int32)), .val (.int (Int32.ofNat y1)), .val (.long (τ 1)), .second, .val (.int (1 : Int32)), .unset] [(.int (3 : Int32))]
    refine w_istore ok d14_23 (L' := #[.val (.ref t), .val (.int (1 : Int32)), .val (.int (Int32.ofNat y1)), .val (.long (τ 1)), .second, .val (.int (1 : Int32)), .val (.int (3 : Int32))]) rfl ?_
    refine w_iload ok d14_25 rfl ?_
    refine w_aloadN ok d14_27 rfl rfl ?_
    refine w_getfield ok (v := (.int (3 : Int32))) (host := "") (f := ("com/example/rowan/rowan/store/IdleHeap", "size", "I", .int)) 3 d14_28 (Or.inl (hw _ (List.mem_of_getElem? (i := 48) rfl))) Via.refl A_t rfl rfl ?_
    refine w_icmp_ge ok d14_31 (pc' := 81) (by decide) (fun hc4 => ?_) (fun hc4 => False.elim (by revert hc4; decide))
    show W K l _ n0 _ h0 0 0 81 #[.val (.ref t), .val (.int (1 : Int32)), .val (.int (Int32.ofNat y1)), .val (.long (τ 1)), .second, .val (.int (1 : Int32)), .val (.int (3 : Int32))] []
    refine w_aloadN ok d14_81 rfl rfl ?_
    refine w_iloadN ok d14_82 rfl ?_
    refine w_lloadN ok d14_83 rfl ?_
    refine w_iload ok d14_84 rfl ?_
    refine w_callP ok (y := (⟨"com/example/rowan/rowan/store/IdleHeap", "place", "(IJI)V"⟩ : MethodName)) (a := t) (argsL := [(.int (Int32.ofNat y1)), (.long (τ 1)), (.int (1 : Int32))]) (rest := []) d14_86 (hw _ (List.mem_of_getElem? (i := 50) rfl)) (hw _ (List.mem_of_getElem? (i := 51) rfl)) (hw _ (List.mem_of_getElem? (i := 52) rfl)) (hw _ (List.mem_of_getElem? (i := 1) rfl)) (hw _ (List.mem_of_getElem? (i := 2) rfl)) (hw _ (List.mem_of_getElem? (i := 53) rfl)) (by decide) A_t.1 pd_28IJI29V rfl rfl (by decide) (Nat.le_of_ble_eq_true rfl) (by decide) (by decide) (fun z0 => rm_place l Z a0 hw [] n0 h0 z0 t en ti sl (3 : Int32) e g τ A_t A_en A_ti A_sl ge_t ge_en ge_ti ge_sl ne_t_en ne_t_ti ne_t_sl ne_en_ti ne_en_sl ne_ti_sl y1 1 (τ 1) hy1 (by decide)) (fun v5 h6 qv5 => ?_)
    obtain ⟨rfl, K1, A1, A2, A3⟩ := qv5
    replace Kp := Kp.trans K1 (allS (Or.inl (by simp)) (allS (Or.inl (by simp)) (allS (Or.inl (by simp)) all0)))
    replace A_t := A_t.keep K1 (ninS ne_t_en (ninS ne_t_ti (ninS ne_t_sl nin0)))
    replace A_en := A1
    replace A_ti := A2
    replace A_sl := A3
    show W K l _ n0 _ h6 0 0 89 #[.val (.ref t), .val (.int (1 : Int32)), .val (.int (Int32.ofNat y1)), .val (.long (τ 1)), .second, .val (.int (1 : Int32)), .val (.int (3 : Int32))] []
    refine w_ret ok d14_89 (by decide) (by decide) ?_
    refine ⟨rfl, _, _, _, Kp, A_en, A_ti, A_sl, (P.keep (by decide) hy1 ey1), ?_⟩
    rw [own_uidL τ 1 rfl]
    exact hD (by decide)
  · have Kp : Keep h0 h0 [en, ti, sl] := Keep.refl _ _
    obtain ⟨y0, hy0, ey0, -, -⟩ := P.2.1 0 (by decide)
    obtain ⟨y1, hy1, ey1, -, -⟩ := P.2.1 1 (by decide)
    obtain ⟨y2, hy2, ey2, -, -⟩ := P.2.1 2 (by decide)
    show W K l _ n0 _ h0 0 0 0 #[.val (.ref t), .val (.int (2 : Int32)), .unset, .unset, .unset, .unset, .unset] []
    refine w_aloadN ok d14_0 rfl rfl ?_
    refine w_getfield ok (v := (.ref en)) (host := "") (f := ("com/example/rowan/rowan/store/IdleHeap", "entries", "[I", (.array .int))) 0 d14_1 (Or.inl (hw _ (List.mem_of_getElem? (i := 10) rfl))) Via.refl A_t rfl rfl ?_
    refine w_iloadN ok d14_4 rfl ?_
    refine w_iaload ok (v := (.int (Int32.ofNat y2))) d14_5 A_en (by decide) (ey2 ▸ own_svg (j := 2) (by decide)) ?_
    refine w_istoreN ok d14_6 (L' := #[.val (.ref t), .val (.int (2 : Int32)), .val (.int (Int32.ofNat y2)), .unset, .unset, .unset, .unset]) rfl ?_
    refine w_aloadN ok d14_7 rfl rfl ?_
    refine w_getfield ok (v := (.ref ti)) (host := "") (f := ("com/example/rowan/rowan/store/IdleHeap", "times", "[J", (.array .long))) 1 d14_8 (Or.inl (hw _ (List.mem_of_getElem? (i := 13) rfl))) Via.refl A_t rfl rfl ?_
    refine w_iloadN ok d14_11 rfl ?_
    refine w_laload ok (v := (.long (τ 2))) d14_12 A_ti (by decide) (own_lvg (j := 2) (by decide)) ?_
    refine w_lstoreN ok d14_13 (L' := #[.val (.ref t), .val (.int (2 : Int32)), .val (.int (Int32.ofNat y2)), .val (.long (τ 2)), .second, .unset, .unset]) rfl ?_
    refine w_iloadN ok d14_14 rfl ?_
    refine w_istore ok d14_15 (L' := #[.val (.ref t), .val (.int (2 : Int32)), .val (.int (Int32.ofNat y2)), .val (.long (τ 2)), .second, .val (.int (2 : Int32)), .unset]) rfl ?_
    refine w_aloadN ok d14_17 rfl rfl ?_
    refine w_iload ok d14_18 rfl ?_
    refine w_callP ok (y := (⟨"com/example/rowan/rowan/store/IdleHeap", "earlierChild", "(I)I"⟩ : MethodName)) (a := t) (argsL := [(.int (2 : Int32))]) (rest := []) d14_20 (hw _ (List.mem_of_getElem? (i := 70) rfl)) (hw _ (List.mem_of_getElem? (i := 71) rfl)) (hw _ (List.mem_of_getElem? (i := 72) rfl)) (hw _ (List.mem_of_getElem? (i := 1) rfl)) (hw _ (List.mem_of_getElem? (i := 2) rfl)) (hw _ (List.mem_of_getElem? (i := 73) rfl)) (by decide) A_t.1 pd_28I29I rfl rfl (by decide) (Nat.le_of_ble_eq_true rfl) (by decide) (by decide) (fun z0 => rm_ec32 l Z a0 hw [] n0 h0 z0 t en ti sl e g τ A_t A_en A_ti A_sl ge_t ge_en ge_ti ge_sl ne_t_en ne_t_ti ne_t_sl ne_en_ti ne_en_sl ne_ti_sl ) (fun v1 h2 qv1 => ?_)
    obtain ⟨rfl, rfl⟩ := qv1
    show W K l _ n0 _ h0 0 0 23 #[.val (.ref t), .val (.int (2 : Int32)), .val (.int (Int32.ofNat y2)), .val (.long (τ 2)), .second, .val (.int (2 : Int32)), .unset] [(.int (5 : Int32))]
    refine w_istore ok d14_23 (L' := #[.val (.ref t), .val (.int (2 : Int32)), .val (.int (Int32.ofNat y2)), .val (.long (τ 2)), .second, .val (.int (2 : Int32)), .val (.int (5 : Int32))]) rfl ?_
    refine w_iload ok d14_25 rfl ?_
    refine w_aloadN ok d14_27 rfl rfl ?_
    refine w_getfield ok (v := (.int (3 : Int32))) (host := "") (f := ("com/example/rowan/rowan/store/IdleHeap", "size", "I", .int)) 3 d14_28 (Or.inl (hw _ (List.mem_of_getElem? (i := 48) rfl))) Via.refl A_t rfl rfl ?_
    refine w_icmp_ge ok d14_31 (pc' := 81) (by decide) (fun hc4 => ?_) (fun hc4 => False.elim (by revert hc4; decide))
    show W K l _ n0 _ h0 0 0 81 #[.val (.ref t), .val (.int (2 : Int32)), .val (.int (Int32.ofNat y2)), .val (.long (τ 2)), .second, .val (.int (2 : Int32)), .val (.int (5 : Int32))] []
    refine w_aloadN ok d14_81 rfl rfl ?_
    refine w_iloadN ok d14_82 rfl ?_
    refine w_lloadN ok d14_83 rfl ?_
    refine w_iload ok d14_84 rfl ?_
    refine w_callP ok (y := (⟨"com/example/rowan/rowan/store/IdleHeap", "place", "(IJI)V"⟩ : MethodName)) (a := t) (argsL := [(.int (Int32.ofNat y2)), (.long (τ 2)), (.int (2 : Int32))]) (rest := []) d14_86 (hw _ (List.mem_of_getElem? (i := 50) rfl)) (hw _ (List.mem_of_getElem? (i := 51) rfl)) (hw _ (List.mem_of_getElem? (i := 52) rfl)) (hw _ (List.mem_of_getElem? (i := 1) rfl)) (hw _ (List.mem_of_getElem? (i := 2) rfl)) (hw _ (List.mem_of_getElem? (i := 53) rfl)) (by decide) A_t.1 pd_28IJI29V rfl rfl (by decide) (Nat.le_of_ble_eq_true rfl) (by decide) (by decide) (fun z0 => rm_place l Z a0 hw [] n0 h0 z0 t en ti sl (3 : Int32) e g τ A_t A_en A_ti A_sl ge_t ge_en ge_ti ge_sl ne_t_en ne_t_ti ne_t_sl ne_en_ti ne_en_sl ne_ti_sl y2 2 (τ 2) hy2 (by decide)) (fun v5 h6 qv5 => ?_)
    obtain ⟨rfl, K1, A1, A2, A3⟩ := qv5
    replace Kp := Kp.trans K1 (allS (Or.inl (by simp)) (allS (Or.inl (by simp)) (allS (Or.inl (by simp)) all0)))
    replace A_t := A_t.keep K1 (ninS ne_t_en (ninS ne_t_ti (ninS ne_t_sl nin0)))
    replace A_en := A1
    replace A_ti := A2
    replace A_sl := A3
    show W K l _ n0 _ h6 0 0 89 #[.val (.ref t), .val (.int (2 : Int32)), .val (.int (Int32.ofNat y2)), .val (.long (τ 2)), .second, .val (.int (2 : Int32)), .val (.int (5 : Int32))] []
    refine w_ret ok d14_89 (by decide) (by decide) ?_
    refine ⟨rfl, _, _, _, Kp, A_en, A_ti, A_sl, (P.keep (by decide) hy2 ey2), ?_⟩
    rw [own_uidL τ 2 rfl]
    exact hD (by decide)
theorem d9_0 : decode prog_26_method_5_code 0 = .ok (.aload_n 0, 1) := by decide +kernel
theorem d9_1 : decode prog_26_method_5_code 1 = .ok (.iload_n 1, 1) := by decide +kernel
theorem d9_2 : decode prog_26_method_5_code 2 = .ok (.lload_n 2, 1) := by decide +kernel
theorem d9_3 : decode prog_26_method_5_code 3 = .ok (.aload_n 0, 1) := by decide +kernel
theorem d9_4 : decode prog_26_method_5_code 4 = .ok (.getfield 33, 3) := by decide +kernel
theorem d9_7 : decode prog_26_method_5_code 7 = .ok (.invokevirtual 37, 3) := by decide +kernel
theorem d9_10 : decode prog_26_method_5_code 10 = .ok (.aload_n 0, 1) := by decide +kernel
theorem d9_11 : decode prog_26_method_5_code 11 = .ok (.dup, 1) := by decide +kernel
theorem d9_12 : decode prog_26_method_5_code 12 = .ok (.getfield 33, 3) := by decide +kernel
theorem d9_15 : decode prog_26_method_5_code 15 = .ok (.iconst 1, 1) := by decide +kernel
theorem d9_16 : decode prog_26_method_5_code 16 = .ok (.iadd, 1) := by decide +kernel
theorem d9_17 : decode prog_26_method_5_code 17 = .ok (.putfield 33, 3) := by decide +kernel
theorem d9_20 : decode prog_26_method_5_code 20 = .ok (.aload_n 0, 1) := by decide +kernel
theorem d9_21 : decode prog_26_method_5_code 21 = .ok (.aload_n 0, 1) := by decide +kernel
theorem d9_22 : decode prog_26_method_5_code 22 = .ok (.getfield 33, 3) := by decide +kernel
theorem d9_25 : decode prog_26_method_5_code 25 = .ok (.iconst 1, 1) := by decide +kernel
theorem d9_26 : decode prog_26_method_5_code 26 = .ok (.isub, 1) := by decide +kernel
theorem d9_27 : decode prog_26_method_5_code 27 = .ok (.invokevirtual 41, 3) := by decide +kernel
theorem d9_30 : decode prog_26_method_5_code 30 = .ok (.return_, 1) := by decide +kernel
theorem pd_28I29V : parseMethodDescriptor "(I)V" = some ⟨[.int], none⟩ := by decide +kernel
set_option maxRecDepth 65536 in
set_option maxHeartbeats 40000000 in
theorem rm_add (l : Launch) (Z : State) (a0 : Array Value) (hw : ∀ d ∈ tables_1, d.before a0 Z = true) (ws : List Jvm.Cond) (n0 : Nat) (h0 : Heap) (Z0 : Old Z n0 h0) (t en ti sl : Addr) (sz : Nat) (e g : Nat → Int32) (τ : Nat → Int64) (A_t : Ob Z h0 t "com/example/rowan/rowan/store/IdleHeap" fl_IdleHeap [.ref en, .ref ti, .ref sl, .int (Int32.ofNat sz)]) (A_en : PA .int Z h0 en (sv 4 e)) (A_ti : PA .long Z h0 ti (lv 4 τ)) (A_sl : PA .int Z h0 sl (sv 4 g)) (ge_t : n0 ≤ t) (ge_en : n0 ≤ en) (ge_ti : n0 ≤ ti) (ge_sl : n0 ≤ sl) (ne_t_en : t ≠ en) (ne_t_ti : t ≠ ti) (ne_t_sl : t ≠ sl) (ne_en_ti : en ≠ ti) (ne_en_sl : en ≠ sl) (ne_ti_sl : ti ≠ sl) (M : Nat → Option Int64) (P : PP sz e τ g M) (H : HO sz τ) (y : Nat) (v : Int64) (hy : y < 4) (hM : M y = none) (hs : sz < 3) :
    Met l Z n0 (⟨"com/example/rowan/rowan/store/IdleHeap", "add", "(IJ)V"⟩ : MethodName) prog_26_method_5_code 4 none ws ({ frames := 2, cells := 0, slots := 0, locals := 34 } : Room) #[(.ref t), (.int (Int32.ofNat y)), (.long v)] h0 (fun u h => u = none ∧ ∃ e' g' τ', Keep h0 h [t, en, ti, sl] ∧ Ob Z h t "com/example/rowan/rowan/store/IdleHeap" fl_IdleHeap [.ref en, .ref ti, .ref sl, .int (Int32.ofNat (sz + 1))] ∧ PA .int Z h en (sv 4 e') ∧ PA .long Z h ti (lv 4 τ') ∧ PA .int Z h sl (sv 4 g') ∧ PP (sz + 1) e' τ' g' (put M y (some v)) ∧ HO (sz + 1) τ') := by
  refine met_of Z0 (plainFor_of_name pn_com_example_rowan_rowan_store_IdleHeap) (Ls := #[.val (.ref t), .val (.int (Int32.ofNat y)), .val (.long v), .second]) (fun m => by first | (simp [entryFrame, mkF, argsToLocals, Value.category]; done) | rfl) ?_
  intro K ok
  obtain rfl | rfl | rfl : sz = 0 ∨ sz = 1 ∨ sz = 2 := by omega
  · have Kp : Keep h0 h0 [t, en, ti, sl] := Keep.refl _ _
    show W K l _ n0 _ h0 0 0 0 #[.val (.ref t), .val (.int (Int32.ofNat y)), .val (.long v), .second] []
    refine w_aloadN ok d9_0 rfl rfl ?_
    refine w_iloadN ok d9_1 rfl ?_
    refine w_lloadN ok d9_2 rfl ?_
    refine w_aloadN ok d9_3 rfl rfl ?_
    refine w_getfield ok (v := (.int (0 : Int32))) (host := "") (f := ("com/example/rowan/rowan/store/IdleHeap", "size", "I", .int)) 3 d9_4 (Or.inl (hw _ (List.mem_of_getElem? (i := 48) rfl))) Via.refl A_t rfl rfl ?_
    refine w_callP ok (y := (⟨"com/example/rowan/rowan/store/IdleHeap", "place", "(IJI)V"⟩ : MethodName)) (a := t) (argsL := [(.int (Int32.ofNat y)), (.long v), (.int (0 : Int32))]) (rest := []) d9_7 (hw _ (List.mem_of_getElem? (i := 50) rfl)) (hw _ (List.mem_of_getElem? (i := 51) rfl)) (hw _ (List.mem_of_getElem? (i := 52) rfl)) (hw _ (List.mem_of_getElem? (i := 1) rfl)) (hw _ (List.mem_of_getElem? (i := 2) rfl)) (hw _ (List.mem_of_getElem? (i := 53) rfl)) (by decide) A_t.1 pd_28IJI29V rfl rfl (by decide) (Nat.le_of_ble_eq_true rfl) (by decide) (by decide) (fun z0 => rm_place l Z a0 hw [] n0 h0 z0 t en ti sl (0 : Int32) e g τ A_t A_en A_ti A_sl ge_t ge_en ge_ti ge_sl ne_t_en ne_t_ti ne_t_sl ne_en_ti ne_en_sl ne_ti_sl y 0 v hy (by decide)) (fun v1 h2 qv1 => ?_)
    obtain ⟨rfl, K1, A1, A2, A3⟩ := qv1
    replace Kp := Kp.trans K1 (allS (Or.inl (by simp)) (allS (Or.inl (by simp)) (allS (Or.inl (by simp)) all0)))
    replace A_t := A_t.keep K1 (ninS ne_t_en (ninS ne_t_ti (ninS ne_t_sl nin0)))
    replace A_en := A1
    replace A_ti := A2
    replace A_sl := A3
    show W K l _ n0 _ h2 0 0 10 #[.val (.ref t), .val (.int (Int32.ofNat y)), .val (.long v), .second] []
    refine w_aloadN ok d9_10 rfl rfl ?_
    refine w_dup ok d9_11 rfl ?_
    refine w_getfield ok (v := (.int (0 : Int32))) (host := "") (f := ("com/example/rowan/rowan/store/IdleHeap", "size", "I", .int)) 3 d9_12 (Or.inl (hw _ (List.mem_of_getElem? (i := 48) rfl))) Via.refl A_t rfl rfl ?_
    refine w_iconst ok d9_15 (v := (1 : Int32)) rfl ?_
    refine w_iadd ok d9_16 ?_
    show W K l _ n0 _ h2 0 0 17 #[.val (.ref t), .val (.int (Int32.ofNat y)), .val (.long v), .second] [(.int (1 : Int32)), (.ref t)]
    refine w_putfield ok (host := "") (f := ("com/example/rowan/rowan/store/IdleHeap", "size", "I", .int)) 3 d9_17 (Or.inl (hw _ (List.mem_of_getElem? (i := 48) rfl))) Via.refl A_t (la_IdleHeap hw) rfl rfl (Or.inl (hw _ (List.mem_of_getElem? (i := 49) rfl))) (hw _ (List.mem_of_getElem? (i := 1) rfl)) rfl rfl ge_t (fun h3 W_h3 A1_h3 => ?_)
    replace Kp := Kp.wr W_h3 (Or.inl (by simp))
    replace A_en := A_en.other W_h3 (Ne.symm ne_t_en)
    replace A_ti := A_ti.other W_h3 (Ne.symm ne_t_ti)
    replace A_sl := A_sl.other W_h3 (Ne.symm ne_t_sl)
    replace A_t : Ob Z h3 t "com/example/rowan/rowan/store/IdleHeap" fl_IdleHeap [(.ref en), (.ref ti), (.ref sl), (.int (1 : Int32))] := A1_h3
    refine w_aloadN ok d9_20 rfl rfl ?_
    refine w_aloadN ok d9_21 rfl rfl ?_
    refine w_getfield ok (v := (.int (1 : Int32))) (host := "") (f := ("com/example/rowan/rowan/store/IdleHeap", "size", "I", .int)) 3 d9_22 (Or.inl (hw _ (List.mem_of_getElem? (i := 48) rfl))) Via.refl A_t rfl rfl ?_
    refine w_iconst ok d9_25 (v := (1 : Int32)) rfl ?_
    refine w_isub ok d9_26 ?_
    show W K l _ n0 _ h3 0 0 27 #[.val (.ref t), .val (.int (Int32.ofNat y)), .val (.long v), .second] [(.int (0 : Int32)), (.ref t)]
    refine w_callP ok (y := (⟨"com/example/rowan/rowan/store/IdleHeap", "siftUp", "(I)V"⟩ : MethodName)) (a := t) (argsL := [(.int (0 : Int32))]) (rest := []) d9_27 (hw _ (List.mem_of_getElem? (i := 54) rfl)) (hw _ (List.mem_of_getElem? (i := 55) rfl)) (hw _ (List.mem_of_getElem? (i := 56) rfl)) (hw _ (List.mem_of_getElem? (i := 1) rfl)) (hw _ (List.mem_of_getElem? (i := 2) rfl)) (hw _ (List.mem_of_getElem? (i := 57) rfl)) (by decide) A_t.1 pd_28I29V rfl rfl (by decide) (Nat.le_of_ble_eq_true rfl) (by decide) (by decide) (fun z0 => rm_up l Z a0 hw [] n0 h3 z0 t en ti sl 1 (upd e 0 (Int32.ofNat y)) (upd g y (Int32.ofNat 0)) (updL τ 0 v) A_t A_en A_ti A_sl ge_t ge_en ge_ti ge_sl ne_t_en ne_t_ti ne_t_sl ne_en_ti ne_en_sl ne_ti_sl 0 (put M y (some v)) (P.push (by decide) hy hM v) (by decide) (own_hoA H)) (fun v4 h5 qv4 => ?_)
    obtain ⟨rfl, e1, g1, τ1, K1, A1, A2, A3, P1, H1⟩ := qv4
    replace Kp := Kp.trans K1 (allS (Or.inl (by simp)) (allS (Or.inl (by simp)) (allS (Or.inl (by simp)) all0)))
    replace A_t := A_t.keep K1 (ninS ne_t_en (ninS ne_t_ti (ninS ne_t_sl nin0)))
    replace A_en := A1
    replace A_ti := A2
    replace A_sl := A3
    show W K l _ n0 _ h5 0 0 30 #[.val (.ref t), .val (.int (Int32.ofNat y)), .val (.long v), .second] []
    refine w_ret ok d9_30 (by decide) (by decide) ?_
    exact ⟨rfl, _, _, _, Kp, A_t, A_en, A_ti, A_sl, P1, H1⟩
  · have Kp : Keep h0 h0 [t, en, ti, sl] := Keep.refl _ _
    show W K l _ n0 _ h0 0 0 0 #[.val (.ref t), .val (.int (Int32.ofNat y)), .val (.long v), .second] []
    refine w_aloadN ok d9_0 rfl rfl ?_
    refine w_iloadN ok d9_1 rfl ?_
    refine w_lloadN ok d9_2 rfl ?_
    refine w_aloadN ok d9_3 rfl rfl ?_
    refine w_getfield ok (v := (.int (1 : Int32))) (host := "") (f := ("com/example/rowan/rowan/store/IdleHeap", "size", "I", .int)) 3 d9_4 (Or.inl (hw _ (List.mem_of_getElem? (i := 48) rfl))) Via.refl A_t rfl rfl ?_
    refine w_callP ok (y := (⟨"com/example/rowan/rowan/store/IdleHeap", "place", "(IJI)V"⟩ : MethodName)) (a := t) (argsL := [(.int (Int32.ofNat y)), (.long v), (.int (1 : Int32))]) (rest := []) d9_7 (hw _ (List.mem_of_getElem? (i := 50) rfl)) (hw _ (List.mem_of_getElem? (i := 51) rfl)) (hw _ (List.mem_of_getElem? (i := 52) rfl)) (hw _ (List.mem_of_getElem? (i := 1) rfl)) (hw _ (List.mem_of_getElem? (i := 2) rfl)) (hw _ (List.mem_of_getElem? (i := 53) rfl)) (by decide) A_t.1 pd_28IJI29V rfl rfl (by decide) (Nat.le_of_ble_eq_true rfl) (by decide) (by decide) (fun z0 => rm_place l Z a0 hw [] n0 h0 z0 t en ti sl (1 : Int32) e g τ A_t A_en A_ti A_sl ge_t ge_en ge_ti ge_sl ne_t_en ne_t_ti ne_t_sl ne_en_ti ne_en_sl ne_ti_sl y 1 v hy (by decide)) (fun v1 h2 qv1 => ?_)
    obtain ⟨rfl, K1, A1, A2, A3⟩ := qv1
    replace Kp := Kp.trans K1 (allS (Or.inl (by simp)) (allS (Or.inl (by simp)) (allS (Or.inl (by simp)) all0)))
    replace A_t := A_t.keep K1 (ninS ne_t_en (ninS ne_t_ti (ninS ne_t_sl nin0)))
    replace A_en := A1
    replace A_ti := A2
    replace A_sl := A3
    show W K l _ n0 _ h2 0 0 10 #[.val (.ref t), .val (.int (Int32.ofNat y)), .val (.long v), .second] []
    refine w_aloadN ok d9_10 rfl rfl ?_
    refine w_dup ok d9_11 rfl ?_
    refine w_getfield ok (v := (.int (1 : Int32))) (host := "") (f := ("com/example/rowan/rowan/store/IdleHeap", "size", "I", .int)) 3 d9_12 (Or.inl (hw _ (List.mem_of_getElem? (i := 48) rfl))) Via.refl A_t rfl rfl ?_
    refine w_iconst ok d9_15 (v := (1 : Int32)) rfl ?_
    refine w_iadd ok d9_16 ?_
    show W K l _ n0 _ h2 0 0 17 #[.val (.ref t), .val (.int (Int32.ofNat y)), .val (.long v), .second] [(.int (2 : Int32)), (.ref t)]
    refine w_putfield ok (host := "") (f := ("com/example/rowan/rowan/store/IdleHeap", "size", "I", .int)) 3 d9_17 (Or.inl (hw _ (List.mem_of_getElem? (i := 48) rfl))) Via.refl A_t (la_IdleHeap hw) rfl rfl (Or.inl (hw _ (List.mem_of_getElem? (i := 49) rfl))) (hw _ (List.mem_of_getElem? (i := 1) rfl)) rfl rfl ge_t (fun h3 W_h3 A1_h3 => ?_)
    replace Kp := Kp.wr W_h3 (Or.inl (by simp))
    replace A_en := A_en.other W_h3 (Ne.symm ne_t_en)
    replace A_ti := A_ti.other W_h3 (Ne.symm ne_t_ti)
    replace A_sl := A_sl.other W_h3 (Ne.symm ne_t_sl)
    replace A_t : Ob Z h3 t "com/example/rowan/rowan/store/IdleHeap" fl_IdleHeap [(.ref en), (.ref ti), (.ref sl), (.int (2 : Int32))] := A1_h3
    refine w_aloadN ok d9_20 rfl rfl ?_
    refine w_aloadN ok d9_21 rfl rfl ?_
    refine w_getfield ok (v := (.int (2 : Int32))) (host := "") (f := ("com/example/rowan/rowan/store/IdleHeap", "size", "I", .int)) 3 d9_22 (Or.inl (hw _ (List.mem_of_getElem? (i := 48) rfl))) Via.refl A_t rfl rfl ?_
    refine w_iconst ok d9_25 (v := (1 : Int32)) rfl ?_
    refine w_isub ok d9_26 ?_
    show W K l _ n0 _ h3 0 0 27 #[.val (.ref t), .val (.int (Int32.ofNat y)), .val (.long v), .second] [(.int (1 : Int32)), (.ref t)]
    refine w_callP ok (y := (⟨"com/example/rowan/rowan/store/IdleHeap", "siftUp", "(I)V"⟩ : MethodName)) (a := t) (argsL := [(.int (1 : Int32))]) (rest := []) d9_27 (hw _ (List.mem_of_getElem? (i := 54) rfl)) (hw _ (List.mem_of_getElem? (i := 55) rfl)) (hw _ (List.mem_of_getElem? (i := 56) rfl)) (hw _ (List.mem_of_getElem? (i := 1) rfl)) (hw _ (List.mem_of_getElem? (i := 2) rfl)) (hw _ (List.mem_of_getElem? (i := 57) rfl)) (by decide) A_t.1 pd_28I29V rfl rfl (by decide) (Nat.le_of_ble_eq_true rfl) (by decide) (by decide) (fun z0 => rm_up l Z a0 hw [] n0 h3 z0 t en ti sl 2 (upd e 1 (Int32.ofNat y)) (upd g y (Int32.ofNat 1)) (updL τ 1 v) A_t A_en A_ti A_sl ge_t ge_en ge_ti ge_sl ne_t_en ne_t_ti ne_t_sl ne_en_ti ne_en_sl ne_ti_sl 1 (put M y (some v)) (P.push (by decide) hy hM v) (by decide) (own_hoA H)) (fun v4 h5 qv4 => ?_)
    obtain ⟨rfl, e1, g1, τ1, K1, A1, A2, A3, P1, H1⟩ := qv4
    replace Kp := Kp.trans K1 (allS (Or.inl (by simp)) (allS (Or.inl (by simp)) (allS (Or.inl (by simp)) all0)))
    replace A_t := A_t.keep K1 (ninS ne_t_en (ninS ne_t_ti (ninS ne_t_sl nin0)))
    replace A_en := A1
    replace A_ti := A2
    replace A_sl := A3
    show W K l _ n0 _ h5 0 0 30 #[.val (.ref t), .val (.int (Int32.ofNat y)), .val (.long v), .second] []
    refine w_ret ok d9_30 (by decide) (by decide) ?_
    exact ⟨rfl, _, _, _, Kp, A_t, A_en, A_ti, A_sl, P1, H1⟩
  · have Kp : Keep h0 h0 [t, en, ti, sl] := Keep.refl _ _
    show W K l _ n0 _ h0 0 0 0 #[.val (.ref t), .val (.int (Int32.ofNat y)), .val (.long v), .second] []
    refine w_aloadN ok d9_0 rfl rfl ?_
    refine w_iloadN ok d9_1 rfl ?_
    refine w_lloadN ok d9_2 rfl ?_
    refine w_aloadN ok d9_3 rfl rfl ?_
    refine w_getfield ok (v := (.int (2 : Int32))) (host := "") (f := ("com/example/rowan/rowan/store/IdleHeap", "size", "I", .int)) 3 d9_4 (Or.inl (hw _ (List.mem_of_getElem? (i := 48) rfl))) Via.refl A_t rfl rfl ?_
    refine w_callP ok (y := (⟨"com/example/rowan/rowan/store/IdleHeap", "place", "(IJI)V"⟩ : MethodName)) (a := t) (argsL := [(.int (Int32.ofNat y)), (.long v), (.int (2 : Int32))]) (rest := []) d9_7 (hw _ (List.mem_of_getElem? (i := 50) rfl)) (hw _ (List.mem_of_getElem? (i := 51) rfl)) (hw _ (List.mem_of_getElem? (i := 52) rfl)) (hw _ (List.mem_of_getElem? (i := 1) rfl)) (hw _ (List.mem_of_getElem? (i := 2) rfl)) (hw _ (List.mem_of_getElem? (i := 53) rfl)) (by decide) A_t.1 pd_28IJI29V rfl rfl (by decide) (Nat.le_of_ble_eq_true rfl) (by decide) (by decide) (fun z0 => rm_place l Z a0 hw [] n0 h0 z0 t en ti sl (2 : Int32) e g τ A_t A_en A_ti A_sl ge_t ge_en ge_ti ge_sl ne_t_en ne_t_ti ne_t_sl ne_en_ti ne_en_sl ne_ti_sl y 2 v hy (by decide)) (fun v1 h2 qv1 => ?_)
    obtain ⟨rfl, K1, A1, A2, A3⟩ := qv1
    replace Kp := Kp.trans K1 (allS (Or.inl (by simp)) (allS (Or.inl (by simp)) (allS (Or.inl (by simp)) all0)))
    replace A_t := A_t.keep K1 (ninS ne_t_en (ninS ne_t_ti (ninS ne_t_sl nin0)))
    replace A_en := A1
    replace A_ti := A2
    replace A_sl := A3
    show W K l _ n0 _ h2 0 0 10 #[.val (.ref t), .val (.int (Int32.ofNat y)), .val (.long v), .second] []
    refine w_aloadN ok d9_10 rfl rfl ?_
    refine w_dup ok d9_11 rfl ?_
    refine w_getfield ok (v := (.int (2 : Int32))) (host := "") (f := ("com/example/rowan/rowan/store/IdleHeap", "size", "I", .int)) 3 d9_12 (Or.inl (hw _ (List.mem_of_getElem? (i := 48) rfl))) Via.refl A_t rfl rfl ?_
    refine w_iconst ok d9_15 (v := (1 : Int32)) rfl ?_
    refine w_iadd ok d9_16 ?_
    show W K l _ n0 _ h2 0 0 17 #[.val (.ref t), .val (.int (Int32.ofNat y)), .val (.long v), .second] [(.int (3 : Int32)), (.ref t)]
    refine w_putfield ok (host := "") (f := ("com/example/rowan/rowan/store/IdleHeap", "size", "I", .int)) 3 d9_17 (Or.inl (hw _ (List.mem_of_getElem? (i := 48) rfl))) Via.refl A_t (la_IdleHeap hw) rfl rfl (Or.inl (hw _ (List.mem_of_getElem? (i := 49) rfl))) (hw _ (List.mem_of_getElem? (i := 1) rfl)) rfl rfl ge_t (fun h3 W_h3 A1_h3 => ?_)
    replace Kp := Kp.wr W_h3 (Or.inl (by simp))
    replace A_en := A_en.other W_h3 (Ne.symm ne_t_en)
    replace A_ti := A_ti.other W_h3 (Ne.symm ne_t_ti)
    replace A_sl := A_sl.other W_h3 (Ne.symm ne_t_sl)
    replace A_t : Ob Z h3 t "com/example/rowan/rowan/store/IdleHeap" fl_IdleHeap [(.ref en), (.ref ti), (.ref sl), (.int (3 : Int32))] := A1_h3
    refine w_aloadN ok d9_20 rfl rfl ?_
    refine w_aloadN ok d9_21 rfl rfl ?_
    refine w_getfield ok (v := (.int (3 : Int32))) (host := "") (f := ("com/example/rowan/rowan/store/IdleHeap", "size", "I", .int)) 3 d9_22 (Or.inl (hw _ (List.mem_of_getElem? (i := 48) rfl))) Via.refl A_t rfl rfl ?_
    refine w_iconst ok d9_25 (v := (1 : Int32)) rfl ?_
    refine w_isub ok d9_26 ?_
    show W K l _ n0 _ h3 0 0 27 #[.val (.ref t), .val (.int (Int32.ofNat y)), .val (.long v), .second] [(.int (2 : Int32)), (.ref t)]
    refine w_callP ok (y := (⟨"com/example/rowan/rowan/store/IdleHeap", "siftUp", "(I)V"⟩ : MethodName)) (a := t) (argsL := [(.int (2 : Int32))]) (rest := []) d9_27 (hw _ (List.mem_of_getElem? (i := 54) rfl)) (hw _ (List.mem_of_getElem? (i := 55) rfl)) (hw _ (List.mem_of_getElem? (i := 56) rfl)) (hw _ (List.mem_of_getElem? (i := 1) rfl)) (hw _ (List.mem_of_getElem? (i := 2) rfl)) (hw _ (List.mem_of_getElem? (i := 57) rfl)) (by decide) A_t.1 pd_28I29V rfl rfl (by decide) (Nat.le_of_ble_eq_true rfl) (by decide) (by decide) (fun z0 => rm_up l Z a0 hw [] n0 h3 z0 t en ti sl 3 (upd e 2 (Int32.ofNat y)) (upd g y (Int32.ofNat 2)) (updL τ 2 v) A_t A_en A_ti A_sl ge_t ge_en ge_ti ge_sl ne_t_en ne_t_ti ne_t_sl ne_en_ti ne_en_sl ne_ti_sl 2 (put M y (some v)) (P.push (by decide) hy hM v) (by decide) (own_hoA H)) (fun v4 h5 qv4 => ?_)
    obtain ⟨rfl, e1, g1, τ1, K1, A1, A2, A3, P1, H1⟩ := qv4
    replace Kp := Kp.trans K1 (allS (Or.inl (by simp)) (allS (Or.inl (by simp)) (allS (Or.inl (by simp)) all0)))
    replace A_t := A_t.keep K1 (ninS ne_t_en (ninS ne_t_ti (ninS ne_t_sl nin0)))
    replace A_en := A1
    replace A_ti := A2
    replace A_sl := A3
    show W K l _ n0 _ h5 0 0 30 #[.val (.ref t), .val (.int (Int32.ofNat y)), .val (.long v), .second] []
    refine w_ret ok d9_30 (by decide) (by decide) ?_
    exact ⟨rfl, _, _, _, Kp, A_t, A_en, A_ti, A_sl, P1, H1⟩
theorem d13_0 : decode prog_26_method_6_code 0 = .ok (.aload_n 0, 1) := by decide +kernel
theorem d13_1 : decode prog_26_method_6_code 1 = .ok (.getfield 17, 3) := by decide +kernel
theorem d13_4 : decode prog_26_method_6_code 4 = .ok (.iload_n 1, 1) := by decide +kernel
theorem d13_5 : decode prog_26_method_6_code 5 = .ok (.iaload, 1) := by decide +kernel
theorem d13_6 : decode prog_26_method_6_code 6 = .ok (.istore 4, 2) := by decide +kernel
theorem d13_8 : decode prog_26_method_6_code 8 = .ok (.aload_n 0, 1) := by decide +kernel
theorem d13_9 : decode prog_26_method_6_code 9 = .ok (.getfield 13, 3) := by decide +kernel
theorem d13_12 : decode prog_26_method_6_code 12 = .ok (.iload 4, 2) := by decide +kernel
theorem d13_14 : decode prog_26_method_6_code 14 = .ok (.lload_n 2, 1) := by decide +kernel
theorem d13_15 : decode prog_26_method_6_code 15 = .ok (.lastore, 1) := by decide +kernel
theorem d13_16 : decode prog_26_method_6_code 16 = .ok (.aload_n 0, 1) := by decide +kernel
theorem d13_17 : decode prog_26_method_6_code 17 = .ok (.iload 4, 2) := by decide +kernel
theorem d13_19 : decode prog_26_method_6_code 19 = .ok (.invokevirtual 45, 3) := by decide +kernel
theorem d13_22 : decode prog_26_method_6_code 22 = .ok (.return_, 1) := by decide +kernel
set_option maxRecDepth 65536 in
set_option maxHeartbeats 40000000 in
theorem rm_delay (l : Launch) (Z : State) (a0 : Array Value) (hw : ∀ d ∈ tables_1, d.before a0 Z = true) (ws : List Jvm.Cond) (n0 : Nat) (h0 : Heap) (Z0 : Old Z n0 h0) (t en ti sl : Addr) (sz : Nat) (e g : Nat → Int32) (τ : Nat → Int64) (A_t : Ob Z h0 t "com/example/rowan/rowan/store/IdleHeap" fl_IdleHeap [.ref en, .ref ti, .ref sl, .int (Int32.ofNat sz)]) (A_en : PA .int Z h0 en (sv 4 e)) (A_ti : PA .long Z h0 ti (lv 4 τ)) (A_sl : PA .int Z h0 sl (sv 4 g)) (ge_t : n0 ≤ t) (ge_en : n0 ≤ en) (ge_ti : n0 ≤ ti) (ge_sl : n0 ≤ sl) (ne_t_en : t ≠ en) (ne_t_ti : t ≠ ti) (ne_t_sl : t ≠ sl) (ne_en_ti : en ≠ ti) (ne_en_sl : en ≠ sl) (ne_ti_sl : ti ≠ sl) (M : Nat → Option Int64) (P : PP sz e τ g M) (H : HO sz τ) (y : Nat) (v w : Int64) (hy : y < 4) (hM : M y = some w) (hv : w.toInt ≤ v.toInt) :
    Met l Z n0 (⟨"com/example/rowan/rowan/store/IdleHeap", "delay", "(IJ)V"⟩ : MethodName) prog_26_method_6_code 5 none ws ({ frames := 2, cells := 0, slots := 0, locals := 34 } : Room) #[(.ref t), (.int (Int32.ofNat y)), (.long v)] h0 (fun u h => u = none ∧ ∃ e' g' τ', Keep h0 h [t, en, ti, sl] ∧ Ob Z h t "com/example/rowan/rowan/store/IdleHeap" fl_IdleHeap [.ref en, .ref ti, .ref sl, .int (Int32.ofNat sz)] ∧ PA .int Z h en (sv 4 e') ∧ PA .long Z h ti (lv 4 τ') ∧ PA .int Z h sl (sv 4 g') ∧ PP sz e' τ' g' (put M y (some v)) ∧ HO sz τ') := by
  refine met_of Z0 (plainFor_of_name pn_com_example_rowan_rowan_store_IdleHeap) (Ls := #[.val (.ref t), .val (.int (Int32.ofNat y)), .val (.long v), .second, .unset]) (fun m => by first | (simp [entryFrame, mkF, argsToLocals, Value.category]; done) | rfl) ?_
  intro K ok
  skip
  · have Kp : Keep h0 h0 [t, en, ti, sl] := Keep.refl _ _
    obtain ⟨i, hi, ei, ti0, gi⟩ := P.has hy hM
    have hi4 : i < 4 := by have := P.1; omega
    show W K l _ n0 _ h0 0 0 0 #[.val (.ref t), .val (.int (Int32.ofNat y)), .val (.long v), .second, .unset] []
    refine w_aloadN ok d13_0 rfl rfl ?_
    refine w_getfield ok (v := (.ref sl)) (host := "") (f := ("com/example/rowan/rowan/store/IdleHeap", "slots", "[I", (.array .int))) 2 d13_1 (Or.inl (hw _ (List.mem_of_getElem? (i := 15) rfl))) Via.refl A_t rfl rfl ?_
    refine w_iloadN ok d13_4 rfl ?_
    refine w_iaload ok (v := (.int (Int32.ofNat i))) d13_5 A_sl (own_ix0 hy) (gi ▸ own_svg hy) ?_
    refine w_istore ok d13_6 (L' := #[.val (.ref t), .val (.int (Int32.ofNat y)), .val (.long v), .second, .val (.int (Int32.ofNat i))]) rfl ?_
    refine w_aloadN ok d13_8 rfl rfl ?_
    refine w_getfield ok (v := (.ref ti)) (host := "") (f := ("com/example/rowan/rowan/store/IdleHeap", "times", "[J", (.array .long))) 1 d13_9 (Or.inl (hw _ (List.mem_of_getElem? (i := 13) rfl))) Via.refl A_t rfl rfl ?_
    refine w_iload ok d13_12 rfl ?_
    refine w_lloadN ok d13_14 rfl ?_
    refine w_lastore ok d13_15 A_ti ge_ti (own_ix0 hi4) (own_lvl hi4) (fun h1 W_h1 A1_h1 => ?_)
    replace Kp := Kp.wr W_h1 (Or.inl (by simp))
    replace A_t := A_t.other W_h1 ne_t_ti
    replace A_en := A_en.other W_h1 ne_en_ti
    replace A_sl := A_sl.other W_h1 (Ne.symm ne_ti_sl)
    replace A_ti : PA .long Z h1 ti ((lv 4 τ).set (Int32.ofNat i).toNatClampNeg (.long v)) := A1_h1
    rw [own_ix hi4, lv_set] at A_ti
    refine w_aloadN ok d13_16 rfl rfl ?_
    refine w_iload ok d13_17 rfl ?_
    refine w_callP ok (y := (⟨"com/example/rowan/rowan/store/IdleHeap", "siftDown", "(I)V"⟩ : MethodName)) (a := t) (argsL := [(.int (Int32.ofNat i))]) (rest := []) d13_19 (hw _ (List.mem_of_getElem? (i := 66) rfl)) (hw _ (List.mem_of_getElem? (i := 67) rfl)) (hw _ (List.mem_of_getElem? (i := 68) rfl)) (hw _ (List.mem_of_getElem? (i := 1) rfl)) (hw _ (List.mem_of_getElem? (i := 2) rfl)) (hw _ (List.mem_of_getElem? (i := 69) rfl)) (by decide) A_t.1 pd_28I29V rfl rfl (by decide) (Nat.le_of_ble_eq_true rfl) (by decide) (by decide) (fun z0 => rm_down l Z a0 hw [] n0 h1 z0 t en ti sl sz e g (updL τ i v) A_t A_en A_ti A_sl ge_t ge_en ge_ti ge_sl ne_t_en ne_t_ti ne_t_sl ne_en_ti ne_en_sl ne_ti_sl i (put M y (some v)) (P.time hi hy ei v) hi (own_hoD H ti0 hv hi)) (fun v2 h3 qv2 => ?_)
    obtain ⟨rfl, e1, g1, τ1, K1, A1, A2, A3, P1, H1⟩ := qv2
    replace Kp := Kp.trans K1 (allS (Or.inl (by simp)) (allS (Or.inl (by simp)) (allS (Or.inl (by simp)) all0)))
    replace A_t := A_t.keep K1 (ninS ne_t_en (ninS ne_t_ti (ninS ne_t_sl nin0)))
    replace A_en := A1
    replace A_ti := A2
    replace A_sl := A3
    show W K l _ n0 _ h3 0 0 22 #[.val (.ref t), .val (.int (Int32.ofNat y)), .val (.long v), .second, .val (.int (Int32.ofNat i))] []
    refine w_ret ok d13_22 (by decide) (by decide) ?_
    exact ⟨rfl, _, _, _, Kp, A_t, A_en, A_ti, A_sl, P1, H1⟩
theorem own_his {i s : Nat} (hi : i < s + 1) (h : ¬ Int32.ofNat i = Int32.ofNat s) : i < s := by
  rcases Nat.lt_or_ge i s with q | q
  · exact q
  · exact absurd (by rw [show i = s by omega]) h
theorem own_zy {s : Nat} {e g : Nat → Int32} {τ : Nat → Int64} {M : Nat → Option Int64} (P : PP (s + 1) e τ g M) {i y z : Nat} (hi : i < s + 1) (ei : e i = Int32.ofNat y) (hy : y < 4) (hz : z < 4) (ez : e s = Int32.ofNat z) (h : ¬ Int32.ofNat i = Int32.ofNat s) : z ≠ y := fun q => by
  have := P.dist hi (Nat.lt_succ_self s) hy ei (q ▸ ez)
  exact h (by rw [this])
theorem d16_0 : decode prog_26_method_7_code 0 = .ok (.aload_n 0, 1) := by decide +kernel
theorem d16_1 : decode prog_26_method_7_code 1 = .ok (.getfield 17, 3) := by decide +kernel
theorem d16_4 : decode prog_26_method_7_code 4 = .ok (.iload_n 1, 1) := by decide +kernel
theorem d16_5 : decode prog_26_method_7_code 5 = .ok (.iaload, 1) := by decide +kernel
theorem d16_6 : decode prog_26_method_7_code 6 = .ok (.istore_n 2, 1) := by decide +kernel
theorem d16_7 : decode prog_26_method_7_code 7 = .ok (.iload_n 2, 1) := by decide +kernel
theorem d16_8 : decode prog_26_method_7_code 8 = .ok (.iconst (-1), 1) := by decide +kernel
theorem d16_9 : decode prog_26_method_7_code 9 = .ok (.if_icmp .ne 4, 3) := by decide +kernel
theorem d16_12 : decode prog_26_method_7_code 12 = .ok (.return_, 1) := by decide +kernel
theorem d16_13 : decode prog_26_method_7_code 13 = .ok (.aload_n 0, 1) := by decide +kernel
theorem d16_14 : decode prog_26_method_7_code 14 = .ok (.dup, 1) := by decide +kernel
theorem d16_15 : decode prog_26_method_7_code 15 = .ok (.getfield 33, 3) := by decide +kernel
theorem d16_18 : decode prog_26_method_7_code 18 = .ok (.iconst 1, 1) := by decide +kernel
theorem d16_19 : decode prog_26_method_7_code 19 = .ok (.isub, 1) := by decide +kernel
theorem d16_20 : decode prog_26_method_7_code 20 = .ok (.putfield 33, 3) := by decide +kernel
theorem d16_23 : decode prog_26_method_7_code 23 = .ok (.aload_n 0, 1) := by decide +kernel
theorem d16_24 : decode prog_26_method_7_code 24 = .ok (.getfield 17, 3) := by decide +kernel
theorem d16_27 : decode prog_26_method_7_code 27 = .ok (.iload_n 1, 1) := by decide +kernel
theorem d16_28 : decode prog_26_method_7_code 28 = .ok (.iconst (-1), 1) := by decide +kernel
theorem d16_29 : decode prog_26_method_7_code 29 = .ok (.iastore, 1) := by decide +kernel
theorem d16_30 : decode prog_26_method_7_code 30 = .ok (.iload_n 2, 1) := by decide +kernel
theorem d16_31 : decode prog_26_method_7_code 31 = .ok (.aload_n 0, 1) := by decide +kernel
theorem d16_32 : decode prog_26_method_7_code 32 = .ok (.getfield 33, 3) := by decide +kernel
theorem d16_35 : decode prog_26_method_7_code 35 = .ok (.if_icmp .eq 43, 3) := by decide +kernel
theorem d16_38 : decode prog_26_method_7_code 38 = .ok (.aload_n 0, 1) := by decide +kernel
theorem d16_39 : decode prog_26_method_7_code 39 = .ok (.getfield 7, 3) := by decide +kernel
theorem d16_42 : decode prog_26_method_7_code 42 = .ok (.aload_n 0, 1) := by decide +kernel
theorem d16_43 : decode prog_26_method_7_code 43 = .ok (.getfield 33, 3) := by decide +kernel
theorem d16_46 : decode prog_26_method_7_code 46 = .ok (.iaload, 1) := by decide +kernel
theorem d16_47 : decode prog_26_method_7_code 47 = .ok (.istore_n 3, 1) := by decide +kernel
theorem d16_48 : decode prog_26_method_7_code 48 = .ok (.aload_n 0, 1) := by decide +kernel
theorem d16_49 : decode prog_26_method_7_code 49 = .ok (.iload_n 3, 1) := by decide +kernel
theorem d16_50 : decode prog_26_method_7_code 50 = .ok (.aload_n 0, 1) := by decide +kernel
theorem d16_51 : decode prog_26_method_7_code 51 = .ok (.getfield 13, 3) := by decide +kernel
theorem d16_54 : decode prog_26_method_7_code 54 = .ok (.aload_n 0, 1) := by decide +kernel
theorem d16_55 : decode prog_26_method_7_code 55 = .ok (.getfield 33, 3) := by decide +kernel
theorem d16_58 : decode prog_26_method_7_code 58 = .ok (.laload, 1) := by decide +kernel
theorem d16_59 : decode prog_26_method_7_code 59 = .ok (.iload_n 2, 1) := by decide +kernel
theorem d16_60 : decode prog_26_method_7_code 60 = .ok (.invokevirtual 37, 3) := by decide +kernel
theorem d16_63 : decode prog_26_method_7_code 63 = .ok (.aload_n 0, 1) := by decide +kernel
theorem d16_64 : decode prog_26_method_7_code 64 = .ok (.iload_n 2, 1) := by decide +kernel
theorem d16_65 : decode prog_26_method_7_code 65 = .ok (.invokevirtual 45, 3) := by decide +kernel
theorem d16_68 : decode prog_26_method_7_code 68 = .ok (.aload_n 0, 1) := by decide +kernel
theorem d16_69 : decode prog_26_method_7_code 69 = .ok (.aload_n 0, 1) := by decide +kernel
theorem d16_70 : decode prog_26_method_7_code 70 = .ok (.getfield 17, 3) := by decide +kernel
theorem d16_73 : decode prog_26_method_7_code 73 = .ok (.iload_n 3, 1) := by decide +kernel
theorem d16_74 : decode prog_26_method_7_code 74 = .ok (.iaload, 1) := by decide +kernel
theorem d16_75 : decode prog_26_method_7_code 75 = .ok (.invokevirtual 41, 3) := by decide +kernel
theorem d16_78 : decode prog_26_method_7_code 78 = .ok (.return_, 1) := by decide +kernel
set_option maxRecDepth 65536 in
set_option maxHeartbeats 40000000 in
theorem rm_remove (l : Launch) (Z : State) (a0 : Array Value) (hw : ∀ d ∈ tables_1, d.before a0 Z = true) (ws : List Jvm.Cond) (n0 : Nat) (h0 : Heap) (Z0 : Old Z n0 h0) (t en ti sl : Addr) (sz : Nat) (e g : Nat → Int32) (τ : Nat → Int64) (A_t : Ob Z h0 t "com/example/rowan/rowan/store/IdleHeap" fl_IdleHeap [.ref en, .ref ti, .ref sl, .int (Int32.ofNat sz)]) (A_en : PA .int Z h0 en (sv 4 e)) (A_ti : PA .long Z h0 ti (lv 4 τ)) (A_sl : PA .int Z h0 sl (sv 4 g)) (ge_t : n0 ≤ t) (ge_en : n0 ≤ en) (ge_ti : n0 ≤ ti) (ge_sl : n0 ≤ sl) (ne_t_en : t ≠ en) (ne_t_ti : t ≠ ti) (ne_t_sl : t ≠ sl) (ne_en_ti : en ≠ ti) (ne_en_sl : en ≠ sl) (ne_ti_sl : ti ≠ sl) (M : Nat → Option Int64) (P : PP sz e τ g M) (H : HO sz τ) (y : Nat) (hy : y < 4) :
    Met l Z n0 (⟨"com/example/rowan/rowan/store/IdleHeap", "remove", "(I)V"⟩ : MethodName) prog_26_method_7_code 4 none ws ({ frames := 2, cells := 0, slots := 0, locals := 34 } : Room) #[(.ref t), (.int (Int32.ofNat y))] h0 (fun u h => u = none ∧ ∃ sz', ∃ e' g' τ', Keep h0 h [t, en, ti, sl] ∧ Ob Z h t "com/example/rowan/rowan/store/IdleHeap" fl_IdleHeap [.ref en, .ref ti, .ref sl, .int (Int32.ofNat sz')] ∧ PA .int Z h en (sv 4 e') ∧ PA .long Z h ti (lv 4 τ') ∧ PA .int Z h sl (sv 4 g') ∧ PP sz' e' τ' g' (put M y none) ∧ HO sz' τ') := by
  refine met_of Z0 (plainFor_of_name pn_com_example_rowan_rowan_store_IdleHeap) (Ls := #[.val (.ref t), .val (.int (Int32.ofNat y)), .unset, .unset]) (fun m => by first | (simp [entryFrame, mkF, argsToLocals, Value.category]; done) | rfl) ?_
  intro K ok
  obtain ⟨m0, g0⟩ | ⟨i, hi, ei⟩ := P.2.2 y hy
  rotate_left
  obtain rfl | rfl | rfl : sz = 1 ∨ sz = 2 ∨ sz = 3 := by have := P.1; omega
  · have Kp : Keep h0 h0 [t, en, ti, sl] := Keep.refl _ _
    have hi4 : i < 4 := by omega
    obtain ⟨m0, gi⟩ := P.at hi hy ei
    obtain ⟨z, hz, ez, -, -⟩ := P.2.1 0 (by decide)
    show W K l _ n0 _ h0 0 0 0 #[.val (.ref t), .val (.int (Int32.ofNat y)), .unset, .unset] []
    refine w_aloadN ok d16_0 rfl rfl ?_
    refine w_getfield ok (v := (.ref sl)) (host := "") (f := ("com/example/rowan/rowan/store/IdleHeap", "slots", "[I", (.array .int))) 2 d16_1 (Or.inl (hw _ (List.mem_of_getElem? (i := 15) rfl))) Via.refl A_t rfl rfl ?_
    refine w_iloadN ok d16_4 rfl ?_
    refine w_iaload ok (v := (.int (Int32.ofNat i))) d16_5 A_sl (own_ix0 hy) (gi ▸ own_svg hy) ?_
    refine w_istoreN ok d16_6 (L' := #[.val (.ref t), .val (.int (Int32.ofNat y)), .val (.int (Int32.ofNat i)), .unset]) rfl ?_
    refine w_iloadN ok d16_7 rfl ?_
    refine w_iconst ok d16_8 (v := (-1 : Int32)) rfl ?_
    refine w_icmp_ne ok d16_9 (pc' := 13) (by decide) (fun hc1 => ?_) (fun hc1 => False.elim (by exact own_ne1 hi4 hc1))
    show W K l _ n0 _ h0 0 0 13 #[.val (.ref t), .val (.int (Int32.ofNat y)), .val (.int (Int32.ofNat i)), .unset] []
    refine w_aloadN ok d16_13 rfl rfl ?_
    refine w_dup ok d16_14 rfl ?_
    refine w_getfield ok (v := (.int (1 : Int32))) (host := "") (f := ("com/example/rowan/rowan/store/IdleHeap", "size", "I", .int)) 3 d16_15 (Or.inl (hw _ (List.mem_of_getElem? (i := 48) rfl))) Via.refl A_t rfl rfl ?_
    refine w_iconst ok d16_18 (v := (1 : Int32)) rfl ?_
    refine w_isub ok d16_19 ?_
    show W K l _ n0 _ h0 0 0 20 #[.val (.ref t), .val (.int (Int32.ofNat y)), .val (.int (Int32.ofNat i)), .unset] [(.int (0 : Int32)), (.ref t)]
    refine w_putfield ok (host := "") (f := ("com/example/rowan/rowan/store/IdleHeap", "size", "I", .int)) 3 d16_20 (Or.inl (hw _ (List.mem_of_getElem? (i := 48) rfl))) Via.refl A_t (la_IdleHeap hw) rfl rfl (Or.inl (hw _ (List.mem_of_getElem? (i := 49) rfl))) (hw _ (List.mem_of_getElem? (i := 1) rfl)) rfl rfl ge_t (fun h2 W_h2 A1_h2 => ?_)
    replace Kp := Kp.wr W_h2 (Or.inl (by simp))
    replace A_en := A_en.other W_h2 (Ne.symm ne_t_en)
    replace A_ti := A_ti.other W_h2 (Ne.symm ne_t_ti)
    replace A_sl := A_sl.other W_h2 (Ne.symm ne_t_sl)
    replace A_t : Ob Z h2 t "com/example/rowan/rowan/store/IdleHeap" fl_IdleHeap [(.ref en), (.ref ti), (.ref sl), (.int (0 : Int32))] := A1_h2
    refine w_aloadN ok d16_23 rfl rfl ?_
    refine w_getfield ok (v := (.ref sl)) (host := "") (f := ("com/example/rowan/rowan/store/IdleHeap", "slots", "[I", (.array .int))) 2 d16_24 (Or.inl (hw _ (List.mem_of_getElem? (i := 15) rfl))) Via.refl A_t rfl rfl ?_
    refine w_iloadN ok d16_27 rfl ?_
    refine w_iconst ok d16_28 (v := (-1 : Int32)) rfl ?_
    refine w_iastore ok d16_29 A_sl ge_sl (own_ix0 hy) (own_svl hy) (fun h3 W_h3 A1_h3 => ?_)
    replace Kp := Kp.wr W_h3 (Or.inl (by simp))
    replace A_t := A_t.other W_h3 ne_t_sl
    replace A_en := A_en.other W_h3 ne_en_sl
    replace A_ti := A_ti.other W_h3 ne_ti_sl
    replace A_sl : PA .int Z h3 sl ((sv 4 g).set (Int32.ofNat y).toNatClampNeg (.int (-1 : Int32))) := A1_h3
    rw [own_ix hy, sv_set] at A_sl
    refine w_iloadN ok d16_30 rfl ?_
    refine w_aloadN ok d16_31 rfl rfl ?_
    refine w_getfield ok (v := (.int (0 : Int32))) (host := "") (f := ("com/example/rowan/rowan/store/IdleHeap", "size", "I", .int)) 3 d16_32 (Or.inl (hw _ (List.mem_of_getElem? (i := 48) rfl))) Via.refl A_t rfl rfl ?_
    refine w_icmp_eq ok d16_35 (pc' := 78) (by decide) (fun hc5 => ?_) (fun hc5 => False.elim (by exact hc5 (by rw [show i = 0 by omega] <;> rfl)))
    show W K l _ n0 _ h3 0 0 78 #[.val (.ref t), .val (.int (Int32.ofNat y)), .val (.int (Int32.ofNat i)), .unset] []
    refine w_ret ok d16_78 (by decide) (by decide) ?_
    exact ⟨rfl, 0, _, _, _, Kp, A_t, A_en, A_ti, A_sl, P.pop hy ((show i = 0 from (by omega)) ▸ ei), own_hoP H⟩
  · have Kp : Keep h0 h0 [t, en, ti, sl] := Keep.refl _ _
    have hi4 : i < 4 := by omega
    obtain ⟨m0, gi⟩ := P.at hi hy ei
    obtain ⟨z, hz, ez, -, -⟩ := P.2.1 1 (by decide)
    show W K l _ n0 _ h0 0 0 0 #[.val (.ref t), .val (.int (Int32.ofNat y)), .unset, .unset] []
    refine w_aloadN ok d16_0 rfl rfl ?_
    refine w_getfield ok (v := (.ref sl)) (host := "") (f := ("com/example/rowan/rowan/store/IdleHeap", "slots", "[I", (.array .int))) 2 d16_1 (Or.inl (hw _ (List.mem_of_getElem? (i := 15) rfl))) Via.refl A_t rfl rfl ?_
    refine w_iloadN ok d16_4 rfl ?_
    refine w_iaload ok (v := (.int (Int32.ofNat i))) d16_5 A_sl (own_ix0 hy) (gi ▸ own_svg hy) ?_
    refine w_istoreN ok d16_6 (L' := #[.val (.ref t), .val (.int (Int32.ofNat y)), .val (.int (Int32.ofNat i)), .unset]) rfl ?_
    refine w_iloadN ok d16_7 rfl ?_
    refine w_iconst ok d16_8 (v := (-1 : Int32)) rfl ?_
    refine w_icmp_ne ok d16_9 (pc' := 13) (by decide) (fun hc1 => ?_) (fun hc1 => False.elim (by exact own_ne1 hi4 hc1))
    show W K l _ n0 _ h0 0 0 13 #[.val (.ref t), .val (.int (Int32.ofNat y)), .val (.int (Int32.ofNat i)), .unset] []
    refine w_aloadN ok d16_13 rfl rfl ?_
    refine w_dup ok d16_14 rfl ?_
    refine w_getfield ok (v := (.int (2 : Int32))) (host := "") (f := ("com/example/rowan/rowan/store/IdleHeap", "size", "I", .int)) 3 d16_15 (Or.inl (hw _ (List.mem_of_getElem? (i := 48) rfl))) Via.refl A_t rfl rfl ?_
    refine w_iconst ok d16_18 (v := (1 : Int32)) rfl ?_
    refine w_isub ok d16_19 ?_
    show W K l _ n0 _ h0 0 0 20 #[.val (.ref t), .val (.int (Int32.ofNat y)), .val (.int (Int32.ofNat i)), .unset] [(.int (1 : Int32)), (.ref t)]
    refine w_putfield ok (host := "") (f := ("com/example/rowan/rowan/store/IdleHeap", "size", "I", .int)) 3 d16_20 (Or.inl (hw _ (List.mem_of_getElem? (i := 48) rfl))) Via.refl A_t (la_IdleHeap hw) rfl rfl (Or.inl (hw _ (List.mem_of_getElem? (i := 49) rfl))) (hw _ (List.mem_of_getElem? (i := 1) rfl)) rfl rfl ge_t (fun h2 W_h2 A1_h2 => ?_)
    replace Kp := Kp.wr W_h2 (Or.inl (by simp))
    replace A_en := A_en.other W_h2 (Ne.symm ne_t_en)
    replace A_ti := A_ti.other W_h2 (Ne.symm ne_t_ti)
    replace A_sl := A_sl.other W_h2 (Ne.symm ne_t_sl)
    replace A_t : Ob Z h2 t "com/example/rowan/rowan/store/IdleHeap" fl_IdleHeap [(.ref en), (.ref ti), (.ref sl), (.int (1 : Int32))] := A1_h2
    refine w_aloadN ok d16_23 rfl rfl ?_
    refine w_getfield ok (v := (.ref sl)) (host := "") (f := ("com/example/rowan/rowan/store/IdleHeap", "slots", "[I", (.array .int))) 2 d16_24 (Or.inl (hw _ (List.mem_of_getElem? (i := 15) rfl))) Via.refl A_t rfl rfl ?_
    refine w_iloadN ok d16_27 rfl ?_
    refine w_iconst ok d16_28 (v := (-1 : Int32)) rfl ?_
    refine w_iastore ok d16_29 A_sl ge_sl (own_ix0 hy) (own_svl hy) (fun h3 W_h3 A1_h3 => ?_)
    replace Kp := Kp.wr W_h3 (Or.inl (by simp))
    replace A_t := A_t.other W_h3 ne_t_sl
    replace A_en := A_en.other W_h3 ne_en_sl
    replace A_ti := A_ti.other W_h3 ne_ti_sl
    replace A_sl : PA .int Z h3 sl ((sv 4 g).set (Int32.ofNat y).toNatClampNeg (.int (-1 : Int32))) := A1_h3
    rw [own_ix hy, sv_set] at A_sl
    refine w_iloadN ok d16_30 rfl ?_
    refine w_aloadN ok d16_31 rfl rfl ?_
    refine w_getfield ok (v := (.int (1 : Int32))) (host := "") (f := ("com/example/rowan/rowan/store/IdleHeap", "size", "I", .int)) 3 d16_32 (Or.inl (hw _ (List.mem_of_getElem? (i := 48) rfl))) Via.refl A_t rfl rfl ?_
    refine w_icmp_eq ok d16_35 (pc' := 78) (by decide) (fun hc5 => ?_) (fun hc5 => ?_)
    · show W K l _ n0 _ h3 0 0 78 #[.val (.ref t), .val (.int (Int32.ofNat y)), .val (.int (Int32.ofNat i)), .unset] []
      refine w_ret ok d16_78 (by decide) (by decide) ?_
      exact ⟨rfl, 1, _, _, _, Kp, A_t, A_en, A_ti, A_sl, P.pop hy ((show i = 1 from (own_inj hi4 (by decide) hc5)) ▸ ei), own_hoP H⟩
    · show W K l _ n0 _ h3 0 0 38 #[.val (.ref t), .val (.int (Int32.ofNat y)), .val (.int (Int32.ofNat i)), .unset] []
      refine w_aloadN ok d16_38 rfl rfl ?_
      refine w_getfield ok (v := (.ref en)) (host := "") (f := ("com/example/rowan/rowan/store/IdleHeap", "entries", "[I", (.array .int))) 0 d16_39 (Or.inl (hw _ (List.mem_of_getElem? (i := 10) rfl))) Via.refl A_t rfl rfl ?_
      refine w_aloadN ok d16_42 rfl rfl ?_
      refine w_getfield ok (v := (.int (1 : Int32))) (host := "") (f := ("com/example/rowan/rowan/store/IdleHeap", "size", "I", .int)) 3 d16_43 (Or.inl (hw _ (List.mem_of_getElem? (i := 48) rfl))) Via.refl A_t rfl rfl ?_
      refine w_iaload ok (v := (.int (Int32.ofNat z))) d16_46 A_en (by decide) (ez ▸ own_svg (j := 1) (by decide)) ?_
      refine w_istoreN ok d16_47 (L' := #[.val (.ref t), .val (.int (Int32.ofNat y)), .val (.int (Int32.ofNat i)), .val (.int (Int32.ofNat z))]) rfl ?_
      refine w_aloadN ok d16_48 rfl rfl ?_
      refine w_iloadN ok d16_49 rfl ?_
      refine w_aloadN ok d16_50 rfl rfl ?_
      refine w_getfield ok (v := (.ref ti)) (host := "") (f := ("com/example/rowan/rowan/store/IdleHeap", "times", "[J", (.array .long))) 1 d16_51 (Or.inl (hw _ (List.mem_of_getElem? (i := 13) rfl))) Via.refl A_t rfl rfl ?_
      refine w_aloadN ok d16_54 rfl rfl ?_
      refine w_getfield ok (v := (.int (1 : Int32))) (host := "") (f := ("com/example/rowan/rowan/store/IdleHeap", "size", "I", .int)) 3 d16_55 (Or.inl (hw _ (List.mem_of_getElem? (i := 48) rfl))) Via.refl A_t rfl rfl ?_
      refine w_laload ok (v := (.long (τ 1))) d16_58 A_ti (by decide) (own_lvg (j := 1) (by decide)) ?_
      refine w_iloadN ok d16_59 rfl ?_
      refine w_callP ok (y := (⟨"com/example/rowan/rowan/store/IdleHeap", "place", "(IJI)V"⟩ : MethodName)) (a := t) (argsL := [(.int (Int32.ofNat z)), (.long (τ 1)), (.int (Int32.ofNat i))]) (rest := []) d16_60 (hw _ (List.mem_of_getElem? (i := 50) rfl)) (hw _ (List.mem_of_getElem? (i := 51) rfl)) (hw _ (List.mem_of_getElem? (i := 52) rfl)) (hw _ (List.mem_of_getElem? (i := 1) rfl)) (hw _ (List.mem_of_getElem? (i := 2) rfl)) (hw _ (List.mem_of_getElem? (i := 53) rfl)) (by decide) A_t.1 pd_28IJI29V rfl rfl (by decide) (Nat.le_of_ble_eq_true rfl) (by decide) (by decide) (fun z0 => rm_place l Z a0 hw [] n0 h3 z0 t en ti sl (1 : Int32) e (upd g y (-1)) τ A_t A_en A_ti A_sl ge_t ge_en ge_ti ge_sl ne_t_en ne_t_ti ne_t_sl ne_en_ti ne_en_sl ne_ti_sl z i (τ 1) hz hi4) (fun v6 h7 qv6 => ?_)
      obtain ⟨rfl, K1, A1, A2, A3⟩ := qv6
      replace Kp := Kp.trans K1 (allS (Or.inl (by simp)) (allS (Or.inl (by simp)) (allS (Or.inl (by simp)) all0)))
      replace A_t := A_t.keep K1 (ninS ne_t_en (ninS ne_t_ti (ninS ne_t_sl nin0)))
      replace A_en := A1
      replace A_ti := A2
      replace A_sl := A3
      show W K l _ n0 _ h7 0 0 63 #[.val (.ref t), .val (.int (Int32.ofNat y)), .val (.int (Int32.ofNat i)), .val (.int (Int32.ofNat z))] []
      refine w_aloadN ok d16_63 rfl rfl ?_
      refine w_iloadN ok d16_64 rfl ?_
      refine w_callP ok (y := (⟨"com/example/rowan/rowan/store/IdleHeap", "siftDown", "(I)V"⟩ : MethodName)) (a := t) (argsL := [(.int (Int32.ofNat i))]) (rest := []) d16_65 (hw _ (List.mem_of_getElem? (i := 66) rfl)) (hw _ (List.mem_of_getElem? (i := 67) rfl)) (hw _ (List.mem_of_getElem? (i := 68) rfl)) (hw _ (List.mem_of_getElem? (i := 1) rfl)) (hw _ (List.mem_of_getElem? (i := 2) rfl)) (hw _ (List.mem_of_getElem? (i := 69) rfl)) (by decide) A_t.1 pd_28I29V rfl rfl (by decide) (Nat.le_of_ble_eq_true rfl) (by decide) (by decide) (fun z0 => rm_down l Z a0 hw [] n0 h7 z0 t en ti sl 1 (upd e i (Int32.ofNat z)) (upd (upd g y (-1)) z (Int32.ofNat i)) (updL τ i (τ 1)) A_t A_en A_ti A_sl ge_t ge_en ge_ti ge_sl ne_t_en ne_t_ti ne_t_sl ne_en_ti ne_en_sl ne_ti_sl i (put M y none) (P.fill (own_his hi hc5) hy hz ei ez) (own_his hi hc5) (own_hoR H)) (fun v8 h9 qv8 => ?_)
      obtain ⟨rfl, e1, g1, τ1, K1, A1, A2, A3, P1, H1⟩ := qv8
      replace Kp := Kp.trans K1 (allS (Or.inl (by simp)) (allS (Or.inl (by simp)) (allS (Or.inl (by simp)) all0)))
      replace A_t := A_t.keep K1 (ninS ne_t_en (ninS ne_t_ti (ninS ne_t_sl nin0)))
      replace A_en := A1
      replace A_ti := A2
      replace A_sl := A3
      obtain ⟨k, hk, -, -, gk⟩ := P1.has hz (by rw [put_ne (own_zy P hi ei hy hz ez hc5)]; exact (P.at (by decide) hz ez).1)
      show W K l _ n0 _ h9 0 0 68 #[.val (.ref t), .val (.int (Int32.ofNat y)), .val (.int (Int32.ofNat i)), .val (.int (Int32.ofNat z))] []
      refine w_aloadN ok d16_68 rfl rfl ?_
      refine w_aloadN ok d16_69 rfl rfl ?_
      refine w_getfield ok (v := (.ref sl)) (host := "") (f := ("com/example/rowan/rowan/store/IdleHeap", "slots", "[I", (.array .int))) 2 d16_70 (Or.inl (hw _ (List.mem_of_getElem? (i := 15) rfl))) Via.refl A_t rfl rfl ?_
      refine w_iloadN ok d16_73 rfl ?_
      refine w_iaload ok (v := (.int (Int32.ofNat k))) d16_74 A_sl (own_ix0 hz) (gk ▸ own_svg hz) ?_
      refine w_callP ok (y := (⟨"com/example/rowan/rowan/store/IdleHeap", "siftUp", "(I)V"⟩ : MethodName)) (a := t) (argsL := [(.int (Int32.ofNat k))]) (rest := []) d16_75 (hw _ (List.mem_of_getElem? (i := 54) rfl)) (hw _ (List.mem_of_getElem? (i := 55) rfl)) (hw _ (List.mem_of_getElem? (i := 56) rfl)) (hw _ (List.mem_of_getElem? (i := 1) rfl)) (hw _ (List.mem_of_getElem? (i := 2) rfl)) (hw _ (List.mem_of_getElem? (i := 57) rfl)) (by decide) A_t.1 pd_28I29V rfl rfl (by decide) (Nat.le_of_ble_eq_true rfl) (by decide) (by decide) (fun z0 => rm_up l Z a0 hw [] n0 h9 z0 t en ti sl 1 e1 g1 τ1 A_t A_en A_ti A_sl ge_t ge_en ge_ti ge_sl ne_t_en ne_t_ti ne_t_sl ne_en_ti ne_en_sl ne_ti_sl k (put M y none) P1 hk (own_hoU H1)) (fun v10 h11 qv10 => ?_)
      obtain ⟨rfl, e2, g2, τ2, K1, A1, A2, A3, P2, H2⟩ := qv10
      replace Kp := Kp.trans K1 (allS (Or.inl (by simp)) (allS (Or.inl (by simp)) (allS (Or.inl (by simp)) all0)))
      replace A_t := A_t.keep K1 (ninS ne_t_en (ninS ne_t_ti (ninS ne_t_sl nin0)))
      replace A_en := A1
      replace A_ti := A2
      replace A_sl := A3
      show W K l _ n0 _ h11 0 0 78 #[.val (.ref t), .val (.int (Int32.ofNat y)), .val (.int (Int32.ofNat i)), .val (.int (Int32.ofNat z))] []
      refine w_ret ok d16_78 (by decide) (by decide) ?_
      exact ⟨rfl, 1, _, _, _, Kp, A_t, A_en, A_ti, A_sl, P2, H2⟩
  · have Kp : Keep h0 h0 [t, en, ti, sl] := Keep.refl _ _
    have hi4 : i < 4 := by omega
    obtain ⟨m0, gi⟩ := P.at hi hy ei
    obtain ⟨z, hz, ez, -, -⟩ := P.2.1 2 (by decide)
    show W K l _ n0 _ h0 0 0 0 #[.val (.ref t), .val (.int (Int32.ofNat y)), .unset, .unset] []
    refine w_aloadN ok d16_0 rfl rfl ?_
    refine w_getfield ok (v := (.ref sl)) (host := "") (f := ("com/example/rowan/rowan/store/IdleHeap", "slots", "[I", (.array .int))) 2 d16_1 (Or.inl (hw _ (List.mem_of_getElem? (i := 15) rfl))) Via.refl A_t rfl rfl ?_
    refine w_iloadN ok d16_4 rfl ?_
    refine w_iaload ok (v := (.int (Int32.ofNat i))) d16_5 A_sl (own_ix0 hy) (gi ▸ own_svg hy) ?_
    refine w_istoreN ok d16_6 (L' := #[.val (.ref t), .val (.int (Int32.ofNat y)), .val (.int (Int32.ofNat i)), .unset]) rfl ?_
    refine w_iloadN ok d16_7 rfl ?_
    refine w_iconst ok d16_8 (v := (-1 : Int32)) rfl ?_
    refine w_icmp_ne ok d16_9 (pc' := 13) (by decide) (fun hc1 => ?_) (fun hc1 => False.elim (by exact own_ne1 hi4 hc1))
    show W K l _ n0 _ h0 0 0 13 #[.val (.ref t), .val (.int (Int32.ofNat y)), .val (.int (Int32.ofNat i)), .unset] []
    refine w_aloadN ok d16_13 rfl rfl ?_
    refine w_dup ok d16_14 rfl ?_
    refine w_getfield ok (v := (.int (3 : Int32))) (host := "") (f := ("com/example/rowan/rowan/store/IdleHeap", "size", "I", .int)) 3 d16_15 (Or.inl (hw _ (List.mem_of_getElem? (i := 48) rfl))) Via.refl A_t rfl rfl ?_
    refine w_iconst ok d16_18 (v := (1 : Int32)) rfl ?_
    refine w_isub ok d16_19 ?_
    show W K l _ n0 _ h0 0 0 20 #[.val (.ref t), .val (.int (Int32.ofNat y)), .val (.int (Int32.ofNat i)), .unset] [(.int (2 : Int32)), (.ref t)]
    refine w_putfield ok (host := "") (f := ("com/example/rowan/rowan/store/IdleHeap", "size", "I", .int)) 3 d16_20 (Or.inl (hw _ (List.mem_of_getElem? (i := 48) rfl))) Via.refl A_t (la_IdleHeap hw) rfl rfl (Or.inl (hw _ (List.mem_of_getElem? (i := 49) rfl))) (hw _ (List.mem_of_getElem? (i := 1) rfl)) rfl rfl ge_t (fun h2 W_h2 A1_h2 => ?_)
    replace Kp := Kp.wr W_h2 (Or.inl (by simp))
    replace A_en := A_en.other W_h2 (Ne.symm ne_t_en)
    replace A_ti := A_ti.other W_h2 (Ne.symm ne_t_ti)
    replace A_sl := A_sl.other W_h2 (Ne.symm ne_t_sl)
    replace A_t : Ob Z h2 t "com/example/rowan/rowan/store/IdleHeap" fl_IdleHeap [(.ref en), (.ref ti), (.ref sl), (.int (2 : Int32))] := A1_h2
    refine w_aloadN ok d16_23 rfl rfl ?_
    refine w_getfield ok (v := (.ref sl)) (host := "") (f := ("com/example/rowan/rowan/store/IdleHeap", "slots", "[I", (.array .int))) 2 d16_24 (Or.inl (hw _ (List.mem_of_getElem? (i := 15) rfl))) Via.refl A_t rfl rfl ?_
    refine w_iloadN ok d16_27 rfl ?_
    refine w_iconst ok d16_28 (v := (-1 : Int32)) rfl ?_
    refine w_iastore ok d16_29 A_sl ge_sl (own_ix0 hy) (own_svl hy) (fun h3 W_h3 A1_h3 => ?_)
    replace Kp := Kp.wr W_h3 (Or.inl (by simp))
    replace A_t := A_t.other W_h3 ne_t_sl
    replace A_en := A_en.other W_h3 ne_en_sl
    replace A_ti := A_ti.other W_h3 ne_ti_sl
    replace A_sl : PA .int Z h3 sl ((sv 4 g).set (Int32.ofNat y).toNatClampNeg (.int (-1 : Int32))) := A1_h3
    rw [own_ix hy, sv_set] at A_sl
    refine w_iloadN ok d16_30 rfl ?_
    refine w_aloadN ok d16_31 rfl rfl ?_
    refine w_getfield ok (v := (.int (2 : Int32))) (host := "") (f := ("com/example/rowan/rowan/store/IdleHeap", "size", "I", .int)) 3 d16_32 (Or.inl (hw _ (List.mem_of_getElem? (i := 48) rfl))) Via.refl A_t rfl rfl ?_
    refine w_icmp_eq ok d16_35 (pc' := 78) (by decide) (fun hc5 => ?_) (fun hc5 => ?_)
    · show W K l _ n0 _ h3 0 0 78 #[.val (.ref t), .val (.int (Int32.ofNat y)), .val (.int (Int32.ofNat i)), .unset] []
      refine w_ret ok d16_78 (by decide) (by decide) ?_
      exact ⟨rfl, 2, _, _, _, Kp, A_t, A_en, A_ti, A_sl, P.pop hy ((show i = 2 from (own_inj hi4 (by decide) hc5)) ▸ ei), own_hoP H⟩
    · show W K l _ n0 _ h3 0 0 38 #[.val (.ref t), .val (.int (Int32.ofNat y)), .val (.int (Int32.ofNat i)), .unset] []
      refine w_aloadN ok d16_38 rfl rfl ?_
      refine w_getfield ok (v := (.ref en)) (host := "") (f := ("com/example/rowan/rowan/store/IdleHeap", "entries", "[I", (.array .int))) 0 d16_39 (Or.inl (hw _ (List.mem_of_getElem? (i := 10) rfl))) Via.refl A_t rfl rfl ?_
      refine w_aloadN ok d16_42 rfl rfl ?_
      refine w_getfield ok (v := (.int (2 : Int32))) (host := "") (f := ("com/example/rowan/rowan/store/IdleHeap", "size", "I", .int)) 3 d16_43 (Or.inl (hw _ (List.mem_of_getElem? (i := 48) rfl))) Via.refl A_t rfl rfl ?_
      refine w_iaload ok (v := (.int (Int32.ofNat z))) d16_46 A_en (by decide) (ez ▸ own_svg (j := 2) (by decide)) ?_
      refine w_istoreN ok d16_47 (L' := #[.val (.ref t), .val (.int (Int32.ofNat y)), .val (.int (Int32.ofNat i)), .val (.int (Int32.ofNat z))]) rfl ?_
      refine w_aloadN ok d16_48 rfl rfl ?_
      refine w_iloadN ok d16_49 rfl ?_
      refine w_aloadN ok d16_50 rfl rfl ?_
      refine w_getfield ok (v := (.ref ti)) (host := "") (f := ("com/example/rowan/rowan/store/IdleHeap", "times", "[J", (.array .long))) 1 d16_51 (Or.inl (hw _ (List.mem_of_getElem? (i := 13) rfl))) Via.refl A_t rfl rfl ?_
      refine w_aloadN ok d16_54 rfl rfl ?_
      refine w_getfield ok (v := (.int (2 : Int32))) (host := "") (f := ("com/example/rowan/rowan/store/IdleHeap", "size", "I", .int)) 3 d16_55 (Or.inl (hw _ (List.mem_of_getElem? (i := 48) rfl))) Via.refl A_t rfl rfl ?_
      refine w_laload ok (v := (.long (τ 2))) d16_58 A_ti (by decide) (own_lvg (j := 2) (by decide)) ?_
      refine w_iloadN ok d16_59 rfl ?_
      refine w_callP ok (y := (⟨"com/example/rowan/rowan/store/IdleHeap", "place", "(IJI)V"⟩ : MethodName)) (a := t) (argsL := [(.int (Int32.ofNat z)), (.long (τ 2)), (.int (Int32.ofNat i))]) (rest := []) d16_60 (hw _ (List.mem_of_getElem? (i := 50) rfl)) (hw _ (List.mem_of_getElem? (i := 51) rfl)) (hw _ (List.mem_of_getElem? (i := 52) rfl)) (hw _ (List.mem_of_getElem? (i := 1) rfl)) (hw _ (List.mem_of_getElem? (i := 2) rfl)) (hw _ (List.mem_of_getElem? (i := 53) rfl)) (by decide) A_t.1 pd_28IJI29V rfl rfl (by decide) (Nat.le_of_ble_eq_true rfl) (by decide) (by decide) (fun z0 => rm_place l Z a0 hw [] n0 h3 z0 t en ti sl (2 : Int32) e (upd g y (-1)) τ A_t A_en A_ti A_sl ge_t ge_en ge_ti ge_sl ne_t_en ne_t_ti ne_t_sl ne_en_ti ne_en_sl ne_ti_sl z i (τ 2) hz hi4) (fun v6 h7 qv6 => ?_)
      obtain ⟨rfl, K1, A1, A2, A3⟩ := qv6
      replace Kp := Kp.trans K1 (allS (Or.inl (by simp)) (allS (Or.inl (by simp)) (allS (Or.inl (by simp)) all0)))
      replace A_t := A_t.keep K1 (ninS ne_t_en (ninS ne_t_ti (ninS ne_t_sl nin0)))
      replace A_en := A1
      replace A_ti := A2
      replace A_sl := A3
      show W K l _ n0 _ h7 0 0 63 #[.val (.ref t), .val (.int (Int32.ofNat y)), .val (.int (Int32.ofNat i)), .val (.int (Int32.ofNat z))] []
      refine w_aloadN ok d16_63 rfl rfl ?_
      refine w_iloadN ok d16_64 rfl ?_
      refine w_callP ok (y := (⟨"com/example/rowan/rowan/store/IdleHeap", "siftDown", "(I)V"⟩ : MethodName)) (a := t) (argsL := [(.int (Int32.ofNat i))]) (rest := []) d16_65 (hw _ (List.mem_of_getElem? (i := 66) rfl)) (hw _ (List.mem_of_getElem? (i := 67) rfl)) (hw _ (List.mem_of_getElem? (i := 68) rfl)) (hw _ (List.mem_of_getElem? (i := 1) rfl)) (hw _ (List.mem_of_getElem? (i := 2) rfl)) (hw _ (List.mem_of_getElem? (i := 69) rfl)) (by decide) A_t.1 pd_28I29V rfl rfl (by decide) (Nat.le_of_ble_eq_true rfl) (by decide) (by decide) (fun z0 => rm_down l Z a0 hw [] n0 h7 z0 t en ti sl 2 (upd e i (Int32.ofNat z)) (upd (upd g y (-1)) z (Int32.ofNat i)) (updL τ i (τ 2)) A_t A_en A_ti A_sl ge_t ge_en ge_ti ge_sl ne_t_en ne_t_ti ne_t_sl ne_en_ti ne_en_sl ne_ti_sl i (put M y none) (P.fill (own_his hi hc5) hy hz ei ez) (own_his hi hc5) (own_hoR H)) (fun v8 h9 qv8 => ?_)
      obtain ⟨rfl, e1, g1, τ1, K1, A1, A2, A3, P1, H1⟩ := qv8
      replace Kp := Kp.trans K1 (allS (Or.inl (by simp)) (allS (Or.inl (by simp)) (allS (Or.inl (by simp)) all0)))
      replace A_t := A_t.keep K1 (ninS ne_t_en (ninS ne_t_ti (ninS ne_t_sl nin0)))
      replace A_en := A1
      replace A_ti := A2
      replace A_sl := A3
      obtain ⟨k, hk, -, -, gk⟩ := P1.has hz (by rw [put_ne (own_zy P hi ei hy hz ez hc5)]; exact (P.at (by decide) hz ez).1)
      show W K l _ n0 _ h9 0 0 68 #[.val (.ref t), .val (.int (Int32.ofNat y)), .val (.int (Int32.ofNat i)), .val (.int (Int32.ofNat z))] []
      refine w_aloadN ok d16_68 rfl rfl ?_
      refine w_aloadN ok d16_69 rfl rfl ?_
      refine w_getfield ok (v := (.ref sl)) (host := "") (f := ("com/example/rowan/rowan/store/IdleHeap", "slots", "[I", (.array .int))) 2 d16_70 (Or.inl (hw _ (List.mem_of_getElem? (i := 15) rfl))) Via.refl A_t rfl rfl ?_
      refine w_iloadN ok d16_73 rfl ?_
      refine w_iaload ok (v := (.int (Int32.ofNat k))) d16_74 A_sl (own_ix0 hz) (gk ▸ own_svg hz) ?_
      refine w_callP ok (y := (⟨"com/example/rowan/rowan/store/IdleHeap", "siftUp", "(I)V"⟩ : MethodName)) (a := t) (argsL := [(.int (Int32.ofNat k))]) (rest := []) d16_75 (hw _ (List.mem_of_getElem? (i := 54) rfl)) (hw _ (List.mem_of_getElem? (i := 55) rfl)) (hw _ (List.mem_of_getElem? (i := 56) rfl)) (hw _ (List.mem_of_getElem? (i := 1) rfl)) (hw _ (List.mem_of_getElem? (i := 2) rfl)) (hw _ (List.mem_of_getElem? (i := 57) rfl)) (by decide) A_t.1 pd_28I29V rfl rfl (by decide) (Nat.le_of_ble_eq_true rfl) (by decide) (by decide) (fun z0 => rm_up l Z a0 hw [] n0 h9 z0 t en ti sl 2 e1 g1 τ1 A_t A_en A_ti A_sl ge_t ge_en ge_ti ge_sl ne_t_en ne_t_ti ne_t_sl ne_en_ti ne_en_sl ne_ti_sl k (put M y none) P1 hk (own_hoU H1)) (fun v10 h11 qv10 => ?_)
      obtain ⟨rfl, e2, g2, τ2, K1, A1, A2, A3, P2, H2⟩ := qv10
      replace Kp := Kp.trans K1 (allS (Or.inl (by simp)) (allS (Or.inl (by simp)) (allS (Or.inl (by simp)) all0)))
      replace A_t := A_t.keep K1 (ninS ne_t_en (ninS ne_t_ti (ninS ne_t_sl nin0)))
      replace A_en := A1
      replace A_ti := A2
      replace A_sl := A3
      show W K l _ n0 _ h11 0 0 78 #[.val (.ref t), .val (.int (Int32.ofNat y)), .val (.int (Int32.ofNat i)), .val (.int (Int32.ofNat z))] []
      refine w_ret ok d16_78 (by decide) (by decide) ?_
      exact ⟨rfl, 2, _, _, _, Kp, A_t, A_en, A_ti, A_sl, P2, H2⟩
  · have Kp : Keep h0 h0 [t, en, ti, sl] := Keep.refl _ _
    show W K l _ n0 _ h0 0 0 0 #[.val (.ref t), .val (.int (Int32.ofNat y)), .unset, .unset] []
    refine w_aloadN ok d16_0 rfl rfl ?_
    refine w_getfield ok (v := (.ref sl)) (host := "") (f := ("com/example/rowan/rowan/store/IdleHeap", "slots", "[I", (.array .int))) 2 d16_1 (Or.inl (hw _ (List.mem_of_getElem? (i := 15) rfl))) Via.refl A_t rfl rfl ?_
    refine w_iloadN ok d16_4 rfl ?_
    refine w_iaload ok (v := (.int (-1 : Int32))) d16_5 A_sl (own_ix0 hy) (g0 ▸ own_svg hy) ?_
    refine w_istoreN ok d16_6 (L' := #[.val (.ref t), .val (.int (Int32.ofNat y)), .val (.int (-1 : Int32)), .unset]) rfl ?_
    refine w_iloadN ok d16_7 rfl ?_
    refine w_iconst ok d16_8 (v := (-1 : Int32)) rfl ?_
    refine w_icmp_ne ok d16_9 (pc' := 13) (by decide) (fun hc1 => False.elim (by revert hc1; decide)) (fun hc1 => ?_)
    show W K l _ n0 _ h0 0 0 12 #[.val (.ref t), .val (.int (Int32.ofNat y)), .val (.int (-1 : Int32)), .unset] []
    refine w_ret ok d16_12 (by decide) (by decide) ?_
    exact ⟨rfl, sz, e, g, τ, Kp, A_t, A_en, A_ti, A_sl, by rw [own_put0 m0]; exact P, H⟩
theorem d17_0 : decode prog_26_method_3_code 0 = .ok (.aload_n 0, 1) := by decide +kernel
theorem d17_1 : decode prog_26_method_3_code 1 = .ok (.getfield 33, 3) := by decide +kernel
theorem d17_4 : decode prog_26_method_3_code 4 = .ok (.ifCond .ne 7, 3) := by decide +kernel
theorem d17_7 : decode prog_26_method_3_code 7 = .ok (.iconst (-1), 1) := by decide +kernel
theorem d17_8 : decode prog_26_method_3_code 8 = .ok (.goto 9, 3) := by decide +kernel
theorem d17_11 : decode prog_26_method_3_code 11 = .ok (.aload_n 0, 1) := by decide +kernel
theorem d17_12 : decode prog_26_method_3_code 12 = .ok (.getfield 7, 3) := by decide +kernel
theorem d17_15 : decode prog_26_method_3_code 15 = .ok (.iconst 0, 1) := by decide +kernel
theorem d17_16 : decode prog_26_method_3_code 16 = .ok (.iaload, 1) := by decide +kernel
theorem d17_17 : decode prog_26_method_3_code 17 = .ok (.ireturn, 1) := by decide +kernel
set_option maxRecDepth 65536 in
set_option maxHeartbeats 40000000 in
theorem rm_first (l : Launch) (Z : State) (a0 : Array Value) (hw : ∀ d ∈ tables_1, d.before a0 Z = true) (ws : List Jvm.Cond) (n0 : Nat) (h0 : Heap) (Z0 : Old Z n0 h0) (t en ti sl : Addr) (sz : Nat) (e g : Nat → Int32) (τ : Nat → Int64) (A_t : Ob Z h0 t "com/example/rowan/rowan/store/IdleHeap" fl_IdleHeap [.ref en, .ref ti, .ref sl, .int (Int32.ofNat sz)]) (A_en : PA .int Z h0 en (sv 4 e)) (A_ti : PA .long Z h0 ti (lv 4 τ)) (A_sl : PA .int Z h0 sl (sv 4 g)) (ge_t : n0 ≤ t) (ge_en : n0 ≤ en) (ge_ti : n0 ≤ ti) (ge_sl : n0 ≤ sl) (ne_t_en : t ≠ en) (ne_t_ti : t ≠ ti) (ne_t_sl : t ≠ sl) (ne_en_ti : en ≠ ti) (ne_en_sl : en ≠ sl) (ne_ti_sl : ti ≠ sl) (M : Nat → Option Int64) (P : PP sz e τ g M) (H : HO sz τ)  :
    Met l Z n0 (⟨"com/example/rowan/rowan/store/IdleHeap", "first", "()I"⟩ : MethodName) prog_26_method_3_code 1 (some .int) ws ({ frames := 0, cells := 0, slots := 0, locals := 0 } : Room) #[(.ref t)] h0 (fun u h => h0 = h ∧ ((sz = 0 ∧ u = some (.int (-1))) ∨ ∃ y, y < 4 ∧ 0 < sz ∧ e 0 = Int32.ofNat y ∧ u = some (.int (Int32.ofNat y)))) := by
  refine met_of Z0 (plainFor_of_name pn_com_example_rowan_rowan_store_IdleHeap) (Ls := #[.val (.ref t)]) (fun m => by first | (simp [entryFrame, mkF, argsToLocals, Value.category]; done) | rfl) ?_
  intro K ok
  obtain rfl | hs : sz = 0 ∨ 0 < sz := by omega
  · have Kp : Keep h0 h0 [t, en, ti, sl] := Keep.refl _ _
    show W K l _ n0 _ h0 0 0 0 #[.val (.ref t)] []
    refine w_aloadN ok d17_0 rfl rfl ?_
    refine w_getfield ok (v := (.int (0 : Int32))) (host := "") (f := ("com/example/rowan/rowan/store/IdleHeap", "size", "I", .int)) 3 d17_1 (Or.inl (hw _ (List.mem_of_getElem? (i := 48) rfl))) Via.refl A_t rfl rfl ?_
    refine w_if_ne ok d17_4 (pc' := 11) (by decide) (fun hc1 => False.elim (by revert hc1; decide)) (fun hc1 => ?_)
    show W K l _ n0 _ h0 0 0 7 #[.val (.ref t)] []
    refine w_iconst ok d17_7 (v := (-1 : Int32)) rfl ?_
    refine w_goto ok d17_8 (pc' := 17) (by decide) ?_
    refine w_iret ok d17_17 (by decide) (by decide) ?_
    exact ⟨rfl, Or.inl ⟨rfl, rfl⟩⟩
  · have Kp : Keep h0 h0 [t, en, ti, sl] := Keep.refl _ _
    obtain ⟨y, hy, ey, -, -⟩ := P.2.1 0 hs
    show W K l _ n0 _ h0 0 0 0 #[.val (.ref t)] []
    refine w_aloadN ok d17_0 rfl rfl ?_
    refine w_getfield ok (v := (.int (Int32.ofNat sz))) (host := "") (f := ("com/example/rowan/rowan/store/IdleHeap", "size", "I", .int)) 3 d17_1 (Or.inl (hw _ (List.mem_of_getElem? (i := 48) rfl))) Via.refl A_t rfl rfl ?_
    refine w_if_ne ok d17_4 (pc' := 11) (by decide) (fun hc1 => ?_) (fun hc1 => False.elim (by exact absurd (own_inj (b := 0) (by have := P.1; omega) (by decide) hc1) (by omega)))
    show W K l _ n0 _ h0 0 0 11 #[.val (.ref t)] []
    refine w_aloadN ok d17_11 rfl rfl ?_
    refine w_getfield ok (v := (.ref en)) (host := "") (f := ("com/example/rowan/rowan/store/IdleHeap", "entries", "[I", (.array .int))) 0 d17_12 (Or.inl (hw _ (List.mem_of_getElem? (i := 10) rfl))) Via.refl A_t rfl rfl ?_
    refine w_iconst ok d17_15 (v := (0 : Int32)) rfl ?_
    refine w_iaload ok (v := (.int (Int32.ofNat y))) d17_16 A_en (by decide) (ey ▸ own_svg (j := 0) (by decide)) ?_
    refine w_iret ok d17_17 (by decide) (by decide) ?_
    exact ⟨rfl, Or.inr ⟨y, hy, hs, ey, rfl⟩⟩
theorem own_and3 (x : Int32) : ∃ r, r < 4 ∧ x &&& 3 = Int32.ofNat r := by
  have e5 := c_mask x 3 2 (by decide) (by decide)
  refine ⟨(x &&& 3).toInt.toNat, by omega, ?_⟩
  apply Int32.toInt_inj.mp
  rw [own_ofNat (by omega)]; omega
theorem own_lt4 {a b : Nat} (ha : a < 4) (hb : b < 4) : Int32.ofNat a < Int32.ofNat b ↔ a < b := by
  rw [Int32.lt_iff_toInt_lt, own_ofNat (by omega), own_ofNat (by omega)]; omega
theorem own_pp0 : PP 0 (fun _ => 0) (fun _ => 0) (fun _ => -1) (fun _ => none) := ⟨by decide, fun i hi => absurd hi (Nat.not_lt_zero _), fun y hy => Or.inl ⟨rfl, rfl⟩⟩
theorem own_ho0 : HO 0 (fun _ => 0) := fun i hi => absurd hi (Nat.not_lt_zero _)
theorem own_least {sz : Nat} {e g : Nat → Int32} {τ : Nat → Int64} {M : Nat → Option Int64} (P : PP sz e τ g M) (H : HO sz τ) {y j : Nat} {v w : Int64} (hs : 0 < sz) (hy : y < 4) (ey : e 0 = Int32.ofNat y) (hj : j < 4) (my : M y = some w) (mj : M j = some v) : ¬ v < w := by
  obtain ⟨i, hi, -, hv, -⟩ := P.has hj mj
  have m0 := (P.at hs hy ey).1
  rw [my] at m0
  have q := H i hi
  rw [← Option.some.inj m0, hv] at q
  exact own_le64 q
theorem own_none0 {e g : Nat → Int32} {τ : Nat → Int64} {M : Nat → Option Int64} (P : PP 0 e τ g M) {y : Nat} {v : Int64} (hy : y < 4) (my : M y = some v) : False := by
  obtain ⟨i, hi, -⟩ := P.has hy my
  exact absurd hi (Nat.not_lt_zero _)
def own_max (a b : Int64) : Int64 := if a < b then b else a
theorem own_max_le (a b : Int64) : a.toInt ≤ (own_max a b).toInt := by
  unfold own_max; split
  · rename_i h; rw [Int64.lt_iff_toInt_lt] at h; omega
  · exact Int.le_refl _
theorem own_mD {M : Nat → Option Int64} {k q : Nat} {T : Nat → Int64} {v : Int64} (h : ∀ y, y < 4 → M y = if y < k then some (T y) else none) (hq : q < k) : ∀ y, y < 4 → put M q (some v) y = if y < k then some (updL T q v y) else none := fun y hy => by
  by_cases e : y = q
  · rw [e, put_same, if_pos hq, updL_same]
  · rw [put_ne e, updL_ne e]; exact h y hy
theorem own_mR {M : Nat → Option Int64} {k r : Nat} {T : Nat → Int64} (h : ∀ y, y < 4 → M y = if y < k then some (T y) else none) : ∀ y, y < 4 → put M r none y = if y < k ∧ y ≠ r then some (T y) else none := fun y hy => by
  by_cases e : y = r
  · rw [e, put_same, if_neg (fun q => q.2 rfl)]
  · rw [put_ne e, h y hy]; by_cases q : y < k
    · rw [if_pos q, if_pos ⟨q, e⟩]
    · rw [if_neg q, if_neg (fun z => q z.1)]
theorem own_y4 {y : Nat} (h : y < 4) : y = 0 ∨ y = 1 ∨ y = 2 ∨ y = 3 := by omega
def T3 (a b c : Int64) : Nat → Int64 := fun j => if j = 0 then a else if j = 1 then b else c
theorem d12_0 : decode jdk_29_method_66_code 0 = .ok (.lload_n 0, 1) := by decide +kernel
theorem d12_1 : decode jdk_29_method_66_code 1 = .ok (.lload_n 2, 1) := by decide +kernel
theorem d12_2 : decode jdk_29_method_66_code 2 = .ok (.lcmp, 1) := by decide +kernel
theorem d12_3 : decode jdk_29_method_66_code 3 = .ok (.ifCond .lt 7, 3) := by decide +kernel
theorem d12_6 : decode jdk_29_method_66_code 6 = .ok (.lload_n 0, 1) := by decide +kernel
theorem d12_7 : decode jdk_29_method_66_code 7 = .ok (.goto 4, 3) := by decide +kernel
theorem d12_10 : decode jdk_29_method_66_code 10 = .ok (.lload_n 2, 1) := by decide +kernel
theorem d12_11 : decode jdk_29_method_66_code 11 = .ok (.lreturn, 1) := by decide +kernel
set_option maxRecDepth 65536 in
set_option maxHeartbeats 40000000 in
theorem rm_max (l : Launch) (Z : State) (a0 : Array Value) (hw : ∀ d ∈ tables_1, d.before a0 Z = true) (ws : List Jvm.Cond) (n0 : Nat) (h0 : Heap) (Z0 : Old Z n0 h0) (a b : Int64)  :
    Met l Z n0 (⟨"java/lang/Math", "max", "(JJ)J"⟩ : MethodName) jdk_29_method_66_code 4 (some .long) ws ({ frames := 0, cells := 0, slots := 0, locals := 0 } : Room) #[(.long a), (.long b)] h0 (fun u h => u = some (.long (own_max a b)) ∧ h0 = h) := by
  refine met_of Z0 (Jvm.Free.JP.mathPlain rfl (by decide +kernel)) (Ls := #[.val (.long a), .second, .val (.long b), .second]) (fun m => by first | (simp [entryFrame, mkF, argsToLocals, Value.category]; done) | rfl) ?_
  intro K ok
  show W K l _ n0 _ h0 0 0 0 #[.val (.long a), .second, .val (.long b), .second] []
  refine w_lloadN ok d12_0 rfl ?_
  refine w_lloadN ok d12_1 rfl ?_
  refine w_lcmp_lt ok d12_2 d12_3 (pc' := 10) (by decide) (fun hc1 => ?_) (fun hc1 => ?_)
  · show W K l _ n0 _ h0 0 0 10 #[.val (.long a), .second, .val (.long b), .second] []
    refine w_lloadN ok d12_10 rfl ?_
    refine w_lret ok d12_11 (by decide) (by decide) ?_
    exact ⟨by simp [own_max, *], rfl⟩
  · show W K l _ n0 _ h0 0 0 6 #[.val (.long a), .second, .val (.long b), .second] []
    refine w_lloadN ok d12_6 rfl ?_
    refine w_goto ok d12_7 (pc' := 11) (by decide) ?_
    refine w_lret ok d12_11 (by decide) (by decide) ?_
    exact ⟨by simp [own_max, *], rfl⟩
theorem pn_com_example_rowan_rowan_store_IdleHeapFirstPinLaw : plainName "com/example/rowan/rowan/store/IdleHeapFirstPinLaw" = true := by first | (simp [plainName, overriddenIn]; done) | decide +kernel
theorem pd_2829I : parseMethodDescriptor "()I" = some ⟨[], some .int⟩ := by decide +kernel
set_option maxRecDepth 65536 in
set_option maxHeartbeats 40000000 in
theorem c135 (l : Launch) (Z : State) (a0 : Array Value) (hw : ∀ d ∈ tables_1, d.before a0 Z = true) (n0 : Nat) (h0 : Heap) (K : Cx) (ok : Ok K Z n0 x.cls code maxLocals ret x.name) (t en ti sl : Addr) (sz : Nat) (e g : Nat → Int32) (τ : Nat → Int64) (A_t : Ob Z h0 t "com/example/rowan/rowan/store/IdleHeap" fl_IdleHeap [.ref en, .ref ti, .ref sl, .int (Int32.ofNat sz)]) (A_en : PA .int Z h0 en (sv 4 e)) (A_ti : PA .long Z h0 ti (lv 4 τ)) (A_sl : PA .int Z h0 sl (sv 4 g)) (ge_t : n0 ≤ t) (ge_en : n0 ≤ en) (ge_ti : n0 ≤ ti) (ge_sl : n0 ≤ sl) (ne_t_en : t ≠ en) (ne_t_ti : t ≠ ti) (ne_t_sl : t ≠ sl) (ne_en_ti : en ≠ ti) (ne_en_sl : en ≠ sl) (ne_ti_sl : ti ≠ sl) (ar : Addr) (T : Nat → Int64) (A_ar : PA .long Z h0 ar [.long (T 0), .long (T 1), .long (T 2)]) (ge_ar : n0 ≤ ar) (ne_t_ar : t ≠ ar) (ne_en_ar : en ≠ ar) (ne_ti_ar : ti ≠ ar) (ne_sl_ar : sl ≠ ar) (M : Nat → Option Int64) (P : PP sz e τ g M) (H : HO sz τ) (aa bb cc dd : Int64) (op dq : Int32) (k : Nat) (hk : k < 4) (r : Nat) (hr : r < 4) (hM : ∀ y, y < 4 → M y = if y < k ∧ y ≠ r then some (T y) else none) :
    W K l room_1 n0 (fun u h => u = some (.int 1)) h0 8 19 135 #[.val (.long aa), .second, .val (.long bb), .second, .val (.long cc), .second, .val (.long dd), .second, .val (.int op), .val (.ref t), .val (.ref ar), .val (.int (Int32.ofNat k)), .val (.int dq), .val (.int (Int32.ofNat r)), .unset, .unset, .unset, .unset, .unset, .unset, .unset] [] := by
  obtain ⟨rfl, rfl⟩ | ⟨rfl, rfl⟩ | ⟨rfl, rfl⟩ | ⟨rfl, rfl⟩ | ⟨rfl, rfl⟩ | ⟨rfl, rfl⟩ | ⟨rfl, rfl⟩ | ⟨rfl, rfl⟩ | ⟨rfl, rfl⟩ | ⟨rfl, rfl⟩ | ⟨rfl, rfl⟩ | ⟨rfl, rfl⟩ | ⟨rfl, rfl⟩ | ⟨rfl, rfl⟩ | ⟨rfl, rfl⟩ | ⟨rfl, rfl⟩ : (k = 0 ∧ r = 0) ∨ (k = 0 ∧ r = 1) ∨ (k = 0 ∧ r = 2) ∨ (k = 0 ∧ r = 3) ∨ (k = 1 ∧ r = 0) ∨ (k = 1 ∧ r = 1) ∨ (k = 1 ∧ r = 2) ∨ (k = 1 ∧ r = 3) ∨ (k = 2 ∧ r = 0) ∨ (k = 2 ∧ r = 1) ∨ (k = 2 ∧ r = 2) ∨ (k = 2 ∧ r = 3) ∨ (k = 3 ∧ r = 0) ∨ (k = 3 ∧ r = 1) ∨ (k = 3 ∧ r = 2) ∨ (k = 3 ∧ r = 3) := by omega
  · skip
    show W K l _ n0 _ h0 8 19 135 #[.val (.long aa), .second, .val (.long bb), .second, .val (.long cc), .second, .val (.long dd), .second, .val (.int op), .val (.ref t), .val (.ref ar), .val (.int (0 : Int32)), .val (.int dq), .val (.int (0 : Int32)), .unset, .unset, .unset, .unset, .unset, .unset, .unset] []
    refine w_iconst ok at_135 (v := (0 : Int32)) rfl ?_
    refine w_iload ok at_136 rfl ?_
    refine w_icmp_ge ok at_138 (pc' := 150) (by decide) (fun hc1 => ?_) (fun hc1 => False.elim (by revert hc1; decide))
    show W K l _ n0 _ h0 8 19 150 #[.val (.long aa), .second, .val (.long bb), .second, .val (.long cc), .second, .val (.long dd), .second, .val (.int op), .val (.ref t), .val (.ref ar), .val (.int (0 : Int32)), .val (.int dq), .val (.int (0 : Int32)), .unset, .unset, .unset, .unset, .unset, .unset, .unset] []
    refine w_iconst ok at_150 (v := (0 : Int32)) rfl ?_
    refine w_istore ok at_151 (L' := #[.val (.long aa), .second, .val (.long bb), .second, .val (.long cc), .second, .val (.long dd), .second, .val (.int op), .val (.ref t), .val (.ref ar), .val (.int (0 : Int32)), .val (.int dq), .val (.int (0 : Int32)), .val (.int (0 : Int32)), .unset, .unset, .unset, .unset, .unset, .unset]) rfl ?_
    refine w_iconst ok at_153 (v := (1 : Int32)) rfl ?_
    refine w_iload ok at_154 rfl ?_
    refine w_icmp_ge ok at_156 (pc' := 169) (by decide) (fun hc3 => ?_) (fun hc3 => False.elim (by revert hc3; decide))
    show W K l _ n0 _ h0 8 19 169 #[.val (.long aa), .second, .val (.long bb), .second, .val (.long cc), .second, .val (.long dd), .second, .val (.int op), .val (.ref t), .val (.ref ar), .val (.int (0 : Int32)), .val (.int dq), .val (.int (0 : Int32)), .val (.int (0 : Int32)), .unset, .unset, .unset, .unset, .unset, .unset] []
    refine w_iconst ok at_169 (v := (0 : Int32)) rfl ?_
    refine w_istore ok at_170 (L' := #[.val (.long aa), .second, .val (.long bb), .second, .val (.long cc), .second, .val (.long dd), .second, .val (.int op), .val (.ref t), .val (.ref ar), .val (.int (0 : Int32)), .val (.int dq), .val (.int (0 : Int32)), .val (.int (0 : Int32)), .val (.int (0 : Int32)), .unset, .unset, .unset, .unset, .unset]) rfl ?_
    refine w_iconst ok at_172 (v := (2 : Int32)) rfl ?_
    refine w_iload ok at_173 rfl ?_
    refine w_icmp_ge ok at_175 (pc' := 188) (by decide) (fun hc5 => ?_) (fun hc5 => False.elim (by revert hc5; decide))
    show W K l _ n0 _ h0 8 19 188 #[.val (.long aa), .second, .val (.long bb), .second, .val (.long cc), .second, .val (.long dd), .second, .val (.int op), .val (.ref t), .val (.ref ar), .val (.int (0 : Int32)), .val (.int dq), .val (.int (0 : Int32)), .val (.int (0 : Int32)), .val (.int (0 : Int32)), .unset, .unset, .unset, .unset, .unset] []
    refine w_iconst ok at_188 (v := (0 : Int32)) rfl ?_
    refine w_istore ok at_189 (L' := #[.val (.long aa), .second, .val (.long bb), .second, .val (.long cc), .second, .val (.long dd), .second, .val (.int op), .val (.ref t), .val (.ref ar), .val (.int (0 : Int32)), .val (.int dq), .val (.int (0 : Int32)), .val (.int (0 : Int32)), .val (.int (0 : Int32)), .val (.int (0 : Int32)), .unset, .unset, .unset, .unset]) rfl ?_
    refine w_aload ok at_191 rfl rfl ?_
    refine w_callV ok (y := (⟨"com/example/rowan/rowan/store/IdleHeap", "first", "()I"⟩ : MethodName)) (a := t) (argsL := []) (rest := []) at_193 (hw _ (List.mem_of_getElem? (i := 79) rfl)) (hw _ (List.mem_of_getElem? (i := 80) rfl)) (hw _ (List.mem_of_getElem? (i := 82) rfl)) (hw _ (List.mem_of_getElem? (i := 81) rfl)) (hw _ (List.mem_of_getElem? (i := 2) rfl)) (hw _ (List.mem_of_getElem? (i := 83) rfl)) (by decide) A_t.1 pd_2829I rfl rfl (by decide) (Nat.le_of_ble_eq_true rfl) (by decide) (by decide) (fun z0 => rm_first l Z a0 hw [] n0 h0 z0 t en ti sl sz e g τ A_t A_en A_ti A_sl ge_t ge_en ge_ti ge_sl ne_t_en ne_t_ti ne_t_sl ne_en_ti ne_en_sl ne_ti_sl M P H) (fun v6 h7 qv6 => ?_)
    obtain ⟨rfl, ⟨hs0, rfl⟩ | ⟨y, hy, hs, ey, rfl⟩⟩ := qv6
    · skip
      show W K l _ n0 _ h0 8 19 196 #[.val (.long aa), .second, .val (.long bb), .second, .val (.long cc), .second, .val (.long dd), .second, .val (.int op), .val (.ref t), .val (.ref ar), .val (.int (0 : Int32)), .val (.int dq), .val (.int (0 : Int32)), .val (.int (0 : Int32)), .val (.int (0 : Int32)), .val (.int (0 : Int32)), .unset, .unset, .unset, .unset] [(.int (-1 : Int32))]
      refine w_istore ok at_196 (L' := #[.val (.long aa), .second, .val (.long bb), .second, .val (.long cc), .second, .val (.long dd), .second, .val (.int op), .val (.ref t), .val (.ref ar), .val (.int (0 : Int32)), .val (.int dq), .val (.int (0 : Int32)), .val (.int (0 : Int32)), .val (.int (0 : Int32)), .val (.int (0 : Int32)), .val (.int (-1 : Int32)), .unset, .unset, .unset]) rfl ?_
      refine w_iload ok at_198 rfl ?_
      refine w_if_ne ok at_200 (pc' := 225) (by decide) (fun hc9 => False.elim (by revert hc9; decide)) (fun hc9 => ?_)
      show W K l _ n0 _ h0 8 19 203 #[.val (.long aa), .second, .val (.long bb), .second, .val (.long cc), .second, .val (.long dd), .second, .val (.int op), .val (.ref t), .val (.ref ar), .val (.int (0 : Int32)), .val (.int dq), .val (.int (0 : Int32)), .val (.int (0 : Int32)), .val (.int (0 : Int32)), .val (.int (0 : Int32)), .val (.int (-1 : Int32)), .unset, .unset, .unset] []
      refine w_iload ok at_203 rfl ?_
      refine w_if_ne ok at_205 (pc' := 225) (by decide) (fun hc11 => False.elim (by revert hc11; decide)) (fun hc11 => ?_)
      show W K l _ n0 _ h0 8 19 208 #[.val (.long aa), .second, .val (.long bb), .second, .val (.long cc), .second, .val (.long dd), .second, .val (.int op), .val (.ref t), .val (.ref ar), .val (.int (0 : Int32)), .val (.int dq), .val (.int (0 : Int32)), .val (.int (0 : Int32)), .val (.int (0 : Int32)), .val (.int (0 : Int32)), .val (.int (-1 : Int32)), .unset, .unset, .unset] []
      refine w_iload ok at_208 rfl ?_
      refine w_if_ne ok at_210 (pc' := 225) (by decide) (fun hc13 => False.elim (by revert hc13; decide)) (fun hc13 => ?_)
      show W K l _ n0 _ h0 8 19 213 #[.val (.long aa), .second, .val (.long bb), .second, .val (.long cc), .second, .val (.long dd), .second, .val (.int op), .val (.ref t), .val (.ref ar), .val (.int (0 : Int32)), .val (.int dq), .val (.int (0 : Int32)), .val (.int (0 : Int32)), .val (.int (0 : Int32)), .val (.int (0 : Int32)), .val (.int (-1 : Int32)), .unset, .unset, .unset] []
      refine w_iload ok at_213 rfl ?_
      refine w_iconst ok at_215 (v := (-1 : Int32)) rfl ?_
      refine w_icmp_ne ok at_216 (pc' := 223) (by decide) (fun hc15 => False.elim (by revert hc15; decide)) (fun hc15 => ?_)
      show W K l _ n0 _ h0 8 19 219 #[.val (.long aa), .second, .val (.long bb), .second, .val (.long cc), .second, .val (.long dd), .second, .val (.int op), .val (.ref t), .val (.ref ar), .val (.int (0 : Int32)), .val (.int dq), .val (.int (0 : Int32)), .val (.int (0 : Int32)), .val (.int (0 : Int32)), .val (.int (0 : Int32)), .val (.int (-1 : Int32)), .unset, .unset, .unset] []
      refine w_iconst ok at_219 (v := (1 : Int32)) rfl ?_
      refine w_goto ok at_220 (pc' := 224) (by decide) ?_
      refine w_bret ok (by simp) at_224 (by decide) (by decide) ?_
      exact rfl
    · have my := (P.at hs hy ey).1
      obtain rfl | rfl | rfl | rfl : y = 0 ∨ y = 1 ∨ y = 2 ∨ y = 3 := by omega
      · exact absurd (my.symm.trans ((hM 0 (by decide)).trans (if_neg (by decide)))) (fun q => by cases q)
      · exact absurd (my.symm.trans ((hM 1 (by decide)).trans (if_neg (by decide)))) (fun q => by cases q)
      · exact absurd (my.symm.trans ((hM 2 (by decide)).trans (if_neg (by decide)))) (fun q => by cases q)
      · exact absurd (my.symm.trans ((hM 3 (by decide)).trans (if_neg (by decide)))) (fun q => by cases q)
  · skip
    show W K l _ n0 _ h0 8 19 135 #[.val (.long aa), .second, .val (.long bb), .second, .val (.long cc), .second, .val (.long dd), .second, .val (.int op), .val (.ref t), .val (.ref ar), .val (.int (0 : Int32)), .val (.int dq), .val (.int (1 : Int32)), .unset, .unset, .unset, .unset, .unset, .unset, .unset] []
    refine w_iconst ok at_135 (v := (0 : Int32)) rfl ?_
    refine w_iload ok at_136 rfl ?_
    refine w_icmp_ge ok at_138 (pc' := 150) (by decide) (fun hc17 => ?_) (fun hc17 => False.elim (by revert hc17; decide))
    show W K l _ n0 _ h0 8 19 150 #[.val (.long aa), .second, .val (.long bb), .second, .val (.long cc), .second, .val (.long dd), .second, .val (.int op), .val (.ref t), .val (.ref ar), .val (.int (0 : Int32)), .val (.int dq), .val (.int (1 : Int32)), .unset, .unset, .unset, .unset, .unset, .unset, .unset] []
    refine w_iconst ok at_150 (v := (0 : Int32)) rfl ?_
    refine w_istore ok at_151 (L' := #[.val (.long aa), .second, .val (.long bb), .second, .val (.long cc), .second, .val (.long dd), .second, .val (.int op), .val (.ref t), .val (.ref ar), .val (.int (0 : Int32)), .val (.int dq), .val (.int (1 : Int32)), .val (.int (0 : Int32)), .unset, .unset, .unset, .unset, .unset, .unset]) rfl ?_
    refine w_iconst ok at_153 (v := (1 : Int32)) rfl ?_
    refine w_iload ok at_154 rfl ?_
    refine w_icmp_ge ok at_156 (pc' := 169) (by decide) (fun hc19 => ?_) (fun hc19 => False.elim (by revert hc19; decide))
    show W K l _ n0 _ h0 8 19 169 #[.val (.long aa), .second, .val (.long bb), .second, .val (.long cc), .second, .val (.long dd), .second, .val (.int op), .val (.ref t), .val (.ref ar), .val (.int (0 : Int32)), .val (.int dq), .val (.int (1 : Int32)), .val (.int (0 : Int32)), .unset, .unset, .unset, .unset, .unset, .unset] []
    refine w_iconst ok at_169 (v := (0 : Int32)) rfl ?_
    refine w_istore ok at_170 (L' := #[.val (.long aa), .second, .val (.long bb), .second, .val (.long cc), .second, .val (.long dd), .second, .val (.int op), .val (.ref t), .val (.ref ar), .val (.int (0 : Int32)), .val (.int dq), .val (.int (1 : Int32)), .val (.int (0 : Int32)), .val (.int (0 : Int32)), .unset, .unset, .unset, .unset, .unset]) rfl ?_
    refine w_iconst ok at_172 (v := (2 : Int32)) rfl ?_
    refine w_iload ok at_173 rfl ?_
    refine w_icmp_ge ok at_175 (pc' := 188) (by decide) (fun hc21 => ?_) (fun hc21 => False.elim (by revert hc21; decide))
    show W K l _ n0 _ h0 8 19 188 #[.val (.long aa), .second, .val (.long bb), .second, .val (.long cc), .second, .val (.long dd), .second, .val (.int op), .val (.ref t), .val (.ref ar), .val (.int (0 : Int32)), .val (.int dq), .val (.int (1 : Int32)), .val (.int (0 : Int32)), .val (.int (0 : Int32)), .unset, .unset, .unset, .unset, .unset] []
    refine w_iconst ok at_188 (v := (0 : Int32)) rfl ?_
    refine w_istore ok at_189 (L' := #[.val (.long aa), .second, .val (.long bb), .second, .val (.long cc), .second, .val (.long dd), .second, .val (.int op), .val (.ref t), .val (.ref ar), .val (.int (0 : Int32)), .val (.int dq), .val (.int (1 : Int32)), .val (.int (0 : Int32)), .val (.int (0 : Int32)), .val (.int (0 : Int32)), .unset, .unset, .unset, .unset]) rfl ?_
    refine w_aload ok at_191 rfl rfl ?_
    refine w_callV ok (y := (⟨"com/example/rowan/rowan/store/IdleHeap", "first", "()I"⟩ : MethodName)) (a := t) (argsL := []) (rest := []) at_193 (hw _ (List.mem_of_getElem? (i := 79) rfl)) (hw _ (List.mem_of_getElem? (i := 80) rfl)) (hw _ (List.mem_of_getElem? (i := 82) rfl)) (hw _ (List.mem_of_getElem? (i := 81) rfl)) (hw _ (List.mem_of_getElem? (i := 2) rfl)) (hw _ (List.mem_of_getElem? (i := 83) rfl)) (by decide) A_t.1 pd_2829I rfl rfl (by decide) (Nat.le_of_ble_eq_true rfl) (by decide) (by decide) (fun z0 => rm_first l Z a0 hw [] n0 h0 z0 t en ti sl sz e g τ A_t A_en A_ti A_sl ge_t ge_en ge_ti ge_sl ne_t_en ne_t_ti ne_t_sl ne_en_ti ne_en_sl ne_ti_sl M P H) (fun v22 h23 qv22 => ?_)
    obtain ⟨rfl, ⟨hs0, rfl⟩ | ⟨y, hy, hs, ey, rfl⟩⟩ := qv22
    · skip
      show W K l _ n0 _ h0 8 19 196 #[.val (.long aa), .second, .val (.long bb), .second, .val (.long cc), .second, .val (.long dd), .second, .val (.int op), .val (.ref t), .val (.ref ar), .val (.int (0 : Int32)), .val (.int dq), .val (.int (1 : Int32)), .val (.int (0 : Int32)), .val (.int (0 : Int32)), .val (.int (0 : Int32)), .unset, .unset, .unset, .unset] [(.int (-1 : Int32))]
      refine w_istore ok at_196 (L' := #[.val (.long aa), .second, .val (.long bb), .second, .val (.long cc), .second, .val (.long dd), .second, .val (.int op), .val (.ref t), .val (.ref ar), .val (.int (0 : Int32)), .val (.int dq), .val (.int (1 : Int32)), .val (.int (0 : Int32)), .val (.int (0 : Int32)), .val (.int (0 : Int32)), .val (.int (-1 : Int32)), .unset, .unset, .unset]) rfl ?_
      refine w_iload ok at_198 rfl ?_
      refine w_if_ne ok at_200 (pc' := 225) (by decide) (fun hc25 => False.elim (by revert hc25; decide)) (fun hc25 => ?_)
      show W K l _ n0 _ h0 8 19 203 #[.val (.long aa), .second, .val (.long bb), .second, .val (.long cc), .second, .val (.long dd), .second, .val (.int op), .val (.ref t), .val (.ref ar), .val (.int (0 : Int32)), .val (.int dq), .val (.int (1 : Int32)), .val (.int (0 : Int32)), .val (.int (0 : Int32)), .val (.int (0 : Int32)), .val (.int (-1 : Int32)), .unset, .unset, .unset] []
      refine w_iload ok at_203 rfl ?_
      refine w_if_ne ok at_205 (pc' := 225) (by decide) (fun hc27 => False.elim (by revert hc27; decide)) (fun hc27 => ?_)
      show W K l _ n0 _ h0 8 19 208 #[.val (.long aa), .second, .val (.long bb), .second, .val (.long cc), .second, .val (.long dd), .second, .val (.int op), .val (.ref t), .val (.ref ar), .val (.int (0 : Int32)), .val (.int dq), .val (.int (1 : Int32)), .val (.int (0 : Int32)), .val (.int (0 : Int32)), .val (.int (0 : Int32)), .val (.int (-1 : Int32)), .unset, .unset, .unset] []
      refine w_iload ok at_208 rfl ?_
      refine w_if_ne ok at_210 (pc' := 225) (by decide) (fun hc29 => False.elim (by revert hc29; decide)) (fun hc29 => ?_)
      show W K l _ n0 _ h0 8 19 213 #[.val (.long aa), .second, .val (.long bb), .second, .val (.long cc), .second, .val (.long dd), .second, .val (.int op), .val (.ref t), .val (.ref ar), .val (.int (0 : Int32)), .val (.int dq), .val (.int (1 : Int32)), .val (.int (0 : Int32)), .val (.int (0 : Int32)), .val (.int (0 : Int32)), .val (.int (-1 : Int32)), .unset, .unset, .unset] []
      refine w_iload ok at_213 rfl ?_
      refine w_iconst ok at_215 (v := (-1 : Int32)) rfl ?_
      refine w_icmp_ne ok at_216 (pc' := 223) (by decide) (fun hc31 => False.elim (by revert hc31; decide)) (fun hc31 => ?_)
      show W K l _ n0 _ h0 8 19 219 #[.val (.long aa), .second, .val (.long bb), .second, .val (.long cc), .second, .val (.long dd), .second, .val (.int op), .val (.ref t), .val (.ref ar), .val (.int (0 : Int32)), .val (.int dq), .val (.int (1 : Int32)), .val (.int (0 : Int32)), .val (.int (0 : Int32)), .val (.int (0 : Int32)), .val (.int (-1 : Int32)), .unset, .unset, .unset] []
      refine w_iconst ok at_219 (v := (1 : Int32)) rfl ?_
      refine w_goto ok at_220 (pc' := 224) (by decide) ?_
      refine w_bret ok (by simp) at_224 (by decide) (by decide) ?_
      exact rfl
    · have my := (P.at hs hy ey).1
      obtain rfl | rfl | rfl | rfl : y = 0 ∨ y = 1 ∨ y = 2 ∨ y = 3 := by omega
      · exact absurd (my.symm.trans ((hM 0 (by decide)).trans (if_neg (by decide)))) (fun q => by cases q)
      · exact absurd (my.symm.trans ((hM 1 (by decide)).trans (if_neg (by decide)))) (fun q => by cases q)
      · exact absurd (my.symm.trans ((hM 2 (by decide)).trans (if_neg (by decide)))) (fun q => by cases q)
      · exact absurd (my.symm.trans ((hM 3 (by decide)).trans (if_neg (by decide)))) (fun q => by cases q)
  · skip
    show W K l _ n0 _ h0 8 19 135 #[.val (.long aa), .second, .val (.long bb), .second, .val (.long cc), .second, .val (.long dd), .second, .val (.int op), .val (.ref t), .val (.ref ar), .val (.int (0 : Int32)), .val (.int dq), .val (.int (2 : Int32)), .unset, .unset, .unset, .unset, .unset, .unset, .unset] []
    refine w_iconst ok at_135 (v := (0 : Int32)) rfl ?_
    refine w_iload ok at_136 rfl ?_
    refine w_icmp_ge ok at_138 (pc' := 150) (by decide) (fun hc33 => ?_) (fun hc33 => False.elim (by revert hc33; decide))
    show W K l _ n0 _ h0 8 19 150 #[.val (.long aa), .second, .val (.long bb), .second, .val (.long cc), .second, .val (.long dd), .second, .val (.int op), .val (.ref t), .val (.ref ar), .val (.int (0 : Int32)), .val (.int dq), .val (.int (2 : Int32)), .unset, .unset, .unset, .unset, .unset, .unset, .unset] []
    refine w_iconst ok at_150 (v := (0 : Int32)) rfl ?_
    refine w_istore ok at_151 (L' := #[.val (.long aa), .second, .val (.long bb), .second, .val (.long cc), .second, .val (.long dd), .second, .val (.int op), .val (.ref t), .val (.ref ar), .val (.int (0 : Int32)), .val (.int dq), .val (.int (2 : Int32)), .val (.int (0 : Int32)), .unset, .unset, .unset, .unset, .unset, .unset]) rfl ?_
    refine w_iconst ok at_153 (v := (1 : Int32)) rfl ?_
    refine w_iload ok at_154 rfl ?_
    refine w_icmp_ge ok at_156 (pc' := 169) (by decide) (fun hc35 => ?_) (fun hc35 => False.elim (by revert hc35; decide))
    show W K l _ n0 _ h0 8 19 169 #[.val (.long aa), .second, .val (.long bb), .second, .val (.long cc), .second, .val (.long dd), .second, .val (.int op), .val (.ref t), .val (.ref ar), .val (.int (0 : Int32)), .val (.int dq), .val (.int (2 : Int32)), .val (.int (0 : Int32)), .unset, .unset, .unset, .unset, .unset, .unset] []
    refine w_iconst ok at_169 (v := (0 : Int32)) rfl ?_
    refine w_istore ok at_170 (L' := #[.val (.long aa), .second, .val (.long bb), .second, .val (.long cc), .second, .val (.long dd), .second, .val (.int op), .val (.ref t), .val (.ref ar), .val (.int (0 : Int32)), .val (.int dq), .val (.int (2 : Int32)), .val (.int (0 : Int32)), .val (.int (0 : Int32)), .unset, .unset, .unset, .unset, .unset]) rfl ?_
    refine w_iconst ok at_172 (v := (2 : Int32)) rfl ?_
    refine w_iload ok at_173 rfl ?_
    refine w_icmp_ge ok at_175 (pc' := 188) (by decide) (fun hc37 => ?_) (fun hc37 => False.elim (by revert hc37; decide))
    show W K l _ n0 _ h0 8 19 188 #[.val (.long aa), .second, .val (.long bb), .second, .val (.long cc), .second, .val (.long dd), .second, .val (.int op), .val (.ref t), .val (.ref ar), .val (.int (0 : Int32)), .val (.int dq), .val (.int (2 : Int32)), .val (.int (0 : Int32)), .val (.int (0 : Int32)), .unset, .unset, .unset, .unset, .unset] []
    refine w_iconst ok at_188 (v := (0 : Int32)) rfl ?_
    refine w_istore ok at_189 (L' := #[.val (.long aa), .second, .val (.long bb), .second, .val (.long cc), .second, .val (.long dd), .second, .val (.int op), .val (.ref t), .val (.ref ar), .val (.int (0 : Int32)), .val (.int dq), .val (.int (2 : Int32)), .val (.int (0 : Int32)), .val (.int (0 : Int32)), .val (.int (0 : Int32)), .unset, .unset, .unset, .unset]) rfl ?_
    refine w_aload ok at_191 rfl rfl ?_
    refine w_callV ok (y := (⟨"com/example/rowan/rowan/store/IdleHeap", "first", "()I"⟩ : MethodName)) (a := t) (argsL := []) (rest := []) at_193 (hw _ (List.mem_of_getElem? (i := 79) rfl)) (hw _ (List.mem_of_getElem? (i := 80) rfl)) (hw _ (List.mem_of_getElem? (i := 82) rfl)) (hw _ (List.mem_of_getElem? (i := 81) rfl)) (hw _ (List.mem_of_getElem? (i := 2) rfl)) (hw _ (List.mem_of_getElem? (i := 83) rfl)) (by decide) A_t.1 pd_2829I rfl rfl (by decide) (Nat.le_of_ble_eq_true rfl) (by decide) (by decide) (fun z0 => rm_first l Z a0 hw [] n0 h0 z0 t en ti sl sz e g τ A_t A_en A_ti A_sl ge_t ge_en ge_ti ge_sl ne_t_en ne_t_ti ne_t_sl ne_en_ti ne_en_sl ne_ti_sl M P H) (fun v38 h39 qv38 => ?_)
    obtain ⟨rfl, ⟨hs0, rfl⟩ | ⟨y, hy, hs, ey, rfl⟩⟩ := qv38
    · skip
      show W K l _ n0 _ h0 8 19 196 #[.val (.long aa), .second, .val (.long bb), .second, .val (.long cc), .second, .val (.long dd), .second, .val (.int op), .val (.ref t), .val (.ref ar), .val (.int (0 : Int32)), .val (.int dq), .val (.int (2 : Int32)), .val (.int (0 : Int32)), .val (.int (0 : Int32)), .val (.int (0 : Int32)), .unset, .unset, .unset, .unset] [(.int (-1 : Int32))]
      refine w_istore ok at_196 (L' := #[.val (.long aa), .second, .val (.long bb), .second, .val (.long cc), .second, .val (.long dd), .second, .val (.int op), .val (.ref t), .val (.ref ar), .val (.int (0 : Int32)), .val (.int dq), .val (.int (2 : Int32)), .val (.int (0 : Int32)), .val (.int (0 : Int32)), .val (.int (0 : Int32)), .val (.int (-1 : Int32)), .unset, .unset, .unset]) rfl ?_
      refine w_iload ok at_198 rfl ?_
      refine w_if_ne ok at_200 (pc' := 225) (by decide) (fun hc41 => False.elim (by revert hc41; decide)) (fun hc41 => ?_)
      show W K l _ n0 _ h0 8 19 203 #[.val (.long aa), .second, .val (.long bb), .second, .val (.long cc), .second, .val (.long dd), .second, .val (.int op), .val (.ref t), .val (.ref ar), .val (.int (0 : Int32)), .val (.int dq), .val (.int (2 : Int32)), .val (.int (0 : Int32)), .val (.int (0 : Int32)), .val (.int (0 : Int32)), .val (.int (-1 : Int32)), .unset, .unset, .unset] []
      refine w_iload ok at_203 rfl ?_
      refine w_if_ne ok at_205 (pc' := 225) (by decide) (fun hc43 => False.elim (by revert hc43; decide)) (fun hc43 => ?_)
      show W K l _ n0 _ h0 8 19 208 #[.val (.long aa), .second, .val (.long bb), .second, .val (.long cc), .second, .val (.long dd), .second, .val (.int op), .val (.ref t), .val (.ref ar), .val (.int (0 : Int32)), .val (.int dq), .val (.int (2 : Int32)), .val (.int (0 : Int32)), .val (.int (0 : Int32)), .val (.int (0 : Int32)), .val (.int (-1 : Int32)), .unset, .unset, .unset] []
      refine w_iload ok at_208 rfl ?_
      refine w_if_ne ok at_210 (pc' := 225) (by decide) (fun hc45 => False.elim (by revert hc45; decide)) (fun hc45 => ?_)
      show W K l _ n0 _ h0 8 19 213 #[.val (.long aa), .second, .val (.long bb), .second, .val (.long cc), .second, .val (.long dd), .second, .val (.int op), .val (.ref t), .val (.ref ar), .val (.int (0 : Int32)), .val (.int dq), .val (.int (2 : Int32)), .val (.int (0 : Int32)), .val (.int (0 : Int32)), .val (.int (0 : Int32)), .val (.int (-1 : Int32)), .unset, .unset, .unset] []
      refine w_iload ok at_213 rfl ?_
      refine w_iconst ok at_215 (v := (-1 : Int32)) rfl ?_
      refine w_icmp_ne ok at_216 (pc' := 223) (by decide) (fun hc47 => False.elim (by revert hc47; decide)) (fun hc47 => ?_)
      show W K l _ n0 _ h0 8 19 219 #[.val (.long aa), .second, .val (.long bb), .second, .val (.long cc), .second, .val (.long dd), .second, .val (.int op), .val (.ref t), .val (.ref ar), .val (.int (0 : Int32)), .val (.int dq), .val (.int (2 : Int32)), .val (.int (0 : Int32)), .val (.int (0 : Int32)), .val (.int (0 : Int32)), .val (.int (-1 : Int32)), .unset, .unset, .unset] []
      refine w_iconst ok at_219 (v := (1 : Int32)) rfl ?_
      refine w_goto ok at_220 (pc' := 224) (by decide) ?_
      refine w_bret ok (by simp) at_224 (by decide) (by decide) ?_
      exact rfl
    · have my := (P.at hs hy ey).1
      obtain rfl | rfl | rfl | rfl : y = 0 ∨ y = 1 ∨ y = 2 ∨ y = 3 := by omega
      · exact absurd (my.symm.trans ((hM 0 (by decide)).trans (if_neg (by decide)))) (fun q => by cases q)
      · exact absurd (my.symm.trans ((hM 1 (by decide)).trans (if_neg (by decide)))) (fun q => by cases q)
      · exact absurd (my.symm.trans ((hM 2 (by decide)).trans (if_neg (by decide)))) (fun q => by cases q)
      · exact absurd (my.symm.trans ((hM 3 (by decide)).trans (if_neg (by decide)))) (fun q => by cases q)
  · skip
    show W K l _ n0 _ h0 8 19 135 #[.val (.long aa), .second, .val (.long bb), .second, .val (.long cc), .second, .val (.long dd), .second, .val (.int op), .val (.ref t), .val (.ref ar), .val (.int (0 : Int32)), .val (.int dq), .val (.int (3 : Int32)), .unset, .unset, .unset, .unset, .unset, .unset, .unset] []
    refine w_iconst ok at_135 (v := (0 : Int32)) rfl ?_
    refine w_iload ok at_136 rfl ?_
    refine w_icmp_ge ok at_138 (pc' := 150) (by decide) (fun hc49 => ?_) (fun hc49 => False.elim (by revert hc49; decide))
    show W K l _ n0 _ h0 8 19 150 #[.val (.long aa), .second, .val (.long bb), .second, .val (.long cc), .second, .val (.long dd), .second, .val (.int op), .val (.ref t), .val (.ref ar), .val (.int (0 : Int32)), .val (.int dq), .val (.int (3 : Int32)), .unset, .unset, .unset, .unset, .unset, .unset, .unset] []
    refine w_iconst ok at_150 (v := (0 : Int32)) rfl ?_
    refine w_istore ok at_151 (L' := #[.val (.long aa), .second, .val (.long bb), .second, .val (.long cc), .second, .val (.long dd), .second, .val (.int op), .val (.ref t), .val (.ref ar), .val (.int (0 : Int32)), .val (.int dq), .val (.int (3 : Int32)), .val (.int (0 : Int32)), .unset, .unset, .unset, .unset, .unset, .unset]) rfl ?_
    refine w_iconst ok at_153 (v := (1 : Int32)) rfl ?_
    refine w_iload ok at_154 rfl ?_
    refine w_icmp_ge ok at_156 (pc' := 169) (by decide) (fun hc51 => ?_) (fun hc51 => False.elim (by revert hc51; decide))
    show W K l _ n0 _ h0 8 19 169 #[.val (.long aa), .second, .val (.long bb), .second, .val (.long cc), .second, .val (.long dd), .second, .val (.int op), .val (.ref t), .val (.ref ar), .val (.int (0 : Int32)), .val (.int dq), .val (.int (3 : Int32)), .val (.int (0 : Int32)), .unset, .unset, .unset, .unset, .unset, .unset] []
    refine w_iconst ok at_169 (v := (0 : Int32)) rfl ?_
    refine w_istore ok at_170 (L' := #[.val (.long aa), .second, .val (.long bb), .second, .val (.long cc), .second, .val (.long dd), .second, .val (.int op), .val (.ref t), .val (.ref ar), .val (.int (0 : Int32)), .val (.int dq), .val (.int (3 : Int32)), .val (.int (0 : Int32)), .val (.int (0 : Int32)), .unset, .unset, .unset, .unset, .unset]) rfl ?_
    refine w_iconst ok at_172 (v := (2 : Int32)) rfl ?_
    refine w_iload ok at_173 rfl ?_
    refine w_icmp_ge ok at_175 (pc' := 188) (by decide) (fun hc53 => ?_) (fun hc53 => False.elim (by revert hc53; decide))
    show W K l _ n0 _ h0 8 19 188 #[.val (.long aa), .second, .val (.long bb), .second, .val (.long cc), .second, .val (.long dd), .second, .val (.int op), .val (.ref t), .val (.ref ar), .val (.int (0 : Int32)), .val (.int dq), .val (.int (3 : Int32)), .val (.int (0 : Int32)), .val (.int (0 : Int32)), .unset, .unset, .unset, .unset, .unset] []
    refine w_iconst ok at_188 (v := (0 : Int32)) rfl ?_
    refine w_istore ok at_189 (L' := #[.val (.long aa), .second, .val (.long bb), .second, .val (.long cc), .second, .val (.long dd), .second, .val (.int op), .val (.ref t), .val (.ref ar), .val (.int (0 : Int32)), .val (.int dq), .val (.int (3 : Int32)), .val (.int (0 : Int32)), .val (.int (0 : Int32)), .val (.int (0 : Int32)), .unset, .unset, .unset, .unset]) rfl ?_
    refine w_aload ok at_191 rfl rfl ?_
    refine w_callV ok (y := (⟨"com/example/rowan/rowan/store/IdleHeap", "first", "()I"⟩ : MethodName)) (a := t) (argsL := []) (rest := []) at_193 (hw _ (List.mem_of_getElem? (i := 79) rfl)) (hw _ (List.mem_of_getElem? (i := 80) rfl)) (hw _ (List.mem_of_getElem? (i := 82) rfl)) (hw _ (List.mem_of_getElem? (i := 81) rfl)) (hw _ (List.mem_of_getElem? (i := 2) rfl)) (hw _ (List.mem_of_getElem? (i := 83) rfl)) (by decide) A_t.1 pd_2829I rfl rfl (by decide) (Nat.le_of_ble_eq_true rfl) (by decide) (by decide) (fun z0 => rm_first l Z a0 hw [] n0 h0 z0 t en ti sl sz e g τ A_t A_en A_ti A_sl ge_t ge_en ge_ti ge_sl ne_t_en ne_t_ti ne_t_sl ne_en_ti ne_en_sl ne_ti_sl M P H) (fun v54 h55 qv54 => ?_)
    obtain ⟨rfl, ⟨hs0, rfl⟩ | ⟨y, hy, hs, ey, rfl⟩⟩ := qv54
    · skip
      show W K l _ n0 _ h0 8 19 196 #[.val (.long aa), .second, .val (.long bb), .second, .val (.long cc), .second, .val (.long dd), .second, .val (.int op), .val (.ref t), .val (.ref ar), .val (.int (0 : Int32)), .val (.int dq), .val (.int (3 : Int32)), .val (.int (0 : Int32)), .val (.int (0 : Int32)), .val (.int (0 : Int32)), .unset, .unset, .unset, .unset] [(.int (-1 : Int32))]
      refine w_istore ok at_196 (L' := #[.val (.long aa), .second, .val (.long bb), .second, .val (.long cc), .second, .val (.long dd), .second, .val (.int op), .val (.ref t), .val (.ref ar), .val (.int (0 : Int32)), .val (.int dq), .val (.int (3 : Int32)), .val (.int (0 : Int32)), .val (.int (0 : Int32)), .val (.int (0 : Int32)), .val (.int (-1 : Int32)), .unset, .unset, .unset]) rfl ?_
      refine w_iload ok at_198 rfl ?_
      refine w_if_ne ok at_200 (pc' := 225) (by decide) (fun hc57 => False.elim (by revert hc57; decide)) (fun hc57 => ?_)
      show W K l _ n0 _ h0 8 19 203 #[.val (.long aa), .second, .val (.long bb), .second, .val (.long cc), .second, .val (.long dd), .second, .val (.int op), .val (.ref t), .val (.ref ar), .val (.int (0 : Int32)), .val (.int dq), .val (.int (3 : Int32)), .val (.int (0 : Int32)), .val (.int (0 : Int32)), .val (.int (0 : Int32)), .val (.int (-1 : Int32)), .unset, .unset, .unset] []
      refine w_iload ok at_203 rfl ?_
      refine w_if_ne ok at_205 (pc' := 225) (by decide) (fun hc59 => False.elim (by revert hc59; decide)) (fun hc59 => ?_)
      show W K l _ n0 _ h0 8 19 208 #[.val (.long aa), .second, .val (.long bb), .second, .val (.long cc), .second, .val (.long dd), .second, .val (.int op), .val (.ref t), .val (.ref ar), .val (.int (0 : Int32)), .val (.int dq), .val (.int (3 : Int32)), .val (.int (0 : Int32)), .val (.int (0 : Int32)), .val (.int (0 : Int32)), .val (.int (-1 : Int32)), .unset, .unset, .unset] []
      refine w_iload ok at_208 rfl ?_
      refine w_if_ne ok at_210 (pc' := 225) (by decide) (fun hc61 => False.elim (by revert hc61; decide)) (fun hc61 => ?_)
      show W K l _ n0 _ h0 8 19 213 #[.val (.long aa), .second, .val (.long bb), .second, .val (.long cc), .second, .val (.long dd), .second, .val (.int op), .val (.ref t), .val (.ref ar), .val (.int (0 : Int32)), .val (.int dq), .val (.int (3 : Int32)), .val (.int (0 : Int32)), .val (.int (0 : Int32)), .val (.int (0 : Int32)), .val (.int (-1 : Int32)), .unset, .unset, .unset] []
      refine w_iload ok at_213 rfl ?_
      refine w_iconst ok at_215 (v := (-1 : Int32)) rfl ?_
      refine w_icmp_ne ok at_216 (pc' := 223) (by decide) (fun hc63 => False.elim (by revert hc63; decide)) (fun hc63 => ?_)
      show W K l _ n0 _ h0 8 19 219 #[.val (.long aa), .second, .val (.long bb), .second, .val (.long cc), .second, .val (.long dd), .second, .val (.int op), .val (.ref t), .val (.ref ar), .val (.int (0 : Int32)), .val (.int dq), .val (.int (3 : Int32)), .val (.int (0 : Int32)), .val (.int (0 : Int32)), .val (.int (0 : Int32)), .val (.int (-1 : Int32)), .unset, .unset, .unset] []
      refine w_iconst ok at_219 (v := (1 : Int32)) rfl ?_
      refine w_goto ok at_220 (pc' := 224) (by decide) ?_
      refine w_bret ok (by simp) at_224 (by decide) (by decide) ?_
      exact rfl
    · have my := (P.at hs hy ey).1
      obtain rfl | rfl | rfl | rfl : y = 0 ∨ y = 1 ∨ y = 2 ∨ y = 3 := by omega
      · exact absurd (my.symm.trans ((hM 0 (by decide)).trans (if_neg (by decide)))) (fun q => by cases q)
      · exact absurd (my.symm.trans ((hM 1 (by decide)).trans (if_neg (by decide)))) (fun q => by cases q)
      · exact absurd (my.symm.trans ((hM 2 (by decide)).trans (if_neg (by decide)))) (fun q => by cases q)
      · exact absurd (my.symm.trans ((hM 3 (by decide)).trans (if_neg (by decide)))) (fun q => by cases q)
  · skip
    show W K l _ n0 _ h0 8 19 135 #[.val (.long aa), .second, .val (.long bb), .second, .val (.long cc), .second, .val (.long dd), .second, .val (.int op), .val (.ref t), .val (.ref ar), .val (.int (1 : Int32)), .val (.int dq), .val (.int (0 : Int32)), .unset, .unset, .unset, .unset, .unset, .unset, .unset] []
    refine w_iconst ok at_135 (v := (0 : Int32)) rfl ?_
    refine w_iload ok at_136 rfl ?_
    refine w_icmp_ge ok at_138 (pc' := 150) (by decide) (fun hc65 => False.elim (by revert hc65; decide)) (fun hc65 => ?_)
    show W K l _ n0 _ h0 8 19 141 #[.val (.long aa), .second, .val (.long bb), .second, .val (.long cc), .second, .val (.long dd), .second, .val (.int op), .val (.ref t), .val (.ref ar), .val (.int (1 : Int32)), .val (.int dq), .val (.int (0 : Int32)), .unset, .unset, .unset, .unset, .unset, .unset, .unset] []
    refine w_iload ok at_141 rfl ?_
    refine w_if_eq ok at_143 (pc' := 150) (by decide) (fun hc67 => ?_) (fun hc67 => False.elim (by revert hc67; decide))
    show W K l _ n0 _ h0 8 19 150 #[.val (.long aa), .second, .val (.long bb), .second, .val (.long cc), .second, .val (.long dd), .second, .val (.int op), .val (.ref t), .val (.ref ar), .val (.int (1 : Int32)), .val (.int dq), .val (.int (0 : Int32)), .unset, .unset, .unset, .unset, .unset, .unset, .unset] []
    refine w_iconst ok at_150 (v := (0 : Int32)) rfl ?_
    refine w_istore ok at_151 (L' := #[.val (.long aa), .second, .val (.long bb), .second, .val (.long cc), .second, .val (.long dd), .second, .val (.int op), .val (.ref t), .val (.ref ar), .val (.int (1 : Int32)), .val (.int dq), .val (.int (0 : Int32)), .val (.int (0 : Int32)), .unset, .unset, .unset, .unset, .unset, .unset]) rfl ?_
    refine w_iconst ok at_153 (v := (1 : Int32)) rfl ?_
    refine w_iload ok at_154 rfl ?_
    refine w_icmp_ge ok at_156 (pc' := 169) (by decide) (fun hc69 => ?_) (fun hc69 => False.elim (by revert hc69; decide))
    show W K l _ n0 _ h0 8 19 169 #[.val (.long aa), .second, .val (.long bb), .second, .val (.long cc), .second, .val (.long dd), .second, .val (.int op), .val (.ref t), .val (.ref ar), .val (.int (1 : Int32)), .val (.int dq), .val (.int (0 : Int32)), .val (.int (0 : Int32)), .unset, .unset, .unset, .unset, .unset, .unset] []
    refine w_iconst ok at_169 (v := (0 : Int32)) rfl ?_
    refine w_istore ok at_170 (L' := #[.val (.long aa), .second, .val (.long bb), .second, .val (.long cc), .second, .val (.long dd), .second, .val (.int op), .val (.ref t), .val (.ref ar), .val (.int (1 : Int32)), .val (.int dq), .val (.int (0 : Int32)), .val (.int (0 : Int32)), .val (.int (0 : Int32)), .unset, .unset, .unset, .unset, .unset]) rfl ?_
    refine w_iconst ok at_172 (v := (2 : Int32)) rfl ?_
    refine w_iload ok at_173 rfl ?_
    refine w_icmp_ge ok at_175 (pc' := 188) (by decide) (fun hc71 => ?_) (fun hc71 => False.elim (by revert hc71; decide))
    show W K l _ n0 _ h0 8 19 188 #[.val (.long aa), .second, .val (.long bb), .second, .val (.long cc), .second, .val (.long dd), .second, .val (.int op), .val (.ref t), .val (.ref ar), .val (.int (1 : Int32)), .val (.int dq), .val (.int (0 : Int32)), .val (.int (0 : Int32)), .val (.int (0 : Int32)), .unset, .unset, .unset, .unset, .unset] []
    refine w_iconst ok at_188 (v := (0 : Int32)) rfl ?_
    refine w_istore ok at_189 (L' := #[.val (.long aa), .second, .val (.long bb), .second, .val (.long cc), .second, .val (.long dd), .second, .val (.int op), .val (.ref t), .val (.ref ar), .val (.int (1 : Int32)), .val (.int dq), .val (.int (0 : Int32)), .val (.int (0 : Int32)), .val (.int (0 : Int32)), .val (.int (0 : Int32)), .unset, .unset, .unset, .unset]) rfl ?_
    refine w_aload ok at_191 rfl rfl ?_
    refine w_callV ok (y := (⟨"com/example/rowan/rowan/store/IdleHeap", "first", "()I"⟩ : MethodName)) (a := t) (argsL := []) (rest := []) at_193 (hw _ (List.mem_of_getElem? (i := 79) rfl)) (hw _ (List.mem_of_getElem? (i := 80) rfl)) (hw _ (List.mem_of_getElem? (i := 82) rfl)) (hw _ (List.mem_of_getElem? (i := 81) rfl)) (hw _ (List.mem_of_getElem? (i := 2) rfl)) (hw _ (List.mem_of_getElem? (i := 83) rfl)) (by decide) A_t.1 pd_2829I rfl rfl (by decide) (Nat.le_of_ble_eq_true rfl) (by decide) (by decide) (fun z0 => rm_first l Z a0 hw [] n0 h0 z0 t en ti sl sz e g τ A_t A_en A_ti A_sl ge_t ge_en ge_ti ge_sl ne_t_en ne_t_ti ne_t_sl ne_en_ti ne_en_sl ne_ti_sl M P H) (fun v72 h73 qv72 => ?_)
    obtain ⟨rfl, ⟨hs0, rfl⟩ | ⟨y, hy, hs, ey, rfl⟩⟩ := qv72
    · skip
      show W K l _ n0 _ h0 8 19 196 #[.val (.long aa), .second, .val (.long bb), .second, .val (.long cc), .second, .val (.long dd), .second, .val (.int op), .val (.ref t), .val (.ref ar), .val (.int (1 : Int32)), .val (.int dq), .val (.int (0 : Int32)), .val (.int (0 : Int32)), .val (.int (0 : Int32)), .val (.int (0 : Int32)), .unset, .unset, .unset, .unset] [(.int (-1 : Int32))]
      refine w_istore ok at_196 (L' := #[.val (.long aa), .second, .val (.long bb), .second, .val (.long cc), .second, .val (.long dd), .second, .val (.int op), .val (.ref t), .val (.ref ar), .val (.int (1 : Int32)), .val (.int dq), .val (.int (0 : Int32)), .val (.int (0 : Int32)), .val (.int (0 : Int32)), .val (.int (0 : Int32)), .val (.int (-1 : Int32)), .unset, .unset, .unset]) rfl ?_
      refine w_iload ok at_198 rfl ?_
      refine w_if_ne ok at_200 (pc' := 225) (by decide) (fun hc75 => False.elim (by revert hc75; decide)) (fun hc75 => ?_)
      show W K l _ n0 _ h0 8 19 203 #[.val (.long aa), .second, .val (.long bb), .second, .val (.long cc), .second, .val (.long dd), .second, .val (.int op), .val (.ref t), .val (.ref ar), .val (.int (1 : Int32)), .val (.int dq), .val (.int (0 : Int32)), .val (.int (0 : Int32)), .val (.int (0 : Int32)), .val (.int (0 : Int32)), .val (.int (-1 : Int32)), .unset, .unset, .unset] []
      refine w_iload ok at_203 rfl ?_
      refine w_if_ne ok at_205 (pc' := 225) (by decide) (fun hc77 => False.elim (by revert hc77; decide)) (fun hc77 => ?_)
      show W K l _ n0 _ h0 8 19 208 #[.val (.long aa), .second, .val (.long bb), .second, .val (.long cc), .second, .val (.long dd), .second, .val (.int op), .val (.ref t), .val (.ref ar), .val (.int (1 : Int32)), .val (.int dq), .val (.int (0 : Int32)), .val (.int (0 : Int32)), .val (.int (0 : Int32)), .val (.int (0 : Int32)), .val (.int (-1 : Int32)), .unset, .unset, .unset] []
      refine w_iload ok at_208 rfl ?_
      refine w_if_ne ok at_210 (pc' := 225) (by decide) (fun hc79 => False.elim (by revert hc79; decide)) (fun hc79 => ?_)
      show W K l _ n0 _ h0 8 19 213 #[.val (.long aa), .second, .val (.long bb), .second, .val (.long cc), .second, .val (.long dd), .second, .val (.int op), .val (.ref t), .val (.ref ar), .val (.int (1 : Int32)), .val (.int dq), .val (.int (0 : Int32)), .val (.int (0 : Int32)), .val (.int (0 : Int32)), .val (.int (0 : Int32)), .val (.int (-1 : Int32)), .unset, .unset, .unset] []
      refine w_iload ok at_213 rfl ?_
      refine w_iconst ok at_215 (v := (-1 : Int32)) rfl ?_
      refine w_icmp_ne ok at_216 (pc' := 223) (by decide) (fun hc81 => False.elim (by revert hc81; decide)) (fun hc81 => ?_)
      show W K l _ n0 _ h0 8 19 219 #[.val (.long aa), .second, .val (.long bb), .second, .val (.long cc), .second, .val (.long dd), .second, .val (.int op), .val (.ref t), .val (.ref ar), .val (.int (1 : Int32)), .val (.int dq), .val (.int (0 : Int32)), .val (.int (0 : Int32)), .val (.int (0 : Int32)), .val (.int (0 : Int32)), .val (.int (-1 : Int32)), .unset, .unset, .unset] []
      refine w_iconst ok at_219 (v := (1 : Int32)) rfl ?_
      refine w_goto ok at_220 (pc' := 224) (by decide) ?_
      refine w_bret ok (by simp) at_224 (by decide) (by decide) ?_
      exact rfl
    · have my := (P.at hs hy ey).1
      obtain rfl | rfl | rfl | rfl : y = 0 ∨ y = 1 ∨ y = 2 ∨ y = 3 := by omega
      · exact absurd (my.symm.trans ((hM 0 (by decide)).trans (if_neg (by decide)))) (fun q => by cases q)
      · exact absurd (my.symm.trans ((hM 1 (by decide)).trans (if_neg (by decide)))) (fun q => by cases q)
      · exact absurd (my.symm.trans ((hM 2 (by decide)).trans (if_neg (by decide)))) (fun q => by cases q)
      · exact absurd (my.symm.trans ((hM 3 (by decide)).trans (if_neg (by decide)))) (fun q => by cases q)
  · skip
    show W K l _ n0 _ h0 8 19 135 #[.val (.long aa), .second, .val (.long bb), .second, .val (.long cc), .second, .val (.long dd), .second, .val (.int op), .val (.ref t), .val (.ref ar), .val (.int (1 : Int32)), .val (.int dq), .val (.int (1 : Int32)), .unset, .unset, .unset, .unset, .unset, .unset, .unset] []
    refine w_iconst ok at_135 (v := (0 : Int32)) rfl ?_
    refine w_iload ok at_136 rfl ?_
    refine w_icmp_ge ok at_138 (pc' := 150) (by decide) (fun hc83 => False.elim (by revert hc83; decide)) (fun hc83 => ?_)
    show W K l _ n0 _ h0 8 19 141 #[.val (.long aa), .second, .val (.long bb), .second, .val (.long cc), .second, .val (.long dd), .second, .val (.int op), .val (.ref t), .val (.ref ar), .val (.int (1 : Int32)), .val (.int dq), .val (.int (1 : Int32)), .unset, .unset, .unset, .unset, .unset, .unset, .unset] []
    refine w_iload ok at_141 rfl ?_
    refine w_if_eq ok at_143 (pc' := 150) (by decide) (fun hc85 => False.elim (by revert hc85; decide)) (fun hc85 => ?_)
    show W K l _ n0 _ h0 8 19 146 #[.val (.long aa), .second, .val (.long bb), .second, .val (.long cc), .second, .val (.long dd), .second, .val (.int op), .val (.ref t), .val (.ref ar), .val (.int (1 : Int32)), .val (.int dq), .val (.int (1 : Int32)), .unset, .unset, .unset, .unset, .unset, .unset, .unset] []
    refine w_iconst ok at_146 (v := (1 : Int32)) rfl ?_
    refine w_goto ok at_147 (pc' := 151) (by decide) ?_
    refine w_istore ok at_151 (L' := #[.val (.long aa), .second, .val (.long bb), .second, .val (.long cc), .second, .val (.long dd), .second, .val (.int op), .val (.ref t), .val (.ref ar), .val (.int (1 : Int32)), .val (.int dq), .val (.int (1 : Int32)), .val (.int (1 : Int32)), .unset, .unset, .unset, .unset, .unset, .unset]) rfl ?_
    refine w_iconst ok at_153 (v := (1 : Int32)) rfl ?_
    refine w_iload ok at_154 rfl ?_
    refine w_icmp_ge ok at_156 (pc' := 169) (by decide) (fun hc87 => ?_) (fun hc87 => False.elim (by revert hc87; decide))
    show W K l _ n0 _ h0 8 19 169 #[.val (.long aa), .second, .val (.long bb), .second, .val (.long cc), .second, .val (.long dd), .second, .val (.int op), .val (.ref t), .val (.ref ar), .val (.int (1 : Int32)), .val (.int dq), .val (.int (1 : Int32)), .val (.int (1 : Int32)), .unset, .unset, .unset, .unset, .unset, .unset] []
    refine w_iconst ok at_169 (v := (0 : Int32)) rfl ?_
    refine w_istore ok at_170 (L' := #[.val (.long aa), .second, .val (.long bb), .second, .val (.long cc), .second, .val (.long dd), .second, .val (.int op), .val (.ref t), .val (.ref ar), .val (.int (1 : Int32)), .val (.int dq), .val (.int (1 : Int32)), .val (.int (1 : Int32)), .val (.int (0 : Int32)), .unset, .unset, .unset, .unset, .unset]) rfl ?_
    refine w_iconst ok at_172 (v := (2 : Int32)) rfl ?_
    refine w_iload ok at_173 rfl ?_
    refine w_icmp_ge ok at_175 (pc' := 188) (by decide) (fun hc89 => ?_) (fun hc89 => False.elim (by revert hc89; decide))
    show W K l _ n0 _ h0 8 19 188 #[.val (.long aa), .second, .val (.long bb), .second, .val (.long cc), .second, .val (.long dd), .second, .val (.int op), .val (.ref t), .val (.ref ar), .val (.int (1 : Int32)), .val (.int dq), .val (.int (1 : Int32)), .val (.int (1 : Int32)), .val (.int (0 : Int32)), .unset, .unset, .unset, .unset, .unset] []
    refine w_iconst ok at_188 (v := (0 : Int32)) rfl ?_
    refine w_istore ok at_189 (L' := #[.val (.long aa), .second, .val (.long bb), .second, .val (.long cc), .second, .val (.long dd), .second, .val (.int op), .val (.ref t), .val (.ref ar), .val (.int (1 : Int32)), .val (.int dq), .val (.int (1 : Int32)), .val (.int (1 : Int32)), .val (.int (0 : Int32)), .val (.int (0 : Int32)), .unset, .unset, .unset, .unset]) rfl ?_
    refine w_aload ok at_191 rfl rfl ?_
    refine w_callV ok (y := (⟨"com/example/rowan/rowan/store/IdleHeap", "first", "()I"⟩ : MethodName)) (a := t) (argsL := []) (rest := []) at_193 (hw _ (List.mem_of_getElem? (i := 79) rfl)) (hw _ (List.mem_of_getElem? (i := 80) rfl)) (hw _ (List.mem_of_getElem? (i := 82) rfl)) (hw _ (List.mem_of_getElem? (i := 81) rfl)) (hw _ (List.mem_of_getElem? (i := 2) rfl)) (hw _ (List.mem_of_getElem? (i := 83) rfl)) (by decide) A_t.1 pd_2829I rfl rfl (by decide) (Nat.le_of_ble_eq_true rfl) (by decide) (by decide) (fun z0 => rm_first l Z a0 hw [] n0 h0 z0 t en ti sl sz e g τ A_t A_en A_ti A_sl ge_t ge_en ge_ti ge_sl ne_t_en ne_t_ti ne_t_sl ne_en_ti ne_en_sl ne_ti_sl M P H) (fun v90 h91 qv90 => ?_)
    obtain ⟨rfl, ⟨hs0, rfl⟩ | ⟨y, hy, hs, ey, rfl⟩⟩ := qv90
    · subst hs0; exact (own_none0 P (by decide) ((hM 0 (by decide)).trans (if_pos (by decide)))).elim
    · have my := (P.at hs hy ey).1
      obtain rfl | rfl | rfl | rfl : y = 0 ∨ y = 1 ∨ y = 2 ∨ y = 3 := by omega
      · skip
        show W K l _ n0 _ h0 8 19 196 #[.val (.long aa), .second, .val (.long bb), .second, .val (.long cc), .second, .val (.long dd), .second, .val (.int op), .val (.ref t), .val (.ref ar), .val (.int (1 : Int32)), .val (.int dq), .val (.int (1 : Int32)), .val (.int (1 : Int32)), .val (.int (0 : Int32)), .val (.int (0 : Int32)), .unset, .unset, .unset, .unset] [(.int (0 : Int32))]
        refine w_istore ok at_196 (L' := #[.val (.long aa), .second, .val (.long bb), .second, .val (.long cc), .second, .val (.long dd), .second, .val (.int op), .val (.ref t), .val (.ref ar), .val (.int (1 : Int32)), .val (.int dq), .val (.int (1 : Int32)), .val (.int (1 : Int32)), .val (.int (0 : Int32)), .val (.int (0 : Int32)), .val (.int (0 : Int32)), .unset, .unset, .unset]) rfl ?_
        refine w_iload ok at_198 rfl ?_
        refine w_if_ne ok at_200 (pc' := 225) (by decide) (fun hc93 => ?_) (fun hc93 => False.elim (by revert hc93; decide))
        show W K l _ n0 _ h0 8 19 225 #[.val (.long aa), .second, .val (.long bb), .second, .val (.long cc), .second, .val (.long dd), .second, .val (.int op), .val (.ref t), .val (.ref ar), .val (.int (1 : Int32)), .val (.int dq), .val (.int (1 : Int32)), .val (.int (1 : Int32)), .val (.int (0 : Int32)), .val (.int (0 : Int32)), .val (.int (0 : Int32)), .unset, .unset, .unset] []
        refine w_iload ok at_225 rfl ?_
        refine w_if_lt ok at_227 (pc' := 236) (by decide) (fun hc95 => False.elim (by revert hc95; decide)) (fun hc95 => ?_)
        show W K l _ n0 _ h0 8 19 230 #[.val (.long aa), .second, .val (.long bb), .second, .val (.long cc), .second, .val (.long dd), .second, .val (.int op), .val (.ref t), .val (.ref ar), .val (.int (1 : Int32)), .val (.int dq), .val (.int (1 : Int32)), .val (.int (1 : Int32)), .val (.int (0 : Int32)), .val (.int (0 : Int32)), .val (.int (0 : Int32)), .unset, .unset, .unset] []
        refine w_iload ok at_230 rfl ?_
        refine w_iconst ok at_232 (v := (2 : Int32)) rfl ?_
        refine w_icmp_le ok at_233 (pc' := 238) (by decide) (fun hc97 => ?_) (fun hc97 => False.elim (by revert hc97; decide))
        show W K l _ n0 _ h0 8 19 238 #[.val (.long aa), .second, .val (.long bb), .second, .val (.long cc), .second, .val (.long dd), .second, .val (.int op), .val (.ref t), .val (.ref ar), .val (.int (1 : Int32)), .val (.int dq), .val (.int (1 : Int32)), .val (.int (1 : Int32)), .val (.int (0 : Int32)), .val (.int (0 : Int32)), .val (.int (0 : Int32)), .unset, .unset, .unset] []
        refine w_iload ok at_238 rfl ?_
        refine w_if_ne ok at_240 (pc' := 248) (by decide) (fun hc99 => False.elim (by revert hc99; decide)) (fun hc99 => ?_)
        show W K l _ n0 _ h0 8 19 243 #[.val (.long aa), .second, .val (.long bb), .second, .val (.long cc), .second, .val (.long dd), .second, .val (.int op), .val (.ref t), .val (.ref ar), .val (.int (1 : Int32)), .val (.int dq), .val (.int (1 : Int32)), .val (.int (1 : Int32)), .val (.int (0 : Int32)), .val (.int (0 : Int32)), .val (.int (0 : Int32)), .unset, .unset, .unset] []
        refine w_iload ok at_243 rfl ?_
        refine w_goto ok at_245 (pc' := 261) (by decide) ?_
        refine w_istore ok at_261 (L' := #[.val (.long aa), .second, .val (.long bb), .second, .val (.long cc), .second, .val (.long dd), .second, .val (.int op), .val (.ref t), .val (.ref ar), .val (.int (1 : Int32)), .val (.int dq), .val (.int (1 : Int32)), .val (.int (1 : Int32)), .val (.int (0 : Int32)), .val (.int (0 : Int32)), .val (.int (0 : Int32)), .val (.int (1 : Int32)), .unset, .unset]) rfl ?_
        refine w_iload ok at_263 rfl ?_
        refine w_if_ne ok at_265 (pc' := 270) (by decide) (fun hc101 => ?_) (fun hc101 => False.elim (by revert hc101; decide))
        show W K l _ n0 _ h0 8 19 270 #[.val (.long aa), .second, .val (.long bb), .second, .val (.long cc), .second, .val (.long dd), .second, .val (.int op), .val (.ref t), .val (.ref ar), .val (.int (1 : Int32)), .val (.int dq), .val (.int (1 : Int32)), .val (.int (1 : Int32)), .val (.int (0 : Int32)), .val (.int (0 : Int32)), .val (.int (0 : Int32)), .val (.int (1 : Int32)), .unset, .unset] []
        refine w_aload ok at_270 rfl rfl ?_
        refine w_iload ok at_272 rfl ?_
        refine w_laload ok (v := (.long (T 0))) at_274 A_ar (by decide) rfl ?_
        refine w_lstore ok at_275 (L' := #[.val (.long aa), .second, .val (.long bb), .second, .val (.long cc), .second, .val (.long dd), .second, .val (.int op), .val (.ref t), .val (.ref ar), .val (.int (1 : Int32)), .val (.int dq), .val (.int (1 : Int32)), .val (.int (1 : Int32)), .val (.int (0 : Int32)), .val (.int (0 : Int32)), .val (.int (0 : Int32)), .val (.int (1 : Int32)), .val (.long (T 0)), .second]) rfl ?_
        refine w_iload ok at_277 rfl ?_
        refine w_if_eq ok at_279 (pc' := 292) (by decide) (fun hc103 => False.elim (by revert hc103; decide)) (fun hc103 => ?_)
        show W K l _ n0 _ h0 8 19 282 #[.val (.long aa), .second, .val (.long bb), .second, .val (.long cc), .second, .val (.long dd), .second, .val (.int op), .val (.ref t), .val (.ref ar), .val (.int (1 : Int32)), .val (.int dq), .val (.int (1 : Int32)), .val (.int (1 : Int32)), .val (.int (0 : Int32)), .val (.int (0 : Int32)), .val (.int (0 : Int32)), .val (.int (1 : Int32)), .val (.long (T 0)), .second] []
        refine w_lload ok at_282 rfl ?_
        refine w_aload ok at_284 rfl rfl ?_
        refine w_iconst ok at_286 (v := (0 : Int32)) rfl ?_
        refine w_laload ok (v := (.long (T 0))) at_287 A_ar (by decide) rfl ?_
        refine w_lcmp_gt ok at_288 at_289 (pc' := 326) (by decide) (fun hc105 => False.elim (by exact own_least P H hs hy ey (j := 0) (by decide) ((hM 0 (by decide)).trans (if_pos (by decide))) ((hM 0 (by decide)).trans (if_pos (by decide))) hc105)) (fun hc105 => ?_)
        show W K l _ n0 _ h0 8 19 292 #[.val (.long aa), .second, .val (.long bb), .second, .val (.long cc), .second, .val (.long dd), .second, .val (.int op), .val (.ref t), .val (.ref ar), .val (.int (1 : Int32)), .val (.int dq), .val (.int (1 : Int32)), .val (.int (1 : Int32)), .val (.int (0 : Int32)), .val (.int (0 : Int32)), .val (.int (0 : Int32)), .val (.int (1 : Int32)), .val (.long (T 0)), .second] []
        refine w_iload ok at_292 rfl ?_
        refine w_if_eq ok at_294 (pc' := 307) (by decide) (fun hc107 => ?_) (fun hc107 => False.elim (by revert hc107; decide))
        show W K l _ n0 _ h0 8 19 307 #[.val (.long aa), .second, .val (.long bb), .second, .val (.long cc), .second, .val (.long dd), .second, .val (.int op), .val (.ref t), .val (.ref ar), .val (.int (1 : Int32)), .val (.int dq), .val (.int (1 : Int32)), .val (.int (1 : Int32)), .val (.int (0 : Int32)), .val (.int (0 : Int32)), .val (.int (0 : Int32)), .val (.int (1 : Int32)), .val (.long (T 0)), .second] []
        refine w_iload ok at_307 rfl ?_
        refine w_if_eq ok at_309 (pc' := 322) (by decide) (fun hc109 => ?_) (fun hc109 => False.elim (by revert hc109; decide))
        show W K l _ n0 _ h0 8 19 322 #[.val (.long aa), .second, .val (.long bb), .second, .val (.long cc), .second, .val (.long dd), .second, .val (.int op), .val (.ref t), .val (.ref ar), .val (.int (1 : Int32)), .val (.int dq), .val (.int (1 : Int32)), .val (.int (1 : Int32)), .val (.int (0 : Int32)), .val (.int (0 : Int32)), .val (.int (0 : Int32)), .val (.int (1 : Int32)), .val (.long (T 0)), .second] []
        refine w_iconst ok at_322 (v := (1 : Int32)) rfl ?_
        refine w_goto ok at_323 (pc' := 327) (by decide) ?_
        refine w_bret ok (by simp) at_327 (by decide) (by decide) ?_
        exact rfl
      · exact absurd (my.symm.trans ((hM 1 (by decide)).trans (if_neg (by decide)))) (fun q => by cases q)
      · exact absurd (my.symm.trans ((hM 2 (by decide)).trans (if_neg (by decide)))) (fun q => by cases q)
      · exact absurd (my.symm.trans ((hM 3 (by decide)).trans (if_neg (by decide)))) (fun q => by cases q)
  · skip
    show W K l _ n0 _ h0 8 19 135 #[.val (.long aa), .second, .val (.long bb), .second, .val (.long cc), .second, .val (.long dd), .second, .val (.int op), .val (.ref t), .val (.ref ar), .val (.int (1 : Int32)), .val (.int dq), .val (.int (2 : Int32)), .unset, .unset, .unset, .unset, .unset, .unset, .unset] []
    refine w_iconst ok at_135 (v := (0 : Int32)) rfl ?_
    refine w_iload ok at_136 rfl ?_
    refine w_icmp_ge ok at_138 (pc' := 150) (by decide) (fun hc111 => False.elim (by revert hc111; decide)) (fun hc111 => ?_)
    show W K l _ n0 _ h0 8 19 141 #[.val (.long aa), .second, .val (.long bb), .second, .val (.long cc), .second, .val (.long dd), .second, .val (.int op), .val (.ref t), .val (.ref ar), .val (.int (1 : Int32)), .val (.int dq), .val (.int (2 : Int32)), .unset, .unset, .unset, .unset, .unset, .unset, .unset] []
    refine w_iload ok at_141 rfl ?_
    refine w_if_eq ok at_143 (pc' := 150) (by decide) (fun hc113 => False.elim (by revert hc113; decide)) (fun hc113 => ?_)
    show W K l _ n0 _ h0 8 19 146 #[.val (.long aa), .second, .val (.long bb), .second, .val (.long cc), .second, .val (.long dd), .second, .val (.int op), .val (.ref t), .val (.ref ar), .val (.int (1 : Int32)), .val (.int dq), .val (.int (2 : Int32)), .unset, .unset, .unset, .unset, .unset, .unset, .unset] []
    refine w_iconst ok at_146 (v := (1 : Int32)) rfl ?_
    refine w_goto ok at_147 (pc' := 151) (by decide) ?_
    refine w_istore ok at_151 (L' := #[.val (.long aa), .second, .val (.long bb), .second, .val (.long cc), .second, .val (.long dd), .second, .val (.int op), .val (.ref t), .val (.ref ar), .val (.int (1 : Int32)), .val (.int dq), .val (.int (2 : Int32)), .val (.int (1 : Int32)), .unset, .unset, .unset, .unset, .unset, .unset]) rfl ?_
    refine w_iconst ok at_153 (v := (1 : Int32)) rfl ?_
    refine w_iload ok at_154 rfl ?_
    refine w_icmp_ge ok at_156 (pc' := 169) (by decide) (fun hc115 => ?_) (fun hc115 => False.elim (by revert hc115; decide))
    show W K l _ n0 _ h0 8 19 169 #[.val (.long aa), .second, .val (.long bb), .second, .val (.long cc), .second, .val (.long dd), .second, .val (.int op), .val (.ref t), .val (.ref ar), .val (.int (1 : Int32)), .val (.int dq), .val (.int (2 : Int32)), .val (.int (1 : Int32)), .unset, .unset, .unset, .unset, .unset, .unset] []
    refine w_iconst ok at_169 (v := (0 : Int32)) rfl ?_
    refine w_istore ok at_170 (L' := #[.val (.long aa), .second, .val (.long bb), .second, .val (.long cc), .second, .val (.long dd), .second, .val (.int op), .val (.ref t), .val (.ref ar), .val (.int (1 : Int32)), .val (.int dq), .val (.int (2 : Int32)), .val (.int (1 : Int32)), .val (.int (0 : Int32)), .unset, .unset, .unset, .unset, .unset]) rfl ?_
    refine w_iconst ok at_172 (v := (2 : Int32)) rfl ?_
    refine w_iload ok at_173 rfl ?_
    refine w_icmp_ge ok at_175 (pc' := 188) (by decide) (fun hc117 => ?_) (fun hc117 => False.elim (by revert hc117; decide))
    show W K l _ n0 _ h0 8 19 188 #[.val (.long aa), .second, .val (.long bb), .second, .val (.long cc), .second, .val (.long dd), .second, .val (.int op), .val (.ref t), .val (.ref ar), .val (.int (1 : Int32)), .val (.int dq), .val (.int (2 : Int32)), .val (.int (1 : Int32)), .val (.int (0 : Int32)), .unset, .unset, .unset, .unset, .unset] []
    refine w_iconst ok at_188 (v := (0 : Int32)) rfl ?_
    refine w_istore ok at_189 (L' := #[.val (.long aa), .second, .val (.long bb), .second, .val (.long cc), .second, .val (.long dd), .second, .val (.int op), .val (.ref t), .val (.ref ar), .val (.int (1 : Int32)), .val (.int dq), .val (.int (2 : Int32)), .val (.int (1 : Int32)), .val (.int (0 : Int32)), .val (.int (0 : Int32)), .unset, .unset, .unset, .unset]) rfl ?_
    refine w_aload ok at_191 rfl rfl ?_
    refine w_callV ok (y := (⟨"com/example/rowan/rowan/store/IdleHeap", "first", "()I"⟩ : MethodName)) (a := t) (argsL := []) (rest := []) at_193 (hw _ (List.mem_of_getElem? (i := 79) rfl)) (hw _ (List.mem_of_getElem? (i := 80) rfl)) (hw _ (List.mem_of_getElem? (i := 82) rfl)) (hw _ (List.mem_of_getElem? (i := 81) rfl)) (hw _ (List.mem_of_getElem? (i := 2) rfl)) (hw _ (List.mem_of_getElem? (i := 83) rfl)) (by decide) A_t.1 pd_2829I rfl rfl (by decide) (Nat.le_of_ble_eq_true rfl) (by decide) (by decide) (fun z0 => rm_first l Z a0 hw [] n0 h0 z0 t en ti sl sz e g τ A_t A_en A_ti A_sl ge_t ge_en ge_ti ge_sl ne_t_en ne_t_ti ne_t_sl ne_en_ti ne_en_sl ne_ti_sl M P H) (fun v118 h119 qv118 => ?_)
    obtain ⟨rfl, ⟨hs0, rfl⟩ | ⟨y, hy, hs, ey, rfl⟩⟩ := qv118
    · subst hs0; exact (own_none0 P (by decide) ((hM 0 (by decide)).trans (if_pos (by decide)))).elim
    · have my := (P.at hs hy ey).1
      obtain rfl | rfl | rfl | rfl : y = 0 ∨ y = 1 ∨ y = 2 ∨ y = 3 := by omega
      · skip
        show W K l _ n0 _ h0 8 19 196 #[.val (.long aa), .second, .val (.long bb), .second, .val (.long cc), .second, .val (.long dd), .second, .val (.int op), .val (.ref t), .val (.ref ar), .val (.int (1 : Int32)), .val (.int dq), .val (.int (2 : Int32)), .val (.int (1 : Int32)), .val (.int (0 : Int32)), .val (.int (0 : Int32)), .unset, .unset, .unset, .unset] [(.int (0 : Int32))]
        refine w_istore ok at_196 (L' := #[.val (.long aa), .second, .val (.long bb), .second, .val (.long cc), .second, .val (.long dd), .second, .val (.int op), .val (.ref t), .val (.ref ar), .val (.int (1 : Int32)), .val (.int dq), .val (.int (2 : Int32)), .val (.int (1 : Int32)), .val (.int (0 : Int32)), .val (.int (0 : Int32)), .val (.int (0 : Int32)), .unset, .unset, .unset]) rfl ?_
        refine w_iload ok at_198 rfl ?_
        refine w_if_ne ok at_200 (pc' := 225) (by decide) (fun hc121 => ?_) (fun hc121 => False.elim (by revert hc121; decide))
        show W K l _ n0 _ h0 8 19 225 #[.val (.long aa), .second, .val (.long bb), .second, .val (.long cc), .second, .val (.long dd), .second, .val (.int op), .val (.ref t), .val (.ref ar), .val (.int (1 : Int32)), .val (.int dq), .val (.int (2 : Int32)), .val (.int (1 : Int32)), .val (.int (0 : Int32)), .val (.int (0 : Int32)), .val (.int (0 : Int32)), .unset, .unset, .unset] []
        refine w_iload ok at_225 rfl ?_
        refine w_if_lt ok at_227 (pc' := 236) (by decide) (fun hc123 => False.elim (by revert hc123; decide)) (fun hc123 => ?_)
        show W K l _ n0 _ h0 8 19 230 #[.val (.long aa), .second, .val (.long bb), .second, .val (.long cc), .second, .val (.long dd), .second, .val (.int op), .val (.ref t), .val (.ref ar), .val (.int (1 : Int32)), .val (.int dq), .val (.int (2 : Int32)), .val (.int (1 : Int32)), .val (.int (0 : Int32)), .val (.int (0 : Int32)), .val (.int (0 : Int32)), .unset, .unset, .unset] []
        refine w_iload ok at_230 rfl ?_
        refine w_iconst ok at_232 (v := (2 : Int32)) rfl ?_
        refine w_icmp_le ok at_233 (pc' := 238) (by decide) (fun hc125 => ?_) (fun hc125 => False.elim (by revert hc125; decide))
        show W K l _ n0 _ h0 8 19 238 #[.val (.long aa), .second, .val (.long bb), .second, .val (.long cc), .second, .val (.long dd), .second, .val (.int op), .val (.ref t), .val (.ref ar), .val (.int (1 : Int32)), .val (.int dq), .val (.int (2 : Int32)), .val (.int (1 : Int32)), .val (.int (0 : Int32)), .val (.int (0 : Int32)), .val (.int (0 : Int32)), .unset, .unset, .unset] []
        refine w_iload ok at_238 rfl ?_
        refine w_if_ne ok at_240 (pc' := 248) (by decide) (fun hc127 => False.elim (by revert hc127; decide)) (fun hc127 => ?_)
        show W K l _ n0 _ h0 8 19 243 #[.val (.long aa), .second, .val (.long bb), .second, .val (.long cc), .second, .val (.long dd), .second, .val (.int op), .val (.ref t), .val (.ref ar), .val (.int (1 : Int32)), .val (.int dq), .val (.int (2 : Int32)), .val (.int (1 : Int32)), .val (.int (0 : Int32)), .val (.int (0 : Int32)), .val (.int (0 : Int32)), .unset, .unset, .unset] []
        refine w_iload ok at_243 rfl ?_
        refine w_goto ok at_245 (pc' := 261) (by decide) ?_
        refine w_istore ok at_261 (L' := #[.val (.long aa), .second, .val (.long bb), .second, .val (.long cc), .second, .val (.long dd), .second, .val (.int op), .val (.ref t), .val (.ref ar), .val (.int (1 : Int32)), .val (.int dq), .val (.int (2 : Int32)), .val (.int (1 : Int32)), .val (.int (0 : Int32)), .val (.int (0 : Int32)), .val (.int (0 : Int32)), .val (.int (1 : Int32)), .unset, .unset]) rfl ?_
        refine w_iload ok at_263 rfl ?_
        refine w_if_ne ok at_265 (pc' := 270) (by decide) (fun hc129 => ?_) (fun hc129 => False.elim (by revert hc129; decide))
        show W K l _ n0 _ h0 8 19 270 #[.val (.long aa), .second, .val (.long bb), .second, .val (.long cc), .second, .val (.long dd), .second, .val (.int op), .val (.ref t), .val (.ref ar), .val (.int (1 : Int32)), .val (.int dq), .val (.int (2 : Int32)), .val (.int (1 : Int32)), .val (.int (0 : Int32)), .val (.int (0 : Int32)), .val (.int (0 : Int32)), .val (.int (1 : Int32)), .unset, .unset] []
        refine w_aload ok at_270 rfl rfl ?_
        refine w_iload ok at_272 rfl ?_
        refine w_laload ok (v := (.long (T 0))) at_274 A_ar (by decide) rfl ?_
        refine w_lstore ok at_275 (L' := #[.val (.long aa), .second, .val (.long bb), .second, .val (.long cc), .second, .val (.long dd), .second, .val (.int op), .val (.ref t), .val (.ref ar), .val (.int (1 : Int32)), .val (.int dq), .val (.int (2 : Int32)), .val (.int (1 : Int32)), .val (.int (0 : Int32)), .val (.int (0 : Int32)), .val (.int (0 : Int32)), .val (.int (1 : Int32)), .val (.long (T 0)), .second]) rfl ?_
        refine w_iload ok at_277 rfl ?_
        refine w_if_eq ok at_279 (pc' := 292) (by decide) (fun hc131 => False.elim (by revert hc131; decide)) (fun hc131 => ?_)
        show W K l _ n0 _ h0 8 19 282 #[.val (.long aa), .second, .val (.long bb), .second, .val (.long cc), .second, .val (.long dd), .second, .val (.int op), .val (.ref t), .val (.ref ar), .val (.int (1 : Int32)), .val (.int dq), .val (.int (2 : Int32)), .val (.int (1 : Int32)), .val (.int (0 : Int32)), .val (.int (0 : Int32)), .val (.int (0 : Int32)), .val (.int (1 : Int32)), .val (.long (T 0)), .second] []
        refine w_lload ok at_282 rfl ?_
        refine w_aload ok at_284 rfl rfl ?_
        refine w_iconst ok at_286 (v := (0 : Int32)) rfl ?_
        refine w_laload ok (v := (.long (T 0))) at_287 A_ar (by decide) rfl ?_
        refine w_lcmp_gt ok at_288 at_289 (pc' := 326) (by decide) (fun hc133 => False.elim (by exact own_least P H hs hy ey (j := 0) (by decide) ((hM 0 (by decide)).trans (if_pos (by decide))) ((hM 0 (by decide)).trans (if_pos (by decide))) hc133)) (fun hc133 => ?_)
        show W K l _ n0 _ h0 8 19 292 #[.val (.long aa), .second, .val (.long bb), .second, .val (.long cc), .second, .val (.long dd), .second, .val (.int op), .val (.ref t), .val (.ref ar), .val (.int (1 : Int32)), .val (.int dq), .val (.int (2 : Int32)), .val (.int (1 : Int32)), .val (.int (0 : Int32)), .val (.int (0 : Int32)), .val (.int (0 : Int32)), .val (.int (1 : Int32)), .val (.long (T 0)), .second] []
        refine w_iload ok at_292 rfl ?_
        refine w_if_eq ok at_294 (pc' := 307) (by decide) (fun hc135 => ?_) (fun hc135 => False.elim (by revert hc135; decide))
        show W K l _ n0 _ h0 8 19 307 #[.val (.long aa), .second, .val (.long bb), .second, .val (.long cc), .second, .val (.long dd), .second, .val (.int op), .val (.ref t), .val (.ref ar), .val (.int (1 : Int32)), .val (.int dq), .val (.int (2 : Int32)), .val (.int (1 : Int32)), .val (.int (0 : Int32)), .val (.int (0 : Int32)), .val (.int (0 : Int32)), .val (.int (1 : Int32)), .val (.long (T 0)), .second] []
        refine w_iload ok at_307 rfl ?_
        refine w_if_eq ok at_309 (pc' := 322) (by decide) (fun hc137 => ?_) (fun hc137 => False.elim (by revert hc137; decide))
        show W K l _ n0 _ h0 8 19 322 #[.val (.long aa), .second, .val (.long bb), .second, .val (.long cc), .second, .val (.long dd), .second, .val (.int op), .val (.ref t), .val (.ref ar), .val (.int (1 : Int32)), .val (.int dq), .val (.int (2 : Int32)), .val (.int (1 : Int32)), .val (.int (0 : Int32)), .val (.int (0 : Int32)), .val (.int (0 : Int32)), .val (.int (1 : Int32)), .val (.long (T 0)), .second] []
        refine w_iconst ok at_322 (v := (1 : Int32)) rfl ?_
        refine w_goto ok at_323 (pc' := 327) (by decide) ?_
        refine w_bret ok (by simp) at_327 (by decide) (by decide) ?_
        exact rfl
      · exact absurd (my.symm.trans ((hM 1 (by decide)).trans (if_neg (by decide)))) (fun q => by cases q)
      · exact absurd (my.symm.trans ((hM 2 (by decide)).trans (if_neg (by decide)))) (fun q => by cases q)
      · exact absurd (my.symm.trans ((hM 3 (by decide)).trans (if_neg (by decide)))) (fun q => by cases q)
  · skip
    show W K l _ n0 _ h0 8 19 135 #[.val (.long aa), .second, .val (.long bb), .second, .val (.long cc), .second, .val (.long dd), .second, .val (.int op), .val (.ref t), .val (.ref ar), .val (.int (1 : Int32)), .val (.int dq), .val (.int (3 : Int32)), .unset, .unset, .unset, .unset, .unset, .unset, .unset] []
    refine w_iconst ok at_135 (v := (0 : Int32)) rfl ?_
    refine w_iload ok at_136 rfl ?_
    refine w_icmp_ge ok at_138 (pc' := 150) (by decide) (fun hc139 => False.elim (by revert hc139; decide)) (fun hc139 => ?_)
    show W K l _ n0 _ h0 8 19 141 #[.val (.long aa), .second, .val (.long bb), .second, .val (.long cc), .second, .val (.long dd), .second, .val (.int op), .val (.ref t), .val (.ref ar), .val (.int (1 : Int32)), .val (.int dq), .val (.int (3 : Int32)), .unset, .unset, .unset, .unset, .unset, .unset, .unset] []
    refine w_iload ok at_141 rfl ?_
    refine w_if_eq ok at_143 (pc' := 150) (by decide) (fun hc141 => False.elim (by revert hc141; decide)) (fun hc141 => ?_)
    show W K l _ n0 _ h0 8 19 146 #[.val (.long aa), .second, .val (.long bb), .second, .val (.long cc), .second, .val (.long dd), .second, .val (.int op), .val (.ref t), .val (.ref ar), .val (.int (1 : Int32)), .val (.int dq), .val (.int (3 : Int32)), .unset, .unset, .unset, .unset, .unset, .unset, .unset] []
    refine w_iconst ok at_146 (v := (1 : Int32)) rfl ?_
    refine w_goto ok at_147 (pc' := 151) (by decide) ?_
    refine w_istore ok at_151 (L' := #[.val (.long aa), .second, .val (.long bb), .second, .val (.long cc), .second, .val (.long dd), .second, .val (.int op), .val (.ref t), .val (.ref ar), .val (.int (1 : Int32)), .val (.int dq), .val (.int (3 : Int32)), .val (.int (1 : Int32)), .unset, .unset, .unset, .unset, .unset, .unset]) rfl ?_
    refine w_iconst ok at_153 (v := (1 : Int32)) rfl ?_
    refine w_iload ok at_154 rfl ?_
    refine w_icmp_ge ok at_156 (pc' := 169) (by decide) (fun hc143 => ?_) (fun hc143 => False.elim (by revert hc143; decide))
    show W K l _ n0 _ h0 8 19 169 #[.val (.long aa), .second, .val (.long bb), .second, .val (.long cc), .second, .val (.long dd), .second, .val (.int op), .val (.ref t), .val (.ref ar), .val (.int (1 : Int32)), .val (.int dq), .val (.int (3 : Int32)), .val (.int (1 : Int32)), .unset, .unset, .unset, .unset, .unset, .unset] []
    refine w_iconst ok at_169 (v := (0 : Int32)) rfl ?_
    refine w_istore ok at_170 (L' := #[.val (.long aa), .second, .val (.long bb), .second, .val (.long cc), .second, .val (.long dd), .second, .val (.int op), .val (.ref t), .val (.ref ar), .val (.int (1 : Int32)), .val (.int dq), .val (.int (3 : Int32)), .val (.int (1 : Int32)), .val (.int (0 : Int32)), .unset, .unset, .unset, .unset, .unset]) rfl ?_
    refine w_iconst ok at_172 (v := (2 : Int32)) rfl ?_
    refine w_iload ok at_173 rfl ?_
    refine w_icmp_ge ok at_175 (pc' := 188) (by decide) (fun hc145 => ?_) (fun hc145 => False.elim (by revert hc145; decide))
    show W K l _ n0 _ h0 8 19 188 #[.val (.long aa), .second, .val (.long bb), .second, .val (.long cc), .second, .val (.long dd), .second, .val (.int op), .val (.ref t), .val (.ref ar), .val (.int (1 : Int32)), .val (.int dq), .val (.int (3 : Int32)), .val (.int (1 : Int32)), .val (.int (0 : Int32)), .unset, .unset, .unset, .unset, .unset] []
    refine w_iconst ok at_188 (v := (0 : Int32)) rfl ?_
    refine w_istore ok at_189 (L' := #[.val (.long aa), .second, .val (.long bb), .second, .val (.long cc), .second, .val (.long dd), .second, .val (.int op), .val (.ref t), .val (.ref ar), .val (.int (1 : Int32)), .val (.int dq), .val (.int (3 : Int32)), .val (.int (1 : Int32)), .val (.int (0 : Int32)), .val (.int (0 : Int32)), .unset, .unset, .unset, .unset]) rfl ?_
    refine w_aload ok at_191 rfl rfl ?_
    refine w_callV ok (y := (⟨"com/example/rowan/rowan/store/IdleHeap", "first", "()I"⟩ : MethodName)) (a := t) (argsL := []) (rest := []) at_193 (hw _ (List.mem_of_getElem? (i := 79) rfl)) (hw _ (List.mem_of_getElem? (i := 80) rfl)) (hw _ (List.mem_of_getElem? (i := 82) rfl)) (hw _ (List.mem_of_getElem? (i := 81) rfl)) (hw _ (List.mem_of_getElem? (i := 2) rfl)) (hw _ (List.mem_of_getElem? (i := 83) rfl)) (by decide) A_t.1 pd_2829I rfl rfl (by decide) (Nat.le_of_ble_eq_true rfl) (by decide) (by decide) (fun z0 => rm_first l Z a0 hw [] n0 h0 z0 t en ti sl sz e g τ A_t A_en A_ti A_sl ge_t ge_en ge_ti ge_sl ne_t_en ne_t_ti ne_t_sl ne_en_ti ne_en_sl ne_ti_sl M P H) (fun v146 h147 qv146 => ?_)
    obtain ⟨rfl, ⟨hs0, rfl⟩ | ⟨y, hy, hs, ey, rfl⟩⟩ := qv146
    · subst hs0; exact (own_none0 P (by decide) ((hM 0 (by decide)).trans (if_pos (by decide)))).elim
    · have my := (P.at hs hy ey).1
      obtain rfl | rfl | rfl | rfl : y = 0 ∨ y = 1 ∨ y = 2 ∨ y = 3 := by omega
      · skip
        show W K l _ n0 _ h0 8 19 196 #[.val (.long aa), .second, .val (.long bb), .second, .val (.long cc), .second, .val (.long dd), .second, .val (.int op), .val (.ref t), .val (.ref ar), .val (.int (1 : Int32)), .val (.int dq), .val (.int (3 : Int32)), .val (.int (1 : Int32)), .val (.int (0 : Int32)), .val (.int (0 : Int32)), .unset, .unset, .unset, .unset] [(.int (0 : Int32))]
        refine w_istore ok at_196 (L' := #[.val (.long aa), .second, .val (.long bb), .second, .val (.long cc), .second, .val (.long dd), .second, .val (.int op), .val (.ref t), .val (.ref ar), .val (.int (1 : Int32)), .val (.int dq), .val (.int (3 : Int32)), .val (.int (1 : Int32)), .val (.int (0 : Int32)), .val (.int (0 : Int32)), .val (.int (0 : Int32)), .unset, .unset, .unset]) rfl ?_
        refine w_iload ok at_198 rfl ?_
        refine w_if_ne ok at_200 (pc' := 225) (by decide) (fun hc149 => ?_) (fun hc149 => False.elim (by revert hc149; decide))
        show W K l _ n0 _ h0 8 19 225 #[.val (.long aa), .second, .val (.long bb), .second, .val (.long cc), .second, .val (.long dd), .second, .val (.int op), .val (.ref t), .val (.ref ar), .val (.int (1 : Int32)), .val (.int dq), .val (.int (3 : Int32)), .val (.int (1 : Int32)), .val (.int (0 : Int32)), .val (.int (0 : Int32)), .val (.int (0 : Int32)), .unset, .unset, .unset] []
        refine w_iload ok at_225 rfl ?_
        refine w_if_lt ok at_227 (pc' := 236) (by decide) (fun hc151 => False.elim (by revert hc151; decide)) (fun hc151 => ?_)
        show W K l _ n0 _ h0 8 19 230 #[.val (.long aa), .second, .val (.long bb), .second, .val (.long cc), .second, .val (.long dd), .second, .val (.int op), .val (.ref t), .val (.ref ar), .val (.int (1 : Int32)), .val (.int dq), .val (.int (3 : Int32)), .val (.int (1 : Int32)), .val (.int (0 : Int32)), .val (.int (0 : Int32)), .val (.int (0 : Int32)), .unset, .unset, .unset] []
        refine w_iload ok at_230 rfl ?_
        refine w_iconst ok at_232 (v := (2 : Int32)) rfl ?_
        refine w_icmp_le ok at_233 (pc' := 238) (by decide) (fun hc153 => ?_) (fun hc153 => False.elim (by revert hc153; decide))
        show W K l _ n0 _ h0 8 19 238 #[.val (.long aa), .second, .val (.long bb), .second, .val (.long cc), .second, .val (.long dd), .second, .val (.int op), .val (.ref t), .val (.ref ar), .val (.int (1 : Int32)), .val (.int dq), .val (.int (3 : Int32)), .val (.int (1 : Int32)), .val (.int (0 : Int32)), .val (.int (0 : Int32)), .val (.int (0 : Int32)), .unset, .unset, .unset] []
        refine w_iload ok at_238 rfl ?_
        refine w_if_ne ok at_240 (pc' := 248) (by decide) (fun hc155 => False.elim (by revert hc155; decide)) (fun hc155 => ?_)
        show W K l _ n0 _ h0 8 19 243 #[.val (.long aa), .second, .val (.long bb), .second, .val (.long cc), .second, .val (.long dd), .second, .val (.int op), .val (.ref t), .val (.ref ar), .val (.int (1 : Int32)), .val (.int dq), .val (.int (3 : Int32)), .val (.int (1 : Int32)), .val (.int (0 : Int32)), .val (.int (0 : Int32)), .val (.int (0 : Int32)), .unset, .unset, .unset] []
        refine w_iload ok at_243 rfl ?_
        refine w_goto ok at_245 (pc' := 261) (by decide) ?_
        refine w_istore ok at_261 (L' := #[.val (.long aa), .second, .val (.long bb), .second, .val (.long cc), .second, .val (.long dd), .second, .val (.int op), .val (.ref t), .val (.ref ar), .val (.int (1 : Int32)), .val (.int dq), .val (.int (3 : Int32)), .val (.int (1 : Int32)), .val (.int (0 : Int32)), .val (.int (0 : Int32)), .val (.int (0 : Int32)), .val (.int (1 : Int32)), .unset, .unset]) rfl ?_
        refine w_iload ok at_263 rfl ?_
        refine w_if_ne ok at_265 (pc' := 270) (by decide) (fun hc157 => ?_) (fun hc157 => False.elim (by revert hc157; decide))
        show W K l _ n0 _ h0 8 19 270 #[.val (.long aa), .second, .val (.long bb), .second, .val (.long cc), .second, .val (.long dd), .second, .val (.int op), .val (.ref t), .val (.ref ar), .val (.int (1 : Int32)), .val (.int dq), .val (.int (3 : Int32)), .val (.int (1 : Int32)), .val (.int (0 : Int32)), .val (.int (0 : Int32)), .val (.int (0 : Int32)), .val (.int (1 : Int32)), .unset, .unset] []
        refine w_aload ok at_270 rfl rfl ?_
        refine w_iload ok at_272 rfl ?_
        refine w_laload ok (v := (.long (T 0))) at_274 A_ar (by decide) rfl ?_
        refine w_lstore ok at_275 (L' := #[.val (.long aa), .second, .val (.long bb), .second, .val (.long cc), .second, .val (.long dd), .second, .val (.int op), .val (.ref t), .val (.ref ar), .val (.int (1 : Int32)), .val (.int dq), .val (.int (3 : Int32)), .val (.int (1 : Int32)), .val (.int (0 : Int32)), .val (.int (0 : Int32)), .val (.int (0 : Int32)), .val (.int (1 : Int32)), .val (.long (T 0)), .second]) rfl ?_
        refine w_iload ok at_277 rfl ?_
        refine w_if_eq ok at_279 (pc' := 292) (by decide) (fun hc159 => False.elim (by revert hc159; decide)) (fun hc159 => ?_)
        show W K l _ n0 _ h0 8 19 282 #[.val (.long aa), .second, .val (.long bb), .second, .val (.long cc), .second, .val (.long dd), .second, .val (.int op), .val (.ref t), .val (.ref ar), .val (.int (1 : Int32)), .val (.int dq), .val (.int (3 : Int32)), .val (.int (1 : Int32)), .val (.int (0 : Int32)), .val (.int (0 : Int32)), .val (.int (0 : Int32)), .val (.int (1 : Int32)), .val (.long (T 0)), .second] []
        refine w_lload ok at_282 rfl ?_
        refine w_aload ok at_284 rfl rfl ?_
        refine w_iconst ok at_286 (v := (0 : Int32)) rfl ?_
        refine w_laload ok (v := (.long (T 0))) at_287 A_ar (by decide) rfl ?_
        refine w_lcmp_gt ok at_288 at_289 (pc' := 326) (by decide) (fun hc161 => False.elim (by exact own_least P H hs hy ey (j := 0) (by decide) ((hM 0 (by decide)).trans (if_pos (by decide))) ((hM 0 (by decide)).trans (if_pos (by decide))) hc161)) (fun hc161 => ?_)
        show W K l _ n0 _ h0 8 19 292 #[.val (.long aa), .second, .val (.long bb), .second, .val (.long cc), .second, .val (.long dd), .second, .val (.int op), .val (.ref t), .val (.ref ar), .val (.int (1 : Int32)), .val (.int dq), .val (.int (3 : Int32)), .val (.int (1 : Int32)), .val (.int (0 : Int32)), .val (.int (0 : Int32)), .val (.int (0 : Int32)), .val (.int (1 : Int32)), .val (.long (T 0)), .second] []
        refine w_iload ok at_292 rfl ?_
        refine w_if_eq ok at_294 (pc' := 307) (by decide) (fun hc163 => ?_) (fun hc163 => False.elim (by revert hc163; decide))
        show W K l _ n0 _ h0 8 19 307 #[.val (.long aa), .second, .val (.long bb), .second, .val (.long cc), .second, .val (.long dd), .second, .val (.int op), .val (.ref t), .val (.ref ar), .val (.int (1 : Int32)), .val (.int dq), .val (.int (3 : Int32)), .val (.int (1 : Int32)), .val (.int (0 : Int32)), .val (.int (0 : Int32)), .val (.int (0 : Int32)), .val (.int (1 : Int32)), .val (.long (T 0)), .second] []
        refine w_iload ok at_307 rfl ?_
        refine w_if_eq ok at_309 (pc' := 322) (by decide) (fun hc165 => ?_) (fun hc165 => False.elim (by revert hc165; decide))
        show W K l _ n0 _ h0 8 19 322 #[.val (.long aa), .second, .val (.long bb), .second, .val (.long cc), .second, .val (.long dd), .second, .val (.int op), .val (.ref t), .val (.ref ar), .val (.int (1 : Int32)), .val (.int dq), .val (.int (3 : Int32)), .val (.int (1 : Int32)), .val (.int (0 : Int32)), .val (.int (0 : Int32)), .val (.int (0 : Int32)), .val (.int (1 : Int32)), .val (.long (T 0)), .second] []
        refine w_iconst ok at_322 (v := (1 : Int32)) rfl ?_
        refine w_goto ok at_323 (pc' := 327) (by decide) ?_
        refine w_bret ok (by simp) at_327 (by decide) (by decide) ?_
        exact rfl
      · exact absurd (my.symm.trans ((hM 1 (by decide)).trans (if_neg (by decide)))) (fun q => by cases q)
      · exact absurd (my.symm.trans ((hM 2 (by decide)).trans (if_neg (by decide)))) (fun q => by cases q)
      · exact absurd (my.symm.trans ((hM 3 (by decide)).trans (if_neg (by decide)))) (fun q => by cases q)
  · skip
    show W K l _ n0 _ h0 8 19 135 #[.val (.long aa), .second, .val (.long bb), .second, .val (.long cc), .second, .val (.long dd), .second, .val (.int op), .val (.ref t), .val (.ref ar), .val (.int (2 : Int32)), .val (.int dq), .val (.int (0 : Int32)), .unset, .unset, .unset, .unset, .unset, .unset, .unset] []
    refine w_iconst ok at_135 (v := (0 : Int32)) rfl ?_
    refine w_iload ok at_136 rfl ?_
    refine w_icmp_ge ok at_138 (pc' := 150) (by decide) (fun hc167 => False.elim (by revert hc167; decide)) (fun hc167 => ?_)
    show W K l _ n0 _ h0 8 19 141 #[.val (.long aa), .second, .val (.long bb), .second, .val (.long cc), .second, .val (.long dd), .second, .val (.int op), .val (.ref t), .val (.ref ar), .val (.int (2 : Int32)), .val (.int dq), .val (.int (0 : Int32)), .unset, .unset, .unset, .unset, .unset, .unset, .unset] []
    refine w_iload ok at_141 rfl ?_
    refine w_if_eq ok at_143 (pc' := 150) (by decide) (fun hc169 => ?_) (fun hc169 => False.elim (by revert hc169; decide))
    show W K l _ n0 _ h0 8 19 150 #[.val (.long aa), .second, .val (.long bb), .second, .val (.long cc), .second, .val (.long dd), .second, .val (.int op), .val (.ref t), .val (.ref ar), .val (.int (2 : Int32)), .val (.int dq), .val (.int (0 : Int32)), .unset, .unset, .unset, .unset, .unset, .unset, .unset] []
    refine w_iconst ok at_150 (v := (0 : Int32)) rfl ?_
    refine w_istore ok at_151 (L' := #[.val (.long aa), .second, .val (.long bb), .second, .val (.long cc), .second, .val (.long dd), .second, .val (.int op), .val (.ref t), .val (.ref ar), .val (.int (2 : Int32)), .val (.int dq), .val (.int (0 : Int32)), .val (.int (0 : Int32)), .unset, .unset, .unset, .unset, .unset, .unset]) rfl ?_
    refine w_iconst ok at_153 (v := (1 : Int32)) rfl ?_
    refine w_iload ok at_154 rfl ?_
    refine w_icmp_ge ok at_156 (pc' := 169) (by decide) (fun hc171 => False.elim (by revert hc171; decide)) (fun hc171 => ?_)
    show W K l _ n0 _ h0 8 19 159 #[.val (.long aa), .second, .val (.long bb), .second, .val (.long cc), .second, .val (.long dd), .second, .val (.int op), .val (.ref t), .val (.ref ar), .val (.int (2 : Int32)), .val (.int dq), .val (.int (0 : Int32)), .val (.int (0 : Int32)), .unset, .unset, .unset, .unset, .unset, .unset] []
    refine w_iload ok at_159 rfl ?_
    refine w_iconst ok at_161 (v := (1 : Int32)) rfl ?_
    refine w_icmp_eq ok at_162 (pc' := 169) (by decide) (fun hc173 => False.elim (by revert hc173; decide)) (fun hc173 => ?_)
    show W K l _ n0 _ h0 8 19 165 #[.val (.long aa), .second, .val (.long bb), .second, .val (.long cc), .second, .val (.long dd), .second, .val (.int op), .val (.ref t), .val (.ref ar), .val (.int (2 : Int32)), .val (.int dq), .val (.int (0 : Int32)), .val (.int (0 : Int32)), .unset, .unset, .unset, .unset, .unset, .unset] []
    refine w_iconst ok at_165 (v := (1 : Int32)) rfl ?_
    refine w_goto ok at_166 (pc' := 170) (by decide) ?_
    refine w_istore ok at_170 (L' := #[.val (.long aa), .second, .val (.long bb), .second, .val (.long cc), .second, .val (.long dd), .second, .val (.int op), .val (.ref t), .val (.ref ar), .val (.int (2 : Int32)), .val (.int dq), .val (.int (0 : Int32)), .val (.int (0 : Int32)), .val (.int (1 : Int32)), .unset, .unset, .unset, .unset, .unset]) rfl ?_
    refine w_iconst ok at_172 (v := (2 : Int32)) rfl ?_
    refine w_iload ok at_173 rfl ?_
    refine w_icmp_ge ok at_175 (pc' := 188) (by decide) (fun hc175 => ?_) (fun hc175 => False.elim (by revert hc175; decide))
    show W K l _ n0 _ h0 8 19 188 #[.val (.long aa), .second, .val (.long bb), .second, .val (.long cc), .second, .val (.long dd), .second, .val (.int op), .val (.ref t), .val (.ref ar), .val (.int (2 : Int32)), .val (.int dq), .val (.int (0 : Int32)), .val (.int (0 : Int32)), .val (.int (1 : Int32)), .unset, .unset, .unset, .unset, .unset] []
    refine w_iconst ok at_188 (v := (0 : Int32)) rfl ?_
    refine w_istore ok at_189 (L' := #[.val (.long aa), .second, .val (.long bb), .second, .val (.long cc), .second, .val (.long dd), .second, .val (.int op), .val (.ref t), .val (.ref ar), .val (.int (2 : Int32)), .val (.int dq), .val (.int (0 : Int32)), .val (.int (0 : Int32)), .val (.int (1 : Int32)), .val (.int (0 : Int32)), .unset, .unset, .unset, .unset]) rfl ?_
    refine w_aload ok at_191 rfl rfl ?_
    refine w_callV ok (y := (⟨"com/example/rowan/rowan/store/IdleHeap", "first", "()I"⟩ : MethodName)) (a := t) (argsL := []) (rest := []) at_193 (hw _ (List.mem_of_getElem? (i := 79) rfl)) (hw _ (List.mem_of_getElem? (i := 80) rfl)) (hw _ (List.mem_of_getElem? (i := 82) rfl)) (hw _ (List.mem_of_getElem? (i := 81) rfl)) (hw _ (List.mem_of_getElem? (i := 2) rfl)) (hw _ (List.mem_of_getElem? (i := 83) rfl)) (by decide) A_t.1 pd_2829I rfl rfl (by decide) (Nat.le_of_ble_eq_true rfl) (by decide) (by decide) (fun z0 => rm_first l Z a0 hw [] n0 h0 z0 t en ti sl sz e g τ A_t A_en A_ti A_sl ge_t ge_en ge_ti ge_sl ne_t_en ne_t_ti ne_t_sl ne_en_ti ne_en_sl ne_ti_sl M P H) (fun v176 h177 qv176 => ?_)
    obtain ⟨rfl, ⟨hs0, rfl⟩ | ⟨y, hy, hs, ey, rfl⟩⟩ := qv176
    · subst hs0; exact (own_none0 P (by decide) ((hM 1 (by decide)).trans (if_pos (by decide)))).elim
    · have my := (P.at hs hy ey).1
      obtain rfl | rfl | rfl | rfl : y = 0 ∨ y = 1 ∨ y = 2 ∨ y = 3 := by omega
      · exact absurd (my.symm.trans ((hM 0 (by decide)).trans (if_neg (by decide)))) (fun q => by cases q)
      · skip
        show W K l _ n0 _ h0 8 19 196 #[.val (.long aa), .second, .val (.long bb), .second, .val (.long cc), .second, .val (.long dd), .second, .val (.int op), .val (.ref t), .val (.ref ar), .val (.int (2 : Int32)), .val (.int dq), .val (.int (0 : Int32)), .val (.int (0 : Int32)), .val (.int (1 : Int32)), .val (.int (0 : Int32)), .unset, .unset, .unset, .unset] [(.int (1 : Int32))]
        refine w_istore ok at_196 (L' := #[.val (.long aa), .second, .val (.long bb), .second, .val (.long cc), .second, .val (.long dd), .second, .val (.int op), .val (.ref t), .val (.ref ar), .val (.int (2 : Int32)), .val (.int dq), .val (.int (0 : Int32)), .val (.int (0 : Int32)), .val (.int (1 : Int32)), .val (.int (0 : Int32)), .val (.int (1 : Int32)), .unset, .unset, .unset]) rfl ?_
        refine w_iload ok at_198 rfl ?_
        refine w_if_ne ok at_200 (pc' := 225) (by decide) (fun hc179 => False.elim (by revert hc179; decide)) (fun hc179 => ?_)
        show W K l _ n0 _ h0 8 19 203 #[.val (.long aa), .second, .val (.long bb), .second, .val (.long cc), .second, .val (.long dd), .second, .val (.int op), .val (.ref t), .val (.ref ar), .val (.int (2 : Int32)), .val (.int dq), .val (.int (0 : Int32)), .val (.int (0 : Int32)), .val (.int (1 : Int32)), .val (.int (0 : Int32)), .val (.int (1 : Int32)), .unset, .unset, .unset] []
        refine w_iload ok at_203 rfl ?_
        refine w_if_ne ok at_205 (pc' := 225) (by decide) (fun hc181 => ?_) (fun hc181 => False.elim (by revert hc181; decide))
        show W K l _ n0 _ h0 8 19 225 #[.val (.long aa), .second, .val (.long bb), .second, .val (.long cc), .second, .val (.long dd), .second, .val (.int op), .val (.ref t), .val (.ref ar), .val (.int (2 : Int32)), .val (.int dq), .val (.int (0 : Int32)), .val (.int (0 : Int32)), .val (.int (1 : Int32)), .val (.int (0 : Int32)), .val (.int (1 : Int32)), .unset, .unset, .unset] []
        refine w_iload ok at_225 rfl ?_
        refine w_if_lt ok at_227 (pc' := 236) (by decide) (fun hc183 => False.elim (by revert hc183; decide)) (fun hc183 => ?_)
        show W K l _ n0 _ h0 8 19 230 #[.val (.long aa), .second, .val (.long bb), .second, .val (.long cc), .second, .val (.long dd), .second, .val (.int op), .val (.ref t), .val (.ref ar), .val (.int (2 : Int32)), .val (.int dq), .val (.int (0 : Int32)), .val (.int (0 : Int32)), .val (.int (1 : Int32)), .val (.int (0 : Int32)), .val (.int (1 : Int32)), .unset, .unset, .unset] []
        refine w_iload ok at_230 rfl ?_
        refine w_iconst ok at_232 (v := (2 : Int32)) rfl ?_
        refine w_icmp_le ok at_233 (pc' := 238) (by decide) (fun hc185 => ?_) (fun hc185 => False.elim (by revert hc185; decide))
        show W K l _ n0 _ h0 8 19 238 #[.val (.long aa), .second, .val (.long bb), .second, .val (.long cc), .second, .val (.long dd), .second, .val (.int op), .val (.ref t), .val (.ref ar), .val (.int (2 : Int32)), .val (.int dq), .val (.int (0 : Int32)), .val (.int (0 : Int32)), .val (.int (1 : Int32)), .val (.int (0 : Int32)), .val (.int (1 : Int32)), .unset, .unset, .unset] []
        refine w_iload ok at_238 rfl ?_
        refine w_if_ne ok at_240 (pc' := 248) (by decide) (fun hc187 => ?_) (fun hc187 => False.elim (by revert hc187; decide))
        show W K l _ n0 _ h0 8 19 248 #[.val (.long aa), .second, .val (.long bb), .second, .val (.long cc), .second, .val (.long dd), .second, .val (.int op), .val (.ref t), .val (.ref ar), .val (.int (2 : Int32)), .val (.int dq), .val (.int (0 : Int32)), .val (.int (0 : Int32)), .val (.int (1 : Int32)), .val (.int (0 : Int32)), .val (.int (1 : Int32)), .unset, .unset, .unset] []
        refine w_iload ok at_248 rfl ?_
        refine w_iconst ok at_250 (v := (1 : Int32)) rfl ?_
        refine w_icmp_ne ok at_251 (pc' := 259) (by decide) (fun hc189 => False.elim (by revert hc189; decide)) (fun hc189 => ?_)
        show W K l _ n0 _ h0 8 19 254 #[.val (.long aa), .second, .val (.long bb), .second, .val (.long cc), .second, .val (.long dd), .second, .val (.int op), .val (.ref t), .val (.ref ar), .val (.int (2 : Int32)), .val (.int dq), .val (.int (0 : Int32)), .val (.int (0 : Int32)), .val (.int (1 : Int32)), .val (.int (0 : Int32)), .val (.int (1 : Int32)), .unset, .unset, .unset] []
        refine w_iload ok at_254 rfl ?_
        refine w_goto ok at_256 (pc' := 261) (by decide) ?_
        refine w_istore ok at_261 (L' := #[.val (.long aa), .second, .val (.long bb), .second, .val (.long cc), .second, .val (.long dd), .second, .val (.int op), .val (.ref t), .val (.ref ar), .val (.int (2 : Int32)), .val (.int dq), .val (.int (0 : Int32)), .val (.int (0 : Int32)), .val (.int (1 : Int32)), .val (.int (0 : Int32)), .val (.int (1 : Int32)), .val (.int (1 : Int32)), .unset, .unset]) rfl ?_
        refine w_iload ok at_263 rfl ?_
        refine w_if_ne ok at_265 (pc' := 270) (by decide) (fun hc191 => ?_) (fun hc191 => False.elim (by revert hc191; decide))
        show W K l _ n0 _ h0 8 19 270 #[.val (.long aa), .second, .val (.long bb), .second, .val (.long cc), .second, .val (.long dd), .second, .val (.int op), .val (.ref t), .val (.ref ar), .val (.int (2 : Int32)), .val (.int dq), .val (.int (0 : Int32)), .val (.int (0 : Int32)), .val (.int (1 : Int32)), .val (.int (0 : Int32)), .val (.int (1 : Int32)), .val (.int (1 : Int32)), .unset, .unset] []
        refine w_aload ok at_270 rfl rfl ?_
        refine w_iload ok at_272 rfl ?_
        refine w_laload ok (v := (.long (T 1))) at_274 A_ar (by decide) rfl ?_
        refine w_lstore ok at_275 (L' := #[.val (.long aa), .second, .val (.long bb), .second, .val (.long cc), .second, .val (.long dd), .second, .val (.int op), .val (.ref t), .val (.ref ar), .val (.int (2 : Int32)), .val (.int dq), .val (.int (0 : Int32)), .val (.int (0 : Int32)), .val (.int (1 : Int32)), .val (.int (0 : Int32)), .val (.int (1 : Int32)), .val (.int (1 : Int32)), .val (.long (T 1)), .second]) rfl ?_
        refine w_iload ok at_277 rfl ?_
        refine w_if_eq ok at_279 (pc' := 292) (by decide) (fun hc193 => ?_) (fun hc193 => False.elim (by revert hc193; decide))
        show W K l _ n0 _ h0 8 19 292 #[.val (.long aa), .second, .val (.long bb), .second, .val (.long cc), .second, .val (.long dd), .second, .val (.int op), .val (.ref t), .val (.ref ar), .val (.int (2 : Int32)), .val (.int dq), .val (.int (0 : Int32)), .val (.int (0 : Int32)), .val (.int (1 : Int32)), .val (.int (0 : Int32)), .val (.int (1 : Int32)), .val (.int (1 : Int32)), .val (.long (T 1)), .second] []
        refine w_iload ok at_292 rfl ?_
        refine w_if_eq ok at_294 (pc' := 307) (by decide) (fun hc195 => False.elim (by revert hc195; decide)) (fun hc195 => ?_)
        show W K l _ n0 _ h0 8 19 297 #[.val (.long aa), .second, .val (.long bb), .second, .val (.long cc), .second, .val (.long dd), .second, .val (.int op), .val (.ref t), .val (.ref ar), .val (.int (2 : Int32)), .val (.int dq), .val (.int (0 : Int32)), .val (.int (0 : Int32)), .val (.int (1 : Int32)), .val (.int (0 : Int32)), .val (.int (1 : Int32)), .val (.int (1 : Int32)), .val (.long (T 1)), .second] []
        refine w_lload ok at_297 rfl ?_
        refine w_aload ok at_299 rfl rfl ?_
        refine w_iconst ok at_301 (v := (1 : Int32)) rfl ?_
        refine w_laload ok (v := (.long (T 1))) at_302 A_ar (by decide) rfl ?_
        refine w_lcmp_gt ok at_303 at_304 (pc' := 326) (by decide) (fun hc197 => False.elim (by exact own_least P H hs hy ey (j := 1) (by decide) ((hM 1 (by decide)).trans (if_pos (by decide))) ((hM 1 (by decide)).trans (if_pos (by decide))) hc197)) (fun hc197 => ?_)
        show W K l _ n0 _ h0 8 19 307 #[.val (.long aa), .second, .val (.long bb), .second, .val (.long cc), .second, .val (.long dd), .second, .val (.int op), .val (.ref t), .val (.ref ar), .val (.int (2 : Int32)), .val (.int dq), .val (.int (0 : Int32)), .val (.int (0 : Int32)), .val (.int (1 : Int32)), .val (.int (0 : Int32)), .val (.int (1 : Int32)), .val (.int (1 : Int32)), .val (.long (T 1)), .second] []
        refine w_iload ok at_307 rfl ?_
        refine w_if_eq ok at_309 (pc' := 322) (by decide) (fun hc199 => ?_) (fun hc199 => False.elim (by revert hc199; decide))
        show W K l _ n0 _ h0 8 19 322 #[.val (.long aa), .second, .val (.long bb), .second, .val (.long cc), .second, .val (.long dd), .second, .val (.int op), .val (.ref t), .val (.ref ar), .val (.int (2 : Int32)), .val (.int dq), .val (.int (0 : Int32)), .val (.int (0 : Int32)), .val (.int (1 : Int32)), .val (.int (0 : Int32)), .val (.int (1 : Int32)), .val (.int (1 : Int32)), .val (.long (T 1)), .second] []
        refine w_iconst ok at_322 (v := (1 : Int32)) rfl ?_
        refine w_goto ok at_323 (pc' := 327) (by decide) ?_
        refine w_bret ok (by simp) at_327 (by decide) (by decide) ?_
        exact rfl
      · exact absurd (my.symm.trans ((hM 2 (by decide)).trans (if_neg (by decide)))) (fun q => by cases q)
      · exact absurd (my.symm.trans ((hM 3 (by decide)).trans (if_neg (by decide)))) (fun q => by cases q)
  · skip
    show W K l _ n0 _ h0 8 19 135 #[.val (.long aa), .second, .val (.long bb), .second, .val (.long cc), .second, .val (.long dd), .second, .val (.int op), .val (.ref t), .val (.ref ar), .val (.int (2 : Int32)), .val (.int dq), .val (.int (1 : Int32)), .unset, .unset, .unset, .unset, .unset, .unset, .unset] []
    refine w_iconst ok at_135 (v := (0 : Int32)) rfl ?_
    refine w_iload ok at_136 rfl ?_
    refine w_icmp_ge ok at_138 (pc' := 150) (by decide) (fun hc201 => False.elim (by revert hc201; decide)) (fun hc201 => ?_)
    show W K l _ n0 _ h0 8 19 141 #[.val (.long aa), .second, .val (.long bb), .second, .val (.long cc), .second, .val (.long dd), .second, .val (.int op), .val (.ref t), .val (.ref ar), .val (.int (2 : Int32)), .val (.int dq), .val (.int (1 : Int32)), .unset, .unset, .unset, .unset, .unset, .unset, .unset] []
    refine w_iload ok at_141 rfl ?_
    refine w_if_eq ok at_143 (pc' := 150) (by decide) (fun hc203 => False.elim (by revert hc203; decide)) (fun hc203 => ?_)
    show W K l _ n0 _ h0 8 19 146 #[.val (.long aa), .second, .val (.long bb), .second, .val (.long cc), .second, .val (.long dd), .second, .val (.int op), .val (.ref t), .val (.ref ar), .val (.int (2 : Int32)), .val (.int dq), .val (.int (1 : Int32)), .unset, .unset, .unset, .unset, .unset, .unset, .unset] []
    refine w_iconst ok at_146 (v := (1 : Int32)) rfl ?_
    refine w_goto ok at_147 (pc' := 151) (by decide) ?_
    refine w_istore ok at_151 (L' := #[.val (.long aa), .second, .val (.long bb), .second, .val (.long cc), .second, .val (.long dd), .second, .val (.int op), .val (.ref t), .val (.ref ar), .val (.int (2 : Int32)), .val (.int dq), .val (.int (1 : Int32)), .val (.int (1 : Int32)), .unset, .unset, .unset, .unset, .unset, .unset]) rfl ?_
    refine w_iconst ok at_153 (v := (1 : Int32)) rfl ?_
    refine w_iload ok at_154 rfl ?_
    refine w_icmp_ge ok at_156 (pc' := 169) (by decide) (fun hc205 => False.elim (by revert hc205; decide)) (fun hc205 => ?_)
    show W K l _ n0 _ h0 8 19 159 #[.val (.long aa), .second, .val (.long bb), .second, .val (.long cc), .second, .val (.long dd), .second, .val (.int op), .val (.ref t), .val (.ref ar), .val (.int (2 : Int32)), .val (.int dq), .val (.int (1 : Int32)), .val (.int (1 : Int32)), .unset, .unset, .unset, .unset, .unset, .unset] []
    refine w_iload ok at_159 rfl ?_
    refine w_iconst ok at_161 (v := (1 : Int32)) rfl ?_
    refine w_icmp_eq ok at_162 (pc' := 169) (by decide) (fun hc207 => ?_) (fun hc207 => False.elim (by revert hc207; decide))
    show W K l _ n0 _ h0 8 19 169 #[.val (.long aa), .second, .val (.long bb), .second, .val (.long cc), .second, .val (.long dd), .second, .val (.int op), .val (.ref t), .val (.ref ar), .val (.int (2 : Int32)), .val (.int dq), .val (.int (1 : Int32)), .val (.int (1 : Int32)), .unset, .unset, .unset, .unset, .unset, .unset] []
    refine w_iconst ok at_169 (v := (0 : Int32)) rfl ?_
    refine w_istore ok at_170 (L' := #[.val (.long aa), .second, .val (.long bb), .second, .val (.long cc), .second, .val (.long dd), .second, .val (.int op), .val (.ref t), .val (.ref ar), .val (.int (2 : Int32)), .val (.int dq), .val (.int (1 : Int32)), .val (.int (1 : Int32)), .val (.int (0 : Int32)), .unset, .unset, .unset, .unset, .unset]) rfl ?_
    refine w_iconst ok at_172 (v := (2 : Int32)) rfl ?_
    refine w_iload ok at_173 rfl ?_
    refine w_icmp_ge ok at_175 (pc' := 188) (by decide) (fun hc209 => ?_) (fun hc209 => False.elim (by revert hc209; decide))
    show W K l _ n0 _ h0 8 19 188 #[.val (.long aa), .second, .val (.long bb), .second, .val (.long cc), .second, .val (.long dd), .second, .val (.int op), .val (.ref t), .val (.ref ar), .val (.int (2 : Int32)), .val (.int dq), .val (.int (1 : Int32)), .val (.int (1 : Int32)), .val (.int (0 : Int32)), .unset, .unset, .unset, .unset, .unset] []
    refine w_iconst ok at_188 (v := (0 : Int32)) rfl ?_
    refine w_istore ok at_189 (L' := #[.val (.long aa), .second, .val (.long bb), .second, .val (.long cc), .second, .val (.long dd), .second, .val (.int op), .val (.ref t), .val (.ref ar), .val (.int (2 : Int32)), .val (.int dq), .val (.int (1 : Int32)), .val (.int (1 : Int32)), .val (.int (0 : Int32)), .val (.int (0 : Int32)), .unset, .unset, .unset, .unset]) rfl ?_
    refine w_aload ok at_191 rfl rfl ?_
    refine w_callV ok (y := (⟨"com/example/rowan/rowan/store/IdleHeap", "first", "()I"⟩ : MethodName)) (a := t) (argsL := []) (rest := []) at_193 (hw _ (List.mem_of_getElem? (i := 79) rfl)) (hw _ (List.mem_of_getElem? (i := 80) rfl)) (hw _ (List.mem_of_getElem? (i := 82) rfl)) (hw _ (List.mem_of_getElem? (i := 81) rfl)) (hw _ (List.mem_of_getElem? (i := 2) rfl)) (hw _ (List.mem_of_getElem? (i := 83) rfl)) (by decide) A_t.1 pd_2829I rfl rfl (by decide) (Nat.le_of_ble_eq_true rfl) (by decide) (by decide) (fun z0 => rm_first l Z a0 hw [] n0 h0 z0 t en ti sl sz e g τ A_t A_en A_ti A_sl ge_t ge_en ge_ti ge_sl ne_t_en ne_t_ti ne_t_sl ne_en_ti ne_en_sl ne_ti_sl M P H) (fun v210 h211 qv210 => ?_)
    obtain ⟨rfl, ⟨hs0, rfl⟩ | ⟨y, hy, hs, ey, rfl⟩⟩ := qv210
    · subst hs0; exact (own_none0 P (by decide) ((hM 0 (by decide)).trans (if_pos (by decide)))).elim
    · have my := (P.at hs hy ey).1
      obtain rfl | rfl | rfl | rfl : y = 0 ∨ y = 1 ∨ y = 2 ∨ y = 3 := by omega
      · skip
        show W K l _ n0 _ h0 8 19 196 #[.val (.long aa), .second, .val (.long bb), .second, .val (.long cc), .second, .val (.long dd), .second, .val (.int op), .val (.ref t), .val (.ref ar), .val (.int (2 : Int32)), .val (.int dq), .val (.int (1 : Int32)), .val (.int (1 : Int32)), .val (.int (0 : Int32)), .val (.int (0 : Int32)), .unset, .unset, .unset, .unset] [(.int (0 : Int32))]
        refine w_istore ok at_196 (L' := #[.val (.long aa), .second, .val (.long bb), .second, .val (.long cc), .second, .val (.long dd), .second, .val (.int op), .val (.ref t), .val (.ref ar), .val (.int (2 : Int32)), .val (.int dq), .val (.int (1 : Int32)), .val (.int (1 : Int32)), .val (.int (0 : Int32)), .val (.int (0 : Int32)), .val (.int (0 : Int32)), .unset, .unset, .unset]) rfl ?_
        refine w_iload ok at_198 rfl ?_
        refine w_if_ne ok at_200 (pc' := 225) (by decide) (fun hc213 => ?_) (fun hc213 => False.elim (by revert hc213; decide))
        show W K l _ n0 _ h0 8 19 225 #[.val (.long aa), .second, .val (.long bb), .second, .val (.long cc), .second, .val (.long dd), .second, .val (.int op), .val (.ref t), .val (.ref ar), .val (.int (2 : Int32)), .val (.int dq), .val (.int (1 : Int32)), .val (.int (1 : Int32)), .val (.int (0 : Int32)), .val (.int (0 : Int32)), .val (.int (0 : Int32)), .unset, .unset, .unset] []
        refine w_iload ok at_225 rfl ?_
        refine w_if_lt ok at_227 (pc' := 236) (by decide) (fun hc215 => False.elim (by revert hc215; decide)) (fun hc215 => ?_)
        show W K l _ n0 _ h0 8 19 230 #[.val (.long aa), .second, .val (.long bb), .second, .val (.long cc), .second, .val (.long dd), .second, .val (.int op), .val (.ref t), .val (.ref ar), .val (.int (2 : Int32)), .val (.int dq), .val (.int (1 : Int32)), .val (.int (1 : Int32)), .val (.int (0 : Int32)), .val (.int (0 : Int32)), .val (.int (0 : Int32)), .unset, .unset, .unset] []
        refine w_iload ok at_230 rfl ?_
        refine w_iconst ok at_232 (v := (2 : Int32)) rfl ?_
        refine w_icmp_le ok at_233 (pc' := 238) (by decide) (fun hc217 => ?_) (fun hc217 => False.elim (by revert hc217; decide))
        show W K l _ n0 _ h0 8 19 238 #[.val (.long aa), .second, .val (.long bb), .second, .val (.long cc), .second, .val (.long dd), .second, .val (.int op), .val (.ref t), .val (.ref ar), .val (.int (2 : Int32)), .val (.int dq), .val (.int (1 : Int32)), .val (.int (1 : Int32)), .val (.int (0 : Int32)), .val (.int (0 : Int32)), .val (.int (0 : Int32)), .unset, .unset, .unset] []
        refine w_iload ok at_238 rfl ?_
        refine w_if_ne ok at_240 (pc' := 248) (by decide) (fun hc219 => False.elim (by revert hc219; decide)) (fun hc219 => ?_)
        show W K l _ n0 _ h0 8 19 243 #[.val (.long aa), .second, .val (.long bb), .second, .val (.long cc), .second, .val (.long dd), .second, .val (.int op), .val (.ref t), .val (.ref ar), .val (.int (2 : Int32)), .val (.int dq), .val (.int (1 : Int32)), .val (.int (1 : Int32)), .val (.int (0 : Int32)), .val (.int (0 : Int32)), .val (.int (0 : Int32)), .unset, .unset, .unset] []
        refine w_iload ok at_243 rfl ?_
        refine w_goto ok at_245 (pc' := 261) (by decide) ?_
        refine w_istore ok at_261 (L' := #[.val (.long aa), .second, .val (.long bb), .second, .val (.long cc), .second, .val (.long dd), .second, .val (.int op), .val (.ref t), .val (.ref ar), .val (.int (2 : Int32)), .val (.int dq), .val (.int (1 : Int32)), .val (.int (1 : Int32)), .val (.int (0 : Int32)), .val (.int (0 : Int32)), .val (.int (0 : Int32)), .val (.int (1 : Int32)), .unset, .unset]) rfl ?_
        refine w_iload ok at_263 rfl ?_
        refine w_if_ne ok at_265 (pc' := 270) (by decide) (fun hc221 => ?_) (fun hc221 => False.elim (by revert hc221; decide))
        show W K l _ n0 _ h0 8 19 270 #[.val (.long aa), .second, .val (.long bb), .second, .val (.long cc), .second, .val (.long dd), .second, .val (.int op), .val (.ref t), .val (.ref ar), .val (.int (2 : Int32)), .val (.int dq), .val (.int (1 : Int32)), .val (.int (1 : Int32)), .val (.int (0 : Int32)), .val (.int (0 : Int32)), .val (.int (0 : Int32)), .val (.int (1 : Int32)), .unset, .unset] []
        refine w_aload ok at_270 rfl rfl ?_
        refine w_iload ok at_272 rfl ?_
        refine w_laload ok (v := (.long (T 0))) at_274 A_ar (by decide) rfl ?_
        refine w_lstore ok at_275 (L' := #[.val (.long aa), .second, .val (.long bb), .second, .val (.long cc), .second, .val (.long dd), .second, .val (.int op), .val (.ref t), .val (.ref ar), .val (.int (2 : Int32)), .val (.int dq), .val (.int (1 : Int32)), .val (.int (1 : Int32)), .val (.int (0 : Int32)), .val (.int (0 : Int32)), .val (.int (0 : Int32)), .val (.int (1 : Int32)), .val (.long (T 0)), .second]) rfl ?_
        refine w_iload ok at_277 rfl ?_
        refine w_if_eq ok at_279 (pc' := 292) (by decide) (fun hc223 => False.elim (by revert hc223; decide)) (fun hc223 => ?_)
        show W K l _ n0 _ h0 8 19 282 #[.val (.long aa), .second, .val (.long bb), .second, .val (.long cc), .second, .val (.long dd), .second, .val (.int op), .val (.ref t), .val (.ref ar), .val (.int (2 : Int32)), .val (.int dq), .val (.int (1 : Int32)), .val (.int (1 : Int32)), .val (.int (0 : Int32)), .val (.int (0 : Int32)), .val (.int (0 : Int32)), .val (.int (1 : Int32)), .val (.long (T 0)), .second] []
        refine w_lload ok at_282 rfl ?_
        refine w_aload ok at_284 rfl rfl ?_
        refine w_iconst ok at_286 (v := (0 : Int32)) rfl ?_
        refine w_laload ok (v := (.long (T 0))) at_287 A_ar (by decide) rfl ?_
        refine w_lcmp_gt ok at_288 at_289 (pc' := 326) (by decide) (fun hc225 => False.elim (by exact own_least P H hs hy ey (j := 0) (by decide) ((hM 0 (by decide)).trans (if_pos (by decide))) ((hM 0 (by decide)).trans (if_pos (by decide))) hc225)) (fun hc225 => ?_)
        show W K l _ n0 _ h0 8 19 292 #[.val (.long aa), .second, .val (.long bb), .second, .val (.long cc), .second, .val (.long dd), .second, .val (.int op), .val (.ref t), .val (.ref ar), .val (.int (2 : Int32)), .val (.int dq), .val (.int (1 : Int32)), .val (.int (1 : Int32)), .val (.int (0 : Int32)), .val (.int (0 : Int32)), .val (.int (0 : Int32)), .val (.int (1 : Int32)), .val (.long (T 0)), .second] []
        refine w_iload ok at_292 rfl ?_
        refine w_if_eq ok at_294 (pc' := 307) (by decide) (fun hc227 => ?_) (fun hc227 => False.elim (by revert hc227; decide))
        show W K l _ n0 _ h0 8 19 307 #[.val (.long aa), .second, .val (.long bb), .second, .val (.long cc), .second, .val (.long dd), .second, .val (.int op), .val (.ref t), .val (.ref ar), .val (.int (2 : Int32)), .val (.int dq), .val (.int (1 : Int32)), .val (.int (1 : Int32)), .val (.int (0 : Int32)), .val (.int (0 : Int32)), .val (.int (0 : Int32)), .val (.int (1 : Int32)), .val (.long (T 0)), .second] []
        refine w_iload ok at_307 rfl ?_
        refine w_if_eq ok at_309 (pc' := 322) (by decide) (fun hc229 => ?_) (fun hc229 => False.elim (by revert hc229; decide))
        show W K l _ n0 _ h0 8 19 322 #[.val (.long aa), .second, .val (.long bb), .second, .val (.long cc), .second, .val (.long dd), .second, .val (.int op), .val (.ref t), .val (.ref ar), .val (.int (2 : Int32)), .val (.int dq), .val (.int (1 : Int32)), .val (.int (1 : Int32)), .val (.int (0 : Int32)), .val (.int (0 : Int32)), .val (.int (0 : Int32)), .val (.int (1 : Int32)), .val (.long (T 0)), .second] []
        refine w_iconst ok at_322 (v := (1 : Int32)) rfl ?_
        refine w_goto ok at_323 (pc' := 327) (by decide) ?_
        refine w_bret ok (by simp) at_327 (by decide) (by decide) ?_
        exact rfl
      · exact absurd (my.symm.trans ((hM 1 (by decide)).trans (if_neg (by decide)))) (fun q => by cases q)
      · exact absurd (my.symm.trans ((hM 2 (by decide)).trans (if_neg (by decide)))) (fun q => by cases q)
      · exact absurd (my.symm.trans ((hM 3 (by decide)).trans (if_neg (by decide)))) (fun q => by cases q)
  · skip
    show W K l _ n0 _ h0 8 19 135 #[.val (.long aa), .second, .val (.long bb), .second, .val (.long cc), .second, .val (.long dd), .second, .val (.int op), .val (.ref t), .val (.ref ar), .val (.int (2 : Int32)), .val (.int dq), .val (.int (2 : Int32)), .unset, .unset, .unset, .unset, .unset, .unset, .unset] []
    refine w_iconst ok at_135 (v := (0 : Int32)) rfl ?_
    refine w_iload ok at_136 rfl ?_
    refine w_icmp_ge ok at_138 (pc' := 150) (by decide) (fun hc231 => False.elim (by revert hc231; decide)) (fun hc231 => ?_)
    show W K l _ n0 _ h0 8 19 141 #[.val (.long aa), .second, .val (.long bb), .second, .val (.long cc), .second, .val (.long dd), .second, .val (.int op), .val (.ref t), .val (.ref ar), .val (.int (2 : Int32)), .val (.int dq), .val (.int (2 : Int32)), .unset, .unset, .unset, .unset, .unset, .unset, .unset] []
    refine w_iload ok at_141 rfl ?_
    refine w_if_eq ok at_143 (pc' := 150) (by decide) (fun hc233 => False.elim (by revert hc233; decide)) (fun hc233 => ?_)
    show W K l _ n0 _ h0 8 19 146 #[.val (.long aa), .second, .val (.long bb), .second, .val (.long cc), .second, .val (.long dd), .second, .val (.int op), .val (.ref t), .val (.ref ar), .val (.int (2 : Int32)), .val (.int dq), .val (.int (2 : Int32)), .unset, .unset, .unset, .unset, .unset, .unset, .unset] []
    refine w_iconst ok at_146 (v := (1 : Int32)) rfl ?_
    refine w_goto ok at_147 (pc' := 151) (by decide) ?_
    refine w_istore ok at_151 (L' := #[.val (.long aa), .second, .val (.long bb), .second, .val (.long cc), .second, .val (.long dd), .second, .val (.int op), .val (.ref t), .val (.ref ar), .val (.int (2 : Int32)), .val (.int dq), .val (.int (2 : Int32)), .val (.int (1 : Int32)), .unset, .unset, .unset, .unset, .unset, .unset]) rfl ?_
    refine w_iconst ok at_153 (v := (1 : Int32)) rfl ?_
    refine w_iload ok at_154 rfl ?_
    refine w_icmp_ge ok at_156 (pc' := 169) (by decide) (fun hc235 => False.elim (by revert hc235; decide)) (fun hc235 => ?_)
    show W K l _ n0 _ h0 8 19 159 #[.val (.long aa), .second, .val (.long bb), .second, .val (.long cc), .second, .val (.long dd), .second, .val (.int op), .val (.ref t), .val (.ref ar), .val (.int (2 : Int32)), .val (.int dq), .val (.int (2 : Int32)), .val (.int (1 : Int32)), .unset, .unset, .unset, .unset, .unset, .unset] []
    refine w_iload ok at_159 rfl ?_
    refine w_iconst ok at_161 (v := (1 : Int32)) rfl ?_
    refine w_icmp_eq ok at_162 (pc' := 169) (by decide) (fun hc237 => False.elim (by revert hc237; decide)) (fun hc237 => ?_)
    show W K l _ n0 _ h0 8 19 165 #[.val (.long aa), .second, .val (.long bb), .second, .val (.long cc), .second, .val (.long dd), .second, .val (.int op), .val (.ref t), .val (.ref ar), .val (.int (2 : Int32)), .val (.int dq), .val (.int (2 : Int32)), .val (.int (1 : Int32)), .unset, .unset, .unset, .unset, .unset, .unset] []
    refine w_iconst ok at_165 (v := (1 : Int32)) rfl ?_
    refine w_goto ok at_166 (pc' := 170) (by decide) ?_
    refine w_istore ok at_170 (L' := #[.val (.long aa), .second, .val (.long bb), .second, .val (.long cc), .second, .val (.long dd), .second, .val (.int op), .val (.ref t), .val (.ref ar), .val (.int (2 : Int32)), .val (.int dq), .val (.int (2 : Int32)), .val (.int (1 : Int32)), .val (.int (1 : Int32)), .unset, .unset, .unset, .unset, .unset]) rfl ?_
    refine w_iconst ok at_172 (v := (2 : Int32)) rfl ?_
    refine w_iload ok at_173 rfl ?_
    refine w_icmp_ge ok at_175 (pc' := 188) (by decide) (fun hc239 => ?_) (fun hc239 => False.elim (by revert hc239; decide))
    show W K l _ n0 _ h0 8 19 188 #[.val (.long aa), .second, .val (.long bb), .second, .val (.long cc), .second, .val (.long dd), .second, .val (.int op), .val (.ref t), .val (.ref ar), .val (.int (2 : Int32)), .val (.int dq), .val (.int (2 : Int32)), .val (.int (1 : Int32)), .val (.int (1 : Int32)), .unset, .unset, .unset, .unset, .unset] []
    refine w_iconst ok at_188 (v := (0 : Int32)) rfl ?_
    refine w_istore ok at_189 (L' := #[.val (.long aa), .second, .val (.long bb), .second, .val (.long cc), .second, .val (.long dd), .second, .val (.int op), .val (.ref t), .val (.ref ar), .val (.int (2 : Int32)), .val (.int dq), .val (.int (2 : Int32)), .val (.int (1 : Int32)), .val (.int (1 : Int32)), .val (.int (0 : Int32)), .unset, .unset, .unset, .unset]) rfl ?_
    refine w_aload ok at_191 rfl rfl ?_
    refine w_callV ok (y := (⟨"com/example/rowan/rowan/store/IdleHeap", "first", "()I"⟩ : MethodName)) (a := t) (argsL := []) (rest := []) at_193 (hw _ (List.mem_of_getElem? (i := 79) rfl)) (hw _ (List.mem_of_getElem? (i := 80) rfl)) (hw _ (List.mem_of_getElem? (i := 82) rfl)) (hw _ (List.mem_of_getElem? (i := 81) rfl)) (hw _ (List.mem_of_getElem? (i := 2) rfl)) (hw _ (List.mem_of_getElem? (i := 83) rfl)) (by decide) A_t.1 pd_2829I rfl rfl (by decide) (Nat.le_of_ble_eq_true rfl) (by decide) (by decide) (fun z0 => rm_first l Z a0 hw [] n0 h0 z0 t en ti sl sz e g τ A_t A_en A_ti A_sl ge_t ge_en ge_ti ge_sl ne_t_en ne_t_ti ne_t_sl ne_en_ti ne_en_sl ne_ti_sl M P H) (fun v240 h241 qv240 => ?_)
    obtain ⟨rfl, ⟨hs0, rfl⟩ | ⟨y, hy, hs, ey, rfl⟩⟩ := qv240
    · subst hs0; exact (own_none0 P (by decide) ((hM 0 (by decide)).trans (if_pos (by decide)))).elim
    · have my := (P.at hs hy ey).1
      obtain rfl | rfl | rfl | rfl : y = 0 ∨ y = 1 ∨ y = 2 ∨ y = 3 := by omega
      · skip
        show W K l _ n0 _ h0 8 19 196 #[.val (.long aa), .second, .val (.long bb), .second, .val (.long cc), .second, .val (.long dd), .second, .val (.int op), .val (.ref t), .val (.ref ar), .val (.int (2 : Int32)), .val (.int dq), .val (.int (2 : Int32)), .val (.int (1 : Int32)), .val (.int (1 : Int32)), .val (.int (0 : Int32)), .unset, .unset, .unset, .unset] [(.int (0 : Int32))]
        refine w_istore ok at_196 (L' := #[.val (.long aa), .second, .val (.long bb), .second, .val (.long cc), .second, .val (.long dd), .second, .val (.int op), .val (.ref t), .val (.ref ar), .val (.int (2 : Int32)), .val (.int dq), .val (.int (2 : Int32)), .val (.int (1 : Int32)), .val (.int (1 : Int32)), .val (.int (0 : Int32)), .val (.int (0 : Int32)), .unset, .unset, .unset]) rfl ?_
        refine w_iload ok at_198 rfl ?_
        refine w_if_ne ok at_200 (pc' := 225) (by decide) (fun hc243 => ?_) (fun hc243 => False.elim (by revert hc243; decide))
        show W K l _ n0 _ h0 8 19 225 #[.val (.long aa), .second, .val (.long bb), .second, .val (.long cc), .second, .val (.long dd), .second, .val (.int op), .val (.ref t), .val (.ref ar), .val (.int (2 : Int32)), .val (.int dq), .val (.int (2 : Int32)), .val (.int (1 : Int32)), .val (.int (1 : Int32)), .val (.int (0 : Int32)), .val (.int (0 : Int32)), .unset, .unset, .unset] []
        refine w_iload ok at_225 rfl ?_
        refine w_if_lt ok at_227 (pc' := 236) (by decide) (fun hc245 => False.elim (by revert hc245; decide)) (fun hc245 => ?_)
        show W K l _ n0 _ h0 8 19 230 #[.val (.long aa), .second, .val (.long bb), .second, .val (.long cc), .second, .val (.long dd), .second, .val (.int op), .val (.ref t), .val (.ref ar), .val (.int (2 : Int32)), .val (.int dq), .val (.int (2 : Int32)), .val (.int (1 : Int32)), .val (.int (1 : Int32)), .val (.int (0 : Int32)), .val (.int (0 : Int32)), .unset, .unset, .unset] []
        refine w_iload ok at_230 rfl ?_
        refine w_iconst ok at_232 (v := (2 : Int32)) rfl ?_
        refine w_icmp_le ok at_233 (pc' := 238) (by decide) (fun hc247 => ?_) (fun hc247 => False.elim (by revert hc247; decide))
        show W K l _ n0 _ h0 8 19 238 #[.val (.long aa), .second, .val (.long bb), .second, .val (.long cc), .second, .val (.long dd), .second, .val (.int op), .val (.ref t), .val (.ref ar), .val (.int (2 : Int32)), .val (.int dq), .val (.int (2 : Int32)), .val (.int (1 : Int32)), .val (.int (1 : Int32)), .val (.int (0 : Int32)), .val (.int (0 : Int32)), .unset, .unset, .unset] []
        refine w_iload ok at_238 rfl ?_
        refine w_if_ne ok at_240 (pc' := 248) (by decide) (fun hc249 => False.elim (by revert hc249; decide)) (fun hc249 => ?_)
        show W K l _ n0 _ h0 8 19 243 #[.val (.long aa), .second, .val (.long bb), .second, .val (.long cc), .second, .val (.long dd), .second, .val (.int op), .val (.ref t), .val (.ref ar), .val (.int (2 : Int32)), .val (.int dq), .val (.int (2 : Int32)), .val (.int (1 : Int32)), .val (.int (1 : Int32)), .val (.int (0 : Int32)), .val (.int (0 : Int32)), .unset, .unset, .unset] []
        refine w_iload ok at_243 rfl ?_
        refine w_goto ok at_245 (pc' := 261) (by decide) ?_
        refine w_istore ok at_261 (L' := #[.val (.long aa), .second, .val (.long bb), .second, .val (.long cc), .second, .val (.long dd), .second, .val (.int op), .val (.ref t), .val (.ref ar), .val (.int (2 : Int32)), .val (.int dq), .val (.int (2 : Int32)), .val (.int (1 : Int32)), .val (.int (1 : Int32)), .val (.int (0 : Int32)), .val (.int (0 : Int32)), .val (.int (1 : Int32)), .unset, .unset]) rfl ?_
        refine w_iload ok at_263 rfl ?_
        refine w_if_ne ok at_265 (pc' := 270) (by decide) (fun hc251 => ?_) (fun hc251 => False.elim (by revert hc251; decide))
        show W K l _ n0 _ h0 8 19 270 #[.val (.long aa), .second, .val (.long bb), .second, .val (.long cc), .second, .val (.long dd), .second, .val (.int op), .val (.ref t), .val (.ref ar), .val (.int (2 : Int32)), .val (.int dq), .val (.int (2 : Int32)), .val (.int (1 : Int32)), .val (.int (1 : Int32)), .val (.int (0 : Int32)), .val (.int (0 : Int32)), .val (.int (1 : Int32)), .unset, .unset] []
        refine w_aload ok at_270 rfl rfl ?_
        refine w_iload ok at_272 rfl ?_
        refine w_laload ok (v := (.long (T 0))) at_274 A_ar (by decide) rfl ?_
        refine w_lstore ok at_275 (L' := #[.val (.long aa), .second, .val (.long bb), .second, .val (.long cc), .second, .val (.long dd), .second, .val (.int op), .val (.ref t), .val (.ref ar), .val (.int (2 : Int32)), .val (.int dq), .val (.int (2 : Int32)), .val (.int (1 : Int32)), .val (.int (1 : Int32)), .val (.int (0 : Int32)), .val (.int (0 : Int32)), .val (.int (1 : Int32)), .val (.long (T 0)), .second]) rfl ?_
        refine w_iload ok at_277 rfl ?_
        refine w_if_eq ok at_279 (pc' := 292) (by decide) (fun hc253 => False.elim (by revert hc253; decide)) (fun hc253 => ?_)
        show W K l _ n0 _ h0 8 19 282 #[.val (.long aa), .second, .val (.long bb), .second, .val (.long cc), .second, .val (.long dd), .second, .val (.int op), .val (.ref t), .val (.ref ar), .val (.int (2 : Int32)), .val (.int dq), .val (.int (2 : Int32)), .val (.int (1 : Int32)), .val (.int (1 : Int32)), .val (.int (0 : Int32)), .val (.int (0 : Int32)), .val (.int (1 : Int32)), .val (.long (T 0)), .second] []
        refine w_lload ok at_282 rfl ?_
        refine w_aload ok at_284 rfl rfl ?_
        refine w_iconst ok at_286 (v := (0 : Int32)) rfl ?_
        refine w_laload ok (v := (.long (T 0))) at_287 A_ar (by decide) rfl ?_
        refine w_lcmp_gt ok at_288 at_289 (pc' := 326) (by decide) (fun hc255 => False.elim (by exact own_least P H hs hy ey (j := 0) (by decide) ((hM 0 (by decide)).trans (if_pos (by decide))) ((hM 0 (by decide)).trans (if_pos (by decide))) hc255)) (fun hc255 => ?_)
        show W K l _ n0 _ h0 8 19 292 #[.val (.long aa), .second, .val (.long bb), .second, .val (.long cc), .second, .val (.long dd), .second, .val (.int op), .val (.ref t), .val (.ref ar), .val (.int (2 : Int32)), .val (.int dq), .val (.int (2 : Int32)), .val (.int (1 : Int32)), .val (.int (1 : Int32)), .val (.int (0 : Int32)), .val (.int (0 : Int32)), .val (.int (1 : Int32)), .val (.long (T 0)), .second] []
        refine w_iload ok at_292 rfl ?_
        refine w_if_eq ok at_294 (pc' := 307) (by decide) (fun hc257 => False.elim (by revert hc257; decide)) (fun hc257 => ?_)
        show W K l _ n0 _ h0 8 19 297 #[.val (.long aa), .second, .val (.long bb), .second, .val (.long cc), .second, .val (.long dd), .second, .val (.int op), .val (.ref t), .val (.ref ar), .val (.int (2 : Int32)), .val (.int dq), .val (.int (2 : Int32)), .val (.int (1 : Int32)), .val (.int (1 : Int32)), .val (.int (0 : Int32)), .val (.int (0 : Int32)), .val (.int (1 : Int32)), .val (.long (T 0)), .second] []
        refine w_lload ok at_297 rfl ?_
        refine w_aload ok at_299 rfl rfl ?_
        refine w_iconst ok at_301 (v := (1 : Int32)) rfl ?_
        refine w_laload ok (v := (.long (T 1))) at_302 A_ar (by decide) rfl ?_
        refine w_lcmp_gt ok at_303 at_304 (pc' := 326) (by decide) (fun hc259 => False.elim (by exact own_least P H hs hy ey (j := 1) (by decide) ((hM 0 (by decide)).trans (if_pos (by decide))) ((hM 1 (by decide)).trans (if_pos (by decide))) hc259)) (fun hc259 => ?_)
        show W K l _ n0 _ h0 8 19 307 #[.val (.long aa), .second, .val (.long bb), .second, .val (.long cc), .second, .val (.long dd), .second, .val (.int op), .val (.ref t), .val (.ref ar), .val (.int (2 : Int32)), .val (.int dq), .val (.int (2 : Int32)), .val (.int (1 : Int32)), .val (.int (1 : Int32)), .val (.int (0 : Int32)), .val (.int (0 : Int32)), .val (.int (1 : Int32)), .val (.long (T 0)), .second] []
        refine w_iload ok at_307 rfl ?_
        refine w_if_eq ok at_309 (pc' := 322) (by decide) (fun hc261 => ?_) (fun hc261 => False.elim (by revert hc261; decide))
        show W K l _ n0 _ h0 8 19 322 #[.val (.long aa), .second, .val (.long bb), .second, .val (.long cc), .second, .val (.long dd), .second, .val (.int op), .val (.ref t), .val (.ref ar), .val (.int (2 : Int32)), .val (.int dq), .val (.int (2 : Int32)), .val (.int (1 : Int32)), .val (.int (1 : Int32)), .val (.int (0 : Int32)), .val (.int (0 : Int32)), .val (.int (1 : Int32)), .val (.long (T 0)), .second] []
        refine w_iconst ok at_322 (v := (1 : Int32)) rfl ?_
        refine w_goto ok at_323 (pc' := 327) (by decide) ?_
        refine w_bret ok (by simp) at_327 (by decide) (by decide) ?_
        exact rfl
      · skip
        show W K l _ n0 _ h0 8 19 196 #[.val (.long aa), .second, .val (.long bb), .second, .val (.long cc), .second, .val (.long dd), .second, .val (.int op), .val (.ref t), .val (.ref ar), .val (.int (2 : Int32)), .val (.int dq), .val (.int (2 : Int32)), .val (.int (1 : Int32)), .val (.int (1 : Int32)), .val (.int (0 : Int32)), .unset, .unset, .unset, .unset] [(.int (1 : Int32))]
        refine w_istore ok at_196 (L' := #[.val (.long aa), .second, .val (.long bb), .second, .val (.long cc), .second, .val (.long dd), .second, .val (.int op), .val (.ref t), .val (.ref ar), .val (.int (2 : Int32)), .val (.int dq), .val (.int (2 : Int32)), .val (.int (1 : Int32)), .val (.int (1 : Int32)), .val (.int (0 : Int32)), .val (.int (1 : Int32)), .unset, .unset, .unset]) rfl ?_
        refine w_iload ok at_198 rfl ?_
        refine w_if_ne ok at_200 (pc' := 225) (by decide) (fun hc263 => ?_) (fun hc263 => False.elim (by revert hc263; decide))
        show W K l _ n0 _ h0 8 19 225 #[.val (.long aa), .second, .val (.long bb), .second, .val (.long cc), .second, .val (.long dd), .second, .val (.int op), .val (.ref t), .val (.ref ar), .val (.int (2 : Int32)), .val (.int dq), .val (.int (2 : Int32)), .val (.int (1 : Int32)), .val (.int (1 : Int32)), .val (.int (0 : Int32)), .val (.int (1 : Int32)), .unset, .unset, .unset] []
        refine w_iload ok at_225 rfl ?_
        refine w_if_lt ok at_227 (pc' := 236) (by decide) (fun hc265 => False.elim (by revert hc265; decide)) (fun hc265 => ?_)
        show W K l _ n0 _ h0 8 19 230 #[.val (.long aa), .second, .val (.long bb), .second, .val (.long cc), .second, .val (.long dd), .second, .val (.int op), .val (.ref t), .val (.ref ar), .val (.int (2 : Int32)), .val (.int dq), .val (.int (2 : Int32)), .val (.int (1 : Int32)), .val (.int (1 : Int32)), .val (.int (0 : Int32)), .val (.int (1 : Int32)), .unset, .unset, .unset] []
        refine w_iload ok at_230 rfl ?_
        refine w_iconst ok at_232 (v := (2 : Int32)) rfl ?_
        refine w_icmp_le ok at_233 (pc' := 238) (by decide) (fun hc267 => ?_) (fun hc267 => False.elim (by revert hc267; decide))
        show W K l _ n0 _ h0 8 19 238 #[.val (.long aa), .second, .val (.long bb), .second, .val (.long cc), .second, .val (.long dd), .second, .val (.int op), .val (.ref t), .val (.ref ar), .val (.int (2 : Int32)), .val (.int dq), .val (.int (2 : Int32)), .val (.int (1 : Int32)), .val (.int (1 : Int32)), .val (.int (0 : Int32)), .val (.int (1 : Int32)), .unset, .unset, .unset] []
        refine w_iload ok at_238 rfl ?_
        refine w_if_ne ok at_240 (pc' := 248) (by decide) (fun hc269 => ?_) (fun hc269 => False.elim (by revert hc269; decide))
        show W K l _ n0 _ h0 8 19 248 #[.val (.long aa), .second, .val (.long bb), .second, .val (.long cc), .second, .val (.long dd), .second, .val (.int op), .val (.ref t), .val (.ref ar), .val (.int (2 : Int32)), .val (.int dq), .val (.int (2 : Int32)), .val (.int (1 : Int32)), .val (.int (1 : Int32)), .val (.int (0 : Int32)), .val (.int (1 : Int32)), .unset, .unset, .unset] []
        refine w_iload ok at_248 rfl ?_
        refine w_iconst ok at_250 (v := (1 : Int32)) rfl ?_
        refine w_icmp_ne ok at_251 (pc' := 259) (by decide) (fun hc271 => False.elim (by revert hc271; decide)) (fun hc271 => ?_)
        show W K l _ n0 _ h0 8 19 254 #[.val (.long aa), .second, .val (.long bb), .second, .val (.long cc), .second, .val (.long dd), .second, .val (.int op), .val (.ref t), .val (.ref ar), .val (.int (2 : Int32)), .val (.int dq), .val (.int (2 : Int32)), .val (.int (1 : Int32)), .val (.int (1 : Int32)), .val (.int (0 : Int32)), .val (.int (1 : Int32)), .unset, .unset, .unset] []
        refine w_iload ok at_254 rfl ?_
        refine w_goto ok at_256 (pc' := 261) (by decide) ?_
        refine w_istore ok at_261 (L' := #[.val (.long aa), .second, .val (.long bb), .second, .val (.long cc), .second, .val (.long dd), .second, .val (.int op), .val (.ref t), .val (.ref ar), .val (.int (2 : Int32)), .val (.int dq), .val (.int (2 : Int32)), .val (.int (1 : Int32)), .val (.int (1 : Int32)), .val (.int (0 : Int32)), .val (.int (1 : Int32)), .val (.int (1 : Int32)), .unset, .unset]) rfl ?_
        refine w_iload ok at_263 rfl ?_
        refine w_if_ne ok at_265 (pc' := 270) (by decide) (fun hc273 => ?_) (fun hc273 => False.elim (by revert hc273; decide))
        show W K l _ n0 _ h0 8 19 270 #[.val (.long aa), .second, .val (.long bb), .second, .val (.long cc), .second, .val (.long dd), .second, .val (.int op), .val (.ref t), .val (.ref ar), .val (.int (2 : Int32)), .val (.int dq), .val (.int (2 : Int32)), .val (.int (1 : Int32)), .val (.int (1 : Int32)), .val (.int (0 : Int32)), .val (.int (1 : Int32)), .val (.int (1 : Int32)), .unset, .unset] []
        refine w_aload ok at_270 rfl rfl ?_
        refine w_iload ok at_272 rfl ?_
        refine w_laload ok (v := (.long (T 1))) at_274 A_ar (by decide) rfl ?_
        refine w_lstore ok at_275 (L' := #[.val (.long aa), .second, .val (.long bb), .second, .val (.long cc), .second, .val (.long dd), .second, .val (.int op), .val (.ref t), .val (.ref ar), .val (.int (2 : Int32)), .val (.int dq), .val (.int (2 : Int32)), .val (.int (1 : Int32)), .val (.int (1 : Int32)), .val (.int (0 : Int32)), .val (.int (1 : Int32)), .val (.int (1 : Int32)), .val (.long (T 1)), .second]) rfl ?_
        refine w_iload ok at_277 rfl ?_
        refine w_if_eq ok at_279 (pc' := 292) (by decide) (fun hc275 => False.elim (by revert hc275; decide)) (fun hc275 => ?_)
        show W K l _ n0 _ h0 8 19 282 #[.val (.long aa), .second, .val (.long bb), .second, .val (.long cc), .second, .val (.long dd), .second, .val (.int op), .val (.ref t), .val (.ref ar), .val (.int (2 : Int32)), .val (.int dq), .val (.int (2 : Int32)), .val (.int (1 : Int32)), .val (.int (1 : Int32)), .val (.int (0 : Int32)), .val (.int (1 : Int32)), .val (.int (1 : Int32)), .val (.long (T 1)), .second] []
        refine w_lload ok at_282 rfl ?_
        refine w_aload ok at_284 rfl rfl ?_
        refine w_iconst ok at_286 (v := (0 : Int32)) rfl ?_
        refine w_laload ok (v := (.long (T 0))) at_287 A_ar (by decide) rfl ?_
        refine w_lcmp_gt ok at_288 at_289 (pc' := 326) (by decide) (fun hc277 => False.elim (by exact own_least P H hs hy ey (j := 0) (by decide) ((hM 1 (by decide)).trans (if_pos (by decide))) ((hM 0 (by decide)).trans (if_pos (by decide))) hc277)) (fun hc277 => ?_)
        show W K l _ n0 _ h0 8 19 292 #[.val (.long aa), .second, .val (.long bb), .second, .val (.long cc), .second, .val (.long dd), .second, .val (.int op), .val (.ref t), .val (.ref ar), .val (.int (2 : Int32)), .val (.int dq), .val (.int (2 : Int32)), .val (.int (1 : Int32)), .val (.int (1 : Int32)), .val (.int (0 : Int32)), .val (.int (1 : Int32)), .val (.int (1 : Int32)), .val (.long (T 1)), .second] []
        refine w_iload ok at_292 rfl ?_
        refine w_if_eq ok at_294 (pc' := 307) (by decide) (fun hc279 => False.elim (by revert hc279; decide)) (fun hc279 => ?_)
        show W K l _ n0 _ h0 8 19 297 #[.val (.long aa), .second, .val (.long bb), .second, .val (.long cc), .second, .val (.long dd), .second, .val (.int op), .val (.ref t), .val (.ref ar), .val (.int (2 : Int32)), .val (.int dq), .val (.int (2 : Int32)), .val (.int (1 : Int32)), .val (.int (1 : Int32)), .val (.int (0 : Int32)), .val (.int (1 : Int32)), .val (.int (1 : Int32)), .val (.long (T 1)), .second] []
        refine w_lload ok at_297 rfl ?_
        refine w_aload ok at_299 rfl rfl ?_
        refine w_iconst ok at_301 (v := (1 : Int32)) rfl ?_
        refine w_laload ok (v := (.long (T 1))) at_302 A_ar (by decide) rfl ?_
        refine w_lcmp_gt ok at_303 at_304 (pc' := 326) (by decide) (fun hc281 => False.elim (by exact own_least P H hs hy ey (j := 1) (by decide) ((hM 1 (by decide)).trans (if_pos (by decide))) ((hM 1 (by decide)).trans (if_pos (by decide))) hc281)) (fun hc281 => ?_)
        show W K l _ n0 _ h0 8 19 307 #[.val (.long aa), .second, .val (.long bb), .second, .val (.long cc), .second, .val (.long dd), .second, .val (.int op), .val (.ref t), .val (.ref ar), .val (.int (2 : Int32)), .val (.int dq), .val (.int (2 : Int32)), .val (.int (1 : Int32)), .val (.int (1 : Int32)), .val (.int (0 : Int32)), .val (.int (1 : Int32)), .val (.int (1 : Int32)), .val (.long (T 1)), .second] []
        refine w_iload ok at_307 rfl ?_
        refine w_if_eq ok at_309 (pc' := 322) (by decide) (fun hc283 => ?_) (fun hc283 => False.elim (by revert hc283; decide))
        show W K l _ n0 _ h0 8 19 322 #[.val (.long aa), .second, .val (.long bb), .second, .val (.long cc), .second, .val (.long dd), .second, .val (.int op), .val (.ref t), .val (.ref ar), .val (.int (2 : Int32)), .val (.int dq), .val (.int (2 : Int32)), .val (.int (1 : Int32)), .val (.int (1 : Int32)), .val (.int (0 : Int32)), .val (.int (1 : Int32)), .val (.int (1 : Int32)), .val (.long (T 1)), .second] []
        refine w_iconst ok at_322 (v := (1 : Int32)) rfl ?_
        refine w_goto ok at_323 (pc' := 327) (by decide) ?_
        refine w_bret ok (by simp) at_327 (by decide) (by decide) ?_
        exact rfl
      · exact absurd (my.symm.trans ((hM 2 (by decide)).trans (if_neg (by decide)))) (fun q => by cases q)
      · exact absurd (my.symm.trans ((hM 3 (by decide)).trans (if_neg (by decide)))) (fun q => by cases q)
  · skip
    show W K l _ n0 _ h0 8 19 135 #[.val (.long aa), .second, .val (.long bb), .second, .val (.long cc), .second, .val (.long dd), .second, .val (.int op), .val (.ref t), .val (.ref ar), .val (.int (2 : Int32)), .val (.int dq), .val (.int (3 : Int32)), .unset, .unset, .unset, .unset, .unset, .unset, .unset] []
    refine w_iconst ok at_135 (v := (0 : Int32)) rfl ?_
    refine w_iload ok at_136 rfl ?_
    refine w_icmp_ge ok at_138 (pc' := 150) (by decide) (fun hc285 => False.elim (by revert hc285; decide)) (fun hc285 => ?_)
    show W K l _ n0 _ h0 8 19 141 #[.val (.long aa), .second, .val (.long bb), .second, .val (.long cc), .second, .val (.long dd), .second, .val (.int op), .val (.ref t), .val (.ref ar), .val (.int (2 : Int32)), .val (.int dq), .val (.int (3 : Int32)), .unset, .unset, .unset, .unset, .unset, .unset, .unset] []
    refine w_iload ok at_141 rfl ?_
    refine w_if_eq ok at_143 (pc' := 150) (by decide) (fun hc287 => False.elim (by revert hc287; decide)) (fun hc287 => ?_)
    show W K l _ n0 _ h0 8 19 146 #[.val (.long aa), .second, .val (.long bb), .second, .val (.long cc), .second, .val (.long dd), .second, .val (.int op), .val (.ref t), .val (.ref ar), .val (.int (2 : Int32)), .val (.int dq), .val (.int (3 : Int32)), .unset, .unset, .unset, .unset, .unset, .unset, .unset] []
    refine w_iconst ok at_146 (v := (1 : Int32)) rfl ?_
    refine w_goto ok at_147 (pc' := 151) (by decide) ?_
    refine w_istore ok at_151 (L' := #[.val (.long aa), .second, .val (.long bb), .second, .val (.long cc), .second, .val (.long dd), .second, .val (.int op), .val (.ref t), .val (.ref ar), .val (.int (2 : Int32)), .val (.int dq), .val (.int (3 : Int32)), .val (.int (1 : Int32)), .unset, .unset, .unset, .unset, .unset, .unset]) rfl ?_
    refine w_iconst ok at_153 (v := (1 : Int32)) rfl ?_
    refine w_iload ok at_154 rfl ?_
    refine w_icmp_ge ok at_156 (pc' := 169) (by decide) (fun hc289 => False.elim (by revert hc289; decide)) (fun hc289 => ?_)
    show W K l _ n0 _ h0 8 19 159 #[.val (.long aa), .second, .val (.long bb), .second, .val (.long cc), .second, .val (.long dd), .second, .val (.int op), .val (.ref t), .val (.ref ar), .val (.int (2 : Int32)), .val (.int dq), .val (.int (3 : Int32)), .val (.int (1 : Int32)), .unset, .unset, .unset, .unset, .unset, .unset] []
    refine w_iload ok at_159 rfl ?_
    refine w_iconst ok at_161 (v := (1 : Int32)) rfl ?_
    refine w_icmp_eq ok at_162 (pc' := 169) (by decide) (fun hc291 => False.elim (by revert hc291; decide)) (fun hc291 => ?_)
    show W K l _ n0 _ h0 8 19 165 #[.val (.long aa), .second, .val (.long bb), .second, .val (.long cc), .second, .val (.long dd), .second, .val (.int op), .val (.ref t), .val (.ref ar), .val (.int (2 : Int32)), .val (.int dq), .val (.int (3 : Int32)), .val (.int (1 : Int32)), .unset, .unset, .unset, .unset, .unset, .unset] []
    refine w_iconst ok at_165 (v := (1 : Int32)) rfl ?_
    refine w_goto ok at_166 (pc' := 170) (by decide) ?_
    refine w_istore ok at_170 (L' := #[.val (.long aa), .second, .val (.long bb), .second, .val (.long cc), .second, .val (.long dd), .second, .val (.int op), .val (.ref t), .val (.ref ar), .val (.int (2 : Int32)), .val (.int dq), .val (.int (3 : Int32)), .val (.int (1 : Int32)), .val (.int (1 : Int32)), .unset, .unset, .unset, .unset, .unset]) rfl ?_
    refine w_iconst ok at_172 (v := (2 : Int32)) rfl ?_
    refine w_iload ok at_173 rfl ?_
    refine w_icmp_ge ok at_175 (pc' := 188) (by decide) (fun hc293 => ?_) (fun hc293 => False.elim (by revert hc293; decide))
    show W K l _ n0 _ h0 8 19 188 #[.val (.long aa), .second, .val (.long bb), .second, .val (.long cc), .second, .val (.long dd), .second, .val (.int op), .val (.ref t), .val (.ref ar), .val (.int (2 : Int32)), .val (.int dq), .val (.int (3 : Int32)), .val (.int (1 : Int32)), .val (.int (1 : Int32)), .unset, .unset, .unset, .unset, .unset] []
    refine w_iconst ok at_188 (v := (0 : Int32)) rfl ?_
    refine w_istore ok at_189 (L' := #[.val (.long aa), .second, .val (.long bb), .second, .val (.long cc), .second, .val (.long dd), .second, .val (.int op), .val (.ref t), .val (.ref ar), .val (.int (2 : Int32)), .val (.int dq), .val (.int (3 : Int32)), .val (.int (1 : Int32)), .val (.int (1 : Int32)), .val (.int (0 : Int32)), .unset, .unset, .unset, .unset]) rfl ?_
    refine w_aload ok at_191 rfl rfl ?_
    refine w_callV ok (y := (⟨"com/example/rowan/rowan/store/IdleHeap", "first", "()I"⟩ : MethodName)) (a := t) (argsL := []) (rest := []) at_193 (hw _ (List.mem_of_getElem? (i := 79) rfl)) (hw _ (List.mem_of_getElem? (i := 80) rfl)) (hw _ (List.mem_of_getElem? (i := 82) rfl)) (hw _ (List.mem_of_getElem? (i := 81) rfl)) (hw _ (List.mem_of_getElem? (i := 2) rfl)) (hw _ (List.mem_of_getElem? (i := 83) rfl)) (by decide) A_t.1 pd_2829I rfl rfl (by decide) (Nat.le_of_ble_eq_true rfl) (by decide) (by decide) (fun z0 => rm_first l Z a0 hw [] n0 h0 z0 t en ti sl sz e g τ A_t A_en A_ti A_sl ge_t ge_en ge_ti ge_sl ne_t_en ne_t_ti ne_t_sl ne_en_ti ne_en_sl ne_ti_sl M P H) (fun v294 h295 qv294 => ?_)
    obtain ⟨rfl, ⟨hs0, rfl⟩ | ⟨y, hy, hs, ey, rfl⟩⟩ := qv294
    · subst hs0; exact (own_none0 P (by decide) ((hM 0 (by decide)).trans (if_pos (by decide)))).elim
    · have my := (P.at hs hy ey).1
      obtain rfl | rfl | rfl | rfl : y = 0 ∨ y = 1 ∨ y = 2 ∨ y = 3 := by omega
      · skip
        show W K l _ n0 _ h0 8 19 196 #[.val (.long aa), .second, .val (.long bb), .second, .val (.long cc), .second, .val (.long dd), .second, .val (.int op), .val (.ref t), .val (.ref ar), .val (.int (2 : Int32)), .val (.int dq), .val (.int (3 : Int32)), .val (.int (1 : Int32)), .val (.int (1 : Int32)), .val (.int (0 : Int32)), .unset, .unset, .unset, .unset] [(.int (0 : Int32))]
        refine w_istore ok at_196 (L' := #[.val (.long aa), .second, .val (.long bb), .second, .val (.long cc), .second, .val (.long dd), .second, .val (.int op), .val (.ref t), .val (.ref ar), .val (.int (2 : Int32)), .val (.int dq), .val (.int (3 : Int32)), .val (.int (1 : Int32)), .val (.int (1 : Int32)), .val (.int (0 : Int32)), .val (.int (0 : Int32)), .unset, .unset, .unset]) rfl ?_
        refine w_iload ok at_198 rfl ?_
        refine w_if_ne ok at_200 (pc' := 225) (by decide) (fun hc297 => ?_) (fun hc297 => False.elim (by revert hc297; decide))
        show W K l _ n0 _ h0 8 19 225 #[.val (.long aa), .second, .val (.long bb), .second, .val (.long cc), .second, .val (.long dd), .second, .val (.int op), .val (.ref t), .val (.ref ar), .val (.int (2 : Int32)), .val (.int dq), .val (.int (3 : Int32)), .val (.int (1 : Int32)), .val (.int (1 : Int32)), .val (.int (0 : Int32)), .val (.int (0 : Int32)), .unset, .unset, .unset] []
        refine w_iload ok at_225 rfl ?_
        refine w_if_lt ok at_227 (pc' := 236) (by decide) (fun hc299 => False.elim (by revert hc299; decide)) (fun hc299 => ?_)
        show W K l _ n0 _ h0 8 19 230 #[.val (.long aa), .second, .val (.long bb), .second, .val (.long cc), .second, .val (.long dd), .second, .val (.int op), .val (.ref t), .val (.ref ar), .val (.int (2 : Int32)), .val (.int dq), .val (.int (3 : Int32)), .val (.int (1 : Int32)), .val (.int (1 : Int32)), .val (.int (0 : Int32)), .val (.int (0 : Int32)), .unset, .unset, .unset] []
        refine w_iload ok at_230 rfl ?_
        refine w_iconst ok at_232 (v := (2 : Int32)) rfl ?_
        refine w_icmp_le ok at_233 (pc' := 238) (by decide) (fun hc301 => ?_) (fun hc301 => False.elim (by revert hc301; decide))
        show W K l _ n0 _ h0 8 19 238 #[.val (.long aa), .second, .val (.long bb), .second, .val (.long cc), .second, .val (.long dd), .second, .val (.int op), .val (.ref t), .val (.ref ar), .val (.int (2 : Int32)), .val (.int dq), .val (.int (3 : Int32)), .val (.int (1 : Int32)), .val (.int (1 : Int32)), .val (.int (0 : Int32)), .val (.int (0 : Int32)), .unset, .unset, .unset] []
        refine w_iload ok at_238 rfl ?_
        refine w_if_ne ok at_240 (pc' := 248) (by decide) (fun hc303 => False.elim (by revert hc303; decide)) (fun hc303 => ?_)
        show W K l _ n0 _ h0 8 19 243 #[.val (.long aa), .second, .val (.long bb), .second, .val (.long cc), .second, .val (.long dd), .second, .val (.int op), .val (.ref t), .val (.ref ar), .val (.int (2 : Int32)), .val (.int dq), .val (.int (3 : Int32)), .val (.int (1 : Int32)), .val (.int (1 : Int32)), .val (.int (0 : Int32)), .val (.int (0 : Int32)), .unset, .unset, .unset] []
        refine w_iload ok at_243 rfl ?_
        refine w_goto ok at_245 (pc' := 261) (by decide) ?_
        refine w_istore ok at_261 (L' := #[.val (.long aa), .second, .val (.long bb), .second, .val (.long cc), .second, .val (.long dd), .second, .val (.int op), .val (.ref t), .val (.ref ar), .val (.int (2 : Int32)), .val (.int dq), .val (.int (3 : Int32)), .val (.int (1 : Int32)), .val (.int (1 : Int32)), .val (.int (0 : Int32)), .val (.int (0 : Int32)), .val (.int (1 : Int32)), .unset, .unset]) rfl ?_
        refine w_iload ok at_263 rfl ?_
        refine w_if_ne ok at_265 (pc' := 270) (by decide) (fun hc305 => ?_) (fun hc305 => False.elim (by revert hc305; decide))
        show W K l _ n0 _ h0 8 19 270 #[.val (.long aa), .second, .val (.long bb), .second, .val (.long cc), .second, .val (.long dd), .second, .val (.int op), .val (.ref t), .val (.ref ar), .val (.int (2 : Int32)), .val (.int dq), .val (.int (3 : Int32)), .val (.int (1 : Int32)), .val (.int (1 : Int32)), .val (.int (0 : Int32)), .val (.int (0 : Int32)), .val (.int (1 : Int32)), .unset, .unset] []
        refine w_aload ok at_270 rfl rfl ?_
        refine w_iload ok at_272 rfl ?_
        refine w_laload ok (v := (.long (T 0))) at_274 A_ar (by decide) rfl ?_
        refine w_lstore ok at_275 (L' := #[.val (.long aa), .second, .val (.long bb), .second, .val (.long cc), .second, .val (.long dd), .second, .val (.int op), .val (.ref t), .val (.ref ar), .val (.int (2 : Int32)), .val (.int dq), .val (.int (3 : Int32)), .val (.int (1 : Int32)), .val (.int (1 : Int32)), .val (.int (0 : Int32)), .val (.int (0 : Int32)), .val (.int (1 : Int32)), .val (.long (T 0)), .second]) rfl ?_
        refine w_iload ok at_277 rfl ?_
        refine w_if_eq ok at_279 (pc' := 292) (by decide) (fun hc307 => False.elim (by revert hc307; decide)) (fun hc307 => ?_)
        show W K l _ n0 _ h0 8 19 282 #[.val (.long aa), .second, .val (.long bb), .second, .val (.long cc), .second, .val (.long dd), .second, .val (.int op), .val (.ref t), .val (.ref ar), .val (.int (2 : Int32)), .val (.int dq), .val (.int (3 : Int32)), .val (.int (1 : Int32)), .val (.int (1 : Int32)), .val (.int (0 : Int32)), .val (.int (0 : Int32)), .val (.int (1 : Int32)), .val (.long (T 0)), .second] []
        refine w_lload ok at_282 rfl ?_
        refine w_aload ok at_284 rfl rfl ?_
        refine w_iconst ok at_286 (v := (0 : Int32)) rfl ?_
        refine w_laload ok (v := (.long (T 0))) at_287 A_ar (by decide) rfl ?_
        refine w_lcmp_gt ok at_288 at_289 (pc' := 326) (by decide) (fun hc309 => False.elim (by exact own_least P H hs hy ey (j := 0) (by decide) ((hM 0 (by decide)).trans (if_pos (by decide))) ((hM 0 (by decide)).trans (if_pos (by decide))) hc309)) (fun hc309 => ?_)
        show W K l _ n0 _ h0 8 19 292 #[.val (.long aa), .second, .val (.long bb), .second, .val (.long cc), .second, .val (.long dd), .second, .val (.int op), .val (.ref t), .val (.ref ar), .val (.int (2 : Int32)), .val (.int dq), .val (.int (3 : Int32)), .val (.int (1 : Int32)), .val (.int (1 : Int32)), .val (.int (0 : Int32)), .val (.int (0 : Int32)), .val (.int (1 : Int32)), .val (.long (T 0)), .second] []
        refine w_iload ok at_292 rfl ?_
        refine w_if_eq ok at_294 (pc' := 307) (by decide) (fun hc311 => False.elim (by revert hc311; decide)) (fun hc311 => ?_)
        show W K l _ n0 _ h0 8 19 297 #[.val (.long aa), .second, .val (.long bb), .second, .val (.long cc), .second, .val (.long dd), .second, .val (.int op), .val (.ref t), .val (.ref ar), .val (.int (2 : Int32)), .val (.int dq), .val (.int (3 : Int32)), .val (.int (1 : Int32)), .val (.int (1 : Int32)), .val (.int (0 : Int32)), .val (.int (0 : Int32)), .val (.int (1 : Int32)), .val (.long (T 0)), .second] []
        refine w_lload ok at_297 rfl ?_
        refine w_aload ok at_299 rfl rfl ?_
        refine w_iconst ok at_301 (v := (1 : Int32)) rfl ?_
        refine w_laload ok (v := (.long (T 1))) at_302 A_ar (by decide) rfl ?_
        refine w_lcmp_gt ok at_303 at_304 (pc' := 326) (by decide) (fun hc313 => False.elim (by exact own_least P H hs hy ey (j := 1) (by decide) ((hM 0 (by decide)).trans (if_pos (by decide))) ((hM 1 (by decide)).trans (if_pos (by decide))) hc313)) (fun hc313 => ?_)
        show W K l _ n0 _ h0 8 19 307 #[.val (.long aa), .second, .val (.long bb), .second, .val (.long cc), .second, .val (.long dd), .second, .val (.int op), .val (.ref t), .val (.ref ar), .val (.int (2 : Int32)), .val (.int dq), .val (.int (3 : Int32)), .val (.int (1 : Int32)), .val (.int (1 : Int32)), .val (.int (0 : Int32)), .val (.int (0 : Int32)), .val (.int (1 : Int32)), .val (.long (T 0)), .second] []
        refine w_iload ok at_307 rfl ?_
        refine w_if_eq ok at_309 (pc' := 322) (by decide) (fun hc315 => ?_) (fun hc315 => False.elim (by revert hc315; decide))
        show W K l _ n0 _ h0 8 19 322 #[.val (.long aa), .second, .val (.long bb), .second, .val (.long cc), .second, .val (.long dd), .second, .val (.int op), .val (.ref t), .val (.ref ar), .val (.int (2 : Int32)), .val (.int dq), .val (.int (3 : Int32)), .val (.int (1 : Int32)), .val (.int (1 : Int32)), .val (.int (0 : Int32)), .val (.int (0 : Int32)), .val (.int (1 : Int32)), .val (.long (T 0)), .second] []
        refine w_iconst ok at_322 (v := (1 : Int32)) rfl ?_
        refine w_goto ok at_323 (pc' := 327) (by decide) ?_
        refine w_bret ok (by simp) at_327 (by decide) (by decide) ?_
        exact rfl
      · skip
        show W K l _ n0 _ h0 8 19 196 #[.val (.long aa), .second, .val (.long bb), .second, .val (.long cc), .second, .val (.long dd), .second, .val (.int op), .val (.ref t), .val (.ref ar), .val (.int (2 : Int32)), .val (.int dq), .val (.int (3 : Int32)), .val (.int (1 : Int32)), .val (.int (1 : Int32)), .val (.int (0 : Int32)), .unset, .unset, .unset, .unset] [(.int (1 : Int32))]
        refine w_istore ok at_196 (L' := #[.val (.long aa), .second, .val (.long bb), .second, .val (.long cc), .second, .val (.long dd), .second, .val (.int op), .val (.ref t), .val (.ref ar), .val (.int (2 : Int32)), .val (.int dq), .val (.int (3 : Int32)), .val (.int (1 : Int32)), .val (.int (1 : Int32)), .val (.int (0 : Int32)), .val (.int (1 : Int32)), .unset, .unset, .unset]) rfl ?_
        refine w_iload ok at_198 rfl ?_
        refine w_if_ne ok at_200 (pc' := 225) (by decide) (fun hc317 => ?_) (fun hc317 => False.elim (by revert hc317; decide))
        show W K l _ n0 _ h0 8 19 225 #[.val (.long aa), .second, .val (.long bb), .second, .val (.long cc), .second, .val (.long dd), .second, .val (.int op), .val (.ref t), .val (.ref ar), .val (.int (2 : Int32)), .val (.int dq), .val (.int (3 : Int32)), .val (.int (1 : Int32)), .val (.int (1 : Int32)), .val (.int (0 : Int32)), .val (.int (1 : Int32)), .unset, .unset, .unset] []
        refine w_iload ok at_225 rfl ?_
        refine w_if_lt ok at_227 (pc' := 236) (by decide) (fun hc319 => False.elim (by revert hc319; decide)) (fun hc319 => ?_)
        show W K l _ n0 _ h0 8 19 230 #[.val (.long aa), .second, .val (.long bb), .second, .val (.long cc), .second, .val (.long dd), .second, .val (.int op), .val (.ref t), .val (.ref ar), .val (.int (2 : Int32)), .val (.int dq), .val (.int (3 : Int32)), .val (.int (1 : Int32)), .val (.int (1 : Int32)), .val (.int (0 : Int32)), .val (.int (1 : Int32)), .unset, .unset, .unset] []
        refine w_iload ok at_230 rfl ?_
        refine w_iconst ok at_232 (v := (2 : Int32)) rfl ?_
        refine w_icmp_le ok at_233 (pc' := 238) (by decide) (fun hc321 => ?_) (fun hc321 => False.elim (by revert hc321; decide))
        show W K l _ n0 _ h0 8 19 238 #[.val (.long aa), .second, .val (.long bb), .second, .val (.long cc), .second, .val (.long dd), .second, .val (.int op), .val (.ref t), .val (.ref ar), .val (.int (2 : Int32)), .val (.int dq), .val (.int (3 : Int32)), .val (.int (1 : Int32)), .val (.int (1 : Int32)), .val (.int (0 : Int32)), .val (.int (1 : Int32)), .unset, .unset, .unset] []
        refine w_iload ok at_238 rfl ?_
        refine w_if_ne ok at_240 (pc' := 248) (by decide) (fun hc323 => ?_) (fun hc323 => False.elim (by revert hc323; decide))
        show W K l _ n0 _ h0 8 19 248 #[.val (.long aa), .second, .val (.long bb), .second, .val (.long cc), .second, .val (.long dd), .second, .val (.int op), .val (.ref t), .val (.ref ar), .val (.int (2 : Int32)), .val (.int dq), .val (.int (3 : Int32)), .val (.int (1 : Int32)), .val (.int (1 : Int32)), .val (.int (0 : Int32)), .val (.int (1 : Int32)), .unset, .unset, .unset] []
        refine w_iload ok at_248 rfl ?_
        refine w_iconst ok at_250 (v := (1 : Int32)) rfl ?_
        refine w_icmp_ne ok at_251 (pc' := 259) (by decide) (fun hc325 => False.elim (by revert hc325; decide)) (fun hc325 => ?_)
        show W K l _ n0 _ h0 8 19 254 #[.val (.long aa), .second, .val (.long bb), .second, .val (.long cc), .second, .val (.long dd), .second, .val (.int op), .val (.ref t), .val (.ref ar), .val (.int (2 : Int32)), .val (.int dq), .val (.int (3 : Int32)), .val (.int (1 : Int32)), .val (.int (1 : Int32)), .val (.int (0 : Int32)), .val (.int (1 : Int32)), .unset, .unset, .unset] []
        refine w_iload ok at_254 rfl ?_
        refine w_goto ok at_256 (pc' := 261) (by decide) ?_
        refine w_istore ok at_261 (L' := #[.val (.long aa), .second, .val (.long bb), .second, .val (.long cc), .second, .val (.long dd), .second, .val (.int op), .val (.ref t), .val (.ref ar), .val (.int (2 : Int32)), .val (.int dq), .val (.int (3 : Int32)), .val (.int (1 : Int32)), .val (.int (1 : Int32)), .val (.int (0 : Int32)), .val (.int (1 : Int32)), .val (.int (1 : Int32)), .unset, .unset]) rfl ?_
        refine w_iload ok at_263 rfl ?_
        refine w_if_ne ok at_265 (pc' := 270) (by decide) (fun hc327 => ?_) (fun hc327 => False.elim (by revert hc327; decide))
        show W K l _ n0 _ h0 8 19 270 #[.val (.long aa), .second, .val (.long bb), .second, .val (.long cc), .second, .val (.long dd), .second, .val (.int op), .val (.ref t), .val (.ref ar), .val (.int (2 : Int32)), .val (.int dq), .val (.int (3 : Int32)), .val (.int (1 : Int32)), .val (.int (1 : Int32)), .val (.int (0 : Int32)), .val (.int (1 : Int32)), .val (.int (1 : Int32)), .unset, .unset] []
        refine w_aload ok at_270 rfl rfl ?_
        refine w_iload ok at_272 rfl ?_
        refine w_laload ok (v := (.long (T 1))) at_274 A_ar (by decide) rfl ?_
        refine w_lstore ok at_275 (L' := #[.val (.long aa), .second, .val (.long bb), .second, .val (.long cc), .second, .val (.long dd), .second, .val (.int op), .val (.ref t), .val (.ref ar), .val (.int (2 : Int32)), .val (.int dq), .val (.int (3 : Int32)), .val (.int (1 : Int32)), .val (.int (1 : Int32)), .val (.int (0 : Int32)), .val (.int (1 : Int32)), .val (.int (1 : Int32)), .val (.long (T 1)), .second]) rfl ?_
        refine w_iload ok at_277 rfl ?_
        refine w_if_eq ok at_279 (pc' := 292) (by decide) (fun hc329 => False.elim (by revert hc329; decide)) (fun hc329 => ?_)
        show W K l _ n0 _ h0 8 19 282 #[.val (.long aa), .second, .val (.long bb), .second, .val (.long cc), .second, .val (.long dd), .second, .val (.int op), .val (.ref t), .val (.ref ar), .val (.int (2 : Int32)), .val (.int dq), .val (.int (3 : Int32)), .val (.int (1 : Int32)), .val (.int (1 : Int32)), .val (.int (0 : Int32)), .val (.int (1 : Int32)), .val (.int (1 : Int32)), .val (.long (T 1)), .second] []
        refine w_lload ok at_282 rfl ?_
        refine w_aload ok at_284 rfl rfl ?_
        refine w_iconst ok at_286 (v := (0 : Int32)) rfl ?_
        refine w_laload ok (v := (.long (T 0))) at_287 A_ar (by decide) rfl ?_
        refine w_lcmp_gt ok at_288 at_289 (pc' := 326) (by decide) (fun hc331 => False.elim (by exact own_least P H hs hy ey (j := 0) (by decide) ((hM 1 (by decide)).trans (if_pos (by decide))) ((hM 0 (by decide)).trans (if_pos (by decide))) hc331)) (fun hc331 => ?_)
        show W K l _ n0 _ h0 8 19 292 #[.val (.long aa), .second, .val (.long bb), .second, .val (.long cc), .second, .val (.long dd), .second, .val (.int op), .val (.ref t), .val (.ref ar), .val (.int (2 : Int32)), .val (.int dq), .val (.int (3 : Int32)), .val (.int (1 : Int32)), .val (.int (1 : Int32)), .val (.int (0 : Int32)), .val (.int (1 : Int32)), .val (.int (1 : Int32)), .val (.long (T 1)), .second] []
        refine w_iload ok at_292 rfl ?_
        refine w_if_eq ok at_294 (pc' := 307) (by decide) (fun hc333 => False.elim (by revert hc333; decide)) (fun hc333 => ?_)
        show W K l _ n0 _ h0 8 19 297 #[.val (.long aa), .second, .val (.long bb), .second, .val (.long cc), .second, .val (.long dd), .second, .val (.int op), .val (.ref t), .val (.ref ar), .val (.int (2 : Int32)), .val (.int dq), .val (.int (3 : Int32)), .val (.int (1 : Int32)), .val (.int (1 : Int32)), .val (.int (0 : Int32)), .val (.int (1 : Int32)), .val (.int (1 : Int32)), .val (.long (T 1)), .second] []
        refine w_lload ok at_297 rfl ?_
        refine w_aload ok at_299 rfl rfl ?_
        refine w_iconst ok at_301 (v := (1 : Int32)) rfl ?_
        refine w_laload ok (v := (.long (T 1))) at_302 A_ar (by decide) rfl ?_
        refine w_lcmp_gt ok at_303 at_304 (pc' := 326) (by decide) (fun hc335 => False.elim (by exact own_least P H hs hy ey (j := 1) (by decide) ((hM 1 (by decide)).trans (if_pos (by decide))) ((hM 1 (by decide)).trans (if_pos (by decide))) hc335)) (fun hc335 => ?_)
        show W K l _ n0 _ h0 8 19 307 #[.val (.long aa), .second, .val (.long bb), .second, .val (.long cc), .second, .val (.long dd), .second, .val (.int op), .val (.ref t), .val (.ref ar), .val (.int (2 : Int32)), .val (.int dq), .val (.int (3 : Int32)), .val (.int (1 : Int32)), .val (.int (1 : Int32)), .val (.int (0 : Int32)), .val (.int (1 : Int32)), .val (.int (1 : Int32)), .val (.long (T 1)), .second] []
        refine w_iload ok at_307 rfl ?_
        refine w_if_eq ok at_309 (pc' := 322) (by decide) (fun hc337 => ?_) (fun hc337 => False.elim (by revert hc337; decide))
        show W K l _ n0 _ h0 8 19 322 #[.val (.long aa), .second, .val (.long bb), .second, .val (.long cc), .second, .val (.long dd), .second, .val (.int op), .val (.ref t), .val (.ref ar), .val (.int (2 : Int32)), .val (.int dq), .val (.int (3 : Int32)), .val (.int (1 : Int32)), .val (.int (1 : Int32)), .val (.int (0 : Int32)), .val (.int (1 : Int32)), .val (.int (1 : Int32)), .val (.long (T 1)), .second] []
        refine w_iconst ok at_322 (v := (1 : Int32)) rfl ?_
        refine w_goto ok at_323 (pc' := 327) (by decide) ?_
        refine w_bret ok (by simp) at_327 (by decide) (by decide) ?_
        exact rfl
      · exact absurd (my.symm.trans ((hM 2 (by decide)).trans (if_neg (by decide)))) (fun q => by cases q)
      · exact absurd (my.symm.trans ((hM 3 (by decide)).trans (if_neg (by decide)))) (fun q => by cases q)
  · skip
    show W K l _ n0 _ h0 8 19 135 #[.val (.long aa), .second, .val (.long bb), .second, .val (.long cc), .second, .val (.long dd), .second, .val (.int op), .val (.ref t), .val (.ref ar), .val (.int (3 : Int32)), .val (.int dq), .val (.int (0 : Int32)), .unset, .unset, .unset, .unset, .unset, .unset, .unset] []
    refine w_iconst ok at_135 (v := (0 : Int32)) rfl ?_
    refine w_iload ok at_136 rfl ?_
    refine w_icmp_ge ok at_138 (pc' := 150) (by decide) (fun hc339 => False.elim (by revert hc339; decide)) (fun hc339 => ?_)
    show W K l _ n0 _ h0 8 19 141 #[.val (.long aa), .second, .val (.long bb), .second, .val (.long cc), .second, .val (.long dd), .second, .val (.int op), .val (.ref t), .val (.ref ar), .val (.int (3 : Int32)), .val (.int dq), .val (.int (0 : Int32)), .unset, .unset, .unset, .unset, .unset, .unset, .unset] []
    refine w_iload ok at_141 rfl ?_
    refine w_if_eq ok at_143 (pc' := 150) (by decide) (fun hc341 => ?_) (fun hc341 => False.elim (by revert hc341; decide))
    show W K l _ n0 _ h0 8 19 150 #[.val (.long aa), .second, .val (.long bb), .second, .val (.long cc), .second, .val (.long dd), .second, .val (.int op), .val (.ref t), .val (.ref ar), .val (.int (3 : Int32)), .val (.int dq), .val (.int (0 : Int32)), .unset, .unset, .unset, .unset, .unset, .unset, .unset] []
    refine w_iconst ok at_150 (v := (0 : Int32)) rfl ?_
    refine w_istore ok at_151 (L' := #[.val (.long aa), .second, .val (.long bb), .second, .val (.long cc), .second, .val (.long dd), .second, .val (.int op), .val (.ref t), .val (.ref ar), .val (.int (3 : Int32)), .val (.int dq), .val (.int (0 : Int32)), .val (.int (0 : Int32)), .unset, .unset, .unset, .unset, .unset, .unset]) rfl ?_
    refine w_iconst ok at_153 (v := (1 : Int32)) rfl ?_
    refine w_iload ok at_154 rfl ?_
    refine w_icmp_ge ok at_156 (pc' := 169) (by decide) (fun hc343 => False.elim (by revert hc343; decide)) (fun hc343 => ?_)
    show W K l _ n0 _ h0 8 19 159 #[.val (.long aa), .second, .val (.long bb), .second, .val (.long cc), .second, .val (.long dd), .second, .val (.int op), .val (.ref t), .val (.ref ar), .val (.int (3 : Int32)), .val (.int dq), .val (.int (0 : Int32)), .val (.int (0 : Int32)), .unset, .unset, .unset, .unset, .unset, .unset] []
    refine w_iload ok at_159 rfl ?_
    refine w_iconst ok at_161 (v := (1 : Int32)) rfl ?_
    refine w_icmp_eq ok at_162 (pc' := 169) (by decide) (fun hc345 => False.elim (by revert hc345; decide)) (fun hc345 => ?_)
    show W K l _ n0 _ h0 8 19 165 #[.val (.long aa), .second, .val (.long bb), .second, .val (.long cc), .second, .val (.long dd), .second, .val (.int op), .val (.ref t), .val (.ref ar), .val (.int (3 : Int32)), .val (.int dq), .val (.int (0 : Int32)), .val (.int (0 : Int32)), .unset, .unset, .unset, .unset, .unset, .unset] []
    refine w_iconst ok at_165 (v := (1 : Int32)) rfl ?_
    refine w_goto ok at_166 (pc' := 170) (by decide) ?_
    refine w_istore ok at_170 (L' := #[.val (.long aa), .second, .val (.long bb), .second, .val (.long cc), .second, .val (.long dd), .second, .val (.int op), .val (.ref t), .val (.ref ar), .val (.int (3 : Int32)), .val (.int dq), .val (.int (0 : Int32)), .val (.int (0 : Int32)), .val (.int (1 : Int32)), .unset, .unset, .unset, .unset, .unset]) rfl ?_
    refine w_iconst ok at_172 (v := (2 : Int32)) rfl ?_
    refine w_iload ok at_173 rfl ?_
    refine w_icmp_ge ok at_175 (pc' := 188) (by decide) (fun hc347 => False.elim (by revert hc347; decide)) (fun hc347 => ?_)
    show W K l _ n0 _ h0 8 19 178 #[.val (.long aa), .second, .val (.long bb), .second, .val (.long cc), .second, .val (.long dd), .second, .val (.int op), .val (.ref t), .val (.ref ar), .val (.int (3 : Int32)), .val (.int dq), .val (.int (0 : Int32)), .val (.int (0 : Int32)), .val (.int (1 : Int32)), .unset, .unset, .unset, .unset, .unset] []
    refine w_iload ok at_178 rfl ?_
    refine w_iconst ok at_180 (v := (2 : Int32)) rfl ?_
    refine w_icmp_eq ok at_181 (pc' := 188) (by decide) (fun hc349 => False.elim (by revert hc349; decide)) (fun hc349 => ?_)
    show W K l _ n0 _ h0 8 19 184 #[.val (.long aa), .second, .val (.long bb), .second, .val (.long cc), .second, .val (.long dd), .second, .val (.int op), .val (.ref t), .val (.ref ar), .val (.int (3 : Int32)), .val (.int dq), .val (.int (0 : Int32)), .val (.int (0 : Int32)), .val (.int (1 : Int32)), .unset, .unset, .unset, .unset, .unset] []
    refine w_iconst ok at_184 (v := (1 : Int32)) rfl ?_
    refine w_goto ok at_185 (pc' := 189) (by decide) ?_
    refine w_istore ok at_189 (L' := #[.val (.long aa), .second, .val (.long bb), .second, .val (.long cc), .second, .val (.long dd), .second, .val (.int op), .val (.ref t), .val (.ref ar), .val (.int (3 : Int32)), .val (.int dq), .val (.int (0 : Int32)), .val (.int (0 : Int32)), .val (.int (1 : Int32)), .val (.int (1 : Int32)), .unset, .unset, .unset, .unset]) rfl ?_
    refine w_aload ok at_191 rfl rfl ?_
    refine w_callV ok (y := (⟨"com/example/rowan/rowan/store/IdleHeap", "first", "()I"⟩ : MethodName)) (a := t) (argsL := []) (rest := []) at_193 (hw _ (List.mem_of_getElem? (i := 79) rfl)) (hw _ (List.mem_of_getElem? (i := 80) rfl)) (hw _ (List.mem_of_getElem? (i := 82) rfl)) (hw _ (List.mem_of_getElem? (i := 81) rfl)) (hw _ (List.mem_of_getElem? (i := 2) rfl)) (hw _ (List.mem_of_getElem? (i := 83) rfl)) (by decide) A_t.1 pd_2829I rfl rfl (by decide) (Nat.le_of_ble_eq_true rfl) (by decide) (by decide) (fun z0 => rm_first l Z a0 hw [] n0 h0 z0 t en ti sl sz e g τ A_t A_en A_ti A_sl ge_t ge_en ge_ti ge_sl ne_t_en ne_t_ti ne_t_sl ne_en_ti ne_en_sl ne_ti_sl M P H) (fun v350 h351 qv350 => ?_)
    obtain ⟨rfl, ⟨hs0, rfl⟩ | ⟨y, hy, hs, ey, rfl⟩⟩ := qv350
    · subst hs0; exact (own_none0 P (by decide) ((hM 1 (by decide)).trans (if_pos (by decide)))).elim
    · have my := (P.at hs hy ey).1
      obtain rfl | rfl | rfl | rfl : y = 0 ∨ y = 1 ∨ y = 2 ∨ y = 3 := by omega
      · exact absurd (my.symm.trans ((hM 0 (by decide)).trans (if_neg (by decide)))) (fun q => by cases q)
      · skip
        show W K l _ n0 _ h0 8 19 196 #[.val (.long aa), .second, .val (.long bb), .second, .val (.long cc), .second, .val (.long dd), .second, .val (.int op), .val (.ref t), .val (.ref ar), .val (.int (3 : Int32)), .val (.int dq), .val (.int (0 : Int32)), .val (.int (0 : Int32)), .val (.int (1 : Int32)), .val (.int (1 : Int32)), .unset, .unset, .unset, .unset] [(.int (1 : Int32))]
        refine w_istore ok at_196 (L' := #[.val (.long aa), .second, .val (.long bb), .second, .val (.long cc), .second, .val (.long dd), .second, .val (.int op), .val (.ref t), .val (.ref ar), .val (.int (3 : Int32)), .val (.int dq), .val (.int (0 : Int32)), .val (.int (0 : Int32)), .val (.int (1 : Int32)), .val (.int (1 : Int32)), .val (.int (1 : Int32)), .unset, .unset, .unset]) rfl ?_
        refine w_iload ok at_198 rfl ?_
        refine w_if_ne ok at_200 (pc' := 225) (by decide) (fun hc353 => False.elim (by revert hc353; decide)) (fun hc353 => ?_)
        show W K l _ n0 _ h0 8 19 203 #[.val (.long aa), .second, .val (.long bb), .second, .val (.long cc), .second, .val (.long dd), .second, .val (.int op), .val (.ref t), .val (.ref ar), .val (.int (3 : Int32)), .val (.int dq), .val (.int (0 : Int32)), .val (.int (0 : Int32)), .val (.int (1 : Int32)), .val (.int (1 : Int32)), .val (.int (1 : Int32)), .unset, .unset, .unset] []
        refine w_iload ok at_203 rfl ?_
        refine w_if_ne ok at_205 (pc' := 225) (by decide) (fun hc355 => ?_) (fun hc355 => False.elim (by revert hc355; decide))
        show W K l _ n0 _ h0 8 19 225 #[.val (.long aa), .second, .val (.long bb), .second, .val (.long cc), .second, .val (.long dd), .second, .val (.int op), .val (.ref t), .val (.ref ar), .val (.int (3 : Int32)), .val (.int dq), .val (.int (0 : Int32)), .val (.int (0 : Int32)), .val (.int (1 : Int32)), .val (.int (1 : Int32)), .val (.int (1 : Int32)), .unset, .unset, .unset] []
        refine w_iload ok at_225 rfl ?_
        refine w_if_lt ok at_227 (pc' := 236) (by decide) (fun hc357 => False.elim (by revert hc357; decide)) (fun hc357 => ?_)
        show W K l _ n0 _ h0 8 19 230 #[.val (.long aa), .second, .val (.long bb), .second, .val (.long cc), .second, .val (.long dd), .second, .val (.int op), .val (.ref t), .val (.ref ar), .val (.int (3 : Int32)), .val (.int dq), .val (.int (0 : Int32)), .val (.int (0 : Int32)), .val (.int (1 : Int32)), .val (.int (1 : Int32)), .val (.int (1 : Int32)), .unset, .unset, .unset] []
        refine w_iload ok at_230 rfl ?_
        refine w_iconst ok at_232 (v := (2 : Int32)) rfl ?_
        refine w_icmp_le ok at_233 (pc' := 238) (by decide) (fun hc359 => ?_) (fun hc359 => False.elim (by revert hc359; decide))
        show W K l _ n0 _ h0 8 19 238 #[.val (.long aa), .second, .val (.long bb), .second, .val (.long cc), .second, .val (.long dd), .second, .val (.int op), .val (.ref t), .val (.ref ar), .val (.int (3 : Int32)), .val (.int dq), .val (.int (0 : Int32)), .val (.int (0 : Int32)), .val (.int (1 : Int32)), .val (.int (1 : Int32)), .val (.int (1 : Int32)), .unset, .unset, .unset] []
        refine w_iload ok at_238 rfl ?_
        refine w_if_ne ok at_240 (pc' := 248) (by decide) (fun hc361 => ?_) (fun hc361 => False.elim (by revert hc361; decide))
        show W K l _ n0 _ h0 8 19 248 #[.val (.long aa), .second, .val (.long bb), .second, .val (.long cc), .second, .val (.long dd), .second, .val (.int op), .val (.ref t), .val (.ref ar), .val (.int (3 : Int32)), .val (.int dq), .val (.int (0 : Int32)), .val (.int (0 : Int32)), .val (.int (1 : Int32)), .val (.int (1 : Int32)), .val (.int (1 : Int32)), .unset, .unset, .unset] []
        refine w_iload ok at_248 rfl ?_
        refine w_iconst ok at_250 (v := (1 : Int32)) rfl ?_
        refine w_icmp_ne ok at_251 (pc' := 259) (by decide) (fun hc363 => False.elim (by revert hc363; decide)) (fun hc363 => ?_)
        show W K l _ n0 _ h0 8 19 254 #[.val (.long aa), .second, .val (.long bb), .second, .val (.long cc), .second, .val (.long dd), .second, .val (.int op), .val (.ref t), .val (.ref ar), .val (.int (3 : Int32)), .val (.int dq), .val (.int (0 : Int32)), .val (.int (0 : Int32)), .val (.int (1 : Int32)), .val (.int (1 : Int32)), .val (.int (1 : Int32)), .unset, .unset, .unset] []
        refine w_iload ok at_254 rfl ?_
        refine w_goto ok at_256 (pc' := 261) (by decide) ?_
        refine w_istore ok at_261 (L' := #[.val (.long aa), .second, .val (.long bb), .second, .val (.long cc), .second, .val (.long dd), .second, .val (.int op), .val (.ref t), .val (.ref ar), .val (.int (3 : Int32)), .val (.int dq), .val (.int (0 : Int32)), .val (.int (0 : Int32)), .val (.int (1 : Int32)), .val (.int (1 : Int32)), .val (.int (1 : Int32)), .val (.int (1 : Int32)), .unset, .unset]) rfl ?_
        refine w_iload ok at_263 rfl ?_
        refine w_if_ne ok at_265 (pc' := 270) (by decide) (fun hc365 => ?_) (fun hc365 => False.elim (by revert hc365; decide))
        show W K l _ n0 _ h0 8 19 270 #[.val (.long aa), .second, .val (.long bb), .second, .val (.long cc), .second, .val (.long dd), .second, .val (.int op), .val (.ref t), .val (.ref ar), .val (.int (3 : Int32)), .val (.int dq), .val (.int (0 : Int32)), .val (.int (0 : Int32)), .val (.int (1 : Int32)), .val (.int (1 : Int32)), .val (.int (1 : Int32)), .val (.int (1 : Int32)), .unset, .unset] []
        refine w_aload ok at_270 rfl rfl ?_
        refine w_iload ok at_272 rfl ?_
        refine w_laload ok (v := (.long (T 1))) at_274 A_ar (by decide) rfl ?_
        refine w_lstore ok at_275 (L' := #[.val (.long aa), .second, .val (.long bb), .second, .val (.long cc), .second, .val (.long dd), .second, .val (.int op), .val (.ref t), .val (.ref ar), .val (.int (3 : Int32)), .val (.int dq), .val (.int (0 : Int32)), .val (.int (0 : Int32)), .val (.int (1 : Int32)), .val (.int (1 : Int32)), .val (.int (1 : Int32)), .val (.int (1 : Int32)), .val (.long (T 1)), .second]) rfl ?_
        refine w_iload ok at_277 rfl ?_
        refine w_if_eq ok at_279 (pc' := 292) (by decide) (fun hc367 => ?_) (fun hc367 => False.elim (by revert hc367; decide))
        show W K l _ n0 _ h0 8 19 292 #[.val (.long aa), .second, .val (.long bb), .second, .val (.long cc), .second, .val (.long dd), .second, .val (.int op), .val (.ref t), .val (.ref ar), .val (.int (3 : Int32)), .val (.int dq), .val (.int (0 : Int32)), .val (.int (0 : Int32)), .val (.int (1 : Int32)), .val (.int (1 : Int32)), .val (.int (1 : Int32)), .val (.int (1 : Int32)), .val (.long (T 1)), .second] []
        refine w_iload ok at_292 rfl ?_
        refine w_if_eq ok at_294 (pc' := 307) (by decide) (fun hc369 => False.elim (by revert hc369; decide)) (fun hc369 => ?_)
        show W K l _ n0 _ h0 8 19 297 #[.val (.long aa), .second, .val (.long bb), .second, .val (.long cc), .second, .val (.long dd), .second, .val (.int op), .val (.ref t), .val (.ref ar), .val (.int (3 : Int32)), .val (.int dq), .val (.int (0 : Int32)), .val (.int (0 : Int32)), .val (.int (1 : Int32)), .val (.int (1 : Int32)), .val (.int (1 : Int32)), .val (.int (1 : Int32)), .val (.long (T 1)), .second] []
        refine w_lload ok at_297 rfl ?_
        refine w_aload ok at_299 rfl rfl ?_
        refine w_iconst ok at_301 (v := (1 : Int32)) rfl ?_
        refine w_laload ok (v := (.long (T 1))) at_302 A_ar (by decide) rfl ?_
        refine w_lcmp_gt ok at_303 at_304 (pc' := 326) (by decide) (fun hc371 => False.elim (by exact own_least P H hs hy ey (j := 1) (by decide) ((hM 1 (by decide)).trans (if_pos (by decide))) ((hM 1 (by decide)).trans (if_pos (by decide))) hc371)) (fun hc371 => ?_)
        show W K l _ n0 _ h0 8 19 307 #[.val (.long aa), .second, .val (.long bb), .second, .val (.long cc), .second, .val (.long dd), .second, .val (.int op), .val (.ref t), .val (.ref ar), .val (.int (3 : Int32)), .val (.int dq), .val (.int (0 : Int32)), .val (.int (0 : Int32)), .val (.int (1 : Int32)), .val (.int (1 : Int32)), .val (.int (1 : Int32)), .val (.int (1 : Int32)), .val (.long (T 1)), .second] []
        refine w_iload ok at_307 rfl ?_
        refine w_if_eq ok at_309 (pc' := 322) (by decide) (fun hc373 => False.elim (by revert hc373; decide)) (fun hc373 => ?_)
        show W K l _ n0 _ h0 8 19 312 #[.val (.long aa), .second, .val (.long bb), .second, .val (.long cc), .second, .val (.long dd), .second, .val (.int op), .val (.ref t), .val (.ref ar), .val (.int (3 : Int32)), .val (.int dq), .val (.int (0 : Int32)), .val (.int (0 : Int32)), .val (.int (1 : Int32)), .val (.int (1 : Int32)), .val (.int (1 : Int32)), .val (.int (1 : Int32)), .val (.long (T 1)), .second] []
        refine w_lload ok at_312 rfl ?_
        refine w_aload ok at_314 rfl rfl ?_
        refine w_iconst ok at_316 (v := (2 : Int32)) rfl ?_
        refine w_laload ok (v := (.long (T 2))) at_317 A_ar (by decide) rfl ?_
        refine w_lcmp_gt ok at_318 at_319 (pc' := 326) (by decide) (fun hc375 => False.elim (by exact own_least P H hs hy ey (j := 2) (by decide) ((hM 1 (by decide)).trans (if_pos (by decide))) ((hM 2 (by decide)).trans (if_pos (by decide))) hc375)) (fun hc375 => ?_)
        show W K l _ n0 _ h0 8 19 322 #[.val (.long aa), .second, .val (.long bb), .second, .val (.long cc), .second, .val (.long dd), .second, .val (.int op), .val (.ref t), .val (.ref ar), .val (.int (3 : Int32)), .val (.int dq), .val (.int (0 : Int32)), .val (.int (0 : Int32)), .val (.int (1 : Int32)), .val (.int (1 : Int32)), .val (.int (1 : Int32)), .val (.int (1 : Int32)), .val (.long (T 1)), .second] []
        refine w_iconst ok at_322 (v := (1 : Int32)) rfl ?_
        refine w_goto ok at_323 (pc' := 327) (by decide) ?_
        refine w_bret ok (by simp) at_327 (by decide) (by decide) ?_
        exact rfl
      · skip
        show W K l _ n0 _ h0 8 19 196 #[.val (.long aa), .second, .val (.long bb), .second, .val (.long cc), .second, .val (.long dd), .second, .val (.int op), .val (.ref t), .val (.ref ar), .val (.int (3 : Int32)), .val (.int dq), .val (.int (0 : Int32)), .val (.int (0 : Int32)), .val (.int (1 : Int32)), .val (.int (1 : Int32)), .unset, .unset, .unset, .unset] [(.int (2 : Int32))]
        refine w_istore ok at_196 (L' := #[.val (.long aa), .second, .val (.long bb), .second, .val (.long cc), .second, .val (.long dd), .second, .val (.int op), .val (.ref t), .val (.ref ar), .val (.int (3 : Int32)), .val (.int dq), .val (.int (0 : Int32)), .val (.int (0 : Int32)), .val (.int (1 : Int32)), .val (.int (1 : Int32)), .val (.int (2 : Int32)), .unset, .unset, .unset]) rfl ?_
        refine w_iload ok at_198 rfl ?_
        refine w_if_ne ok at_200 (pc' := 225) (by decide) (fun hc377 => False.elim (by revert hc377; decide)) (fun hc377 => ?_)
        show W K l _ n0 _ h0 8 19 203 #[.val (.long aa), .second, .val (.long bb), .second, .val (.long cc), .second, .val (.long dd), .second, .val (.int op), .val (.ref t), .val (.ref ar), .val (.int (3 : Int32)), .val (.int dq), .val (.int (0 : Int32)), .val (.int (0 : Int32)), .val (.int (1 : Int32)), .val (.int (1 : Int32)), .val (.int (2 : Int32)), .unset, .unset, .unset] []
        refine w_iload ok at_203 rfl ?_
        refine w_if_ne ok at_205 (pc' := 225) (by decide) (fun hc379 => ?_) (fun hc379 => False.elim (by revert hc379; decide))
        show W K l _ n0 _ h0 8 19 225 #[.val (.long aa), .second, .val (.long bb), .second, .val (.long cc), .second, .val (.long dd), .second, .val (.int op), .val (.ref t), .val (.ref ar), .val (.int (3 : Int32)), .val (.int dq), .val (.int (0 : Int32)), .val (.int (0 : Int32)), .val (.int (1 : Int32)), .val (.int (1 : Int32)), .val (.int (2 : Int32)), .unset, .unset, .unset] []
        refine w_iload ok at_225 rfl ?_
        refine w_if_lt ok at_227 (pc' := 236) (by decide) (fun hc381 => False.elim (by revert hc381; decide)) (fun hc381 => ?_)
        show W K l _ n0 _ h0 8 19 230 #[.val (.long aa), .second, .val (.long bb), .second, .val (.long cc), .second, .val (.long dd), .second, .val (.int op), .val (.ref t), .val (.ref ar), .val (.int (3 : Int32)), .val (.int dq), .val (.int (0 : Int32)), .val (.int (0 : Int32)), .val (.int (1 : Int32)), .val (.int (1 : Int32)), .val (.int (2 : Int32)), .unset, .unset, .unset] []
        refine w_iload ok at_230 rfl ?_
        refine w_iconst ok at_232 (v := (2 : Int32)) rfl ?_
        refine w_icmp_le ok at_233 (pc' := 238) (by decide) (fun hc383 => ?_) (fun hc383 => False.elim (by revert hc383; decide))
        show W K l _ n0 _ h0 8 19 238 #[.val (.long aa), .second, .val (.long bb), .second, .val (.long cc), .second, .val (.long dd), .second, .val (.int op), .val (.ref t), .val (.ref ar), .val (.int (3 : Int32)), .val (.int dq), .val (.int (0 : Int32)), .val (.int (0 : Int32)), .val (.int (1 : Int32)), .val (.int (1 : Int32)), .val (.int (2 : Int32)), .unset, .unset, .unset] []
        refine w_iload ok at_238 rfl ?_
        refine w_if_ne ok at_240 (pc' := 248) (by decide) (fun hc385 => ?_) (fun hc385 => False.elim (by revert hc385; decide))
        show W K l _ n0 _ h0 8 19 248 #[.val (.long aa), .second, .val (.long bb), .second, .val (.long cc), .second, .val (.long dd), .second, .val (.int op), .val (.ref t), .val (.ref ar), .val (.int (3 : Int32)), .val (.int dq), .val (.int (0 : Int32)), .val (.int (0 : Int32)), .val (.int (1 : Int32)), .val (.int (1 : Int32)), .val (.int (2 : Int32)), .unset, .unset, .unset] []
        refine w_iload ok at_248 rfl ?_
        refine w_iconst ok at_250 (v := (1 : Int32)) rfl ?_
        refine w_icmp_ne ok at_251 (pc' := 259) (by decide) (fun hc387 => ?_) (fun hc387 => False.elim (by revert hc387; decide))
        show W K l _ n0 _ h0 8 19 259 #[.val (.long aa), .second, .val (.long bb), .second, .val (.long cc), .second, .val (.long dd), .second, .val (.int op), .val (.ref t), .val (.ref ar), .val (.int (3 : Int32)), .val (.int dq), .val (.int (0 : Int32)), .val (.int (0 : Int32)), .val (.int (1 : Int32)), .val (.int (1 : Int32)), .val (.int (2 : Int32)), .unset, .unset, .unset] []
        refine w_iload ok at_259 rfl ?_
        refine w_istore ok at_261 (L' := #[.val (.long aa), .second, .val (.long bb), .second, .val (.long cc), .second, .val (.long dd), .second, .val (.int op), .val (.ref t), .val (.ref ar), .val (.int (3 : Int32)), .val (.int dq), .val (.int (0 : Int32)), .val (.int (0 : Int32)), .val (.int (1 : Int32)), .val (.int (1 : Int32)), .val (.int (2 : Int32)), .val (.int (1 : Int32)), .unset, .unset]) rfl ?_
        refine w_iload ok at_263 rfl ?_
        refine w_if_ne ok at_265 (pc' := 270) (by decide) (fun hc389 => ?_) (fun hc389 => False.elim (by revert hc389; decide))
        show W K l _ n0 _ h0 8 19 270 #[.val (.long aa), .second, .val (.long bb), .second, .val (.long cc), .second, .val (.long dd), .second, .val (.int op), .val (.ref t), .val (.ref ar), .val (.int (3 : Int32)), .val (.int dq), .val (.int (0 : Int32)), .val (.int (0 : Int32)), .val (.int (1 : Int32)), .val (.int (1 : Int32)), .val (.int (2 : Int32)), .val (.int (1 : Int32)), .unset, .unset] []
        refine w_aload ok at_270 rfl rfl ?_
        refine w_iload ok at_272 rfl ?_
        refine w_laload ok (v := (.long (T 2))) at_274 A_ar (by decide) rfl ?_
        refine w_lstore ok at_275 (L' := #[.val (.long aa), .second, .val (.long bb), .second, .val (.long cc), .second, .val (.long dd), .second, .val (.int op), .val (.ref t), .val (.ref ar), .val (.int (3 : Int32)), .val (.int dq), .val (.int (0 : Int32)), .val (.int (0 : Int32)), .val (.int (1 : Int32)), .val (.int (1 : Int32)), .val (.int (2 : Int32)), .val (.int (1 : Int32)), .val (.long (T 2)), .second]) rfl ?_
        refine w_iload ok at_277 rfl ?_
        refine w_if_eq ok at_279 (pc' := 292) (by decide) (fun hc391 => ?_) (fun hc391 => False.elim (by revert hc391; decide))
        show W K l _ n0 _ h0 8 19 292 #[.val (.long aa), .second, .val (.long bb), .second, .val (.long cc), .second, .val (.long dd), .second, .val (.int op), .val (.ref t), .val (.ref ar), .val (.int (3 : Int32)), .val (.int dq), .val (.int (0 : Int32)), .val (.int (0 : Int32)), .val (.int (1 : Int32)), .val (.int (1 : Int32)), .val (.int (2 : Int32)), .val (.int (1 : Int32)), .val (.long (T 2)), .second] []
        refine w_iload ok at_292 rfl ?_
        refine w_if_eq ok at_294 (pc' := 307) (by decide) (fun hc393 => False.elim (by revert hc393; decide)) (fun hc393 => ?_)
        show W K l _ n0 _ h0 8 19 297 #[.val (.long aa), .second, .val (.long bb), .second, .val (.long cc), .second, .val (.long dd), .second, .val (.int op), .val (.ref t), .val (.ref ar), .val (.int (3 : Int32)), .val (.int dq), .val (.int (0 : Int32)), .val (.int (0 : Int32)), .val (.int (1 : Int32)), .val (.int (1 : Int32)), .val (.int (2 : Int32)), .val (.int (1 : Int32)), .val (.long (T 2)), .second] []
        refine w_lload ok at_297 rfl ?_
        refine w_aload ok at_299 rfl rfl ?_
        refine w_iconst ok at_301 (v := (1 : Int32)) rfl ?_
        refine w_laload ok (v := (.long (T 1))) at_302 A_ar (by decide) rfl ?_
        refine w_lcmp_gt ok at_303 at_304 (pc' := 326) (by decide) (fun hc395 => False.elim (by exact own_least P H hs hy ey (j := 1) (by decide) ((hM 2 (by decide)).trans (if_pos (by decide))) ((hM 1 (by decide)).trans (if_pos (by decide))) hc395)) (fun hc395 => ?_)
        show W K l _ n0 _ h0 8 19 307 #[.val (.long aa), .second, .val (.long bb), .second, .val (.long cc), .second, .val (.long dd), .second, .val (.int op), .val (.ref t), .val (.ref ar), .val (.int (3 : Int32)), .val (.int dq), .val (.int (0 : Int32)), .val (.int (0 : Int32)), .val (.int (1 : Int32)), .val (.int (1 : Int32)), .val (.int (2 : Int32)), .val (.int (1 : Int32)), .val (.long (T 2)), .second] []
        refine w_iload ok at_307 rfl ?_
        refine w_if_eq ok at_309 (pc' := 322) (by decide) (fun hc397 => False.elim (by revert hc397; decide)) (fun hc397 => ?_)
        show W K l _ n0 _ h0 8 19 312 #[.val (.long aa), .second, .val (.long bb), .second, .val (.long cc), .second, .val (.long dd), .second, .val (.int op), .val (.ref t), .val (.ref ar), .val (.int (3 : Int32)), .val (.int dq), .val (.int (0 : Int32)), .val (.int (0 : Int32)), .val (.int (1 : Int32)), .val (.int (1 : Int32)), .val (.int (2 : Int32)), .val (.int (1 : Int32)), .val (.long (T 2)), .second] []
        refine w_lload ok at_312 rfl ?_
        refine w_aload ok at_314 rfl rfl ?_
        refine w_iconst ok at_316 (v := (2 : Int32)) rfl ?_
        refine w_laload ok (v := (.long (T 2))) at_317 A_ar (by decide) rfl ?_
        refine w_lcmp_gt ok at_318 at_319 (pc' := 326) (by decide) (fun hc399 => False.elim (by exact own_least P H hs hy ey (j := 2) (by decide) ((hM 2 (by decide)).trans (if_pos (by decide))) ((hM 2 (by decide)).trans (if_pos (by decide))) hc399)) (fun hc399 => ?_)
        show W K l _ n0 _ h0 8 19 322 #[.val (.long aa), .second, .val (.long bb), .second, .val (.long cc), .second, .val (.long dd), .second, .val (.int op), .val (.ref t), .val (.ref ar), .val (.int (3 : Int32)), .val (.int dq), .val (.int (0 : Int32)), .val (.int (0 : Int32)), .val (.int (1 : Int32)), .val (.int (1 : Int32)), .val (.int (2 : Int32)), .val (.int (1 : Int32)), .val (.long (T 2)), .second] []
        refine w_iconst ok at_322 (v := (1 : Int32)) rfl ?_
        refine w_goto ok at_323 (pc' := 327) (by decide) ?_
        refine w_bret ok (by simp) at_327 (by decide) (by decide) ?_
        exact rfl
      · exact absurd (my.symm.trans ((hM 3 (by decide)).trans (if_neg (by decide)))) (fun q => by cases q)
  · skip
    show W K l _ n0 _ h0 8 19 135 #[.val (.long aa), .second, .val (.long bb), .second, .val (.long cc), .second, .val (.long dd), .second, .val (.int op), .val (.ref t), .val (.ref ar), .val (.int (3 : Int32)), .val (.int dq), .val (.int (1 : Int32)), .unset, .unset, .unset, .unset, .unset, .unset, .unset] []
    refine w_iconst ok at_135 (v := (0 : Int32)) rfl ?_
    refine w_iload ok at_136 rfl ?_
    refine w_icmp_ge ok at_138 (pc' := 150) (by decide) (fun hc401 => False.elim (by revert hc401; decide)) (fun hc401 => ?_)
    show W K l _ n0 _ h0 8 19 141 #[.val (.long aa), .second, .val (.long bb), .second, .val (.long cc), .second, .val (.long dd), .second, .val (.int op), .val (.ref t), .val (.ref ar), .val (.int (3 : Int32)), .val (.int dq), .val (.int (1 : Int32)), .unset, .unset, .unset, .unset, .unset, .unset, .unset] []
    refine w_iload ok at_141 rfl ?_
    refine w_if_eq ok at_143 (pc' := 150) (by decide) (fun hc403 => False.elim (by revert hc403; decide)) (fun hc403 => ?_)
    show W K l _ n0 _ h0 8 19 146 #[.val (.long aa), .second, .val (.long bb), .second, .val (.long cc), .second, .val (.long dd), .second, .val (.int op), .val (.ref t), .val (.ref ar), .val (.int (3 : Int32)), .val (.int dq), .val (.int (1 : Int32)), .unset, .unset, .unset, .unset, .unset, .unset, .unset] []
    refine w_iconst ok at_146 (v := (1 : Int32)) rfl ?_
    refine w_goto ok at_147 (pc' := 151) (by decide) ?_
    refine w_istore ok at_151 (L' := #[.val (.long aa), .second, .val (.long bb), .second, .val (.long cc), .second, .val (.long dd), .second, .val (.int op), .val (.ref t), .val (.ref ar), .val (.int (3 : Int32)), .val (.int dq), .val (.int (1 : Int32)), .val (.int (1 : Int32)), .unset, .unset, .unset, .unset, .unset, .unset]) rfl ?_
    refine w_iconst ok at_153 (v := (1 : Int32)) rfl ?_
    refine w_iload ok at_154 rfl ?_
    refine w_icmp_ge ok at_156 (pc' := 169) (by decide) (fun hc405 => False.elim (by revert hc405; decide)) (fun hc405 => ?_)
    show W K l _ n0 _ h0 8 19 159 #[.val (.long aa), .second, .val (.long bb), .second, .val (.long cc), .second, .val (.long dd), .second, .val (.int op), .val (.ref t), .val (.ref ar), .val (.int (3 : Int32)), .val (.int dq), .val (.int (1 : Int32)), .val (.int (1 : Int32)), .unset, .unset, .unset, .unset, .unset, .unset] []
    refine w_iload ok at_159 rfl ?_
    refine w_iconst ok at_161 (v := (1 : Int32)) rfl ?_
    refine w_icmp_eq ok at_162 (pc' := 169) (by decide) (fun hc407 => ?_) (fun hc407 => False.elim (by revert hc407; decide))
    show W K l _ n0 _ h0 8 19 169 #[.val (.long aa), .second, .val (.long bb), .second, .val (.long cc), .second, .val (.long dd), .second, .val (.int op), .val (.ref t), .val (.ref ar), .val (.int (3 : Int32)), .val (.int dq), .val (.int (1 : Int32)), .val (.int (1 : Int32)), .unset, .unset, .unset, .unset, .unset, .unset] []
    refine w_iconst ok at_169 (v := (0 : Int32)) rfl ?_
    refine w_istore ok at_170 (L' := #[.val (.long aa), .second, .val (.long bb), .second, .val (.long cc), .second, .val (.long dd), .second, .val (.int op), .val (.ref t), .val (.ref ar), .val (.int (3 : Int32)), .val (.int dq), .val (.int (1 : Int32)), .val (.int (1 : Int32)), .val (.int (0 : Int32)), .unset, .unset, .unset, .unset, .unset]) rfl ?_
    refine w_iconst ok at_172 (v := (2 : Int32)) rfl ?_
    refine w_iload ok at_173 rfl ?_
    refine w_icmp_ge ok at_175 (pc' := 188) (by decide) (fun hc409 => False.elim (by revert hc409; decide)) (fun hc409 => ?_)
    show W K l _ n0 _ h0 8 19 178 #[.val (.long aa), .second, .val (.long bb), .second, .val (.long cc), .second, .val (.long dd), .second, .val (.int op), .val (.ref t), .val (.ref ar), .val (.int (3 : Int32)), .val (.int dq), .val (.int (1 : Int32)), .val (.int (1 : Int32)), .val (.int (0 : Int32)), .unset, .unset, .unset, .unset, .unset] []
    refine w_iload ok at_178 rfl ?_
    refine w_iconst ok at_180 (v := (2 : Int32)) rfl ?_
    refine w_icmp_eq ok at_181 (pc' := 188) (by decide) (fun hc411 => False.elim (by revert hc411; decide)) (fun hc411 => ?_)
    show W K l _ n0 _ h0 8 19 184 #[.val (.long aa), .second, .val (.long bb), .second, .val (.long cc), .second, .val (.long dd), .second, .val (.int op), .val (.ref t), .val (.ref ar), .val (.int (3 : Int32)), .val (.int dq), .val (.int (1 : Int32)), .val (.int (1 : Int32)), .val (.int (0 : Int32)), .unset, .unset, .unset, .unset, .unset] []
    refine w_iconst ok at_184 (v := (1 : Int32)) rfl ?_
    refine w_goto ok at_185 (pc' := 189) (by decide) ?_
    refine w_istore ok at_189 (L' := #[.val (.long aa), .second, .val (.long bb), .second, .val (.long cc), .second, .val (.long dd), .second, .val (.int op), .val (.ref t), .val (.ref ar), .val (.int (3 : Int32)), .val (.int dq), .val (.int (1 : Int32)), .val (.int (1 : Int32)), .val (.int (0 : Int32)), .val (.int (1 : Int32)), .unset, .unset, .unset, .unset]) rfl ?_
    refine w_aload ok at_191 rfl rfl ?_
    refine w_callV ok (y := (⟨"com/example/rowan/rowan/store/IdleHeap", "first", "()I"⟩ : MethodName)) (a := t) (argsL := []) (rest := []) at_193 (hw _ (List.mem_of_getElem? (i := 79) rfl)) (hw _ (List.mem_of_getElem? (i := 80) rfl)) (hw _ (List.mem_of_getElem? (i := 82) rfl)) (hw _ (List.mem_of_getElem? (i := 81) rfl)) (hw _ (List.mem_of_getElem? (i := 2) rfl)) (hw _ (List.mem_of_getElem? (i := 83) rfl)) (by decide) A_t.1 pd_2829I rfl rfl (by decide) (Nat.le_of_ble_eq_true rfl) (by decide) (by decide) (fun z0 => rm_first l Z a0 hw [] n0 h0 z0 t en ti sl sz e g τ A_t A_en A_ti A_sl ge_t ge_en ge_ti ge_sl ne_t_en ne_t_ti ne_t_sl ne_en_ti ne_en_sl ne_ti_sl M P H) (fun v412 h413 qv412 => ?_)
    obtain ⟨rfl, ⟨hs0, rfl⟩ | ⟨y, hy, hs, ey, rfl⟩⟩ := qv412
    · subst hs0; exact (own_none0 P (by decide) ((hM 0 (by decide)).trans (if_pos (by decide)))).elim
    · have my := (P.at hs hy ey).1
      obtain rfl | rfl | rfl | rfl : y = 0 ∨ y = 1 ∨ y = 2 ∨ y = 3 := by omega
      · skip
        show W K l _ n0 _ h0 8 19 196 #[.val (.long aa), .second, .val (.long bb), .second, .val (.long cc), .second, .val (.long dd), .second, .val (.int op), .val (.ref t), .val (.ref ar), .val (.int (3 : Int32)), .val (.int dq), .val (.int (1 : Int32)), .val (.int (1 : Int32)), .val (.int (0 : Int32)), .val (.int (1 : Int32)), .unset, .unset, .unset, .unset] [(.int (0 : Int32))]
        refine w_istore ok at_196 (L' := #[.val (.long aa), .second, .val (.long bb), .second, .val (.long cc), .second, .val (.long dd), .second, .val (.int op), .val (.ref t), .val (.ref ar), .val (.int (3 : Int32)), .val (.int dq), .val (.int (1 : Int32)), .val (.int (1 : Int32)), .val (.int (0 : Int32)), .val (.int (1 : Int32)), .val (.int (0 : Int32)), .unset, .unset, .unset]) rfl ?_
        refine w_iload ok at_198 rfl ?_
        refine w_if_ne ok at_200 (pc' := 225) (by decide) (fun hc415 => ?_) (fun hc415 => False.elim (by revert hc415; decide))
        show W K l _ n0 _ h0 8 19 225 #[.val (.long aa), .second, .val (.long bb), .second, .val (.long cc), .second, .val (.long dd), .second, .val (.int op), .val (.ref t), .val (.ref ar), .val (.int (3 : Int32)), .val (.int dq), .val (.int (1 : Int32)), .val (.int (1 : Int32)), .val (.int (0 : Int32)), .val (.int (1 : Int32)), .val (.int (0 : Int32)), .unset, .unset, .unset] []
        refine w_iload ok at_225 rfl ?_
        refine w_if_lt ok at_227 (pc' := 236) (by decide) (fun hc417 => False.elim (by revert hc417; decide)) (fun hc417 => ?_)
        show W K l _ n0 _ h0 8 19 230 #[.val (.long aa), .second, .val (.long bb), .second, .val (.long cc), .second, .val (.long dd), .second, .val (.int op), .val (.ref t), .val (.ref ar), .val (.int (3 : Int32)), .val (.int dq), .val (.int (1 : Int32)), .val (.int (1 : Int32)), .val (.int (0 : Int32)), .val (.int (1 : Int32)), .val (.int (0 : Int32)), .unset, .unset, .unset] []
        refine w_iload ok at_230 rfl ?_
        refine w_iconst ok at_232 (v := (2 : Int32)) rfl ?_
        refine w_icmp_le ok at_233 (pc' := 238) (by decide) (fun hc419 => ?_) (fun hc419 => False.elim (by revert hc419; decide))
        show W K l _ n0 _ h0 8 19 238 #[.val (.long aa), .second, .val (.long bb), .second, .val (.long cc), .second, .val (.long dd), .second, .val (.int op), .val (.ref t), .val (.ref ar), .val (.int (3 : Int32)), .val (.int dq), .val (.int (1 : Int32)), .val (.int (1 : Int32)), .val (.int (0 : Int32)), .val (.int (1 : Int32)), .val (.int (0 : Int32)), .unset, .unset, .unset] []
        refine w_iload ok at_238 rfl ?_
        refine w_if_ne ok at_240 (pc' := 248) (by decide) (fun hc421 => False.elim (by revert hc421; decide)) (fun hc421 => ?_)
        show W K l _ n0 _ h0 8 19 243 #[.val (.long aa), .second, .val (.long bb), .second, .val (.long cc), .second, .val (.long dd), .second, .val (.int op), .val (.ref t), .val (.ref ar), .val (.int (3 : Int32)), .val (.int dq), .val (.int (1 : Int32)), .val (.int (1 : Int32)), .val (.int (0 : Int32)), .val (.int (1 : Int32)), .val (.int (0 : Int32)), .unset, .unset, .unset] []
        refine w_iload ok at_243 rfl ?_
        refine w_goto ok at_245 (pc' := 261) (by decide) ?_
        refine w_istore ok at_261 (L' := #[.val (.long aa), .second, .val (.long bb), .second, .val (.long cc), .second, .val (.long dd), .second, .val (.int op), .val (.ref t), .val (.ref ar), .val (.int (3 : Int32)), .val (.int dq), .val (.int (1 : Int32)), .val (.int (1 : Int32)), .val (.int (0 : Int32)), .val (.int (1 : Int32)), .val (.int (0 : Int32)), .val (.int (1 : Int32)), .unset, .unset]) rfl ?_
        refine w_iload ok at_263 rfl ?_
        refine w_if_ne ok at_265 (pc' := 270) (by decide) (fun hc423 => ?_) (fun hc423 => False.elim (by revert hc423; decide))
        show W K l _ n0 _ h0 8 19 270 #[.val (.long aa), .second, .val (.long bb), .second, .val (.long cc), .second, .val (.long dd), .second, .val (.int op), .val (.ref t), .val (.ref ar), .val (.int (3 : Int32)), .val (.int dq), .val (.int (1 : Int32)), .val (.int (1 : Int32)), .val (.int (0 : Int32)), .val (.int (1 : Int32)), .val (.int (0 : Int32)), .val (.int (1 : Int32)), .unset, .unset] []
        refine w_aload ok at_270 rfl rfl ?_
        refine w_iload ok at_272 rfl ?_
        refine w_laload ok (v := (.long (T 0))) at_274 A_ar (by decide) rfl ?_
        refine w_lstore ok at_275 (L' := #[.val (.long aa), .second, .val (.long bb), .second, .val (.long cc), .second, .val (.long dd), .second, .val (.int op), .val (.ref t), .val (.ref ar), .val (.int (3 : Int32)), .val (.int dq), .val (.int (1 : Int32)), .val (.int (1 : Int32)), .val (.int (0 : Int32)), .val (.int (1 : Int32)), .val (.int (0 : Int32)), .val (.int (1 : Int32)), .val (.long (T 0)), .second]) rfl ?_
        refine w_iload ok at_277 rfl ?_
        refine w_if_eq ok at_279 (pc' := 292) (by decide) (fun hc425 => False.elim (by revert hc425; decide)) (fun hc425 => ?_)
        show W K l _ n0 _ h0 8 19 282 #[.val (.long aa), .second, .val (.long bb), .second, .val (.long cc), .second, .val (.long dd), .second, .val (.int op), .val (.ref t), .val (.ref ar), .val (.int (3 : Int32)), .val (.int dq), .val (.int (1 : Int32)), .val (.int (1 : Int32)), .val (.int (0 : Int32)), .val (.int (1 : Int32)), .val (.int (0 : Int32)), .val (.int (1 : Int32)), .val (.long (T 0)), .second] []
        refine w_lload ok at_282 rfl ?_
        refine w_aload ok at_284 rfl rfl ?_
        refine w_iconst ok at_286 (v := (0 : Int32)) rfl ?_
        refine w_laload ok (v := (.long (T 0))) at_287 A_ar (by decide) rfl ?_
        refine w_lcmp_gt ok at_288 at_289 (pc' := 326) (by decide) (fun hc427 => False.elim (by exact own_least P H hs hy ey (j := 0) (by decide) ((hM 0 (by decide)).trans (if_pos (by decide))) ((hM 0 (by decide)).trans (if_pos (by decide))) hc427)) (fun hc427 => ?_)
        show W K l _ n0 _ h0 8 19 292 #[.val (.long aa), .second, .val (.long bb), .second, .val (.long cc), .second, .val (.long dd), .second, .val (.int op), .val (.ref t), .val (.ref ar), .val (.int (3 : Int32)), .val (.int dq), .val (.int (1 : Int32)), .val (.int (1 : Int32)), .val (.int (0 : Int32)), .val (.int (1 : Int32)), .val (.int (0 : Int32)), .val (.int (1 : Int32)), .val (.long (T 0)), .second] []
        refine w_iload ok at_292 rfl ?_
        refine w_if_eq ok at_294 (pc' := 307) (by decide) (fun hc429 => ?_) (fun hc429 => False.elim (by revert hc429; decide))
        show W K l _ n0 _ h0 8 19 307 #[.val (.long aa), .second, .val (.long bb), .second, .val (.long cc), .second, .val (.long dd), .second, .val (.int op), .val (.ref t), .val (.ref ar), .val (.int (3 : Int32)), .val (.int dq), .val (.int (1 : Int32)), .val (.int (1 : Int32)), .val (.int (0 : Int32)), .val (.int (1 : Int32)), .val (.int (0 : Int32)), .val (.int (1 : Int32)), .val (.long (T 0)), .second] []
        refine w_iload ok at_307 rfl ?_
        refine w_if_eq ok at_309 (pc' := 322) (by decide) (fun hc431 => False.elim (by revert hc431; decide)) (fun hc431 => ?_)
        show W K l _ n0 _ h0 8 19 312 #[.val (.long aa), .second, .val (.long bb), .second, .val (.long cc), .second, .val (.long dd), .second, .val (.int op), .val (.ref t), .val (.ref ar), .val (.int (3 : Int32)), .val (.int dq), .val (.int (1 : Int32)), .val (.int (1 : Int32)), .val (.int (0 : Int32)), .val (.int (1 : Int32)), .val (.int (0 : Int32)), .val (.int (1 : Int32)), .val (.long (T 0)), .second] []
        refine w_lload ok at_312 rfl ?_
        refine w_aload ok at_314 rfl rfl ?_
        refine w_iconst ok at_316 (v := (2 : Int32)) rfl ?_
        refine w_laload ok (v := (.long (T 2))) at_317 A_ar (by decide) rfl ?_
        refine w_lcmp_gt ok at_318 at_319 (pc' := 326) (by decide) (fun hc433 => False.elim (by exact own_least P H hs hy ey (j := 2) (by decide) ((hM 0 (by decide)).trans (if_pos (by decide))) ((hM 2 (by decide)).trans (if_pos (by decide))) hc433)) (fun hc433 => ?_)
        show W K l _ n0 _ h0 8 19 322 #[.val (.long aa), .second, .val (.long bb), .second, .val (.long cc), .second, .val (.long dd), .second, .val (.int op), .val (.ref t), .val (.ref ar), .val (.int (3 : Int32)), .val (.int dq), .val (.int (1 : Int32)), .val (.int (1 : Int32)), .val (.int (0 : Int32)), .val (.int (1 : Int32)), .val (.int (0 : Int32)), .val (.int (1 : Int32)), .val (.long (T 0)), .second] []
        refine w_iconst ok at_322 (v := (1 : Int32)) rfl ?_
        refine w_goto ok at_323 (pc' := 327) (by decide) ?_
        refine w_bret ok (by simp) at_327 (by decide) (by decide) ?_
        exact rfl
      · exact absurd (my.symm.trans ((hM 1 (by decide)).trans (if_neg (by decide)))) (fun q => by cases q)
      · skip
        show W K l _ n0 _ h0 8 19 196 #[.val (.long aa), .second, .val (.long bb), .second, .val (.long cc), .second, .val (.long dd), .second, .val (.int op), .val (.ref t), .val (.ref ar), .val (.int (3 : Int32)), .val (.int dq), .val (.int (1 : Int32)), .val (.int (1 : Int32)), .val (.int (0 : Int32)), .val (.int (1 : Int32)), .unset, .unset, .unset, .unset] [(.int (2 : Int32))]
        refine w_istore ok at_196 (L' := #[.val (.long aa), .second, .val (.long bb), .second, .val (.long cc), .second, .val (.long dd), .second, .val (.int op), .val (.ref t), .val (.ref ar), .val (.int (3 : Int32)), .val (.int dq), .val (.int (1 : Int32)), .val (.int (1 : Int32)), .val (.int (0 : Int32)), .val (.int (1 : Int32)), .val (.int (2 : Int32)), .unset, .unset, .unset]) rfl ?_
        refine w_iload ok at_198 rfl ?_
        refine w_if_ne ok at_200 (pc' := 225) (by decide) (fun hc435 => ?_) (fun hc435 => False.elim (by revert hc435; decide))
        show W K l _ n0 _ h0 8 19 225 #[.val (.long aa), .second, .val (.long bb), .second, .val (.long cc), .second, .val (.long dd), .second, .val (.int op), .val (.ref t), .val (.ref ar), .val (.int (3 : Int32)), .val (.int dq), .val (.int (1 : Int32)), .val (.int (1 : Int32)), .val (.int (0 : Int32)), .val (.int (1 : Int32)), .val (.int (2 : Int32)), .unset, .unset, .unset] []
        refine w_iload ok at_225 rfl ?_
        refine w_if_lt ok at_227 (pc' := 236) (by decide) (fun hc437 => False.elim (by revert hc437; decide)) (fun hc437 => ?_)
        show W K l _ n0 _ h0 8 19 230 #[.val (.long aa), .second, .val (.long bb), .second, .val (.long cc), .second, .val (.long dd), .second, .val (.int op), .val (.ref t), .val (.ref ar), .val (.int (3 : Int32)), .val (.int dq), .val (.int (1 : Int32)), .val (.int (1 : Int32)), .val (.int (0 : Int32)), .val (.int (1 : Int32)), .val (.int (2 : Int32)), .unset, .unset, .unset] []
        refine w_iload ok at_230 rfl ?_
        refine w_iconst ok at_232 (v := (2 : Int32)) rfl ?_
        refine w_icmp_le ok at_233 (pc' := 238) (by decide) (fun hc439 => ?_) (fun hc439 => False.elim (by revert hc439; decide))
        show W K l _ n0 _ h0 8 19 238 #[.val (.long aa), .second, .val (.long bb), .second, .val (.long cc), .second, .val (.long dd), .second, .val (.int op), .val (.ref t), .val (.ref ar), .val (.int (3 : Int32)), .val (.int dq), .val (.int (1 : Int32)), .val (.int (1 : Int32)), .val (.int (0 : Int32)), .val (.int (1 : Int32)), .val (.int (2 : Int32)), .unset, .unset, .unset] []
        refine w_iload ok at_238 rfl ?_
        refine w_if_ne ok at_240 (pc' := 248) (by decide) (fun hc441 => ?_) (fun hc441 => False.elim (by revert hc441; decide))
        show W K l _ n0 _ h0 8 19 248 #[.val (.long aa), .second, .val (.long bb), .second, .val (.long cc), .second, .val (.long dd), .second, .val (.int op), .val (.ref t), .val (.ref ar), .val (.int (3 : Int32)), .val (.int dq), .val (.int (1 : Int32)), .val (.int (1 : Int32)), .val (.int (0 : Int32)), .val (.int (1 : Int32)), .val (.int (2 : Int32)), .unset, .unset, .unset] []
        refine w_iload ok at_248 rfl ?_
        refine w_iconst ok at_250 (v := (1 : Int32)) rfl ?_
        refine w_icmp_ne ok at_251 (pc' := 259) (by decide) (fun hc443 => ?_) (fun hc443 => False.elim (by revert hc443; decide))
        show W K l _ n0 _ h0 8 19 259 #[.val (.long aa), .second, .val (.long bb), .second, .val (.long cc), .second, .val (.long dd), .second, .val (.int op), .val (.ref t), .val (.ref ar), .val (.int (3 : Int32)), .val (.int dq), .val (.int (1 : Int32)), .val (.int (1 : Int32)), .val (.int (0 : Int32)), .val (.int (1 : Int32)), .val (.int (2 : Int32)), .unset, .unset, .unset] []
        refine w_iload ok at_259 rfl ?_
        refine w_istore ok at_261 (L' := #[.val (.long aa), .second, .val (.long bb), .second, .val (.long cc), .second, .val (.long dd), .second, .val (.int op), .val (.ref t), .val (.ref ar), .val (.int (3 : Int32)), .val (.int dq), .val (.int (1 : Int32)), .val (.int (1 : Int32)), .val (.int (0 : Int32)), .val (.int (1 : Int32)), .val (.int (2 : Int32)), .val (.int (1 : Int32)), .unset, .unset]) rfl ?_
        refine w_iload ok at_263 rfl ?_
        refine w_if_ne ok at_265 (pc' := 270) (by decide) (fun hc445 => ?_) (fun hc445 => False.elim (by revert hc445; decide))
        show W K l _ n0 _ h0 8 19 270 #[.val (.long aa), .second, .val (.long bb), .second, .val (.long cc), .second, .val (.long dd), .second, .val (.int op), .val (.ref t), .val (.ref ar), .val (.int (3 : Int32)), .val (.int dq), .val (.int (1 : Int32)), .val (.int (1 : Int32)), .val (.int (0 : Int32)), .val (.int (1 : Int32)), .val (.int (2 : Int32)), .val (.int (1 : Int32)), .unset, .unset] []
        refine w_aload ok at_270 rfl rfl ?_
        refine w_iload ok at_272 rfl ?_
        refine w_laload ok (v := (.long (T 2))) at_274 A_ar (by decide) rfl ?_
        refine w_lstore ok at_275 (L' := #[.val (.long aa), .second, .val (.long bb), .second, .val (.long cc), .second, .val (.long dd), .second, .val (.int op), .val (.ref t), .val (.ref ar), .val (.int (3 : Int32)), .val (.int dq), .val (.int (1 : Int32)), .val (.int (1 : Int32)), .val (.int (0 : Int32)), .val (.int (1 : Int32)), .val (.int (2 : Int32)), .val (.int (1 : Int32)), .val (.long (T 2)), .second]) rfl ?_
        refine w_iload ok at_277 rfl ?_
        refine w_if_eq ok at_279 (pc' := 292) (by decide) (fun hc447 => False.elim (by revert hc447; decide)) (fun hc447 => ?_)
        show W K l _ n0 _ h0 8 19 282 #[.val (.long aa), .second, .val (.long bb), .second, .val (.long cc), .second, .val (.long dd), .second, .val (.int op), .val (.ref t), .val (.ref ar), .val (.int (3 : Int32)), .val (.int dq), .val (.int (1 : Int32)), .val (.int (1 : Int32)), .val (.int (0 : Int32)), .val (.int (1 : Int32)), .val (.int (2 : Int32)), .val (.int (1 : Int32)), .val (.long (T 2)), .second] []
        refine w_lload ok at_282 rfl ?_
        refine w_aload ok at_284 rfl rfl ?_
        refine w_iconst ok at_286 (v := (0 : Int32)) rfl ?_
        refine w_laload ok (v := (.long (T 0))) at_287 A_ar (by decide) rfl ?_
        refine w_lcmp_gt ok at_288 at_289 (pc' := 326) (by decide) (fun hc449 => False.elim (by exact own_least P H hs hy ey (j := 0) (by decide) ((hM 2 (by decide)).trans (if_pos (by decide))) ((hM 0 (by decide)).trans (if_pos (by decide))) hc449)) (fun hc449 => ?_)
        show W K l _ n0 _ h0 8 19 292 #[.val (.long aa), .second, .val (.long bb), .second, .val (.long cc), .second, .val (.long dd), .second, .val (.int op), .val (.ref t), .val (.ref ar), .val (.int (3 : Int32)), .val (.int dq), .val (.int (1 : Int32)), .val (.int (1 : Int32)), .val (.int (0 : Int32)), .val (.int (1 : Int32)), .val (.int (2 : Int32)), .val (.int (1 : Int32)), .val (.long (T 2)), .second] []
        refine w_iload ok at_292 rfl ?_
        refine w_if_eq ok at_294 (pc' := 307) (by decide) (fun hc451 => ?_) (fun hc451 => False.elim (by revert hc451; decide))
        show W K l _ n0 _ h0 8 19 307 #[.val (.long aa), .second, .val (.long bb), .second, .val (.long cc), .second, .val (.long dd), .second, .val (.int op), .val (.ref t), .val (.ref ar), .val (.int (3 : Int32)), .val (.int dq), .val (.int (1 : Int32)), .val (.int (1 : Int32)), .val (.int (0 : Int32)), .val (.int (1 : Int32)), .val (.int (2 : Int32)), .val (.int (1 : Int32)), .val (.long (T 2)), .second] []
        refine w_iload ok at_307 rfl ?_
        refine w_if_eq ok at_309 (pc' := 322) (by decide) (fun hc453 => False.elim (by revert hc453; decide)) (fun hc453 => ?_)
        show W K l _ n0 _ h0 8 19 312 #[.val (.long aa), .second, .val (.long bb), .second, .val (.long cc), .second, .val (.long dd), .second, .val (.int op), .val (.ref t), .val (.ref ar), .val (.int (3 : Int32)), .val (.int dq), .val (.int (1 : Int32)), .val (.int (1 : Int32)), .val (.int (0 : Int32)), .val (.int (1 : Int32)), .val (.int (2 : Int32)), .val (.int (1 : Int32)), .val (.long (T 2)), .second] []
        refine w_lload ok at_312 rfl ?_
        refine w_aload ok at_314 rfl rfl ?_
        refine w_iconst ok at_316 (v := (2 : Int32)) rfl ?_
        refine w_laload ok (v := (.long (T 2))) at_317 A_ar (by decide) rfl ?_
        refine w_lcmp_gt ok at_318 at_319 (pc' := 326) (by decide) (fun hc455 => False.elim (by exact own_least P H hs hy ey (j := 2) (by decide) ((hM 2 (by decide)).trans (if_pos (by decide))) ((hM 2 (by decide)).trans (if_pos (by decide))) hc455)) (fun hc455 => ?_)
        show W K l _ n0 _ h0 8 19 322 #[.val (.long aa), .second, .val (.long bb), .second, .val (.long cc), .second, .val (.long dd), .second, .val (.int op), .val (.ref t), .val (.ref ar), .val (.int (3 : Int32)), .val (.int dq), .val (.int (1 : Int32)), .val (.int (1 : Int32)), .val (.int (0 : Int32)), .val (.int (1 : Int32)), .val (.int (2 : Int32)), .val (.int (1 : Int32)), .val (.long (T 2)), .second] []
        refine w_iconst ok at_322 (v := (1 : Int32)) rfl ?_
        refine w_goto ok at_323 (pc' := 327) (by decide) ?_
        refine w_bret ok (by simp) at_327 (by decide) (by decide) ?_
        exact rfl
      · exact absurd (my.symm.trans ((hM 3 (by decide)).trans (if_neg (by decide)))) (fun q => by cases q)
  · skip
    show W K l _ n0 _ h0 8 19 135 #[.val (.long aa), .second, .val (.long bb), .second, .val (.long cc), .second, .val (.long dd), .second, .val (.int op), .val (.ref t), .val (.ref ar), .val (.int (3 : Int32)), .val (.int dq), .val (.int (2 : Int32)), .unset, .unset, .unset, .unset, .unset, .unset, .unset] []
    refine w_iconst ok at_135 (v := (0 : Int32)) rfl ?_
    refine w_iload ok at_136 rfl ?_
    refine w_icmp_ge ok at_138 (pc' := 150) (by decide) (fun hc457 => False.elim (by revert hc457; decide)) (fun hc457 => ?_)
    show W K l _ n0 _ h0 8 19 141 #[.val (.long aa), .second, .val (.long bb), .second, .val (.long cc), .second, .val (.long dd), .second, .val (.int op), .val (.ref t), .val (.ref ar), .val (.int (3 : Int32)), .val (.int dq), .val (.int (2 : Int32)), .unset, .unset, .unset, .unset, .unset, .unset, .unset] []
    refine w_iload ok at_141 rfl ?_
    refine w_if_eq ok at_143 (pc' := 150) (by decide) (fun hc459 => False.elim (by revert hc459; decide)) (fun hc459 => ?_)
    show W K l _ n0 _ h0 8 19 146 #[.val (.long aa), .second, .val (.long bb), .second, .val (.long cc), .second, .val (.long dd), .second, .val (.int op), .val (.ref t), .val (.ref ar), .val (.int (3 : Int32)), .val (.int dq), .val (.int (2 : Int32)), .unset, .unset, .unset, .unset, .unset, .unset, .unset] []
    refine w_iconst ok at_146 (v := (1 : Int32)) rfl ?_
    refine w_goto ok at_147 (pc' := 151) (by decide) ?_
    refine w_istore ok at_151 (L' := #[.val (.long aa), .second, .val (.long bb), .second, .val (.long cc), .second, .val (.long dd), .second, .val (.int op), .val (.ref t), .val (.ref ar), .val (.int (3 : Int32)), .val (.int dq), .val (.int (2 : Int32)), .val (.int (1 : Int32)), .unset, .unset, .unset, .unset, .unset, .unset]) rfl ?_
    refine w_iconst ok at_153 (v := (1 : Int32)) rfl ?_
    refine w_iload ok at_154 rfl ?_
    refine w_icmp_ge ok at_156 (pc' := 169) (by decide) (fun hc461 => False.elim (by revert hc461; decide)) (fun hc461 => ?_)
    show W K l _ n0 _ h0 8 19 159 #[.val (.long aa), .second, .val (.long bb), .second, .val (.long cc), .second, .val (.long dd), .second, .val (.int op), .val (.ref t), .val (.ref ar), .val (.int (3 : Int32)), .val (.int dq), .val (.int (2 : Int32)), .val (.int (1 : Int32)), .unset, .unset, .unset, .unset, .unset, .unset] []
    refine w_iload ok at_159 rfl ?_
    refine w_iconst ok at_161 (v := (1 : Int32)) rfl ?_
    refine w_icmp_eq ok at_162 (pc' := 169) (by decide) (fun hc463 => False.elim (by revert hc463; decide)) (fun hc463 => ?_)
    show W K l _ n0 _ h0 8 19 165 #[.val (.long aa), .second, .val (.long bb), .second, .val (.long cc), .second, .val (.long dd), .second, .val (.int op), .val (.ref t), .val (.ref ar), .val (.int (3 : Int32)), .val (.int dq), .val (.int (2 : Int32)), .val (.int (1 : Int32)), .unset, .unset, .unset, .unset, .unset, .unset] []
    refine w_iconst ok at_165 (v := (1 : Int32)) rfl ?_
    refine w_goto ok at_166 (pc' := 170) (by decide) ?_
    refine w_istore ok at_170 (L' := #[.val (.long aa), .second, .val (.long bb), .second, .val (.long cc), .second, .val (.long dd), .second, .val (.int op), .val (.ref t), .val (.ref ar), .val (.int (3 : Int32)), .val (.int dq), .val (.int (2 : Int32)), .val (.int (1 : Int32)), .val (.int (1 : Int32)), .unset, .unset, .unset, .unset, .unset]) rfl ?_
    refine w_iconst ok at_172 (v := (2 : Int32)) rfl ?_
    refine w_iload ok at_173 rfl ?_
    refine w_icmp_ge ok at_175 (pc' := 188) (by decide) (fun hc465 => False.elim (by revert hc465; decide)) (fun hc465 => ?_)
    show W K l _ n0 _ h0 8 19 178 #[.val (.long aa), .second, .val (.long bb), .second, .val (.long cc), .second, .val (.long dd), .second, .val (.int op), .val (.ref t), .val (.ref ar), .val (.int (3 : Int32)), .val (.int dq), .val (.int (2 : Int32)), .val (.int (1 : Int32)), .val (.int (1 : Int32)), .unset, .unset, .unset, .unset, .unset] []
    refine w_iload ok at_178 rfl ?_
    refine w_iconst ok at_180 (v := (2 : Int32)) rfl ?_
    refine w_icmp_eq ok at_181 (pc' := 188) (by decide) (fun hc467 => ?_) (fun hc467 => False.elim (by revert hc467; decide))
    show W K l _ n0 _ h0 8 19 188 #[.val (.long aa), .second, .val (.long bb), .second, .val (.long cc), .second, .val (.long dd), .second, .val (.int op), .val (.ref t), .val (.ref ar), .val (.int (3 : Int32)), .val (.int dq), .val (.int (2 : Int32)), .val (.int (1 : Int32)), .val (.int (1 : Int32)), .unset, .unset, .unset, .unset, .unset] []
    refine w_iconst ok at_188 (v := (0 : Int32)) rfl ?_
    refine w_istore ok at_189 (L' := #[.val (.long aa), .second, .val (.long bb), .second, .val (.long cc), .second, .val (.long dd), .second, .val (.int op), .val (.ref t), .val (.ref ar), .val (.int (3 : Int32)), .val (.int dq), .val (.int (2 : Int32)), .val (.int (1 : Int32)), .val (.int (1 : Int32)), .val (.int (0 : Int32)), .unset, .unset, .unset, .unset]) rfl ?_
    refine w_aload ok at_191 rfl rfl ?_
    refine w_callV ok (y := (⟨"com/example/rowan/rowan/store/IdleHeap", "first", "()I"⟩ : MethodName)) (a := t) (argsL := []) (rest := []) at_193 (hw _ (List.mem_of_getElem? (i := 79) rfl)) (hw _ (List.mem_of_getElem? (i := 80) rfl)) (hw _ (List.mem_of_getElem? (i := 82) rfl)) (hw _ (List.mem_of_getElem? (i := 81) rfl)) (hw _ (List.mem_of_getElem? (i := 2) rfl)) (hw _ (List.mem_of_getElem? (i := 83) rfl)) (by decide) A_t.1 pd_2829I rfl rfl (by decide) (Nat.le_of_ble_eq_true rfl) (by decide) (by decide) (fun z0 => rm_first l Z a0 hw [] n0 h0 z0 t en ti sl sz e g τ A_t A_en A_ti A_sl ge_t ge_en ge_ti ge_sl ne_t_en ne_t_ti ne_t_sl ne_en_ti ne_en_sl ne_ti_sl M P H) (fun v468 h469 qv468 => ?_)
    obtain ⟨rfl, ⟨hs0, rfl⟩ | ⟨y, hy, hs, ey, rfl⟩⟩ := qv468
    · subst hs0; exact (own_none0 P (by decide) ((hM 0 (by decide)).trans (if_pos (by decide)))).elim
    · have my := (P.at hs hy ey).1
      obtain rfl | rfl | rfl | rfl : y = 0 ∨ y = 1 ∨ y = 2 ∨ y = 3 := by omega
      · skip
        show W K l _ n0 _ h0 8 19 196 #[.val (.long aa), .second, .val (.long bb), .second, .val (.long cc), .second, .val (.long dd), .second, .val (.int op), .val (.ref t), .val (.ref ar), .val (.int (3 : Int32)), .val (.int dq), .val (.int (2 : Int32)), .val (.int (1 : Int32)), .val (.int (1 : Int32)), .val (.int (0 : Int32)), .unset, .unset, .unset, .unset] [(.int (0 : Int32))]
        refine w_istore ok at_196 (L' := #[.val (.long aa), .second, .val (.long bb), .second, .val (.long cc), .second, .val (.long dd), .second, .val (.int op), .val (.ref t), .val (.ref ar), .val (.int (3 : Int32)), .val (.int dq), .val (.int (2 : Int32)), .val (.int (1 : Int32)), .val (.int (1 : Int32)), .val (.int (0 : Int32)), .val (.int (0 : Int32)), .unset, .unset, .unset]) rfl ?_
        refine w_iload ok at_198 rfl ?_
        refine w_if_ne ok at_200 (pc' := 225) (by decide) (fun hc471 => ?_) (fun hc471 => False.elim (by revert hc471; decide))
        show W K l _ n0 _ h0 8 19 225 #[.val (.long aa), .second, .val (.long bb), .second, .val (.long cc), .second, .val (.long dd), .second, .val (.int op), .val (.ref t), .val (.ref ar), .val (.int (3 : Int32)), .val (.int dq), .val (.int (2 : Int32)), .val (.int (1 : Int32)), .val (.int (1 : Int32)), .val (.int (0 : Int32)), .val (.int (0 : Int32)), .unset, .unset, .unset] []
        refine w_iload ok at_225 rfl ?_
        refine w_if_lt ok at_227 (pc' := 236) (by decide) (fun hc473 => False.elim (by revert hc473; decide)) (fun hc473 => ?_)
        show W K l _ n0 _ h0 8 19 230 #[.val (.long aa), .second, .val (.long bb), .second, .val (.long cc), .second, .val (.long dd), .second, .val (.int op), .val (.ref t), .val (.ref ar), .val (.int (3 : Int32)), .val (.int dq), .val (.int (2 : Int32)), .val (.int (1 : Int32)), .val (.int (1 : Int32)), .val (.int (0 : Int32)), .val (.int (0 : Int32)), .unset, .unset, .unset] []
        refine w_iload ok at_230 rfl ?_
        refine w_iconst ok at_232 (v := (2 : Int32)) rfl ?_
        refine w_icmp_le ok at_233 (pc' := 238) (by decide) (fun hc475 => ?_) (fun hc475 => False.elim (by revert hc475; decide))
        show W K l _ n0 _ h0 8 19 238 #[.val (.long aa), .second, .val (.long bb), .second, .val (.long cc), .second, .val (.long dd), .second, .val (.int op), .val (.ref t), .val (.ref ar), .val (.int (3 : Int32)), .val (.int dq), .val (.int (2 : Int32)), .val (.int (1 : Int32)), .val (.int (1 : Int32)), .val (.int (0 : Int32)), .val (.int (0 : Int32)), .unset, .unset, .unset] []
        refine w_iload ok at_238 rfl ?_
        refine w_if_ne ok at_240 (pc' := 248) (by decide) (fun hc477 => False.elim (by revert hc477; decide)) (fun hc477 => ?_)
        show W K l _ n0 _ h0 8 19 243 #[.val (.long aa), .second, .val (.long bb), .second, .val (.long cc), .second, .val (.long dd), .second, .val (.int op), .val (.ref t), .val (.ref ar), .val (.int (3 : Int32)), .val (.int dq), .val (.int (2 : Int32)), .val (.int (1 : Int32)), .val (.int (1 : Int32)), .val (.int (0 : Int32)), .val (.int (0 : Int32)), .unset, .unset, .unset] []
        refine w_iload ok at_243 rfl ?_
        refine w_goto ok at_245 (pc' := 261) (by decide) ?_
        refine w_istore ok at_261 (L' := #[.val (.long aa), .second, .val (.long bb), .second, .val (.long cc), .second, .val (.long dd), .second, .val (.int op), .val (.ref t), .val (.ref ar), .val (.int (3 : Int32)), .val (.int dq), .val (.int (2 : Int32)), .val (.int (1 : Int32)), .val (.int (1 : Int32)), .val (.int (0 : Int32)), .val (.int (0 : Int32)), .val (.int (1 : Int32)), .unset, .unset]) rfl ?_
        refine w_iload ok at_263 rfl ?_
        refine w_if_ne ok at_265 (pc' := 270) (by decide) (fun hc479 => ?_) (fun hc479 => False.elim (by revert hc479; decide))
        show W K l _ n0 _ h0 8 19 270 #[.val (.long aa), .second, .val (.long bb), .second, .val (.long cc), .second, .val (.long dd), .second, .val (.int op), .val (.ref t), .val (.ref ar), .val (.int (3 : Int32)), .val (.int dq), .val (.int (2 : Int32)), .val (.int (1 : Int32)), .val (.int (1 : Int32)), .val (.int (0 : Int32)), .val (.int (0 : Int32)), .val (.int (1 : Int32)), .unset, .unset] []
        refine w_aload ok at_270 rfl rfl ?_
        refine w_iload ok at_272 rfl ?_
        refine w_laload ok (v := (.long (T 0))) at_274 A_ar (by decide) rfl ?_
        refine w_lstore ok at_275 (L' := #[.val (.long aa), .second, .val (.long bb), .second, .val (.long cc), .second, .val (.long dd), .second, .val (.int op), .val (.ref t), .val (.ref ar), .val (.int (3 : Int32)), .val (.int dq), .val (.int (2 : Int32)), .val (.int (1 : Int32)), .val (.int (1 : Int32)), .val (.int (0 : Int32)), .val (.int (0 : Int32)), .val (.int (1 : Int32)), .val (.long (T 0)), .second]) rfl ?_
        refine w_iload ok at_277 rfl ?_
        refine w_if_eq ok at_279 (pc' := 292) (by decide) (fun hc481 => False.elim (by revert hc481; decide)) (fun hc481 => ?_)
        show W K l _ n0 _ h0 8 19 282 #[.val (.long aa), .second, .val (.long bb), .second, .val (.long cc), .second, .val (.long dd), .second, .val (.int op), .val (.ref t), .val (.ref ar), .val (.int (3 : Int32)), .val (.int dq), .val (.int (2 : Int32)), .val (.int (1 : Int32)), .val (.int (1 : Int32)), .val (.int (0 : Int32)), .val (.int (0 : Int32)), .val (.int (1 : Int32)), .val (.long (T 0)), .second] []
        refine w_lload ok at_282 rfl ?_
        refine w_aload ok at_284 rfl rfl ?_
        refine w_iconst ok at_286 (v := (0 : Int32)) rfl ?_
        refine w_laload ok (v := (.long (T 0))) at_287 A_ar (by decide) rfl ?_
        refine w_lcmp_gt ok at_288 at_289 (pc' := 326) (by decide) (fun hc483 => False.elim (by exact own_least P H hs hy ey (j := 0) (by decide) ((hM 0 (by decide)).trans (if_pos (by decide))) ((hM 0 (by decide)).trans (if_pos (by decide))) hc483)) (fun hc483 => ?_)
        show W K l _ n0 _ h0 8 19 292 #[.val (.long aa), .second, .val (.long bb), .second, .val (.long cc), .second, .val (.long dd), .second, .val (.int op), .val (.ref t), .val (.ref ar), .val (.int (3 : Int32)), .val (.int dq), .val (.int (2 : Int32)), .val (.int (1 : Int32)), .val (.int (1 : Int32)), .val (.int (0 : Int32)), .val (.int (0 : Int32)), .val (.int (1 : Int32)), .val (.long (T 0)), .second] []
        refine w_iload ok at_292 rfl ?_
        refine w_if_eq ok at_294 (pc' := 307) (by decide) (fun hc485 => False.elim (by revert hc485; decide)) (fun hc485 => ?_)
        show W K l _ n0 _ h0 8 19 297 #[.val (.long aa), .second, .val (.long bb), .second, .val (.long cc), .second, .val (.long dd), .second, .val (.int op), .val (.ref t), .val (.ref ar), .val (.int (3 : Int32)), .val (.int dq), .val (.int (2 : Int32)), .val (.int (1 : Int32)), .val (.int (1 : Int32)), .val (.int (0 : Int32)), .val (.int (0 : Int32)), .val (.int (1 : Int32)), .val (.long (T 0)), .second] []
        refine w_lload ok at_297 rfl ?_
        refine w_aload ok at_299 rfl rfl ?_
        refine w_iconst ok at_301 (v := (1 : Int32)) rfl ?_
        refine w_laload ok (v := (.long (T 1))) at_302 A_ar (by decide) rfl ?_
        refine w_lcmp_gt ok at_303 at_304 (pc' := 326) (by decide) (fun hc487 => False.elim (by exact own_least P H hs hy ey (j := 1) (by decide) ((hM 0 (by decide)).trans (if_pos (by decide))) ((hM 1 (by decide)).trans (if_pos (by decide))) hc487)) (fun hc487 => ?_)
        show W K l _ n0 _ h0 8 19 307 #[.val (.long aa), .second, .val (.long bb), .second, .val (.long cc), .second, .val (.long dd), .second, .val (.int op), .val (.ref t), .val (.ref ar), .val (.int (3 : Int32)), .val (.int dq), .val (.int (2 : Int32)), .val (.int (1 : Int32)), .val (.int (1 : Int32)), .val (.int (0 : Int32)), .val (.int (0 : Int32)), .val (.int (1 : Int32)), .val (.long (T 0)), .second] []
        refine w_iload ok at_307 rfl ?_
        refine w_if_eq ok at_309 (pc' := 322) (by decide) (fun hc489 => ?_) (fun hc489 => False.elim (by revert hc489; decide))
        show W K l _ n0 _ h0 8 19 322 #[.val (.long aa), .second, .val (.long bb), .second, .val (.long cc), .second, .val (.long dd), .second, .val (.int op), .val (.ref t), .val (.ref ar), .val (.int (3 : Int32)), .val (.int dq), .val (.int (2 : Int32)), .val (.int (1 : Int32)), .val (.int (1 : Int32)), .val (.int (0 : Int32)), .val (.int (0 : Int32)), .val (.int (1 : Int32)), .val (.long (T 0)), .second] []
        refine w_iconst ok at_322 (v := (1 : Int32)) rfl ?_
        refine w_goto ok at_323 (pc' := 327) (by decide) ?_
        refine w_bret ok (by simp) at_327 (by decide) (by decide) ?_
        exact rfl
      · skip
        show W K l _ n0 _ h0 8 19 196 #[.val (.long aa), .second, .val (.long bb), .second, .val (.long cc), .second, .val (.long dd), .second, .val (.int op), .val (.ref t), .val (.ref ar), .val (.int (3 : Int32)), .val (.int dq), .val (.int (2 : Int32)), .val (.int (1 : Int32)), .val (.int (1 : Int32)), .val (.int (0 : Int32)), .unset, .unset, .unset, .unset] [(.int (1 : Int32))]
        refine w_istore ok at_196 (L' := #[.val (.long aa), .second, .val (.long bb), .second, .val (.long cc), .second, .val (.long dd), .second, .val (.int op), .val (.ref t), .val (.ref ar), .val (.int (3 : Int32)), .val (.int dq), .val (.int (2 : Int32)), .val (.int (1 : Int32)), .val (.int (1 : Int32)), .val (.int (0 : Int32)), .val (.int (1 : Int32)), .unset, .unset, .unset]) rfl ?_
        refine w_iload ok at_198 rfl ?_
        refine w_if_ne ok at_200 (pc' := 225) (by decide) (fun hc491 => ?_) (fun hc491 => False.elim (by revert hc491; decide))
        show W K l _ n0 _ h0 8 19 225 #[.val (.long aa), .second, .val (.long bb), .second, .val (.long cc), .second, .val (.long dd), .second, .val (.int op), .val (.ref t), .val (.ref ar), .val (.int (3 : Int32)), .val (.int dq), .val (.int (2 : Int32)), .val (.int (1 : Int32)), .val (.int (1 : Int32)), .val (.int (0 : Int32)), .val (.int (1 : Int32)), .unset, .unset, .unset] []
        refine w_iload ok at_225 rfl ?_
        refine w_if_lt ok at_227 (pc' := 236) (by decide) (fun hc493 => False.elim (by revert hc493; decide)) (fun hc493 => ?_)
        show W K l _ n0 _ h0 8 19 230 #[.val (.long aa), .second, .val (.long bb), .second, .val (.long cc), .second, .val (.long dd), .second, .val (.int op), .val (.ref t), .val (.ref ar), .val (.int (3 : Int32)), .val (.int dq), .val (.int (2 : Int32)), .val (.int (1 : Int32)), .val (.int (1 : Int32)), .val (.int (0 : Int32)), .val (.int (1 : Int32)), .unset, .unset, .unset] []
        refine w_iload ok at_230 rfl ?_
        refine w_iconst ok at_232 (v := (2 : Int32)) rfl ?_
        refine w_icmp_le ok at_233 (pc' := 238) (by decide) (fun hc495 => ?_) (fun hc495 => False.elim (by revert hc495; decide))
        show W K l _ n0 _ h0 8 19 238 #[.val (.long aa), .second, .val (.long bb), .second, .val (.long cc), .second, .val (.long dd), .second, .val (.int op), .val (.ref t), .val (.ref ar), .val (.int (3 : Int32)), .val (.int dq), .val (.int (2 : Int32)), .val (.int (1 : Int32)), .val (.int (1 : Int32)), .val (.int (0 : Int32)), .val (.int (1 : Int32)), .unset, .unset, .unset] []
        refine w_iload ok at_238 rfl ?_
        refine w_if_ne ok at_240 (pc' := 248) (by decide) (fun hc497 => ?_) (fun hc497 => False.elim (by revert hc497; decide))
        show W K l _ n0 _ h0 8 19 248 #[.val (.long aa), .second, .val (.long bb), .second, .val (.long cc), .second, .val (.long dd), .second, .val (.int op), .val (.ref t), .val (.ref ar), .val (.int (3 : Int32)), .val (.int dq), .val (.int (2 : Int32)), .val (.int (1 : Int32)), .val (.int (1 : Int32)), .val (.int (0 : Int32)), .val (.int (1 : Int32)), .unset, .unset, .unset] []
        refine w_iload ok at_248 rfl ?_
        refine w_iconst ok at_250 (v := (1 : Int32)) rfl ?_
        refine w_icmp_ne ok at_251 (pc' := 259) (by decide) (fun hc499 => False.elim (by revert hc499; decide)) (fun hc499 => ?_)
        show W K l _ n0 _ h0 8 19 254 #[.val (.long aa), .second, .val (.long bb), .second, .val (.long cc), .second, .val (.long dd), .second, .val (.int op), .val (.ref t), .val (.ref ar), .val (.int (3 : Int32)), .val (.int dq), .val (.int (2 : Int32)), .val (.int (1 : Int32)), .val (.int (1 : Int32)), .val (.int (0 : Int32)), .val (.int (1 : Int32)), .unset, .unset, .unset] []
        refine w_iload ok at_254 rfl ?_
        refine w_goto ok at_256 (pc' := 261) (by decide) ?_
        refine w_istore ok at_261 (L' := #[.val (.long aa), .second, .val (.long bb), .second, .val (.long cc), .second, .val (.long dd), .second, .val (.int op), .val (.ref t), .val (.ref ar), .val (.int (3 : Int32)), .val (.int dq), .val (.int (2 : Int32)), .val (.int (1 : Int32)), .val (.int (1 : Int32)), .val (.int (0 : Int32)), .val (.int (1 : Int32)), .val (.int (1 : Int32)), .unset, .unset]) rfl ?_
        refine w_iload ok at_263 rfl ?_
        refine w_if_ne ok at_265 (pc' := 270) (by decide) (fun hc501 => ?_) (fun hc501 => False.elim (by revert hc501; decide))
        show W K l _ n0 _ h0 8 19 270 #[.val (.long aa), .second, .val (.long bb), .second, .val (.long cc), .second, .val (.long dd), .second, .val (.int op), .val (.ref t), .val (.ref ar), .val (.int (3 : Int32)), .val (.int dq), .val (.int (2 : Int32)), .val (.int (1 : Int32)), .val (.int (1 : Int32)), .val (.int (0 : Int32)), .val (.int (1 : Int32)), .val (.int (1 : Int32)), .unset, .unset] []
        refine w_aload ok at_270 rfl rfl ?_
        refine w_iload ok at_272 rfl ?_
        refine w_laload ok (v := (.long (T 1))) at_274 A_ar (by decide) rfl ?_
        refine w_lstore ok at_275 (L' := #[.val (.long aa), .second, .val (.long bb), .second, .val (.long cc), .second, .val (.long dd), .second, .val (.int op), .val (.ref t), .val (.ref ar), .val (.int (3 : Int32)), .val (.int dq), .val (.int (2 : Int32)), .val (.int (1 : Int32)), .val (.int (1 : Int32)), .val (.int (0 : Int32)), .val (.int (1 : Int32)), .val (.int (1 : Int32)), .val (.long (T 1)), .second]) rfl ?_
        refine w_iload ok at_277 rfl ?_
        refine w_if_eq ok at_279 (pc' := 292) (by decide) (fun hc503 => False.elim (by revert hc503; decide)) (fun hc503 => ?_)
        show W K l _ n0 _ h0 8 19 282 #[.val (.long aa), .second, .val (.long bb), .second, .val (.long cc), .second, .val (.long dd), .second, .val (.int op), .val (.ref t), .val (.ref ar), .val (.int (3 : Int32)), .val (.int dq), .val (.int (2 : Int32)), .val (.int (1 : Int32)), .val (.int (1 : Int32)), .val (.int (0 : Int32)), .val (.int (1 : Int32)), .val (.int (1 : Int32)), .val (.long (T 1)), .second] []
        refine w_lload ok at_282 rfl ?_
        refine w_aload ok at_284 rfl rfl ?_
        refine w_iconst ok at_286 (v := (0 : Int32)) rfl ?_
        refine w_laload ok (v := (.long (T 0))) at_287 A_ar (by decide) rfl ?_
        refine w_lcmp_gt ok at_288 at_289 (pc' := 326) (by decide) (fun hc505 => False.elim (by exact own_least P H hs hy ey (j := 0) (by decide) ((hM 1 (by decide)).trans (if_pos (by decide))) ((hM 0 (by decide)).trans (if_pos (by decide))) hc505)) (fun hc505 => ?_)
        show W K l _ n0 _ h0 8 19 292 #[.val (.long aa), .second, .val (.long bb), .second, .val (.long cc), .second, .val (.long dd), .second, .val (.int op), .val (.ref t), .val (.ref ar), .val (.int (3 : Int32)), .val (.int dq), .val (.int (2 : Int32)), .val (.int (1 : Int32)), .val (.int (1 : Int32)), .val (.int (0 : Int32)), .val (.int (1 : Int32)), .val (.int (1 : Int32)), .val (.long (T 1)), .second] []
        refine w_iload ok at_292 rfl ?_
        refine w_if_eq ok at_294 (pc' := 307) (by decide) (fun hc507 => False.elim (by revert hc507; decide)) (fun hc507 => ?_)
        show W K l _ n0 _ h0 8 19 297 #[.val (.long aa), .second, .val (.long bb), .second, .val (.long cc), .second, .val (.long dd), .second, .val (.int op), .val (.ref t), .val (.ref ar), .val (.int (3 : Int32)), .val (.int dq), .val (.int (2 : Int32)), .val (.int (1 : Int32)), .val (.int (1 : Int32)), .val (.int (0 : Int32)), .val (.int (1 : Int32)), .val (.int (1 : Int32)), .val (.long (T 1)), .second] []
        refine w_lload ok at_297 rfl ?_
        refine w_aload ok at_299 rfl rfl ?_
        refine w_iconst ok at_301 (v := (1 : Int32)) rfl ?_
        refine w_laload ok (v := (.long (T 1))) at_302 A_ar (by decide) rfl ?_
        refine w_lcmp_gt ok at_303 at_304 (pc' := 326) (by decide) (fun hc509 => False.elim (by exact own_least P H hs hy ey (j := 1) (by decide) ((hM 1 (by decide)).trans (if_pos (by decide))) ((hM 1 (by decide)).trans (if_pos (by decide))) hc509)) (fun hc509 => ?_)
        show W K l _ n0 _ h0 8 19 307 #[.val (.long aa), .second, .val (.long bb), .second, .val (.long cc), .second, .val (.long dd), .second, .val (.int op), .val (.ref t), .val (.ref ar), .val (.int (3 : Int32)), .val (.int dq), .val (.int (2 : Int32)), .val (.int (1 : Int32)), .val (.int (1 : Int32)), .val (.int (0 : Int32)), .val (.int (1 : Int32)), .val (.int (1 : Int32)), .val (.long (T 1)), .second] []
        refine w_iload ok at_307 rfl ?_
        refine w_if_eq ok at_309 (pc' := 322) (by decide) (fun hc511 => ?_) (fun hc511 => False.elim (by revert hc511; decide))
        show W K l _ n0 _ h0 8 19 322 #[.val (.long aa), .second, .val (.long bb), .second, .val (.long cc), .second, .val (.long dd), .second, .val (.int op), .val (.ref t), .val (.ref ar), .val (.int (3 : Int32)), .val (.int dq), .val (.int (2 : Int32)), .val (.int (1 : Int32)), .val (.int (1 : Int32)), .val (.int (0 : Int32)), .val (.int (1 : Int32)), .val (.int (1 : Int32)), .val (.long (T 1)), .second] []
        refine w_iconst ok at_322 (v := (1 : Int32)) rfl ?_
        refine w_goto ok at_323 (pc' := 327) (by decide) ?_
        refine w_bret ok (by simp) at_327 (by decide) (by decide) ?_
        exact rfl
      · exact absurd (my.symm.trans ((hM 2 (by decide)).trans (if_neg (by decide)))) (fun q => by cases q)
      · exact absurd (my.symm.trans ((hM 3 (by decide)).trans (if_neg (by decide)))) (fun q => by cases q)
  · skip
    show W K l _ n0 _ h0 8 19 135 #[.val (.long aa), .second, .val (.long bb), .second, .val (.long cc), .second, .val (.long dd), .second, .val (.int op), .val (.ref t), .val (.ref ar), .val (.int (3 : Int32)), .val (.int dq), .val (.int (3 : Int32)), .unset, .unset, .unset, .unset, .unset, .unset, .unset] []
    refine w_iconst ok at_135 (v := (0 : Int32)) rfl ?_
    refine w_iload ok at_136 rfl ?_
    refine w_icmp_ge ok at_138 (pc' := 150) (by decide) (fun hc513 => False.elim (by revert hc513; decide)) (fun hc513 => ?_)
    show W K l _ n0 _ h0 8 19 141 #[.val (.long aa), .second, .val (.long bb), .second, .val (.long cc), .second, .val (.long dd), .second, .val (.int op), .val (.ref t), .val (.ref ar), .val (.int (3 : Int32)), .val (.int dq), .val (.int (3 : Int32)), .unset, .unset, .unset, .unset, .unset, .unset, .unset] []
    refine w_iload ok at_141 rfl ?_
    refine w_if_eq ok at_143 (pc' := 150) (by decide) (fun hc515 => False.elim (by revert hc515; decide)) (fun hc515 => ?_)
    show W K l _ n0 _ h0 8 19 146 #[.val (.long aa), .second, .val (.long bb), .second, .val (.long cc), .second, .val (.long dd), .second, .val (.int op), .val (.ref t), .val (.ref ar), .val (.int (3 : Int32)), .val (.int dq), .val (.int (3 : Int32)), .unset, .unset, .unset, .unset, .unset, .unset, .unset] []
    refine w_iconst ok at_146 (v := (1 : Int32)) rfl ?_
    refine w_goto ok at_147 (pc' := 151) (by decide) ?_
    refine w_istore ok at_151 (L' := #[.val (.long aa), .second, .val (.long bb), .second, .val (.long cc), .second, .val (.long dd), .second, .val (.int op), .val (.ref t), .val (.ref ar), .val (.int (3 : Int32)), .val (.int dq), .val (.int (3 : Int32)), .val (.int (1 : Int32)), .unset, .unset, .unset, .unset, .unset, .unset]) rfl ?_
    refine w_iconst ok at_153 (v := (1 : Int32)) rfl ?_
    refine w_iload ok at_154 rfl ?_
    refine w_icmp_ge ok at_156 (pc' := 169) (by decide) (fun hc517 => False.elim (by revert hc517; decide)) (fun hc517 => ?_)
    show W K l _ n0 _ h0 8 19 159 #[.val (.long aa), .second, .val (.long bb), .second, .val (.long cc), .second, .val (.long dd), .second, .val (.int op), .val (.ref t), .val (.ref ar), .val (.int (3 : Int32)), .val (.int dq), .val (.int (3 : Int32)), .val (.int (1 : Int32)), .unset, .unset, .unset, .unset, .unset, .unset] []
    refine w_iload ok at_159 rfl ?_
    refine w_iconst ok at_161 (v := (1 : Int32)) rfl ?_
    refine w_icmp_eq ok at_162 (pc' := 169) (by decide) (fun hc519 => False.elim (by revert hc519; decide)) (fun hc519 => ?_)
    show W K l _ n0 _ h0 8 19 165 #[.val (.long aa), .second, .val (.long bb), .second, .val (.long cc), .second, .val (.long dd), .second, .val (.int op), .val (.ref t), .val (.ref ar), .val (.int (3 : Int32)), .val (.int dq), .val (.int (3 : Int32)), .val (.int (1 : Int32)), .unset, .unset, .unset, .unset, .unset, .unset] []
    refine w_iconst ok at_165 (v := (1 : Int32)) rfl ?_
    refine w_goto ok at_166 (pc' := 170) (by decide) ?_
    refine w_istore ok at_170 (L' := #[.val (.long aa), .second, .val (.long bb), .second, .val (.long cc), .second, .val (.long dd), .second, .val (.int op), .val (.ref t), .val (.ref ar), .val (.int (3 : Int32)), .val (.int dq), .val (.int (3 : Int32)), .val (.int (1 : Int32)), .val (.int (1 : Int32)), .unset, .unset, .unset, .unset, .unset]) rfl ?_
    refine w_iconst ok at_172 (v := (2 : Int32)) rfl ?_
    refine w_iload ok at_173 rfl ?_
    refine w_icmp_ge ok at_175 (pc' := 188) (by decide) (fun hc521 => False.elim (by revert hc521; decide)) (fun hc521 => ?_)
    show W K l _ n0 _ h0 8 19 178 #[.val (.long aa), .second, .val (.long bb), .second, .val (.long cc), .second, .val (.long dd), .second, .val (.int op), .val (.ref t), .val (.ref ar), .val (.int (3 : Int32)), .val (.int dq), .val (.int (3 : Int32)), .val (.int (1 : Int32)), .val (.int (1 : Int32)), .unset, .unset, .unset, .unset, .unset] []
    refine w_iload ok at_178 rfl ?_
    refine w_iconst ok at_180 (v := (2 : Int32)) rfl ?_
    refine w_icmp_eq ok at_181 (pc' := 188) (by decide) (fun hc523 => False.elim (by revert hc523; decide)) (fun hc523 => ?_)
    show W K l _ n0 _ h0 8 19 184 #[.val (.long aa), .second, .val (.long bb), .second, .val (.long cc), .second, .val (.long dd), .second, .val (.int op), .val (.ref t), .val (.ref ar), .val (.int (3 : Int32)), .val (.int dq), .val (.int (3 : Int32)), .val (.int (1 : Int32)), .val (.int (1 : Int32)), .unset, .unset, .unset, .unset, .unset] []
    refine w_iconst ok at_184 (v := (1 : Int32)) rfl ?_
    refine w_goto ok at_185 (pc' := 189) (by decide) ?_
    refine w_istore ok at_189 (L' := #[.val (.long aa), .second, .val (.long bb), .second, .val (.long cc), .second, .val (.long dd), .second, .val (.int op), .val (.ref t), .val (.ref ar), .val (.int (3 : Int32)), .val (.int dq), .val (.int (3 : Int32)), .val (.int (1 : Int32)), .val (.int (1 : Int32)), .val (.int (1 : Int32)), .unset, .unset, .unset, .unset]) rfl ?_
    refine w_aload ok at_191 rfl rfl ?_
    refine w_callV ok (y := (⟨"com/example/rowan/rowan/store/IdleHeap", "first", "()I"⟩ : MethodName)) (a := t) (argsL := []) (rest := []) at_193 (hw _ (List.mem_of_getElem? (i := 79) rfl)) (hw _ (List.mem_of_getElem? (i := 80) rfl)) (hw _ (List.mem_of_getElem? (i := 82) rfl)) (hw _ (List.mem_of_getElem? (i := 81) rfl)) (hw _ (List.mem_of_getElem? (i := 2) rfl)) (hw _ (List.mem_of_getElem? (i := 83) rfl)) (by decide) A_t.1 pd_2829I rfl rfl (by decide) (Nat.le_of_ble_eq_true rfl) (by decide) (by decide) (fun z0 => rm_first l Z a0 hw [] n0 h0 z0 t en ti sl sz e g τ A_t A_en A_ti A_sl ge_t ge_en ge_ti ge_sl ne_t_en ne_t_ti ne_t_sl ne_en_ti ne_en_sl ne_ti_sl M P H) (fun v524 h525 qv524 => ?_)
    obtain ⟨rfl, ⟨hs0, rfl⟩ | ⟨y, hy, hs, ey, rfl⟩⟩ := qv524
    · subst hs0; exact (own_none0 P (by decide) ((hM 0 (by decide)).trans (if_pos (by decide)))).elim
    · have my := (P.at hs hy ey).1
      obtain rfl | rfl | rfl | rfl : y = 0 ∨ y = 1 ∨ y = 2 ∨ y = 3 := by omega
      · skip
        show W K l _ n0 _ h0 8 19 196 #[.val (.long aa), .second, .val (.long bb), .second, .val (.long cc), .second, .val (.long dd), .second, .val (.int op), .val (.ref t), .val (.ref ar), .val (.int (3 : Int32)), .val (.int dq), .val (.int (3 : Int32)), .val (.int (1 : Int32)), .val (.int (1 : Int32)), .val (.int (1 : Int32)), .unset, .unset, .unset, .unset] [(.int (0 : Int32))]
        refine w_istore ok at_196 (L' := #[.val (.long aa), .second, .val (.long bb), .second, .val (.long cc), .second, .val (.long dd), .second, .val (.int op), .val (.ref t), .val (.ref ar), .val (.int (3 : Int32)), .val (.int dq), .val (.int (3 : Int32)), .val (.int (1 : Int32)), .val (.int (1 : Int32)), .val (.int (1 : Int32)), .val (.int (0 : Int32)), .unset, .unset, .unset]) rfl ?_
        refine w_iload ok at_198 rfl ?_
        refine w_if_ne ok at_200 (pc' := 225) (by decide) (fun hc527 => ?_) (fun hc527 => False.elim (by revert hc527; decide))
        show W K l _ n0 _ h0 8 19 225 #[.val (.long aa), .second, .val (.long bb), .second, .val (.long cc), .second, .val (.long dd), .second, .val (.int op), .val (.ref t), .val (.ref ar), .val (.int (3 : Int32)), .val (.int dq), .val (.int (3 : Int32)), .val (.int (1 : Int32)), .val (.int (1 : Int32)), .val (.int (1 : Int32)), .val (.int (0 : Int32)), .unset, .unset, .unset] []
        refine w_iload ok at_225 rfl ?_
        refine w_if_lt ok at_227 (pc' := 236) (by decide) (fun hc529 => False.elim (by revert hc529; decide)) (fun hc529 => ?_)
        show W K l _ n0 _ h0 8 19 230 #[.val (.long aa), .second, .val (.long bb), .second, .val (.long cc), .second, .val (.long dd), .second, .val (.int op), .val (.ref t), .val (.ref ar), .val (.int (3 : Int32)), .val (.int dq), .val (.int (3 : Int32)), .val (.int (1 : Int32)), .val (.int (1 : Int32)), .val (.int (1 : Int32)), .val (.int (0 : Int32)), .unset, .unset, .unset] []
        refine w_iload ok at_230 rfl ?_
        refine w_iconst ok at_232 (v := (2 : Int32)) rfl ?_
        refine w_icmp_le ok at_233 (pc' := 238) (by decide) (fun hc531 => ?_) (fun hc531 => False.elim (by revert hc531; decide))
        show W K l _ n0 _ h0 8 19 238 #[.val (.long aa), .second, .val (.long bb), .second, .val (.long cc), .second, .val (.long dd), .second, .val (.int op), .val (.ref t), .val (.ref ar), .val (.int (3 : Int32)), .val (.int dq), .val (.int (3 : Int32)), .val (.int (1 : Int32)), .val (.int (1 : Int32)), .val (.int (1 : Int32)), .val (.int (0 : Int32)), .unset, .unset, .unset] []
        refine w_iload ok at_238 rfl ?_
        refine w_if_ne ok at_240 (pc' := 248) (by decide) (fun hc533 => False.elim (by revert hc533; decide)) (fun hc533 => ?_)
        show W K l _ n0 _ h0 8 19 243 #[.val (.long aa), .second, .val (.long bb), .second, .val (.long cc), .second, .val (.long dd), .second, .val (.int op), .val (.ref t), .val (.ref ar), .val (.int (3 : Int32)), .val (.int dq), .val (.int (3 : Int32)), .val (.int (1 : Int32)), .val (.int (1 : Int32)), .val (.int (1 : Int32)), .val (.int (0 : Int32)), .unset, .unset, .unset] []
        refine w_iload ok at_243 rfl ?_
        refine w_goto ok at_245 (pc' := 261) (by decide) ?_
        refine w_istore ok at_261 (L' := #[.val (.long aa), .second, .val (.long bb), .second, .val (.long cc), .second, .val (.long dd), .second, .val (.int op), .val (.ref t), .val (.ref ar), .val (.int (3 : Int32)), .val (.int dq), .val (.int (3 : Int32)), .val (.int (1 : Int32)), .val (.int (1 : Int32)), .val (.int (1 : Int32)), .val (.int (0 : Int32)), .val (.int (1 : Int32)), .unset, .unset]) rfl ?_
        refine w_iload ok at_263 rfl ?_
        refine w_if_ne ok at_265 (pc' := 270) (by decide) (fun hc535 => ?_) (fun hc535 => False.elim (by revert hc535; decide))
        show W K l _ n0 _ h0 8 19 270 #[.val (.long aa), .second, .val (.long bb), .second, .val (.long cc), .second, .val (.long dd), .second, .val (.int op), .val (.ref t), .val (.ref ar), .val (.int (3 : Int32)), .val (.int dq), .val (.int (3 : Int32)), .val (.int (1 : Int32)), .val (.int (1 : Int32)), .val (.int (1 : Int32)), .val (.int (0 : Int32)), .val (.int (1 : Int32)), .unset, .unset] []
        refine w_aload ok at_270 rfl rfl ?_
        refine w_iload ok at_272 rfl ?_
        refine w_laload ok (v := (.long (T 0))) at_274 A_ar (by decide) rfl ?_
        refine w_lstore ok at_275 (L' := #[.val (.long aa), .second, .val (.long bb), .second, .val (.long cc), .second, .val (.long dd), .second, .val (.int op), .val (.ref t), .val (.ref ar), .val (.int (3 : Int32)), .val (.int dq), .val (.int (3 : Int32)), .val (.int (1 : Int32)), .val (.int (1 : Int32)), .val (.int (1 : Int32)), .val (.int (0 : Int32)), .val (.int (1 : Int32)), .val (.long (T 0)), .second]) rfl ?_
        refine w_iload ok at_277 rfl ?_
        refine w_if_eq ok at_279 (pc' := 292) (by decide) (fun hc537 => False.elim (by revert hc537; decide)) (fun hc537 => ?_)
        show W K l _ n0 _ h0 8 19 282 #[.val (.long aa), .second, .val (.long bb), .second, .val (.long cc), .second, .val (.long dd), .second, .val (.int op), .val (.ref t), .val (.ref ar), .val (.int (3 : Int32)), .val (.int dq), .val (.int (3 : Int32)), .val (.int (1 : Int32)), .val (.int (1 : Int32)), .val (.int (1 : Int32)), .val (.int (0 : Int32)), .val (.int (1 : Int32)), .val (.long (T 0)), .second] []
        refine w_lload ok at_282 rfl ?_
        refine w_aload ok at_284 rfl rfl ?_
        refine w_iconst ok at_286 (v := (0 : Int32)) rfl ?_
        refine w_laload ok (v := (.long (T 0))) at_287 A_ar (by decide) rfl ?_
        refine w_lcmp_gt ok at_288 at_289 (pc' := 326) (by decide) (fun hc539 => False.elim (by exact own_least P H hs hy ey (j := 0) (by decide) ((hM 0 (by decide)).trans (if_pos (by decide))) ((hM 0 (by decide)).trans (if_pos (by decide))) hc539)) (fun hc539 => ?_)
        show W K l _ n0 _ h0 8 19 292 #[.val (.long aa), .second, .val (.long bb), .second, .val (.long cc), .second, .val (.long dd), .second, .val (.int op), .val (.ref t), .val (.ref ar), .val (.int (3 : Int32)), .val (.int dq), .val (.int (3 : Int32)), .val (.int (1 : Int32)), .val (.int (1 : Int32)), .val (.int (1 : Int32)), .val (.int (0 : Int32)), .val (.int (1 : Int32)), .val (.long (T 0)), .second] []
        refine w_iload ok at_292 rfl ?_
        refine w_if_eq ok at_294 (pc' := 307) (by decide) (fun hc541 => False.elim (by revert hc541; decide)) (fun hc541 => ?_)
        show W K l _ n0 _ h0 8 19 297 #[.val (.long aa), .second, .val (.long bb), .second, .val (.long cc), .second, .val (.long dd), .second, .val (.int op), .val (.ref t), .val (.ref ar), .val (.int (3 : Int32)), .val (.int dq), .val (.int (3 : Int32)), .val (.int (1 : Int32)), .val (.int (1 : Int32)), .val (.int (1 : Int32)), .val (.int (0 : Int32)), .val (.int (1 : Int32)), .val (.long (T 0)), .second] []
        refine w_lload ok at_297 rfl ?_
        refine w_aload ok at_299 rfl rfl ?_
        refine w_iconst ok at_301 (v := (1 : Int32)) rfl ?_
        refine w_laload ok (v := (.long (T 1))) at_302 A_ar (by decide) rfl ?_
        refine w_lcmp_gt ok at_303 at_304 (pc' := 326) (by decide) (fun hc543 => False.elim (by exact own_least P H hs hy ey (j := 1) (by decide) ((hM 0 (by decide)).trans (if_pos (by decide))) ((hM 1 (by decide)).trans (if_pos (by decide))) hc543)) (fun hc543 => ?_)
        show W K l _ n0 _ h0 8 19 307 #[.val (.long aa), .second, .val (.long bb), .second, .val (.long cc), .second, .val (.long dd), .second, .val (.int op), .val (.ref t), .val (.ref ar), .val (.int (3 : Int32)), .val (.int dq), .val (.int (3 : Int32)), .val (.int (1 : Int32)), .val (.int (1 : Int32)), .val (.int (1 : Int32)), .val (.int (0 : Int32)), .val (.int (1 : Int32)), .val (.long (T 0)), .second] []
        refine w_iload ok at_307 rfl ?_
        refine w_if_eq ok at_309 (pc' := 322) (by decide) (fun hc545 => False.elim (by revert hc545; decide)) (fun hc545 => ?_)
        show W K l _ n0 _ h0 8 19 312 #[.val (.long aa), .second, .val (.long bb), .second, .val (.long cc), .second, .val (.long dd), .second, .val (.int op), .val (.ref t), .val (.ref ar), .val (.int (3 : Int32)), .val (.int dq), .val (.int (3 : Int32)), .val (.int (1 : Int32)), .val (.int (1 : Int32)), .val (.int (1 : Int32)), .val (.int (0 : Int32)), .val (.int (1 : Int32)), .val (.long (T 0)), .second] []
        refine w_lload ok at_312 rfl ?_
        refine w_aload ok at_314 rfl rfl ?_
        refine w_iconst ok at_316 (v := (2 : Int32)) rfl ?_
        refine w_laload ok (v := (.long (T 2))) at_317 A_ar (by decide) rfl ?_
        refine w_lcmp_gt ok at_318 at_319 (pc' := 326) (by decide) (fun hc547 => False.elim (by exact own_least P H hs hy ey (j := 2) (by decide) ((hM 0 (by decide)).trans (if_pos (by decide))) ((hM 2 (by decide)).trans (if_pos (by decide))) hc547)) (fun hc547 => ?_)
        show W K l _ n0 _ h0 8 19 322 #[.val (.long aa), .second, .val (.long bb), .second, .val (.long cc), .second, .val (.long dd), .second, .val (.int op), .val (.ref t), .val (.ref ar), .val (.int (3 : Int32)), .val (.int dq), .val (.int (3 : Int32)), .val (.int (1 : Int32)), .val (.int (1 : Int32)), .val (.int (1 : Int32)), .val (.int (0 : Int32)), .val (.int (1 : Int32)), .val (.long (T 0)), .second] []
        refine w_iconst ok at_322 (v := (1 : Int32)) rfl ?_
        refine w_goto ok at_323 (pc' := 327) (by decide) ?_
        refine w_bret ok (by simp) at_327 (by decide) (by decide) ?_
        exact rfl
      · skip
        show W K l _ n0 _ h0 8 19 196 #[.val (.long aa), .second, .val (.long bb), .second, .val (.long cc), .second, .val (.long dd), .second, .val (.int op), .val (.ref t), .val (.ref ar), .val (.int (3 : Int32)), .val (.int dq), .val (.int (3 : Int32)), .val (.int (1 : Int32)), .val (.int (1 : Int32)), .val (.int (1 : Int32)), .unset, .unset, .unset, .unset] [(.int (1 : Int32))]
        refine w_istore ok at_196 (L' := #[.val (.long aa), .second, .val (.long bb), .second, .val (.long cc), .second, .val (.long dd), .second, .val (.int op), .val (.ref t), .val (.ref ar), .val (.int (3 : Int32)), .val (.int dq), .val (.int (3 : Int32)), .val (.int (1 : Int32)), .val (.int (1 : Int32)), .val (.int (1 : Int32)), .val (.int (1 : Int32)), .unset, .unset, .unset]) rfl ?_
        refine w_iload ok at_198 rfl ?_
        refine w_if_ne ok at_200 (pc' := 225) (by decide) (fun hc549 => ?_) (fun hc549 => False.elim (by revert hc549; decide))
        show W K l _ n0 _ h0 8 19 225 #[.val (.long aa), .second, .val (.long bb), .second, .val (.long cc), .second, .val (.long dd), .second, .val (.int op), .val (.ref t), .val (.ref ar), .val (.int (3 : Int32)), .val (.int dq), .val (.int (3 : Int32)), .val (.int (1 : Int32)), .val (.int (1 : Int32)), .val (.int (1 : Int32)), .val (.int (1 : Int32)), .unset, .unset, .unset] []
        refine w_iload ok at_225 rfl ?_
        refine w_if_lt ok at_227 (pc' := 236) (by decide) (fun hc551 => False.elim (by revert hc551; decide)) (fun hc551 => ?_)
        show W K l _ n0 _ h0 8 19 230 #[.val (.long aa), .second, .val (.long bb), .second, .val (.long cc), .second, .val (.long dd), .second, .val (.int op), .val (.ref t), .val (.ref ar), .val (.int (3 : Int32)), .val (.int dq), .val (.int (3 : Int32)), .val (.int (1 : Int32)), .val (.int (1 : Int32)), .val (.int (1 : Int32)), .val (.int (1 : Int32)), .unset, .unset, .unset] []
        refine w_iload ok at_230 rfl ?_
        refine w_iconst ok at_232 (v := (2 : Int32)) rfl ?_
        refine w_icmp_le ok at_233 (pc' := 238) (by decide) (fun hc553 => ?_) (fun hc553 => False.elim (by revert hc553; decide))
        show W K l _ n0 _ h0 8 19 238 #[.val (.long aa), .second, .val (.long bb), .second, .val (.long cc), .second, .val (.long dd), .second, .val (.int op), .val (.ref t), .val (.ref ar), .val (.int (3 : Int32)), .val (.int dq), .val (.int (3 : Int32)), .val (.int (1 : Int32)), .val (.int (1 : Int32)), .val (.int (1 : Int32)), .val (.int (1 : Int32)), .unset, .unset, .unset] []
        refine w_iload ok at_238 rfl ?_
        refine w_if_ne ok at_240 (pc' := 248) (by decide) (fun hc555 => ?_) (fun hc555 => False.elim (by revert hc555; decide))
        show W K l _ n0 _ h0 8 19 248 #[.val (.long aa), .second, .val (.long bb), .second, .val (.long cc), .second, .val (.long dd), .second, .val (.int op), .val (.ref t), .val (.ref ar), .val (.int (3 : Int32)), .val (.int dq), .val (.int (3 : Int32)), .val (.int (1 : Int32)), .val (.int (1 : Int32)), .val (.int (1 : Int32)), .val (.int (1 : Int32)), .unset, .unset, .unset] []
        refine w_iload ok at_248 rfl ?_
        refine w_iconst ok at_250 (v := (1 : Int32)) rfl ?_
        refine w_icmp_ne ok at_251 (pc' := 259) (by decide) (fun hc557 => False.elim (by revert hc557; decide)) (fun hc557 => ?_)
        show W K l _ n0 _ h0 8 19 254 #[.val (.long aa), .second, .val (.long bb), .second, .val (.long cc), .second, .val (.long dd), .second, .val (.int op), .val (.ref t), .val (.ref ar), .val (.int (3 : Int32)), .val (.int dq), .val (.int (3 : Int32)), .val (.int (1 : Int32)), .val (.int (1 : Int32)), .val (.int (1 : Int32)), .val (.int (1 : Int32)), .unset, .unset, .unset] []
        refine w_iload ok at_254 rfl ?_
        refine w_goto ok at_256 (pc' := 261) (by decide) ?_
        refine w_istore ok at_261 (L' := #[.val (.long aa), .second, .val (.long bb), .second, .val (.long cc), .second, .val (.long dd), .second, .val (.int op), .val (.ref t), .val (.ref ar), .val (.int (3 : Int32)), .val (.int dq), .val (.int (3 : Int32)), .val (.int (1 : Int32)), .val (.int (1 : Int32)), .val (.int (1 : Int32)), .val (.int (1 : Int32)), .val (.int (1 : Int32)), .unset, .unset]) rfl ?_
        refine w_iload ok at_263 rfl ?_
        refine w_if_ne ok at_265 (pc' := 270) (by decide) (fun hc559 => ?_) (fun hc559 => False.elim (by revert hc559; decide))
        show W K l _ n0 _ h0 8 19 270 #[.val (.long aa), .second, .val (.long bb), .second, .val (.long cc), .second, .val (.long dd), .second, .val (.int op), .val (.ref t), .val (.ref ar), .val (.int (3 : Int32)), .val (.int dq), .val (.int (3 : Int32)), .val (.int (1 : Int32)), .val (.int (1 : Int32)), .val (.int (1 : Int32)), .val (.int (1 : Int32)), .val (.int (1 : Int32)), .unset, .unset] []
        refine w_aload ok at_270 rfl rfl ?_
        refine w_iload ok at_272 rfl ?_
        refine w_laload ok (v := (.long (T 1))) at_274 A_ar (by decide) rfl ?_
        refine w_lstore ok at_275 (L' := #[.val (.long aa), .second, .val (.long bb), .second, .val (.long cc), .second, .val (.long dd), .second, .val (.int op), .val (.ref t), .val (.ref ar), .val (.int (3 : Int32)), .val (.int dq), .val (.int (3 : Int32)), .val (.int (1 : Int32)), .val (.int (1 : Int32)), .val (.int (1 : Int32)), .val (.int (1 : Int32)), .val (.int (1 : Int32)), .val (.long (T 1)), .second]) rfl ?_
        refine w_iload ok at_277 rfl ?_
        refine w_if_eq ok at_279 (pc' := 292) (by decide) (fun hc561 => False.elim (by revert hc561; decide)) (fun hc561 => ?_)
        show W K l _ n0 _ h0 8 19 282 #[.val (.long aa), .second, .val (.long bb), .second, .val (.long cc), .second, .val (.long dd), .second, .val (.int op), .val (.ref t), .val (.ref ar), .val (.int (3 : Int32)), .val (.int dq), .val (.int (3 : Int32)), .val (.int (1 : Int32)), .val (.int (1 : Int32)), .val (.int (1 : Int32)), .val (.int (1 : Int32)), .val (.int (1 : Int32)), .val (.long (T 1)), .second] []
        refine w_lload ok at_282 rfl ?_
        refine w_aload ok at_284 rfl rfl ?_
        refine w_iconst ok at_286 (v := (0 : Int32)) rfl ?_
        refine w_laload ok (v := (.long (T 0))) at_287 A_ar (by decide) rfl ?_
        refine w_lcmp_gt ok at_288 at_289 (pc' := 326) (by decide) (fun hc563 => False.elim (by exact own_least P H hs hy ey (j := 0) (by decide) ((hM 1 (by decide)).trans (if_pos (by decide))) ((hM 0 (by decide)).trans (if_pos (by decide))) hc563)) (fun hc563 => ?_)
        show W K l _ n0 _ h0 8 19 292 #[.val (.long aa), .second, .val (.long bb), .second, .val (.long cc), .second, .val (.long dd), .second, .val (.int op), .val (.ref t), .val (.ref ar), .val (.int (3 : Int32)), .val (.int dq), .val (.int (3 : Int32)), .val (.int (1 : Int32)), .val (.int (1 : Int32)), .val (.int (1 : Int32)), .val (.int (1 : Int32)), .val (.int (1 : Int32)), .val (.long (T 1)), .second] []
        refine w_iload ok at_292 rfl ?_
        refine w_if_eq ok at_294 (pc' := 307) (by decide) (fun hc565 => False.elim (by revert hc565; decide)) (fun hc565 => ?_)
        show W K l _ n0 _ h0 8 19 297 #[.val (.long aa), .second, .val (.long bb), .second, .val (.long cc), .second, .val (.long dd), .second, .val (.int op), .val (.ref t), .val (.ref ar), .val (.int (3 : Int32)), .val (.int dq), .val (.int (3 : Int32)), .val (.int (1 : Int32)), .val (.int (1 : Int32)), .val (.int (1 : Int32)), .val (.int (1 : Int32)), .val (.int (1 : Int32)), .val (.long (T 1)), .second] []
        refine w_lload ok at_297 rfl ?_
        refine w_aload ok at_299 rfl rfl ?_
        refine w_iconst ok at_301 (v := (1 : Int32)) rfl ?_
        refine w_laload ok (v := (.long (T 1))) at_302 A_ar (by decide) rfl ?_
        refine w_lcmp_gt ok at_303 at_304 (pc' := 326) (by decide) (fun hc567 => False.elim (by exact own_least P H hs hy ey (j := 1) (by decide) ((hM 1 (by decide)).trans (if_pos (by decide))) ((hM 1 (by decide)).trans (if_pos (by decide))) hc567)) (fun hc567 => ?_)
        show W K l _ n0 _ h0 8 19 307 #[.val (.long aa), .second, .val (.long bb), .second, .val (.long cc), .second, .val (.long dd), .second, .val (.int op), .val (.ref t), .val (.ref ar), .val (.int (3 : Int32)), .val (.int dq), .val (.int (3 : Int32)), .val (.int (1 : Int32)), .val (.int (1 : Int32)), .val (.int (1 : Int32)), .val (.int (1 : Int32)), .val (.int (1 : Int32)), .val (.long (T 1)), .second] []
        refine w_iload ok at_307 rfl ?_
        refine w_if_eq ok at_309 (pc' := 322) (by decide) (fun hc569 => False.elim (by revert hc569; decide)) (fun hc569 => ?_)
        show W K l _ n0 _ h0 8 19 312 #[.val (.long aa), .second, .val (.long bb), .second, .val (.long cc), .second, .val (.long dd), .second, .val (.int op), .val (.ref t), .val (.ref ar), .val (.int (3 : Int32)), .val (.int dq), .val (.int (3 : Int32)), .val (.int (1 : Int32)), .val (.int (1 : Int32)), .val (.int (1 : Int32)), .val (.int (1 : Int32)), .val (.int (1 : Int32)), .val (.long (T 1)), .second] []
        refine w_lload ok at_312 rfl ?_
        refine w_aload ok at_314 rfl rfl ?_
        refine w_iconst ok at_316 (v := (2 : Int32)) rfl ?_
        refine w_laload ok (v := (.long (T 2))) at_317 A_ar (by decide) rfl ?_
        refine w_lcmp_gt ok at_318 at_319 (pc' := 326) (by decide) (fun hc571 => False.elim (by exact own_least P H hs hy ey (j := 2) (by decide) ((hM 1 (by decide)).trans (if_pos (by decide))) ((hM 2 (by decide)).trans (if_pos (by decide))) hc571)) (fun hc571 => ?_)
        show W K l _ n0 _ h0 8 19 322 #[.val (.long aa), .second, .val (.long bb), .second, .val (.long cc), .second, .val (.long dd), .second, .val (.int op), .val (.ref t), .val (.ref ar), .val (.int (3 : Int32)), .val (.int dq), .val (.int (3 : Int32)), .val (.int (1 : Int32)), .val (.int (1 : Int32)), .val (.int (1 : Int32)), .val (.int (1 : Int32)), .val (.int (1 : Int32)), .val (.long (T 1)), .second] []
        refine w_iconst ok at_322 (v := (1 : Int32)) rfl ?_
        refine w_goto ok at_323 (pc' := 327) (by decide) ?_
        refine w_bret ok (by simp) at_327 (by decide) (by decide) ?_
        exact rfl
      · skip
        show W K l _ n0 _ h0 8 19 196 #[.val (.long aa), .second, .val (.long bb), .second, .val (.long cc), .second, .val (.long dd), .second, .val (.int op), .val (.ref t), .val (.ref ar), .val (.int (3 : Int32)), .val (.int dq), .val (.int (3 : Int32)), .val (.int (1 : Int32)), .val (.int (1 : Int32)), .val (.int (1 : Int32)), .unset, .unset, .unset, .unset] [(.int (2 : Int32))]
        refine w_istore ok at_196 (L' := #[.val (.long aa), .second, .val (.long bb), .second, .val (.long cc), .second, .val (.long dd), .second, .val (.int op), .val (.ref t), .val (.ref ar), .val (.int (3 : Int32)), .val (.int dq), .val (.int (3 : Int32)), .val (.int (1 : Int32)), .val (.int (1 : Int32)), .val (.int (1 : Int32)), .val (.int (2 : Int32)), .unset, .unset, .unset]) rfl ?_
        refine w_iload ok at_198 rfl ?_
        refine w_if_ne ok at_200 (pc' := 225) (by decide) (fun hc573 => ?_) (fun hc573 => False.elim (by revert hc573; decide))
        show W K l _ n0 _ h0 8 19 225 #[.val (.long aa), .second, .val (.long bb), .second, .val (.long cc), .second, .val (.long dd), .second, .val (.int op), .val (.ref t), .val (.ref ar), .val (.int (3 : Int32)), .val (.int dq), .val (.int (3 : Int32)), .val (.int (1 : Int32)), .val (.int (1 : Int32)), .val (.int (1 : Int32)), .val (.int (2 : Int32)), .unset, .unset, .unset] []
        refine w_iload ok at_225 rfl ?_
        refine w_if_lt ok at_227 (pc' := 236) (by decide) (fun hc575 => False.elim (by revert hc575; decide)) (fun hc575 => ?_)
        show W K l _ n0 _ h0 8 19 230 #[.val (.long aa), .second, .val (.long bb), .second, .val (.long cc), .second, .val (.long dd), .second, .val (.int op), .val (.ref t), .val (.ref ar), .val (.int (3 : Int32)), .val (.int dq), .val (.int (3 : Int32)), .val (.int (1 : Int32)), .val (.int (1 : Int32)), .val (.int (1 : Int32)), .val (.int (2 : Int32)), .unset, .unset, .unset] []
        refine w_iload ok at_230 rfl ?_
        refine w_iconst ok at_232 (v := (2 : Int32)) rfl ?_
        refine w_icmp_le ok at_233 (pc' := 238) (by decide) (fun hc577 => ?_) (fun hc577 => False.elim (by revert hc577; decide))
        show W K l _ n0 _ h0 8 19 238 #[.val (.long aa), .second, .val (.long bb), .second, .val (.long cc), .second, .val (.long dd), .second, .val (.int op), .val (.ref t), .val (.ref ar), .val (.int (3 : Int32)), .val (.int dq), .val (.int (3 : Int32)), .val (.int (1 : Int32)), .val (.int (1 : Int32)), .val (.int (1 : Int32)), .val (.int (2 : Int32)), .unset, .unset, .unset] []
        refine w_iload ok at_238 rfl ?_
        refine w_if_ne ok at_240 (pc' := 248) (by decide) (fun hc579 => ?_) (fun hc579 => False.elim (by revert hc579; decide))
        show W K l _ n0 _ h0 8 19 248 #[.val (.long aa), .second, .val (.long bb), .second, .val (.long cc), .second, .val (.long dd), .second, .val (.int op), .val (.ref t), .val (.ref ar), .val (.int (3 : Int32)), .val (.int dq), .val (.int (3 : Int32)), .val (.int (1 : Int32)), .val (.int (1 : Int32)), .val (.int (1 : Int32)), .val (.int (2 : Int32)), .unset, .unset, .unset] []
        refine w_iload ok at_248 rfl ?_
        refine w_iconst ok at_250 (v := (1 : Int32)) rfl ?_
        refine w_icmp_ne ok at_251 (pc' := 259) (by decide) (fun hc581 => ?_) (fun hc581 => False.elim (by revert hc581; decide))
        show W K l _ n0 _ h0 8 19 259 #[.val (.long aa), .second, .val (.long bb), .second, .val (.long cc), .second, .val (.long dd), .second, .val (.int op), .val (.ref t), .val (.ref ar), .val (.int (3 : Int32)), .val (.int dq), .val (.int (3 : Int32)), .val (.int (1 : Int32)), .val (.int (1 : Int32)), .val (.int (1 : Int32)), .val (.int (2 : Int32)), .unset, .unset, .unset] []
        refine w_iload ok at_259 rfl ?_
        refine w_istore ok at_261 (L' := #[.val (.long aa), .second, .val (.long bb), .second, .val (.long cc), .second, .val (.long dd), .second, .val (.int op), .val (.ref t), .val (.ref ar), .val (.int (3 : Int32)), .val (.int dq), .val (.int (3 : Int32)), .val (.int (1 : Int32)), .val (.int (1 : Int32)), .val (.int (1 : Int32)), .val (.int (2 : Int32)), .val (.int (1 : Int32)), .unset, .unset]) rfl ?_
        refine w_iload ok at_263 rfl ?_
        refine w_if_ne ok at_265 (pc' := 270) (by decide) (fun hc583 => ?_) (fun hc583 => False.elim (by revert hc583; decide))
        show W K l _ n0 _ h0 8 19 270 #[.val (.long aa), .second, .val (.long bb), .second, .val (.long cc), .second, .val (.long dd), .second, .val (.int op), .val (.ref t), .val (.ref ar), .val (.int (3 : Int32)), .val (.int dq), .val (.int (3 : Int32)), .val (.int (1 : Int32)), .val (.int (1 : Int32)), .val (.int (1 : Int32)), .val (.int (2 : Int32)), .val (.int (1 : Int32)), .unset, .unset] []
        refine w_aload ok at_270 rfl rfl ?_
        refine w_iload ok at_272 rfl ?_
        refine w_laload ok (v := (.long (T 2))) at_274 A_ar (by decide) rfl ?_
        refine w_lstore ok at_275 (L' := #[.val (.long aa), .second, .val (.long bb), .second, .val (.long cc), .second, .val (.long dd), .second, .val (.int op), .val (.ref t), .val (.ref ar), .val (.int (3 : Int32)), .val (.int dq), .val (.int (3 : Int32)), .val (.int (1 : Int32)), .val (.int (1 : Int32)), .val (.int (1 : Int32)), .val (.int (2 : Int32)), .val (.int (1 : Int32)), .val (.long (T 2)), .second]) rfl ?_
        refine w_iload ok at_277 rfl ?_
        refine w_if_eq ok at_279 (pc' := 292) (by decide) (fun hc585 => False.elim (by revert hc585; decide)) (fun hc585 => ?_)
        show W K l _ n0 _ h0 8 19 282 #[.val (.long aa), .second, .val (.long bb), .second, .val (.long cc), .second, .val (.long dd), .second, .val (.int op), .val (.ref t), .val (.ref ar), .val (.int (3 : Int32)), .val (.int dq), .val (.int (3 : Int32)), .val (.int (1 : Int32)), .val (.int (1 : Int32)), .val (.int (1 : Int32)), .val (.int (2 : Int32)), .val (.int (1 : Int32)), .val (.long (T 2)), .second] []
        refine w_lload ok at_282 rfl ?_
        refine w_aload ok at_284 rfl rfl ?_
        refine w_iconst ok at_286 (v := (0 : Int32)) rfl ?_
        refine w_laload ok (v := (.long (T 0))) at_287 A_ar (by decide) rfl ?_
        refine w_lcmp_gt ok at_288 at_289 (pc' := 326) (by decide) (fun hc587 => False.elim (by exact own_least P H hs hy ey (j := 0) (by decide) ((hM 2 (by decide)).trans (if_pos (by decide))) ((hM 0 (by decide)).trans (if_pos (by decide))) hc587)) (fun hc587 => ?_)
        show W K l _ n0 _ h0 8 19 292 #[.val (.long aa), .second, .val (.long bb), .second, .val (.long cc), .second, .val (.long dd), .second, .val (.int op), .val (.ref t), .val (.ref ar), .val (.int (3 : Int32)), .val (.int dq), .val (.int (3 : Int32)), .val (.int (1 : Int32)), .val (.int (1 : Int32)), .val (.int (1 : Int32)), .val (.int (2 : Int32)), .val (.int (1 : Int32)), .val (.long (T 2)), .second] []
        refine w_iload ok at_292 rfl ?_
        refine w_if_eq ok at_294 (pc' := 307) (by decide) (fun hc589 => False.elim (by revert hc589; decide)) (fun hc589 => ?_)
        show W K l _ n0 _ h0 8 19 297 #[.val (.long aa), .second, .val (.long bb), .second, .val (.long cc), .second, .val (.long dd), .second, .val (.int op), .val (.ref t), .val (.ref ar), .val (.int (3 : Int32)), .val (.int dq), .val (.int (3 : Int32)), .val (.int (1 : Int32)), .val (.int (1 : Int32)), .val (.int (1 : Int32)), .val (.int (2 : Int32)), .val (.int (1 : Int32)), .val (.long (T 2)), .second] []
        refine w_lload ok at_297 rfl ?_
        refine w_aload ok at_299 rfl rfl ?_
        refine w_iconst ok at_301 (v := (1 : Int32)) rfl ?_
        refine w_laload ok (v := (.long (T 1))) at_302 A_ar (by decide) rfl ?_
        refine w_lcmp_gt ok at_303 at_304 (pc' := 326) (by decide) (fun hc591 => False.elim (by exact own_least P H hs hy ey (j := 1) (by decide) ((hM 2 (by decide)).trans (if_pos (by decide))) ((hM 1 (by decide)).trans (if_pos (by decide))) hc591)) (fun hc591 => ?_)
        show W K l _ n0 _ h0 8 19 307 #[.val (.long aa), .second, .val (.long bb), .second, .val (.long cc), .second, .val (.long dd), .second, .val (.int op), .val (.ref t), .val (.ref ar), .val (.int (3 : Int32)), .val (.int dq), .val (.int (3 : Int32)), .val (.int (1 : Int32)), .val (.int (1 : Int32)), .val (.int (1 : Int32)), .val (.int (2 : Int32)), .val (.int (1 : Int32)), .val (.long (T 2)), .second] []
        refine w_iload ok at_307 rfl ?_
        refine w_if_eq ok at_309 (pc' := 322) (by decide) (fun hc593 => False.elim (by revert hc593; decide)) (fun hc593 => ?_)
        show W K l _ n0 _ h0 8 19 312 #[.val (.long aa), .second, .val (.long bb), .second, .val (.long cc), .second, .val (.long dd), .second, .val (.int op), .val (.ref t), .val (.ref ar), .val (.int (3 : Int32)), .val (.int dq), .val (.int (3 : Int32)), .val (.int (1 : Int32)), .val (.int (1 : Int32)), .val (.int (1 : Int32)), .val (.int (2 : Int32)), .val (.int (1 : Int32)), .val (.long (T 2)), .second] []
        refine w_lload ok at_312 rfl ?_
        refine w_aload ok at_314 rfl rfl ?_
        refine w_iconst ok at_316 (v := (2 : Int32)) rfl ?_
        refine w_laload ok (v := (.long (T 2))) at_317 A_ar (by decide) rfl ?_
        refine w_lcmp_gt ok at_318 at_319 (pc' := 326) (by decide) (fun hc595 => False.elim (by exact own_least P H hs hy ey (j := 2) (by decide) ((hM 2 (by decide)).trans (if_pos (by decide))) ((hM 2 (by decide)).trans (if_pos (by decide))) hc595)) (fun hc595 => ?_)
        show W K l _ n0 _ h0 8 19 322 #[.val (.long aa), .second, .val (.long bb), .second, .val (.long cc), .second, .val (.long dd), .second, .val (.int op), .val (.ref t), .val (.ref ar), .val (.int (3 : Int32)), .val (.int dq), .val (.int (3 : Int32)), .val (.int (1 : Int32)), .val (.int (1 : Int32)), .val (.int (1 : Int32)), .val (.int (2 : Int32)), .val (.int (1 : Int32)), .val (.long (T 2)), .second] []
        refine w_iconst ok at_322 (v := (1 : Int32)) rfl ?_
        refine w_goto ok at_323 (pc' := 327) (by decide) ?_
        refine w_bret ok (by simp) at_327 (by decide) (by decide) ?_
        exact rfl
      · exact absurd (my.symm.trans ((hM 3 (by decide)).trans (if_neg (by decide)))) (fun q => by cases q)
set_option maxRecDepth 65536 in
set_option maxHeartbeats 40000000 in
theorem c120 (l : Launch) (Z : State) (a0 : Array Value) (hw : ∀ d ∈ tables_1, d.before a0 Z = true) (n0 : Nat) (h0 : Heap) (K : Cx) (ok : Ok K Z n0 x.cls code maxLocals ret x.name) (t en ti sl : Addr) (sz : Nat) (e g : Nat → Int32) (τ : Nat → Int64) (A_t : Ob Z h0 t "com/example/rowan/rowan/store/IdleHeap" fl_IdleHeap [.ref en, .ref ti, .ref sl, .int (Int32.ofNat sz)]) (A_en : PA .int Z h0 en (sv 4 e)) (A_ti : PA .long Z h0 ti (lv 4 τ)) (A_sl : PA .int Z h0 sl (sv 4 g)) (ge_t : n0 ≤ t) (ge_en : n0 ≤ en) (ge_ti : n0 ≤ ti) (ge_sl : n0 ≤ sl) (ne_t_en : t ≠ en) (ne_t_ti : t ≠ ti) (ne_t_sl : t ≠ sl) (ne_en_ti : en ≠ ti) (ne_en_sl : en ≠ sl) (ne_ti_sl : ti ≠ sl) (ar : Addr) (T : Nat → Int64) (A_ar : PA .long Z h0 ar [.long (T 0), .long (T 1), .long (T 2)]) (ge_ar : n0 ≤ ar) (ne_t_ar : t ≠ ar) (ne_en_ar : en ≠ ar) (ne_ti_ar : ti ≠ ar) (ne_sl_ar : sl ≠ ar) (M : Nat → Option Int64) (P : PP sz e τ g M) (H : HO sz τ) (aa bb cc dd : Int64) (op dq : Int32) (k : Nat) (hk : k < 4) (sd : Slot) (hM : ∀ y, y < 4 → M y = if y < k then some (T y) else none) :
    W K l room_1 n0 (fun u h => u = some (.int 1)) h0 8 19 120 #[.val (.long aa), .second, .val (.long bb), .second, .val (.long cc), .second, .val (.long dd), .second, .val (.int op), .val (.ref t), .val (.ref ar), .val (.int (Int32.ofNat k)), .val (.int dq), .unset, .unset, .unset, .unset, .unset, .unset, .unset, .unset] [] := by
  show W K l _ n0 _ h0 8 19 120 #[.val (.long aa), .second, .val (.long bb), .second, .val (.long cc), .second, .val (.long dd), .second, .val (.int op), .val (.ref t), .val (.ref ar), .val (.int (Int32.ofNat k)), .val (.int dq), .unset, .unset, .unset, .unset, .unset, .unset, .unset, .unset] []
  refine w_iload ok at_120 rfl ?_
  refine w_iconst ok at_122 (v := (4 : Int32)) rfl ?_
  refine w_iushr ok at_123 ?_
  refine w_iconst ok at_124 (v := (3 : Int32)) rfl ?_
  refine w_iand ok at_125 ?_
  refine w_istore ok at_126 (L' := #[.val (.long aa), .second, .val (.long bb), .second, .val (.long cc), .second, .val (.long dd), .second, .val (.int op), .val (.ref t), .val (.ref ar), .val (.int (Int32.ofNat k)), .val (.int dq), .val (.int ((Jvm.Free.XT.ushr op (4 : Int32)) &&& (3 : Int32))), .unset, .unset, .unset, .unset, .unset, .unset, .unset]) rfl ?_
  show W K l _ n0 _ h0 8 19 128 #[.val (.long aa), .second, .val (.long bb), .second, .val (.long cc), .second, .val (.long dd), .second, .val (.int op), .val (.ref t), .val (.ref ar), .val (.int (Int32.ofNat k)), .val (.int dq), .val (.int ((Jvm.Free.XT.ushr op (4 : Int32)) &&& (3 : Int32))), .unset, .unset, .unset, .unset, .unset, .unset, .unset] []
  obtain ⟨r, hr, er⟩ := own_and3 ((Jvm.Free.XT.ushr op (4 : Int32)))
  rw [er]
  show W K l _ n0 _ h0 8 19 128 #[.val (.long aa), .second, .val (.long bb), .second, .val (.long cc), .second, .val (.long dd), .second, .val (.int op), .val (.ref t), .val (.ref ar), .val (.int (Int32.ofNat k)), .val (.int dq), .val (.int (Int32.ofNat r)), .unset, .unset, .unset, .unset, .unset, .unset, .unset] []
  refine w_aload ok at_128 rfl rfl ?_
  refine w_iload ok at_130 rfl ?_
  refine w_callV ok (y := (⟨"com/example/rowan/rowan/store/IdleHeap", "remove", "(I)V"⟩ : MethodName)) (a := t) (argsL := [(.int (Int32.ofNat r))]) (rest := []) at_132 (hw _ (List.mem_of_getElem? (i := 74) rfl)) (hw _ (List.mem_of_getElem? (i := 75) rfl)) (hw _ (List.mem_of_getElem? (i := 77) rfl)) (hw _ (List.mem_of_getElem? (i := 76) rfl)) (hw _ (List.mem_of_getElem? (i := 2) rfl)) (hw _ (List.mem_of_getElem? (i := 78) rfl)) (by decide) A_t.1 pd_28I29V rfl rfl (by decide) (Nat.le_of_ble_eq_true rfl) (by decide) (by decide) (fun z0 => rm_remove l Z a0 hw [] n0 h0 z0 t en ti sl sz e g τ A_t A_en A_ti A_sl ge_t ge_en ge_ti ge_sl ne_t_en ne_t_ti ne_t_sl ne_en_ti ne_en_sl ne_ti_sl M P H r hr) (fun v1 h2 qv1 => ?_)
  obtain ⟨rfl, sz', e', g', τ', K1, A0, A1, A2, A3, P1, H1⟩ := qv1
  replace A_ar := A_ar.keep K1 (ninS (Ne.symm ne_t_ar) (ninS (Ne.symm ne_en_ar) (ninS (Ne.symm ne_ti_ar) (ninS (Ne.symm ne_sl_ar) nin0))))
  exact c135 l Z a0 hw n0 _ K ok t en ti sl sz' e' g' τ' A0 A1 A2 A3 ge_t ge_en ge_ti ge_sl ne_t_en ne_t_ti ne_t_sl ne_en_ti ne_en_sl ne_ti_sl ar T A_ar ge_ar ne_t_ar ne_en_ar ne_ti_ar ne_sl_ar _ P1 H1 aa bb cc dd op dq k hk r hr (own_mR hM)
theorem pd_28JJ29J : parseMethodDescriptor "(JJ)J" = some ⟨[.long, .long], some .long⟩ := by decide +kernel
theorem pd_28IJ29V : parseMethodDescriptor "(IJ)V" = some ⟨[.int, .long], none⟩ := by decide +kernel
set_option maxRecDepth 65536 in
set_option maxHeartbeats 40000000 in
theorem c78 (l : Launch) (Z : State) (a0 : Array Value) (hw : ∀ d ∈ tables_1, d.before a0 Z = true) (n0 : Nat) (h0 : Heap) (K : Cx) (ok : Ok K Z n0 x.cls code maxLocals ret x.name) (t en ti sl : Addr) (sz : Nat) (e g : Nat → Int32) (τ : Nat → Int64) (A_t : Ob Z h0 t "com/example/rowan/rowan/store/IdleHeap" fl_IdleHeap [.ref en, .ref ti, .ref sl, .int (Int32.ofNat sz)]) (A_en : PA .int Z h0 en (sv 4 e)) (A_ti : PA .long Z h0 ti (lv 4 τ)) (A_sl : PA .int Z h0 sl (sv 4 g)) (ge_t : n0 ≤ t) (ge_en : n0 ≤ en) (ge_ti : n0 ≤ ti) (ge_sl : n0 ≤ sl) (ne_t_en : t ≠ en) (ne_t_ti : t ≠ ti) (ne_t_sl : t ≠ sl) (ne_en_ti : en ≠ ti) (ne_en_sl : en ≠ sl) (ne_ti_sl : ti ≠ sl) (ar : Addr) (T : Nat → Int64) (A_ar : PA .long Z h0 ar [.long (T 0), .long (T 1), .long (T 2)]) (ge_ar : n0 ≤ ar) (ne_t_ar : t ≠ ar) (ne_en_ar : en ≠ ar) (ne_ti_ar : ti ≠ ar) (ne_sl_ar : sl ≠ ar) (M : Nat → Option Int64) (P : PP sz e τ g M) (H : HO sz τ) (aa bb cc dd : Int64) (op : Int32) (k : Nat) (hk : k < 4) (hM : ∀ y, y < 4 → M y = if y < k then some (T y) else none) :
    W K l room_1 n0 (fun u h => u = some (.int 1)) h0 8 19 78 #[.val (.long aa), .second, .val (.long bb), .second, .val (.long cc), .second, .val (.long dd), .second, .val (.int op), .val (.ref t), .val (.ref ar), .val (.int (Int32.ofNat k)), .unset, .unset, .unset, .unset, .unset, .unset, .unset, .unset, .unset] [] := by
  show W K l _ n0 _ h0 8 19 78 #[.val (.long aa), .second, .val (.long bb), .second, .val (.long cc), .second, .val (.long dd), .second, .val (.int op), .val (.ref t), .val (.ref ar), .val (.int (Int32.ofNat k)), .unset, .unset, .unset, .unset, .unset, .unset, .unset, .unset, .unset] []
  refine w_iload ok at_78 rfl ?_
  refine w_iconst ok at_80 (v := (2 : Int32)) rfl ?_
  refine w_iushr ok at_81 ?_
  refine w_iconst ok at_82 (v := (3 : Int32)) rfl ?_
  refine w_iand ok at_83 ?_
  refine w_istore ok at_84 (L' := #[.val (.long aa), .second, .val (.long bb), .second, .val (.long cc), .second, .val (.long dd), .second, .val (.int op), .val (.ref t), .val (.ref ar), .val (.int (Int32.ofNat k)), .val (.int ((Jvm.Free.XT.ushr op (2 : Int32)) &&& (3 : Int32))), .unset, .unset, .unset, .unset, .unset, .unset, .unset, .unset]) rfl ?_
  show W K l _ n0 _ h0 8 19 86 #[.val (.long aa), .second, .val (.long bb), .second, .val (.long cc), .second, .val (.long dd), .second, .val (.int op), .val (.ref t), .val (.ref ar), .val (.int (Int32.ofNat k)), .val (.int ((Jvm.Free.XT.ushr op (2 : Int32)) &&& (3 : Int32))), .unset, .unset, .unset, .unset, .unset, .unset, .unset, .unset] []
  obtain ⟨q, hq, eq⟩ := own_and3 ((Jvm.Free.XT.ushr op (2 : Int32)))
  rw [eq]
  show W K l _ n0 _ h0 8 19 86 #[.val (.long aa), .second, .val (.long bb), .second, .val (.long cc), .second, .val (.long dd), .second, .val (.int op), .val (.ref t), .val (.ref ar), .val (.int (Int32.ofNat k)), .val (.int (Int32.ofNat q)), .unset, .unset, .unset, .unset, .unset, .unset, .unset, .unset] []
  refine w_iload ok at_86 rfl ?_
  refine w_iload ok at_88 rfl ?_
  refine w_icmp_ge ok at_90 (pc' := 120) (by decide) (fun hc1 => ?_) (fun hc1 => ?_)
  · show W K l _ n0 _ h0 8 19 120 #[.val (.long aa), .second, .val (.long bb), .second, .val (.long cc), .second, .val (.long dd), .second, .val (.int op), .val (.ref t), .val (.ref ar), .val (.int (Int32.ofNat k)), .val (.int (Int32.ofNat q)), .unset, .unset, .unset, .unset, .unset, .unset, .unset, .unset] []
    exact c120 l Z a0 hw n0 _ K ok t en ti sl sz e g τ A_t A_en A_ti A_sl ge_t ge_en ge_ti ge_sl ne_t_en ne_t_ti ne_t_sl ne_en_ti ne_en_sl ne_ti_sl ar T A_ar ge_ar ne_t_ar ne_en_ar ne_ti_ar ne_sl_ar M P H aa bb cc dd op _ k hk .unset hM
  · show W K l _ n0 _ h0 8 19 93 #[.val (.long aa), .second, .val (.long bb), .second, .val (.long cc), .second, .val (.long dd), .second, .val (.int op), .val (.ref t), .val (.ref ar), .val (.int (Int32.ofNat k)), .val (.int (Int32.ofNat q)), .unset, .unset, .unset, .unset, .unset, .unset, .unset, .unset] []
    have hqk := (own_lt4 hq hk).mp hc1
    obtain rfl | rfl | rfl : q = 0 ∨ q = 1 ∨ q = 2 := by omega
    · skip
      show W K l _ n0 _ h0 8 19 93 #[.val (.long aa), .second, .val (.long bb), .second, .val (.long cc), .second, .val (.long dd), .second, .val (.int op), .val (.ref t), .val (.ref ar), .val (.int (Int32.ofNat k)), .val (.int (0 : Int32)), .unset, .unset, .unset, .unset, .unset, .unset, .unset, .unset] []
      refine w_aload ok at_93 rfl rfl ?_
      refine w_iload ok at_95 rfl ?_
      refine w_aload ok at_97 rfl rfl ?_
      refine w_iload ok at_99 rfl ?_
      refine w_laload ok (v := (.long (T 0))) at_101 A_ar (by decide) rfl ?_
      refine w_lload ok at_102 rfl ?_
      refine w_callS ok (y := (⟨"java/lang/Math", "max", "(JJ)J"⟩ : MethodName)) (argsL := [(.long (T 0)), (.long dd)]) (rest := [(.int (0 : Int32)), (.ref ar)]) at_104 (hw _ (List.mem_of_getElem? (i := 58) rfl)) (hw _ (List.mem_of_getElem? (i := 59) rfl)) (hw _ (List.mem_of_getElem? (i := 28) rfl)) (hw _ (List.mem_of_getElem? (i := 60) rfl)) (by decide) pd_28JJ29J rfl rfl (by decide) (Nat.le_of_ble_eq_true rfl) (by decide) (by decide) (fun z0 => rm_max l Z a0 hw [] n0 h0 z0 (T 0) dd) (fun v2 h3 qv2 => ?_)
      obtain ⟨rfl, rfl⟩ := qv2
      show W K l _ n0 _ h0 8 19 107 #[.val (.long aa), .second, .val (.long bb), .second, .val (.long cc), .second, .val (.long dd), .second, .val (.int op), .val (.ref t), .val (.ref ar), .val (.int (Int32.ofNat k)), .val (.int (0 : Int32)), .unset, .unset, .unset, .unset, .unset, .unset, .unset, .unset] [(.long (own_max (T 0) dd)), (.int (0 : Int32)), (.ref ar)]
      refine w_lastore ok at_107 A_ar ge_ar (by decide) (Nat.le_of_ble_eq_true rfl) (fun h4 W_h4 A1_h4 => ?_)
      replace A_t := A_t.other W_h4 ne_t_ar
      replace A_en := A_en.other W_h4 ne_en_ar
      replace A_ti := A_ti.other W_h4 ne_ti_ar
      replace A_sl := A_sl.other W_h4 ne_sl_ar
      replace A_ar : PA .long Z h4 ar [(.long (own_max (T 0) dd)), (.long (T 1)), (.long (T 2))] := A1_h4
      refine w_aload ok at_108 rfl rfl ?_
      refine w_iload ok at_110 rfl ?_
      refine w_aload ok at_112 rfl rfl ?_
      refine w_iload ok at_114 rfl ?_
      refine w_laload ok (v := (.long (own_max (T 0) dd))) at_116 A_ar (by decide) rfl ?_
      refine w_callV ok (y := (⟨"com/example/rowan/rowan/store/IdleHeap", "delay", "(IJ)V"⟩ : MethodName)) (a := t) (argsL := [(.int (0 : Int32)), (.long (own_max (T 0) dd))]) (rest := []) at_117 (hw _ (List.mem_of_getElem? (i := 61) rfl)) (hw _ (List.mem_of_getElem? (i := 62) rfl)) (hw _ (List.mem_of_getElem? (i := 64) rfl)) (hw _ (List.mem_of_getElem? (i := 63) rfl)) (hw _ (List.mem_of_getElem? (i := 2) rfl)) (hw _ (List.mem_of_getElem? (i := 65) rfl)) (by decide) A_t.1 pd_28IJ29V rfl rfl (by decide) (Nat.le_of_ble_eq_true rfl) (by decide) (by decide) (fun z0 => rm_delay l Z a0 hw [] n0 h4 z0 t en ti sl sz e g τ A_t A_en A_ti A_sl ge_t ge_en ge_ti ge_sl ne_t_en ne_t_ti ne_t_sl ne_en_ti ne_en_sl ne_ti_sl M P H 0 (own_max (T 0) dd) (T 0) (by decide) ((hM 0 (by decide)).trans (if_pos hqk)) (own_max_le _ _)) (fun v5 h6 qv5 => ?_)
      obtain ⟨rfl, e1, g1, τ1, K1, A0, A1, A2, A3, P1, H1⟩ := qv5
      replace A_ar := A_ar.keep K1 (ninS (Ne.symm ne_t_ar) (ninS (Ne.symm ne_en_ar) (ninS (Ne.symm ne_ti_ar) (ninS (Ne.symm ne_sl_ar) nin0))))
      replace A_t := A0
      replace A_en := A1
      replace A_ti := A2
      replace A_sl := A3
      show W K l _ n0 _ h6 8 19 120 #[.val (.long aa), .second, .val (.long bb), .second, .val (.long cc), .second, .val (.long dd), .second, .val (.int op), .val (.ref t), .val (.ref ar), .val (.int (Int32.ofNat k)), .val (.int (0 : Int32)), .unset, .unset, .unset, .unset, .unset, .unset, .unset, .unset] []
      exact c120 l Z a0 hw n0 _ K ok t en ti sl sz e1 g1 τ1 A_t A_en A_ti A_sl ge_t ge_en ge_ti ge_sl ne_t_en ne_t_ti ne_t_sl ne_en_ti ne_en_sl ne_ti_sl ar (updL T 0 (own_max (T 0) dd)) A_ar ge_ar ne_t_ar ne_en_ar ne_ti_ar ne_sl_ar _ P1 H1 aa bb cc dd op _ k hk .unset (own_mD hM hqk)
    · skip
      show W K l _ n0 _ h0 8 19 93 #[.val (.long aa), .second, .val (.long bb), .second, .val (.long cc), .second, .val (.long dd), .second, .val (.int op), .val (.ref t), .val (.ref ar), .val (.int (Int32.ofNat k)), .val (.int (1 : Int32)), .unset, .unset, .unset, .unset, .unset, .unset, .unset, .unset] []
      refine w_aload ok at_93 rfl rfl ?_
      refine w_iload ok at_95 rfl ?_
      refine w_aload ok at_97 rfl rfl ?_
      refine w_iload ok at_99 rfl ?_
      refine w_laload ok (v := (.long (T 1))) at_101 A_ar (by decide) rfl ?_
      refine w_lload ok at_102 rfl ?_
      refine w_callS ok (y := (⟨"java/lang/Math", "max", "(JJ)J"⟩ : MethodName)) (argsL := [(.long (T 1)), (.long dd)]) (rest := [(.int (1 : Int32)), (.ref ar)]) at_104 (hw _ (List.mem_of_getElem? (i := 58) rfl)) (hw _ (List.mem_of_getElem? (i := 59) rfl)) (hw _ (List.mem_of_getElem? (i := 28) rfl)) (hw _ (List.mem_of_getElem? (i := 60) rfl)) (by decide) pd_28JJ29J rfl rfl (by decide) (Nat.le_of_ble_eq_true rfl) (by decide) (by decide) (fun z0 => rm_max l Z a0 hw [] n0 h0 z0 (T 1) dd) (fun v7 h8 qv7 => ?_)
      obtain ⟨rfl, rfl⟩ := qv7
      show W K l _ n0 _ h0 8 19 107 #[.val (.long aa), .second, .val (.long bb), .second, .val (.long cc), .second, .val (.long dd), .second, .val (.int op), .val (.ref t), .val (.ref ar), .val (.int (Int32.ofNat k)), .val (.int (1 : Int32)), .unset, .unset, .unset, .unset, .unset, .unset, .unset, .unset] [(.long (own_max (T 1) dd)), (.int (1 : Int32)), (.ref ar)]
      refine w_lastore ok at_107 A_ar ge_ar (by decide) (Nat.le_of_ble_eq_true rfl) (fun h9 W_h9 A1_h9 => ?_)
      replace A_t := A_t.other W_h9 ne_t_ar
      replace A_en := A_en.other W_h9 ne_en_ar
      replace A_ti := A_ti.other W_h9 ne_ti_ar
      replace A_sl := A_sl.other W_h9 ne_sl_ar
      replace A_ar : PA .long Z h9 ar [(.long (T 0)), (.long (own_max (T 1) dd)), (.long (T 2))] := A1_h9
      refine w_aload ok at_108 rfl rfl ?_
      refine w_iload ok at_110 rfl ?_
      refine w_aload ok at_112 rfl rfl ?_
      refine w_iload ok at_114 rfl ?_
      refine w_laload ok (v := (.long (own_max (T 1) dd))) at_116 A_ar (by decide) rfl ?_
      refine w_callV ok (y := (⟨"com/example/rowan/rowan/store/IdleHeap", "delay", "(IJ)V"⟩ : MethodName)) (a := t) (argsL := [(.int (1 : Int32)), (.long (own_max (T 1) dd))]) (rest := []) at_117 (hw _ (List.mem_of_getElem? (i := 61) rfl)) (hw _ (List.mem_of_getElem? (i := 62) rfl)) (hw _ (List.mem_of_getElem? (i := 64) rfl)) (hw _ (List.mem_of_getElem? (i := 63) rfl)) (hw _ (List.mem_of_getElem? (i := 2) rfl)) (hw _ (List.mem_of_getElem? (i := 65) rfl)) (by decide) A_t.1 pd_28IJ29V rfl rfl (by decide) (Nat.le_of_ble_eq_true rfl) (by decide) (by decide) (fun z0 => rm_delay l Z a0 hw [] n0 h9 z0 t en ti sl sz e g τ A_t A_en A_ti A_sl ge_t ge_en ge_ti ge_sl ne_t_en ne_t_ti ne_t_sl ne_en_ti ne_en_sl ne_ti_sl M P H 1 (own_max (T 1) dd) (T 1) (by decide) ((hM 1 (by decide)).trans (if_pos hqk)) (own_max_le _ _)) (fun v10 h11 qv10 => ?_)
      obtain ⟨rfl, e1, g1, τ1, K1, A0, A1, A2, A3, P1, H1⟩ := qv10
      replace A_ar := A_ar.keep K1 (ninS (Ne.symm ne_t_ar) (ninS (Ne.symm ne_en_ar) (ninS (Ne.symm ne_ti_ar) (ninS (Ne.symm ne_sl_ar) nin0))))
      replace A_t := A0
      replace A_en := A1
      replace A_ti := A2
      replace A_sl := A3
      show W K l _ n0 _ h11 8 19 120 #[.val (.long aa), .second, .val (.long bb), .second, .val (.long cc), .second, .val (.long dd), .second, .val (.int op), .val (.ref t), .val (.ref ar), .val (.int (Int32.ofNat k)), .val (.int (1 : Int32)), .unset, .unset, .unset, .unset, .unset, .unset, .unset, .unset] []
      exact c120 l Z a0 hw n0 _ K ok t en ti sl sz e1 g1 τ1 A_t A_en A_ti A_sl ge_t ge_en ge_ti ge_sl ne_t_en ne_t_ti ne_t_sl ne_en_ti ne_en_sl ne_ti_sl ar (updL T 1 (own_max (T 1) dd)) A_ar ge_ar ne_t_ar ne_en_ar ne_ti_ar ne_sl_ar _ P1 H1 aa bb cc dd op _ k hk .unset (own_mD hM hqk)
    · skip
      show W K l _ n0 _ h0 8 19 93 #[.val (.long aa), .second, .val (.long bb), .second, .val (.long cc), .second, .val (.long dd), .second, .val (.int op), .val (.ref t), .val (.ref ar), .val (.int (Int32.ofNat k)), .val (.int (2 : Int32)), .unset, .unset, .unset, .unset, .unset, .unset, .unset, .unset] []
      refine w_aload ok at_93 rfl rfl ?_
      refine w_iload ok at_95 rfl ?_
      refine w_aload ok at_97 rfl rfl ?_
      refine w_iload ok at_99 rfl ?_
      refine w_laload ok (v := (.long (T 2))) at_101 A_ar (by decide) rfl ?_
      refine w_lload ok at_102 rfl ?_
      refine w_callS ok (y := (⟨"java/lang/Math", "max", "(JJ)J"⟩ : MethodName)) (argsL := [(.long (T 2)), (.long dd)]) (rest := [(.int (2 : Int32)), (.ref ar)]) at_104 (hw _ (List.mem_of_getElem? (i := 58) rfl)) (hw _ (List.mem_of_getElem? (i := 59) rfl)) (hw _ (List.mem_of_getElem? (i := 28) rfl)) (hw _ (List.mem_of_getElem? (i := 60) rfl)) (by decide) pd_28JJ29J rfl rfl (by decide) (Nat.le_of_ble_eq_true rfl) (by decide) (by decide) (fun z0 => rm_max l Z a0 hw [] n0 h0 z0 (T 2) dd) (fun v12 h13 qv12 => ?_)
      obtain ⟨rfl, rfl⟩ := qv12
      show W K l _ n0 _ h0 8 19 107 #[.val (.long aa), .second, .val (.long bb), .second, .val (.long cc), .second, .val (.long dd), .second, .val (.int op), .val (.ref t), .val (.ref ar), .val (.int (Int32.ofNat k)), .val (.int (2 : Int32)), .unset, .unset, .unset, .unset, .unset, .unset, .unset, .unset] [(.long (own_max (T 2) dd)), (.int (2 : Int32)), (.ref ar)]
      refine w_lastore ok at_107 A_ar ge_ar (by decide) (Nat.le_of_ble_eq_true rfl) (fun h14 W_h14 A1_h14 => ?_)
      replace A_t := A_t.other W_h14 ne_t_ar
      replace A_en := A_en.other W_h14 ne_en_ar
      replace A_ti := A_ti.other W_h14 ne_ti_ar
      replace A_sl := A_sl.other W_h14 ne_sl_ar
      replace A_ar : PA .long Z h14 ar [(.long (T 0)), (.long (T 1)), (.long (own_max (T 2) dd))] := A1_h14
      refine w_aload ok at_108 rfl rfl ?_
      refine w_iload ok at_110 rfl ?_
      refine w_aload ok at_112 rfl rfl ?_
      refine w_iload ok at_114 rfl ?_
      refine w_laload ok (v := (.long (own_max (T 2) dd))) at_116 A_ar (by decide) rfl ?_
      refine w_callV ok (y := (⟨"com/example/rowan/rowan/store/IdleHeap", "delay", "(IJ)V"⟩ : MethodName)) (a := t) (argsL := [(.int (2 : Int32)), (.long (own_max (T 2) dd))]) (rest := []) at_117 (hw _ (List.mem_of_getElem? (i := 61) rfl)) (hw _ (List.mem_of_getElem? (i := 62) rfl)) (hw _ (List.mem_of_getElem? (i := 64) rfl)) (hw _ (List.mem_of_getElem? (i := 63) rfl)) (hw _ (List.mem_of_getElem? (i := 2) rfl)) (hw _ (List.mem_of_getElem? (i := 65) rfl)) (by decide) A_t.1 pd_28IJ29V rfl rfl (by decide) (Nat.le_of_ble_eq_true rfl) (by decide) (by decide) (fun z0 => rm_delay l Z a0 hw [] n0 h14 z0 t en ti sl sz e g τ A_t A_en A_ti A_sl ge_t ge_en ge_ti ge_sl ne_t_en ne_t_ti ne_t_sl ne_en_ti ne_en_sl ne_ti_sl M P H 2 (own_max (T 2) dd) (T 2) (by decide) ((hM 2 (by decide)).trans (if_pos hqk)) (own_max_le _ _)) (fun v15 h16 qv15 => ?_)
      obtain ⟨rfl, e1, g1, τ1, K1, A0, A1, A2, A3, P1, H1⟩ := qv15
      replace A_ar := A_ar.keep K1 (ninS (Ne.symm ne_t_ar) (ninS (Ne.symm ne_en_ar) (ninS (Ne.symm ne_ti_ar) (ninS (Ne.symm ne_sl_ar) nin0))))
      replace A_t := A0
      replace A_en := A1
      replace A_ti := A2
      replace A_sl := A3
      show W K l _ n0 _ h16 8 19 120 #[.val (.long aa), .second, .val (.long bb), .second, .val (.long cc), .second, .val (.long dd), .second, .val (.int op), .val (.ref t), .val (.ref ar), .val (.int (Int32.ofNat k)), .val (.int (2 : Int32)), .unset, .unset, .unset, .unset, .unset, .unset, .unset, .unset] []
      exact c120 l Z a0 hw n0 _ K ok t en ti sl sz e1 g1 τ1 A_t A_en A_ti A_sl ge_t ge_en ge_ti ge_sl ne_t_en ne_t_ti ne_t_sl ne_en_ti ne_en_sl ne_ti_sl ar (updL T 2 (own_max (T 2) dd)) A_ar ge_ar ne_t_ar ne_en_ar ne_ti_ar ne_sl_ar _ P1 H1 aa bb cc dd op _ k hk .unset (own_mD hM hqk)
theorem pd_2829V : parseMethodDescriptor "()V" = some ⟨[], none⟩ := by decide +kernel
set_option maxRecDepth 65536 in
set_option maxHeartbeats 40000000 in
theorem rm0 (l : Launch) (Z : State) (a0 : Array Value) (hw : ∀ d ∈ tables_1, d.before a0 Z = true) (ws : List Jvm.Cond) (n0 : Nat) (h0 : Heap) (Z0 : Old Z n0 h0) (aa bb cc dd : Int64) (op : Int32)  :
    Met l Z n0 x code maxLocals ret ws room_1 #[(.long aa), (.long bb), (.long cc), (.long dd), (.int op)] h0 (fun u h => u = some (.int 1)) := by
  refine met_of Z0 (plainFor_of_name pn_com_example_rowan_rowan_store_IdleHeapFirstPinLaw) (Ls := #[.val (.long aa), .second, .val (.long bb), .second, .val (.long cc), .second, .val (.long dd), .second, .val (.int op), .unset, .unset, .unset, .unset, .unset, .unset, .unset, .unset, .unset, .unset, .unset, .unset]) (fun m => by first | (simp [entryFrame, mkF, argsToLocals, Value.category, maxLocals]; done) | rfl) ?_
  intro K ok
  show W K l _ n0 _ h0 0 0 0 #[.val (.long aa), .second, .val (.long bb), .second, .val (.long cc), .second, .val (.long dd), .second, .val (.int op), .unset, .unset, .unset, .unset, .unset, .unset, .unset, .unset, .unset, .unset, .unset, .unset] []
  refine w_new ok at_0 (hw _ (List.mem_of_getElem? (i := 0) rfl)) (hw _ (List.mem_of_getElem? (i := 1) rfl)) (hw _ (List.mem_of_getElem? (i := 2) rfl)) (la_IdleHeap hw) (by decide) (by decide) (fun h2 b1 ea_b1 ge_b1 E_b1 A_b1 => ?_)
  replace A_b1 : Ob Z h2 b1 "com/example/rowan/rowan/store/IdleHeap" fl_IdleHeap [.null, .null, .null, (.int (0 : Int32))] := A_b1
  refine w_dup ok at_3 rfl ?_
  refine w_callI ok (y := (⟨"com/example/rowan/rowan/store/IdleHeap", "<init>", "()V"⟩ : MethodName)) (a := b1) (argsL := []) (rest := [(.ref b1)]) at_4 rfl (hw _ (List.mem_of_getElem? (i := 3) rfl)) (hw _ (List.mem_of_getElem? (i := 4) rfl)) (hw _ (List.mem_of_getElem? (i := 2) rfl)) (hw _ (List.mem_of_getElem? (i := 5) rfl)) (by decide) pd_2829V rfl rfl (by decide) (Nat.le_of_ble_eq_true rfl) (by decide) (by decide) (fun z0 => rm_ctor l Z a0 hw [] n0 h2 z0 b1 A_b1 ge_b1) (fun v3 h4 qv3 => ?_)
  obtain ⟨rfl, een, eti, esl, ⟨sz_een, sz_eti, sz_esl⟩, ⟨ge_een, ge_eti, ge_esl⟩, ⟨ne_0, ne_1, ne_2, ne_3, ne_4, ne_5⟩, K1, A1, A_een, A_eti, A_esl⟩ := qv3
  have ne_b1_een : b1 ≠ een := Nat.ne_of_lt (Nat.lt_of_lt_of_le A_b1.lt sz_een)
  have ne_b1_eti : b1 ≠ eti := Nat.ne_of_lt (Nat.lt_of_lt_of_le A_b1.lt sz_eti)
  have ne_b1_esl : b1 ≠ esl := Nat.ne_of_lt (Nat.lt_of_lt_of_le A_b1.lt sz_esl)
  replace A_b1 := A1
  show W K l _ n0 _ h4 4 4 7 #[.val (.long aa), .second, .val (.long bb), .second, .val (.long cc), .second, .val (.long dd), .second, .val (.int op), .unset, .unset, .unset, .unset, .unset, .unset, .unset, .unset, .unset, .unset, .unset, .unset] [(.ref b1)]
  refine w_astore ok at_7 rfl (L' := #[.val (.long aa), .second, .val (.long bb), .second, .val (.long cc), .second, .val (.long dd), .second, .val (.int op), .val (.ref b1), .unset, .unset, .unset, .unset, .unset, .unset, .unset, .unset, .unset, .unset, .unset]) rfl ?_
  refine w_aload ok at_9 rfl rfl ?_
  refine w_iconst ok at_11 (v := (4 : Int32)) rfl ?_
  refine w_callV ok (y := (⟨"com/example/rowan/rowan/store/IdleHeap", "resize", "(I)V"⟩ : MethodName)) (a := b1) (argsL := [(.int (4 : Int32))]) (rest := []) at_12 (hw _ (List.mem_of_getElem? (i := 17) rfl)) (hw _ (List.mem_of_getElem? (i := 18) rfl)) (hw _ (List.mem_of_getElem? (i := 20) rfl)) (hw _ (List.mem_of_getElem? (i := 19) rfl)) (hw _ (List.mem_of_getElem? (i := 2) rfl)) (hw _ (List.mem_of_getElem? (i := 21) rfl)) (by decide) A_b1.1 pd_28I29V rfl rfl (by decide) (Nat.le_of_ble_eq_true rfl) (by decide) (by decide) (fun z0 => rm_resize l Z a0 hw [] n0 h4 z0 b1 een eti esl A_b1 A_een A_eti A_esl ge_b1 ne_0 ne_1 ne_2 ne_3 ne_4 ne_5) (fun v5 h6 qv5 => ?_)
  obtain ⟨rfl, fen, fti, fsl, ⟨sz_fen, sz_fti, sz_fsl⟩, ⟨ge_fen, ge_fti, ge_fsl⟩, ⟨nf_0, nf_1, nf_2, nf_3, nf_4, nf_5⟩, K1, A1, A_fen, A_fti, A_fsl⟩ := qv5
  have ne_b1_fen : b1 ≠ fen := Nat.ne_of_lt (Nat.lt_of_lt_of_le A_b1.lt sz_fen)
  have ne_een_fen : een ≠ fen := Nat.ne_of_lt (Nat.lt_of_lt_of_le A_een.lt sz_fen)
  have ne_eti_fen : eti ≠ fen := Nat.ne_of_lt (Nat.lt_of_lt_of_le A_eti.lt sz_fen)
  have ne_esl_fen : esl ≠ fen := Nat.ne_of_lt (Nat.lt_of_lt_of_le A_esl.lt sz_fen)
  have ne_b1_fti : b1 ≠ fti := Nat.ne_of_lt (Nat.lt_of_lt_of_le A_b1.lt sz_fti)
  have ne_een_fti : een ≠ fti := Nat.ne_of_lt (Nat.lt_of_lt_of_le A_een.lt sz_fti)
  have ne_eti_fti : eti ≠ fti := Nat.ne_of_lt (Nat.lt_of_lt_of_le A_eti.lt sz_fti)
  have ne_esl_fti : esl ≠ fti := Nat.ne_of_lt (Nat.lt_of_lt_of_le A_esl.lt sz_fti)
  have ne_b1_fsl : b1 ≠ fsl := Nat.ne_of_lt (Nat.lt_of_lt_of_le A_b1.lt sz_fsl)
  have ne_een_fsl : een ≠ fsl := Nat.ne_of_lt (Nat.lt_of_lt_of_le A_een.lt sz_fsl)
  have ne_eti_fsl : eti ≠ fsl := Nat.ne_of_lt (Nat.lt_of_lt_of_le A_eti.lt sz_fsl)
  have ne_esl_fsl : esl ≠ fsl := Nat.ne_of_lt (Nat.lt_of_lt_of_le A_esl.lt sz_fsl)
  replace A_een := A_een.keep K1 (ninS (Ne.symm ne_0) nin0)
  replace A_eti := A_eti.keep K1 (ninS (Ne.symm ne_1) nin0)
  replace A_esl := A_esl.keep K1 (ninS (Ne.symm ne_2) nin0)
  replace A_b1 := A1
  show W K l _ n0 _ h6 7 16 15 #[.val (.long aa), .second, .val (.long bb), .second, .val (.long cc), .second, .val (.long dd), .second, .val (.int op), .val (.ref b1), .unset, .unset, .unset, .unset, .unset, .unset, .unset, .unset, .unset, .unset, .unset] []
  refine w_iconst ok at_15 (v := (3 : Int32)) rfl ?_
  refine w_newarray ok at_16 (hw _ (List.mem_of_getElem? (i := 12) rfl)) (by decide) (cap := 3) (by decide) (by decide) (by decide) (by decide) (fun h8 b7 ea_b7 ge_b7 E_b7 A_b7 => ?_)
  have ne_b1_b7 : b1 ≠ b7 := fun q => Nat.lt_irrefl _ (Nat.lt_of_lt_of_eq A_b1.lt (ea_b7.symm.trans q.symm))
  have ne_fen_b7 : fen ≠ b7 := fun q => Nat.lt_irrefl _ (Nat.lt_of_lt_of_eq A_fen.lt (ea_b7.symm.trans q.symm))
  have ne_fti_b7 : fti ≠ b7 := fun q => Nat.lt_irrefl _ (Nat.lt_of_lt_of_eq A_fti.lt (ea_b7.symm.trans q.symm))
  have ne_fsl_b7 : fsl ≠ b7 := fun q => Nat.lt_irrefl _ (Nat.lt_of_lt_of_eq A_fsl.lt (ea_b7.symm.trans q.symm))
  replace A_b1 := A_b1.ext E_b7
  replace A_fen := A_fen.ext E_b7
  replace A_fti := A_fti.ext E_b7
  replace A_fsl := A_fsl.ext E_b7
  replace A_b7 : PA .long Z h8 b7 [(.long (0 : Int64)), (.long (0 : Int64)), (.long (0 : Int64))] := A_b7
  refine w_dup ok at_18 rfl ?_
  refine w_iconst ok at_19 (v := (0 : Int32)) rfl ?_
  refine w_lloadN ok at_20 rfl ?_
  refine w_lastore ok at_21 A_b7 ge_b7 (by decide) (Nat.le_of_ble_eq_true rfl) (fun h9 W_h9 A1_h9 => ?_)
  replace A_b1 := A_b1.other W_h9 ne_b1_b7
  replace A_fen := A_fen.other W_h9 ne_fen_b7
  replace A_fti := A_fti.other W_h9 ne_fti_b7
  replace A_fsl := A_fsl.other W_h9 ne_fsl_b7
  replace A_b7 : PA .long Z h9 b7 [(.long aa), (.long (0 : Int64)), (.long (0 : Int64))] := A1_h9
  refine w_dup ok at_22 rfl ?_
  refine w_iconst ok at_23 (v := (1 : Int32)) rfl ?_
  refine w_lloadN ok at_24 rfl ?_
  refine w_lastore ok at_25 A_b7 ge_b7 (by decide) (Nat.le_of_ble_eq_true rfl) (fun h10 W_h10 A1_h10 => ?_)
  replace A_b1 := A_b1.other W_h10 ne_b1_b7
  replace A_fen := A_fen.other W_h10 ne_fen_b7
  replace A_fti := A_fti.other W_h10 ne_fti_b7
  replace A_fsl := A_fsl.other W_h10 ne_fsl_b7
  replace A_b7 : PA .long Z h10 b7 [(.long aa), (.long bb), (.long (0 : Int64))] := A1_h10
  refine w_dup ok at_26 rfl ?_
  refine w_iconst ok at_27 (v := (2 : Int32)) rfl ?_
  refine w_lload ok at_28 rfl ?_
  refine w_lastore ok at_30 A_b7 ge_b7 (by decide) (Nat.le_of_ble_eq_true rfl) (fun h11 W_h11 A1_h11 => ?_)
  replace A_b1 := A_b1.other W_h11 ne_b1_b7
  replace A_fen := A_fen.other W_h11 ne_fen_b7
  replace A_fti := A_fti.other W_h11 ne_fti_b7
  replace A_fsl := A_fsl.other W_h11 ne_fsl_b7
  replace A_b7 : PA .long Z h11 b7 [(.long aa), (.long bb), (.long cc)] := A1_h11
  refine w_astore ok at_31 rfl (L' := #[.val (.long aa), .second, .val (.long bb), .second, .val (.long cc), .second, .val (.long dd), .second, .val (.int op), .val (.ref b1), .val (.ref b7), .unset, .unset, .unset, .unset, .unset, .unset, .unset, .unset, .unset, .unset]) rfl ?_
  refine w_iload ok at_33 rfl ?_
  refine w_iconst ok at_35 (v := (3 : Int32)) rfl ?_
  refine w_iand ok at_36 ?_
  refine w_istore ok at_37 (L' := #[.val (.long aa), .second, .val (.long bb), .second, .val (.long cc), .second, .val (.long dd), .second, .val (.int op), .val (.ref b1), .val (.ref b7), .val (.int (op &&& (3 : Int32))), .unset, .unset, .unset, .unset, .unset, .unset, .unset, .unset, .unset]) rfl ?_
  show W K l _ n0 _ h11 8 19 39 #[.val (.long aa), .second, .val (.long bb), .second, .val (.long cc), .second, .val (.long dd), .second, .val (.int op), .val (.ref b1), .val (.ref b7), .val (.int (op &&& (3 : Int32))), .unset, .unset, .unset, .unset, .unset, .unset, .unset, .unset, .unset] []
  obtain ⟨k, hk, ek⟩ := own_and3 op
  rw [ek]
  obtain rfl | rfl | rfl | rfl : k = 0 ∨ k = 1 ∨ k = 2 ∨ k = 3 := by omega
  · skip
    show W K l _ n0 _ h11 8 19 39 #[.val (.long aa), .second, .val (.long bb), .second, .val (.long cc), .second, .val (.long dd), .second, .val (.int op), .val (.ref b1), .val (.ref b7), .val (.int (0 : Int32)), .unset, .unset, .unset, .unset, .unset, .unset, .unset, .unset, .unset] []
    refine w_iload ok at_39 rfl ?_
    refine w_if_le ok at_41 (pc' := 51) (by decide) (fun hc13 => ?_) (fun hc13 => False.elim (by revert hc13; decide))
    show W K l _ n0 _ h11 8 19 51 #[.val (.long aa), .second, .val (.long bb), .second, .val (.long cc), .second, .val (.long dd), .second, .val (.int op), .val (.ref b1), .val (.ref b7), .val (.int (0 : Int32)), .unset, .unset, .unset, .unset, .unset, .unset, .unset, .unset, .unset] []
    refine w_iload ok at_51 rfl ?_
    refine w_iconst ok at_53 (v := (1 : Int32)) rfl ?_
    refine w_icmp_le ok at_54 (pc' := 64) (by decide) (fun hc15 => ?_) (fun hc15 => False.elim (by revert hc15; decide))
    show W K l _ n0 _ h11 8 19 64 #[.val (.long aa), .second, .val (.long bb), .second, .val (.long cc), .second, .val (.long dd), .second, .val (.int op), .val (.ref b1), .val (.ref b7), .val (.int (0 : Int32)), .unset, .unset, .unset, .unset, .unset, .unset, .unset, .unset, .unset] []
    refine w_iload ok at_64 rfl ?_
    refine w_iconst ok at_66 (v := (2 : Int32)) rfl ?_
    refine w_icmp_le ok at_67 (pc' := 78) (by decide) (fun hc17 => ?_) (fun hc17 => False.elim (by revert hc17; decide))
    show W K l _ n0 _ h11 8 19 78 #[.val (.long aa), .second, .val (.long bb), .second, .val (.long cc), .second, .val (.long dd), .second, .val (.int op), .val (.ref b1), .val (.ref b7), .val (.int (0 : Int32)), .unset, .unset, .unset, .unset, .unset, .unset, .unset, .unset, .unset] []
    exact c78 l Z a0 hw n0 _ K ok b1 fen fti fsl 0 (fun _ => 0) (fun _ => -1) (fun _ => 0) A_b1 A_fen A_fti A_fsl ge_b1 ge_fen ge_fti ge_fsl nf_0 nf_1 nf_2 nf_3 nf_4 nf_5 b7 (T3 aa bb cc) A_b7 ge_b7 ne_b1_b7 ne_fen_b7 ne_fti_b7 ne_fsl_b7 (fun _ => none) own_pp0 own_ho0 aa bb cc dd op 0 (by decide) (fun y hy => by rcases own_y4 hy with rfl | rfl | rfl | rfl <;> rfl)
  · skip
    show W K l _ n0 _ h11 8 19 39 #[.val (.long aa), .second, .val (.long bb), .second, .val (.long cc), .second, .val (.long dd), .second, .val (.int op), .val (.ref b1), .val (.ref b7), .val (.int (1 : Int32)), .unset, .unset, .unset, .unset, .unset, .unset, .unset, .unset, .unset] []
    refine w_iload ok at_39 rfl ?_
    refine w_if_le ok at_41 (pc' := 51) (by decide) (fun hc19 => False.elim (by revert hc19; decide)) (fun hc19 => ?_)
    show W K l _ n0 _ h11 8 19 44 #[.val (.long aa), .second, .val (.long bb), .second, .val (.long cc), .second, .val (.long dd), .second, .val (.int op), .val (.ref b1), .val (.ref b7), .val (.int (1 : Int32)), .unset, .unset, .unset, .unset, .unset, .unset, .unset, .unset, .unset] []
    refine w_aload ok at_44 rfl rfl ?_
    refine w_iconst ok at_46 (v := (0 : Int32)) rfl ?_
    refine w_lloadN ok at_47 rfl ?_
    refine w_callV ok (y := (⟨"com/example/rowan/rowan/store/IdleHeap", "add", "(IJ)V"⟩ : MethodName)) (a := b1) (argsL := [(.int (0 : Int32)), (.long aa)]) (rest := []) at_48 (hw _ (List.mem_of_getElem? (i := 43) rfl)) (hw _ (List.mem_of_getElem? (i := 44) rfl)) (hw _ (List.mem_of_getElem? (i := 46) rfl)) (hw _ (List.mem_of_getElem? (i := 45) rfl)) (hw _ (List.mem_of_getElem? (i := 2) rfl)) (hw _ (List.mem_of_getElem? (i := 47) rfl)) (by decide) A_b1.1 pd_28IJ29V rfl rfl (by decide) (Nat.le_of_ble_eq_true rfl) (by decide) (by decide) (fun z0 => rm_add l Z a0 hw [] n0 h11 z0 b1 fen fti fsl 0 (fun _ => 0) (fun _ => -1) (fun _ => 0) A_b1 A_fen A_fti A_fsl ge_b1 ge_fen ge_fti ge_fsl nf_0 nf_1 nf_2 nf_3 nf_4 nf_5 (fun _ => none) own_pp0 own_ho0 0 aa (by decide) rfl (by decide)) (fun v20 h21 qv20 => ?_)
    obtain ⟨rfl, e1, g1, τ1, K1, A0, A1, A2, A3, P1, H1⟩ := qv20
    replace A_b7 := A_b7.keep K1 (ninS (Ne.symm ne_b1_b7) (ninS (Ne.symm ne_fen_b7) (ninS (Ne.symm ne_fti_b7) (ninS (Ne.symm ne_fsl_b7) nin0))))
    replace A_b1 : Ob Z h21 b1 "com/example/rowan/rowan/store/IdleHeap" fl_IdleHeap [(.ref fen), (.ref fti), (.ref fsl), (.int (1 : Int32))] := A0
    replace A_fen := A1
    replace A_fti := A2
    replace A_fsl := A3
    show W K l _ n0 _ h21 8 19 51 #[.val (.long aa), .second, .val (.long bb), .second, .val (.long cc), .second, .val (.long dd), .second, .val (.int op), .val (.ref b1), .val (.ref b7), .val (.int (1 : Int32)), .unset, .unset, .unset, .unset, .unset, .unset, .unset, .unset, .unset] []
    refine w_iload ok at_51 rfl ?_
    refine w_iconst ok at_53 (v := (1 : Int32)) rfl ?_
    refine w_icmp_le ok at_54 (pc' := 64) (by decide) (fun hc23 => ?_) (fun hc23 => False.elim (by revert hc23; decide))
    show W K l _ n0 _ h21 8 19 64 #[.val (.long aa), .second, .val (.long bb), .second, .val (.long cc), .second, .val (.long dd), .second, .val (.int op), .val (.ref b1), .val (.ref b7), .val (.int (1 : Int32)), .unset, .unset, .unset, .unset, .unset, .unset, .unset, .unset, .unset] []
    refine w_iload ok at_64 rfl ?_
    refine w_iconst ok at_66 (v := (2 : Int32)) rfl ?_
    refine w_icmp_le ok at_67 (pc' := 78) (by decide) (fun hc25 => ?_) (fun hc25 => False.elim (by revert hc25; decide))
    show W K l _ n0 _ h21 8 19 78 #[.val (.long aa), .second, .val (.long bb), .second, .val (.long cc), .second, .val (.long dd), .second, .val (.int op), .val (.ref b1), .val (.ref b7), .val (.int (1 : Int32)), .unset, .unset, .unset, .unset, .unset, .unset, .unset, .unset, .unset] []
    exact c78 l Z a0 hw n0 _ K ok b1 fen fti fsl 1 e1 g1 τ1 A_b1 A_fen A_fti A_fsl ge_b1 ge_fen ge_fti ge_fsl nf_0 nf_1 nf_2 nf_3 nf_4 nf_5 b7 (T3 aa bb cc) A_b7 ge_b7 ne_b1_b7 ne_fen_b7 ne_fti_b7 ne_fsl_b7 (put (fun _ => none) 0 (some aa)) P1 H1 aa bb cc dd op 1 (by decide) (fun y hy => by rcases own_y4 hy with rfl | rfl | rfl | rfl <;> rfl)
  · skip
    show W K l _ n0 _ h11 8 19 39 #[.val (.long aa), .second, .val (.long bb), .second, .val (.long cc), .second, .val (.long dd), .second, .val (.int op), .val (.ref b1), .val (.ref b7), .val (.int (2 : Int32)), .unset, .unset, .unset, .unset, .unset, .unset, .unset, .unset, .unset] []
    refine w_iload ok at_39 rfl ?_
    refine w_if_le ok at_41 (pc' := 51) (by decide) (fun hc27 => False.elim (by revert hc27; decide)) (fun hc27 => ?_)
    show W K l _ n0 _ h11 8 19 44 #[.val (.long aa), .second, .val (.long bb), .second, .val (.long cc), .second, .val (.long dd), .second, .val (.int op), .val (.ref b1), .val (.ref b7), .val (.int (2 : Int32)), .unset, .unset, .unset, .unset, .unset, .unset, .unset, .unset, .unset] []
    refine w_aload ok at_44 rfl rfl ?_
    refine w_iconst ok at_46 (v := (0 : Int32)) rfl ?_
    refine w_lloadN ok at_47 rfl ?_
    refine w_callV ok (y := (⟨"com/example/rowan/rowan/store/IdleHeap", "add", "(IJ)V"⟩ : MethodName)) (a := b1) (argsL := [(.int (0 : Int32)), (.long aa)]) (rest := []) at_48 (hw _ (List.mem_of_getElem? (i := 43) rfl)) (hw _ (List.mem_of_getElem? (i := 44) rfl)) (hw _ (List.mem_of_getElem? (i := 46) rfl)) (hw _ (List.mem_of_getElem? (i := 45) rfl)) (hw _ (List.mem_of_getElem? (i := 2) rfl)) (hw _ (List.mem_of_getElem? (i := 47) rfl)) (by decide) A_b1.1 pd_28IJ29V rfl rfl (by decide) (Nat.le_of_ble_eq_true rfl) (by decide) (by decide) (fun z0 => rm_add l Z a0 hw [] n0 h11 z0 b1 fen fti fsl 0 (fun _ => 0) (fun _ => -1) (fun _ => 0) A_b1 A_fen A_fti A_fsl ge_b1 ge_fen ge_fti ge_fsl nf_0 nf_1 nf_2 nf_3 nf_4 nf_5 (fun _ => none) own_pp0 own_ho0 0 aa (by decide) rfl (by decide)) (fun v28 h29 qv28 => ?_)
    obtain ⟨rfl, e1, g1, τ1, K1, A0, A1, A2, A3, P1, H1⟩ := qv28
    replace A_b7 := A_b7.keep K1 (ninS (Ne.symm ne_b1_b7) (ninS (Ne.symm ne_fen_b7) (ninS (Ne.symm ne_fti_b7) (ninS (Ne.symm ne_fsl_b7) nin0))))
    replace A_b1 : Ob Z h29 b1 "com/example/rowan/rowan/store/IdleHeap" fl_IdleHeap [(.ref fen), (.ref fti), (.ref fsl), (.int (1 : Int32))] := A0
    replace A_fen := A1
    replace A_fti := A2
    replace A_fsl := A3
    show W K l _ n0 _ h29 8 19 51 #[.val (.long aa), .second, .val (.long bb), .second, .val (.long cc), .second, .val (.long dd), .second, .val (.int op), .val (.ref b1), .val (.ref b7), .val (.int (2 : Int32)), .unset, .unset, .unset, .unset, .unset, .unset, .unset, .unset, .unset] []
    refine w_iload ok at_51 rfl ?_
    refine w_iconst ok at_53 (v := (1 : Int32)) rfl ?_
    refine w_icmp_le ok at_54 (pc' := 64) (by decide) (fun hc31 => False.elim (by revert hc31; decide)) (fun hc31 => ?_)
    show W K l _ n0 _ h29 8 19 57 #[.val (.long aa), .second, .val (.long bb), .second, .val (.long cc), .second, .val (.long dd), .second, .val (.int op), .val (.ref b1), .val (.ref b7), .val (.int (2 : Int32)), .unset, .unset, .unset, .unset, .unset, .unset, .unset, .unset, .unset] []
    refine w_aload ok at_57 rfl rfl ?_
    refine w_iconst ok at_59 (v := (1 : Int32)) rfl ?_
    refine w_lloadN ok at_60 rfl ?_
    refine w_callV ok (y := (⟨"com/example/rowan/rowan/store/IdleHeap", "add", "(IJ)V"⟩ : MethodName)) (a := b1) (argsL := [(.int (1 : Int32)), (.long bb)]) (rest := []) at_61 (hw _ (List.mem_of_getElem? (i := 43) rfl)) (hw _ (List.mem_of_getElem? (i := 44) rfl)) (hw _ (List.mem_of_getElem? (i := 46) rfl)) (hw _ (List.mem_of_getElem? (i := 45) rfl)) (hw _ (List.mem_of_getElem? (i := 2) rfl)) (hw _ (List.mem_of_getElem? (i := 47) rfl)) (by decide) A_b1.1 pd_28IJ29V rfl rfl (by decide) (Nat.le_of_ble_eq_true rfl) (by decide) (by decide) (fun z0 => rm_add l Z a0 hw [] n0 h29 z0 b1 fen fti fsl 1 e1 g1 τ1 A_b1 A_fen A_fti A_fsl ge_b1 ge_fen ge_fti ge_fsl nf_0 nf_1 nf_2 nf_3 nf_4 nf_5 (put (fun _ => none) 0 (some aa)) P1 H1 1 bb (by decide) rfl (by decide)) (fun v32 h33 qv32 => ?_)
    obtain ⟨rfl, e2, g2, τ2, K1, A0, A1, A2, A3, P2, H2⟩ := qv32
    replace A_b7 := A_b7.keep K1 (ninS (Ne.symm ne_b1_b7) (ninS (Ne.symm ne_fen_b7) (ninS (Ne.symm ne_fti_b7) (ninS (Ne.symm ne_fsl_b7) nin0))))
    replace A_b1 : Ob Z h33 b1 "com/example/rowan/rowan/store/IdleHeap" fl_IdleHeap [(.ref fen), (.ref fti), (.ref fsl), (.int (2 : Int32))] := A0
    replace A_fen := A1
    replace A_fti := A2
    replace A_fsl := A3
    show W K l _ n0 _ h33 8 19 64 #[.val (.long aa), .second, .val (.long bb), .second, .val (.long cc), .second, .val (.long dd), .second, .val (.int op), .val (.ref b1), .val (.ref b7), .val (.int (2 : Int32)), .unset, .unset, .unset, .unset, .unset, .unset, .unset, .unset, .unset] []
    refine w_iload ok at_64 rfl ?_
    refine w_iconst ok at_66 (v := (2 : Int32)) rfl ?_
    refine w_icmp_le ok at_67 (pc' := 78) (by decide) (fun hc35 => ?_) (fun hc35 => False.elim (by revert hc35; decide))
    show W K l _ n0 _ h33 8 19 78 #[.val (.long aa), .second, .val (.long bb), .second, .val (.long cc), .second, .val (.long dd), .second, .val (.int op), .val (.ref b1), .val (.ref b7), .val (.int (2 : Int32)), .unset, .unset, .unset, .unset, .unset, .unset, .unset, .unset, .unset] []
    exact c78 l Z a0 hw n0 _ K ok b1 fen fti fsl 2 e2 g2 τ2 A_b1 A_fen A_fti A_fsl ge_b1 ge_fen ge_fti ge_fsl nf_0 nf_1 nf_2 nf_3 nf_4 nf_5 b7 (T3 aa bb cc) A_b7 ge_b7 ne_b1_b7 ne_fen_b7 ne_fti_b7 ne_fsl_b7 (put (put (fun _ => none) 0 (some aa)) 1 (some bb)) P2 H2 aa bb cc dd op 2 (by decide) (fun y hy => by rcases own_y4 hy with rfl | rfl | rfl | rfl <;> rfl)
  · skip
    show W K l _ n0 _ h11 8 19 39 #[.val (.long aa), .second, .val (.long bb), .second, .val (.long cc), .second, .val (.long dd), .second, .val (.int op), .val (.ref b1), .val (.ref b7), .val (.int (3 : Int32)), .unset, .unset, .unset, .unset, .unset, .unset, .unset, .unset, .unset] []
    refine w_iload ok at_39 rfl ?_
    refine w_if_le ok at_41 (pc' := 51) (by decide) (fun hc37 => False.elim (by revert hc37; decide)) (fun hc37 => ?_)
    show W K l _ n0 _ h11 8 19 44 #[.val (.long aa), .second, .val (.long bb), .second, .val (.long cc), .second, .val (.long dd), .second, .val (.int op), .val (.ref b1), .val (.ref b7), .val (.int (3 : Int32)), .unset, .unset, .unset, .unset, .unset, .unset, .unset, .unset, .unset] []
    refine w_aload ok at_44 rfl rfl ?_
    refine w_iconst ok at_46 (v := (0 : Int32)) rfl ?_
    refine w_lloadN ok at_47 rfl ?_
    refine w_callV ok (y := (⟨"com/example/rowan/rowan/store/IdleHeap", "add", "(IJ)V"⟩ : MethodName)) (a := b1) (argsL := [(.int (0 : Int32)), (.long aa)]) (rest := []) at_48 (hw _ (List.mem_of_getElem? (i := 43) rfl)) (hw _ (List.mem_of_getElem? (i := 44) rfl)) (hw _ (List.mem_of_getElem? (i := 46) rfl)) (hw _ (List.mem_of_getElem? (i := 45) rfl)) (hw _ (List.mem_of_getElem? (i := 2) rfl)) (hw _ (List.mem_of_getElem? (i := 47) rfl)) (by decide) A_b1.1 pd_28IJ29V rfl rfl (by decide) (Nat.le_of_ble_eq_true rfl) (by decide) (by decide) (fun z0 => rm_add l Z a0 hw [] n0 h11 z0 b1 fen fti fsl 0 (fun _ => 0) (fun _ => -1) (fun _ => 0) A_b1 A_fen A_fti A_fsl ge_b1 ge_fen ge_fti ge_fsl nf_0 nf_1 nf_2 nf_3 nf_4 nf_5 (fun _ => none) own_pp0 own_ho0 0 aa (by decide) rfl (by decide)) (fun v38 h39 qv38 => ?_)
    obtain ⟨rfl, e1, g1, τ1, K1, A0, A1, A2, A3, P1, H1⟩ := qv38
    replace A_b7 := A_b7.keep K1 (ninS (Ne.symm ne_b1_b7) (ninS (Ne.symm ne_fen_b7) (ninS (Ne.symm ne_fti_b7) (ninS (Ne.symm ne_fsl_b7) nin0))))
    replace A_b1 : Ob Z h39 b1 "com/example/rowan/rowan/store/IdleHeap" fl_IdleHeap [(.ref fen), (.ref fti), (.ref fsl), (.int (1 : Int32))] := A0
    replace A_fen := A1
    replace A_fti := A2
    replace A_fsl := A3
    show W K l _ n0 _ h39 8 19 51 #[.val (.long aa), .second, .val (.long bb), .second, .val (.long cc), .second, .val (.long dd), .second, .val (.int op), .val (.ref b1), .val (.ref b7), .val (.int (3 : Int32)), .unset, .unset, .unset, .unset, .unset, .unset, .unset, .unset, .unset] []
    refine w_iload ok at_51 rfl ?_
    refine w_iconst ok at_53 (v := (1 : Int32)) rfl ?_
    refine w_icmp_le ok at_54 (pc' := 64) (by decide) (fun hc41 => False.elim (by revert hc41; decide)) (fun hc41 => ?_)
    show W K l _ n0 _ h39 8 19 57 #[.val (.long aa), .second, .val (.long bb), .second, .val (.long cc), .second, .val (.long dd), .second, .val (.int op), .val (.ref b1), .val (.ref b7), .val (.int (3 : Int32)), .unset, .unset, .unset, .unset, .unset, .unset, .unset, .unset, .unset] []
    refine w_aload ok at_57 rfl rfl ?_
    refine w_iconst ok at_59 (v := (1 : Int32)) rfl ?_
    refine w_lloadN ok at_60 rfl ?_
    refine w_callV ok (y := (⟨"com/example/rowan/rowan/store/IdleHeap", "add", "(IJ)V"⟩ : MethodName)) (a := b1) (argsL := [(.int (1 : Int32)), (.long bb)]) (rest := []) at_61 (hw _ (List.mem_of_getElem? (i := 43) rfl)) (hw _ (List.mem_of_getElem? (i := 44) rfl)) (hw _ (List.mem_of_getElem? (i := 46) rfl)) (hw _ (List.mem_of_getElem? (i := 45) rfl)) (hw _ (List.mem_of_getElem? (i := 2) rfl)) (hw _ (List.mem_of_getElem? (i := 47) rfl)) (by decide) A_b1.1 pd_28IJ29V rfl rfl (by decide) (Nat.le_of_ble_eq_true rfl) (by decide) (by decide) (fun z0 => rm_add l Z a0 hw [] n0 h39 z0 b1 fen fti fsl 1 e1 g1 τ1 A_b1 A_fen A_fti A_fsl ge_b1 ge_fen ge_fti ge_fsl nf_0 nf_1 nf_2 nf_3 nf_4 nf_5 (put (fun _ => none) 0 (some aa)) P1 H1 1 bb (by decide) rfl (by decide)) (fun v42 h43 qv42 => ?_)
    obtain ⟨rfl, e2, g2, τ2, K1, A0, A1, A2, A3, P2, H2⟩ := qv42
    replace A_b7 := A_b7.keep K1 (ninS (Ne.symm ne_b1_b7) (ninS (Ne.symm ne_fen_b7) (ninS (Ne.symm ne_fti_b7) (ninS (Ne.symm ne_fsl_b7) nin0))))
    replace A_b1 : Ob Z h43 b1 "com/example/rowan/rowan/store/IdleHeap" fl_IdleHeap [(.ref fen), (.ref fti), (.ref fsl), (.int (2 : Int32))] := A0
    replace A_fen := A1
    replace A_fti := A2
    replace A_fsl := A3
    show W K l _ n0 _ h43 8 19 64 #[.val (.long aa), .second, .val (.long bb), .second, .val (.long cc), .second, .val (.long dd), .second, .val (.int op), .val (.ref b1), .val (.ref b7), .val (.int (3 : Int32)), .unset, .unset, .unset, .unset, .unset, .unset, .unset, .unset, .unset] []
    refine w_iload ok at_64 rfl ?_
    refine w_iconst ok at_66 (v := (2 : Int32)) rfl ?_
    refine w_icmp_le ok at_67 (pc' := 78) (by decide) (fun hc45 => False.elim (by revert hc45; decide)) (fun hc45 => ?_)
    show W K l _ n0 _ h43 8 19 70 #[.val (.long aa), .second, .val (.long bb), .second, .val (.long cc), .second, .val (.long dd), .second, .val (.int op), .val (.ref b1), .val (.ref b7), .val (.int (3 : Int32)), .unset, .unset, .unset, .unset, .unset, .unset, .unset, .unset, .unset] []
    refine w_aload ok at_70 rfl rfl ?_
    refine w_iconst ok at_72 (v := (2 : Int32)) rfl ?_
    refine w_lload ok at_73 rfl ?_
    refine w_callV ok (y := (⟨"com/example/rowan/rowan/store/IdleHeap", "add", "(IJ)V"⟩ : MethodName)) (a := b1) (argsL := [(.int (2 : Int32)), (.long cc)]) (rest := []) at_75 (hw _ (List.mem_of_getElem? (i := 43) rfl)) (hw _ (List.mem_of_getElem? (i := 44) rfl)) (hw _ (List.mem_of_getElem? (i := 46) rfl)) (hw _ (List.mem_of_getElem? (i := 45) rfl)) (hw _ (List.mem_of_getElem? (i := 2) rfl)) (hw _ (List.mem_of_getElem? (i := 47) rfl)) (by decide) A_b1.1 pd_28IJ29V rfl rfl (by decide) (Nat.le_of_ble_eq_true rfl) (by decide) (by decide) (fun z0 => rm_add l Z a0 hw [] n0 h43 z0 b1 fen fti fsl 2 e2 g2 τ2 A_b1 A_fen A_fti A_fsl ge_b1 ge_fen ge_fti ge_fsl nf_0 nf_1 nf_2 nf_3 nf_4 nf_5 (put (put (fun _ => none) 0 (some aa)) 1 (some bb)) P2 H2 2 cc (by decide) rfl (by decide)) (fun v46 h47 qv46 => ?_)
    obtain ⟨rfl, e3, g3, τ3, K1, A0, A1, A2, A3, P3, H3⟩ := qv46
    replace A_b7 := A_b7.keep K1 (ninS (Ne.symm ne_b1_b7) (ninS (Ne.symm ne_fen_b7) (ninS (Ne.symm ne_fti_b7) (ninS (Ne.symm ne_fsl_b7) nin0))))
    replace A_b1 : Ob Z h47 b1 "com/example/rowan/rowan/store/IdleHeap" fl_IdleHeap [(.ref fen), (.ref fti), (.ref fsl), (.int (3 : Int32))] := A0
    replace A_fen := A1
    replace A_fti := A2
    replace A_fsl := A3
    show W K l _ n0 _ h47 8 19 78 #[.val (.long aa), .second, .val (.long bb), .second, .val (.long cc), .second, .val (.long dd), .second, .val (.int op), .val (.ref b1), .val (.ref b7), .val (.int (3 : Int32)), .unset, .unset, .unset, .unset, .unset, .unset, .unset, .unset, .unset] []
    exact c78 l Z a0 hw n0 _ K ok b1 fen fti fsl 3 e3 g3 τ3 A_b1 A_fen A_fti A_fsl ge_b1 ge_fen ge_fti ge_fsl nf_0 nf_1 nf_2 nf_3 nf_4 nf_5 b7 (T3 aa bb cc) A_b7 ge_b7 ne_b1_b7 ne_fen_b7 ne_fti_b7 ne_fsl_b7 (put (put (put (fun _ => none) 0 (some aa)) 1 (some bb)) 2 (some cc)) P3 H3 aa bb cc dd op 3 (by decide) (fun y hy => by rcases own_y4 hy with rfl | rfl | rfl | rfl <;> rfl)
set_option maxRecDepth 65536 in
set_option maxHeartbeats 40000000 in
theorem comes_1 {Post : Tables → Env → Array Value → State → Outcome → State → Prop} (hpost : ∀ tb e args s v u, (limb_1_1.after args s (.returned v) u = true ∧ limb_1_2.after args s (.returned v) u = true) → FrameEnd s (.returned v) u (Jvm.fieldLocs frame_1_writes args s ++ Jvm.arrayLocs frame_1_arrays args s ++ Jvm.staticLocs frame_1_statics s) 24 128 → Post tb e args s (.returned v) u) :
    ArmFor flags0 classFile x code maxLocals ret World_1 tables_1 room_1 Calls_1 rest_1 Pre_1 Post := by
  intro l hfl _ _ p e ha hc hk s m args below hf hA hF happ hP
  obtain ⟨hcalls, hrest, hpre⟩ := hP
  obtain ⟨-, -, -, hnamed, -, -, -, hat⟩ := (Spec.applies_iff hf).mp happ
  obtain ⟨hg, hn⟩ := and_e (Cond.before_iff.mp (show (Jvm.Cond.and given_1 narrow_1).before args s = true from hpre))
  obtain ⟨g0, r0⟩ := and_e hg
  obtain ⟨g1, r1⟩ := and_e r0
  obtain ⟨g2, r2⟩ := and_e r1
  obtain ⟨g3, r3⟩ := and_e r2
  obtain ⟨g4, r4⟩ := and_e r3
  obtain ⟨w0, w1, w2, w3, w4, rfl⟩ : ∃ w0 w1 w2 w3 w4 : Value, args = #[w0, w1, w2, w3, w4] := by
    have hs : args.size = 5 := by simpa [Cond.value, given_1] using g0
    obtain ⟨L⟩ := args
    match L, hs with
    | [w0, w1, w2, w3, w4], _ => exact ⟨w0, w1, w2, w3, w4, rfl⟩
  have hw := fun d (hd : d ∈ tables_1) => atoms_spec (ws := Jvm.Cond.code x code maxLocals ret :: tables_1) hat d (List.mem_cons_of_mem _ hd)
  have hfit : Fit s := fun {y c} hc i hi => by
    obtain ⟨ha, rfl⟩ := Array.getElem?_eq_some_iff.mp hc
    have q := List.all_eq_true.mp ((Array.all_eq_true_iff_forall_mem.mp hF) _ (Array.getElem_mem ha)) i (List.mem_range.mpr hi)
    simpa [Array.getElem?_eq_getElem hi] using q
  obtain ⟨i0, ei0⟩ := isL_v g1
  obtain rfl : w0 = (.long i0) := Option.some.inj ei0
  obtain ⟨i1, ei1⟩ := isL_v g2
  obtain rfl : w1 = (.long i1) := Option.some.inj ei1
  obtain ⟨i2, ei2⟩ := isL_v g3
  obtain rfl : w2 = (.long i2) := Option.some.inj ei2
  obtain ⟨i3, ei3⟩ := isL_v g4
  obtain rfl : w3 = (.long i3) := Option.some.inj ei3
  obtain ⟨i4, ei4⟩ := is_v r4
  obtain rfl : w4 = (.int i4) := Option.some.inj ei4
  obtain ⟨n, o, h1, h2, h3, _, L, rfl, ⟨rfl, N⟩, hq⟩ := rm0 l s _ hw tables_1 s.heap.size s.heap (Old.start s) i0 i1 i2 i3 i4  p e ha hc hk s m _ below hf ((Spec.applies_iff_loose hf).mp happ).1 ⟨rfl, State.Warmed39.refl s, rfl⟩ trivial
  exact ⟨n, _, h1, h2, h3, hpost _ _ _ _ _ _ ⟨Cond.after_iff.mpr rfl, Cond.after_iff.mpr (eq_i res_at (Term.int_eval (1)) rfl)⟩ (frame_fin hq N (by decide) (by decide))⟩
theorem main_1_1 : Claimed_1_1 := comes_1 fun _ _ _ _ _ _ h hF => ⟨h.1, hF⟩
theorem main_1_2 : Claimed_1_2 := comes_1 fun _ _ _ _ _ _ h hF => ⟨h.2, hF⟩
end Jvm.Pilot.@@N@@
namespace Jvm.Pilot.@@N@@
open Jvm Jvm.ClassFile Sem Op Lib Jvm.Free Jvm.Stand Jvm.Pilot.@@N@@.Jvm.D
/-! MADE BY PROGRAM (witnessworld.py) out of the Statement's table words and the real class files: 14 classes; the members and pool entries that the words name. The judged class is class 1, her method 1. -/
namespace start1
open Jvm.ClassFile
def u (s : String) : CpInfo := .utf8 (stringToUtf16 s)
/-- a pool by its gaps: so many unusable entries, then the entry; so many at the end -/
def gap : Nat → List CpInfo → List CpInfo
  | 0, r => r
  | n + 1, r => .unusable :: gap n r
def poolList (es : List (Nat × CpInfo)) (last : Nat) : List CpInfo := es.foldr (fun e r => gap e.1 (e.2 :: r)) (gap last [])
def pool (es : List (Nat × CpInfo)) (last : Nat) : Array CpInfo := ⟨poolList es last⟩
def fileOf (pool : Array CpInfo) (this : Nat) (attrs : Array Attribute := #[]) (ms : Array MethodInfo := #[]) (fl : Nat := 33) (sup : Nat := 0) (ifs : Array Nat := #[]) (fds : Array FieldInfo := #[]) : ClassFile where
  minorVersion := 0
  majorVersion := 65
  constantPool := pool
  accessFlags := fl
  thisClass := this
  superClass := sup
  interfaces := ifs
  fields := fds
  methods := ms
  attributes := attrs
def plain (name : String) (sup : Option ClassId) : Class where
  name := name
  kind := .ordinary
  loader := none
  accessFlags := 33
  super := sup
  interfaces := #[]
  cf := none
  fields := #[]
  methods := #[]
  instanceTypes := #[]
  staticTypes := #[]
  resolved := #[]
  callSites := []
  init := .initialized
  statics := none
  mirror := none

def pool0 : Array CpInfo := pool [(5, u "<init>"), (0, u "()V"), (1, .class_ 10), (1, u "java/lang/Object")] 113

def k0c0 : Code := { maxStack := 0, maxLocals := 1, code := object_method_1_code, exceptionTable := #[], attributes := #[] }
def k0m0 : Method := { name := "<init>", desc := "()V", sig := { parameters := [], returnType := none }, accessFlags := 1, code := some k0c0 }
/-- java/lang/Object -/
def k0 : Class := { plain "java/lang/Object" none with
  accessFlags := 33
  interfaces := #[]
  cf := some (fileOf pool0 8 #[] #[{ accessFlags := 1, nameIndex := 5, descriptorIndex := 6, attributes := #[] }] 33 0 #[] #[])
  fields := #[]
  methods := #[k0m0]
  instanceTypes := #[]
  staticTypes := #[]
  resolved := Array.replicate 124 none
  statics := none }

def pool1 : Array CpInfo := pool [(2, .class_ 4), (0, .nameAndType 5 6), (0, u "java/lang/Object"), (0, u "<init>"), (0, u "()V"), (0, .class_ 8), (0, u "com/example/rowan/rowan/store/IdleHeap"), (0, .methodref 7 3), (0, .methodref 7 11), (0, .nameAndType 12 13), (0, u "resize"), (0, u "(I)V"), (0, .methodref 7 15), (0, .nameAndType 16 17), (0, u "add"), (0, u "(IJ)V"), (0, .methodref 19 20), (0, .class_ 21), (0, .nameAndType 22 23), (0, u "java/lang/Math"), (0, u "max"), (0, u "(JJ)J"), (0, .methodref 7 25), (0, .nameAndType 26 17), (0, u "delay"), (0, .methodref 7 28), (0, .nameAndType 29 13), (0, u "remove"), (0, .methodref 7 31), (0, .nameAndType 32 33), (0, u "first"), (0, u "()I"), (0, .class_ 35), (0, u "com/example/rowan/rowan/store/IdleHeapFirstPinLaw"), (2, u "law"), (0, u "(JJJJI)Z")] 5

def k1m0 : Method := { name := "<init>", desc := "()V", sig := { parameters := [], returnType := none }, accessFlags := 1, code := none }
def k1c1 : Code := { maxStack := 6, maxLocals := 21, code := code, exceptionTable := #[], attributes := #[] }
def k1m1 : Method := { name := "law", desc := "(JJJJI)Z", sig := { parameters := [.long, .long, .long, .long, .int], returnType := some .boolean }, accessFlags := 9, code := some k1c1 }
/-- com/example/rowan/rowan/store/IdleHeapFirstPinLaw -/
def k1 : Class := { plain "com/example/rowan/rowan/store/IdleHeapFirstPinLaw" (some 0) with
  accessFlags := 49
  interfaces := #[]
  cf := some (fileOf pool1 34 #[] #[{ accessFlags := 1, nameIndex := 5, descriptorIndex := 6, attributes := #[] }, { accessFlags := 9, nameIndex := 38, descriptorIndex := 39, attributes := #[] }] 49 2 #[] #[])
  fields := #[]
  methods := #[k1m0, k1m1]
  instanceTypes := #[]
  staticTypes := #[]
  resolved := Array.replicate 45 none
  statics := none }

def pool2 : Array CpInfo := pool [(1, .methodref 2 3), (0, .class_ 4), (0, .nameAndType 5 6), (0, u "java/lang/Object"), (0, u "<init>"), (0, u "()V"), (0, .fieldref 8 9), (0, .class_ 10), (0, .nameAndType 11 12), (0, u "com/example/rowan/rowan/store/IdleHeap"), (0, u "entries"), (0, u "[I"), (0, .fieldref 8 14), (0, .nameAndType 15 16), (0, u "times"), (0, u "[J"), (0, .fieldref 8 18), (0, .nameAndType 19 12), (0, u "slots"), (0, .methodref 21 22), (0, .class_ 23), (0, .nameAndType 24 25), (0, u "java/util/Arrays"), (0, u "copyOf"), (0, u "([II)[I"), (0, .methodref 21 27), (0, .nameAndType 24 28), (0, u "([JI)[J"), (0, .methodref 21 30), (0, .nameAndType 31 32), (0, u "fill"), (0, u "([IIII)V"), (0, .fieldref 8 34), (0, .nameAndType 35 36), (0, u "size"), (0, u "I"), (0, .methodref 8 38), (0, .nameAndType 39 40), (0, u "place"), (0, u "(IJI)V"), (0, .methodref 8 42), (0, .nameAndType 43 44), (0, u "siftUp"), (0, u "(I)V"), (0, .methodref 8 46), (0, .nameAndType 47 44), (0, u "siftDown"), (0, .methodref 8 49), (0, .nameAndType 50 51), (0, u "earlierChild"), (0, u "(I)I"), (0, u "NONE"), (4, u "resize"), (1, u "first"), (0, u "()I"), (2, u "add"), (0, u "(IJ)V"), (0, u "delay"), (0, u "remove")] 4

def k2c0 : Code := { maxStack := 2, maxLocals := 1, code := prog_26_method_1_code, exceptionTable := #[], attributes := #[] }
def k2m0 : Method := { name := "<init>", desc := "()V", sig := { parameters := [], returnType := none }, accessFlags := 0, code := some k2c0 }
def k2c1 : Code := { maxStack := 4, maxLocals := 3, code := prog_26_method_2_code, exceptionTable := #[], attributes := #[] }
def k2m1 : Method := { name := "resize", desc := "(I)V", sig := { parameters := [.int], returnType := none }, accessFlags := 0, code := some k2c1 }
def k2c2 : Code := { maxStack := 2, maxLocals := 1, code := prog_26_method_3_code, exceptionTable := #[], attributes := #[] }
def k2m2 : Method := { name := "first", desc := "()I", sig := { parameters := [], returnType := some .int }, accessFlags := 0, code := some k2c2 }
def k2c3 : Code := { maxStack := 5, maxLocals := 4, code := prog_26_method_5_code, exceptionTable := #[], attributes := #[] }
def k2m3 : Method := { name := "add", desc := "(IJ)V", sig := { parameters := [.int, .long], returnType := none }, accessFlags := 0, code := some k2c3 }
def k2c4 : Code := { maxStack := 4, maxLocals := 5, code := prog_26_method_6_code, exceptionTable := #[], attributes := #[] }
def k2m4 : Method := { name := "delay", desc := "(IJ)V", sig := { parameters := [.int, .long], returnType := none }, accessFlags := 0, code := some k2c4 }
def k2c5 : Code := { maxStack := 5, maxLocals := 4, code := prog_26_method_7_code, exceptionTable := #[], attributes := #[] }
def k2m5 : Method := { name := "remove", desc := "(I)V", sig := { parameters := [.int], returnType := none }, accessFlags := 0, code := some k2c5 }
def k2c6 : Code := { maxStack := 5, maxLocals := 7, code := prog_26_method_9_code, exceptionTable := #[], attributes := #[] }
def k2m6 : Method := { name := "siftUp", desc := "(I)V", sig := { parameters := [.int], returnType := none }, accessFlags := 2, code := some k2c6 }
def k2c7 : Code := { maxStack := 5, maxLocals := 7, code := prog_26_method_10_code, exceptionTable := #[], attributes := #[] }
def k2m7 : Method := { name := "siftDown", desc := "(I)V", sig := { parameters := [.int], returnType := none }, accessFlags := 2, code := some k2c7 }
def k2c8 : Code := { maxStack := 4, maxLocals := 3, code := prog_26_method_11_code, exceptionTable := #[], attributes := #[] }
def k2m8 : Method := { name := "earlierChild", desc := "(I)I", sig := { parameters := [.int], returnType := some .int }, accessFlags := 2, code := some k2c8 }
def k2c9 : Code := { maxStack := 4, maxLocals := 5, code := prog_26_method_12_code, exceptionTable := #[], attributes := #[] }
def k2m9 : Method := { name := "place", desc := "(IJI)V", sig := { parameters := [.int, .long, .int], returnType := none }, accessFlags := 2, code := some k2c9 }
/-- com/example/rowan/rowan/store/IdleHeap -/
def k2 : Class := { plain "com/example/rowan/rowan/store/IdleHeap" (some 0) with
  accessFlags := 32
  interfaces := #[]
  cf := some (fileOf pool2 8 #[] #[{ accessFlags := 0, nameIndex := 5, descriptorIndex := 6, attributes := #[] }, { accessFlags := 0, nameIndex := 57, descriptorIndex := 44, attributes := #[] }, { accessFlags := 0, nameIndex := 59, descriptorIndex := 60, attributes := #[] }, { accessFlags := 0, nameIndex := 63, descriptorIndex := 64, attributes := #[] }, { accessFlags := 0, nameIndex := 65, descriptorIndex := 64, attributes := #[] }, { accessFlags := 0, nameIndex := 66, descriptorIndex := 44, attributes := #[] }, { accessFlags := 2, nameIndex := 43, descriptorIndex := 44, attributes := #[] }, { accessFlags := 2, nameIndex := 47, descriptorIndex := 44, attributes := #[] }, { accessFlags := 2, nameIndex := 50, descriptorIndex := 51, attributes := #[] }, { accessFlags := 2, nameIndex := 39, descriptorIndex := 40, attributes := #[] }] 32 2 #[] #[{ accessFlags := 24, nameIndex := 52, descriptorIndex := 36, attributes := #[] }, { accessFlags := 2, nameIndex := 11, descriptorIndex := 12, attributes := #[] }, { accessFlags := 2, nameIndex := 15, descriptorIndex := 16, attributes := #[] }, { accessFlags := 2, nameIndex := 19, descriptorIndex := 12, attributes := #[] }, { accessFlags := 2, nameIndex := 35, descriptorIndex := 36, attributes := #[] }])
  fields := #[{ name := "NONE", type := .int, accessFlags := 24, slot := 0, constantValue := 0 }, { name := "entries", type := (.array .int), accessFlags := 2, slot := 0, constantValue := 0 }, { name := "times", type := (.array .long), accessFlags := 2, slot := 1, constantValue := 0 }, { name := "slots", type := (.array .int), accessFlags := 2, slot := 2, constantValue := 0 }, { name := "size", type := .int, accessFlags := 2, slot := 3, constantValue := 0 }]
  methods := #[k2m0, k2m1, k2m2, k2m3, k2m4, k2m5, k2m6, k2m7, k2m8, k2m9]
  instanceTypes := #[(.array .int), (.array .long), (.array .int), .int]
  staticTypes := #[.int]
  resolved := Array.replicate 71 none
  statics := none }

def pool3 : Array CpInfo := pool [(2, .class_ 4), (1, u "java/lang/Object"), (0, u "<init>"), (0, u "()V"), (5, u "([IIII)V"), (0, .methodref 14 15), (0, .class_ 16), (0, .nameAndType 17 18), (0, u "java/util/Arrays"), (0, u "rangeCheck"), (0, u "(III)V"), (55, .class_ 76), (1, u "java/util/Arrays$NaturalOrder"), (36, .class_ 115), (1, u "java/util/Arrays$LegacyMergeSort"), (1, u "Z"), (32, .methodref 151 152), (0, .class_ 153), (0, .nameAndType 154 155), (0, u "java/lang/System"), (0, u "arraycopy"), (0, u "(Ljava/lang/Object;ILjava/lang/Object;II)V"), (146, u "copyOf"), (1, .methodref 305 306), (0, .class_ 307), (0, .nameAndType 308 309), (0, u "java/lang/Math"), (0, u "min"), (0, u "(II)I"), (65, .class_ 376), (0, u "java/util/Arrays$ArrayList"), (68, u "$assertionsDisabled"), (269, u "MIN_ARRAY_SORT_GRAN"), (0, u "I"), (2, u "INSERTIONSORT_THRESHOLD"), (120, u "fill"), (30, u "([II)[I"), (0, u "([JI)[J"), (102, .class_ 976), (0, u "java/util/Arrays$ArrayItr")] 52

def k3m0 : Method := { name := "<init>", desc := "()V", sig := { parameters := [], returnType := none }, accessFlags := 2, code := none }
def k3c1 : Code := { maxStack := 4, maxLocals := 3, code := jdk_65_method_30_code, exceptionTable := #[], attributes := #[] }
def k3m1 : Method := { name := "rangeCheck", desc := "(III)V", sig := { parameters := [.int, .int, .int], returnType := none }, accessFlags := 8, code := some k3c1 }
def k3c2 : Code := { maxStack := 3, maxLocals := 5, code := jdk_65_method_104_code, exceptionTable := #[], attributes := #[] }
def k3m2 : Method := { name := "fill", desc := "([IIII)V", sig := { parameters := [(.array .int), .int, .int, .int], returnType := none }, accessFlags := 9, code := some k3c2 }
def k3c3 : Code := { maxStack := 6, maxLocals := 3, code := jdk_65_method_123_code, exceptionTable := #[], attributes := #[] }
def k3m3 : Method := { name := "copyOf", desc := "([II)[I", sig := { parameters := [(.array .int), .int], returnType := some (.array .int) }, accessFlags := 9, code := some k3c3 }
def k3c4 : Code := { maxStack := 6, maxLocals := 3, code := jdk_65_method_124_code, exceptionTable := #[], attributes := #[] }
def k3m4 : Method := { name := "copyOf", desc := "([JI)[J", sig := { parameters := [(.array .long), .int], returnType := some (.array .long) }, accessFlags := 9, code := some k3c4 }
/-- java/util/Arrays -/
def k3 : Class := { plain "java/util/Arrays" (some 0) with
  accessFlags := 49
  interfaces := #[]
  cf := some (fileOf pool3 14 #[.nestMembers #[975, 375, 113, 74]] #[{ accessFlags := 2, nameIndex := 5, descriptorIndex := 6, attributes := #[] }, { accessFlags := 8, nameIndex := 17, descriptorIndex := 18, attributes := #[] }, { accessFlags := 9, nameIndex := 840, descriptorIndex := 12, attributes := #[] }, { accessFlags := 9, nameIndex := 302, descriptorIndex := 871, attributes := #[] }, { accessFlags := 9, nameIndex := 302, descriptorIndex := 872, attributes := #[] }] 49 2 #[] #[{ accessFlags := 26, nameIndex := 715, descriptorIndex := 716, attributes := #[] }, { accessFlags := 26, nameIndex := 719, descriptorIndex := 716, attributes := #[] }, { accessFlags := 4120, nameIndex := 445, descriptorIndex := 117, attributes := #[] }])
  fields := #[{ name := "MIN_ARRAY_SORT_GRAN", type := .int, accessFlags := 26, slot := 0, constantValue := 0 }, { name := "INSERTIONSORT_THRESHOLD", type := .int, accessFlags := 26, slot := 1, constantValue := 0 }, { name := "$assertionsDisabled", type := .boolean, accessFlags := 4120, slot := 2, constantValue := 0 }]
  methods := #[k3m0, k3m1, k3m2, k3m3, k3m4]
  instanceTypes := #[]
  staticTypes := #[.int, .int, .boolean]
  resolved := Array.replicate 1029 none
  statics := none }

def pool4 : Array CpInfo := pool [(1, .class_ 2), (0, u "java/lang/Math"), (1, .class_ 6), (1, u "java/lang/Object"), (0, u "<init>"), (0, u "()V"), (89, .class_ 100), (1, u "java/lang/Math$RandomNumberGeneratorHolder"), (20, u "(JJ)J"), (50, u "negativeZeroFloatBits"), (0, u "J"), (2, u "negativeZeroDoubleBits"), (21, u "max"), (2, u "min"), (43, u "$assertionsDisabled"), (0, u "Z"), (88, u "(II)I"), (2, u "twoToTheDoubleScaleDown"), (0, u "D"), (4, u "twoToTheDoubleScaleUp"), (9, u "E"), (3, u "PI"), (2, u "TAU"), (2, u "DEGREES_TO_RADIANS"), (0, u "RADIANS_TO_DEGREES")] 94

def k4m0 : Method := { name := "<init>", desc := "()V", sig := { parameters := [], returnType := none }, accessFlags := 2, code := none }
def k4c1 : Code := { maxStack := 4, maxLocals := 4, code := jdk_29_method_66_code, exceptionTable := #[], attributes := #[] }
def k4m1 : Method := { name := "max", desc := "(JJ)J", sig := { parameters := [.long, .long], returnType := some .long }, accessFlags := 9, code := some k4c1 }
def k4c2 : Code := { maxStack := 2, maxLocals := 2, code := jdk_29_method_69_code, exceptionTable := #[], attributes := #[] }
def k4m2 : Method := { name := "min", desc := "(II)I", sig := { parameters := [.int, .int], returnType := some .int }, accessFlags := 9, code := some k4c2 }
/-- java/lang/Math -/
def k4 : Class := { plain "java/lang/Math" (some 0) with
  accessFlags := 49
  interfaces := #[]
  cf := some (fileOf pool4 1 #[.nestMembers #[98]] #[{ accessFlags := 2, nameIndex := 7, descriptorIndex := 8, attributes := #[] }, { accessFlags := 9, nameIndex := 198, descriptorIndex := 121, attributes := #[] }, { accessFlags := 9, nameIndex := 201, descriptorIndex := 335, attributes := #[] }] 49 4 #[] #[{ accessFlags := 25, nameIndex := 354, descriptorIndex := 339, attributes := #[] }, { accessFlags := 25, nameIndex := 358, descriptorIndex := 339, attributes := #[] }, { accessFlags := 25, nameIndex := 361, descriptorIndex := 339, attributes := #[] }, { accessFlags := 26, nameIndex := 364, descriptorIndex := 339, attributes := #[] }, { accessFlags := 26, nameIndex := 365, descriptorIndex := 339, attributes := #[] }, { accessFlags := 26, nameIndex := 172, descriptorIndex := 173, attributes := #[] }, { accessFlags := 26, nameIndex := 176, descriptorIndex := 173, attributes := #[] }, { accessFlags := 8, nameIndex := 344, descriptorIndex := 339, attributes := #[] }, { accessFlags := 8, nameIndex := 338, descriptorIndex := 339, attributes := #[] }, { accessFlags := 4120, nameIndex := 245, descriptorIndex := 246, attributes := #[] }])
  fields := #[{ name := "E", type := .double, accessFlags := 25, slot := 0, constantValue := 0 }, { name := "PI", type := .double, accessFlags := 25, slot := 1, constantValue := 0 }, { name := "TAU", type := .double, accessFlags := 25, slot := 2, constantValue := 0 }, { name := "DEGREES_TO_RADIANS", type := .double, accessFlags := 26, slot := 3, constantValue := 0 }, { name := "RADIANS_TO_DEGREES", type := .double, accessFlags := 26, slot := 4, constantValue := 0 }, { name := "negativeZeroFloatBits", type := .long, accessFlags := 26, slot := 5, constantValue := 0 }, { name := "negativeZeroDoubleBits", type := .long, accessFlags := 26, slot := 6, constantValue := 0 }, { name := "twoToTheDoubleScaleUp", type := .double, accessFlags := 8, slot := 7, constantValue := 0 }, { name := "twoToTheDoubleScaleDown", type := .double, accessFlags := 8, slot := 8, constantValue := 0 }, { name := "$assertionsDisabled", type := .boolean, accessFlags := 4120, slot := 9, constantValue := 0 }]
  methods := #[k4m0, k4m1, k4m2]
  instanceTypes := #[]
  staticTypes := #[.double, .double, .double, .double, .double, .long, .long, .double, .double, .boolean]
  resolved := Array.replicate 460 none
  statics := none }

def pool5 : Array CpInfo := pool [(2, .class_ 4), (1, u "java/lang/Object"), (0, u "<init>"), (0, u "()V"), (1, .class_ 10), (1, u "java/lang/System"), (0, u "allowSecurityManager"), (0, u "I"), (16, u "cons"), (0, u "Ljava/io/Console;"), (77, .class_ 110), (1, u "java/lang/System$CallersHolder"), (43, u "initialErrStream"), (0, u "Ljava/io/PrintStream;"), (19, u "security"), (0, u "Ljava/lang/SecurityManager;"), (31, .class_ 209), (0, u "java/lang/System$1"), (7, u "props"), (0, u "Ljava/util/Properties;"), (2, u "lineSeparator"), (0, u "Ljava/lang/String;"), (96, .class_ 321), (1, u "java/lang/System$LoggerFinder"), (5, .class_ 328), (0, u "java/lang/System$Logger"), (67, u "err"), (2, u "out"), (91, u "notSupportedJnuEncoding"), (15, u "in"), (17, u "initialIn"), (0, u "Ljava/io/InputStream;"), (35, u "bootLayer"), (0, u "Ljava/lang/ModuleLayer;"), (99, .class_ 664), (0, u "java/lang/System$2"), (9, u "NEVER"), (2, u "MAYBE"), (49, u "arraycopy"), (0, u "(Ljava/lang/Object;ILjava/lang/Object;II)V"), (72, .class_ 802), (0, u "java/lang/System$Logger$Level")] 31

def k5m0 : Method := { name := "<init>", desc := "()V", sig := { parameters := [], returnType := none }, accessFlags := 2, code := none }
def k5m1 : Method := { name := "arraycopy", desc := "(Ljava/lang/Object;ILjava/lang/Object;II)V", sig := { parameters := [(.object "java/lang/Object"), .int, (.object "java/lang/Object"), .int, .int], returnType := none }, accessFlags := 265, code := none }
/-- java/lang/System -/
def k5 : Class := { plain "java/lang/System" (some 0) with
  accessFlags := 49
  interfaces := #[]
  cf := some (fileOf pool5 8 #[.nestMembers #[319, 327, 801, 108, 663, 208]] #[{ accessFlags := 2, nameIndex := 5, descriptorIndex := 6, attributes := #[] }, { accessFlags := 265, nameIndex := 727, descriptorIndex := 728, attributes := #[] }] 49 2 #[] #[{ accessFlags := 25, nameIndex := 507, descriptorIndex := 526, attributes := #[] }, { accessFlags := 25, nameIndex := 399, descriptorIndex := 155, attributes := #[] }, { accessFlags := 25, nameIndex := 396, descriptorIndex := 155, attributes := #[] }, { accessFlags := 10, nameIndex := 525, descriptorIndex := 526, attributes := #[] }, { accessFlags := 26, nameIndex := 674, descriptorIndex := 12, attributes := #[] }, { accessFlags := 26, nameIndex := 677, descriptorIndex := 12, attributes := #[] }, { accessFlags := 10, nameIndex := 11, descriptorIndex := 12, attributes := #[] }, { accessFlags := 74, nameIndex := 175, descriptorIndex := 176, attributes := #[] }, { accessFlags := 10, nameIndex := 491, descriptorIndex := 222, attributes := #[] }, { accessFlags := 74, nameIndex := 29, descriptorIndex := 30, attributes := #[] }, { accessFlags := 74, nameIndex := 154, descriptorIndex := 155, attributes := #[] }, { accessFlags := 10, nameIndex := 217, descriptorIndex := 218, attributes := #[] }, { accessFlags := 10, nameIndex := 221, descriptorIndex := 222, attributes := #[] }, { accessFlags := 8, nameIndex := 562, descriptorIndex := 563, attributes := #[] }])
  fields := #[{ name := "in", type := (.object "java/io/InputStream"), accessFlags := 25, slot := 0, constantValue := 0 }, { name := "out", type := (.object "java/io/PrintStream"), accessFlags := 25, slot := 1, constantValue := 0 }, { name := "err", type := (.object "java/io/PrintStream"), accessFlags := 25, slot := 2, constantValue := 0 }, { name := "initialIn", type := (.object "java/io/InputStream"), accessFlags := 10, slot := 3, constantValue := 0 }, { name := "NEVER", type := .int, accessFlags := 26, slot := 4, constantValue := 0 }, { name := "MAYBE", type := .int, accessFlags := 26, slot := 5, constantValue := 0 }, { name := "allowSecurityManager", type := .int, accessFlags := 10, slot := 6, constantValue := 0 }, { name := "security", type := (.object "java/lang/SecurityManager"), accessFlags := 74, slot := 7, constantValue := 0 }, { name := "notSupportedJnuEncoding", type := (.object "java/lang/String"), accessFlags := 10, slot := 8, constantValue := 0 }, { name := "cons", type := (.object "java/io/Console"), accessFlags := 74, slot := 9, constantValue := 0 }, { name := "initialErrStream", type := (.object "java/io/PrintStream"), accessFlags := 74, slot := 10, constantValue := 0 }, { name := "props", type := (.object "java/util/Properties"), accessFlags := 10, slot := 11, constantValue := 0 }, { name := "lineSeparator", type := (.object "java/lang/String"), accessFlags := 10, slot := 12, constantValue := 0 }, { name := "bootLayer", type := (.object "java/lang/ModuleLayer"), accessFlags := 8, slot := 13, constantValue := 0 }]
  methods := #[k5m0, k5m1]
  instanceTypes := #[]
  staticTypes := #[(.object "java/io/InputStream"), (.object "java/io/PrintStream"), (.object "java/io/PrintStream"), (.object "java/io/InputStream"), .int, .int, .int, (.object "java/lang/SecurityManager"), (.object "java/lang/String"), (.object "java/io/Console"), (.object "java/io/PrintStream"), (.object "java/util/Properties"), (.object "java/lang/String"), (.object "java/lang/ModuleLayer")]
  resolved := Array.replicate 834 none
  statics := none }

def pool6 : Array CpInfo := pool [(1, u "java/lang/Cloneable"), (0, .class_ 1), (0, u "java/lang/Object"), (0, .class_ 3)] 3

/-- java/lang/Cloneable -/
def k6 : Class := { plain "java/lang/Cloneable" (some 0) with
  accessFlags := 1537
  interfaces := #[]
  cf := some (fileOf pool6 2 #[] #[] 1537 4 #[] #[])
  fields := #[]
  methods := #[]
  instanceTypes := #[]
  staticTypes := #[]
  resolved := Array.replicate 8 none
  statics := none }

def pool7 : Array CpInfo := pool [(1, u "java/io/Serializable"), (0, .class_ 1), (0, u "java/lang/Object"), (0, .class_ 3)] 3

/-- java/io/Serializable -/
def k7 : Class := { plain "java/io/Serializable" (some 0) with
  accessFlags := 1537
  interfaces := #[]
  cf := some (fileOf pool7 2 #[] #[] 1537 4 #[] #[])
  fields := #[]
  methods := #[]
  instanceTypes := #[]
  staticTypes := #[]
  resolved := Array.replicate 8 none
  statics := none }

/-- the primitive byte -/
def k8 : Class := { plain "byte" none with kind := .primitive 'B', accessFlags := 0x411 }
/-- [B -/
def k9 : Class := { plain "[B" (some 0) with kind := .array 8 .byte, interfaces := #[6, 7], accessFlags := 1041 }

/-- the primitive int -/
def k10 : Class := { plain "int" none with kind := .primitive 'I', accessFlags := 0x411 }
/-- [I -/
def k11 : Class := { plain "[I" (some 0) with kind := .array 10 .int, interfaces := #[6, 7], accessFlags := 1041 }

/-- the primitive long -/
def k12 : Class := { plain "long" none with kind := .primitive 'J', accessFlags := 0x411 }
/-- [J -/
def k13 : Class := { plain "[J" (some 0) with kind := .array 12 .long, interfaces := #[6, 7], accessFlags := 1041 }

def heap : Heap := #[]
def classes : Array Class := #[k0, k1, k2, k3, k4, k5, k6, k7, k8, k9, k10, k11, k12, k13]
def interned : List (Array UInt16 × Addr) := []
def slotsUsed : Nat := 0
def theMethod : MethodId := ⟨1, 1⟩
def args0 : Array Value := #[.long 5, .long 7, .long 9, .long 8, .int 7]
def aboutOver (below : List Frame) : State where
  vm := { classes := classes, interned := interned.toArray }
  heap := heap
  slotsUsed := slotsUsed
  threads := #[{ frames := .invoking theMethod args0 :: below }]
def below0 : List Frame := [.native { method := ⟨0, 0⟩, args := #[] }]
def about1 : State := aboutOver below0
def p0 : Program := .bare "" "" ""
def e0 : Env := launch0.env 0 0 0
theorem w_frames : about1.frames = Frame.invoking theMethod args0 :: below0 := rfl
set_option maxRecDepth 65536 in
theorem w_args : argsFit about1.vm theMethod args0 = true := by decide +kernel
set_option maxRecDepth 65536 in
theorem w_heap : heapFits about1 = true := by decide +kernel
set_option maxRecDepth 65536 in
theorem w_runnable : about1.curStatus? = some .runnable := by decide +kernel
set_option maxRecDepth 65536 in
theorem w_alone : about1.alone = true := by decide +kernel
set_option maxRecDepth 65536 in
theorem w_named : about1.methodNamed? x = some theMethod := by decide +kernel
set_option maxRecDepth 65536 in
theorem w_hears : about1.hears theMethod below0 = true := by decide +kernel
set_option maxRecDepth 65536 in
theorem w_ripe : about1.ripe theMethod args0 below0 = true := by decide +kernel
theorem w_running : about1.status = .running := rfl
set_option maxRecDepth 65536 in
theorem w_room : about1.hasRoom e0.platform room_1 = true :=
  launch0.hasRoom_least _ room_1 (by decide +kernel) (by decide +kernel) (by decide +kernel) (by decide +kernel) (by decide +kernel) (by decide +kernel)
theorem allAtoms_all (ts : List Jvm.Cond) (a : Array Jvm.Value) (st : Jvm.State) : (allAtoms ts).before a st = ts.all (fun c => c.before a st) := by
  induction ts with
  | nil => rfl
  | cons c t ih =>
    show (Jvm.Cond.and c (allAtoms t)).before a st = _
    rw [Jvm.Cond.before_and, ih, List.all_cons]
def words1 : List Jvm.Cond := Jvm.Cond.code x code maxLocals ret :: tables_1
/-- a 'code' word, met by the world's own term for the bytes: nothing is compared byte by byte -/
theorem code_word {y : MethodName} {bytes : ByteArray} {mx : Nat} {rt : Option FieldType} {a : Array Value} {s : State} {m : MethodId} {meth : Method} {c : Code} (h1 : s.methodNamed? y = some m) (h2 : s.vm.method? m = some meth) (h3 : meth.code = some c) (h4 : c.code = bytes)
    (h5 : (c.maxLocals == mx && c.exceptionTable.isEmpty && decide (c.maxStack ≤ mostOperands) && decide (meth.sig.returnType = rt) && !meth.locks && decide (parseMethodDescriptor y.desc = some meth.sig)) = true) : (Jvm.Cond.code y bytes mx rt).before a s = true := by
  simp only [Bool.and_eq_true, beq_iff_eq, Bool.not_eq_true', decide_eq_true_eq] at h5
  obtain ⟨⟨⟨⟨⟨g1, g2⟩, g3⟩, g4⟩, g5⟩, g6⟩ := h5
  simp [Cond.before, Cond.holds, Cond.value, h1, h2, h3, h4, g1, g2, g3, g4, g5, g6]
def isCode : Jvm.Cond → Bool
  | .code _ _ _ _ => true
  | _ => false
theorem all_split {L : List Jvm.Cond} {P : Jvm.Cond → Bool} (h1 : L.all (fun c => isCode c || P c) = true) (h2 : ∀ c ∈ L.filter isCode, P c = true) : L.all P = true := by
  refine List.all_eq_true.mpr fun c hc => ?_
  have h := List.all_eq_true.mp h1 c hc
  rcases Bool.eq_false_or_eq_true (isCode c) with hi | hi
  · exact h2 c (List.mem_filter.mpr ⟨hc, hi⟩)
  · simpa [hi] using h
set_option maxRecDepth 65536 in
theorem w_c0 : (Jvm.Cond.code x code maxLocals ret).before args0 about1 = true := code_word (m := ⟨1, 1⟩) (meth := k1m1) (c := k1c1) (by decide +kernel) rfl rfl rfl (by decide +kernel)
set_option maxRecDepth 65536 in
theorem w_c1 : (Jvm.Cond.code ({ cls := "com/example/rowan/rowan/store/IdleHeap", name := "<init>", desc := "()V" } : Jvm.MethodName) prog_26_method_1_code (1 : Nat) (Option.none : Option Jvm.ClassFile.FieldType)).before args0 about1 = true := code_word (m := ⟨2, 0⟩) (meth := k2m0) (c := k2c0) (by decide +kernel) rfl rfl rfl (by decide +kernel)
set_option maxRecDepth 65536 in
theorem w_c2 : (Jvm.Cond.code ({ cls := "java/lang/Object", name := "<init>", desc := "()V" } : Jvm.MethodName) object_method_1_code (1 : Nat) (Option.none : Option Jvm.ClassFile.FieldType)).before args0 about1 = true := code_word (m := ⟨0, 0⟩) (meth := k0m0) (c := k0c0) (by decide +kernel) rfl rfl rfl (by decide +kernel)
set_option maxRecDepth 65536 in
theorem w_c3 : (Jvm.Cond.code ({ cls := "com/example/rowan/rowan/store/IdleHeap", name := "resize", desc := "(I)V" } : Jvm.MethodName) prog_26_method_2_code (3 : Nat) (Option.none : Option Jvm.ClassFile.FieldType)).before args0 about1 = true := code_word (m := ⟨2, 1⟩) (meth := k2m1) (c := k2c1) (by decide +kernel) rfl rfl rfl (by decide +kernel)
set_option maxRecDepth 65536 in
theorem w_c4 : (Jvm.Cond.code ({ cls := "java/util/Arrays", name := "copyOf", desc := "([II)[I" } : Jvm.MethodName) jdk_65_method_123_code (3 : Nat) (Option.some (Jvm.ClassFile.FieldType.array Jvm.ClassFile.FieldType.int))).before args0 about1 = true := code_word (m := ⟨3, 3⟩) (meth := k3m3) (c := k3c3) (by decide +kernel) rfl rfl rfl (by decide +kernel)
set_option maxRecDepth 65536 in
theorem w_c5 : (Jvm.Cond.code ({ cls := "java/lang/Math", name := "min", desc := "(II)I" } : Jvm.MethodName) jdk_29_method_69_code (2 : Nat) (Option.some Jvm.ClassFile.FieldType.int)).before args0 about1 = true := code_word (m := ⟨4, 2⟩) (meth := k4m2) (c := k4c2) (by decide +kernel) rfl rfl rfl (by decide +kernel)
set_option maxRecDepth 65536 in
theorem w_c6 : (Jvm.Cond.code ({ cls := "java/util/Arrays", name := "copyOf", desc := "([JI)[J" } : Jvm.MethodName) jdk_65_method_124_code (3 : Nat) (Option.some (Jvm.ClassFile.FieldType.array Jvm.ClassFile.FieldType.long))).before args0 about1 = true := code_word (m := ⟨3, 4⟩) (meth := k3m4) (c := k3c4) (by decide +kernel) rfl rfl rfl (by decide +kernel)
set_option maxRecDepth 65536 in
theorem w_c7 : (Jvm.Cond.code ({ cls := "java/util/Arrays", name := "fill", desc := "([IIII)V" } : Jvm.MethodName) jdk_65_method_104_code (5 : Nat) (Option.none : Option Jvm.ClassFile.FieldType)).before args0 about1 = true := code_word (m := ⟨3, 2⟩) (meth := k3m2) (c := k3c2) (by decide +kernel) rfl rfl rfl (by decide +kernel)
set_option maxRecDepth 65536 in
theorem w_c8 : (Jvm.Cond.code ({ cls := "java/util/Arrays", name := "rangeCheck", desc := "(III)V" } : Jvm.MethodName) jdk_65_method_30_code (3 : Nat) (Option.none : Option Jvm.ClassFile.FieldType)).before args0 about1 = true := code_word (m := ⟨3, 1⟩) (meth := k3m1) (c := k3c1) (by decide +kernel) rfl rfl rfl (by decide +kernel)
set_option maxRecDepth 65536 in
theorem w_c9 : (Jvm.Cond.code ({ cls := "com/example/rowan/rowan/store/IdleHeap", name := "add", desc := "(IJ)V" } : Jvm.MethodName) prog_26_method_5_code (4 : Nat) (Option.none : Option Jvm.ClassFile.FieldType)).before args0 about1 = true := code_word (m := ⟨2, 3⟩) (meth := k2m3) (c := k2c3) (by decide +kernel) rfl rfl rfl (by decide +kernel)
set_option maxRecDepth 65536 in
theorem w_c10 : (Jvm.Cond.code ({ cls := "com/example/rowan/rowan/store/IdleHeap", name := "place", desc := "(IJI)V" } : Jvm.MethodName) prog_26_method_12_code (5 : Nat) (Option.none : Option Jvm.ClassFile.FieldType)).before args0 about1 = true := code_word (m := ⟨2, 9⟩) (meth := k2m9) (c := k2c9) (by decide +kernel) rfl rfl rfl (by decide +kernel)
set_option maxRecDepth 65536 in
theorem w_c11 : (Jvm.Cond.code ({ cls := "com/example/rowan/rowan/store/IdleHeap", name := "siftUp", desc := "(I)V" } : Jvm.MethodName) prog_26_method_9_code (7 : Nat) (Option.none : Option Jvm.ClassFile.FieldType)).before args0 about1 = true := code_word (m := ⟨2, 6⟩) (meth := k2m6) (c := k2c6) (by decide +kernel) rfl rfl rfl (by decide +kernel)
set_option maxRecDepth 65536 in
theorem w_c12 : (Jvm.Cond.code ({ cls := "java/lang/Math", name := "max", desc := "(JJ)J" } : Jvm.MethodName) jdk_29_method_66_code (4 : Nat) (Option.some Jvm.ClassFile.FieldType.long)).before args0 about1 = true := code_word (m := ⟨4, 1⟩) (meth := k4m1) (c := k4c1) (by decide +kernel) rfl rfl rfl (by decide +kernel)
set_option maxRecDepth 65536 in
theorem w_c13 : (Jvm.Cond.code ({ cls := "com/example/rowan/rowan/store/IdleHeap", name := "delay", desc := "(IJ)V" } : Jvm.MethodName) prog_26_method_6_code (5 : Nat) (Option.none : Option Jvm.ClassFile.FieldType)).before args0 about1 = true := code_word (m := ⟨2, 4⟩) (meth := k2m4) (c := k2c4) (by decide +kernel) rfl rfl rfl (by decide +kernel)
set_option maxRecDepth 65536 in
theorem w_c14 : (Jvm.Cond.code ({ cls := "com/example/rowan/rowan/store/IdleHeap", name := "siftDown", desc := "(I)V" } : Jvm.MethodName) prog_26_method_10_code (7 : Nat) (Option.none : Option Jvm.ClassFile.FieldType)).before args0 about1 = true := code_word (m := ⟨2, 7⟩) (meth := k2m7) (c := k2c7) (by decide +kernel) rfl rfl rfl (by decide +kernel)
set_option maxRecDepth 65536 in
theorem w_c15 : (Jvm.Cond.code ({ cls := "com/example/rowan/rowan/store/IdleHeap", name := "earlierChild", desc := "(I)I" } : Jvm.MethodName) prog_26_method_11_code (3 : Nat) (Option.some Jvm.ClassFile.FieldType.int)).before args0 about1 = true := code_word (m := ⟨2, 8⟩) (meth := k2m8) (c := k2c8) (by decide +kernel) rfl rfl rfl (by decide +kernel)
set_option maxRecDepth 65536 in
theorem w_c16 : (Jvm.Cond.code ({ cls := "com/example/rowan/rowan/store/IdleHeap", name := "remove", desc := "(I)V" } : Jvm.MethodName) prog_26_method_7_code (4 : Nat) (Option.none : Option Jvm.ClassFile.FieldType)).before args0 about1 = true := code_word (m := ⟨2, 5⟩) (meth := k2m5) (c := k2c5) (by decide +kernel) rfl rfl rfl (by decide +kernel)
set_option maxRecDepth 65536 in
theorem w_c17 : (Jvm.Cond.code ({ cls := "com/example/rowan/rowan/store/IdleHeap", name := "first", desc := "()I" } : Jvm.MethodName) prog_26_method_3_code (1 : Nat) (Option.some Jvm.ClassFile.FieldType.int)).before args0 about1 = true := code_word (m := ⟨2, 2⟩) (meth := k2m2) (c := k2c2) (by decide +kernel) rfl rfl rfl (by decide +kernel)
def codes1 : List Jvm.Cond := [Jvm.Cond.code x code maxLocals ret, Jvm.Cond.code ({ cls := "com/example/rowan/rowan/store/IdleHeap", name := "<init>", desc := "()V" } : Jvm.MethodName) prog_26_method_1_code (1 : Nat) (Option.none : Option Jvm.ClassFile.FieldType), Jvm.Cond.code ({ cls := "java/lang/Object", name := "<init>", desc := "()V" } : Jvm.MethodName) object_method_1_code (1 : Nat) (Option.none : Option Jvm.ClassFile.FieldType), Jvm.Cond.code ({ cls := "com/example/rowan/rowan/store/IdleHeap", name := "resize", desc := "(I)V" } : Jvm.MethodName) prog_26_method_2_code (3 : Nat) (Option.none : Option Jvm.ClassFile.FieldType), Jvm.Cond.code ({ cls := "java/util/Arrays", name := "copyOf", desc := "([II)[I" } : Jvm.MethodName) jdk_65_method_123_code (3 : Nat) (Option.some (Jvm.ClassFile.FieldType.array Jvm.ClassFile.FieldType.int)), Jvm.Cond.code ({ cls := "java/lang/Math", name := "min", desc := "(II)I" } : Jvm.MethodName) jdk_29_method_69_code (2 : Nat) (Option.some Jvm.ClassFile.FieldType.int), Jvm.Cond.code ({ cls := "java/util/Arrays", name := "copyOf", desc := "([JI)[J" } : Jvm.MethodName) jdk_65_method_124_code (3 : Nat) (Option.some (Jvm.ClassFile.FieldType.array Jvm.ClassFile.FieldType.long)), Jvm.Cond.code ({ cls := "java/util/Arrays", name := "fill", desc := "([IIII)V" } : Jvm.MethodName) jdk_65_method_104_code (5 : Nat) (Option.none : Option Jvm.ClassFile.FieldType), Jvm.Cond.code ({ cls := "java/util/Arrays", name := "rangeCheck", desc := "(III)V" } : Jvm.MethodName) jdk_65_method_30_code (3 : Nat) (Option.none : Option Jvm.ClassFile.FieldType), Jvm.Cond.code ({ cls := "com/example/rowan/rowan/store/IdleHeap", name := "add", desc := "(IJ)V" } : Jvm.MethodName) prog_26_method_5_code (4 : Nat) (Option.none : Option Jvm.ClassFile.FieldType), Jvm.Cond.code ({ cls := "com/example/rowan/rowan/store/IdleHeap", name := "place", desc := "(IJI)V" } : Jvm.MethodName) prog_26_method_12_code (5 : Nat) (Option.none : Option Jvm.ClassFile.FieldType), Jvm.Cond.code ({ cls := "com/example/rowan/rowan/store/IdleHeap", name := "siftUp", desc := "(I)V" } : Jvm.MethodName) prog_26_method_9_code (7 : Nat) (Option.none : Option Jvm.ClassFile.FieldType), Jvm.Cond.code ({ cls := "java/lang/Math", name := "max", desc := "(JJ)J" } : Jvm.MethodName) jdk_29_method_66_code (4 : Nat) (Option.some Jvm.ClassFile.FieldType.long), Jvm.Cond.code ({ cls := "com/example/rowan/rowan/store/IdleHeap", name := "delay", desc := "(IJ)V" } : Jvm.MethodName) prog_26_method_6_code (5 : Nat) (Option.none : Option Jvm.ClassFile.FieldType), Jvm.Cond.code ({ cls := "com/example/rowan/rowan/store/IdleHeap", name := "siftDown", desc := "(I)V" } : Jvm.MethodName) prog_26_method_10_code (7 : Nat) (Option.none : Option Jvm.ClassFile.FieldType), Jvm.Cond.code ({ cls := "com/example/rowan/rowan/store/IdleHeap", name := "earlierChild", desc := "(I)I" } : Jvm.MethodName) prog_26_method_11_code (3 : Nat) (Option.some Jvm.ClassFile.FieldType.int), Jvm.Cond.code ({ cls := "com/example/rowan/rowan/store/IdleHeap", name := "remove", desc := "(I)V" } : Jvm.MethodName) prog_26_method_7_code (4 : Nat) (Option.none : Option Jvm.ClassFile.FieldType), Jvm.Cond.code ({ cls := "com/example/rowan/rowan/store/IdleHeap", name := "first", desc := "()I" } : Jvm.MethodName) prog_26_method_3_code (1 : Nat) (Option.some Jvm.ClassFile.FieldType.int)]
set_option maxRecDepth 65536 in
theorem codes_eq : words1.filter isCode = codes1 := rfl
theorem w_codes : ∀ c ∈ words1.filter isCode, c.before args0 about1 = true := by
  rw [codes_eq]
  intro c hc
  simp only [codes1, List.mem_cons, List.not_mem_nil, or_false] at hc
  rcases hc with rfl | rfl | rfl | rfl | rfl | rfl | rfl | rfl | rfl | rfl | rfl | rfl | rfl | rfl | rfl | rfl | rfl | rfl
  · exact w_c0
  · exact w_c1
  · exact w_c2
  · exact w_c3
  · exact w_c4
  · exact w_c5
  · exact w_c6
  · exact w_c7
  · exact w_c8
  · exact w_c9
  · exact w_c10
  · exact w_c11
  · exact w_c12
  · exact w_c13
  · exact w_c14
  · exact w_c15
  · exact w_c16
  · exact w_c17
set_option maxRecDepth 65536 in
theorem w_t1 : (words1.take 24).all (fun c => isCode c || c.before args0 about1) = true := by decide +kernel
set_option maxRecDepth 65536 in
theorem w_t2 : ((words1.drop 24).take 24).all (fun c => isCode c || c.before args0 about1) = true := by decide +kernel
set_option maxRecDepth 65536 in
theorem w_t3 : (((words1.drop 24).drop 24).take 24).all (fun c => isCode c || c.before args0 about1) = true := by decide +kernel
set_option maxRecDepth 65536 in
theorem w_t4 : (((words1.drop 24).drop 24).drop 24).all (fun c => isCode c || c.before args0 about1) = true := by decide +kernel
theorem w_tables : (allAtoms (Jvm.Cond.code x code maxLocals ret :: tables_1)).before args0 about1 = true := by
  rw [allAtoms_all]
  show words1.all (fun c => c.before args0 about1) = true
  refine all_split ?_ w_codes
  rw [← List.take_append_drop 24 words1, List.all_append, w_t1, ← List.take_append_drop 24 (words1.drop 24), List.all_append, w_t2, ← List.take_append_drop 24 ((words1.drop 24).drop 24), List.all_append, w_t3, w_t4]
  rfl
set_option maxRecDepth 65536 in
theorem w_case : (Jvm.Cond.and given_1 narrow_1).before args0 about1 = true := by decide +kernel
theorem w_applies : (headSpec (Jvm.Cond.code x code maxLocals ret :: tables_1) room_1).applies x e0.platform about1 = true :=
  (Spec.applies_iff w_frames).mpr ⟨w_running, w_runnable, w_alone, w_named, w_hears, w_ripe, w_room, w_tables⟩
theorem atStart : AtStart classFile x code maxLocals ret World_1 tables_1 room_1 Calls_1 rest_1 Pre_1 launch0 p0 e0 about1 theMethod args0 below0 :=
  ⟨lists_1, trivial, launch0.admits_env _ _ _, launch0.least_env, fairChoices_fair.cas, fairChoices_fair.clock, w_frames, w_args, w_heap, w_applies, trivial, trivial, w_case⟩
end start1
theorem witness_1 : WitnessClaimed_1 := ⟨start1.p0, start1.e0, start1.about1, start1.theMethod, start1.args0, start1.below0, start1.atStart⟩
end Jvm.Pilot.@@N@@
