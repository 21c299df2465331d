import JvmDerived
import JvmDerived.Pilot.@@N@@Statement
import JvmDerived.Pilot.@@N@@Code
set_option linter.unusedVariables false
set_option linter.unusedSimpArgs false
namespace Jvm.OwnKit
open Sem ClassFile Op Lib Jvm.Stand Jvm.Free Jvm.LawKit Jvm.RoadKit Bundle
/-- the run's own things: program, environment, start state, method, arguments, frames below, its record, its code -/
abbrev Cx := Program × Env × State × MethodId × Array Value × List Frame × Method × Code
def Ok (K : Cx) (Z : State) (n0 : Nat) (own : String) (code : ByteArray) (maxL : Nat) (ret : Option FieldType) (nm : String) : Prop :=
  match K with
  | (p, _, s, m, _, _, meth, c) => p.tables.exec = Jvm.exec ∧ Z.Warmed39 s.vm ∧ s.vm.findClass own = some m.cls ∧ c.code = code ∧ c.maxLocals = maxL ∧ meth.sig.returnType = ret ∧ meth.name = nm ∧ meth.locks = false ∧ n0 ≤ s.heap.size
/-- from heap h, with k cells and n slots made, at pc with locals L and stack S, the run comes to a return that P likes -/
def W (K : Cx) (l : Launch) (R : Room) (n0 : Nat) (P : Option Value → Heap → Prop) (h : Heap) (k n pc : Nat) (L : Array Slot) (S : List Value) : Prop :=
  match K with
  | (p, e, s, m, args, below, meth, c) => ∀ T locs, Stand p l e R s m args below meth c T locs k n → T.heap = h → Fr n0 locs →
    ∃ s₂ o, Steps p.tables e below (T.setTop (mkF m pc L S)) s₂ ∧ s₂.status = .running ∧ Ended s₂ below o ∧ ∃ v L', o = .returned v ∧ (P v s₂.heap ∧ Fr n0 L') ∧ FrameEnd s o s₂ L' R.cells R.slots
/-- a method's contract: called with as' at heap h it returns what Q likes -/
abbrev Met (l : Launch) (Z : State) (n0 : Nat) (y : MethodName) (bytes : ByteArray) (mL : Nat) (rt : Option FieldType) (ws : List Cond) (rm : Room) (as' : Array Value) (h : Heap) (Q : Option Value → Heap → Prop) : Prop :=
  MetFree l y (head1 (Cond.code y bytes mL rt :: ws) rm) (fun a U => a = as' ∧ Z.Warmed39 U.vm ∧ U.heap = h) (fun _ _ _ _ _ => True) (fun _ U o U' => ∃ v L, o = .returned v ∧ (Q v U'.heap ∧ Fr n0 L) ∧ FrameEnd U o U' L rm.cells rm.slots)
theorem met_of {l : Launch} {Z : State} {n0 : Nat} {y : MethodName} {bytes : ByteArray} {mL : Nat} {rt : Option FieldType} {ws : List Cond} {rm : Room} {as' : Array Value} {h : Heap} {Q : Option Value → Heap → Prop} (Z0 : n0 ≤ h.size) (pn : plainFor y = true) {Ls : Array Slot} (ef : ∀ m, entryFrame m as' mL = mkF m 0 Ls [])
    (H : ∀ K, Ok K Z n0 y.cls bytes mL rt y.name → W K l rm n0 Q h 0 0 0 Ls []) : Met l Z n0 y bytes mL rt ws rm as' h Q := by
  refine MetFree.of_bodySF pn hisR ?_
  intro p e s m args below meth c s₁ Bd hml0 hP hK
  obtain ⟨rfl, hZ, hh⟩ := hP
  have hnm := (name_of_methodNamed Bd.named Bd.method).1
  have X0 : Stand p l e rm s m args below meth c s₁ [] 0 0 := Stand.of_body Bd
  have e0 : s₁.heap = h := by rw [← hh, Bd.state]; rfl
  obtain ⟨s₂, o, st, r⟩ := H (p, e, s, m, args, below, meth, c) ⟨Bd.exec, hZ, findClass_of_methodNamed Bd.named, Bd.bytes, hml0, Bd.returns, hnm, Bd.notSynchronized, by show n0 ≤ s.heap.size; rw [hh]; exact Z0⟩ s₁ [] X0 e0 (Fr.nil n0)
  exact ⟨s₂, o, castTop (ef m) st, r⟩
section S
variable {K : Cx} {l : Launch} {R : Room} {Z : State} {n0 : Nat} {P : Option Value → Heap → Prop} {h : Heap} {k n pc : Nat} {L : Array Slot} {S : List Value} {own : String} {code : ByteArray} {maxL : Nat} {ret : Option FieldType} {nm : String} {a0 : Array Value}
theorem W.mono {P' : Option Value → Heap → Prop} (q : ∀ v h, P v h → P' v h) (w : W K l R n0 P h k n pc L S) : W K l R n0 P' h k n pc L S := by
  obtain ⟨p, e, s, m, args, below, meth, c⟩ := K
  intro T locs X eT N
  obtain ⟨s₂, o, st, r1, r2, v, L', r3, ⟨r4, r5⟩, r6⟩ := w T locs X eT N
  exact ⟨s₂, o, st, r1, r2, v, L', r3, ⟨q _ _ r4, r5⟩, r6⟩
theorem W.more {k' n' : Nat} (w : W K l R n0 P h k' n' pc L S) (hk : k ≤ k') (hn : n ≤ n') : W K l R n0 P h k n pc L S := by
  obtain ⟨p, e, s, m, args, below, meth, c⟩ := K
  intro T locs X eT N
  exact w T locs (X.more hk hn) eT N
theorem w_iloadN (ok : Ok K Z n0 own code maxL ret nm) {i : Fin 4} {v : Int32} (hd : decode code pc = .ok (.iload_n i, 1)) (hl : L[i.val]? = some (.val (.int v))) (w : W K l R n0 P h k n (pc + 1) L (.int v :: S)) : W K l R n0 P h k n pc L (S) := by
  obtain ⟨p, e, s, m, args, below, meth, c⟩ := K
  obtain ⟨hx, hZ, hown, hby, -⟩ := ok
  intro T locs X eT N
  obtain ⟨s₂, o, st, r⟩ := w T locs X eT N
  exact ⟨s₂, o, XS.iloadN X.here hx rfl (hb hby hd) hl st, r⟩
theorem w_iload (ok : Ok K Z n0 own code maxL ret nm) {i : Nat} {v : Int32} (hd : decode code pc = .ok (.iload i, 2)) (hl : L[i]? = some (.val (.int v))) (w : W K l R n0 P h k n (pc + 2) L (.int v :: S)) : W K l R n0 P h k n pc L (S) := by
  obtain ⟨p, e, s, m, args, below, meth, c⟩ := K
  obtain ⟨hx, hZ, hown, hby, -⟩ := ok
  intro T locs X eT N
  obtain ⟨s₂, o, st, r⟩ := w T locs X eT N
  exact ⟨s₂, o, XS.iload X.here hx rfl (hb hby hd) hl st, r⟩
theorem w_istoreN (ok : Ok K Z n0 own code maxL ret nm) {i : Fin 4} {v : Int32} {L' : Array Slot} (hd : decode code pc = .ok (.istore_n i, 1)) (hl : storeLocals L i.val (.int v) = some L') (w : W K l R n0 P h k n (pc + 1) L' (S)) : W K l R n0 P h k n pc L (.int v :: S) := by
  obtain ⟨p, e, s, m, args, below, meth, c⟩ := K
  obtain ⟨hx, hZ, hown, hby, -⟩ := ok
  intro T locs X eT N
  obtain ⟨s₂, o, st, r⟩ := w T locs X eT N
  exact ⟨s₂, o, XS.istoreN X.here hx rfl (hb hby hd) rfl hl st, r⟩
theorem w_istore (ok : Ok K Z n0 own code maxL ret nm) {i : Nat} {v : Int32} {L' : Array Slot} (hd : decode code pc = .ok (.istore i, 2)) (hl : storeLocals L i (.int v) = some L') (w : W K l R n0 P h k n (pc + 2) L' (S)) : W K l R n0 P h k n pc L (.int v :: S) := by
  obtain ⟨p, e, s, m, args, below, meth, c⟩ := K
  obtain ⟨hx, hZ, hown, hby, -⟩ := ok
  intro T locs X eT N
  obtain ⟨s₂, o, st, r⟩ := w T locs X eT N
  exact ⟨s₂, o, XS.istore X.here hx rfl (hb hby hd) rfl hl st, r⟩
theorem w_lloadN (ok : Ok K Z n0 own code maxL ret nm) {i : Fin 4} {v : Int64} (hd : decode code pc = .ok (.lload_n i, 1)) (hl : L[i.val]? = some (.val (.long v))) (w : W K l R n0 P h k n (pc + 1) L (.long v :: S)) : W K l R n0 P h k n pc L (S) := by
  obtain ⟨p, e, s, m, args, below, meth, c⟩ := K
  obtain ⟨hx, hZ, hown, hby, -⟩ := ok
  intro T locs X eT N
  obtain ⟨s₂, o, st, r⟩ := w T locs X eT N
  exact ⟨s₂, o, XS.lloadN X.here hx rfl (hb hby hd) hl st, r⟩
theorem w_lload (ok : Ok K Z n0 own code maxL ret nm) {i : Nat} {v : Int64} (hd : decode code pc = .ok (.lload i, 2)) (hl : L[i]? = some (.val (.long v))) (w : W K l R n0 P h k n (pc + 2) L (.long v :: S)) : W K l R n0 P h k n pc L (S) := by
  obtain ⟨p, e, s, m, args, below, meth, c⟩ := K
  obtain ⟨hx, hZ, hown, hby, -⟩ := ok
  intro T locs X eT N
  obtain ⟨s₂, o, st, r⟩ := w T locs X eT N
  exact ⟨s₂, o, XS.lload X.here hx rfl (hb hby hd) hl st, r⟩
theorem w_lstoreN (ok : Ok K Z n0 own code maxL ret nm) {i : Fin 4} {v : Int64} {L' : Array Slot} (hd : decode code pc = .ok (.lstore_n i, 1)) (hl : storeLocals L i.val (.long v) = some L') (w : W K l R n0 P h k n (pc + 1) L' (S)) : W K l R n0 P h k n pc L (.long v :: S) := by
  obtain ⟨p, e, s, m, args, below, meth, c⟩ := K
  obtain ⟨hx, hZ, hown, hby, -⟩ := ok
  intro T locs X eT N
  obtain ⟨s₂, o, st, r⟩ := w T locs X eT N
  exact ⟨s₂, o, XS.lstoreN X.here hx rfl (hb hby hd) rfl hl st, r⟩
theorem w_lstore (ok : Ok K Z n0 own code maxL ret nm) {i : Nat} {v : Int64} {L' : Array Slot} (hd : decode code pc = .ok (.lstore i, 2)) (hl : storeLocals L i (.long v) = some L') (w : W K l R n0 P h k n (pc + 2) L' (S)) : W K l R n0 P h k n pc L (.long v :: S) := by
  obtain ⟨p, e, s, m, args, below, meth, c⟩ := K
  obtain ⟨hx, hZ, hown, hby, -⟩ := ok
  intro T locs X eT N
  obtain ⟨s₂, o, st, r⟩ := w T locs X eT N
  exact ⟨s₂, o, XS.lstore X.here hx rfl (hb hby hd) rfl hl st, r⟩
theorem w_aloadN (ok : Ok K Z n0 own code maxL ret nm) {i : Fin 4} {v : Value} (hd : decode code pc = .ok (.aload_n i, 1)) (hl : L[i.val]? = some (.val v)) (hv : v.isRef = true) (w : W K l R n0 P h k n (pc + 1) L (v :: S)) : W K l R n0 P h k n pc L (S) := by
  obtain ⟨p, e, s, m, args, below, meth, c⟩ := K
  obtain ⟨hx, hZ, hown, hby, -⟩ := ok
  intro T locs X eT N
  obtain ⟨s₂, o, st, r⟩ := w T locs X eT N
  exact ⟨s₂, o, XS.aloadN X.here hx rfl (hb hby hd) hl hv st, r⟩
theorem w_aload (ok : Ok K Z n0 own code maxL ret nm) {i : Nat} {v : Value} (hd : decode code pc = .ok (.aload i, 2)) (hl : L[i]? = some (.val v)) (hv : v.isRef = true) (w : W K l R n0 P h k n (pc + 2) L (v :: S)) : W K l R n0 P h k n pc L (S) := by
  obtain ⟨p, e, s, m, args, below, meth, c⟩ := K
  obtain ⟨hx, hZ, hown, hby, -⟩ := ok
  intro T locs X eT N
  obtain ⟨s₂, o, st, r⟩ := w T locs X eT N
  exact ⟨s₂, o, XS.aload X.here hx rfl (hb hby hd) hl hv st, r⟩
theorem w_astoreN (ok : Ok K Z n0 own code maxL ret nm) {i : Fin 4} {v : Value} {L' : Array Slot} (hd : decode code pc = .ok (.astore_n i, 1)) (hv : v.isRef = true) (hl : storeLocals L i.val v = some L') (w : W K l R n0 P h k n (pc + 1) L' (S)) : W K l R n0 P h k n pc L (v :: S) := by
  obtain ⟨p, e, s, m, args, below, meth, c⟩ := K
  obtain ⟨hx, hZ, hown, hby, -⟩ := ok
  intro T locs X eT N
  obtain ⟨s₂, o, st, r⟩ := w T locs X eT N
  exact ⟨s₂, o, XS.astoreN X.here hx rfl (hb hby hd) rfl hv hl st, r⟩
theorem w_astore (ok : Ok K Z n0 own code maxL ret nm) {i : Nat} {v : Value} {L' : Array Slot} (hd : decode code pc = .ok (.astore i, 2)) (hv : v.isRef = true) (hl : storeLocals L i v = some L') (w : W K l R n0 P h k n (pc + 2) L' (S)) : W K l R n0 P h k n pc L (v :: S) := by
  obtain ⟨p, e, s, m, args, below, meth, c⟩ := K
  obtain ⟨hx, hZ, hown, hby, -⟩ := ok
  intro T locs X eT N
  obtain ⟨s₂, o, st, r⟩ := w T locs X eT N
  exact ⟨s₂, o, XS.astore X.here hx rfl (hb hby hd) rfl hv hl st, r⟩
theorem w_iconst (ok : Ok K Z n0 own code maxL ret nm) {i : Int} {v : Int32} (hd : decode code pc = .ok (.iconst i, 1)) (hv : Int32.ofInt i = v) (w : W K l R n0 P h k n (pc + 1) L (.int v :: S)) : W K l R n0 P h k n pc L (S) := by
  obtain ⟨p, e, s, m, args, below, meth, c⟩ := K
  obtain ⟨hx, hZ, hown, hby, -⟩ := ok
  intro T locs X eT N
  obtain ⟨s₂, o, st, r⟩ := w T locs X eT N
  exact ⟨s₂, o, XS.iconst X.here hx rfl (hb hby hd) (hv ▸ st), r⟩
theorem w_bipush (ok : Ok K Z n0 own code maxL ret nm) {i : Int} {v : Int32} (hd : decode code pc = .ok (.bipush i, 2)) (hv : (Int8.ofInt i).toInt32 = v) (w : W K l R n0 P h k n (pc + 2) L (.int v :: S)) : W K l R n0 P h k n pc L (S) := by
  obtain ⟨p, e, s, m, args, below, meth, c⟩ := K
  obtain ⟨hx, hZ, hown, hby, -⟩ := ok
  intro T locs X eT N
  obtain ⟨s₂, o, st, r⟩ := w T locs X eT N
  exact ⟨s₂, o, XS.bipush X.here hx rfl (hb hby hd) (hv ▸ st), r⟩
theorem w_sipush (ok : Ok K Z n0 own code maxL ret nm) {i : Int} {v : Int32} (hd : decode code pc = .ok (.sipush i, 3)) (hv : (Int16.ofInt i).toInt32 = v) (w : W K l R n0 P h k n (pc + 3) L (.int v :: S)) : W K l R n0 P h k n pc L (S) := by
  obtain ⟨p, e, s, m, args, below, meth, c⟩ := K
  obtain ⟨hx, hZ, hown, hby, -⟩ := ok
  intro T locs X eT N
  obtain ⟨s₂, o, st, r⟩ := w T locs X eT N
  exact ⟨s₂, o, XS.sipush X.here hx rfl (hb hby hd) (hv ▸ st), r⟩
theorem w_lconst (ok : Ok K Z n0 own code maxL ret nm) {i : Fin 2} {v : Int64} (hd : decode code pc = .ok (.lconst i, 1)) (hv : Int64.ofNat i = v) (w : W K l R n0 P h k n (pc + 1) L (.long v :: S)) : W K l R n0 P h k n pc L (S) := by
  obtain ⟨p, e, s, m, args, below, meth, c⟩ := K
  obtain ⟨hx, hZ, hown, hby, -⟩ := ok
  intro T locs X eT N
  obtain ⟨s₂, o, st, r⟩ := w T locs X eT N
  exact ⟨s₂, o, XS.lconst X.here hx rfl (hb hby hd) (hv ▸ st), r⟩
theorem w_aconstNull (ok : Ok K Z n0 own code maxL ret nm)  (hd : decode code pc = .ok (.aconst_null, 1)) (w : W K l R n0 P h k n (pc + 1) L (.null :: S)) : W K l R n0 P h k n pc L (S) := by
  obtain ⟨p, e, s, m, args, below, meth, c⟩ := K
  obtain ⟨hx, hZ, hown, hby, -⟩ := ok
  intro T locs X eT N
  obtain ⟨s₂, o, st, r⟩ := w T locs X eT N
  exact ⟨s₂, o, XS.aconstNull X.here hx rfl (hb hby hd)  st, r⟩
theorem w_dup (ok : Ok K Z n0 own code maxL ret nm) {v : Value} (hd : decode code pc = .ok (.dup, 1)) (hv : v.category = 1) (w : W K l R n0 P h k n (pc + 1) L (v :: v :: S)) : W K l R n0 P h k n pc L (v :: S) := by
  obtain ⟨p, e, s, m, args, below, meth, c⟩ := K
  obtain ⟨hx, hZ, hown, hby, -⟩ := ok
  intro T locs X eT N
  obtain ⟨s₂, o, st, r⟩ := w T locs X eT N
  exact ⟨s₂, o, XS.dup X.here hx rfl (hb hby hd) rfl hv st, r⟩
theorem w_dupX1 (ok : Ok K Z n0 own code maxL ret nm) {v u : Value} (hd : decode code pc = .ok (.dup_x1, 1)) (hv : v.category = 1) (hu : u.category = 1) (w : W K l R n0 P h k n (pc + 1) L (v :: u :: v :: S)) : W K l R n0 P h k n pc L (v :: u :: S) := by
  obtain ⟨p, e, s, m, args, below, meth, c⟩ := K
  obtain ⟨hx, hZ, hown, hby, -⟩ := ok
  intro T locs X eT N
  obtain ⟨s₂, o, st, r⟩ := w T locs X eT N
  exact ⟨s₂, o, XS.dupX1 X.here hx rfl (hb hby hd) rfl hv hu st, r⟩
theorem w_pop (ok : Ok K Z n0 own code maxL ret nm) {v : Value} (hd : decode code pc = .ok (.pop, 1)) (hv : v.category = 1) (w : W K l R n0 P h k n (pc + 1) L (S)) : W K l R n0 P h k n pc L (v :: S) := by
  obtain ⟨p, e, s, m, args, below, meth, c⟩ := K
  obtain ⟨hx, hZ, hown, hby, -⟩ := ok
  intro T locs X eT N
  obtain ⟨s₂, o, st, r⟩ := w T locs X eT N
  exact ⟨s₂, o, XS.pop X.here hx rfl (hb hby hd) rfl hv st, r⟩
theorem w_dup2 (ok : Ok K Z n0 own code maxL ret nm) {v u : Value} (hd : decode code pc = .ok (.dup2, 1)) (hv : v.category = 1) (hu : u.category = 1) (w : W K l R n0 P h k n (pc + 1) L (v :: u :: v :: u :: S)) : W K l R n0 P h k n pc L (v :: u :: S) := by
  obtain ⟨p, e, s, m, args, below, meth, c⟩ := K
  obtain ⟨hx, hZ, hown, hby, -⟩ := ok
  intro T locs X eT N
  obtain ⟨s₂, o, st, r⟩ := w T locs X eT N
  exact ⟨s₂, o, XT.dup2 X.here hx rfl (hb hby hd) rfl hv hu st, r⟩
theorem w_iinc (ok : Ok K Z n0 own code maxL ret nm) {i : Nat} {c : Int} {v u : Int32} {L' : Array Slot} (hd : decode code pc = .ok (.iinc i c, 3)) (hu : Int32.ofInt c = u) (hl : L[i]? = some (.val (.int v))) (hl' : storeLocals L i (.int (v + u)) = some L') (w : W K l R n0 P h k n (pc + 3) L' (S)) : W K l R n0 P h k n pc L (S) := by
  obtain ⟨p, e, s, m, args, below, meth, c⟩ := K
  obtain ⟨hx, hZ, hown, hby, -⟩ := ok
  intro T locs X eT N
  obtain ⟨s₂, o, st, r⟩ := w T locs X eT N
  exact ⟨s₂, o, XS.iinc X.here hx rfl (hb hby hd) hl (by rw [hu]; exact hl') st, r⟩
theorem w_iadd (ok : Ok K Z n0 own code maxL ret nm) {x y : Int32} (hd : decode code pc = .ok (.iadd, 1)) (w : W K l R n0 P h k n (pc + 1) L (.int (x + y) :: S)) : W K l R n0 P h k n pc L (.int y :: .int x :: S) := by
  obtain ⟨p, e, s, m, args, below, meth, c⟩ := K
  obtain ⟨hx, hZ, hown, hby, -⟩ := ok
  intro T locs X eT N
  obtain ⟨s₂, o, st, r⟩ := w T locs X eT N
  exact ⟨s₂, o, XS.iadd X.here hx rfl (hb hby hd) rfl st, r⟩
theorem w_isub (ok : Ok K Z n0 own code maxL ret nm) {x y : Int32} (hd : decode code pc = .ok (.isub, 1)) (w : W K l R n0 P h k n (pc + 1) L (.int (x - y) :: S)) : W K l R n0 P h k n pc L (.int y :: .int x :: S) := by
  obtain ⟨p, e, s, m, args, below, meth, c⟩ := K
  obtain ⟨hx, hZ, hown, hby, -⟩ := ok
  intro T locs X eT N
  obtain ⟨s₂, o, st, r⟩ := w T locs X eT N
  exact ⟨s₂, o, XS.isub X.here hx rfl (hb hby hd) rfl st, r⟩
theorem w_imul (ok : Ok K Z n0 own code maxL ret nm) {x y : Int32} (hd : decode code pc = .ok (.imul, 1)) (w : W K l R n0 P h k n (pc + 1) L (.int (x * y) :: S)) : W K l R n0 P h k n pc L (.int y :: .int x :: S) := by
  obtain ⟨p, e, s, m, args, below, meth, c⟩ := K
  obtain ⟨hx, hZ, hown, hby, -⟩ := ok
  intro T locs X eT N
  obtain ⟨s₂, o, st, r⟩ := w T locs X eT N
  exact ⟨s₂, o, XS.imul X.here hx rfl (hb hby hd) rfl st, r⟩
theorem w_iand (ok : Ok K Z n0 own code maxL ret nm) {x y : Int32} (hd : decode code pc = .ok (.iand, 1)) (w : W K l R n0 P h k n (pc + 1) L (.int (x &&& y) :: S)) : W K l R n0 P h k n pc L (.int y :: .int x :: S) := by
  obtain ⟨p, e, s, m, args, below, meth, c⟩ := K
  obtain ⟨hx, hZ, hown, hby, -⟩ := ok
  intro T locs X eT N
  obtain ⟨s₂, o, st, r⟩ := w T locs X eT N
  exact ⟨s₂, o, XS.iand X.here hx rfl (hb hby hd) rfl st, r⟩
theorem w_ior (ok : Ok K Z n0 own code maxL ret nm) {x y : Int32} (hd : decode code pc = .ok (.ior, 1)) (w : W K l R n0 P h k n (pc + 1) L (.int (x ||| y) :: S)) : W K l R n0 P h k n pc L (.int y :: .int x :: S) := by
  obtain ⟨p, e, s, m, args, below, meth, c⟩ := K
  obtain ⟨hx, hZ, hown, hby, -⟩ := ok
  intro T locs X eT N
  obtain ⟨s₂, o, st, r⟩ := w T locs X eT N
  exact ⟨s₂, o, XS.ior X.here hx rfl (hb hby hd) rfl st, r⟩
theorem w_ixor (ok : Ok K Z n0 own code maxL ret nm) {x y : Int32} (hd : decode code pc = .ok (.ixor, 1)) (w : W K l R n0 P h k n (pc + 1) L (.int (x ^^^ y) :: S)) : W K l R n0 P h k n pc L (.int y :: .int x :: S) := by
  obtain ⟨p, e, s, m, args, below, meth, c⟩ := K
  obtain ⟨hx, hZ, hown, hby, -⟩ := ok
  intro T locs X eT N
  obtain ⟨s₂, o, st, r⟩ := w T locs X eT N
  exact ⟨s₂, o, XS.ixor X.here hx rfl (hb hby hd) rfl st, r⟩
theorem w_ishl (ok : Ok K Z n0 own code maxL ret nm) {x y : Int32} (hd : decode code pc = .ok (.ishl, 1)) (w : W K l R n0 P h k n (pc + 1) L (.int (x <<< (y &&& 31)) :: S)) : W K l R n0 P h k n pc L (.int y :: .int x :: S) := by
  obtain ⟨p, e, s, m, args, below, meth, c⟩ := K
  obtain ⟨hx, hZ, hown, hby, -⟩ := ok
  intro T locs X eT N
  obtain ⟨s₂, o, st, r⟩ := w T locs X eT N
  exact ⟨s₂, o, XS.ishl X.here hx rfl (hb hby hd) rfl st, r⟩
theorem w_ishr (ok : Ok K Z n0 own code maxL ret nm) {x y : Int32} (hd : decode code pc = .ok (.ishr, 1)) (w : W K l R n0 P h k n (pc + 1) L (.int (x >>> (y &&& 31)) :: S)) : W K l R n0 P h k n pc L (.int y :: .int x :: S) := by
  obtain ⟨p, e, s, m, args, below, meth, c⟩ := K
  obtain ⟨hx, hZ, hown, hby, -⟩ := ok
  intro T locs X eT N
  obtain ⟨s₂, o, st, r⟩ := w T locs X eT N
  exact ⟨s₂, o, XS.ishr X.here hx rfl (hb hby hd) rfl st, r⟩
theorem w_iushr (ok : Ok K Z n0 own code maxL ret nm) {x y : Int32} (hd : decode code pc = .ok (.iushr, 1)) (w : W K l R n0 P h k n (pc + 1) L (.int (XT.ushr x y) :: S)) : W K l R n0 P h k n pc L (.int y :: .int x :: S) := by
  obtain ⟨p, e, s, m, args, below, meth, c⟩ := K
  obtain ⟨hx, hZ, hown, hby, -⟩ := ok
  intro T locs X eT N
  obtain ⟨s₂, o, st, r⟩ := w T locs X eT N
  exact ⟨s₂, o, XS.iushr X.here hx rfl (hb hby hd) rfl st, r⟩
theorem w_ladd (ok : Ok K Z n0 own code maxL ret nm) {x y : Int64} (hd : decode code pc = .ok (.ladd, 1)) (w : W K l R n0 P h k n (pc + 1) L (.long (x + y) :: S)) : W K l R n0 P h k n pc L (.long y :: .long x :: S) := by
  obtain ⟨p, e, s, m, args, below, meth, c⟩ := K
  obtain ⟨hx, hZ, hown, hby, -⟩ := ok
  intro T locs X eT N
  obtain ⟨s₂, o, st, r⟩ := w T locs X eT N
  exact ⟨s₂, o, XS.ladd X.here hx rfl (hb hby hd) rfl st, r⟩
theorem w_lsub (ok : Ok K Z n0 own code maxL ret nm) {x y : Int64} (hd : decode code pc = .ok (.lsub, 1)) (w : W K l R n0 P h k n (pc + 1) L (.long (x - y) :: S)) : W K l R n0 P h k n pc L (.long y :: .long x :: S) := by
  obtain ⟨p, e, s, m, args, below, meth, c⟩ := K
  obtain ⟨hx, hZ, hown, hby, -⟩ := ok
  intro T locs X eT N
  obtain ⟨s₂, o, st, r⟩ := w T locs X eT N
  exact ⟨s₂, o, XS.lsub X.here hx rfl (hb hby hd) rfl st, r⟩
theorem w_lmul (ok : Ok K Z n0 own code maxL ret nm) {x y : Int64} (hd : decode code pc = .ok (.lmul, 1)) (w : W K l R n0 P h k n (pc + 1) L (.long (x * y) :: S)) : W K l R n0 P h k n pc L (.long y :: .long x :: S) := by
  obtain ⟨p, e, s, m, args, below, meth, c⟩ := K
  obtain ⟨hx, hZ, hown, hby, -⟩ := ok
  intro T locs X eT N
  obtain ⟨s₂, o, st, r⟩ := w T locs X eT N
  exact ⟨s₂, o, XS.lmul X.here hx rfl (hb hby hd) rfl st, r⟩
theorem w_land (ok : Ok K Z n0 own code maxL ret nm) {x y : Int64} (hd : decode code pc = .ok (.land, 1)) (w : W K l R n0 P h k n (pc + 1) L (.long (x &&& y) :: S)) : W K l R n0 P h k n pc L (.long y :: .long x :: S) := by
  obtain ⟨p, e, s, m, args, below, meth, c⟩ := K
  obtain ⟨hx, hZ, hown, hby, -⟩ := ok
  intro T locs X eT N
  obtain ⟨s₂, o, st, r⟩ := w T locs X eT N
  exact ⟨s₂, o, XS.land X.here hx rfl (hb hby hd) rfl st, r⟩
theorem w_lor (ok : Ok K Z n0 own code maxL ret nm) {x y : Int64} (hd : decode code pc = .ok (.lor, 1)) (w : W K l R n0 P h k n (pc + 1) L (.long (x ||| y) :: S)) : W K l R n0 P h k n pc L (.long y :: .long x :: S) := by
  obtain ⟨p, e, s, m, args, below, meth, c⟩ := K
  obtain ⟨hx, hZ, hown, hby, -⟩ := ok
  intro T locs X eT N
  obtain ⟨s₂, o, st, r⟩ := w T locs X eT N
  exact ⟨s₂, o, XS.lor X.here hx rfl (hb hby hd) rfl st, r⟩
theorem w_lxor (ok : Ok K Z n0 own code maxL ret nm) {x y : Int64} (hd : decode code pc = .ok (.lxor, 1)) (w : W K l R n0 P h k n (pc + 1) L (.long (x ^^^ y) :: S)) : W K l R n0 P h k n pc L (.long y :: .long x :: S) := by
  obtain ⟨p, e, s, m, args, below, meth, c⟩ := K
  obtain ⟨hx, hZ, hown, hby, -⟩ := ok
  intro T locs X eT N
  obtain ⟨s₂, o, st, r⟩ := w T locs X eT N
  exact ⟨s₂, o, XS.lxor X.here hx rfl (hb hby hd) rfl st, r⟩
theorem w_lshl (ok : Ok K Z n0 own code maxL ret nm) {x : Int64} {y : Int32} (hd : decode code pc = .ok (.lshl, 1)) (w : W K l R n0 P h k n (pc + 1) L (.long (x <<< (y &&& 0x3f).toInt64) :: S)) : W K l R n0 P h k n pc L (.int y :: .long x :: S) := by
  obtain ⟨p, e, s, m, args, below, meth, c⟩ := K
  obtain ⟨hx, hZ, hown, hby, -⟩ := ok
  intro T locs X eT N
  obtain ⟨s₂, o, st, r⟩ := w T locs X eT N
  exact ⟨s₂, o, XS.lshl X.here hx rfl (hb hby hd) rfl st, r⟩
theorem w_lshr (ok : Ok K Z n0 own code maxL ret nm) {x : Int64} {y : Int32} (hd : decode code pc = .ok (.lshr, 1)) (w : W K l R n0 P h k n (pc + 1) L (.long (x >>> (y &&& 0x3f).toInt64) :: S)) : W K l R n0 P h k n pc L (.int y :: .long x :: S) := by
  obtain ⟨p, e, s, m, args, below, meth, c⟩ := K
  obtain ⟨hx, hZ, hown, hby, -⟩ := ok
  intro T locs X eT N
  obtain ⟨s₂, o, st, r⟩ := w T locs X eT N
  exact ⟨s₂, o, XS.lshr X.here hx rfl (hb hby hd) rfl st, r⟩
theorem w_lushr (ok : Ok K Z n0 own code maxL ret nm) {x : Int64} {y : Int32} (hd : decode code pc = .ok (.lushr, 1)) (w : W K l R n0 P h k n (pc + 1) L (.long ((x.toUInt64 >>> (y &&& 0x3f).toInt64.toUInt64).toInt64) :: S)) : W K l R n0 P h k n pc L (.int y :: .long x :: S) := by
  obtain ⟨p, e, s, m, args, below, meth, c⟩ := K
  obtain ⟨hx, hZ, hown, hby, -⟩ := ok
  intro T locs X eT N
  obtain ⟨s₂, o, st, r⟩ := w T locs X eT N
  exact ⟨s₂, o, XS.lushr X.here hx rfl (hb hby hd) rfl st, r⟩
theorem w_i2l (ok : Ok K Z n0 own code maxL ret nm) {x : Int32} (hd : decode code pc = .ok (.i2l, 1)) (w : W K l R n0 P h k n (pc + 1) L (.long (x.toInt64) :: S)) : W K l R n0 P h k n pc L (.int x :: S) := by
  obtain ⟨p, e, s, m, args, below, meth, c⟩ := K
  obtain ⟨hx, hZ, hown, hby, -⟩ := ok
  intro T locs X eT N
  obtain ⟨s₂, o, st, r⟩ := w T locs X eT N
  exact ⟨s₂, o, XS.i2l X.here hx rfl (hb hby hd) rfl st, r⟩
theorem w_l2i (ok : Ok K Z n0 own code maxL ret nm) {x : Int64} (hd : decode code pc = .ok (.l2i, 1)) (w : W K l R n0 P h k n (pc + 1) L (.int (x.toInt32) :: S)) : W K l R n0 P h k n pc L (.long x :: S) := by
  obtain ⟨p, e, s, m, args, below, meth, c⟩ := K
  obtain ⟨hx, hZ, hown, hby, -⟩ := ok
  intro T locs X eT N
  obtain ⟨s₂, o, st, r⟩ := w T locs X eT N
  exact ⟨s₂, o, XS.l2i X.here hx rfl (hb hby hd) rfl st, r⟩
theorem w_i2b (ok : Ok K Z n0 own code maxL ret nm) {x : Int32} (hd : decode code pc = .ok (.i2b, 1)) (w : W K l R n0 P h k n (pc + 1) L (.int (x.toInt8.toInt32) :: S)) : W K l R n0 P h k n pc L (.int x :: S) := by
  obtain ⟨p, e, s, m, args, below, meth, c⟩ := K
  obtain ⟨hx, hZ, hown, hby, -⟩ := ok
  intro T locs X eT N
  obtain ⟨s₂, o, st, r⟩ := w T locs X eT N
  exact ⟨s₂, o, XS.i2b X.here hx rfl (hb hby hd) rfl st, r⟩
theorem w_i2c (ok : Ok K Z n0 own code maxL ret nm) {x : Int32} (hd : decode code pc = .ok (.i2c, 1)) (w : W K l R n0 P h k n (pc + 1) L (.int (x.toUInt32.toUInt16.toUInt32.toInt32) :: S)) : W K l R n0 P h k n pc L (.int x :: S) := by
  obtain ⟨p, e, s, m, args, below, meth, c⟩ := K
  obtain ⟨hx, hZ, hown, hby, -⟩ := ok
  intro T locs X eT N
  obtain ⟨s₂, o, st, r⟩ := w T locs X eT N
  exact ⟨s₂, o, XS.i2c X.here hx rfl (hb hby hd) rfl st, r⟩
theorem w_ineg (ok : Ok K Z n0 own code maxL ret nm) {x : Int32} (hd : decode code pc = .ok (.ineg, 1)) (w : W K l R n0 P h k n (pc + 1) L (.int (-x) :: S)) : W K l R n0 P h k n pc L (.int x :: S) := by
  obtain ⟨p, e, s, m, args, below, meth, c⟩ := K
  obtain ⟨hx, hZ, hown, hby, -⟩ := ok
  intro T locs X eT N
  obtain ⟨s₂, o, st, r⟩ := w T locs X eT N
  exact ⟨s₂, o, XS.ineg X.here hx rfl (hb hby hd) rfl st, r⟩
theorem w_idiv (ok : Ok K Z n0 own code maxL ret nm) {x y : Int32} (hd : decode code pc = .ok (.idiv, 1)) (hy : y ≠ 0) (w : W K l R n0 P h k n (pc + 1) L (.int (x / y) :: S)) : W K l R n0 P h k n pc L (.int y :: .int x :: S) := by
  obtain ⟨p, e, s, m, args, below, meth, c⟩ := K
  obtain ⟨hx, hZ, hown, hby, -⟩ := ok
  intro T locs X eT N
  obtain ⟨s₂, o, st, r⟩ := w T locs X eT N
  exact ⟨s₂, o, XS.idiv X.here hx rfl (hb hby hd) rfl hy st, r⟩
theorem w_irem (ok : Ok K Z n0 own code maxL ret nm) {x y : Int32} (hd : decode code pc = .ok (.irem, 1)) (hy : y ≠ 0) (w : W K l R n0 P h k n (pc + 1) L (.int (x % y) :: S)) : W K l R n0 P h k n pc L (.int y :: .int x :: S) := by
  obtain ⟨p, e, s, m, args, below, meth, c⟩ := K
  obtain ⟨hx, hZ, hown, hby, -⟩ := ok
  intro T locs X eT N
  obtain ⟨s₂, o, st, r⟩ := w T locs X eT N
  exact ⟨s₂, o, iremM X hx rfl (hb hby hd) rfl hy st, r⟩
theorem w_ldiv (ok : Ok K Z n0 own code maxL ret nm) {x y : Int64} (hd : decode code pc = .ok (.ldiv, 1)) (hy : y ≠ 0) (w : W K l R n0 P h k n (pc + 1) L (.long (x / y) :: S)) : W K l R n0 P h k n pc L (.long y :: .long x :: S) := by
  obtain ⟨p, e, s, m, args, below, meth, c⟩ := K
  obtain ⟨hx, hZ, hown, hby, -⟩ := ok
  intro T locs X eT N
  obtain ⟨s₂, o, st, r⟩ := w T locs X eT N
  exact ⟨s₂, o, XS.ldiv X.here hx rfl (hb hby hd) rfl hy st, r⟩
theorem w_lrem (ok : Ok K Z n0 own code maxL ret nm) {x y : Int64} (hd : decode code pc = .ok (.lrem, 1)) (hy : y ≠ 0) (w : W K l R n0 P h k n (pc + 1) L (.long (x % y) :: S)) : W K l R n0 P h k n pc L (.long y :: .long x :: S) := by
  obtain ⟨p, e, s, m, args, below, meth, c⟩ := K
  obtain ⟨hx, hZ, hown, hby, -⟩ := ok
  intro T locs X eT N
  obtain ⟨s₂, o, st, r⟩ := w T locs X eT N
  exact ⟨s₂, o, XS.lrem X.here hx rfl (hb hby hd) rfl hy (by rw [lrem_mod]; exact st), r⟩
theorem w_goto (ok : Ok K Z n0 own code maxL ret nm) {o : Int} {pc' : Nat} (hd : decode code pc = .ok (.goto o, 3)) (hp : (pc : Int) + o = (pc' : Int)) (w : W K l R n0 P h k n (pc') L (S)) : W K l R n0 P h k n pc L (S) := by
  obtain ⟨p, e, s, m, args, below, meth, c⟩ := K
  obtain ⟨hx, hZ, hown, hby, -⟩ := ok
  intro T locs X eT N
  obtain ⟨s₂, o, st, r⟩ := w T locs X eT N
  exact ⟨s₂, o, XS.goto X.here hx rfl (pc0 := pc) (pc' := pc') rfl (hb hby hd) (by rw [hp]; exact Int.natCast_nonneg _) (by rw [hp]; rfl) st, r⟩
theorem w_ldcI (ok : Ok K Z n0 own code maxL ret nm) {i : Nat} {v : Int32} (hd : decode code pc = .ok (.ldc i, 2)) (w1 : (Cond.constant own i v).before a0 Z = true) (w : W K l R n0 P h k n (pc + 2) L (.int v :: S)) : W K l R n0 P h k n pc L (S) := by
  obtain ⟨p, e, s, m, args, below, meth, c⟩ := K
  obtain ⟨hx, hZ, hown, hby, -⟩ := ok
  intro T locs X eT N
  obtain ⟨s₂, o, st, r⟩ := w T locs X eT N
  exact ⟨s₂, o, X.ldcInt hx hown (mvT hZ w1) (g := mkF m pc L S) rfl (hb hby hd) _ st, r⟩
theorem w_ldc2J (ok : Ok K Z n0 own code maxL ret nm) {i : Nat} {v : Int64} (hd : decode code pc = .ok (.ldc2_w i, 3)) (w1 : (Cond.constantLong own i v).before a0 Z = true) (w : W K l R n0 P h k n (pc + 3) L (.long v :: S)) : W K l R n0 P h k n pc L (S) := by
  obtain ⟨p, e, s, m, args, below, meth, c⟩ := K
  obtain ⟨hx, hZ, hown, hby, -⟩ := ok
  intro T locs X eT N
  obtain ⟨s₂, o, st, r⟩ := w T locs X eT N
  exact ⟨s₂, o, X.ldc2Long hx hown (mvT hZ w1) (g := mkF m pc L S) rfl (hb hby hd) _ st, r⟩
theorem w_icmp_eq (ok : Ok K Z n0 own code maxL ret nm) {x y : Int32} {o : Int} {pc' : Nat} (hd : decode code pc = .ok (.if_icmp .eq o, 3)) (hp : (pc : Int) + o = (pc' : Int)) (wy : x = y → W K l R n0 P h k n pc' L S) (wn : ¬ x = y → W K l R n0 P h k n (pc + 3) L S) : W K l R n0 P h k n pc L (.int y :: .int x :: S) := by
  obtain ⟨p, e, s, m, args, below, meth, c⟩ := K
  obtain ⟨hx, hZ, hown, hby, -⟩ := ok
  intro T locs X eT N
  by_cases hc : x = y
  · obtain ⟨s₂, o, st, r⟩ := wy hc T locs X eT N
    exact ⟨s₂, o, XS.icmpYes X.here hx rfl (pc0 := pc) (pc' := pc') rfl (hb hby hd) rfl (teq hc).1 (by rw [hp]; exact Int.natCast_nonneg _) (by rw [hp]; rfl) st, r⟩
  · obtain ⟨s₂, o, st, r⟩ := wn hc T locs X eT N
    exact ⟨s₂, o, XS.icmpNo X.here hx rfl (hb hby hd) rfl (feq hc).1 st, r⟩
theorem w_if_eq (ok : Ok K Z n0 own code maxL ret nm) {x : Int32} {o : Int} {pc' : Nat} (hd : decode code pc = .ok (.ifCond .eq o, 3)) (hp : (pc : Int) + o = (pc' : Int)) (wy : x = 0 → W K l R n0 P h k n pc' L S) (wn : ¬ x = 0 → W K l R n0 P h k n (pc + 3) L S) : W K l R n0 P h k n pc L (.int x :: S) := by
  obtain ⟨p, e, s, m, args, below, meth, c⟩ := K
  obtain ⟨hx, hZ, hown, hby, -⟩ := ok
  intro T locs X eT N
  by_cases hc : x = 0
  · obtain ⟨s₂, o, st, r⟩ := wy hc T locs X eT N
    exact ⟨s₂, o, XS.ifYes X.here hx rfl (pc0 := pc) (pc' := pc') rfl (hb hby hd) rfl ((if0 _ _).trans (teq hc).1) (by rw [hp]; exact Int.natCast_nonneg _) (by rw [hp]; rfl) st, r⟩
  · obtain ⟨s₂, o, st, r⟩ := wn hc T locs X eT N
    exact ⟨s₂, o, XS.ifNo X.here hx rfl (hb hby hd) rfl ((if0 _ _).trans (feq hc).1) st, r⟩
theorem w_icmp_ne (ok : Ok K Z n0 own code maxL ret nm) {x y : Int32} {o : Int} {pc' : Nat} (hd : decode code pc = .ok (.if_icmp .ne o, 3)) (hp : (pc : Int) + o = (pc' : Int)) (wy : ¬ x = y → W K l R n0 P h k n pc' L S) (wn : x = y → W K l R n0 P h k n (pc + 3) L S) : W K l R n0 P h k n pc L (.int y :: .int x :: S) := by
  obtain ⟨p, e, s, m, args, below, meth, c⟩ := K
  obtain ⟨hx, hZ, hown, hby, -⟩ := ok
  intro T locs X eT N
  by_cases hc : x = y
  · obtain ⟨s₂, o, st, r⟩ := wn hc T locs X eT N
    exact ⟨s₂, o, XS.icmpNo X.here hx rfl (hb hby hd) rfl (teq hc).2 st, r⟩
  · obtain ⟨s₂, o, st, r⟩ := wy hc T locs X eT N
    exact ⟨s₂, o, XS.icmpYes X.here hx rfl (pc0 := pc) (pc' := pc') rfl (hb hby hd) rfl (feq hc).2 (by rw [hp]; exact Int.natCast_nonneg _) (by rw [hp]; rfl) st, r⟩
theorem w_if_ne (ok : Ok K Z n0 own code maxL ret nm) {x : Int32} {o : Int} {pc' : Nat} (hd : decode code pc = .ok (.ifCond .ne o, 3)) (hp : (pc : Int) + o = (pc' : Int)) (wy : ¬ x = 0 → W K l R n0 P h k n pc' L S) (wn : x = 0 → W K l R n0 P h k n (pc + 3) L S) : W K l R n0 P h k n pc L (.int x :: S) := by
  obtain ⟨p, e, s, m, args, below, meth, c⟩ := K
  obtain ⟨hx, hZ, hown, hby, -⟩ := ok
  intro T locs X eT N
  by_cases hc : x = 0
  · obtain ⟨s₂, o, st, r⟩ := wn hc T locs X eT N
    exact ⟨s₂, o, XS.ifNo X.here hx rfl (hb hby hd) rfl ((if0 _ _).trans (teq hc).2) st, r⟩
  · obtain ⟨s₂, o, st, r⟩ := wy hc T locs X eT N
    exact ⟨s₂, o, XS.ifYes X.here hx rfl (pc0 := pc) (pc' := pc') rfl (hb hby hd) rfl ((if0 _ _).trans (feq hc).2) (by rw [hp]; exact Int.natCast_nonneg _) (by rw [hp]; rfl) st, r⟩
theorem w_icmp_lt (ok : Ok K Z n0 own code maxL ret nm) {x y : Int32} {o : Int} {pc' : Nat} (hd : decode code pc = .ok (.if_icmp .lt o, 3)) (hp : (pc : Int) + o = (pc' : Int)) (wy : x < y → W K l R n0 P h k n pc' L S) (wn : ¬ x < y → W K l R n0 P h k n (pc + 3) L S) : W K l R n0 P h k n pc L (.int y :: .int x :: S) := by
  obtain ⟨p, e, s, m, args, below, meth, c⟩ := K
  obtain ⟨hx, hZ, hown, hby, -⟩ := ok
  intro T locs X eT N
  by_cases hc : x < y
  · obtain ⟨s₂, o, st, r⟩ := wy hc T locs X eT N
    exact ⟨s₂, o, XS.icmpYes X.here hx rfl (pc0 := pc) (pc' := pc') rfl (hb hby hd) rfl (tlt hc).1 (by rw [hp]; exact Int.natCast_nonneg _) (by rw [hp]; rfl) st, r⟩
  · obtain ⟨s₂, o, st, r⟩ := wn hc T locs X eT N
    exact ⟨s₂, o, XS.icmpNo X.here hx rfl (hb hby hd) rfl (flt hc).1 st, r⟩
theorem w_if_lt (ok : Ok K Z n0 own code maxL ret nm) {x : Int32} {o : Int} {pc' : Nat} (hd : decode code pc = .ok (.ifCond .lt o, 3)) (hp : (pc : Int) + o = (pc' : Int)) (wy : x < 0 → W K l R n0 P h k n pc' L S) (wn : ¬ x < 0 → W K l R n0 P h k n (pc + 3) L S) : W K l R n0 P h k n pc L (.int x :: S) := by
  obtain ⟨p, e, s, m, args, below, meth, c⟩ := K
  obtain ⟨hx, hZ, hown, hby, -⟩ := ok
  intro T locs X eT N
  by_cases hc : x < 0
  · obtain ⟨s₂, o, st, r⟩ := wy hc T locs X eT N
    exact ⟨s₂, o, XS.ifYes X.here hx rfl (pc0 := pc) (pc' := pc') rfl (hb hby hd) rfl ((if0 _ _).trans (tlt hc).1) (by rw [hp]; exact Int.natCast_nonneg _) (by rw [hp]; rfl) st, r⟩
  · obtain ⟨s₂, o, st, r⟩ := wn hc T locs X eT N
    exact ⟨s₂, o, XS.ifNo X.here hx rfl (hb hby hd) rfl ((if0 _ _).trans (flt hc).1) st, r⟩
theorem w_icmp_ge (ok : Ok K Z n0 own code maxL ret nm) {x y : Int32} {o : Int} {pc' : Nat} (hd : decode code pc = .ok (.if_icmp .ge o, 3)) (hp : (pc : Int) + o = (pc' : Int)) (wy : ¬ x < y → W K l R n0 P h k n pc' L S) (wn : x < y → W K l R n0 P h k n (pc + 3) L S) : W K l R n0 P h k n pc L (.int y :: .int x :: S) := by
  obtain ⟨p, e, s, m, args, below, meth, c⟩ := K
  obtain ⟨hx, hZ, hown, hby, -⟩ := ok
  intro T locs X eT N
  by_cases hc : x < y
  · obtain ⟨s₂, o, st, r⟩ := wn hc T locs X eT N
    exact ⟨s₂, o, XS.icmpNo X.here hx rfl (hb hby hd) rfl (tlt hc).2.1 st, r⟩
  · obtain ⟨s₂, o, st, r⟩ := wy hc T locs X eT N
    exact ⟨s₂, o, XS.icmpYes X.here hx rfl (pc0 := pc) (pc' := pc') rfl (hb hby hd) rfl (flt hc).2.1 (by rw [hp]; exact Int.natCast_nonneg _) (by rw [hp]; rfl) st, r⟩
theorem w_if_ge (ok : Ok K Z n0 own code maxL ret nm) {x : Int32} {o : Int} {pc' : Nat} (hd : decode code pc = .ok (.ifCond .ge o, 3)) (hp : (pc : Int) + o = (pc' : Int)) (wy : ¬ x < 0 → W K l R n0 P h k n pc' L S) (wn : x < 0 → W K l R n0 P h k n (pc + 3) L S) : W K l R n0 P h k n pc L (.int x :: S) := by
  obtain ⟨p, e, s, m, args, below, meth, c⟩ := K
  obtain ⟨hx, hZ, hown, hby, -⟩ := ok
  intro T locs X eT N
  by_cases hc : x < 0
  · obtain ⟨s₂, o, st, r⟩ := wn hc T locs X eT N
    exact ⟨s₂, o, XS.ifNo X.here hx rfl (hb hby hd) rfl ((if0 _ _).trans (tlt hc).2.1) st, r⟩
  · obtain ⟨s₂, o, st, r⟩ := wy hc T locs X eT N
    exact ⟨s₂, o, XS.ifYes X.here hx rfl (pc0 := pc) (pc' := pc') rfl (hb hby hd) rfl ((if0 _ _).trans (flt hc).2.1) (by rw [hp]; exact Int.natCast_nonneg _) (by rw [hp]; rfl) st, r⟩
theorem w_icmp_gt (ok : Ok K Z n0 own code maxL ret nm) {x y : Int32} {o : Int} {pc' : Nat} (hd : decode code pc = .ok (.if_icmp .gt o, 3)) (hp : (pc : Int) + o = (pc' : Int)) (wy : y < x → W K l R n0 P h k n pc' L S) (wn : ¬ y < x → W K l R n0 P h k n (pc + 3) L S) : W K l R n0 P h k n pc L (.int y :: .int x :: S) := by
  obtain ⟨p, e, s, m, args, below, meth, c⟩ := K
  obtain ⟨hx, hZ, hown, hby, -⟩ := ok
  intro T locs X eT N
  by_cases hc : y < x
  · obtain ⟨s₂, o, st, r⟩ := wy hc T locs X eT N
    exact ⟨s₂, o, XS.icmpYes X.here hx rfl (pc0 := pc) (pc' := pc') rfl (hb hby hd) rfl (tlt hc).2.2.1 (by rw [hp]; exact Int.natCast_nonneg _) (by rw [hp]; rfl) st, r⟩
  · obtain ⟨s₂, o, st, r⟩ := wn hc T locs X eT N
    exact ⟨s₂, o, XS.icmpNo X.here hx rfl (hb hby hd) rfl (flt hc).2.2.1 st, r⟩
theorem w_if_gt (ok : Ok K Z n0 own code maxL ret nm) {x : Int32} {o : Int} {pc' : Nat} (hd : decode code pc = .ok (.ifCond .gt o, 3)) (hp : (pc : Int) + o = (pc' : Int)) (wy : 0 < x → W K l R n0 P h k n pc' L S) (wn : ¬ 0 < x → W K l R n0 P h k n (pc + 3) L S) : W K l R n0 P h k n pc L (.int x :: S) := by
  obtain ⟨p, e, s, m, args, below, meth, c⟩ := K
  obtain ⟨hx, hZ, hown, hby, -⟩ := ok
  intro T locs X eT N
  by_cases hc : 0 < x
  · obtain ⟨s₂, o, st, r⟩ := wy hc T locs X eT N
    exact ⟨s₂, o, XS.ifYes X.here hx rfl (pc0 := pc) (pc' := pc') rfl (hb hby hd) rfl ((if0 _ _).trans (tlt hc).2.2.1) (by rw [hp]; exact Int.natCast_nonneg _) (by rw [hp]; rfl) st, r⟩
  · obtain ⟨s₂, o, st, r⟩ := wn hc T locs X eT N
    exact ⟨s₂, o, XS.ifNo X.here hx rfl (hb hby hd) rfl ((if0 _ _).trans (flt hc).2.2.1) st, r⟩
theorem w_icmp_le (ok : Ok K Z n0 own code maxL ret nm) {x y : Int32} {o : Int} {pc' : Nat} (hd : decode code pc = .ok (.if_icmp .le o, 3)) (hp : (pc : Int) + o = (pc' : Int)) (wy : ¬ y < x → W K l R n0 P h k n pc' L S) (wn : y < x → W K l R n0 P h k n (pc + 3) L S) : W K l R n0 P h k n pc L (.int y :: .int x :: S) := by
  obtain ⟨p, e, s, m, args, below, meth, c⟩ := K
  obtain ⟨hx, hZ, hown, hby, -⟩ := ok
  intro T locs X eT N
  by_cases hc : y < x
  · obtain ⟨s₂, o, st, r⟩ := wn hc T locs X eT N
    exact ⟨s₂, o, XS.icmpNo X.here hx rfl (hb hby hd) rfl (tlt hc).2.2.2 st, r⟩
  · obtain ⟨s₂, o, st, r⟩ := wy hc T locs X eT N
    exact ⟨s₂, o, XS.icmpYes X.here hx rfl (pc0 := pc) (pc' := pc') rfl (hb hby hd) rfl (flt hc).2.2.2 (by rw [hp]; exact Int.natCast_nonneg _) (by rw [hp]; rfl) st, r⟩
theorem w_if_le (ok : Ok K Z n0 own code maxL ret nm) {x : Int32} {o : Int} {pc' : Nat} (hd : decode code pc = .ok (.ifCond .le o, 3)) (hp : (pc : Int) + o = (pc' : Int)) (wy : ¬ 0 < x → W K l R n0 P h k n pc' L S) (wn : 0 < x → W K l R n0 P h k n (pc + 3) L S) : W K l R n0 P h k n pc L (.int x :: S) := by
  obtain ⟨p, e, s, m, args, below, meth, c⟩ := K
  obtain ⟨hx, hZ, hown, hby, -⟩ := ok
  intro T locs X eT N
  by_cases hc : 0 < x
  · obtain ⟨s₂, o, st, r⟩ := wn hc T locs X eT N
    exact ⟨s₂, o, XS.ifNo X.here hx rfl (hb hby hd) rfl ((if0 _ _).trans (tlt hc).2.2.2) st, r⟩
  · obtain ⟨s₂, o, st, r⟩ := wy hc T locs X eT N
    exact ⟨s₂, o, XS.ifYes X.here hx rfl (pc0 := pc) (pc' := pc') rfl (hb hby hd) rfl ((if0 _ _).trans (flt hc).2.2.2) (by rw [hp]; exact Int.natCast_nonneg _) (by rw [hp]; rfl) st, r⟩
theorem w_lcmp (ok : Ok K Z n0 own code maxL ret nm) {x y : Int64} (hd : decode code pc = .ok (.lcmp, 1)) (w : W K l R n0 P h k n (pc + 1) L (.int (lcmpW x y) :: S)) : W K l R n0 P h k n pc L (.long y :: .long x :: S) := by
  obtain ⟨p, e, s, m, args, below, meth, c⟩ := K
  obtain ⟨hx, hZ, hown, hby, -⟩ := ok
  intro T locs X eT N
  obtain ⟨s₂, o, st, r⟩ := w T locs X eT N
  exact ⟨s₂, o, XS.lcmp X.here hx rfl (hb hby hd) rfl st, r⟩
theorem w_lcmp_eq (ok : Ok K Z n0 own code maxL ret nm) {x y : Int64} {o : Int} {pc' : Nat} (hd : decode code pc = .ok (.lcmp, 1)) (hd2 : decode code (pc + 1) = .ok (.ifCond .eq o, 3)) (hp : ((pc + 1 : Nat) : Int) + o = (pc' : Int)) (wy : x = y → W K l R n0 P h k n pc' L S) (wn : ¬ x = y → W K l R n0 P h k n (pc + 4) L S) : W K l R n0 P h k n pc L (.long y :: .long x :: S) :=
  w_lcmp ok hd (w_if_eq ok hd2 hp (fun hc => wy ((lw_eq x y).mp hc)) (fun hc => wn (fun q => hc ((lw_eq x y).mpr q))))
theorem w_lcmp_ne (ok : Ok K Z n0 own code maxL ret nm) {x y : Int64} {o : Int} {pc' : Nat} (hd : decode code pc = .ok (.lcmp, 1)) (hd2 : decode code (pc + 1) = .ok (.ifCond .ne o, 3)) (hp : ((pc + 1 : Nat) : Int) + o = (pc' : Int)) (wy : ¬ x = y → W K l R n0 P h k n pc' L S) (wn : x = y → W K l R n0 P h k n (pc + 4) L S) : W K l R n0 P h k n pc L (.long y :: .long x :: S) :=
  w_lcmp ok hd (w_if_ne ok hd2 hp (fun hc => wy (fun q => hc ((lw_eq x y).mpr q))) (fun hc => wn ((lw_eq x y).mp hc)))
theorem w_lcmp_lt (ok : Ok K Z n0 own code maxL ret nm) {x y : Int64} {o : Int} {pc' : Nat} (hd : decode code pc = .ok (.lcmp, 1)) (hd2 : decode code (pc + 1) = .ok (.ifCond .lt o, 3)) (hp : ((pc + 1 : Nat) : Int) + o = (pc' : Int)) (wy : x < y → W K l R n0 P h k n pc' L S) (wn : ¬ x < y → W K l R n0 P h k n (pc + 4) L S) : W K l R n0 P h k n pc L (.long y :: .long x :: S) :=
  w_lcmp ok hd (w_if_lt ok hd2 hp (fun hc => wy ((lw_lt x y).mp hc)) (fun hc => wn (fun q => hc ((lw_lt x y).mpr q))))
theorem w_lcmp_ge (ok : Ok K Z n0 own code maxL ret nm) {x y : Int64} {o : Int} {pc' : Nat} (hd : decode code pc = .ok (.lcmp, 1)) (hd2 : decode code (pc + 1) = .ok (.ifCond .ge o, 3)) (hp : ((pc + 1 : Nat) : Int) + o = (pc' : Int)) (wy : ¬ x < y → W K l R n0 P h k n pc' L S) (wn : x < y → W K l R n0 P h k n (pc + 4) L S) : W K l R n0 P h k n pc L (.long y :: .long x :: S) :=
  w_lcmp ok hd (w_if_ge ok hd2 hp (fun hc => wy (fun q => hc ((lw_lt x y).mpr q))) (fun hc => wn ((lw_lt x y).mp hc)))
theorem w_lcmp_gt (ok : Ok K Z n0 own code maxL ret nm) {x y : Int64} {o : Int} {pc' : Nat} (hd : decode code pc = .ok (.lcmp, 1)) (hd2 : decode code (pc + 1) = .ok (.ifCond .gt o, 3)) (hp : ((pc + 1 : Nat) : Int) + o = (pc' : Int)) (wy : y < x → W K l R n0 P h k n pc' L S) (wn : ¬ y < x → W K l R n0 P h k n (pc + 4) L S) : W K l R n0 P h k n pc L (.long y :: .long x :: S) :=
  w_lcmp ok hd (w_if_gt ok hd2 hp (fun hc => wy ((lw_gt x y).mp hc)) (fun hc => wn (fun q => hc ((lw_gt x y).mpr q))))
theorem w_lcmp_le (ok : Ok K Z n0 own code maxL ret nm) {x y : Int64} {o : Int} {pc' : Nat} (hd : decode code pc = .ok (.lcmp, 1)) (hd2 : decode code (pc + 1) = .ok (.ifCond .le o, 3)) (hp : ((pc + 1 : Nat) : Int) + o = (pc' : Int)) (wy : ¬ y < x → W K l R n0 P h k n pc' L S) (wn : y < x → W K l R n0 P h k n (pc + 4) L S) : W K l R n0 P h k n pc L (.long y :: .long x :: S) :=
  w_lcmp ok hd (w_if_le ok hd2 hp (fun hc => wy (fun q => hc ((lw_gt x y).mpr q))) (fun hc => wn ((lw_gt x y).mp hc)))
theorem w_out {t : FieldType} {i : Instr} {w : Value} (ok : Ok K Z n0 own code maxL (some t) nm) (hn : narrow t w = w) (hi : (i = .ireturn ∧ (t = .int ∨ t = .boolean ∨ t = .byte ∨ t = .char ∨ t = .short) ∧ ∃ z, w = .int z) ∨ (i = .lreturn ∧ t = .long ∧ ∃ z, w = .long z) ∨ (i = .dreturn ∧ t = .double ∧ ∃ z, w = .double z) ∨ (i = .freturn ∧ t = .float ∧ ∃ z, w = .float z) ∨ (i = .areturn ∧ t.isReference = true ∧ w.isRef = true))
    (hd : decode code pc = .ok (i, 1)) (hk : k ≤ R.cells) (hs : n ≤ R.slots) (hP : P (some w) h) : W K l R n0 P h k n pc L (w :: S) := by
  obtain ⟨p, e, s, m, args, below, meth, c⟩ := K
  obtain ⟨hx, hZ, hown, hby, hml, hret, hnm, hlk, hn0⟩ := ok
  intro T locs X eT N
  obtain ⟨fs, hr, hrun, hended, hW, hsame⟩ := X.leave (v := some w) (fun q => by rw [hret] at q; cases q)
  exact ⟨_, _, retOut X hx hret hn hi (hb hby hd) hr, hrun, hended, _, _, rfl, ⟨by show P (some w) T.heap; rw [eT]; exact hP, N⟩, ⟨_, rfl⟩, hW, hsame.mono hk hs⟩
theorem w_iret {z : Int32} (ok : Ok K Z n0 own code maxL (some .int) nm) (hd : decode code pc = .ok (.ireturn, 1)) (hk : k ≤ R.cells) (hs : n ≤ R.slots) (hP : P (some (.int z)) h) : W K l R n0 P h k n pc L (.int z :: S) :=
  w_out ok rfl (Or.inl ⟨rfl, by simp, z, rfl⟩) hd hk hs hP
theorem w_lret {z : Int64} (ok : Ok K Z n0 own code maxL (some .long) nm) (hd : decode code pc = .ok (.lreturn, 1)) (hk : k ≤ R.cells) (hs : n ≤ R.slots) (hP : P (some (.long z)) h) : W K l R n0 P h k n pc L (.long z :: S) :=
  w_out ok rfl (Or.inr (Or.inl ⟨rfl, rfl, z, rfl⟩)) hd hk hs hP
theorem w_aret {w : Value} {t : FieldType} (ok : Ok K Z n0 own code maxL (some t) nm) (ht : t.isReference = true) (hw : w.isRef = true) (hd : decode code pc = .ok (.areturn, 1)) (hk : k ≤ R.cells) (hs : n ≤ R.slots) (hP : P (some w) h) : W K l R n0 P h k n pc L (w :: S) :=
  w_out ok (by rcases ref_cases hw with rfl | ⟨_, rfl⟩ <;> cases t <;> first | rfl | cases ht) (Or.inr (Or.inr (Or.inr (Or.inr ⟨rfl, ht, hw⟩)))) hd hk hs hP
theorem w_bret {z : Int32} {t : FieldType} (ok : Ok K Z n0 own code maxL (some t) nm) (ht : t = .boolean ∨ t = .byte ∨ t = .char ∨ t = .short) (hd : decode code pc = .ok (.ireturn, 1)) (hk : k ≤ R.cells) (hs : n ≤ R.slots) (hP : P (some (.int (nar t z))) h) : W K l R n0 P h k n pc L (.int z :: S) := by
  obtain ⟨p, e, s, m, args, below, meth, c⟩ := K
  obtain ⟨hx, hZ, hown, hby, hml, hret, hnm, hlk, hn0⟩ := ok
  intro T locs X eT N
  obtain ⟨fs, hr, hrun, hended, hW, hsame⟩ := X.leave (v := some (.int (nar t z))) (fun q => by rw [hret] at q; cases q)
  exact ⟨_, _, retN X hx hret ht (hb hby hd) hr, hrun, hended, _, _, rfl, ⟨by show P (some (.int (nar t z))) T.heap; rw [eT]; exact hP, N⟩, ⟨_, rfl⟩, hW, hsame.mono hk hs⟩
theorem w_ret (ok : Ok K Z n0 own code maxL none nm) (hd : decode code pc = .ok (.return_, 1)) (hk : k ≤ R.cells) (hs : n ≤ R.slots) (hP : P none h) : W K l R n0 P h k n pc L [] := by
  obtain ⟨p, e, s, m, args, below, meth, c⟩ := K
  obtain ⟨hx, hZ, hown, hby, hml, hret, hnm, hlk, hn0⟩ := ok
  intro T locs X eT N
  obtain ⟨fs, hr, hrun, hended, hW, hsame⟩ := X.leave (v := none) (fun _ => rfl)
  exact ⟨_, _, X.returnOut hx hret (hb hby hd) hr, hrun, hended, _, _, rfl, ⟨by show P none T.heap; rw [eT]; exact hP, N⟩, ⟨_, rfl⟩, hW, hsame.mono hk hs⟩
abbrev notHandle (y : MethodName) : Prop := y.cls ≠ "java/lang/invoke/MethodHandle" ∧ y.cls ≠ "java/lang/invoke/VarHandle"
theorem w_callS (ok : Ok K Z n0 own code maxL ret nm) {index : Nat} {y : MethodName} {bytes : ByteArray} {mL : Nat} {rt : Option FieldType} {rm : Room} {argsL rest : List Value} {Q : Option Value → Heap → Prop} {ps : List FieldType} {r : Option FieldType}
    (hd : decode code pc = .ok (.invokestatic index, 3)) (w1 : (Cond.methodLink own index y).before a0 Z = true) (w2 : (Cond.static y).before a0 Z = true) (w3 : (Cond.initialized y.cls).before a0 Z = true) (w4 : (Cond.code y bytes mL rt).before a0 Z = true) (hy : notHandle y)
    (pd : parseMethodDescriptor y.desc = some ⟨ps, r⟩) (hlen : argsL.length = ps.length) (hL : L.size = maxL) (hf : rm.frames + 1 ≤ R.frames) (hl : (rest.map fun v => v.category).sum + (mL + 11) + rm.locals ≤ R.locals) (hc : k + rm.cells ≤ R.cells) (hs : n + rm.slots ≤ R.slots)
    (hM : n0 ≤ h.size → Met l Z n0 y bytes mL rt [] rm argsL.toArray h Q) (w : ∀ v h', Q v h' → W K l R n0 P h' (k + rm.cells) (n + rm.slots) (pc + 3) L (v.toList ++ rest)) : W K l R n0 P h k n pc L (argsL.reverse ++ rest) := by
  obtain ⟨p, e, s, m, args, below, meth, c⟩ := K
  obtain ⟨hx, hZ, hown, hby, hml, hret, hnm, hlk, hn0⟩ := ok
  intro T locs X eT N
  have hM := hM (by rw [← eT]; exact Nat.le_trans hn0 X.same.2.1)
  obtain ⟨v, _, ⟨T1, L1, k1, n1⟩, -, X1, ⟨Lc, ⟨hQ, N1⟩, l1, y1, z1⟩, st⟩ := Jvm.LawKit.callS X hx (y := y) hown (mvT hZ w1) (mvT hZ w2) (mvT hZ w3) (mvT hZ w4) hy (backOf (W := (rest.map fun v => v.category).sum) (Q := fun v h L => Q v h ∧ Fr n0 L) hM hZ w4 w3 hf hl) (g := mkF m pc L (argsL.reverse ++ rest)) rfl (hL.trans hml.symm) (argsL := argsL) (rest := rest) (lenOf pd hlen) rfl (by show 2 * 0 + _ ≤ _; omega) (hb hby hd) (fun _ _ => ⟨rfl, eT, hc, hs⟩)
  dsimp only [Pt.U, Pt.locs, Pt.cells, Pt.slots] at X1 l1 y1 z1 st hQ
  subst l1 y1 z1
  obtain ⟨s₂, o, st2, r2⟩ := w v _ hQ T1 _ X1 rfl (Fr.app N N1)
  exact ⟨s₂, o, st _ st2, r2⟩
theorem pa_z {N : Nat} (q : N < 2 ^ 31) : ∃ z : Int32, N = z.toNatClampNeg ∧ ¬ z < 0 := by
  have e : (Int32.ofNat N).toInt = N := Int32.toInt_ofNat_of_lt q
  refine ⟨Int32.ofNat N, ?_, ?_⟩
  · simp [Int32.toNatClampNeg, e]
  · rw [Int32.lt_iff_toInt_lt, e]; simp
def PA (ty : FieldType) (Z : State) (h : Heap) (a : Addr) (vs : List Value) : Prop := ∃ c : Cell, Arr Z h a c ty ∧ vs.length < 2 ^ 31 ∧ c.slots = vs.toArray ∧ ∀ v ∈ vs, fits ty v = true
theorem pa_in {c : Cell} {vs : List Value} {j : Int32} (q : c.slots = vs.toArray) (h0 : ¬ j < 0) (hj : j.toNatClampNeg < vs.length) : ¬ (j < 0 ∨ c.slots.size ≤ j.toNatClampNeg) := by
  rw [q]; rintro (y | y)
  · exact h0 y
  · simp at y; omega
section PAs
variable {ty : FieldType} {h' : Heap} {a b : Addr} {vs : List Value} {v : Value} {sl : Nat} {ws : List Addr}
theorem PA.lt (A : PA ty Z h a vs) : a < h.size := by obtain ⟨c, A, -⟩ := A; exact A.lt
theorem PA.len (A : PA ty Z h a vs) : vs.length < 2 ^ 31 := by obtain ⟨c, A, q, -⟩ := A; exact q
theorem PA.ext (A : PA ty Z h a vs) (E : Ext h h') : PA ty Z h' a vs := by obtain ⟨c, A, r⟩ := A; exact ⟨c, A.ext E, r⟩
theorem PA.other (A : PA ty Z h b vs) (W1 : Wr h h' a sl v) (ne : b ≠ a) : PA ty Z h' b vs := by obtain ⟨c, A, r⟩ := A; exact ⟨c, A.other W1 ne, r⟩
theorem PA.keep (A : PA ty Z h a vs) (K1 : Keep h h' ws) (q : a ∉ ws) : PA ty Z h' a vs := by obtain ⟨c, A, r⟩ := A; exact ⟨c, ⟨K1.2.1 a c A.1 q, A.2⟩, r⟩
theorem PA.set (A : PA ty Z h a vs) (W1 : Wr h h' a sl v) (hv : fits ty v = true) : PA ty Z h' a (vs.set sl v) := by
  obtain ⟨c, A, hl, hs, hf⟩ := A
  refine ⟨c.setSlot sl v, A.same W1, by rw [List.length_set]; exact hl, ?_, ?_⟩
  · show c.slots.setIfInBounds sl v = _
    rw [hs]; simp
  · intro u hu
    rcases List.mem_or_eq_of_mem_set hu with q | rfl
    · exact hf _ q
    · exact hv
theorem PA.arv (A : PA ty Z h a vs) {z : Int32} (hz : vs.length = z.toNatClampNeg) (hz0 : ¬ z < 0) (d : Value) : ∃ k, Arv Z h a k ty z vs d := by
  obtain ⟨c, A, hl, hs, hf⟩ := A
  refine ⟨c.cls, c, A, rfl, by rw [hs]; simpa using hz, hz0, fun i hi => ?_, fun i hi => ?_⟩
  · rw [hs] at hi ⊢
    simp at hi
    simp [List.getD_eq_getElem?_getD, List.getElem?_eq_getElem hi]
  · rw [hs] at hi
    simp at hi
    rw [List.getD_eq_getElem?_getD, List.getElem?_eq_getElem hi]
    exact hf _ (List.getElem_mem hi)
theorem PA.of_arv {k : ClassId} {z : Int32} {d : Value} (B : Arv Z h a k ty z vs d) (hl : vs.length = z.toNatClampNeg) : PA ty Z h a vs := by
  obtain ⟨c, A, -, S1, N1, H, G⟩ := B
  have e : c.slots = vs.toArray := by
    apply Array.ext_getElem?
    intro i
    by_cases q : i < c.slots.size
    · rw [H i q]
      have q2 : i < vs.length := by omega
      simp [List.getD_eq_getElem?_getD, List.getElem?_eq_getElem q2]
    · rw [Array.getElem?_eq_none (by omega)]
      simp; omega
  refine ⟨c, A, by have := (back32 N1).2; omega, e, fun v hv => ?_⟩
  obtain ⟨i, hi, rfl⟩ := List.getElem_of_mem hv
  have q := G i (by omega)
  rw [List.getD_eq_getElem?_getD, List.getElem?_eq_getElem hi] at q
  exact q
end PAs
theorem w_arraylength (ok : Ok K Z n0 own code maxL ret nm) {ty : FieldType} {a : Addr} {vs : List Value} {z : Int32} (hd : decode code pc = .ok (.arraylength, 1)) (A : PA ty Z h a vs) (hz : vs.length = z.toNatClampNeg) (hz0 : ¬ z < 0) (w : W K l R n0 P h k n (pc + 1) L (.int z :: S)) : W K l R n0 P h k n pc L (.ref a :: S) := by
  obtain ⟨p, e, s, m, args, below, meth, c⟩ := K
  obtain ⟨hx, hZ, hown, hby, -⟩ := ok
  intro T locs X eT N
  obtain ⟨s₂, o, st, r⟩ := w T locs X eT N
  obtain ⟨cl, A, q1, q2, q3⟩ := A
  have e1 : cl.slots.size.toInt32 = z := len_of (by rw [q2]; simpa using hz) hz0
  exact ⟨s₂, o, X.arraylength hx (by rw [eT]; exact A.1) (State.isArrayOf_alike hZ.alike A.2.1) (g := mkF m pc L (.ref a :: S)) rfl rfl (hb hby hd) _ (by rw [e1]; exact st), r⟩
theorem w_newarray (ok : Ok K Z n0 own code maxL ret nm) {aty : ArrayType} {z : Int32} (hd : decode code pc = .ok (.newarray aty, 2)) (w1 : (Cond.arrayClass (newarray.typeOf aty)).before a0 Z = true) (hz : ¬ z < 0) {cap : Nat} (hcap : z.toNatClampNeg ≤ cap) (hb1 : cap * 8 ≤ 536870912) (hc : k + 1 ≤ R.cells) (hl : n + cap ≤ R.slots)
    (w : ∀ h' a, a = h.size → n0 ≤ a → Ext h h' → PA (newarray.typeOf aty) Z h' a (List.replicate z.toNatClampNeg (defaultValue (newarray.typeOf aty))) → W K l R n0 P h' (k + 1) (n + cap) (pc + 2) L (.ref a :: S)) : W K l R n0 P h k n pc L (.int z :: S) := by
  obtain ⟨p, e, s, m, args, below, meth, c⟩ := K
  obtain ⟨hx, hZ, hown, hby, hml, hret, hnm, hlk, hn0⟩ := ok
  intro T locs X eT N
  obtain ⟨T1, h1, cA, X1, e1, E1, A1, st⟩ := newP X hx hZ w1 eT (g := mkF m pc L (.int z :: S)) rfl (hb hby hd) rfl hz hcap hb1 hc hl
  have A2 : PA (newarray.typeOf aty) Z h1 h.size (List.replicate z.toNatClampNeg (defaultValue (newarray.typeOf aty))) := by
    refine ⟨_, A1, by simpa using (back32 hz).2, by simp [newA], fun v hv => ?_⟩
    rw [List.eq_of_mem_replicate hv]
    cases aty <;> rfl
  obtain ⟨s₂, o, st2, r⟩ := w h1 h.size rfl (by rw [← eT]; exact Nat.le_trans hn0 X.same.2.1) E1 A2 T1 _ X1 e1 N
  exact ⟨s₂, o, st _ st2, r⟩
theorem w_arraycopy (ok : Ok K Z n0 own code maxL ret nm) {index : Nat} {ty : FieldType} {a b : Addr} {vs vd : List Value} {sp dp nn : Int32} {sp' dp' nn' : Nat} (hd : decode code pc = .ok (.invokestatic index, 3)) (w1 : (Cond.methodLink own index Jvm.Stand.acN).before a0 Z = true) (w2 : (Cond.native Jvm.Stand.acN).before a0 Z = true) (w3 : (Cond.static Jvm.Stand.acN).before a0 Z = true) (w4 : (Cond.initialized "java/lang/System").before a0 Z = true)
    (A : PA ty Z h a vs) (B : PA ty Z h b vd) (hty : refKind ty = false) (ge : n0 ≤ b) (h1 : ¬ sp < 0) (h2 : ¬ dp < 0) (h3 : ¬ nn < 0) (es : sp.toNatClampNeg = sp') (ed : dp.toNatClampNeg = dp') (en : nn.toNatClampNeg = nn') (h4 : sp' + nn' ≤ vs.length) (h5 : dp' + nn' ≤ vd.length) (hL : L.size = maxL) (hf : 1 ≤ R.frames) (hlo : (S.map fun v => v.category).sum + (nativeFrameWords "java/lang/System" "arraycopy" 5 + 11) ≤ R.locals)
    (w : ∀ h', Keep h h' [b] → PA ty Z h' b (vd.take dp' ++ (vs.drop sp').take nn' ++ vd.drop (dp' + nn')) → W K l R n0 P h' k n (pc + 3) L S) : W K l R n0 P h k n pc L (.int nn :: .int dp :: .ref b :: .int sp :: .ref a :: S) := by
  obtain ⟨p, e, s, m, args, below, meth, c⟩ := K
  obtain ⟨hx, hZ, hown, hby, hml, hret, hnm, hlk, hn0⟩ := ok
  intro T locs X eT N
  subst es ed en
  obtain ⟨z1, hz1, hz2⟩ : ∃ z : Int32, vs.length = z.toNatClampNeg ∧ ¬ z < 0 := pa_z A.len
  obtain ⟨z3, hz3, hz4⟩ : ∃ z : Int32, vd.length = z.toNatClampNeg ∧ ¬ z < 0 := pa_z B.len
  obtain ⟨k1, A1⟩ := A.arv hz1 hz2 .null
  obtain ⟨k2, B1⟩ := B.arv hz3 hz4 .null
  obtain ⟨T1, h1', L1, X1, e1, N1, K1, B2, st⟩ := cpA X hx hZ hown w1 w2 w3 w4 eT A1 B1 (Or.inl ⟨rfl, hty⟩) h1 h2 h3 (by omega) (by omega) rfl h5 N ge (g := mkF m pc L (.int nn :: .int dp :: .ref b :: .int sp :: .ref a :: S)) rfl (hL.trans hml.symm) rfl (hb hby hd) hf (W := (S.map fun v => v.category).sum) (by show 2 * 0 + _ ≤ _; omega) hlo
  have e2 : ((List.range nn.toNatClampNeg).map fun i => vs.getD (sp.toNatClampNeg + i) Value.null) = (vs.drop sp.toNatClampNeg).take nn.toNatClampNeg := by
    apply List.ext_getElem
    · simp; omega
    · intro i q1 q2
      simp at q1
      simp [List.getD_eq_getElem?_getD, List.getElem?_eq_getElem (show sp.toNatClampNeg + i < vs.length by omega)]
  rw [e2] at B2
  obtain ⟨s₂, o, st2, r⟩ := w h1' K1 (PA.of_arv B2 (by simp; omega)) T1 _ X1 e1 N1
  exact ⟨s₂, o, st _ st2, r⟩
theorem w_iaload (ok : Ok K Z n0 own code maxL ret nm) {a : Addr} {vs : List Value} {j : Int32} {v : Value} (hd : decode code pc = .ok (.iaload, 1)) (A : PA .int Z h a vs) (h0 : ¬ j < 0) (hj : vs[j.toNatClampNeg]? = some v) (w : W K l R n0 P h k n (pc + 1) L (v :: S)) : W K l R n0 P h k n pc L (.int j :: .ref a :: S) := by
  obtain ⟨p, e, s, m, args, below, meth, c⟩ := K
  obtain ⟨hx, hZ, hown, hby, -⟩ := ok
  intro T locs X eT N
  obtain ⟨s₂, o, st, r⟩ := w T locs X eT N
  obtain ⟨cl, A, q1, q2, q3⟩ := A
  exact ⟨s₂, o, X.iaload hx (j := j) (v := v) (by rw [eT]; exact A.1) (State.isArrayOf_alike hZ.alike A.2.1) A.2.2 (pa_in q2 h0 (List.getElem?_eq_some_iff.mp hj).1) (by rw [q2]; simpa using hj) (g := mkF m pc L (.int j :: .ref a :: S)) rfl rfl (hb hby hd) _ st, r⟩
theorem w_laload (ok : Ok K Z n0 own code maxL ret nm) {a : Addr} {vs : List Value} {j : Int32} {v : Value} (hd : decode code pc = .ok (.laload, 1)) (A : PA .long Z h a vs) (h0 : ¬ j < 0) (hj : vs[j.toNatClampNeg]? = some v) (w : W K l R n0 P h k n (pc + 1) L (v :: S)) : W K l R n0 P h k n pc L (.int j :: .ref a :: S) := by
  obtain ⟨p, e, s, m, args, below, meth, c⟩ := K
  obtain ⟨hx, hZ, hown, hby, -⟩ := ok
  intro T locs X eT N
  obtain ⟨s₂, o, st, r⟩ := w T locs X eT N
  obtain ⟨cl, A, q1, q2, q3⟩ := A
  exact ⟨s₂, o, X.laload hx (j := j) (v := v) (by rw [eT]; exact A.1) (State.isArrayOf_alike hZ.alike A.2.1) A.2.2 (pa_in q2 h0 (List.getElem?_eq_some_iff.mp hj).1) (by rw [q2]; simpa using hj) (g := mkF m pc L (.int j :: .ref a :: S)) rfl rfl (hb hby hd) _ st, r⟩
theorem w_caload (ok : Ok K Z n0 own code maxL ret nm) {a : Addr} {vs : List Value} {j : Int32} {v : Value} (hd : decode code pc = .ok (.caload, 1)) (A : PA .char Z h a vs) (h0 : ¬ j < 0) (hj : vs[j.toNatClampNeg]? = some v) (w : W K l R n0 P h k n (pc + 1) L (v :: S)) : W K l R n0 P h k n pc L (.int j :: .ref a :: S) := by
  obtain ⟨p, e, s, m, args, below, meth, c⟩ := K
  obtain ⟨hx, hZ, hown, hby, -⟩ := ok
  intro T locs X eT N
  obtain ⟨s₂, o, st, r⟩ := w T locs X eT N
  obtain ⟨cl, A, q1, q2, q3⟩ := A
  exact ⟨s₂, o, X.caload hx (j := j) (v := v) (by rw [eT]; exact A.1) (State.isArrayOf_alike hZ.alike A.2.1) A.2.2 (pa_in q2 h0 (List.getElem?_eq_some_iff.mp hj).1) (by rw [q2]; simpa using hj) (g := mkF m pc L (.int j :: .ref a :: S)) rfl rfl (hb hby hd) _ st, r⟩
theorem w_baload (ok : Ok K Z n0 own code maxL ret nm) {a : Addr} {vs : List Value} {j : Int32} {v : Value} (hd : decode code pc = .ok (.baload, 1)) (A : PA .byte Z h a vs) (h0 : ¬ j < 0) (hj : vs[j.toNatClampNeg]? = some v) (w : W K l R n0 P h k n (pc + 1) L (v :: S)) : W K l R n0 P h k n pc L (.int j :: .ref a :: S) := by
  obtain ⟨p, e, s, m, args, below, meth, c⟩ := K
  obtain ⟨hx, hZ, hown, hby, -⟩ := ok
  intro T locs X eT N
  obtain ⟨s₂, o, st, r⟩ := w T locs X eT N
  obtain ⟨cl, A, q1, q2, q3⟩ := A
  exact ⟨s₂, o, X.baloadBytes hx (j := j) (v := v) (by rw [eT]; exact A.1) (State.isArrayOf_alike hZ.alike A.2.1) A.2.2 (pa_in q2 h0 (List.getElem?_eq_some_iff.mp hj).1) (by rw [q2]; simpa using hj) (g := mkF m pc L (.int j :: .ref a :: S)) rfl rfl (hb hby hd) _ st, r⟩
theorem w_zaload (ok : Ok K Z n0 own code maxL ret nm) {a : Addr} {vs : List Value} {j : Int32} {v : Value} (hd : decode code pc = .ok (.baload, 1)) (A : PA .boolean Z h a vs) (h0 : ¬ j < 0) (hj : vs[j.toNatClampNeg]? = some v) (w : W K l R n0 P h k n (pc + 1) L (v :: S)) : W K l R n0 P h k n pc L (.int j :: .ref a :: S) := by
  obtain ⟨p, e, s, m, args, below, meth, c⟩ := K
  obtain ⟨hx, hZ, hown, hby, -⟩ := ok
  intro T locs X eT N
  obtain ⟨s₂, o, st, r⟩ := w T locs X eT N
  obtain ⟨cl, A, q1, q2, q3⟩ := A
  exact ⟨s₂, o, X.baloadBooleans hx (j := j) (v := v) (by rw [eT]; exact A.1) (State.isArrayOf_alike hZ.alike A.2.1) A.2.2 (pa_in q2 h0 (List.getElem?_eq_some_iff.mp hj).1) (by rw [q2]; simpa using hj) (g := mkF m pc L (.int j :: .ref a :: S)) rfl rfl (hb hby hd) _ st, r⟩
theorem w_aaload (ok : Ok K Z n0 own code maxL ret nm) {ty : FieldType} {a : Addr} {vs : List Value} {j : Int32} {v : Value} (hd : decode code pc = .ok (.aaload, 1)) (A : PA ty Z h a vs) (ht : ty.isReference = true) (h0 : ¬ j < 0) (hj : vs[j.toNatClampNeg]? = some v) (w : W K l R n0 P h k n (pc + 1) L (v :: S)) : W K l R n0 P h k n pc L (.int j :: .ref a :: S) := by
  obtain ⟨p, e, s, m, args, below, meth, c⟩ := K
  obtain ⟨hx, hZ, hown, hby, -⟩ := ok
  intro T locs X eT N
  obtain ⟨s₂, o, st, r⟩ := w T locs X eT N
  obtain ⟨cl, A, q1, q2, q3⟩ := A
  exact ⟨s₂, o, X.aaload hx (j := j) (v := v) (by rw [eT]; exact A.1) (State.isArrayOf_alike hZ.alike A.2.1) ht A.2.2 (pa_in q2 h0 (List.getElem?_eq_some_iff.mp hj).1) (by rw [q2]; simpa using hj) (g := mkF m pc L (.int j :: .ref a :: S)) rfl rfl (hb hby hd) _ st, r⟩
theorem w_iastore (ok : Ok K Z n0 own code maxL ret nm) {a : Addr} {vs : List Value} {j : Int32} {x : Int32} (hd : decode code pc = .ok (.iastore, 1)) (A : PA .int Z h a vs) (ge : n0 ≤ a) (h0 : ¬ j < 0) (hj : j.toNatClampNeg < vs.length) (w : ∀ h', Wr h h' a j.toNatClampNeg (.int x) → PA .int Z h' a (vs.set j.toNatClampNeg (.int x)) → W K l R n0 P h' k n (pc + 1) L S) : W K l R n0 P h k n pc L (.int x :: .int j :: .ref a :: S) := by
  obtain ⟨p, e, s, m, args, below, meth, c⟩ := K
  obtain ⟨hx, hZ, hown, hby, -⟩ := ok
  intro T locs X eT N
  have A0 := A
  obtain ⟨cl, A, q1, q2, q3⟩ := A
  obtain ⟨T1, h1, X1, e1, W1, st⟩ := stI X hx hZ eT A (j := j) (pa_in q2 h0 hj) (g := mkF m pc L (.int x :: .int j :: .ref a :: S)) rfl rfl (hb hby hd)
  obtain ⟨s₂, o, st2, r⟩ := w h1 W1 (A0.set W1 rfl) T1 _ X1 e1 (Fr.snoc X1 N ge)
  exact ⟨s₂, o, st _ st2, r⟩
theorem w_lastore (ok : Ok K Z n0 own code maxL ret nm) {a : Addr} {vs : List Value} {j : Int32} {x : Int64} (hd : decode code pc = .ok (.lastore, 1)) (A : PA .long Z h a vs) (ge : n0 ≤ a) (h0 : ¬ j < 0) (hj : j.toNatClampNeg < vs.length) (w : ∀ h', Wr h h' a j.toNatClampNeg (.long x) → PA .long Z h' a (vs.set j.toNatClampNeg (.long x)) → W K l R n0 P h' k n (pc + 1) L S) : W K l R n0 P h k n pc L (.long x :: .int j :: .ref a :: S) := by
  obtain ⟨p, e, s, m, args, below, meth, c⟩ := K
  obtain ⟨hx, hZ, hown, hby, -⟩ := ok
  intro T locs X eT N
  have A0 := A
  obtain ⟨cl, A, q1, q2, q3⟩ := A
  obtain ⟨T1, h1, X1, e1, W1, st⟩ := stJ X hx hZ eT A (j := j) (pa_in q2 h0 hj) (g := mkF m pc L (.long x :: .int j :: .ref a :: S)) rfl rfl (hb hby hd)
  obtain ⟨s₂, o, st2, r⟩ := w h1 W1 (A0.set W1 rfl) T1 _ X1 e1 (Fr.snoc X1 N ge)
  exact ⟨s₂, o, st _ st2, r⟩
theorem w_castore (ok : Ok K Z n0 own code maxL ret nm) {a : Addr} {vs : List Value} {j : Int32} {x : Int32} (hd : decode code pc = .ok (.castore, 1)) (A : PA .char Z h a vs) (ge : n0 ≤ a) (h0 : ¬ j < 0) (hj : j.toNatClampNeg < vs.length) (w : ∀ h', Wr h h' a j.toNatClampNeg (.int (nar .char x)) → PA .char Z h' a (vs.set j.toNatClampNeg (.int (nar .char x))) → W K l R n0 P h' k n (pc + 1) L S) : W K l R n0 P h k n pc L (.int x :: .int j :: .ref a :: S) := by
  obtain ⟨p, e, s, m, args, below, meth, c⟩ := K
  obtain ⟨hx, hZ, hown, hby, -⟩ := ok
  intro T locs X eT N
  have A0 := A
  obtain ⟨cl, A, q1, q2, q3⟩ := A
  obtain ⟨T1, h1, X1, e1, W1, st⟩ := stC X hx hZ eT A (j := j) (pa_in q2 h0 hj) (g := mkF m pc L (.int x :: .int j :: .ref a :: S)) rfl rfl (hb hby hd)
  obtain ⟨s₂, o, st2, r⟩ := w h1 W1 (A0.set W1 (fits_nar_char x)) T1 _ X1 e1 (Fr.snoc X1 N ge)
  exact ⟨s₂, o, st _ st2, r⟩
theorem w_bastore (ok : Ok K Z n0 own code maxL ret nm) {a : Addr} {vs : List Value} {j : Int32} {x : Int32} (hd : decode code pc = .ok (.bastore, 1)) (A : PA .byte Z h a vs) (ge : n0 ≤ a) (h0 : ¬ j < 0) (hj : j.toNatClampNeg < vs.length) (w : ∀ h', Wr h h' a j.toNatClampNeg (.int (nar .byte x)) → PA .byte Z h' a (vs.set j.toNatClampNeg (.int (nar .byte x))) → W K l R n0 P h' k n (pc + 1) L S) : W K l R n0 P h k n pc L (.int x :: .int j :: .ref a :: S) := by
  obtain ⟨p, e, s, m, args, below, meth, c⟩ := K
  obtain ⟨hx, hZ, hown, hby, -⟩ := ok
  intro T locs X eT N
  have A0 := A
  obtain ⟨cl, A, q1, q2, q3⟩ := A
  obtain ⟨T1, h1, X1, e1, W1, st⟩ := stB X hx hZ eT A (j := j) (pa_in q2 h0 hj) (g := mkF m pc L (.int x :: .int j :: .ref a :: S)) rfl rfl (hb hby hd)
  obtain ⟨s₂, o, st2, r⟩ := w h1 W1 (A0.set W1 (fits_nar_byte x)) T1 _ X1 e1 (Fr.snoc X1 N ge)
  exact ⟨s₂, o, st _ st2, r⟩
theorem w_zastore (ok : Ok K Z n0 own code maxL ret nm) {a : Addr} {vs : List Value} {j : Int32} {x : Int32} (hd : decode code pc = .ok (.bastore, 1)) (A : PA .boolean Z h a vs) (ge : n0 ≤ a) (h0 : ¬ j < 0) (hj : j.toNatClampNeg < vs.length) (w : ∀ h', Wr h h' a j.toNatClampNeg (.int (nar .boolean x)) → PA .boolean Z h' a (vs.set j.toNatClampNeg (.int (nar .boolean x))) → W K l R n0 P h' k n (pc + 1) L S) : W K l R n0 P h k n pc L (.int x :: .int j :: .ref a :: S) := by
  obtain ⟨p, e, s, m, args, below, meth, c⟩ := K
  obtain ⟨hx, hZ, hown, hby, -⟩ := ok
  intro T locs X eT N
  have A0 := A
  obtain ⟨cl, A, q1, q2, q3⟩ := A
  obtain ⟨T1, h1, X1, e1, W1, st⟩ := stZ X hx hZ eT A (j := j) (pa_in q2 h0 hj) (g := mkF m pc L (.int x :: .int j :: .ref a :: S)) rfl rfl (hb hby hd)
  obtain ⟨s₂, o, st2, r⟩ := w h1 W1 (A0.set W1 (fits_nar_bool x)) T1 _ X1 e1 (Fr.snoc X1 N ge)
  exact ⟨s₂, o, st _ st2, r⟩
/-! objects -/
abbrev Fl := List (String × String × String × FieldType)
def Ob (Z : State) (h : Heap) (a : Addr) (C : String) (fl : Fl) (vals : List Value) : Prop := Exa Z h a C ∧ ∀ (i : Nat) f v, fl[i]? = some f → vals[i]? = some v → Fld Z h a f.1 f.2.1 f.2.2.1 v
def LA (Z : State) (a0 : Array Value) (C : String) (fl : Fl) : Prop := (∀ f ∈ fl, Laid Z a0 C f.1 f.2.1 f.2.2.1 ∧ parseFieldDescriptor f.2.2.1 = some f.2.2.2) ∧ (fl.map (·.2.1)).Nodup
section Obs
variable {h' : Heap} {a b : Addr} {C : String} {fl : Fl} {vals : List Value} {v : Value} {sl : Nat} {ws : List Addr}
theorem Ob.lt (O : Ob Z h a C fl vals) : a < h.size := O.1.lt
theorem Ob.ext (O : Ob Z h a C fl vals) (E : Ext h h') : Ob Z h' a C fl vals := ⟨O.1.ext E, fun i f v q r => (O.2 i f v q r).ext E⟩
theorem Ob.other (O : Ob Z h b C fl vals) (W1 : Wr h h' a sl v) (ne : b ≠ a) : Ob Z h' b C fl vals := ⟨O.1.wr W1, fun i f v q r => (O.2 i f v q r).other W1 (Or.inl ne)⟩
theorem Ob.keep (O : Ob Z h a C fl vals) (K1 : Keep h h' ws) (q : a ∉ ws) : Ob Z h' a C fl vals := ⟨O.1.keep K1, fun i f v r r' => (O.2 i f v r r').keep K1 q⟩
theorem Ob.put (O : Ob Z h a C fl vals) (LAs : LA Z a0 C fl) {i : Nat} {f : String × String × String × FieldType} {u : Value} (hf : fl[i]? = some f) (hv : vals[i]? = some u) (W1 : Wr h h' a (Jvm.RoadKit.slotOf Z f.1 f.2.1 f.2.2.1) v) : Ob Z h' a C fl (vals.set i v) := by
  refine ⟨O.1.wr W1, fun j g w hg hw => ?_⟩
  by_cases e : i = j
  · subst e
    cases hf.symm.trans hg
    rw [List.getElem?_set_self (List.getElem?_eq_some_iff.mp hv).1] at hw
    cases hw
    exact (O.2 i f u hf hv).same W1
  · rw [List.getElem?_set_ne e] at hw
    refine (O.2 j g w hg hw).other W1 (Or.inr ?_)
    have m1 := LAs.1 f (List.mem_of_getElem? hf)
    have m2 := LAs.1 g (List.mem_of_getElem? hg)
    refine slot_ne m2.1 m1.1 (fun q => e ?_) m2.2 m1.2
    have hi := (List.getElem?_eq_some_iff.mp hf)
    have hj := (List.getElem?_eq_some_iff.mp hg)
    have nd := LAs.2
    have q1 : (fl.map (·.2.1))[i]? = some f.2.1 := by simp [hf]
    have q2 : (fl.map (·.2.1))[j]? = some f.2.1 := by simp [hg, q]
    exact (List.getElem?_inj (by simpa using hi.1) nd).mp (q1.trans q2.symm)
end Obs
theorem w_getfield (ok : Ok K Z n0 own code maxL ret nm) {index : Nat} {a : Addr} {C R0 host : String} {fl : Fl} {vals : List Value} {v : Value} {f : String × String × String × FieldType} (i : Nat) (hd : decode code pc = .ok (.getfield index, 3)) (w1 : (Cond.fieldLink own index R0 f.2.1 f.2.2.1).before a0 Z = true ∨ (Cond.fieldLinkNest own index R0 f.2.1 f.2.2.1 host).before a0 Z = true) (via : Via Z R0 f.1 f.2.1 f.2.2.1) (O : Ob Z h a C fl vals) (hf : fl[i]? = some f) (hv : vals[i]? = some v)
    (w : W K l R n0 P h k n (pc + 3) L (v :: S)) : W K l R n0 P h k n pc L (.ref a :: S) := by
  obtain ⟨p, e, s, m, args, below, meth, c⟩ := K
  obtain ⟨hx, hZ, hown, hby, -⟩ := ok
  intro T locs X eT N
  obtain ⟨T1, X1, e1, st⟩ := getF X hx hZ hown w1 via eT (O.2 i f v hf hv) (g := mkF m pc L (.ref a :: S)) rfl rfl (hb hby hd)
  obtain ⟨s₂, o, st2, r⟩ := w T1 locs X1 e1 N
  exact ⟨s₂, o, st _ st2, r⟩
theorem w_putfield (ok : Ok K Z n0 own code maxL ret nm) {index kk : Nat} {a : Addr} {C R0 host : String} {fl : Fl} {vals : List Value} {v u : Value} {f : String × String × String × FieldType} (i : Nat) (hd : decode code pc = .ok (.putfield index, 3)) (w1 : (Cond.fieldLink own index R0 f.2.1 f.2.2.1).before a0 Z = true ∨ (Cond.fieldLinkNest own index R0 f.2.1 f.2.2.1 host).before a0 Z = true) (via : Via Z R0 f.1 f.2.1 f.2.2.1) (O : Ob Z h a C fl vals) (LAs : LA Z a0 C fl) (hf : fl[i]? = some f) (hv : vals[i]? = some u)
    (w2 : (Cond.lays C f.1 f.2.1 f.2.2.1).before a0 Z = true ∨ ((Cond.laysFinal C f.1 f.2.1 f.2.2.1).before a0 Z = true ∧ own = f.1 ∧ nm = "<init>")) (w3 : (Cond.instantiable C kk).before a0 Z = true) (hn : narrow f.2.2.2 v = v) (hfit : fits f.2.2.2 v = true) (ge : n0 ≤ a)
    (w : ∀ h', Wr h h' a (Jvm.RoadKit.slotOf Z f.1 f.2.1 f.2.2.1) v → Ob Z h' a C fl (vals.set i v) → W K l R n0 P h' k n (pc + 3) L S) : W K l R n0 P h k n pc L (v :: .ref a :: S) := by
  obtain ⟨p, e, s, m, args, below, meth, c⟩ := K
  obtain ⟨hx, hZ, hown, hby, hml, hret, hnm, hlk, hn0⟩ := ok
  intro T locs X eT N
  obtain ⟨T1, h1, X1, e1, W1, st⟩ := putF X hx hZ hown w1 via eT (O.2 i f u hf hv) O.1 (w2.imp id fun q => ⟨q.1, q.2.1, hnm.trans q.2.2⟩) w3 (LAs.1 f (List.mem_of_getElem? hf)).2 hn hfit (g := mkF m pc L (v :: .ref a :: S)) rfl rfl (hb hby hd)
  obtain ⟨s₂, o, st2, r⟩ := w h1 W1 (O.put LAs hf hv W1) T1 _ X1 e1 (Fr.snoc X1 N ge)
  exact ⟨s₂, o, st _ st2, r⟩
theorem w_new (ok : Ok K Z n0 own code maxL ret nm) {index kk : Nat} {C : String} {fl : Fl} (hd : decode code pc = .ok (.new index, 3)) (w1 : (Cond.classLink own index C).before a0 Z = true) (w2 : (Cond.instantiable C kk).before a0 Z = true) (w3 : (Cond.initialized C).before a0 Z = true) (LAs : LA Z a0 C fl) (hc : k + 1 ≤ R.cells) (hl : n + kk ≤ R.slots)
    (w : ∀ h' a, a = h.size → n0 ≤ a → Ext h h' → Ob Z h' a C fl (fl.map fun f => defaultValue f.2.2.2) → W K l R n0 P h' (k + 1) (n + kk) (pc + 3) L (.ref a :: S)) : W K l R n0 P h k n pc L S := by
  obtain ⟨p, e, s, m, args, below, meth, c⟩ := K
  obtain ⟨hx, hZ, hown, hby, hml, hret, hnm, hlk, hn0⟩ := ok
  intro T locs X eT N
  obtain ⟨T1, h1, X1, e1, E1, A1, D1, -, st⟩ := newO X hx hZ hown w1 w2 w3 eT (g := mkF m pc L S) rfl (hb hby hd) hc hl
  obtain ⟨s₂, o, st2, r⟩ := w h1 h.size rfl (by rw [← eT]; exact Nat.le_trans hn0 X.same.2.1) E1 ⟨A1, fun i f v hf hv => by
    simp [hf] at hv; subst hv
    exact D1 (LAs.1 f (List.mem_of_getElem? hf)).1 (LAs.1 f (List.mem_of_getElem? hf)).2⟩ T1 _ X1 e1 N
  exact ⟨s₂, o, st _ st2, r⟩
theorem w_initO (ok : Ok K Z n0 own code maxL ret nm) {index : Nat} {a : Addr} (hd : decode code pc = .ok (.invokespecial index, 3)) (w1 : (Cond.methodLink own index Lib.objectInit).before a0 Z = true) (w2 : (Cond.instanceMethod Lib.objectInit).before a0 Z = true) (w3 : (Cond.code Lib.objectInit ⟨#[0xb1]⟩ 1 none).before a0 Z = true) (hL : L.size = maxL) (hf : 1 ≤ R.frames) (hl : (S.map fun v => v.category).sum + 12 ≤ R.locals)
    (w : W K l R n0 P h k n (pc + 3) L S) : W K l R n0 P h k n pc L (.ref a :: S) := by
  obtain ⟨p, e, s, m, args, below, meth, c⟩ := K
  obtain ⟨hx, hZ, hown, hby, hml, hret, hnm, hlk, hn0⟩ := ok
  intro T locs X eT N
  obtain ⟨T1, X1, e1, st⟩ := initO X hx hZ hown w1 w2 w3 eT (g := mkF m pc L (.ref a :: S)) rfl (hL.trans hml.symm) rfl (hb hby hd) hf (W := (S.map fun v => v.category).sum) (by show 2 * 0 + _ ≤ _; omega) hl
  obtain ⟨s₂, o, st2, r⟩ := w T1 locs X1 e1 N
  exact ⟨s₂, o, st _ st2, r⟩
theorem w_callI (ok : Ok K Z n0 own code maxL ret nm) {index : Nat} {y : MethodName} {bytes : ByteArray} {mL : Nat} {rm : Room} {a : Addr} {argsL rest : List Value} {Q : Option Value → Heap → Prop} {ps : List FieldType} {r : Option FieldType}
    (hd : decode code pc = .ok (.invokespecial index, 3)) (hy1 : y.name = "<init>") (w1 : (Cond.methodLink own index y).before a0 Z = true) (w2 : (Cond.instanceMethod y).before a0 Z = true) (w3 : (Cond.initialized y.cls).before a0 Z = true) (w4 : (Cond.code y bytes mL none).before a0 Z = true) (hy : notHandle y)
    (pd : parseMethodDescriptor y.desc = some ⟨ps, r⟩) (hlen : argsL.length = ps.length) (hL : L.size = maxL) (hf : rm.frames + 1 ≤ R.frames) (hl : (rest.map fun v => v.category).sum + (mL + 11) + rm.locals ≤ R.locals) (hc : k + rm.cells ≤ R.cells) (hs : n + rm.slots ≤ R.slots)
    (hM : n0 ≤ h.size → Met l Z n0 y bytes mL none [] rm (.ref a :: argsL).toArray h Q) (w : ∀ v h', Q v h' → W K l R n0 P h' (k + rm.cells) (n + rm.slots) (pc + 3) L (v.toList ++ rest)) : W K l R n0 P h k n pc L (argsL.reverse ++ .ref a :: rest) := by
  obtain ⟨p, e, s, m, args, below, meth, c⟩ := K
  obtain ⟨hx, hZ, hown, hby, hml, hret, hnm, hlk, hn0⟩ := ok
  intro T locs X eT N
  have hM := hM (by rw [← eT]; exact Nat.le_trans hn0 X.same.2.1)
  obtain ⟨v, _, ⟨T1, L1, k1, n1⟩, -, X1, ⟨Lc, ⟨hQ, N1⟩, l1, y1, z1⟩, st⟩ := X.specialBack hx (y := y) hy1 hown (mvT hZ w1) (mvT hZ w2) (mvT hZ w4) hy (backOf (W := (rest.map fun v => v.category).sum) (Q := fun v h L => Q v h ∧ Fr n0 L) hM hZ w4 w3 hf hl) (g := mkF m pc L (argsL.reverse ++ .ref a :: rest)) rfl (hL.trans hml.symm) (Steps.refl _) (a := a) (argsL := argsL) (rest := rest) (lenOf pd hlen) rfl (by show 2 * 0 + _ ≤ _; omega) (hb hby hd) (fun _ _ => ⟨rfl, eT, hc, hs⟩)
  dsimp only [Pt.U, Pt.locs, Pt.cells, Pt.slots] at X1 l1 y1 z1 st hQ
  subst l1 y1 z1
  obtain ⟨s₂, o, st2, r2⟩ := w v _ hQ T1 _ X1 rfl (Fr.app N N1)
  exact ⟨s₂, o, st.trans st2, r2⟩
theorem w_callV (ok : Ok K Z n0 own code maxL ret nm) {index : Nat} {C : String} {y : MethodName} {bytes : ByteArray} {mL : Nat} {rt : Option FieldType} {rm : Room} {a : Addr} {argsL rest : List Value} {Q : Option Value → Heap → Prop} {ps : List FieldType} {r : Option FieldType}
    (hd : decode code pc = .ok (.invokevirtual index, 3)) (w1 : (Cond.methodLink own index y).before a0 Z = true) (w2 : (Cond.declares y).before a0 Z = true) (w3 : (Cond.selects C y y).before a0 Z = true) (w4 : (Cond.instanceMethod y).before a0 Z = true) (w5 : (Cond.initialized y.cls).before a0 Z = true) (w6 : (Cond.code y bytes mL rt).before a0 Z = true) (hy : notHandle y)
    (E : Exa Z h a C) (pd : parseMethodDescriptor y.desc = some ⟨ps, r⟩) (hlen : argsL.length = ps.length) (hL : L.size = maxL) (hf : rm.frames + 1 ≤ R.frames) (hl : (rest.map fun v => v.category).sum + (mL + 11) + rm.locals ≤ R.locals) (hc : k + rm.cells ≤ R.cells) (hs : n + rm.slots ≤ R.slots)
    (hM : n0 ≤ h.size → Met l Z n0 y bytes mL rt [] rm (.ref a :: argsL).toArray h Q) (w : ∀ v h', Q v h' → W K l R n0 P h' (k + rm.cells) (n + rm.slots) (pc + 3) L (v.toList ++ rest)) : W K l R n0 P h k n pc L (argsL.reverse ++ .ref a :: rest) := by
  obtain ⟨p, e, s, m, args, below, meth, c⟩ := K
  obtain ⟨hx, hZ, hown, hby, hml, hret, hnm, hlk, hn0⟩ := ok
  intro T locs X eT N
  have hM := hM (by rw [← eT]; exact Nat.le_trans hn0 X.same.2.1)
  obtain ⟨cq, kq, qa, qb, qc⟩ := isOf hZ eT E
  obtain ⟨v, _, ⟨T1, L1, k1, n1⟩, -, X1, ⟨Lc, ⟨hQ, N1⟩, l1, y1, z1⟩, st⟩ := X.virtualBack hx (y := y) (z := y) hown (mvT hZ w1) (mvT hZ w2) (notFace_of_selects (args := #[]) (mvT hZ w3)) (mvT hZ w3) (mvT hZ w4) hy (backOf (W := (rest.map fun v => v.category).sum) (Q := fun v h L => Q v h ∧ Fr n0 L) hM hZ w6 w5 hf hl) qa qc (g := mkF m pc L (argsL.reverse ++ .ref a :: rest)) rfl (hL.trans hml.symm) (Steps.refl _) (argsL := argsL) (rest := rest) (lenOf pd hlen) rfl (by show 2 * 0 + _ ≤ _; omega) (hb hby hd) (fun _ _ => ⟨rfl, eT, hc, hs⟩)
  dsimp only [Pt.U, Pt.locs, Pt.cells, Pt.slots] at X1 l1 y1 z1 st hQ
  subst l1 y1 z1
  obtain ⟨s₂, o, st2, r2⟩ := w v _ hQ T1 _ X1 rfl (Fr.app N N1)
  exact ⟨s₂, o, st.trans st2, r2⟩
theorem w_callP (ok : Ok K Z n0 own code maxL ret nm) {index kk : Nat} {y : MethodName} {bytes : ByteArray} {mL : Nat} {rt : Option FieldType} {rm : Room} {a : Addr} {argsL rest : List Value} {Q : Option Value → Heap → Prop} {ps : List FieldType} {r : Option FieldType}
    (hd : decode code pc = .ok (.invokevirtual index, 3)) (w1 : (Cond.methodLink own index y).before a0 Z = true) (w2 : (Cond.instanceMethod y).before a0 Z = true) (w3 : (Cond.privateMethod y).before a0 Z = true) (w4 : (Cond.instantiable y.cls kk).before a0 Z = true) (w5 : (Cond.initialized y.cls).before a0 Z = true) (w6 : (Cond.code y bytes mL rt).before a0 Z = true) (hy : notHandle y)
    (E : Exa Z h a y.cls) (pd : parseMethodDescriptor y.desc = some ⟨ps, r⟩) (hlen : argsL.length = ps.length) (hL : L.size = maxL) (hf : rm.frames + 1 ≤ R.frames) (hl : (rest.map fun v => v.category).sum + (mL + 11) + rm.locals ≤ R.locals) (hc : k + rm.cells ≤ R.cells) (hs : n + rm.slots ≤ R.slots)
    (hM : n0 ≤ h.size → Met l Z n0 y bytes mL rt [] rm (.ref a :: argsL).toArray h Q) (w : ∀ v h', Q v h' → W K l R n0 P h' (k + rm.cells) (n + rm.slots) (pc + 3) L (v.toList ++ rest)) : W K l R n0 P h k n pc L (argsL.reverse ++ .ref a :: rest) := by
  obtain ⟨p, e, s, m, args, below, meth, c⟩ := K
  obtain ⟨hx, hZ, hown, hby, hml, hret, hnm, hlk, hn0⟩ := ok
  intro T locs X eT N
  have hM := hM (by rw [← eT]; exact Nat.le_trans hn0 X.same.2.1)
  have hP : s.PrivateAt y := Cond.privateMethod_at (mvP hZ w3 (args := #[]))
  obtain ⟨ci, ki, i1, i2, i3, i4, -⟩ := Cond.instantiable_spec (mvT (args := args) hZ w4)
  have hni : ki.isInterface = false := by
    cases q : ki.isInterface
    · rfl
    · rw [q] at i4; cases i4
  have hsel := selects_self_of_private (args := args) i1 i2 hni hP (mvT hZ w2) hy
  obtain ⟨cell, hcell, hobj⟩ := E.cell
  obtain ⟨v, _, ⟨T1, L1, k1, n1⟩, -, X1, ⟨Lc, ⟨hQ, N1⟩, l1, y1, z1⟩, st⟩ := X.privateBack hx (y := y) hown (mvT hZ w1) (mvT hZ w2) hsel hP (mvT hZ w6) hy (backOf (W := (rest.map fun v => v.category).sum) (Q := fun v h L => Q v h ∧ Fr n0 L) hM hZ w6 w5 hf hl) (g := mkF m pc L (argsL.reverse ++ .ref a :: rest)) rfl (hL.trans hml.symm) (Steps.refl _) (a := a) (by rw [eT]; exact hcell) hobj (argsL := argsL) (rest := rest) (lenOf pd hlen) rfl (by show 2 * 0 + _ ≤ _; omega) (hb hby hd) (fun _ _ => ⟨rfl, eT, hc, hs⟩)
  dsimp only [Pt.U, Pt.locs, Pt.cells, Pt.slots] at X1 l1 y1 z1 st hQ
  subst l1 y1 z1
  obtain ⟨s₂, o, st2, r2⟩ := w v _ hQ T1 _ X1 rfl (Fr.app N N1)
  exact ⟨s₂, o, st.trans st2, r2⟩
theorem frame_fin {s u : State} {L L' : List Loc} {v : Option Value} {c c' n n' : Nat} (hq : FrameEnd s (.returned v) u L c n) (N : Fr s.heap.size L) (h1 : c ≤ c') (h2 : n ≤ n') : FrameEnd s (.returned v) u L' c' n' :=
  ⟨hq.1, hq.2.1, (hq.2.2.sift fun y hy => Or.inr (N y hy)).mono h1 h2⟩
end S
end Jvm.OwnKit
namespace Jvm.Pilot.@@N@@
open Jvm Jvm.ClassFile Sem Op Lib Jvm.Free Jvm.Stand Jvm.LawKit Jvm.RoadKit Bundle Jvm.OwnKit Jvm.Pilot.@@N@@.Jvm.D
abbrev fl_IntList : Fl := [("com/example/perx/perx/index/IntList", "values", "[I", (.array .int)), ("com/example/perx/perx/index/IntList", "size", "I", .int)]
theorem la_IntList {Z : State} {a0 : Array Value} (hw : ∀ d ∈ tables_1, d.before a0 Z = true) : LA Z a0 "com/example/perx/perx/index/IntList" fl_IntList := by
  refine ⟨fun f hf => ?_, by decide⟩
  simp only [fl_IntList, List.mem_cons, List.not_mem_nil, or_false] at hf
  rcases hf with rfl | rfl
  · exact ⟨Or.inl (hw _ (List.mem_of_getElem? (i := 11) rfl)), by decide⟩
  · exact ⟨Or.inl (hw _ (List.mem_of_getElem? (i := 18) rfl)), by decide⟩
def own_min (a b : Int32) : Int32 := if b < a then b else a
theorem own_min_lt {a b : Int32} (h : a.toNatClampNeg < b.toNatClampNeg) (h0 : ¬ a < 0) (h1 : ¬ b < 0) : own_min a b = a := by
  rw [own_min, if_neg]
  have e1 := nat_of h0; have e2 := nat_of h1
  rw [Int32.lt_iff_toInt_lt]; omega
theorem d9_0 : decode jdk_29_method_69_code 0 = .ok (.iload_n 0, 1) := by decide +kernel
theorem d9_1 : decode jdk_29_method_69_code 1 = .ok (.iload_n 1, 1) := by decide +kernel
theorem d9_2 : decode jdk_29_method_69_code 2 = .ok (.if_icmp .gt 7, 3) := by decide +kernel
theorem d9_5 : decode jdk_29_method_69_code 5 = .ok (.iload_n 0, 1) := by decide +kernel
theorem d9_6 : decode jdk_29_method_69_code 6 = .ok (.goto 4, 3) := by decide +kernel
theorem d9_9 : decode jdk_29_method_69_code 9 = .ok (.iload_n 1, 1) := by decide +kernel
theorem d9_10 : decode jdk_29_method_69_code 10 = .ok (.ireturn, 1) := by decide +kernel
set_option maxRecDepth 65536 in
set_option maxHeartbeats 40000000 in
theorem rm_min (l : Launch) (Z : State) (a0 : Array Value) (hw : ∀ d ∈ tables_1, d.before a0 Z = true) (ws : List Jvm.Cond) (n0 : Nat) (h0 : Heap) (Z0 : n0 ≤ h0.size) (a b : Int32)  :
    Met l Z n0 (⟨"java/lang/Math", "min", "(II)I"⟩ : MethodName) jdk_29_method_69_code 2 (some .int) ws ({ frames := 0, cells := 0, slots := 0, locals := 0 } : Room) #[(.int a), (.int b)] h0 (fun u h => u = some (.int (own_min a b)) ∧ h0 = h) := by
  refine met_of Z0 (Jvm.Free.JP.mathPlain rfl (by decide +kernel)) (Ls := #[.val (.int a), .val (.int b)]) (fun m => by first | (simp [entryFrame, mkF, argsToLocals, Value.category]; done) | rfl) ?_
  intro K ok
  show W K l _ n0 _ h0 0 0 0 #[.val (.int a), .val (.int b)] []
  refine w_iloadN ok d9_0 rfl ?_
  show W K l _ n0 _ h0 0 0 1 #[.val (.int a), .val (.int b)] [(.int a)]
  refine w_iloadN ok d9_1 rfl ?_
  show W K l _ n0 _ h0 0 0 2 #[.val (.int a), .val (.int b)] [(.int b), (.int a)]
  refine w_icmp_gt ok d9_2 (pc' := 9) (by decide) (fun hc1 => ?_) (fun hc1 => ?_)
  · show W K l _ n0 _ h0 0 0 9 #[.val (.int a), .val (.int b)] []
    refine w_iloadN ok d9_9 rfl ?_
    show W K l _ n0 _ h0 0 0 10 #[.val (.int a), .val (.int b)] [(.int b)]
    refine w_iret ok d9_10 (by decide) (by decide) ?_
    exact ⟨by simp [own_min, *], rfl⟩
  · show W K l _ n0 _ h0 0 0 5 #[.val (.int a), .val (.int b)] []
    refine w_iloadN ok d9_5 rfl ?_
    show W K l _ n0 _ h0 0 0 6 #[.val (.int a), .val (.int b)] [(.int a)]
    refine w_goto ok d9_6 (pc' := 10) (by decide) ?_
    show W K l _ n0 _ h0 0 0 10 #[.val (.int a), .val (.int b)] [(.int a)]
    refine w_iret ok d9_10 (by decide) (by decide) ?_
    exact ⟨by simp [own_min, *], rfl⟩
theorem d8_0 : decode jdk_65_method_123_code 0 = .ok (.iload_n 1, 1) := by decide +kernel
theorem d8_1 : decode jdk_65_method_123_code 1 = .ok (.aload_n 0, 1) := by decide +kernel
theorem d8_2 : decode jdk_65_method_123_code 2 = .ok (.arraylength, 1) := by decide +kernel
theorem d8_3 : decode jdk_65_method_123_code 3 = .ok (.if_icmp .ne 11, 3) := by decide +kernel
theorem d8_6 : decode jdk_65_method_123_code 6 = .ok (.aload_n 0, 1) := by decide +kernel
theorem d8_7 : decode jdk_65_method_123_code 7 = .ok (.invokevirtual 316, 3) := by decide +kernel
theorem d8_10 : decode jdk_65_method_123_code 10 = .ok (.checkcast 317, 3) := by decide +kernel
theorem d8_13 : decode jdk_65_method_123_code 13 = .ok (.areturn, 1) := by decide +kernel
theorem d8_14 : decode jdk_65_method_123_code 14 = .ok (.iload_n 1, 1) := by decide +kernel
theorem d8_15 : decode jdk_65_method_123_code 15 = .ok (.newarray .int, 2) := by decide +kernel
theorem d8_17 : decode jdk_65_method_123_code 17 = .ok (.astore_n 2, 1) := by decide +kernel
theorem d8_18 : decode jdk_65_method_123_code 18 = .ok (.aload_n 0, 1) := by decide +kernel
theorem d8_19 : decode jdk_65_method_123_code 19 = .ok (.iconst 0, 1) := by decide +kernel
theorem d8_20 : decode jdk_65_method_123_code 20 = .ok (.aload_n 2, 1) := by decide +kernel
theorem d8_21 : decode jdk_65_method_123_code 21 = .ok (.iconst 0, 1) := by decide +kernel
theorem d8_22 : decode jdk_65_method_123_code 22 = .ok (.aload_n 0, 1) := by decide +kernel
theorem d8_23 : decode jdk_65_method_123_code 23 = .ok (.arraylength, 1) := by decide +kernel
theorem d8_24 : decode jdk_65_method_123_code 24 = .ok (.iload_n 1, 1) := by decide +kernel
theorem d8_25 : decode jdk_65_method_123_code 25 = .ok (.invokestatic 304, 3) := by decide +kernel
theorem d8_28 : decode jdk_65_method_123_code 28 = .ok (.invokestatic 150, 3) := by decide +kernel
theorem d8_31 : decode jdk_65_method_123_code 31 = .ok (.aload_n 2, 1) := by decide +kernel
theorem d8_32 : decode jdk_65_method_123_code 32 = .ok (.areturn, 1) := by decide +kernel
theorem pn_java_util_Arrays : plainName "java/util/Arrays" = true := by first | (simp [plainName, overriddenIn]; done) | decide +kernel
theorem pd_28II29I : parseMethodDescriptor "(II)I" = some ⟨[.int, .int], some .int⟩ := by decide +kernel
set_option maxRecDepth 65536 in
set_option maxHeartbeats 40000000 in
theorem cp_int (l : Launch) (Z : State) (a0 : Array Value) (hw : ∀ d ∈ tables_1, d.before a0 Z = true) (ws : List Jvm.Cond) (n0 : Nat) (h0 : Heap) (Z0 : n0 ≤ h0.size) (a : Addr) (vs : List Value) (z : Int32) (A_a : PA .int Z h0 a vs) (hz : vs.length < z.toNatClampNeg) (hz0 : ¬ z < 0) (hcap : z.toNatClampNeg ≤ 32)  :
    Met l Z n0 (⟨"java/util/Arrays", "copyOf", "([II)[I"⟩ : MethodName) jdk_65_method_123_code 3 (some (.array .int)) ws ({ frames := 1, cells := 1, slots := 32, locals := 18 } : Room) #[(.ref a), (.int z)] h0 (fun u h => ∃ b, u = some (.ref b) ∧ h0.size ≤ b ∧ n0 ≤ b ∧ Keep h0 h [] ∧ PA .int Z h b (vs ++ List.replicate (z.toNatClampNeg - vs.length) (Value.int 0))) := by
  refine met_of Z0 (plainFor_of_name pn_java_util_Arrays) (Ls := #[.val (.ref a), .val (.int z), .unset]) (fun m => by first | (simp [entryFrame, mkF, argsToLocals, Value.category]; done) | rfl) ?_
  intro K ok
  have Kp : Keep h0 h0 [] := Keep.refl _ _
  obtain ⟨q, hq, hq0⟩ := pa_z A_a.len
  show W K l _ n0 _ h0 0 0 0 #[.val (.ref a), .val (.int z), .unset] []
  refine w_iloadN ok d8_0 rfl ?_
  show W K l _ n0 _ h0 0 0 1 #[.val (.ref a), .val (.int z), .unset] [(.int z)]
  refine w_aloadN ok d8_1 rfl rfl ?_
  show W K l _ n0 _ h0 0 0 2 #[.val (.ref a), .val (.int z), .unset] [(.ref a), (.int z)]
  refine w_arraylength ok (z := q) d8_2 A_a hq hq0 ?_
  show W K l _ n0 _ h0 0 0 3 #[.val (.ref a), .val (.int z), .unset] [(.int q), (.int z)]
  refine w_icmp_ne ok d8_3 (pc' := 14) (by decide) (fun hc1 => ?_) (fun hc1 => False.elim (by rw [hc1] at hz; omega))
  show W K l _ n0 _ h0 0 0 14 #[.val (.ref a), .val (.int z), .unset] []
  refine w_iloadN ok d8_14 rfl ?_
  show W K l _ n0 _ h0 0 0 15 #[.val (.ref a), .val (.int z), .unset] [(.int z)]
  refine w_newarray ok d8_15 (hw _ (List.mem_of_getElem? (i := 9) rfl)) hz0 (cap := 32) hcap (by decide) (by decide) (by decide) (fun h3 b2 ea_b2 ge_b2 E_b2 A_b2 => ?_)
  have sz_b2 : h0.size ≤ b2 := Nat.le_trans Kp.1 (Nat.le_of_eq ea_b2.symm)
  have ne_a_b2 : a ≠ b2 := fun q => Nat.lt_irrefl _ (Nat.lt_of_lt_of_eq A_a.lt (ea_b2.symm.trans q.symm))
  replace Kp := Kp.ext E_b2
  replace A_a := A_a.ext E_b2
  replace A_b2 : PA .int Z h3 b2 (List.replicate z.toNatClampNeg (.int (0 : Int32))) := A_b2
  show W K l _ n0 _ h3 1 32 17 #[.val (.ref a), .val (.int z), .unset] [(.ref b2)]
  refine w_astoreN ok d8_17 rfl (L' := #[.val (.ref a), .val (.int z), .val (.ref b2)]) rfl ?_
  show W K l _ n0 _ h3 1 32 18 #[.val (.ref a), .val (.int z), .val (.ref b2)] []
  refine w_aloadN ok d8_18 rfl rfl ?_
  show W K l _ n0 _ h3 1 32 19 #[.val (.ref a), .val (.int z), .val (.ref b2)] [(.ref a)]
  refine w_iconst ok d8_19 (v := (0 : Int32)) rfl ?_
  show W K l _ n0 _ h3 1 32 20 #[.val (.ref a), .val (.int z), .val (.ref b2)] [(.int (0 : Int32)), (.ref a)]
  refine w_aloadN ok d8_20 rfl rfl ?_
  show W K l _ n0 _ h3 1 32 21 #[.val (.ref a), .val (.int z), .val (.ref b2)] [(.ref b2), (.int (0 : Int32)), (.ref a)]
  refine w_iconst ok d8_21 (v := (0 : Int32)) rfl ?_
  show W K l _ n0 _ h3 1 32 22 #[.val (.ref a), .val (.int z), .val (.ref b2)] [(.int (0 : Int32)), (.ref b2), (.int (0 : Int32)), (.ref a)]
  refine w_aloadN ok d8_22 rfl rfl ?_
  show W K l _ n0 _ h3 1 32 23 #[.val (.ref a), .val (.int z), .val (.ref b2)] [(.ref a), (.int (0 : Int32)), (.ref b2), (.int (0 : Int32)), (.ref a)]
  refine w_arraylength ok (z := q) d8_23 A_a hq hq0 ?_
  show W K l _ n0 _ h3 1 32 24 #[.val (.ref a), .val (.int z), .val (.ref b2)] [(.int q), (.int (0 : Int32)), (.ref b2), (.int (0 : Int32)), (.ref a)]
  refine w_iloadN ok d8_24 rfl ?_
  show W K l _ n0 _ h3 1 32 25 #[.val (.ref a), .val (.int z), .val (.ref b2)] [(.int z), (.int q), (.int (0 : Int32)), (.ref b2), (.int (0 : Int32)), (.ref a)]
  refine w_callS ok (y := (⟨"java/lang/Math", "min", "(II)I"⟩ : MethodName)) (argsL := [(.int q), (.int z)]) (rest := [(.int (0 : Int32)), (.ref b2), (.int (0 : Int32)), (.ref a)]) d8_25 (hw _ (List.mem_of_getElem? (i := 47) rfl)) (hw _ (List.mem_of_getElem? (i := 48) rfl)) (hw _ (List.mem_of_getElem? (i := 49) rfl)) (hw _ (List.mem_of_getElem? (i := 50) rfl)) (by decide) pd_28II29I rfl rfl (by decide) (Nat.le_of_ble_eq_true rfl) (by decide) (by decide) (fun z0 => rm_min l Z a0 hw [] n0 h3 z0 q z) (fun v4 h5 qv4 => ?_)
  obtain ⟨rfl, rfl⟩ := qv4
  rw [own_min_lt (a := q) (b := z) (by omega) hq0 hz0]
  show W K l _ n0 _ h3 1 32 28 #[.val (.ref a), .val (.int z), .val (.ref b2)] [(.int q), (.int (0 : Int32)), (.ref b2), (.int (0 : Int32)), (.ref a)]
  refine w_arraycopy ok (sp' := 0) (dp' := 0) (nn' := vs.length) d8_28 (hw _ (List.mem_of_getElem? (i := 51) rfl)) (hw _ (List.mem_of_getElem? (i := 27) rfl)) (hw _ (List.mem_of_getElem? (i := 25) rfl)) (hw _ (List.mem_of_getElem? (i := 26) rfl)) A_a A_b2 rfl ge_b2 (by decide) (by decide) hq0 rfl rfl hq.symm (by omega) (by simp; omega) rfl (by decide) (Nat.le_of_ble_eq_true rfl) (fun h6 K_h6 A1_h6 => ?_)
  replace Kp := Kp.trans K_h6 (allS (Or.inr sz_b2) all0)
  replace A_a := A_a.keep K_h6 (ninS ne_a_b2 nin0)
  replace A_b2 : PA .int Z h6 b2 (vs ++ List.replicate (z.toNatClampNeg - vs.length) (Value.int 0)) := (by simpa using A1_h6)
  show W K l _ n0 _ h6 1 32 31 #[.val (.ref a), .val (.int z), .val (.ref b2)] []
  refine w_aloadN ok d8_31 rfl rfl ?_
  show W K l _ n0 _ h6 1 32 32 #[.val (.ref a), .val (.int z), .val (.ref b2)] [(.ref b2)]
  refine w_aret ok rfl rfl d8_32 (by decide) (by decide) ?_
  exact ⟨b2, rfl, sz_b2, ge_b2, Kp, A_b2⟩
theorem d1_0 : decode prog_24_method_1_code 0 = .ok (.aload_n 0, 1) := by decide +kernel
theorem d1_1 : decode prog_24_method_1_code 1 = .ok (.invokespecial 1, 3) := by decide +kernel
theorem d1_4 : decode prog_24_method_1_code 4 = .ok (.aload_n 0, 1) := by decide +kernel
theorem d1_5 : decode prog_24_method_1_code 5 = .ok (.bipush 16, 2) := by decide +kernel
theorem d1_7 : decode prog_24_method_1_code 7 = .ok (.newarray .int, 2) := by decide +kernel
theorem d1_9 : decode prog_24_method_1_code 9 = .ok (.putfield 7, 3) := by decide +kernel
theorem d1_12 : decode prog_24_method_1_code 12 = .ok (.return_, 1) := by decide +kernel
theorem pn_com_example_perx_perx_index_IntList : plainName "com/example/perx/perx/index/IntList" = true := by first | (simp [plainName, overriddenIn]; done) | decide +kernel
set_option maxRecDepth 65536 in
set_option maxHeartbeats 40000000 in
theorem rm_init (l : Launch) (Z : State) (a0 : Array Value) (hw : ∀ d ∈ tables_1, d.before a0 Z = true) (ws : List Jvm.Cond) (n0 : Nat) (h0 : Heap) (Z0 : n0 ≤ h0.size) (a : Addr) (A_a : Ob Z h0 a "com/example/perx/perx/index/IntList" fl_IntList [.null, .int 0]) (ge_a : n0 ≤ a)  :
    Met l Z n0 (⟨"com/example/perx/perx/index/IntList", "<init>", "()V"⟩ : MethodName) prog_24_method_1_code 1 none ws ({ frames := 1, cells := 1, slots := 16, locals := 12 } : Room) #[(.ref a)] h0 (fun u h => u = none ∧ ∃ b, h0.size ≤ b ∧ n0 ≤ b ∧ Keep h0 h [a] ∧ Ob Z h a "com/example/perx/perx/index/IntList" fl_IntList [.ref b, .int 0] ∧ PA .int Z h b (List.replicate 16 (Value.int 0))) := by
  refine met_of Z0 (plainFor_of_name pn_com_example_perx_perx_index_IntList) (Ls := #[.val (.ref a)]) (fun m => by first | (simp [entryFrame, mkF, argsToLocals, Value.category]; done) | rfl) ?_
  intro K ok
  have Kp : Keep h0 h0 [a] := Keep.refl _ _
  show W K l _ n0 _ h0 0 0 0 #[.val (.ref a)] []
  refine w_aloadN ok d1_0 rfl rfl ?_
  show W K l _ n0 _ h0 0 0 1 #[.val (.ref a)] [(.ref a)]
  refine w_initO ok d1_1 (hw _ (List.mem_of_getElem? (i := 6) rfl)) (hw _ (List.mem_of_getElem? (i := 7) rfl)) (hw _ (List.mem_of_getElem? (i := 8) rfl)) rfl (by decide) (Nat.le_of_ble_eq_true rfl) ?_
  show W K l _ n0 _ h0 0 0 4 #[.val (.ref a)] []
  refine w_aloadN ok d1_4 rfl rfl ?_
  show W K l _ n0 _ h0 0 0 5 #[.val (.ref a)] [(.ref a)]
  refine w_bipush ok d1_5 (v := (16 : Int32)) rfl ?_
  show W K l _ n0 _ h0 0 0 7 #[.val (.ref a)] [(.int (16 : Int32)), (.ref a)]
  refine w_newarray ok d1_7 (hw _ (List.mem_of_getElem? (i := 9) rfl)) (by decide) (cap := 16) (by decide) (by decide) (by decide) (by decide) (fun h2 b1 ea_b1 ge_b1 E_b1 A_b1 => ?_)
  have sz_b1 : h0.size ≤ b1 := Nat.le_trans Kp.1 (Nat.le_of_eq ea_b1.symm)
  have ne_a_b1 : a ≠ b1 := fun q => Nat.lt_irrefl _ (Nat.lt_of_lt_of_eq A_a.lt (ea_b1.symm.trans q.symm))
  replace Kp := Kp.ext E_b1
  replace A_a := A_a.ext E_b1
  replace A_b1 : PA .int Z h2 b1 [(.int (0 : Int32)), (.int (0 : Int32)), (.int (0 : Int32)), (.int (0 : Int32)), (.int (0 : Int32)), (.int (0 : Int32)), (.int (0 : Int32)), (.int (0 : Int32)), (.int (0 : Int32)), (.int (0 : Int32)), (.int (0 : Int32)), (.int (0 : Int32)), (.int (0 : Int32)), (.int (0 : Int32)), (.int (0 : Int32)), (.int (0 : Int32))] := A_b1
  show W K l _ n0 _ h2 1 16 9 #[.val (.ref a)] [(.ref b1), (.ref a)]
  refine w_putfield ok (host := "") (f := ("com/example/perx/perx/index/IntList", "values", "[I", (.array .int))) 0 d1_9 (Or.inl (hw _ (List.mem_of_getElem? (i := 10) rfl))) Via.refl A_a (la_IntList hw) rfl rfl (Or.inl (hw _ (List.mem_of_getElem? (i := 11) rfl))) (hw _ (List.mem_of_getElem? (i := 1) rfl)) rfl rfl ge_a (fun h3 W_h3 A1_h3 => ?_)
  replace Kp := Kp.wr W_h3 (Or.inl (by simp))
  replace A_b1 := A_b1.other W_h3 (Ne.symm ne_a_b1)
  replace A_a : Ob Z h3 a "com/example/perx/perx/index/IntList" fl_IntList [(.ref b1), (.int (0 : Int32))] := A1_h3
  show W K l _ n0 _ h3 1 16 12 #[.val (.ref a)] []
  refine w_ret ok d1_12 (by decide) (by decide) ?_
  exact ⟨rfl, b1, sz_b1, ge_b1, Kp, A_a, A_b1⟩
theorem d6_0 : decode prog_24_method_2_code 0 = .ok (.aload_n 0, 1) := by decide +kernel
theorem d6_1 : decode prog_24_method_2_code 1 = .ok (.getfield 13, 3) := by decide +kernel
theorem d6_4 : decode prog_24_method_2_code 4 = .ok (.ireturn, 1) := by decide +kernel
set_option maxRecDepth 65536 in
set_option maxHeartbeats 40000000 in
theorem rm_size (l : Launch) (Z : State) (a0 : Array Value) (hw : ∀ d ∈ tables_1, d.before a0 Z = true) (ws : List Jvm.Cond) (n0 : Nat) (h0 : Heap) (Z0 : n0 ≤ h0.size) (a r : Addr) (sz : Int32) (A_a : Ob Z h0 a "com/example/perx/perx/index/IntList" fl_IntList [.ref r, .int sz])  :
    Met l Z n0 (⟨"com/example/perx/perx/index/IntList", "size", "()I"⟩ : MethodName) prog_24_method_2_code 1 (some .int) ws ({ frames := 0, cells := 0, slots := 0, locals := 0 } : Room) #[(.ref a)] h0 (fun u h => u = some (.int sz) ∧ h0 = h) := by
  refine met_of Z0 (plainFor_of_name pn_com_example_perx_perx_index_IntList) (Ls := #[.val (.ref a)]) (fun m => by first | (simp [entryFrame, mkF, argsToLocals, Value.category]; done) | rfl) ?_
  intro K ok
  show W K l _ n0 _ h0 0 0 0 #[.val (.ref a)] []
  refine w_aloadN ok d6_0 rfl rfl ?_
  show W K l _ n0 _ h0 0 0 1 #[.val (.ref a)] [(.ref a)]
  refine w_getfield ok (v := (.int sz)) (host := "") (f := ("com/example/perx/perx/index/IntList", "size", "I", .int)) 1 d6_1 (Or.inl (hw _ (List.mem_of_getElem? (i := 17) rfl))) Via.refl A_a rfl rfl ?_
  show W K l _ n0 _ h0 0 0 4 #[.val (.ref a)] [(.int sz)]
  refine w_iret ok d6_4 (by decide) (by decide) ?_
  exact ⟨rfl, rfl⟩
theorem d7_0 : decode prog_24_method_4_code 0 = .ok (.aload_n 0, 1) := by decide +kernel
theorem d7_1 : decode prog_24_method_4_code 1 = .ok (.getfield 7, 3) := by decide +kernel
theorem d7_4 : decode prog_24_method_4_code 4 = .ok (.iload_n 1, 1) := by decide +kernel
theorem d7_5 : decode prog_24_method_4_code 5 = .ok (.iaload, 1) := by decide +kernel
theorem d7_6 : decode prog_24_method_4_code 6 = .ok (.ireturn, 1) := by decide +kernel
set_option maxRecDepth 65536 in
set_option maxHeartbeats 40000000 in
theorem rm_get (l : Launch) (Z : State) (a0 : Array Value) (hw : ∀ d ∈ tables_1, d.before a0 Z = true) (ws : List Jvm.Cond) (n0 : Nat) (h0 : Heap) (Z0 : n0 ≤ h0.size) (a r : Addr) (sz i x : Int32) (vs : List Value) (A_a : Ob Z h0 a "com/example/perx/perx/index/IntList" fl_IntList [.ref r, .int sz]) (A_r : PA .int Z h0 r vs) (hi0 : ¬ i < 0) (hi : vs[i.toNatClampNeg]? = some (.int x))  :
    Met l Z n0 (⟨"com/example/perx/perx/index/IntList", "get", "(I)I"⟩ : MethodName) prog_24_method_4_code 2 (some .int) ws ({ frames := 0, cells := 0, slots := 0, locals := 0 } : Room) #[(.ref a), (.int i)] h0 (fun u h => u = some (.int x) ∧ h0 = h) := by
  refine met_of Z0 (plainFor_of_name pn_com_example_perx_perx_index_IntList) (Ls := #[.val (.ref a), .val (.int i)]) (fun m => by first | (simp [entryFrame, mkF, argsToLocals, Value.category]; done) | rfl) ?_
  intro K ok
  show W K l _ n0 _ h0 0 0 0 #[.val (.ref a), .val (.int i)] []
  refine w_aloadN ok d7_0 rfl rfl ?_
  show W K l _ n0 _ h0 0 0 1 #[.val (.ref a), .val (.int i)] [(.ref a)]
  refine w_getfield ok (v := (.ref r)) (host := "") (f := ("com/example/perx/perx/index/IntList", "values", "[I", (.array .int))) 0 d7_1 (Or.inl (hw _ (List.mem_of_getElem? (i := 10) rfl))) Via.refl A_a rfl rfl ?_
  show W K l _ n0 _ h0 0 0 4 #[.val (.ref a), .val (.int i)] [(.ref r)]
  refine w_iloadN ok d7_4 rfl ?_
  show W K l _ n0 _ h0 0 0 5 #[.val (.ref a), .val (.int i)] [(.int i), (.ref r)]
  refine w_iaload ok (v := (.int x)) d7_5 A_r hi0 hi ?_
  show W K l _ n0 _ h0 0 0 6 #[.val (.ref a), .val (.int i)] [(.int x)]
  refine w_iret ok d7_6 (by decide) (by decide) ?_
  exact ⟨rfl, rfl⟩
theorem d5_0 : decode prog_24_method_7_code 0 = .ok (.aload_n 0, 1) := by decide +kernel
theorem d5_1 : decode prog_24_method_7_code 1 = .ok (.iload_n 1, 1) := by decide +kernel
theorem d5_2 : decode prog_24_method_7_code 2 = .ok (.putfield 13, 3) := by decide +kernel
theorem d5_5 : decode prog_24_method_7_code 5 = .ok (.return_, 1) := by decide +kernel
set_option maxRecDepth 65536 in
set_option maxHeartbeats 40000000 in
theorem rm_trunc (l : Launch) (Z : State) (a0 : Array Value) (hw : ∀ d ∈ tables_1, d.before a0 Z = true) (ws : List Jvm.Cond) (n0 : Nat) (h0 : Heap) (Z0 : n0 ≤ h0.size) (a r : Addr) (sz i : Int32) (A_a : Ob Z h0 a "com/example/perx/perx/index/IntList" fl_IntList [.ref r, .int sz]) (ge_a : n0 ≤ a)  :
    Met l Z n0 (⟨"com/example/perx/perx/index/IntList", "truncate", "(I)V"⟩ : MethodName) prog_24_method_7_code 2 none ws ({ frames := 0, cells := 0, slots := 0, locals := 0 } : Room) #[(.ref a), (.int i)] h0 (fun u h => u = none ∧ Keep h0 h [a] ∧ Ob Z h a "com/example/perx/perx/index/IntList" fl_IntList [.ref r, .int i]) := by
  refine met_of Z0 (plainFor_of_name pn_com_example_perx_perx_index_IntList) (Ls := #[.val (.ref a), .val (.int i)]) (fun m => by first | (simp [entryFrame, mkF, argsToLocals, Value.category]; done) | rfl) ?_
  intro K ok
  have Kp : Keep h0 h0 [a] := Keep.refl _ _
  show W K l _ n0 _ h0 0 0 0 #[.val (.ref a), .val (.int i)] []
  refine w_aloadN ok d5_0 rfl rfl ?_
  show W K l _ n0 _ h0 0 0 1 #[.val (.ref a), .val (.int i)] [(.ref a)]
  refine w_iloadN ok d5_1 rfl ?_
  show W K l _ n0 _ h0 0 0 2 #[.val (.ref a), .val (.int i)] [(.int i), (.ref a)]
  refine w_putfield ok (host := "") (f := ("com/example/perx/perx/index/IntList", "size", "I", .int)) 1 d5_2 (Or.inl (hw _ (List.mem_of_getElem? (i := 17) rfl))) Via.refl A_a (la_IntList hw) rfl rfl (Or.inl (hw _ (List.mem_of_getElem? (i := 18) rfl))) (hw _ (List.mem_of_getElem? (i := 1) rfl)) rfl rfl ge_a (fun h1 W_h1 A1_h1 => ?_)
  replace Kp := Kp.wr W_h1 (Or.inl (by simp))
  replace A_a : Ob Z h1 a "com/example/perx/perx/index/IntList" fl_IntList [(.ref r), (.int i)] := A1_h1
  show W K l _ n0 _ h1 0 0 5 #[.val (.ref a), .val (.int i)] []
  refine w_ret ok d5_5 (by decide) (by decide) ?_
  exact ⟨rfl, Kp, A_a⟩
theorem own_ltq {z q : Int32} {N : Nat} (h : ¬ z = q) (h0 : ¬ z < 0) (h1 : ¬ q < 0) (h2 : z.toNatClampNeg ≤ N) (h3 : N = q.toNatClampNeg) : z.toNatClampNeg < N := by
  have e1 := nat_of h0; have e2 := nat_of h1
  rw [← Int32.toInt_inj] at h; omega
theorem own_dbln {z q : Int32} {N : Nat} (h0 : ¬ z < 0) (h1 : ¬ q < 0) (h2 : z.toNatClampNeg + z.toNatClampNeg ≤ N) (h3 : N = q.toNatClampNeg) : ¬ q < z + z := by
  have e1 := nat_of h0; have e2 := nat_of h1; have e3 := c_iadd z z; have r := rng32 (z + z); have r2 := rng32 q
  rw [Int32.lt_iff_toInt_lt]; omega
theorem own_dbl {q : Int32} (h : ¬ q < 0) (h1 : q.toNatClampNeg ≤ 1000000) : (q * 2).toNatClampNeg = 2 * q.toNatClampNeg := by
  have e := nat_of h; have e2 := c_imul q 2; have r := rng32 (q * 2); have e3 : (2 : Int32).toInt = 2 := rfl
  rw [e3] at e2
  simp only [Int32.toNatClampNeg] at *; omega
theorem own_dbl0 {q : Int32} (h : ¬ q < 0) (h1 : q.toNatClampNeg ≤ 1000000) : ¬ q * 2 < 0 := by
  have e := nat_of h; have e2 := c_imul q 2; have r := rng32 (q * 2); have e3 : (2 : Int32).toInt = 2 := rfl; have e4 : (0 : Int32).toInt = 0 := rfl
  rw [e3] at e2
  rw [Int32.lt_iff_toInt_lt, e4]; omega
theorem d3_0 : decode prog_24_method_3_code 0 = .ok (.aload_n 0, 1) := by decide +kernel
theorem d3_1 : decode prog_24_method_3_code 1 = .ok (.getfield 13, 3) := by decide +kernel
theorem d3_4 : decode prog_24_method_3_code 4 = .ok (.aload_n 0, 1) := by decide +kernel
theorem d3_5 : decode prog_24_method_3_code 5 = .ok (.getfield 7, 3) := by decide +kernel
theorem d3_8 : decode prog_24_method_3_code 8 = .ok (.arraylength, 1) := by decide +kernel
theorem d3_9 : decode prog_24_method_3_code 9 = .ok (.if_icmp .ne 21, 3) := by decide +kernel
theorem d3_12 : decode prog_24_method_3_code 12 = .ok (.aload_n 0, 1) := by decide +kernel
theorem d3_13 : decode prog_24_method_3_code 13 = .ok (.aload_n 0, 1) := by decide +kernel
theorem d3_14 : decode prog_24_method_3_code 14 = .ok (.getfield 7, 3) := by decide +kernel
theorem d3_17 : decode prog_24_method_3_code 17 = .ok (.aload_n 0, 1) := by decide +kernel
theorem d3_18 : decode prog_24_method_3_code 18 = .ok (.getfield 7, 3) := by decide +kernel
theorem d3_21 : decode prog_24_method_3_code 21 = .ok (.arraylength, 1) := by decide +kernel
theorem d3_22 : decode prog_24_method_3_code 22 = .ok (.iconst 2, 1) := by decide +kernel
theorem d3_23 : decode prog_24_method_3_code 23 = .ok (.imul, 1) := by decide +kernel
theorem d3_24 : decode prog_24_method_3_code 24 = .ok (.invokestatic 17, 3) := by decide +kernel
theorem d3_27 : decode prog_24_method_3_code 27 = .ok (.putfield 7, 3) := by decide +kernel
theorem d3_30 : decode prog_24_method_3_code 30 = .ok (.aload_n 0, 1) := by decide +kernel
theorem d3_31 : decode prog_24_method_3_code 31 = .ok (.getfield 7, 3) := by decide +kernel
theorem d3_34 : decode prog_24_method_3_code 34 = .ok (.aload_n 0, 1) := by decide +kernel
theorem d3_35 : decode prog_24_method_3_code 35 = .ok (.dup, 1) := by decide +kernel
theorem d3_36 : decode prog_24_method_3_code 36 = .ok (.getfield 13, 3) := by decide +kernel
theorem d3_39 : decode prog_24_method_3_code 39 = .ok (.dup_x1, 1) := by decide +kernel
theorem d3_40 : decode prog_24_method_3_code 40 = .ok (.iconst 1, 1) := by decide +kernel
theorem d3_41 : decode prog_24_method_3_code 41 = .ok (.iadd, 1) := by decide +kernel
theorem d3_42 : decode prog_24_method_3_code 42 = .ok (.putfield 13, 3) := by decide +kernel
theorem d3_45 : decode prog_24_method_3_code 45 = .ok (.iload_n 1, 1) := by decide +kernel
theorem d3_46 : decode prog_24_method_3_code 46 = .ok (.iastore, 1) := by decide +kernel
theorem d3_47 : decode prog_24_method_3_code 47 = .ok (.return_, 1) := by decide +kernel
theorem pd_285bII295bI : parseMethodDescriptor "([II)[I" = some ⟨[(.array .int), .int], some (.array .int)⟩ := by decide +kernel
set_option maxRecDepth 65536 in
set_option maxHeartbeats 40000000 in
theorem rm_add (l : Launch) (Z : State) (a0 : Array Value) (hw : ∀ d ∈ tables_1, d.before a0 Z = true) (ws : List Jvm.Cond) (n0 : Nat) (h0 : Heap) (Z0 : n0 ≤ h0.size) (a r : Addr) (vs : List Value) (sz x : Int32) (A_a : Ob Z h0 a "com/example/perx/perx/index/IntList" fl_IntList [.ref r, .int sz]) (A_r : PA .int Z h0 r vs) (ge_a : n0 ≤ a) (ge_r : n0 ≤ r) (ne_a_r : a ≠ r) (hsz0 : ¬ sz < 0) (hsz : sz.toNatClampNeg ≤ vs.length) (hvs : 1 ≤ vs.length ∧ 2 * vs.length ≤ 32)  :
    Met l Z n0 (⟨"com/example/perx/perx/index/IntList", "add", "(I)V"⟩ : MethodName) prog_24_method_3_code 2 none ws ({ frames := 2, cells := 1, slots := 32, locals := 33 } : Room) #[(.ref a), (.int x)] h0 (fun u h => u = none ∧ ∃ b e, n0 ≤ b ∧ (b = r ∨ h0.size ≤ b) ∧ a ≠ b ∧ Keep h0 h [a, r] ∧ Ob Z h a "com/example/perx/perx/index/IntList" fl_IntList [.ref b, .int (sz + 1)] ∧ PA .int Z h b ((vs ++ List.replicate e (Value.int 0)).set sz.toNatClampNeg (.int x)) ∧ (sz.toNatClampNeg < vs.length → e = 0 ∧ r = b) ∧ sz.toNatClampNeg < vs.length + e ∧ vs.length + e ≤ 32) := by
  refine met_of Z0 (plainFor_of_name pn_com_example_perx_perx_index_IntList) (Ls := #[.val (.ref a), .val (.int x)]) (fun m => by first | (simp [entryFrame, mkF, argsToLocals, Value.category]; done) | rfl) ?_
  intro K ok
  have Kp : Keep h0 h0 [a, r] := Keep.refl _ _
  obtain ⟨q, hq, hq0⟩ := pa_z A_r.len
  show W K l _ n0 _ h0 0 0 0 #[.val (.ref a), .val (.int x)] []
  refine w_aloadN ok d3_0 rfl rfl ?_
  show W K l _ n0 _ h0 0 0 1 #[.val (.ref a), .val (.int x)] [(.ref a)]
  refine w_getfield ok (v := (.int sz)) (host := "") (f := ("com/example/perx/perx/index/IntList", "size", "I", .int)) 1 d3_1 (Or.inl (hw _ (List.mem_of_getElem? (i := 17) rfl))) Via.refl A_a rfl rfl ?_
  show W K l _ n0 _ h0 0 0 4 #[.val (.ref a), .val (.int x)] [(.int sz)]
  refine w_aloadN ok d3_4 rfl rfl ?_
  show W K l _ n0 _ h0 0 0 5 #[.val (.ref a), .val (.int x)] [(.ref a), (.int sz)]
  refine w_getfield ok (v := (.ref r)) (host := "") (f := ("com/example/perx/perx/index/IntList", "values", "[I", (.array .int))) 0 d3_5 (Or.inl (hw _ (List.mem_of_getElem? (i := 10) rfl))) Via.refl A_a rfl rfl ?_
  show W K l _ n0 _ h0 0 0 8 #[.val (.ref a), .val (.int x)] [(.ref r), (.int sz)]
  refine w_arraylength ok (z := q) d3_8 A_r hq hq0 ?_
  show W K l _ n0 _ h0 0 0 9 #[.val (.ref a), .val (.int x)] [(.int q), (.int sz)]
  refine w_icmp_ne ok d3_9 (pc' := 30) (by decide) (fun hc1 => ?_) (fun hc1 => ?_)
  · show W K l _ n0 _ h0 0 0 30 #[.val (.ref a), .val (.int x)] []
    refine w_aloadN ok d3_30 rfl rfl ?_
    show W K l _ n0 _ h0 0 0 31 #[.val (.ref a), .val (.int x)] [(.ref a)]
    refine w_getfield ok (v := (.ref r)) (host := "") (f := ("com/example/perx/perx/index/IntList", "values", "[I", (.array .int))) 0 d3_31 (Or.inl (hw _ (List.mem_of_getElem? (i := 10) rfl))) Via.refl A_a rfl rfl ?_
    show W K l _ n0 _ h0 0 0 34 #[.val (.ref a), .val (.int x)] [(.ref r)]
    refine w_aloadN ok d3_34 rfl rfl ?_
    show W K l _ n0 _ h0 0 0 35 #[.val (.ref a), .val (.int x)] [(.ref a), (.ref r)]
    refine w_dup ok d3_35 rfl ?_
    show W K l _ n0 _ h0 0 0 36 #[.val (.ref a), .val (.int x)] [(.ref a), (.ref a), (.ref r)]
    refine w_getfield ok (v := (.int sz)) (host := "") (f := ("com/example/perx/perx/index/IntList", "size", "I", .int)) 1 d3_36 (Or.inl (hw _ (List.mem_of_getElem? (i := 17) rfl))) Via.refl A_a rfl rfl ?_
    show W K l _ n0 _ h0 0 0 39 #[.val (.ref a), .val (.int x)] [(.int sz), (.ref a), (.ref r)]
    refine w_dupX1 ok d3_39 rfl rfl ?_
    show W K l _ n0 _ h0 0 0 40 #[.val (.ref a), .val (.int x)] [(.int sz), (.ref a), (.int sz), (.ref r)]
    refine w_iconst ok d3_40 (v := (1 : Int32)) rfl ?_
    show W K l _ n0 _ h0 0 0 41 #[.val (.ref a), .val (.int x)] [(.int (1 : Int32)), (.int sz), (.ref a), (.int sz), (.ref r)]
    refine w_iadd ok d3_41 ?_
    show W K l _ n0 _ h0 0 0 42 #[.val (.ref a), .val (.int x)] [(.int (sz + (1 : Int32))), (.ref a), (.int sz), (.ref r)]
    refine w_putfield ok (host := "") (f := ("com/example/perx/perx/index/IntList", "size", "I", .int)) 1 d3_42 (Or.inl (hw _ (List.mem_of_getElem? (i := 17) rfl))) Via.refl A_a (la_IntList hw) rfl rfl (Or.inl (hw _ (List.mem_of_getElem? (i := 18) rfl))) (hw _ (List.mem_of_getElem? (i := 1) rfl)) rfl rfl ge_a (fun h2 W_h2 A1_h2 => ?_)
    replace Kp := Kp.wr W_h2 (Or.inl (by simp))
    replace A_r := A_r.other W_h2 (Ne.symm ne_a_r)
    replace A_a : Ob Z h2 a "com/example/perx/perx/index/IntList" fl_IntList [(.ref r), (.int (sz + (1 : Int32)))] := A1_h2
    show W K l _ n0 _ h2 0 0 45 #[.val (.ref a), .val (.int x)] [(.int sz), (.ref r)]
    refine w_iloadN ok d3_45 rfl ?_
    show W K l _ n0 _ h2 0 0 46 #[.val (.ref a), .val (.int x)] [(.int x), (.int sz), (.ref r)]
    refine w_iastore ok d3_46 A_r ge_r hsz0 (own_ltq hc1 hsz0 hq0 hsz hq) (fun h3 W_h3 A1_h3 => ?_)
    replace Kp := Kp.wr W_h3 (Or.inl (by simp))
    replace A_a := A_a.other W_h3 ne_a_r
    replace A_r : PA .int Z h3 r (vs.set sz.toNatClampNeg (.int x)) := A1_h3
    show W K l _ n0 _ h3 0 0 47 #[.val (.ref a), .val (.int x)] []
    refine w_ret ok d3_47 (by decide) (by decide) ?_
    exact ⟨rfl, r, 0, ge_r, Or.inl rfl, ne_a_r, Kp, A_a, by simpa using A_r, fun _ => ⟨rfl, rfl⟩, own_ltq hc1 hsz0 hq0 hsz hq, by omega⟩
  · show W K l _ n0 _ h0 0 0 12 #[.val (.ref a), .val (.int x)] []
    refine w_aloadN ok d3_12 rfl rfl ?_
    show W K l _ n0 _ h0 0 0 13 #[.val (.ref a), .val (.int x)] [(.ref a)]
    refine w_aloadN ok d3_13 rfl rfl ?_
    show W K l _ n0 _ h0 0 0 14 #[.val (.ref a), .val (.int x)] [(.ref a), (.ref a)]
    refine w_getfield ok (v := (.ref r)) (host := "") (f := ("com/example/perx/perx/index/IntList", "values", "[I", (.array .int))) 0 d3_14 (Or.inl (hw _ (List.mem_of_getElem? (i := 10) rfl))) Via.refl A_a rfl rfl ?_
    show W K l _ n0 _ h0 0 0 17 #[.val (.ref a), .val (.int x)] [(.ref r), (.ref a)]
    refine w_aloadN ok d3_17 rfl rfl ?_
    show W K l _ n0 _ h0 0 0 18 #[.val (.ref a), .val (.int x)] [(.ref a), (.ref r), (.ref a)]
    refine w_getfield ok (v := (.ref r)) (host := "") (f := ("com/example/perx/perx/index/IntList", "values", "[I", (.array .int))) 0 d3_18 (Or.inl (hw _ (List.mem_of_getElem? (i := 10) rfl))) Via.refl A_a rfl rfl ?_
    show W K l _ n0 _ h0 0 0 21 #[.val (.ref a), .val (.int x)] [(.ref r), (.ref r), (.ref a)]
    refine w_arraylength ok (z := q) d3_21 A_r hq hq0 ?_
    show W K l _ n0 _ h0 0 0 22 #[.val (.ref a), .val (.int x)] [(.int q), (.ref r), (.ref a)]
    refine w_iconst ok d3_22 (v := (2 : Int32)) rfl ?_
    show W K l _ n0 _ h0 0 0 23 #[.val (.ref a), .val (.int x)] [(.int (2 : Int32)), (.int q), (.ref r), (.ref a)]
    refine w_imul ok d3_23 ?_
    show W K l _ n0 _ h0 0 0 24 #[.val (.ref a), .val (.int x)] [(.int (q * (2 : Int32))), (.ref r), (.ref a)]
    refine w_callS ok (y := (⟨"java/util/Arrays", "copyOf", "([II)[I"⟩ : MethodName)) (argsL := [(.ref r), (.int (q * (2 : Int32)))]) (rest := [(.ref a)]) d3_24 (hw _ (List.mem_of_getElem? (i := 43) rfl)) (hw _ (List.mem_of_getElem? (i := 44) rfl)) (hw _ (List.mem_of_getElem? (i := 45) rfl)) (hw _ (List.mem_of_getElem? (i := 46) rfl)) (by decide) pd_285bII295bI rfl rfl (by decide) (Nat.le_of_ble_eq_true rfl) (by decide) (by decide) (fun z0 => cp_int l Z a0 hw [] n0 h0 z0 r vs (q * (2 : Int32)) A_r (by rw [own_dbl hq0 (by omega)]; omega) (own_dbl0 hq0 (by omega)) (by rw [own_dbl hq0 (by omega)]; omega)) (fun v4 h5 qv4 => ?_)
    obtain ⟨c, rfl, sz_c, ge_c, K1, A_c⟩ := qv4
    have ne_a_c : a ≠ c := Nat.ne_of_lt (Nat.lt_of_lt_of_le A_a.lt sz_c)
    have ne_r_c : r ≠ c := Nat.ne_of_lt (Nat.lt_of_lt_of_le A_r.lt sz_c)
    have szq_c : h0.size ≤ c := Nat.le_trans Kp.1 sz_c
    replace Kp := Kp.trans K1 all0
    replace A_a := A_a.keep K1 nin0
    replace A_r := A_r.keep K1 nin0
    show W K l _ n0 _ h5 1 32 27 #[.val (.ref a), .val (.int x)] [(.ref c), (.ref a)]
    refine w_putfield ok (host := "") (f := ("com/example/perx/perx/index/IntList", "values", "[I", (.array .int))) 0 d3_27 (Or.inl (hw _ (List.mem_of_getElem? (i := 10) rfl))) Via.refl A_a (la_IntList hw) rfl rfl (Or.inl (hw _ (List.mem_of_getElem? (i := 11) rfl))) (hw _ (List.mem_of_getElem? (i := 1) rfl)) rfl rfl ge_a (fun h6 W_h6 A1_h6 => ?_)
    replace Kp := Kp.wr W_h6 (Or.inl (by simp))
    replace A_r := A_r.other W_h6 (Ne.symm ne_a_r)
    replace A_c := A_c.other W_h6 (Ne.symm ne_a_c)
    replace A_a : Ob Z h6 a "com/example/perx/perx/index/IntList" fl_IntList [(.ref c), (.int sz)] := A1_h6
    show W K l _ n0 _ h6 1 32 30 #[.val (.ref a), .val (.int x)] []
    refine w_aloadN ok d3_30 rfl rfl ?_
    show W K l _ n0 _ h6 1 32 31 #[.val (.ref a), .val (.int x)] [(.ref a)]
    refine w_getfield ok (v := (.ref c)) (host := "") (f := ("com/example/perx/perx/index/IntList", "values", "[I", (.array .int))) 0 d3_31 (Or.inl (hw _ (List.mem_of_getElem? (i := 10) rfl))) Via.refl A_a rfl rfl ?_
    show W K l _ n0 _ h6 1 32 34 #[.val (.ref a), .val (.int x)] [(.ref c)]
    refine w_aloadN ok d3_34 rfl rfl ?_
    show W K l _ n0 _ h6 1 32 35 #[.val (.ref a), .val (.int x)] [(.ref a), (.ref c)]
    refine w_dup ok d3_35 rfl ?_
    show W K l _ n0 _ h6 1 32 36 #[.val (.ref a), .val (.int x)] [(.ref a), (.ref a), (.ref c)]
    refine w_getfield ok (v := (.int sz)) (host := "") (f := ("com/example/perx/perx/index/IntList", "size", "I", .int)) 1 d3_36 (Or.inl (hw _ (List.mem_of_getElem? (i := 17) rfl))) Via.refl A_a rfl rfl ?_
    show W K l _ n0 _ h6 1 32 39 #[.val (.ref a), .val (.int x)] [(.int sz), (.ref a), (.ref c)]
    refine w_dupX1 ok d3_39 rfl rfl ?_
    show W K l _ n0 _ h6 1 32 40 #[.val (.ref a), .val (.int x)] [(.int sz), (.ref a), (.int sz), (.ref c)]
    refine w_iconst ok d3_40 (v := (1 : Int32)) rfl ?_
    show W K l _ n0 _ h6 1 32 41 #[.val (.ref a), .val (.int x)] [(.int (1 : Int32)), (.int sz), (.ref a), (.int sz), (.ref c)]
    refine w_iadd ok d3_41 ?_
    show W K l _ n0 _ h6 1 32 42 #[.val (.ref a), .val (.int x)] [(.int (sz + (1 : Int32))), (.ref a), (.int sz), (.ref c)]
    refine w_putfield ok (host := "") (f := ("com/example/perx/perx/index/IntList", "size", "I", .int)) 1 d3_42 (Or.inl (hw _ (List.mem_of_getElem? (i := 17) rfl))) Via.refl A_a (la_IntList hw) rfl rfl (Or.inl (hw _ (List.mem_of_getElem? (i := 18) rfl))) (hw _ (List.mem_of_getElem? (i := 1) rfl)) rfl rfl ge_a (fun h7 W_h7 A1_h7 => ?_)
    replace Kp := Kp.wr W_h7 (Or.inl (by simp))
    replace A_r := A_r.other W_h7 (Ne.symm ne_a_r)
    replace A_c := A_c.other W_h7 (Ne.symm ne_a_c)
    replace A_a : Ob Z h7 a "com/example/perx/perx/index/IntList" fl_IntList [(.ref c), (.int (sz + (1 : Int32)))] := A1_h7
    show W K l _ n0 _ h7 1 32 45 #[.val (.ref a), .val (.int x)] [(.int sz), (.ref c)]
    refine w_iloadN ok d3_45 rfl ?_
    show W K l _ n0 _ h7 1 32 46 #[.val (.ref a), .val (.int x)] [(.int x), (.int sz), (.ref c)]
    refine w_iastore ok d3_46 A_c ge_c hsz0 (by rw [List.length_append, List.length_replicate, own_dbl hq0 (by omega)]; omega) (fun h8 W_h8 A1_h8 => ?_)
    replace Kp := Kp.wr W_h8 (Or.inr szq_c)
    replace A_a := A_a.other W_h8 ne_a_c
    replace A_r := A_r.other W_h8 ne_r_c
    replace A_c : PA .int Z h8 c ((vs ++ List.replicate ((q * (2 : Int32)).toNatClampNeg - vs.length) (Value.int 0)).set sz.toNatClampNeg (.int x)) := A1_h8
    show W K l _ n0 _ h8 1 32 47 #[.val (.ref a), .val (.int x)] []
    refine w_ret ok d3_47 (by decide) (by decide) ?_
    refine ⟨rfl, c, (q * 2).toNatClampNeg - vs.length, ge_c, Or.inr szq_c, ne_a_c, Kp, A_a, A_c, fun y => absurd y ?_, ?_, by rw [own_dbl hq0 (by omega)]; omega⟩
    all_goals (have e1 : sz.toNatClampNeg = q.toNatClampNeg := by rw [hc1])
    · omega
    · rw [own_dbl hq0 (by omega)]; omega
theorem d4_0 : decode prog_24_method_6_code 0 = .ok (.aload_n 0, 1) := by decide +kernel
theorem d4_1 : decode prog_24_method_6_code 1 = .ok (.getfield 13, 3) := by decide +kernel
theorem d4_4 : decode prog_24_method_6_code 4 = .ok (.aload_n 1, 1) := by decide +kernel
theorem d4_5 : decode prog_24_method_6_code 5 = .ok (.getfield 13, 3) := by decide +kernel
theorem d4_8 : decode prog_24_method_6_code 8 = .ok (.iadd, 1) := by decide +kernel
theorem d4_9 : decode prog_24_method_6_code 9 = .ok (.aload_n 0, 1) := by decide +kernel
theorem d4_10 : decode prog_24_method_6_code 10 = .ok (.getfield 7, 3) := by decide +kernel
theorem d4_13 : decode prog_24_method_6_code 13 = .ok (.arraylength, 1) := by decide +kernel
theorem d4_14 : decode prog_24_method_6_code 14 = .ok (.if_icmp .le 33, 3) := by decide +kernel
theorem d4_17 : decode prog_24_method_6_code 17 = .ok (.aload_n 0, 1) := by decide +kernel
theorem d4_18 : decode prog_24_method_6_code 18 = .ok (.aload_n 0, 1) := by decide +kernel
theorem d4_19 : decode prog_24_method_6_code 19 = .ok (.getfield 7, 3) := by decide +kernel
theorem d4_22 : decode prog_24_method_6_code 22 = .ok (.aload_n 0, 1) := by decide +kernel
theorem d4_23 : decode prog_24_method_6_code 23 = .ok (.getfield 7, 3) := by decide +kernel
theorem d4_26 : decode prog_24_method_6_code 26 = .ok (.arraylength, 1) := by decide +kernel
theorem d4_27 : decode prog_24_method_6_code 27 = .ok (.iconst 2, 1) := by decide +kernel
theorem d4_28 : decode prog_24_method_6_code 28 = .ok (.imul, 1) := by decide +kernel
theorem d4_29 : decode prog_24_method_6_code 29 = .ok (.aload_n 0, 1) := by decide +kernel
theorem d4_30 : decode prog_24_method_6_code 30 = .ok (.getfield 13, 3) := by decide +kernel
theorem d4_33 : decode prog_24_method_6_code 33 = .ok (.aload_n 1, 1) := by decide +kernel
theorem d4_34 : decode prog_24_method_6_code 34 = .ok (.getfield 13, 3) := by decide +kernel
theorem d4_37 : decode prog_24_method_6_code 37 = .ok (.iadd, 1) := by decide +kernel
theorem d4_38 : decode prog_24_method_6_code 38 = .ok (.invokestatic 23, 3) := by decide +kernel
theorem d4_41 : decode prog_24_method_6_code 41 = .ok (.invokestatic 17, 3) := by decide +kernel
theorem d4_44 : decode prog_24_method_6_code 44 = .ok (.putfield 7, 3) := by decide +kernel
theorem d4_47 : decode prog_24_method_6_code 47 = .ok (.aload_n 1, 1) := by decide +kernel
theorem d4_48 : decode prog_24_method_6_code 48 = .ok (.getfield 7, 3) := by decide +kernel
theorem d4_51 : decode prog_24_method_6_code 51 = .ok (.iconst 0, 1) := by decide +kernel
theorem d4_52 : decode prog_24_method_6_code 52 = .ok (.aload_n 0, 1) := by decide +kernel
theorem d4_53 : decode prog_24_method_6_code 53 = .ok (.getfield 7, 3) := by decide +kernel
theorem d4_56 : decode prog_24_method_6_code 56 = .ok (.aload_n 0, 1) := by decide +kernel
theorem d4_57 : decode prog_24_method_6_code 57 = .ok (.getfield 13, 3) := by decide +kernel
theorem d4_60 : decode prog_24_method_6_code 60 = .ok (.aload_n 1, 1) := by decide +kernel
theorem d4_61 : decode prog_24_method_6_code 61 = .ok (.getfield 13, 3) := by decide +kernel
theorem d4_64 : decode prog_24_method_6_code 64 = .ok (.invokestatic 29, 3) := by decide +kernel
theorem d4_67 : decode prog_24_method_6_code 67 = .ok (.aload_n 0, 1) := by decide +kernel
theorem d4_68 : decode prog_24_method_6_code 68 = .ok (.dup, 1) := by decide +kernel
theorem d4_69 : decode prog_24_method_6_code 69 = .ok (.getfield 13, 3) := by decide +kernel
theorem d4_72 : decode prog_24_method_6_code 72 = .ok (.aload_n 1, 1) := by decide +kernel
theorem d4_73 : decode prog_24_method_6_code 73 = .ok (.getfield 13, 3) := by decide +kernel
theorem d4_76 : decode prog_24_method_6_code 76 = .ok (.iadd, 1) := by decide +kernel
theorem d4_77 : decode prog_24_method_6_code 77 = .ok (.putfield 13, 3) := by decide +kernel
theorem d4_80 : decode prog_24_method_6_code 80 = .ok (.return_, 1) := by decide +kernel
set_option maxRecDepth 65536 in
set_option maxHeartbeats 40000000 in
theorem rm_self (l : Launch) (Z : State) (a0 : Array Value) (hw : ∀ d ∈ tables_1, d.before a0 Z = true) (ws : List Jvm.Cond) (n0 : Nat) (h0 : Heap) (Z0 : n0 ≤ h0.size) (a r : Addr) (vs : List Value) (sz : Int32) (A_a : Ob Z h0 a "com/example/perx/perx/index/IntList" fl_IntList [.ref r, .int sz]) (A_r : PA .int Z h0 r vs) (ge_a : n0 ≤ a) (ge_r : n0 ≤ r) (ne_a_r : a ≠ r) (hsz0 : ¬ sz < 0) (hsz : sz.toNatClampNeg + sz.toNatClampNeg ≤ vs.length)  :
    Met l Z n0 (⟨"com/example/perx/perx/index/IntList", "addAll", "(Lcom/example/perx/perx/index/IntList;)V"⟩ : MethodName) prog_24_method_6_code 2 none ws ({ frames := 1, cells := 0, slots := 0, locals := 18 } : Room) #[(.ref a), (.ref a)] h0 (fun u h => u = none ∧ Keep h0 h [a, r] ∧ Ob Z h a "com/example/perx/perx/index/IntList" fl_IntList [.ref r, .int (sz + sz)] ∧ PA .int Z h r (vs.take sz.toNatClampNeg ++ vs.take sz.toNatClampNeg ++ vs.drop (sz.toNatClampNeg + sz.toNatClampNeg))) := by
  refine met_of Z0 (plainFor_of_name pn_com_example_perx_perx_index_IntList) (Ls := #[.val (.ref a), .val (.ref a)]) (fun m => by first | (simp [entryFrame, mkF, argsToLocals, Value.category]; done) | rfl) ?_
  intro K ok
  have Kp : Keep h0 h0 [a, r] := Keep.refl _ _
  obtain ⟨q, hq, hq0⟩ := pa_z A_r.len
  show W K l _ n0 _ h0 0 0 0 #[.val (.ref a), .val (.ref a)] []
  refine w_aloadN ok d4_0 rfl rfl ?_
  show W K l _ n0 _ h0 0 0 1 #[.val (.ref a), .val (.ref a)] [(.ref a)]
  refine w_getfield ok (v := (.int sz)) (host := "") (f := ("com/example/perx/perx/index/IntList", "size", "I", .int)) 1 d4_1 (Or.inl (hw _ (List.mem_of_getElem? (i := 17) rfl))) Via.refl A_a rfl rfl ?_
  show W K l _ n0 _ h0 0 0 4 #[.val (.ref a), .val (.ref a)] [(.int sz)]
  refine w_aloadN ok d4_4 rfl rfl ?_
  show W K l _ n0 _ h0 0 0 5 #[.val (.ref a), .val (.ref a)] [(.ref a), (.int sz)]
  refine w_getfield ok (v := (.int sz)) (host := "") (f := ("com/example/perx/perx/index/IntList", "size", "I", .int)) 1 d4_5 (Or.inl (hw _ (List.mem_of_getElem? (i := 17) rfl))) Via.refl A_a rfl rfl ?_
  show W K l _ n0 _ h0 0 0 8 #[.val (.ref a), .val (.ref a)] [(.int sz), (.int sz)]
  refine w_iadd ok d4_8 ?_
  show W K l _ n0 _ h0 0 0 9 #[.val (.ref a), .val (.ref a)] [(.int (sz + sz))]
  refine w_aloadN ok d4_9 rfl rfl ?_
  show W K l _ n0 _ h0 0 0 10 #[.val (.ref a), .val (.ref a)] [(.ref a), (.int (sz + sz))]
  refine w_getfield ok (v := (.ref r)) (host := "") (f := ("com/example/perx/perx/index/IntList", "values", "[I", (.array .int))) 0 d4_10 (Or.inl (hw _ (List.mem_of_getElem? (i := 10) rfl))) Via.refl A_a rfl rfl ?_
  show W K l _ n0 _ h0 0 0 13 #[.val (.ref a), .val (.ref a)] [(.ref r), (.int (sz + sz))]
  refine w_arraylength ok (z := q) d4_13 A_r hq hq0 ?_
  show W K l _ n0 _ h0 0 0 14 #[.val (.ref a), .val (.ref a)] [(.int q), (.int (sz + sz))]
  refine w_icmp_le ok d4_14 (pc' := 47) (by decide) (fun hc1 => ?_) (fun hc1 => False.elim (by exact own_dbln hsz0 hq0 (by omega) hq hc1))
  show W K l _ n0 _ h0 0 0 47 #[.val (.ref a), .val (.ref a)] []
  refine w_aloadN ok d4_47 rfl rfl ?_
  show W K l _ n0 _ h0 0 0 48 #[.val (.ref a), .val (.ref a)] [(.ref a)]
  refine w_getfield ok (v := (.ref r)) (host := "") (f := ("com/example/perx/perx/index/IntList", "values", "[I", (.array .int))) 0 d4_48 (Or.inl (hw _ (List.mem_of_getElem? (i := 10) rfl))) Via.refl A_a rfl rfl ?_
  show W K l _ n0 _ h0 0 0 51 #[.val (.ref a), .val (.ref a)] [(.ref r)]
  refine w_iconst ok d4_51 (v := (0 : Int32)) rfl ?_
  show W K l _ n0 _ h0 0 0 52 #[.val (.ref a), .val (.ref a)] [(.int (0 : Int32)), (.ref r)]
  refine w_aloadN ok d4_52 rfl rfl ?_
  show W K l _ n0 _ h0 0 0 53 #[.val (.ref a), .val (.ref a)] [(.ref a), (.int (0 : Int32)), (.ref r)]
  refine w_getfield ok (v := (.ref r)) (host := "") (f := ("com/example/perx/perx/index/IntList", "values", "[I", (.array .int))) 0 d4_53 (Or.inl (hw _ (List.mem_of_getElem? (i := 10) rfl))) Via.refl A_a rfl rfl ?_
  show W K l _ n0 _ h0 0 0 56 #[.val (.ref a), .val (.ref a)] [(.ref r), (.int (0 : Int32)), (.ref r)]
  refine w_aloadN ok d4_56 rfl rfl ?_
  show W K l _ n0 _ h0 0 0 57 #[.val (.ref a), .val (.ref a)] [(.ref a), (.ref r), (.int (0 : Int32)), (.ref r)]
  refine w_getfield ok (v := (.int sz)) (host := "") (f := ("com/example/perx/perx/index/IntList", "size", "I", .int)) 1 d4_57 (Or.inl (hw _ (List.mem_of_getElem? (i := 17) rfl))) Via.refl A_a rfl rfl ?_
  show W K l _ n0 _ h0 0 0 60 #[.val (.ref a), .val (.ref a)] [(.int sz), (.ref r), (.int (0 : Int32)), (.ref r)]
  refine w_aloadN ok d4_60 rfl rfl ?_
  show W K l _ n0 _ h0 0 0 61 #[.val (.ref a), .val (.ref a)] [(.ref a), (.int sz), (.ref r), (.int (0 : Int32)), (.ref r)]
  refine w_getfield ok (v := (.int sz)) (host := "") (f := ("com/example/perx/perx/index/IntList", "size", "I", .int)) 1 d4_61 (Or.inl (hw _ (List.mem_of_getElem? (i := 17) rfl))) Via.refl A_a rfl rfl ?_
  show W K l _ n0 _ h0 0 0 64 #[.val (.ref a), .val (.ref a)] [(.int sz), (.int sz), (.ref r), (.int (0 : Int32)), (.ref r)]
  refine w_arraycopy ok (sp' := 0) (dp' := sz.toNatClampNeg) (nn' := sz.toNatClampNeg) d4_64 (hw _ (List.mem_of_getElem? (i := 24) rfl)) (hw _ (List.mem_of_getElem? (i := 27) rfl)) (hw _ (List.mem_of_getElem? (i := 25) rfl)) (hw _ (List.mem_of_getElem? (i := 26) rfl)) A_r A_r rfl ge_r (by decide) hsz0 hsz0 rfl rfl rfl (by omega) (by omega) rfl (by decide) (Nat.le_of_ble_eq_true rfl) (fun h2 K_h2 A1_h2 => ?_)
  replace Kp := Kp.trans K_h2 (allS (Or.inl (by simp)) all0)
  replace A_a := A_a.keep K_h2 (ninS ne_a_r nin0)
  replace A_r : PA .int Z h2 r (vs.take sz.toNatClampNeg ++ vs.take sz.toNatClampNeg ++ vs.drop (sz.toNatClampNeg + sz.toNatClampNeg)) := (by simpa using A1_h2)
  show W K l _ n0 _ h2 0 0 67 #[.val (.ref a), .val (.ref a)] []
  refine w_aloadN ok d4_67 rfl rfl ?_
  show W K l _ n0 _ h2 0 0 68 #[.val (.ref a), .val (.ref a)] [(.ref a)]
  refine w_dup ok d4_68 rfl ?_
  show W K l _ n0 _ h2 0 0 69 #[.val (.ref a), .val (.ref a)] [(.ref a), (.ref a)]
  refine w_getfield ok (v := (.int sz)) (host := "") (f := ("com/example/perx/perx/index/IntList", "size", "I", .int)) 1 d4_69 (Or.inl (hw _ (List.mem_of_getElem? (i := 17) rfl))) Via.refl A_a rfl rfl ?_
  show W K l _ n0 _ h2 0 0 72 #[.val (.ref a), .val (.ref a)] [(.int sz), (.ref a)]
  refine w_aloadN ok d4_72 rfl rfl ?_
  show W K l _ n0 _ h2 0 0 73 #[.val (.ref a), .val (.ref a)] [(.ref a), (.int sz), (.ref a)]
  refine w_getfield ok (v := (.int sz)) (host := "") (f := ("com/example/perx/perx/index/IntList", "size", "I", .int)) 1 d4_73 (Or.inl (hw _ (List.mem_of_getElem? (i := 17) rfl))) Via.refl A_a rfl rfl ?_
  show W K l _ n0 _ h2 0 0 76 #[.val (.ref a), .val (.ref a)] [(.int sz), (.int sz), (.ref a)]
  refine w_iadd ok d4_76 ?_
  show W K l _ n0 _ h2 0 0 77 #[.val (.ref a), .val (.ref a)] [(.int (sz + sz)), (.ref a)]
  refine w_putfield ok (host := "") (f := ("com/example/perx/perx/index/IntList", "size", "I", .int)) 1 d4_77 (Or.inl (hw _ (List.mem_of_getElem? (i := 17) rfl))) Via.refl A_a (la_IntList hw) rfl rfl (Or.inl (hw _ (List.mem_of_getElem? (i := 18) rfl))) (hw _ (List.mem_of_getElem? (i := 1) rfl)) rfl rfl ge_a (fun h3 W_h3 A1_h3 => ?_)
  replace Kp := Kp.wr W_h3 (Or.inl (by simp))
  replace A_r := A_r.other W_h3 (Ne.symm ne_a_r)
  replace A_a : Ob Z h3 a "com/example/perx/perx/index/IntList" fl_IntList [(.ref r), (.int (sz + sz))] := A1_h3
  show W K l _ n0 _ h3 0 0 80 #[.val (.ref a), .val (.ref a)] []
  refine w_ret ok d4_80 (by decide) (by decide) ?_
  exact ⟨rfl, Kp, A_a, A_r⟩
theorem own_k {kr k : Int32} (hk : (kr &&& (15 : Int32)) + (1 : Int32) = k) : ¬ k < 0 ∧ 1 ≤ k.toNatClampNeg ∧ k.toNatClampNeg ≤ 16 := by
  have h1 := c_mask kr 15 4 (by decide) (by decide); have h2 := c_iadd (kr &&& 15) 1; have h3 := rng32 k; have h4 : (1 : Int32).toInt = 1 := rfl; have h5 : (0 : Int32).toInt = 0 := rfl
  rw [hk] at h2
  rw [Int32.lt_iff_toInt_lt]; simp only [Int32.toNatClampNeg]; omega
theorem own_l16 (a b : Int32) : ∀ j : Nat, j < 16 → ([.int a, .int b, .int a, .int b, .int a, .int b, .int a, .int b, .int a, .int b, .int a, .int b, .int a, .int b, .int a, .int b] : List Value)[j]? = some (.int (if j % 2 = 0 then a else b))
  | 0, _ => rfl
  | 1, _ => rfl
  | 2, _ => rfl
  | 3, _ => rfl
  | 4, _ => rfl
  | 5, _ => rfl
  | 6, _ => rfl
  | 7, _ => rfl
  | 8, _ => rfl
  | 9, _ => rfl
  | 10, _ => rfl
  | 11, _ => rfl
  | 12, _ => rfl
  | 13, _ => rfl
  | 14, _ => rfl
  | 15, _ => rfl
  | n + 16, h => absurd h (by omega)
theorem own_fin (a b v : Int32) (e : Nat) {k : Int32} (h0 : ¬ k < 0) (h1 : 1 ≤ k.toNatClampNeg) (h2 : k.toNatClampNeg ≤ 16) (he : k.toNatClampNeg < 16 + e) :
    ((([.int a, .int b, .int a, .int b, .int a, .int b, .int a, .int b, .int a, .int b, .int a, .int b, .int a, .int b, .int a, .int b] : List Value) ++ List.replicate e (Value.int 0)).set k.toNatClampNeg (Value.int v))[k.toNatClampNeg]? = some (.int v) ∧ ((([.int a, .int b, .int a, .int b, .int a, .int b, .int a, .int b, .int a, .int b, .int a, .int b, .int a, .int b, .int a, .int b] : List Value) ++ List.replicate e (Value.int 0)).set k.toNatClampNeg (Value.int v))[(0 : Int32).toNatClampNeg]? = some (.int a) ∧ ¬ k - 1 < 0 ∧
    ((k - 1) &&& 1 = 0 → ((([.int a, .int b, .int a, .int b, .int a, .int b, .int a, .int b, .int a, .int b, .int a, .int b, .int a, .int b, .int a, .int b] : List Value) ++ List.replicate e (Value.int 0)).set k.toNatClampNeg (Value.int v))[(k - 1).toNatClampNeg]? = some (.int a)) ∧ (¬ (k - 1) &&& 1 = 0 → ((([.int a, .int b, .int a, .int b, .int a, .int b, .int a, .int b, .int a, .int b, .int a, .int b, .int a, .int b, .int a, .int b] : List Value) ++ List.replicate e (Value.int 0)).set k.toNatClampNeg (Value.int v))[(k - 1).toNatClampNeg]? = some (.int b)) := by
  have q1 := c_isub k 1; have q2 := rng32 (k - 1); have q3 := nat_of h0; have q4 : (1 : Int32).toInt = 1 := rfl; have q5 : (0 : Int32).toInt = 0 := rfl; have q6 := rng32 k
  have q7 : (k - 1).toInt = (k.toNatClampNeg : Int) - 1 := by omega
  have q8 : (k - 1).toNatClampNeg = k.toNatClampNeg - 1 := by rw [Int32.toNatClampNeg, q7]; omega
  have q9 := c_mask (k - 1) 1 1 (by decide) (by decide)
  have l1 : ([.int a, .int b, .int a, .int b, .int a, .int b, .int a, .int b, .int a, .int b, .int a, .int b, .int a, .int b, .int a, .int b] : List Value).length = 16 := rfl
  refine ⟨?_, ?_, ?_, fun q => ?_, fun q => ?_⟩
  · rw [List.getElem?_set_self]; rw [List.length_append, l1, List.length_replicate]; exact he
  · show (_ : List Value)[0]? = _
    rw [List.getElem?_set_ne (by omega)]; rfl
  · rw [Int32.lt_iff_toInt_lt]; omega
  · rw [q8, List.getElem?_set_ne (by omega), List.getElem?_append_left (by rw [l1]; omega), own_l16 a b _ (by omega), if_pos]
    rw [← Int32.toInt_inj] at q; omega
  · rw [q8, List.getElem?_set_ne (by omega), List.getElem?_append_left (by rw [l1]; omega), own_l16 a b _ (by omega), if_neg]
    rw [← Int32.toInt_inj] at q; omega
theorem pn_com_example_perx_perx_index_IntListAddPinLaw : plainName "com/example/perx/perx/index/IntListAddPinLaw" = true := by first | (simp [plainName, overriddenIn]; done) | decide +kernel
theorem pd_2829V : parseMethodDescriptor "()V" = some ⟨[], none⟩ := by decide +kernel
theorem pd_28I29V : parseMethodDescriptor "(I)V" = some ⟨[.int], none⟩ := by decide +kernel
theorem pd_28Lcom2fexample2fperx2fperx2findex2fIntList3b29V : parseMethodDescriptor "(Lcom/example/perx/perx/index/IntList;)V" = some ⟨[(.object "com/example/perx/perx/index/IntList")], none⟩ := by decide +kernel
theorem pd_2829I : parseMethodDescriptor "()I" = some ⟨[], some .int⟩ := by decide +kernel
theorem pd_28I29I : parseMethodDescriptor "(I)I" = some ⟨[.int], some .int⟩ := by decide +kernel
set_option maxRecDepth 65536 in
set_option maxHeartbeats 40000000 in
theorem rm0 (l : Launch) (Z : State) (a0 : Array Value) (hw : ∀ d ∈ tables_1, d.before a0 Z = true) (ws : List Jvm.Cond) (n0 : Nat) (h0 : Heap) (Z0 : n0 ≤ h0.size) (a b v kr : Int32)  :
    Met l Z n0 x code maxLocals ret ws room_1 #[(.int a), (.int b), (.int v), (.int kr)] h0 (fun u h => u = some (.int 1)) := by
  refine met_of Z0 (plainFor_of_name pn_com_example_perx_perx_index_IntListAddPinLaw) (Ls := #[.val (.int a), .val (.int b), .val (.int v), .val (.int kr), .unset, .unset, .unset]) (fun m => by first | (simp [entryFrame, mkF, argsToLocals, Value.category, maxLocals]; done) | rfl) ?_
  intro K ok
  show W K l _ n0 _ h0 0 0 0 #[.val (.int a), .val (.int b), .val (.int v), .val (.int kr), .unset, .unset, .unset] []
  refine w_new ok at_0 (hw _ (List.mem_of_getElem? (i := 0) rfl)) (hw _ (List.mem_of_getElem? (i := 1) rfl)) (hw _ (List.mem_of_getElem? (i := 2) rfl)) (la_IntList hw) (by decide) (by decide) (fun h2 b1 ea_b1 ge_b1 E_b1 A_b1 => ?_)
  replace A_b1 : Ob Z h2 b1 "com/example/perx/perx/index/IntList" fl_IntList [.null, (.int (0 : Int32))] := A_b1
  show W K l _ n0 _ h2 1 2 3 #[.val (.int a), .val (.int b), .val (.int v), .val (.int kr), .unset, .unset, .unset] [(.ref b1)]
  refine w_dup ok at_3 rfl ?_
  show W K l _ n0 _ h2 1 2 4 #[.val (.int a), .val (.int b), .val (.int v), .val (.int kr), .unset, .unset, .unset] [(.ref b1), (.ref b1)]
  refine w_callI ok (y := (⟨"com/example/perx/perx/index/IntList", "<init>", "()V"⟩ : MethodName)) (a := b1) (argsL := []) (rest := [(.ref b1)]) at_4 rfl (hw _ (List.mem_of_getElem? (i := 3) rfl)) (hw _ (List.mem_of_getElem? (i := 4) rfl)) (hw _ (List.mem_of_getElem? (i := 2) rfl)) (hw _ (List.mem_of_getElem? (i := 5) rfl)) (by decide) pd_2829V rfl rfl (by decide) (Nat.le_of_ble_eq_true rfl) (by decide) (by decide) (fun z0 => rm_init l Z a0 hw [] n0 h2 z0 b1 A_b1 ge_b1) (fun v3 h4 qv3 => ?_)
  obtain ⟨rfl, c5, sz_c5, ge_c5, K1, A1, A_c5⟩ := qv3
  have ne_b1_c5 : b1 ≠ c5 := Nat.ne_of_lt (Nat.lt_of_lt_of_le A_b1.lt sz_c5)
  replace A_b1 : Ob Z h4 b1 "com/example/perx/perx/index/IntList" fl_IntList [(.ref c5), (.int (0 : Int32))] := A1
  replace A_c5 : PA .int Z h4 c5 [(.int (0 : Int32)), (.int (0 : Int32)), (.int (0 : Int32)), (.int (0 : Int32)), (.int (0 : Int32)), (.int (0 : Int32)), (.int (0 : Int32)), (.int (0 : Int32)), (.int (0 : Int32)), (.int (0 : Int32)), (.int (0 : Int32)), (.int (0 : Int32)), (.int (0 : Int32)), (.int (0 : Int32)), (.int (0 : Int32)), (.int (0 : Int32))] := A_c5
  show W K l _ n0 _ h4 2 18 7 #[.val (.int a), .val (.int b), .val (.int v), .val (.int kr), .unset, .unset, .unset] [(.ref b1)]
  refine w_astore ok at_7 rfl (L' := #[.val (.int a), .val (.int b), .val (.int v), .val (.int kr), .val (.ref b1), .unset, .unset]) rfl ?_
  show W K l _ n0 _ h4 2 18 9 #[.val (.int a), .val (.int b), .val (.int v), .val (.int kr), .val (.ref b1), .unset, .unset] []
  refine w_aload ok at_9 rfl rfl ?_
  show W K l _ n0 _ h4 2 18 11 #[.val (.int a), .val (.int b), .val (.int v), .val (.int kr), .val (.ref b1), .unset, .unset] [(.ref b1)]
  refine w_iloadN ok at_11 rfl ?_
  show W K l _ n0 _ h4 2 18 12 #[.val (.int a), .val (.int b), .val (.int v), .val (.int kr), .val (.ref b1), .unset, .unset] [(.int a), (.ref b1)]
  refine w_callV ok (y := (⟨"com/example/perx/perx/index/IntList", "add", "(I)V"⟩ : MethodName)) (a := b1) (argsL := [(.int a)]) (rest := []) at_12 (hw _ (List.mem_of_getElem? (i := 12) rfl)) (hw _ (List.mem_of_getElem? (i := 13) rfl)) (hw _ (List.mem_of_getElem? (i := 15) rfl)) (hw _ (List.mem_of_getElem? (i := 14) rfl)) (hw _ (List.mem_of_getElem? (i := 2) rfl)) (hw _ (List.mem_of_getElem? (i := 16) rfl)) (by decide) A_b1.1 pd_28I29V rfl rfl (by decide) (Nat.le_of_ble_eq_true rfl) (by decide) (by decide) (fun z0 => rm_add l Z a0 hw [] n0 h4 z0 b1 c5 [(.int (0 : Int32)), (.int (0 : Int32)), (.int (0 : Int32)), (.int (0 : Int32)), (.int (0 : Int32)), (.int (0 : Int32)), (.int (0 : Int32)), (.int (0 : Int32)), (.int (0 : Int32)), (.int (0 : Int32)), (.int (0 : Int32)), (.int (0 : Int32)), (.int (0 : Int32)), (.int (0 : Int32)), (.int (0 : Int32)), (.int (0 : Int32))] (0 : Int32) a A_b1 A_c5 ge_b1 ge_c5 ne_b1_c5 (by decide) (Nat.le_of_ble_eq_true rfl) ⟨Nat.le_of_ble_eq_true rfl, Nat.le_of_ble_eq_true rfl⟩) (fun v6 h7 qv6 => ?_)
  obtain ⟨rfl, c8, e9, ge_c8, fr_c8, ne_b1_c8, K1, A1, A_c8, hqc8, hbc8, hec8⟩ := qv6
  obtain ⟨rfl, rfl⟩ := hqc8 (Nat.le_of_ble_eq_true rfl)
  replace A_b1 : Ob Z h7 b1 "com/example/perx/perx/index/IntList" fl_IntList [(.ref c5), (.int (1 : Int32))] := A1
  replace A_c5 : PA .int Z h7 c5 [(.int a), (.int (0 : Int32)), (.int (0 : Int32)), (.int (0 : Int32)), (.int (0 : Int32)), (.int (0 : Int32)), (.int (0 : Int32)), (.int (0 : Int32)), (.int (0 : Int32)), (.int (0 : Int32)), (.int (0 : Int32)), (.int (0 : Int32)), (.int (0 : Int32)), (.int (0 : Int32)), (.int (0 : Int32)), (.int (0 : Int32))] := A_c8
  show W K l _ n0 _ h7 3 50 15 #[.val (.int a), .val (.int b), .val (.int v), .val (.int kr), .val (.ref b1), .unset, .unset] []
  refine w_aload ok at_15 rfl rfl ?_
  show W K l _ n0 _ h7 3 50 17 #[.val (.int a), .val (.int b), .val (.int v), .val (.int kr), .val (.ref b1), .unset, .unset] [(.ref b1)]
  refine w_iloadN ok at_17 rfl ?_
  show W K l _ n0 _ h7 3 50 18 #[.val (.int a), .val (.int b), .val (.int v), .val (.int kr), .val (.ref b1), .unset, .unset] [(.int b), (.ref b1)]
  refine w_callV ok (y := (⟨"com/example/perx/perx/index/IntList", "add", "(I)V"⟩ : MethodName)) (a := b1) (argsL := [(.int b)]) (rest := []) at_18 (hw _ (List.mem_of_getElem? (i := 12) rfl)) (hw _ (List.mem_of_getElem? (i := 13) rfl)) (hw _ (List.mem_of_getElem? (i := 15) rfl)) (hw _ (List.mem_of_getElem? (i := 14) rfl)) (hw _ (List.mem_of_getElem? (i := 2) rfl)) (hw _ (List.mem_of_getElem? (i := 16) rfl)) (by decide) A_b1.1 pd_28I29V rfl rfl (by decide) (Nat.le_of_ble_eq_true rfl) (by decide) (by decide) (fun z0 => rm_add l Z a0 hw [] n0 h7 z0 b1 c5 [(.int a), (.int (0 : Int32)), (.int (0 : Int32)), (.int (0 : Int32)), (.int (0 : Int32)), (.int (0 : Int32)), (.int (0 : Int32)), (.int (0 : Int32)), (.int (0 : Int32)), (.int (0 : Int32)), (.int (0 : Int32)), (.int (0 : Int32)), (.int (0 : Int32)), (.int (0 : Int32)), (.int (0 : Int32)), (.int (0 : Int32))] (1 : Int32) b A_b1 A_c5 ge_b1 ge_c5 ne_b1_c5 (by decide) (Nat.le_of_ble_eq_true rfl) ⟨Nat.le_of_ble_eq_true rfl, Nat.le_of_ble_eq_true rfl⟩) (fun v10 h11 qv10 => ?_)
  obtain ⟨rfl, c12, e13, ge_c12, fr_c12, ne_b1_c12, K1, A1, A_c12, hqc12, hbc12, hec12⟩ := qv10
  obtain ⟨rfl, rfl⟩ := hqc12 (Nat.le_of_ble_eq_true rfl)
  replace A_b1 : Ob Z h11 b1 "com/example/perx/perx/index/IntList" fl_IntList [(.ref c5), (.int (2 : Int32))] := A1
  replace A_c5 : PA .int Z h11 c5 [(.int a), (.int b), (.int (0 : Int32)), (.int (0 : Int32)), (.int (0 : Int32)), (.int (0 : Int32)), (.int (0 : Int32)), (.int (0 : Int32)), (.int (0 : Int32)), (.int (0 : Int32)), (.int (0 : Int32)), (.int (0 : Int32)), (.int (0 : Int32)), (.int (0 : Int32)), (.int (0 : Int32)), (.int (0 : Int32))] := A_c12
  show W K l _ n0 _ h11 4 82 21 #[.val (.int a), .val (.int b), .val (.int v), .val (.int kr), .val (.ref b1), .unset, .unset] []
  refine w_aload ok at_21 rfl rfl ?_
  show W K l _ n0 _ h11 4 82 23 #[.val (.int a), .val (.int b), .val (.int v), .val (.int kr), .val (.ref b1), .unset, .unset] [(.ref b1)]
  refine w_aload ok at_23 rfl rfl ?_
  show W K l _ n0 _ h11 4 82 25 #[.val (.int a), .val (.int b), .val (.int v), .val (.int kr), .val (.ref b1), .unset, .unset] [(.ref b1), (.ref b1)]
  refine w_callV ok (y := (⟨"com/example/perx/perx/index/IntList", "addAll", "(Lcom/example/perx/perx/index/IntList;)V"⟩ : MethodName)) (a := b1) (argsL := [(.ref b1)]) (rest := []) at_25 (hw _ (List.mem_of_getElem? (i := 19) rfl)) (hw _ (List.mem_of_getElem? (i := 20) rfl)) (hw _ (List.mem_of_getElem? (i := 22) rfl)) (hw _ (List.mem_of_getElem? (i := 21) rfl)) (hw _ (List.mem_of_getElem? (i := 2) rfl)) (hw _ (List.mem_of_getElem? (i := 23) rfl)) (by decide) A_b1.1 pd_28Lcom2fexample2fperx2fperx2findex2fIntList3b29V rfl rfl (by decide) (Nat.le_of_ble_eq_true rfl) (by decide) (by decide) (fun z0 => rm_self l Z a0 hw [] n0 h11 z0 b1 c5 [(.int a), (.int b), (.int (0 : Int32)), (.int (0 : Int32)), (.int (0 : Int32)), (.int (0 : Int32)), (.int (0 : Int32)), (.int (0 : Int32)), (.int (0 : Int32)), (.int (0 : Int32)), (.int (0 : Int32)), (.int (0 : Int32)), (.int (0 : Int32)), (.int (0 : Int32)), (.int (0 : Int32)), (.int (0 : Int32))] (2 : Int32) A_b1 A_c5 ge_b1 ge_c5 ne_b1_c5 (by decide) (Nat.le_of_ble_eq_true rfl)) (fun v14 h15 qv14 => ?_)
  obtain ⟨rfl, K1, A1, A2⟩ := qv14
  replace A_b1 : Ob Z h15 b1 "com/example/perx/perx/index/IntList" fl_IntList [(.ref c5), (.int (4 : Int32))] := A1
  replace A_c5 : PA .int Z h15 c5 [(.int a), (.int b), (.int a), (.int b), (.int (0 : Int32)), (.int (0 : Int32)), (.int (0 : Int32)), (.int (0 : Int32)), (.int (0 : Int32)), (.int (0 : Int32)), (.int (0 : Int32)), (.int (0 : Int32)), (.int (0 : Int32)), (.int (0 : Int32)), (.int (0 : Int32)), (.int (0 : Int32))] := A2
  show W K l _ n0 _ h15 4 82 28 #[.val (.int a), .val (.int b), .val (.int v), .val (.int kr), .val (.ref b1), .unset, .unset] []
  refine w_aload ok at_28 rfl rfl ?_
  show W K l _ n0 _ h15 4 82 30 #[.val (.int a), .val (.int b), .val (.int v), .val (.int kr), .val (.ref b1), .unset, .unset] [(.ref b1)]
  refine w_aload ok at_30 rfl rfl ?_
  show W K l _ n0 _ h15 4 82 32 #[.val (.int a), .val (.int b), .val (.int v), .val (.int kr), .val (.ref b1), .unset, .unset] [(.ref b1), (.ref b1)]
  refine w_callV ok (y := (⟨"com/example/perx/perx/index/IntList", "addAll", "(Lcom/example/perx/perx/index/IntList;)V"⟩ : MethodName)) (a := b1) (argsL := [(.ref b1)]) (rest := []) at_32 (hw _ (List.mem_of_getElem? (i := 19) rfl)) (hw _ (List.mem_of_getElem? (i := 20) rfl)) (hw _ (List.mem_of_getElem? (i := 22) rfl)) (hw _ (List.mem_of_getElem? (i := 21) rfl)) (hw _ (List.mem_of_getElem? (i := 2) rfl)) (hw _ (List.mem_of_getElem? (i := 23) rfl)) (by decide) A_b1.1 pd_28Lcom2fexample2fperx2fperx2findex2fIntList3b29V rfl rfl (by decide) (Nat.le_of_ble_eq_true rfl) (by decide) (by decide) (fun z0 => rm_self l Z a0 hw [] n0 h15 z0 b1 c5 [(.int a), (.int b), (.int a), (.int b), (.int (0 : Int32)), (.int (0 : Int32)), (.int (0 : Int32)), (.int (0 : Int32)), (.int (0 : Int32)), (.int (0 : Int32)), (.int (0 : Int32)), (.int (0 : Int32)), (.int (0 : Int32)), (.int (0 : Int32)), (.int (0 : Int32)), (.int (0 : Int32))] (4 : Int32) A_b1 A_c5 ge_b1 ge_c5 ne_b1_c5 (by decide) (Nat.le_of_ble_eq_true rfl)) (fun v16 h17 qv16 => ?_)
  obtain ⟨rfl, K1, A1, A2⟩ := qv16
  replace A_b1 : Ob Z h17 b1 "com/example/perx/perx/index/IntList" fl_IntList [(.ref c5), (.int (8 : Int32))] := A1
  replace A_c5 : PA .int Z h17 c5 [(.int a), (.int b), (.int a), (.int b), (.int a), (.int b), (.int a), (.int b), (.int (0 : Int32)), (.int (0 : Int32)), (.int (0 : Int32)), (.int (0 : Int32)), (.int (0 : Int32)), (.int (0 : Int32)), (.int (0 : Int32)), (.int (0 : Int32))] := A2
  show W K l _ n0 _ h17 4 82 35 #[.val (.int a), .val (.int b), .val (.int v), .val (.int kr), .val (.ref b1), .unset, .unset] []
  refine w_aload ok at_35 rfl rfl ?_
  show W K l _ n0 _ h17 4 82 37 #[.val (.int a), .val (.int b), .val (.int v), .val (.int kr), .val (.ref b1), .unset, .unset] [(.ref b1)]
  refine w_aload ok at_37 rfl rfl ?_
  show W K l _ n0 _ h17 4 82 39 #[.val (.int a), .val (.int b), .val (.int v), .val (.int kr), .val (.ref b1), .unset, .unset] [(.ref b1), (.ref b1)]
  refine w_callV ok (y := (⟨"com/example/perx/perx/index/IntList", "addAll", "(Lcom/example/perx/perx/index/IntList;)V"⟩ : MethodName)) (a := b1) (argsL := [(.ref b1)]) (rest := []) at_39 (hw _ (List.mem_of_getElem? (i := 19) rfl)) (hw _ (List.mem_of_getElem? (i := 20) rfl)) (hw _ (List.mem_of_getElem? (i := 22) rfl)) (hw _ (List.mem_of_getElem? (i := 21) rfl)) (hw _ (List.mem_of_getElem? (i := 2) rfl)) (hw _ (List.mem_of_getElem? (i := 23) rfl)) (by decide) A_b1.1 pd_28Lcom2fexample2fperx2fperx2findex2fIntList3b29V rfl rfl (by decide) (Nat.le_of_ble_eq_true rfl) (by decide) (by decide) (fun z0 => rm_self l Z a0 hw [] n0 h17 z0 b1 c5 [(.int a), (.int b), (.int a), (.int b), (.int a), (.int b), (.int a), (.int b), (.int (0 : Int32)), (.int (0 : Int32)), (.int (0 : Int32)), (.int (0 : Int32)), (.int (0 : Int32)), (.int (0 : Int32)), (.int (0 : Int32)), (.int (0 : Int32))] (8 : Int32) A_b1 A_c5 ge_b1 ge_c5 ne_b1_c5 (by decide) (Nat.le_of_ble_eq_true rfl)) (fun v18 h19 qv18 => ?_)
  obtain ⟨rfl, K1, A1, A2⟩ := qv18
  replace A_b1 : Ob Z h19 b1 "com/example/perx/perx/index/IntList" fl_IntList [(.ref c5), (.int (16 : Int32))] := A1
  replace A_c5 : PA .int Z h19 c5 [(.int a), (.int b), (.int a), (.int b), (.int a), (.int b), (.int a), (.int b), (.int a), (.int b), (.int a), (.int b), (.int a), (.int b), (.int a), (.int b)] := A2
  show W K l _ n0 _ h19 4 82 42 #[.val (.int a), .val (.int b), .val (.int v), .val (.int kr), .val (.ref b1), .unset, .unset] []
  refine w_iloadN ok at_42 rfl ?_
  show W K l _ n0 _ h19 4 82 43 #[.val (.int a), .val (.int b), .val (.int v), .val (.int kr), .val (.ref b1), .unset, .unset] [(.int kr)]
  refine w_bipush ok at_43 (v := (15 : Int32)) rfl ?_
  show W K l _ n0 _ h19 4 82 45 #[.val (.int a), .val (.int b), .val (.int v), .val (.int kr), .val (.ref b1), .unset, .unset] [(.int (15 : Int32)), (.int kr)]
  refine w_iand ok at_45 ?_
  show W K l _ n0 _ h19 4 82 46 #[.val (.int a), .val (.int b), .val (.int v), .val (.int kr), .val (.ref b1), .unset, .unset] [(.int (kr &&& (15 : Int32)))]
  refine w_iconst ok at_46 (v := (1 : Int32)) rfl ?_
  show W K l _ n0 _ h19 4 82 47 #[.val (.int a), .val (.int b), .val (.int v), .val (.int kr), .val (.ref b1), .unset, .unset] [(.int (1 : Int32)), (.int (kr &&& (15 : Int32)))]
  refine w_iadd ok at_47 ?_
  show W K l _ n0 _ h19 4 82 48 #[.val (.int a), .val (.int b), .val (.int v), .val (.int kr), .val (.ref b1), .unset, .unset] [(.int ((kr &&& (15 : Int32)) + (1 : Int32)))]
  refine w_istore ok at_48 (L' := #[.val (.int a), .val (.int b), .val (.int v), .val (.int kr), .val (.ref b1), .val (.int ((kr &&& (15 : Int32)) + (1 : Int32))), .unset]) rfl ?_
  show W K l _ n0 _ h19 4 82 50 #[.val (.int a), .val (.int b), .val (.int v), .val (.int kr), .val (.ref b1), .val (.int ((kr &&& (15 : Int32)) + (1 : Int32))), .unset] []
  generalize hk : (kr &&& (15 : Int32)) + (1 : Int32) = k
  obtain ⟨hk1, hk2, hk3⟩ := own_k hk
  show W K l _ n0 _ h19 4 82 50 #[.val (.int a), .val (.int b), .val (.int v), .val (.int kr), .val (.ref b1), .val (.int k), .unset] []
  refine w_aload ok at_50 rfl rfl ?_
  show W K l _ n0 _ h19 4 82 52 #[.val (.int a), .val (.int b), .val (.int v), .val (.int kr), .val (.ref b1), .val (.int k), .unset] [(.ref b1)]
  refine w_iload ok at_52 rfl ?_
  show W K l _ n0 _ h19 4 82 54 #[.val (.int a), .val (.int b), .val (.int v), .val (.int kr), .val (.ref b1), .val (.int k), .unset] [(.int k), (.ref b1)]
  refine w_callV ok (y := (⟨"com/example/perx/perx/index/IntList", "truncate", "(I)V"⟩ : MethodName)) (a := b1) (argsL := [(.int k)]) (rest := []) at_54 (hw _ (List.mem_of_getElem? (i := 28) rfl)) (hw _ (List.mem_of_getElem? (i := 29) rfl)) (hw _ (List.mem_of_getElem? (i := 31) rfl)) (hw _ (List.mem_of_getElem? (i := 30) rfl)) (hw _ (List.mem_of_getElem? (i := 2) rfl)) (hw _ (List.mem_of_getElem? (i := 32) rfl)) (by decide) A_b1.1 pd_28I29V rfl rfl (by decide) (Nat.le_of_ble_eq_true rfl) (by decide) (by decide) (fun z0 => rm_trunc l Z a0 hw [] n0 h19 z0 b1 c5 (16 : Int32) k A_b1 ge_b1) (fun v20 h21 qv20 => ?_)
  obtain ⟨rfl, K1, A1⟩ := qv20
  replace A_c5 := A_c5.keep K1 (ninS (Ne.symm ne_b1_c5) nin0)
  replace A_b1 : Ob Z h21 b1 "com/example/perx/perx/index/IntList" fl_IntList [(.ref c5), (.int k)] := A1
  show W K l _ n0 _ h21 4 82 57 #[.val (.int a), .val (.int b), .val (.int v), .val (.int kr), .val (.ref b1), .val (.int k), .unset] []
  refine w_aload ok at_57 rfl rfl ?_
  show W K l _ n0 _ h21 4 82 59 #[.val (.int a), .val (.int b), .val (.int v), .val (.int kr), .val (.ref b1), .val (.int k), .unset] [(.ref b1)]
  refine w_iloadN ok at_59 rfl ?_
  show W K l _ n0 _ h21 4 82 60 #[.val (.int a), .val (.int b), .val (.int v), .val (.int kr), .val (.ref b1), .val (.int k), .unset] [(.int v), (.ref b1)]
  refine w_callV ok (y := (⟨"com/example/perx/perx/index/IntList", "add", "(I)V"⟩ : MethodName)) (a := b1) (argsL := [(.int v)]) (rest := []) at_60 (hw _ (List.mem_of_getElem? (i := 12) rfl)) (hw _ (List.mem_of_getElem? (i := 13) rfl)) (hw _ (List.mem_of_getElem? (i := 15) rfl)) (hw _ (List.mem_of_getElem? (i := 14) rfl)) (hw _ (List.mem_of_getElem? (i := 2) rfl)) (hw _ (List.mem_of_getElem? (i := 16) rfl)) (by decide) A_b1.1 pd_28I29V rfl rfl (by decide) (Nat.le_of_ble_eq_true rfl) (by decide) (by decide) (fun z0 => rm_add l Z a0 hw [] n0 h21 z0 b1 c5 [(.int a), (.int b), (.int a), (.int b), (.int a), (.int b), (.int a), (.int b), (.int a), (.int b), (.int a), (.int b), (.int a), (.int b), (.int a), (.int b)] k v A_b1 A_c5 ge_b1 ge_c5 ne_b1_c5 hk1 hk3 ⟨Nat.le_of_ble_eq_true rfl, Nat.le_of_ble_eq_true rfl⟩) (fun v22 h23 qv22 => ?_)
  obtain ⟨rfl, c24, e25, ge_c24, fr_c24, ne_b1_c24, K1, A1, A_c24, hqc24, hbc24, hec24⟩ := qv22
  replace A_b1 : Ob Z h23 b1 "com/example/perx/perx/index/IntList" fl_IntList [(.ref c24), (.int (k + 1))] := A1
  have he16 : k.toNatClampNeg < 16 + e25 := hbc24
  obtain ⟨f1, f2, f3, f4, f5⟩ := own_fin a b v e25 hk1 hk2 hk3 he16
  show W K l _ n0 _ h23 5 114 63 #[.val (.int a), .val (.int b), .val (.int v), .val (.int kr), .val (.ref b1), .val (.int k), .unset] []
  refine w_aload ok at_63 rfl rfl ?_
  show W K l _ n0 _ h23 5 114 65 #[.val (.int a), .val (.int b), .val (.int v), .val (.int kr), .val (.ref b1), .val (.int k), .unset] [(.ref b1)]
  refine w_callV ok (y := (⟨"com/example/perx/perx/index/IntList", "size", "()I"⟩ : MethodName)) (a := b1) (argsL := []) (rest := []) at_65 (hw _ (List.mem_of_getElem? (i := 33) rfl)) (hw _ (List.mem_of_getElem? (i := 34) rfl)) (hw _ (List.mem_of_getElem? (i := 36) rfl)) (hw _ (List.mem_of_getElem? (i := 35) rfl)) (hw _ (List.mem_of_getElem? (i := 2) rfl)) (hw _ (List.mem_of_getElem? (i := 37) rfl)) (by decide) A_b1.1 pd_2829I rfl rfl (by decide) (Nat.le_of_ble_eq_true rfl) (by decide) (by decide) (fun z0 => rm_size l Z a0 hw [] n0 h23 z0 b1 c24 (k + 1) A_b1) (fun v26 h27 qv26 => ?_)
  obtain ⟨rfl, rfl⟩ := qv26
  show W K l _ n0 _ h23 5 114 68 #[.val (.int a), .val (.int b), .val (.int v), .val (.int kr), .val (.ref b1), .val (.int k), .unset] [(.int (k + 1))]
  refine w_iload ok at_68 rfl ?_
  show W K l _ n0 _ h23 5 114 70 #[.val (.int a), .val (.int b), .val (.int v), .val (.int kr), .val (.ref b1), .val (.int k), .unset] [(.int k), (.int (k + 1))]
  refine w_iconst ok at_70 (v := (1 : Int32)) rfl ?_
  show W K l _ n0 _ h23 5 114 71 #[.val (.int a), .val (.int b), .val (.int v), .val (.int kr), .val (.ref b1), .val (.int k), .unset] [(.int (1 : Int32)), (.int k), (.int (k + 1))]
  refine w_iadd ok at_71 ?_
  show W K l _ n0 _ h23 5 114 72 #[.val (.int a), .val (.int b), .val (.int v), .val (.int kr), .val (.ref b1), .val (.int k), .unset] [(.int (k + (1 : Int32))), (.int (k + 1))]
  refine w_icmp_eq ok at_72 (pc' := 77) (by decide) (fun hc29 => ?_) (fun hc29 => False.elim (by exact hc29 rfl))
  show W K l _ n0 _ h23 5 114 77 #[.val (.int a), .val (.int b), .val (.int v), .val (.int kr), .val (.ref b1), .val (.int k), .unset] []
  refine w_aload ok at_77 rfl rfl ?_
  show W K l _ n0 _ h23 5 114 79 #[.val (.int a), .val (.int b), .val (.int v), .val (.int kr), .val (.ref b1), .val (.int k), .unset] [(.ref b1)]
  refine w_iload ok at_79 rfl ?_
  show W K l _ n0 _ h23 5 114 81 #[.val (.int a), .val (.int b), .val (.int v), .val (.int kr), .val (.ref b1), .val (.int k), .unset] [(.int k), (.ref b1)]
  refine w_callV ok (y := (⟨"com/example/perx/perx/index/IntList", "get", "(I)I"⟩ : MethodName)) (a := b1) (argsL := [(.int k)]) (rest := []) at_81 (hw _ (List.mem_of_getElem? (i := 38) rfl)) (hw _ (List.mem_of_getElem? (i := 39) rfl)) (hw _ (List.mem_of_getElem? (i := 41) rfl)) (hw _ (List.mem_of_getElem? (i := 40) rfl)) (hw _ (List.mem_of_getElem? (i := 2) rfl)) (hw _ (List.mem_of_getElem? (i := 42) rfl)) (by decide) A_b1.1 pd_28I29I rfl rfl (by decide) (Nat.le_of_ble_eq_true rfl) (by decide) (by decide) (fun z0 => rm_get l Z a0 hw [] n0 h23 z0 b1 c24 (k + 1) k v ((([(.int a), (.int b), (.int a), (.int b), (.int a), (.int b), (.int a), (.int b), (.int a), (.int b), (.int a), (.int b), (.int a), (.int b), (.int a), (.int b)] : List Value) ++ List.replicate e25 (Value.int 0)).set k.toNatClampNeg (Value.int v)) A_b1 A_c24 hk1 f1) (fun v30 h31 qv30 => ?_)
  obtain ⟨rfl, rfl⟩ := qv30
  show W K l _ n0 _ h23 5 114 84 #[.val (.int a), .val (.int b), .val (.int v), .val (.int kr), .val (.ref b1), .val (.int k), .unset] [(.int v)]
  refine w_iloadN ok at_84 rfl ?_
  show W K l _ n0 _ h23 5 114 85 #[.val (.int a), .val (.int b), .val (.int v), .val (.int kr), .val (.ref b1), .val (.int k), .unset] [(.int v), (.int v)]
  refine w_icmp_eq ok at_85 (pc' := 90) (by decide) (fun hc33 => ?_) (fun hc33 => False.elim (by exact hc33 rfl))
  show W K l _ n0 _ h23 5 114 90 #[.val (.int a), .val (.int b), .val (.int v), .val (.int kr), .val (.ref b1), .val (.int k), .unset] []
  refine w_aload ok at_90 rfl rfl ?_
  show W K l _ n0 _ h23 5 114 92 #[.val (.int a), .val (.int b), .val (.int v), .val (.int kr), .val (.ref b1), .val (.int k), .unset] [(.ref b1)]
  refine w_iconst ok at_92 (v := (0 : Int32)) rfl ?_
  show W K l _ n0 _ h23 5 114 93 #[.val (.int a), .val (.int b), .val (.int v), .val (.int kr), .val (.ref b1), .val (.int k), .unset] [(.int (0 : Int32)), (.ref b1)]
  refine w_callV ok (y := (⟨"com/example/perx/perx/index/IntList", "get", "(I)I"⟩ : MethodName)) (a := b1) (argsL := [(.int (0 : Int32))]) (rest := []) at_93 (hw _ (List.mem_of_getElem? (i := 38) rfl)) (hw _ (List.mem_of_getElem? (i := 39) rfl)) (hw _ (List.mem_of_getElem? (i := 41) rfl)) (hw _ (List.mem_of_getElem? (i := 40) rfl)) (hw _ (List.mem_of_getElem? (i := 2) rfl)) (hw _ (List.mem_of_getElem? (i := 42) rfl)) (by decide) A_b1.1 pd_28I29I rfl rfl (by decide) (Nat.le_of_ble_eq_true rfl) (by decide) (by decide) (fun z0 => rm_get l Z a0 hw [] n0 h23 z0 b1 c24 (k + 1) (0 : Int32) a ((([(.int a), (.int b), (.int a), (.int b), (.int a), (.int b), (.int a), (.int b), (.int a), (.int b), (.int a), (.int b), (.int a), (.int b), (.int a), (.int b)] : List Value) ++ List.replicate e25 (Value.int 0)).set k.toNatClampNeg (Value.int v)) A_b1 A_c24 (by decide) f2) (fun v34 h35 qv34 => ?_)
  obtain ⟨rfl, rfl⟩ := qv34
  show W K l _ n0 _ h23 5 114 96 #[.val (.int a), .val (.int b), .val (.int v), .val (.int kr), .val (.ref b1), .val (.int k), .unset] [(.int a)]
  refine w_iloadN ok at_96 rfl ?_
  show W K l _ n0 _ h23 5 114 97 #[.val (.int a), .val (.int b), .val (.int v), .val (.int kr), .val (.ref b1), .val (.int k), .unset] [(.int a), (.int a)]
  refine w_icmp_eq ok at_97 (pc' := 102) (by decide) (fun hc37 => ?_) (fun hc37 => False.elim (by exact hc37 rfl))
  show W K l _ n0 _ h23 5 114 102 #[.val (.int a), .val (.int b), .val (.int v), .val (.int kr), .val (.ref b1), .val (.int k), .unset] []
  refine w_iload ok at_102 rfl ?_
  show W K l _ n0 _ h23 5 114 104 #[.val (.int a), .val (.int b), .val (.int v), .val (.int kr), .val (.ref b1), .val (.int k), .unset] [(.int k)]
  refine w_iconst ok at_104 (v := (1 : Int32)) rfl ?_
  show W K l _ n0 _ h23 5 114 105 #[.val (.int a), .val (.int b), .val (.int v), .val (.int kr), .val (.ref b1), .val (.int k), .unset] [(.int (1 : Int32)), (.int k)]
  refine w_isub ok at_105 ?_
  show W K l _ n0 _ h23 5 114 106 #[.val (.int a), .val (.int b), .val (.int v), .val (.int kr), .val (.ref b1), .val (.int k), .unset] [(.int (k - (1 : Int32)))]
  refine w_iconst ok at_106 (v := (1 : Int32)) rfl ?_
  show W K l _ n0 _ h23 5 114 107 #[.val (.int a), .val (.int b), .val (.int v), .val (.int kr), .val (.ref b1), .val (.int k), .unset] [(.int (1 : Int32)), (.int (k - (1 : Int32)))]
  refine w_iand ok at_107 ?_
  show W K l _ n0 _ h23 5 114 108 #[.val (.int a), .val (.int b), .val (.int v), .val (.int kr), .val (.ref b1), .val (.int k), .unset] [(.int ((k - (1 : Int32)) &&& (1 : Int32)))]
  refine w_if_ne ok at_108 (pc' := 115) (by decide) (fun hc39 => ?_) (fun hc39 => ?_)
  · show W K l _ n0 _ h23 5 114 115 #[.val (.int a), .val (.int b), .val (.int v), .val (.int kr), .val (.ref b1), .val (.int k), .unset] []
    refine w_iloadN ok at_115 rfl ?_
    show W K l _ n0 _ h23 5 114 116 #[.val (.int a), .val (.int b), .val (.int v), .val (.int kr), .val (.ref b1), .val (.int k), .unset] [(.int b)]
    refine w_istore ok at_116 (L' := #[.val (.int a), .val (.int b), .val (.int v), .val (.int kr), .val (.ref b1), .val (.int k), .val (.int b)]) rfl ?_
    show W K l _ n0 _ h23 5 114 118 #[.val (.int a), .val (.int b), .val (.int v), .val (.int kr), .val (.ref b1), .val (.int k), .val (.int b)] []
    refine w_aload ok at_118 rfl rfl ?_
    show W K l _ n0 _ h23 5 114 120 #[.val (.int a), .val (.int b), .val (.int v), .val (.int kr), .val (.ref b1), .val (.int k), .val (.int b)] [(.ref b1)]
    refine w_iload ok at_120 rfl ?_
    show W K l _ n0 _ h23 5 114 122 #[.val (.int a), .val (.int b), .val (.int v), .val (.int kr), .val (.ref b1), .val (.int k), .val (.int b)] [(.int k), (.ref b1)]
    refine w_iconst ok at_122 (v := (1 : Int32)) rfl ?_
    show W K l _ n0 _ h23 5 114 123 #[.val (.int a), .val (.int b), .val (.int v), .val (.int kr), .val (.ref b1), .val (.int k), .val (.int b)] [(.int (1 : Int32)), (.int k), (.ref b1)]
    refine w_isub ok at_123 ?_
    show W K l _ n0 _ h23 5 114 124 #[.val (.int a), .val (.int b), .val (.int v), .val (.int kr), .val (.ref b1), .val (.int k), .val (.int b)] [(.int (k - (1 : Int32))), (.ref b1)]
    refine w_callV ok (y := (⟨"com/example/perx/perx/index/IntList", "get", "(I)I"⟩ : MethodName)) (a := b1) (argsL := [(.int (k - (1 : Int32)))]) (rest := []) at_124 (hw _ (List.mem_of_getElem? (i := 38) rfl)) (hw _ (List.mem_of_getElem? (i := 39) rfl)) (hw _ (List.mem_of_getElem? (i := 41) rfl)) (hw _ (List.mem_of_getElem? (i := 40) rfl)) (hw _ (List.mem_of_getElem? (i := 2) rfl)) (hw _ (List.mem_of_getElem? (i := 42) rfl)) (by decide) A_b1.1 pd_28I29I rfl rfl (by decide) (Nat.le_of_ble_eq_true rfl) (by decide) (by decide) (fun z0 => rm_get l Z a0 hw [] n0 h23 z0 b1 c24 (k + 1) (k - (1 : Int32)) b ((([(.int a), (.int b), (.int a), (.int b), (.int a), (.int b), (.int a), (.int b), (.int a), (.int b), (.int a), (.int b), (.int a), (.int b), (.int a), (.int b)] : List Value) ++ List.replicate e25 (Value.int 0)).set k.toNatClampNeg (Value.int v)) A_b1 A_c24 f3 (f5 hc39)) (fun v40 h41 qv40 => ?_)
    obtain ⟨rfl, rfl⟩ := qv40
    show W K l _ n0 _ h23 5 114 127 #[.val (.int a), .val (.int b), .val (.int v), .val (.int kr), .val (.ref b1), .val (.int k), .val (.int b)] [(.int b)]
    refine w_iload ok at_127 rfl ?_
    show W K l _ n0 _ h23 5 114 129 #[.val (.int a), .val (.int b), .val (.int v), .val (.int kr), .val (.ref b1), .val (.int k), .val (.int b)] [(.int b), (.int b)]
    refine w_icmp_ne ok at_129 (pc' := 136) (by decide) (fun hc43 => False.elim (by exact hc43 rfl)) (fun hc43 => ?_)
    show W K l _ n0 _ h23 5 114 132 #[.val (.int a), .val (.int b), .val (.int v), .val (.int kr), .val (.ref b1), .val (.int k), .val (.int b)] []
    refine w_iconst ok at_132 (v := (1 : Int32)) rfl ?_
    show W K l _ n0 _ h23 5 114 133 #[.val (.int a), .val (.int b), .val (.int v), .val (.int kr), .val (.ref b1), .val (.int k), .val (.int b)] [(.int (1 : Int32))]
    refine w_goto ok at_133 (pc' := 137) (by decide) ?_
    show W K l _ n0 _ h23 5 114 137 #[.val (.int a), .val (.int b), .val (.int v), .val (.int kr), .val (.ref b1), .val (.int k), .val (.int b)] [(.int (1 : Int32))]
    refine w_bret ok (by simp) at_137 (by decide) (by decide) ?_
    exact rfl
  · show W K l _ n0 _ h23 5 114 111 #[.val (.int a), .val (.int b), .val (.int v), .val (.int kr), .val (.ref b1), .val (.int k), .unset] []
    refine w_iloadN ok at_111 rfl ?_
    show W K l _ n0 _ h23 5 114 112 #[.val (.int a), .val (.int b), .val (.int v), .val (.int kr), .val (.ref b1), .val (.int k), .unset] [(.int a)]
    refine w_goto ok at_112 (pc' := 116) (by decide) ?_
    show W K l _ n0 _ h23 5 114 116 #[.val (.int a), .val (.int b), .val (.int v), .val (.int kr), .val (.ref b1), .val (.int k), .unset] [(.int a)]
    refine w_istore ok at_116 (L' := #[.val (.int a), .val (.int b), .val (.int v), .val (.int kr), .val (.ref b1), .val (.int k), .val (.int a)]) rfl ?_
    show W K l _ n0 _ h23 5 114 118 #[.val (.int a), .val (.int b), .val (.int v), .val (.int kr), .val (.ref b1), .val (.int k), .val (.int a)] []
    refine w_aload ok at_118 rfl rfl ?_
    show W K l _ n0 _ h23 5 114 120 #[.val (.int a), .val (.int b), .val (.int v), .val (.int kr), .val (.ref b1), .val (.int k), .val (.int a)] [(.ref b1)]
    refine w_iload ok at_120 rfl ?_
    show W K l _ n0 _ h23 5 114 122 #[.val (.int a), .val (.int b), .val (.int v), .val (.int kr), .val (.ref b1), .val (.int k), .val (.int a)] [(.int k), (.ref b1)]
    refine w_iconst ok at_122 (v := (1 : Int32)) rfl ?_
    show W K l _ n0 _ h23 5 114 123 #[.val (.int a), .val (.int b), .val (.int v), .val (.int kr), .val (.ref b1), .val (.int k), .val (.int a)] [(.int (1 : Int32)), (.int k), (.ref b1)]
    refine w_isub ok at_123 ?_
    show W K l _ n0 _ h23 5 114 124 #[.val (.int a), .val (.int b), .val (.int v), .val (.int kr), .val (.ref b1), .val (.int k), .val (.int a)] [(.int (k - (1 : Int32))), (.ref b1)]
    refine w_callV ok (y := (⟨"com/example/perx/perx/index/IntList", "get", "(I)I"⟩ : MethodName)) (a := b1) (argsL := [(.int (k - (1 : Int32)))]) (rest := []) at_124 (hw _ (List.mem_of_getElem? (i := 38) rfl)) (hw _ (List.mem_of_getElem? (i := 39) rfl)) (hw _ (List.mem_of_getElem? (i := 41) rfl)) (hw _ (List.mem_of_getElem? (i := 40) rfl)) (hw _ (List.mem_of_getElem? (i := 2) rfl)) (hw _ (List.mem_of_getElem? (i := 42) rfl)) (by decide) A_b1.1 pd_28I29I rfl rfl (by decide) (Nat.le_of_ble_eq_true rfl) (by decide) (by decide) (fun z0 => rm_get l Z a0 hw [] n0 h23 z0 b1 c24 (k + 1) (k - (1 : Int32)) a ((([(.int a), (.int b), (.int a), (.int b), (.int a), (.int b), (.int a), (.int b), (.int a), (.int b), (.int a), (.int b), (.int a), (.int b), (.int a), (.int b)] : List Value) ++ List.replicate e25 (Value.int 0)).set k.toNatClampNeg (Value.int v)) A_b1 A_c24 f3 (f4 hc39)) (fun v44 h45 qv44 => ?_)
    obtain ⟨rfl, rfl⟩ := qv44
    show W K l _ n0 _ h23 5 114 127 #[.val (.int a), .val (.int b), .val (.int v), .val (.int kr), .val (.ref b1), .val (.int k), .val (.int a)] [(.int a)]
    refine w_iload ok at_127 rfl ?_
    show W K l _ n0 _ h23 5 114 129 #[.val (.int a), .val (.int b), .val (.int v), .val (.int kr), .val (.ref b1), .val (.int k), .val (.int a)] [(.int a), (.int a)]
    refine w_icmp_ne ok at_129 (pc' := 136) (by decide) (fun hc47 => False.elim (by exact hc47 rfl)) (fun hc47 => ?_)
    show W K l _ n0 _ h23 5 114 132 #[.val (.int a), .val (.int b), .val (.int v), .val (.int kr), .val (.ref b1), .val (.int k), .val (.int a)] []
    refine w_iconst ok at_132 (v := (1 : Int32)) rfl ?_
    show W K l _ n0 _ h23 5 114 133 #[.val (.int a), .val (.int b), .val (.int v), .val (.int kr), .val (.ref b1), .val (.int k), .val (.int a)] [(.int (1 : Int32))]
    refine w_goto ok at_133 (pc' := 137) (by decide) ?_
    show W K l _ n0 _ h23 5 114 137 #[.val (.int a), .val (.int b), .val (.int v), .val (.int kr), .val (.ref b1), .val (.int k), .val (.int a)] [(.int (1 : Int32))]
    refine w_bret ok (by simp) at_137 (by decide) (by decide) ?_
    exact rfl
set_option maxRecDepth 65536 in
set_option maxHeartbeats 40000000 in
theorem comes_1 {Post : Tables → Env → Array Value → State → Outcome → State → Prop} (hpost : ∀ tb e args s v u, (limb_1_1.after args s (.returned v) u = true ∧ limb_1_2.after args s (.returned v) u = true) → FrameEnd s (.returned v) u (Jvm.fieldLocs frame_1_writes args s ++ Jvm.arrayLocs frame_1_arrays args s ++ Jvm.staticLocs frame_1_statics s) 16 192 → Post tb e args s (.returned v) u) :
    ArmFor flags0 classFile x code maxLocals ret World_1 tables_1 room_1 Calls_1 rest_1 Pre_1 Post := by
  intro l hfl _ _ p e ha hc hk s m args below hf hA hF happ hP
  obtain ⟨hcalls, hrest, hpre⟩ := hP
  obtain ⟨-, -, -, hnamed, -, -, -, hat⟩ := (Spec.applies_iff hf).mp happ
  obtain ⟨hg, hn⟩ := and_e (Cond.before_iff.mp (show (Jvm.Cond.and given_1 narrow_1).before args s = true from hpre))
  obtain ⟨g0, r0⟩ := and_e hg
  obtain ⟨g1, r1⟩ := and_e r0
  obtain ⟨g2, r2⟩ := and_e r1
  obtain ⟨g3, r3⟩ := and_e r2
  obtain ⟨w0, w1, w2, w3, rfl⟩ : ∃ w0 w1 w2 w3 : Value, args = #[w0, w1, w2, w3] := by
    have hs : args.size = 4 := by simpa [Cond.value, given_1] using g0
    obtain ⟨L⟩ := args
    match L, hs with
    | [w0, w1, w2, w3], _ => exact ⟨w0, w1, w2, w3, rfl⟩
  have hw := fun d (hd : d ∈ tables_1) => atoms_spec (ws := Jvm.Cond.code x code maxLocals ret :: tables_1) hat d (List.mem_cons_of_mem _ hd)
  have hfit : Fit s := fun {y c} hc i hi => by
    obtain ⟨ha, rfl⟩ := Array.getElem?_eq_some_iff.mp hc
    have q := List.all_eq_true.mp ((Array.all_eq_true_iff_forall_mem.mp hF) _ (Array.getElem_mem ha)) i (List.mem_range.mpr hi)
    simpa [Array.getElem?_eq_getElem hi] using q
  obtain ⟨i0, ei0⟩ := is_v g1
  obtain rfl : w0 = (.int i0) := Option.some.inj ei0
  obtain ⟨i1, ei1⟩ := is_v g2
  obtain rfl : w1 = (.int i1) := Option.some.inj ei1
  obtain ⟨i2, ei2⟩ := is_v g3
  obtain rfl : w2 = (.int i2) := Option.some.inj ei2
  obtain ⟨i3, ei3⟩ := is_v r3
  obtain rfl : w3 = (.int i3) := Option.some.inj ei3
  obtain ⟨n, o, h1, h2, h3, _, L, rfl, ⟨rfl, N⟩, hq⟩ := rm0 l s _ hw tables_1 s.heap.size s.heap (Nat.le_refl _) i0 i1 i2 i3  p e ha hc hk s m _ below hf ((Spec.applies_iff_loose hf).mp happ).1 ⟨rfl, State.Warmed39.refl s, rfl⟩ trivial
  exact ⟨n, _, h1, h2, h3, hpost _ _ _ _ _ _ ⟨Cond.after_iff.mpr rfl, Cond.after_iff.mpr (eq_i res_at (Term.int_eval (1)) rfl)⟩ (frame_fin hq N (by decide) (by decide))⟩
theorem main_1_1 : Claimed_1_1 := comes_1 fun _ _ _ _ _ _ h hF => ⟨h.1, hF⟩
theorem main_1_2 : Claimed_1_2 := comes_1 fun _ _ _ _ _ _ h hF => ⟨h.2, hF⟩
end Jvm.Pilot.@@N@@
namespace Jvm.Pilot.@@N@@
open Jvm Jvm.ClassFile Sem Op Lib Jvm.Free Jvm.Stand Jvm.Pilot.@@N@@.Jvm.D
/-! MADE BY PROGRAM (witnessworld.py) out of the Statement's table words and the real class files: 12 classes; the members and pool entries that the words name. The judged class is class 1, her method 1. -/
namespace start1
open Jvm.ClassFile
def u (s : String) : CpInfo := .utf8 (stringToUtf16 s)
/-- a pool by its gaps: so many unusable entries, then the entry; so many at the end -/
def gap : Nat → List CpInfo → List CpInfo
  | 0, r => r
  | n + 1, r => .unusable :: gap n r
def poolList (es : List (Nat × CpInfo)) (last : Nat) : List CpInfo := es.foldr (fun e r => gap e.1 (e.2 :: r)) (gap last [])
def pool (es : List (Nat × CpInfo)) (last : Nat) : Array CpInfo := ⟨poolList es last⟩
def fileOf (pool : Array CpInfo) (this : Nat) (attrs : Array Attribute := #[]) (ms : Array MethodInfo := #[]) (fl : Nat := 33) (sup : Nat := 0) (ifs : Array Nat := #[]) (fds : Array FieldInfo := #[]) : ClassFile where
  minorVersion := 0
  majorVersion := 65
  constantPool := pool
  accessFlags := fl
  thisClass := this
  superClass := sup
  interfaces := ifs
  fields := fds
  methods := ms
  attributes := attrs
def plain (name : String) (sup : Option ClassId) : Class where
  name := name
  kind := .ordinary
  loader := none
  accessFlags := 33
  super := sup
  interfaces := #[]
  cf := none
  fields := #[]
  methods := #[]
  instanceTypes := #[]
  staticTypes := #[]
  resolved := #[]
  callSites := []
  init := .initialized
  statics := none
  mirror := none

def pool0 : Array CpInfo := pool [(5, u "<init>"), (0, u "()V"), (1, .class_ 10), (1, u "java/lang/Object")] 113

def k0c0 : Code := { maxStack := 0, maxLocals := 1, code := object_method_1_code, exceptionTable := #[], attributes := #[] }
def k0m0 : Method := { name := "<init>", desc := "()V", sig := { parameters := [], returnType := none }, accessFlags := 1, code := some k0c0 }
/-- java/lang/Object -/
def k0 : Class := { plain "java/lang/Object" none with
  accessFlags := 33
  interfaces := #[]
  cf := some (fileOf pool0 8 #[] #[{ accessFlags := 1, nameIndex := 5, descriptorIndex := 6, attributes := #[] }] 33 0 #[] #[])
  fields := #[]
  methods := #[k0m0]
  instanceTypes := #[]
  staticTypes := #[]
  resolved := Array.replicate 124 none
  statics := none }

def pool1 : Array CpInfo := pool [(2, .class_ 4), (0, .nameAndType 5 6), (0, u "java/lang/Object"), (0, u "<init>"), (0, u "()V"), (0, .class_ 8), (0, u "com/example/perx/perx/index/IntList"), (0, .methodref 7 3), (0, .methodref 7 11), (0, .nameAndType 12 13), (0, u "add"), (0, u "(I)V"), (0, .methodref 7 15), (0, .nameAndType 16 17), (0, u "addAll"), (0, u "(Lcom/example/perx/perx/index/IntList;)V"), (0, .methodref 7 19), (0, .nameAndType 20 13), (0, u "truncate"), (0, .methodref 7 22), (0, .nameAndType 23 24), (0, u "size"), (0, u "()I"), (0, .methodref 7 26), (0, .nameAndType 27 28), (0, u "get"), (0, u "(I)I"), (0, .class_ 30), (0, u "com/example/perx/perx/index/IntListAddPinLaw"), (2, u "law"), (0, u "(IIII)Z")] 3

def k1m0 : Method := { name := "<init>", desc := "()V", sig := { parameters := [], returnType := none }, accessFlags := 2, code := none }
def k1c1 : Code := { maxStack := 3, maxLocals := 7, code := code, exceptionTable := #[], attributes := #[] }
def k1m1 : Method := { name := "law", desc := "(IIII)Z", sig := { parameters := [.int, .int, .int, .int], returnType := some .boolean }, accessFlags := 9, code := some k1c1 }
/-- com/example/perx/perx/index/IntListAddPinLaw -/
def k1 : Class := { plain "com/example/perx/perx/index/IntListAddPinLaw" (some 0) with
  accessFlags := 49
  interfaces := #[]
  cf := some (fileOf pool1 29 #[] #[{ accessFlags := 2, nameIndex := 5, descriptorIndex := 6, attributes := #[] }, { accessFlags := 9, nameIndex := 33, descriptorIndex := 34, attributes := #[] }] 49 2 #[] #[])
  fields := #[]
  methods := #[k1m0, k1m1]
  instanceTypes := #[]
  staticTypes := #[]
  resolved := Array.replicate 38 none
  statics := none }

def pool2 : Array CpInfo := pool [(1, .methodref 2 3), (0, .class_ 4), (0, .nameAndType 5 6), (0, u "java/lang/Object"), (0, u "<init>"), (0, u "()V"), (0, .fieldref 8 9), (0, .class_ 10), (0, .nameAndType 11 12), (0, u "com/example/perx/perx/index/IntList"), (0, u "values"), (0, u "[I"), (0, .fieldref 8 14), (0, .nameAndType 15 16), (0, u "size"), (0, u "I"), (0, .methodref 18 19), (0, .class_ 20), (0, .nameAndType 21 22), (0, u "java/util/Arrays"), (0, u "copyOf"), (0, u "([II)[I"), (6, .methodref 30 31), (0, .class_ 32), (0, .nameAndType 33 34), (0, u "java/lang/System"), (0, u "arraycopy"), (0, u "(Ljava/lang/Object;ILjava/lang/Object;II)V"), (2, u "()I"), (0, u "add"), (0, u "(I)V"), (1, u "get"), (0, u "(I)I"), (2, u "addAll"), (0, u "(Lcom/example/perx/perx/index/IntList;)V"), (0, u "truncate")] 2

def k2c0 : Code := { maxStack := 2, maxLocals := 1, code := prog_24_method_1_code, exceptionTable := #[], attributes := #[] }
def k2m0 : Method := { name := "<init>", desc := "()V", sig := { parameters := [], returnType := none }, accessFlags := 0, code := some k2c0 }
def k2c1 : Code := { maxStack := 1, maxLocals := 1, code := prog_24_method_2_code, exceptionTable := #[], attributes := #[] }
def k2m1 : Method := { name := "size", desc := "()I", sig := { parameters := [], returnType := some .int }, accessFlags := 0, code := some k2c1 }
def k2c2 : Code := { maxStack := 5, maxLocals := 2, code := prog_24_method_3_code, exceptionTable := #[], attributes := #[] }
def k2m2 : Method := { name := "add", desc := "(I)V", sig := { parameters := [.int], returnType := none }, accessFlags := 0, code := some k2c2 }
def k2c3 : Code := { maxStack := 2, maxLocals := 2, code := prog_24_method_4_code, exceptionTable := #[], attributes := #[] }
def k2m3 : Method := { name := "get", desc := "(I)I", sig := { parameters := [.int], returnType := some .int }, accessFlags := 0, code := some k2c3 }
def k2c4 : Code := { maxStack := 5, maxLocals := 2, code := prog_24_method_6_code, exceptionTable := #[], attributes := #[] }
def k2m4 : Method := { name := "addAll", desc := "(Lcom/example/perx/perx/index/IntList;)V", sig := { parameters := [(.object "com/example/perx/perx/index/IntList")], returnType := none }, accessFlags := 0, code := some k2c4 }
def k2c5 : Code := { maxStack := 2, maxLocals := 2, code := prog_24_method_7_code, exceptionTable := #[], attributes := #[] }
def k2m5 : Method := { name := "truncate", desc := "(I)V", sig := { parameters := [.int], returnType := none }, accessFlags := 0, code := some k2c5 }
/-- com/example/perx/perx/index/IntList -/
def k2 : Class := { plain "com/example/perx/perx/index/IntList" (some 0) with
  accessFlags := 48
  interfaces := #[]
  cf := some (fileOf pool2 8 #[] #[{ accessFlags := 0, nameIndex := 5, descriptorIndex := 6, attributes := #[] }, { accessFlags := 0, nameIndex := 15, descriptorIndex := 37, attributes := #[] }, { accessFlags := 0, nameIndex := 38, descriptorIndex := 39, attributes := #[] }, { accessFlags := 0, nameIndex := 41, descriptorIndex := 42, attributes := #[] }, { accessFlags := 0, nameIndex := 45, descriptorIndex := 46, attributes := #[] }, { accessFlags := 0, nameIndex := 47, descriptorIndex := 39, attributes := #[] }] 48 2 #[] #[{ accessFlags := 2, nameIndex := 11, descriptorIndex := 12, attributes := #[] }, { accessFlags := 2, nameIndex := 15, descriptorIndex := 16, attributes := #[] }])
  fields := #[{ name := "values", type := (.array .int), accessFlags := 2, slot := 0, constantValue := 0 }, { name := "size", type := .int, accessFlags := 2, slot := 1, constantValue := 0 }]
  methods := #[k2m0, k2m1, k2m2, k2m3, k2m4, k2m5]
  instanceTypes := #[(.array .int), .int]
  staticTypes := #[]
  resolved := Array.replicate 50 none
  statics := none }

def pool3 : Array CpInfo := pool [(2, .class_ 4), (1, u "java/lang/Object"), (0, u "<init>"), (0, u "()V"), (1, .class_ 10), (1, u "java/lang/System"), (0, u "allowSecurityManager"), (0, u "I"), (16, u "cons"), (0, u "Ljava/io/Console;"), (77, .class_ 110), (1, u "java/lang/System$CallersHolder"), (43, u "initialErrStream"), (0, u "Ljava/io/PrintStream;"), (19, u "security"), (0, u "Ljava/lang/SecurityManager;"), (31, .class_ 209), (0, u "java/lang/System$1"), (7, u "props"), (0, u "Ljava/util/Properties;"), (2, u "lineSeparator"), (0, u "Ljava/lang/String;"), (96, .class_ 321), (1, u "java/lang/System$LoggerFinder"), (5, .class_ 328), (0, u "java/lang/System$Logger"), (67, u "err"), (2, u "out"), (91, u "notSupportedJnuEncoding"), (15, u "in"), (17, u "initialIn"), (0, u "Ljava/io/InputStream;"), (35, u "bootLayer"), (0, u "Ljava/lang/ModuleLayer;"), (99, .class_ 664), (0, u "java/lang/System$2"), (9, u "NEVER"), (2, u "MAYBE"), (49, u "arraycopy"), (0, u "(Ljava/lang/Object;ILjava/lang/Object;II)V"), (72, .class_ 802), (0, u "java/lang/System$Logger$Level")] 31

def k3m0 : Method := { name := "<init>", desc := "()V", sig := { parameters := [], returnType := none }, accessFlags := 2, code := none }
def k3m1 : Method := { name := "arraycopy", desc := "(Ljava/lang/Object;ILjava/lang/Object;II)V", sig := { parameters := [(.object "java/lang/Object"), .int, (.object "java/lang/Object"), .int, .int], returnType := none }, accessFlags := 265, code := none }
/-- java/lang/System -/
def k3 : Class := { plain "java/lang/System" (some 0) with
  accessFlags := 49
  interfaces := #[]
  cf := some (fileOf pool3 8 #[.nestMembers #[319, 327, 801, 108, 663, 208]] #[{ accessFlags := 2, nameIndex := 5, descriptorIndex := 6, attributes := #[] }, { accessFlags := 265, nameIndex := 727, descriptorIndex := 728, attributes := #[] }] 49 2 #[] #[{ accessFlags := 25, nameIndex := 507, descriptorIndex := 526, attributes := #[] }, { accessFlags := 25, nameIndex := 399, descriptorIndex := 155, attributes := #[] }, { accessFlags := 25, nameIndex := 396, descriptorIndex := 155, attributes := #[] }, { accessFlags := 10, nameIndex := 525, descriptorIndex := 526, attributes := #[] }, { accessFlags := 26, nameIndex := 674, descriptorIndex := 12, attributes := #[] }, { accessFlags := 26, nameIndex := 677, descriptorIndex := 12, attributes := #[] }, { accessFlags := 10, nameIndex := 11, descriptorIndex := 12, attributes := #[] }, { accessFlags := 74, nameIndex := 175, descriptorIndex := 176, attributes := #[] }, { accessFlags := 10, nameIndex := 491, descriptorIndex := 222, attributes := #[] }, { accessFlags := 74, nameIndex := 29, descriptorIndex := 30, attributes := #[] }, { accessFlags := 74, nameIndex := 154, descriptorIndex := 155, attributes := #[] }, { accessFlags := 10, nameIndex := 217, descriptorIndex := 218, attributes := #[] }, { accessFlags := 10, nameIndex := 221, descriptorIndex := 222, attributes := #[] }, { accessFlags := 8, nameIndex := 562, descriptorIndex := 563, attributes := #[] }])
  fields := #[{ name := "in", type := (.object "java/io/InputStream"), accessFlags := 25, slot := 0, constantValue := 0 }, { name := "out", type := (.object "java/io/PrintStream"), accessFlags := 25, slot := 1, constantValue := 0 }, { name := "err", type := (.object "java/io/PrintStream"), accessFlags := 25, slot := 2, constantValue := 0 }, { name := "initialIn", type := (.object "java/io/InputStream"), accessFlags := 10, slot := 3, constantValue := 0 }, { name := "NEVER", type := .int, accessFlags := 26, slot := 4, constantValue := 0 }, { name := "MAYBE", type := .int, accessFlags := 26, slot := 5, constantValue := 0 }, { name := "allowSecurityManager", type := .int, accessFlags := 10, slot := 6, constantValue := 0 }, { name := "security", type := (.object "java/lang/SecurityManager"), accessFlags := 74, slot := 7, constantValue := 0 }, { name := "notSupportedJnuEncoding", type := (.object "java/lang/String"), accessFlags := 10, slot := 8, constantValue := 0 }, { name := "cons", type := (.object "java/io/Console"), accessFlags := 74, slot := 9, constantValue := 0 }, { name := "initialErrStream", type := (.object "java/io/PrintStream"), accessFlags := 74, slot := 10, constantValue := 0 }, { name := "props", type := (.object "java/util/Properties"), accessFlags := 10, slot := 11, constantValue := 0 }, { name := "lineSeparator", type := (.object "java/lang/String"), accessFlags := 10, slot := 12, constantValue := 0 }, { name := "bootLayer", type := (.object "java/lang/ModuleLayer"), accessFlags := 8, slot := 13, constantValue := 0 }]
  methods := #[k3m0, k3m1]
  instanceTypes := #[]
  staticTypes := #[(.object "java/io/InputStream"), (.object "java/io/PrintStream"), (.object "java/io/PrintStream"), (.object "java/io/InputStream"), .int, .int, .int, (.object "java/lang/SecurityManager"), (.object "java/lang/String"), (.object "java/io/Console"), (.object "java/io/PrintStream"), (.object "java/util/Properties"), (.object "java/lang/String"), (.object "java/lang/ModuleLayer")]
  resolved := Array.replicate 834 none
  statics := none }

def pool4 : Array CpInfo := pool [(2, .class_ 4), (1, u "java/lang/Object"), (0, u "<init>"), (0, u "()V"), (7, .class_ 16), (1, u "java/util/Arrays"), (57, .class_ 76), (1, u "java/util/Arrays$NaturalOrder"), (36, .class_ 115), (1, u "java/util/Arrays$LegacyMergeSort"), (1, u "Z"), (32, .methodref 151 152), (0, .class_ 153), (0, .nameAndType 154 155), (0, u "java/lang/System"), (0, u "arraycopy"), (0, u "(Ljava/lang/Object;ILjava/lang/Object;II)V"), (146, u "copyOf"), (1, .methodref 305 306), (0, .class_ 307), (0, .nameAndType 308 309), (0, u "java/lang/Math"), (0, u "min"), (0, u "(II)I"), (65, .class_ 376), (0, u "java/util/Arrays$ArrayList"), (68, u "$assertionsDisabled"), (269, u "MIN_ARRAY_SORT_GRAN"), (0, u "I"), (2, u "INSERTIONSORT_THRESHOLD"), (151, u "([II)[I"), (103, .class_ 976), (0, u "java/util/Arrays$ArrayItr")] 52

def k4m0 : Method := { name := "<init>", desc := "()V", sig := { parameters := [], returnType := none }, accessFlags := 2, code := none }
def k4c1 : Code := { maxStack := 6, maxLocals := 3, code := jdk_65_method_123_code, exceptionTable := #[], attributes := #[] }
def k4m1 : Method := { name := "copyOf", desc := "([II)[I", sig := { parameters := [(.array .int), .int], returnType := some (.array .int) }, accessFlags := 9, code := some k4c1 }
/-- java/util/Arrays -/
def k4 : Class := { plain "java/util/Arrays" (some 0) with
  accessFlags := 49
  interfaces := #[]
  cf := some (fileOf pool4 14 #[.nestMembers #[975, 375, 113, 74]] #[{ accessFlags := 2, nameIndex := 5, descriptorIndex := 6, attributes := #[] }, { accessFlags := 9, nameIndex := 302, descriptorIndex := 871, attributes := #[] }] 49 2 #[] #[{ accessFlags := 26, nameIndex := 715, descriptorIndex := 716, attributes := #[] }, { accessFlags := 26, nameIndex := 719, descriptorIndex := 716, attributes := #[] }, { accessFlags := 4120, nameIndex := 445, descriptorIndex := 117, attributes := #[] }])
  fields := #[{ name := "MIN_ARRAY_SORT_GRAN", type := .int, accessFlags := 26, slot := 0, constantValue := 0 }, { name := "INSERTIONSORT_THRESHOLD", type := .int, accessFlags := 26, slot := 1, constantValue := 0 }, { name := "$assertionsDisabled", type := .boolean, accessFlags := 4120, slot := 2, constantValue := 0 }]
  methods := #[k4m0, k4m1]
  instanceTypes := #[]
  staticTypes := #[.int, .int, .boolean]
  resolved := Array.replicate 1029 none
  statics := none }

def pool5 : Array CpInfo := pool [(1, .class_ 2), (0, u "java/lang/Math"), (1, .class_ 6), (1, u "java/lang/Object"), (0, u "<init>"), (0, u "()V"), (89, .class_ 100), (1, u "java/lang/Math$RandomNumberGeneratorHolder"), (71, u "negativeZeroFloatBits"), (0, u "J"), (2, u "negativeZeroDoubleBits"), (24, u "min"), (43, u "$assertionsDisabled"), (0, u "Z"), (88, u "(II)I"), (2, u "twoToTheDoubleScaleDown"), (0, u "D"), (4, u "twoToTheDoubleScaleUp"), (9, u "E"), (3, u "PI"), (2, u "TAU"), (2, u "DEGREES_TO_RADIANS"), (0, u "RADIANS_TO_DEGREES")] 94

def k5m0 : Method := { name := "<init>", desc := "()V", sig := { parameters := [], returnType := none }, accessFlags := 2, code := none }
def k5c1 : Code := { maxStack := 2, maxLocals := 2, code := jdk_29_method_69_code, exceptionTable := #[], attributes := #[] }
def k5m1 : Method := { name := "min", desc := "(II)I", sig := { parameters := [.int, .int], returnType := some .int }, accessFlags := 9, code := some k5c1 }
/-- java/lang/Math -/
def k5 : Class := { plain "java/lang/Math" (some 0) with
  accessFlags := 49
  interfaces := #[]
  cf := some (fileOf pool5 1 #[.nestMembers #[98]] #[{ accessFlags := 2, nameIndex := 7, descriptorIndex := 8, attributes := #[] }, { accessFlags := 9, nameIndex := 201, descriptorIndex := 335, attributes := #[] }] 49 4 #[] #[{ accessFlags := 25, nameIndex := 354, descriptorIndex := 339, attributes := #[] }, { accessFlags := 25, nameIndex := 358, descriptorIndex := 339, attributes := #[] }, { accessFlags := 25, nameIndex := 361, descriptorIndex := 339, attributes := #[] }, { accessFlags := 26, nameIndex := 364, descriptorIndex := 339, attributes := #[] }, { accessFlags := 26, nameIndex := 365, descriptorIndex := 339, attributes := #[] }, { accessFlags := 26, nameIndex := 172, descriptorIndex := 173, attributes := #[] }, { accessFlags := 26, nameIndex := 176, descriptorIndex := 173, attributes := #[] }, { accessFlags := 8, nameIndex := 344, descriptorIndex := 339, attributes := #[] }, { accessFlags := 8, nameIndex := 338, descriptorIndex := 339, attributes := #[] }, { accessFlags := 4120, nameIndex := 245, descriptorIndex := 246, attributes := #[] }])
  fields := #[{ name := "E", type := .double, accessFlags := 25, slot := 0, constantValue := 0 }, { name := "PI", type := .double, accessFlags := 25, slot := 1, constantValue := 0 }, { name := "TAU", type := .double, accessFlags := 25, slot := 2, constantValue := 0 }, { name := "DEGREES_TO_RADIANS", type := .double, accessFlags := 26, slot := 3, constantValue := 0 }, { name := "RADIANS_TO_DEGREES", type := .double, accessFlags := 26, slot := 4, constantValue := 0 }, { name := "negativeZeroFloatBits", type := .long, accessFlags := 26, slot := 5, constantValue := 0 }, { name := "negativeZeroDoubleBits", type := .long, accessFlags := 26, slot := 6, constantValue := 0 }, { name := "twoToTheDoubleScaleUp", type := .double, accessFlags := 8, slot := 7, constantValue := 0 }, { name := "twoToTheDoubleScaleDown", type := .double, accessFlags := 8, slot := 8, constantValue := 0 }, { name := "$assertionsDisabled", type := .boolean, accessFlags := 4120, slot := 9, constantValue := 0 }]
  methods := #[k5m0, k5m1]
  instanceTypes := #[]
  staticTypes := #[.double, .double, .double, .double, .double, .long, .long, .double, .double, .boolean]
  resolved := Array.replicate 460 none
  statics := none }

def pool6 : Array CpInfo := pool [(1, u "java/lang/Cloneable"), (0, .class_ 1), (0, u "java/lang/Object"), (0, .class_ 3)] 3

/-- java/lang/Cloneable -/
def k6 : Class := { plain "java/lang/Cloneable" (some 0) with
  accessFlags := 1537
  interfaces := #[]
  cf := some (fileOf pool6 2 #[] #[] 1537 4 #[] #[])
  fields := #[]
  methods := #[]
  instanceTypes := #[]
  staticTypes := #[]
  resolved := Array.replicate 8 none
  statics := none }

def pool7 : Array CpInfo := pool [(1, u "java/io/Serializable"), (0, .class_ 1), (0, u "java/lang/Object"), (0, .class_ 3)] 3

/-- java/io/Serializable -/
def k7 : Class := { plain "java/io/Serializable" (some 0) with
  accessFlags := 1537
  interfaces := #[]
  cf := some (fileOf pool7 2 #[] #[] 1537 4 #[] #[])
  fields := #[]
  methods := #[]
  instanceTypes := #[]
  staticTypes := #[]
  resolved := Array.replicate 8 none
  statics := none }

/-- the primitive byte -/
def k8 : Class := { plain "byte" none with kind := .primitive 'B', accessFlags := 0x411 }
/-- [B -/
def k9 : Class := { plain "[B" (some 0) with kind := .array 8 .byte, interfaces := #[6, 7], accessFlags := 1041 }

/-- the primitive int -/
def k10 : Class := { plain "int" none with kind := .primitive 'I', accessFlags := 0x411 }
/-- [I -/
def k11 : Class := { plain "[I" (some 0) with kind := .array 10 .int, interfaces := #[6, 7], accessFlags := 1041 }

def heap : Heap := #[]
def classes : Array Class := #[k0, k1, k2, k3, k4, k5, k6, k7, k8, k9, k10, k11]
def interned : List (Array UInt16 × Addr) := []
def slotsUsed : Nat := 0
def theMethod : MethodId := ⟨1, 1⟩
def args0 : Array Value := #[.int 5, .int 7, .int 9, .int 3]
def aboutOver (below : List Frame) : State where
  vm := { classes := classes, interned := interned.toArray }
  heap := heap
  slotsUsed := slotsUsed
  threads := #[{ frames := .invoking theMethod args0 :: below }]
def below0 : List Frame := [.native { method := ⟨0, 0⟩, args := #[] }]
def about1 : State := aboutOver below0
def p0 : Program := .bare "" "" ""
def e0 : Env := launch0.env 0 0 0
theorem w_frames : about1.frames = Frame.invoking theMethod args0 :: below0 := rfl
set_option maxRecDepth 65536 in
theorem w_args : argsFit about1.vm theMethod args0 = true := by decide +kernel
set_option maxRecDepth 65536 in
theorem w_heap : heapFits about1 = true := by decide +kernel
set_option maxRecDepth 65536 in
theorem w_runnable : about1.curStatus? = some .runnable := by decide +kernel
set_option maxRecDepth 65536 in
theorem w_alone : about1.alone = true := by decide +kernel
set_option maxRecDepth 65536 in
theorem w_named : about1.methodNamed? x = some theMethod := by decide +kernel
set_option maxRecDepth 65536 in
theorem w_hears : about1.hears theMethod below0 = true := by decide +kernel
set_option maxRecDepth 65536 in
theorem w_ripe : about1.ripe theMethod args0 below0 = true := by decide +kernel
theorem w_running : about1.status = .running := rfl
set_option maxRecDepth 65536 in
theorem w_room : about1.hasRoom e0.platform room_1 = true :=
  launch0.hasRoom_least _ room_1 (by decide +kernel) (by decide +kernel) (by decide +kernel) (by decide +kernel) (by decide +kernel) (by decide +kernel)
theorem allAtoms_all (ts : List Jvm.Cond) (a : Array Jvm.Value) (st : Jvm.State) : (allAtoms ts).before a st = ts.all (fun c => c.before a st) := by
  induction ts with
  | nil => rfl
  | cons c t ih =>
    show (Jvm.Cond.and c (allAtoms t)).before a st = _
    rw [Jvm.Cond.before_and, ih, List.all_cons]
def words1 : List Jvm.Cond := Jvm.Cond.code x code maxLocals ret :: tables_1
/-- a 'code' word, met by the world's own term for the bytes: nothing is compared byte by byte -/
theorem code_word {y : MethodName} {bytes : ByteArray} {mx : Nat} {rt : Option FieldType} {a : Array Value} {s : State} {m : MethodId} {meth : Method} {c : Code} (h1 : s.methodNamed? y = some m) (h2 : s.vm.method? m = some meth) (h3 : meth.code = some c) (h4 : c.code = bytes)
    (h5 : (c.maxLocals == mx && c.exceptionTable.isEmpty && decide (c.maxStack ≤ mostOperands) && decide (meth.sig.returnType = rt) && !meth.locks && decide (parseMethodDescriptor y.desc = some meth.sig)) = true) : (Jvm.Cond.code y bytes mx rt).before a s = true := by
  simp only [Bool.and_eq_true, beq_iff_eq, Bool.not_eq_true', decide_eq_true_eq] at h5
  obtain ⟨⟨⟨⟨⟨g1, g2⟩, g3⟩, g4⟩, g5⟩, g6⟩ := h5
  simp [Cond.before, Cond.holds, Cond.value, h1, h2, h3, h4, g1, g2, g3, g4, g5, g6]
def isCode : Jvm.Cond → Bool
  | .code _ _ _ _ => true
  | _ => false
theorem all_split {L : List Jvm.Cond} {P : Jvm.Cond → Bool} (h1 : L.all (fun c => isCode c || P c) = true) (h2 : ∀ c ∈ L.filter isCode, P c = true) : L.all P = true := by
  refine List.all_eq_true.mpr fun c hc => ?_
  have h := List.all_eq_true.mp h1 c hc
  rcases Bool.eq_false_or_eq_true (isCode c) with hi | hi
  · exact h2 c (List.mem_filter.mpr ⟨hc, hi⟩)
  · simpa [hi] using h
set_option maxRecDepth 65536 in
theorem w_c0 : (Jvm.Cond.code x code maxLocals ret).before args0 about1 = true := code_word (m := ⟨1, 1⟩) (meth := k1m1) (c := k1c1) (by decide +kernel) rfl rfl rfl (by decide +kernel)
set_option maxRecDepth 65536 in
theorem w_c1 : (Jvm.Cond.code ({ cls := "com/example/perx/perx/index/IntList", name := "<init>", desc := "()V" } : Jvm.MethodName) prog_24_method_1_code (1 : Nat) (Option.none : Option Jvm.ClassFile.FieldType)).before args0 about1 = true := code_word (m := ⟨2, 0⟩) (meth := k2m0) (c := k2c0) (by decide +kernel) rfl rfl rfl (by decide +kernel)
set_option maxRecDepth 65536 in
theorem w_c2 : (Jvm.Cond.code ({ cls := "java/lang/Object", name := "<init>", desc := "()V" } : Jvm.MethodName) object_method_1_code (1 : Nat) (Option.none : Option Jvm.ClassFile.FieldType)).before args0 about1 = true := code_word (m := ⟨0, 0⟩) (meth := k0m0) (c := k0c0) (by decide +kernel) rfl rfl rfl (by decide +kernel)
set_option maxRecDepth 65536 in
theorem w_c3 : (Jvm.Cond.code ({ cls := "com/example/perx/perx/index/IntList", name := "add", desc := "(I)V" } : Jvm.MethodName) prog_24_method_3_code (2 : Nat) (Option.none : Option Jvm.ClassFile.FieldType)).before args0 about1 = true := code_word (m := ⟨2, 2⟩) (meth := k2m2) (c := k2c2) (by decide +kernel) rfl rfl rfl (by decide +kernel)
set_option maxRecDepth 65536 in
theorem w_c4 : (Jvm.Cond.code ({ cls := "com/example/perx/perx/index/IntList", name := "addAll", desc := "(Lcom/example/perx/perx/index/IntList;)V" } : Jvm.MethodName) prog_24_method_6_code (2 : Nat) (Option.none : Option Jvm.ClassFile.FieldType)).before args0 about1 = true := code_word (m := ⟨2, 4⟩) (meth := k2m4) (c := k2c4) (by decide +kernel) rfl rfl rfl (by decide +kernel)
set_option maxRecDepth 65536 in
theorem w_c5 : (Jvm.Cond.code ({ cls := "com/example/perx/perx/index/IntList", name := "truncate", desc := "(I)V" } : Jvm.MethodName) prog_24_method_7_code (2 : Nat) (Option.none : Option Jvm.ClassFile.FieldType)).before args0 about1 = true := code_word (m := ⟨2, 5⟩) (meth := k2m5) (c := k2c5) (by decide +kernel) rfl rfl rfl (by decide +kernel)
set_option maxRecDepth 65536 in
theorem w_c6 : (Jvm.Cond.code ({ cls := "com/example/perx/perx/index/IntList", name := "size", desc := "()I" } : Jvm.MethodName) prog_24_method_2_code (1 : Nat) (Option.some Jvm.ClassFile.FieldType.int)).before args0 about1 = true := code_word (m := ⟨2, 1⟩) (meth := k2m1) (c := k2c1) (by decide +kernel) rfl rfl rfl (by decide +kernel)
set_option maxRecDepth 65536 in
theorem w_c7 : (Jvm.Cond.code ({ cls := "com/example/perx/perx/index/IntList", name := "get", desc := "(I)I" } : Jvm.MethodName) prog_24_method_4_code (2 : Nat) (Option.some Jvm.ClassFile.FieldType.int)).before args0 about1 = true := code_word (m := ⟨2, 3⟩) (meth := k2m3) (c := k2c3) (by decide +kernel) rfl rfl rfl (by decide +kernel)
set_option maxRecDepth 65536 in
theorem w_c8 : (Jvm.Cond.code ({ cls := "java/util/Arrays", name := "copyOf", desc := "([II)[I" } : Jvm.MethodName) jdk_65_method_123_code (3 : Nat) (Option.some (Jvm.ClassFile.FieldType.array Jvm.ClassFile.FieldType.int))).before args0 about1 = true := code_word (m := ⟨4, 1⟩) (meth := k4m1) (c := k4c1) (by decide +kernel) rfl rfl rfl (by decide +kernel)
set_option maxRecDepth 65536 in
theorem w_c9 : (Jvm.Cond.code ({ cls := "java/lang/Math", name := "min", desc := "(II)I" } : Jvm.MethodName) jdk_29_method_69_code (2 : Nat) (Option.some Jvm.ClassFile.FieldType.int)).before args0 about1 = true := code_word (m := ⟨5, 1⟩) (meth := k5m1) (c := k5c1) (by decide +kernel) rfl rfl rfl (by decide +kernel)
def codes1 : List Jvm.Cond := [Jvm.Cond.code x code maxLocals ret, Jvm.Cond.code ({ cls := "com/example/perx/perx/index/IntList", name := "<init>", desc := "()V" } : Jvm.MethodName) prog_24_method_1_code (1 : Nat) (Option.none : Option Jvm.ClassFile.FieldType), Jvm.Cond.code ({ cls := "java/lang/Object", name := "<init>", desc := "()V" } : Jvm.MethodName) object_method_1_code (1 : Nat) (Option.none : Option Jvm.ClassFile.FieldType), Jvm.Cond.code ({ cls := "com/example/perx/perx/index/IntList", name := "add", desc := "(I)V" } : Jvm.MethodName) prog_24_method_3_code (2 : Nat) (Option.none : Option Jvm.ClassFile.FieldType), Jvm.Cond.code ({ cls := "com/example/perx/perx/index/IntList", name := "addAll", desc := "(Lcom/example/perx/perx/index/IntList;)V" } : Jvm.MethodName) prog_24_method_6_code (2 : Nat) (Option.none : Option Jvm.ClassFile.FieldType), Jvm.Cond.code ({ cls := "com/example/perx/perx/index/IntList", name := "truncate", desc := "(I)V" } : Jvm.MethodName) prog_24_method_7_code (2 : Nat) (Option.none : Option Jvm.ClassFile.FieldType), Jvm.Cond.code ({ cls := "com/example/perx/perx/index/IntList", name := "size", desc := "()I" } : Jvm.MethodName) prog_24_method_2_code (1 : Nat) (Option.some Jvm.ClassFile.FieldType.int), Jvm.Cond.code ({ cls := "com/example/perx/perx/index/IntList", name := "get", desc := "(I)I" } : Jvm.MethodName) prog_24_method_4_code (2 : Nat) (Option.some Jvm.ClassFile.FieldType.int), Jvm.Cond.code ({ cls := "java/util/Arrays", name := "copyOf", desc := "([II)[I" } : Jvm.MethodName) jdk_65_method_123_code (3 : Nat) (Option.some (Jvm.ClassFile.FieldType.array Jvm.ClassFile.FieldType.int)), Jvm.Cond.code ({ cls := "java/lang/Math", name := "min", desc := "(II)I" } : Jvm.MethodName) jdk_29_method_69_code (2 : Nat) (Option.some Jvm.ClassFile.FieldType.int)]
set_option maxRecDepth 65536 in
theorem codes_eq : words1.filter isCode = codes1 := rfl
theorem w_codes : ∀ c ∈ words1.filter isCode, c.before args0 about1 = true := by
  rw [codes_eq]
  intro c hc
  simp only [codes1, List.mem_cons, List.not_mem_nil, or_false] at hc
  rcases hc with rfl | rfl | rfl | rfl | rfl | rfl | rfl | rfl | rfl | rfl
  · exact w_c0
  · exact w_c1
  · exact w_c2
  · exact w_c3
  · exact w_c4
  · exact w_c5
  · exact w_c6
  · exact w_c7
  · exact w_c8
  · exact w_c9
set_option maxRecDepth 65536 in
theorem w_t1 : (words1.take 24).all (fun c => isCode c || c.before args0 about1) = true := by decide +kernel
set_option maxRecDepth 65536 in
theorem w_t2 : ((words1.drop 24).take 24).all (fun c => isCode c || c.before args0 about1) = true := by decide +kernel
set_option maxRecDepth 65536 in
theorem w_t3 : ((words1.drop 24).drop 24).all (fun c => isCode c || c.before args0 about1) = true := by decide +kernel
theorem w_tables : (allAtoms (Jvm.Cond.code x code maxLocals ret :: tables_1)).before args0 about1 = true := by
  rw [allAtoms_all]
  show words1.all (fun c => c.before args0 about1) = true
  refine all_split ?_ w_codes
  rw [← List.take_append_drop 24 words1, List.all_append, w_t1, ← List.take_append_drop 24 (words1.drop 24), List.all_append, w_t2, w_t3]
  rfl
set_option maxRecDepth 65536 in
theorem w_case : (Jvm.Cond.and given_1 narrow_1).before args0 about1 = true := by decide +kernel
theorem w_applies : (headSpec (Jvm.Cond.code x code maxLocals ret :: tables_1) room_1).applies x e0.platform about1 = true :=
  (Spec.applies_iff w_frames).mpr ⟨w_running, w_runnable, w_alone, w_named, w_hears, w_ripe, w_room, w_tables⟩
theorem atStart : AtStart classFile x code maxLocals ret World_1 tables_1 room_1 Calls_1 rest_1 Pre_1 launch0 p0 e0 about1 theMethod args0 below0 :=
  ⟨lists_1, trivial, launch0.admits_env _ _ _, launch0.least_env, fairChoices_fair.cas, fairChoices_fair.clock, w_frames, w_args, w_heap, w_applies, trivial, trivial, w_case⟩
end start1
theorem witness_1 : WitnessClaimed_1 := ⟨start1.p0, start1.e0, start1.about1, start1.theMethod, start1.args0, start1.below0, start1.atStart⟩
end Jvm.Pilot.@@N@@
