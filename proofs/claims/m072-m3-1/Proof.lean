import JvmDerived
import JvmDerived.Pilot.@@N@@Statement
import JvmDerived.Pilot.@@N@@Code
set_option linter.unusedVariables false
set_option linter.unusedSimpArgs false
namespace Jvm.OwnKit
open Sem ClassFile Op Lib Jvm.Stand Jvm.Free Jvm.LawKit Jvm.RoadKit Bundle
/-- the run's own things: program, environment, start state, method, arguments, frames below, its record, its code -/
abbrev Cx := Program × Env × State × MethodId × Array Value × List Frame × Method × Code
def Ok (K : Cx) (Z : State) (n0 : Nat) (own : String) (code : ByteArray) (maxL : Nat) (ret : Option FieldType) (nm : String) : Prop :=
  match K with
  | (p, _, s, m, _, _, meth, c) => p.tables.exec = Jvm.exec ∧ Z.Warmed39 s.vm ∧ s.vm.findClass own = some m.cls ∧ c.code = code ∧ c.maxLocals = maxL ∧ meth.sig.returnType = ret ∧ meth.name = nm ∧ meth.locks = false ∧ n0 ≤ s.heap.size
/-- from heap h, with k cells and n slots made, at pc with locals L and stack S, the run comes to a return that P likes -/
def W (K : Cx) (l : Launch) (R : Room) (n0 : Nat) (P : Option Value → Heap → Prop) (h : Heap) (k n pc : Nat) (L : Array Slot) (S : List Value) : Prop :=
  match K with
  | (p, e, s, m, args, below, meth, c) => ∀ T locs, Stand p l e R s m args below meth c T locs k n → T.heap = h → Fr n0 locs →
    ∃ s₂ o, Steps p.tables e below (T.setTop (mkF m pc L S)) s₂ ∧ s₂.status = .running ∧ Ended s₂ below o ∧ ∃ v L', o = .returned v ∧ (P v s₂.heap ∧ Fr n0 L') ∧ FrameEnd s o s₂ L' R.cells R.slots
/-- a method's contract: called with as' at heap h it returns what Q likes -/
abbrev Met (l : Launch) (Z : State) (n0 : Nat) (y : MethodName) (bytes : ByteArray) (mL : Nat) (rt : Option FieldType) (ws : List Cond) (rm : Room) (as' : Array Value) (h : Heap) (Q : Option Value → Heap → Prop) : Prop :=
  MetFree l y (head1 (Cond.code y bytes mL rt :: ws) rm) (fun a U => a = as' ∧ Z.Warmed39 U.vm ∧ U.heap = h) (fun _ _ _ _ _ => True) (fun _ U o U' => ∃ v L, o = .returned v ∧ (Q v U'.heap ∧ Fr n0 L) ∧ FrameEnd U o U' L rm.cells rm.slots)
theorem met_of {l : Launch} {Z : State} {n0 : Nat} {y : MethodName} {bytes : ByteArray} {mL : Nat} {rt : Option FieldType} {ws : List Cond} {rm : Room} {as' : Array Value} {h : Heap} {Q : Option Value → Heap → Prop} (Z0 : n0 ≤ h.size) (pn : plainFor y = true) {Ls : Array Slot} (ef : ∀ m, entryFrame m as' mL = mkF m 0 Ls [])
    (H : ∀ K, Ok K Z n0 y.cls bytes mL rt y.name → W K l rm n0 Q h 0 0 0 Ls []) : Met l Z n0 y bytes mL rt ws rm as' h Q := by
  refine MetFree.of_bodySF pn hisR ?_
  intro p e s m args below meth c s₁ Bd hml0 hP hK
  obtain ⟨rfl, hZ, hh⟩ := hP
  have hnm := (name_of_methodNamed Bd.named Bd.method).1
  have X0 : Stand p l e rm s m args below meth c s₁ [] 0 0 := Stand.of_body Bd
  have e0 : s₁.heap = h := by rw [← hh, Bd.state]; rfl
  obtain ⟨s₂, o, st, r⟩ := H (p, e, s, m, args, below, meth, c) ⟨Bd.exec, hZ, findClass_of_methodNamed Bd.named, Bd.bytes, hml0, Bd.returns, hnm, Bd.notSynchronized, by show n0 ≤ s.heap.size; rw [hh]; exact Z0⟩ s₁ [] X0 e0 (Fr.nil n0)
  exact ⟨s₂, o, castTop (ef m) st, r⟩
section S
variable {K : Cx} {l : Launch} {R : Room} {Z : State} {n0 : Nat} {P : Option Value → Heap → Prop} {h : Heap} {k n pc : Nat} {L : Array Slot} {S : List Value} {own : String} {code : ByteArray} {maxL : Nat} {ret : Option FieldType} {nm : String} {a0 : Array Value}
theorem W.mono {P' : Option Value → Heap → Prop} (q : ∀ v h, P v h → P' v h) (w : W K l R n0 P h k n pc L S) : W K l R n0 P' h k n pc L S := by
  obtain ⟨p, e, s, m, args, below, meth, c⟩ := K
  intro T locs X eT N
  obtain ⟨s₂, o, st, r1, r2, v, L', r3, ⟨r4, r5⟩, r6⟩ := w T locs X eT N
  exact ⟨s₂, o, st, r1, r2, v, L', r3, ⟨q _ _ r4, r5⟩, r6⟩
theorem W.more {k' n' : Nat} (w : W K l R n0 P h k' n' pc L S) (hk : k ≤ k') (hn : n ≤ n') : W K l R n0 P h k n pc L S := by
  obtain ⟨p, e, s, m, args, below, meth, c⟩ := K
  intro T locs X eT N
  exact w T locs (X.more hk hn) eT N
theorem w_iloadN (ok : Ok K Z n0 own code maxL ret nm) {i : Fin 4} {v : Int32} (hd : decode code pc = .ok (.iload_n i, 1)) (hl : L[i.val]? = some (.val (.int v))) (w : W K l R n0 P h k n (pc + 1) L (.int v :: S)) : W K l R n0 P h k n pc L (S) := by
  obtain ⟨p, e, s, m, args, below, meth, c⟩ := K
  obtain ⟨hx, hZ, hown, hby, -⟩ := ok
  intro T locs X eT N
  obtain ⟨s₂, o, st, r⟩ := w T locs X eT N
  exact ⟨s₂, o, XS.iloadN X.here hx rfl (hb hby hd) hl st, r⟩
theorem w_iload (ok : Ok K Z n0 own code maxL ret nm) {i : Nat} {v : Int32} (hd : decode code pc = .ok (.iload i, 2)) (hl : L[i]? = some (.val (.int v))) (w : W K l R n0 P h k n (pc + 2) L (.int v :: S)) : W K l R n0 P h k n pc L (S) := by
  obtain ⟨p, e, s, m, args, below, meth, c⟩ := K
  obtain ⟨hx, hZ, hown, hby, -⟩ := ok
  intro T locs X eT N
  obtain ⟨s₂, o, st, r⟩ := w T locs X eT N
  exact ⟨s₂, o, XS.iload X.here hx rfl (hb hby hd) hl st, r⟩
theorem w_istoreN (ok : Ok K Z n0 own code maxL ret nm) {i : Fin 4} {v : Int32} {L' : Array Slot} (hd : decode code pc = .ok (.istore_n i, 1)) (hl : storeLocals L i.val (.int v) = some L') (w : W K l R n0 P h k n (pc + 1) L' (S)) : W K l R n0 P h k n pc L (.int v :: S) := by
  obtain ⟨p, e, s, m, args, below, meth, c⟩ := K
  obtain ⟨hx, hZ, hown, hby, -⟩ := ok
  intro T locs X eT N
  obtain ⟨s₂, o, st, r⟩ := w T locs X eT N
  exact ⟨s₂, o, XS.istoreN X.here hx rfl (hb hby hd) rfl hl st, r⟩
theorem w_istore (ok : Ok K Z n0 own code maxL ret nm) {i : Nat} {v : Int32} {L' : Array Slot} (hd : decode code pc = .ok (.istore i, 2)) (hl : storeLocals L i (.int v) = some L') (w : W K l R n0 P h k n (pc + 2) L' (S)) : W K l R n0 P h k n pc L (.int v :: S) := by
  obtain ⟨p, e, s, m, args, below, meth, c⟩ := K
  obtain ⟨hx, hZ, hown, hby, -⟩ := ok
  intro T locs X eT N
  obtain ⟨s₂, o, st, r⟩ := w T locs X eT N
  exact ⟨s₂, o, XS.istore X.here hx rfl (hb hby hd) rfl hl st, r⟩
theorem w_lloadN (ok : Ok K Z n0 own code maxL ret nm) {i : Fin 4} {v : Int64} (hd : decode code pc = .ok (.lload_n i, 1)) (hl : L[i.val]? = some (.val (.long v))) (w : W K l R n0 P h k n (pc + 1) L (.long v :: S)) : W K l R n0 P h k n pc L (S) := by
  obtain ⟨p, e, s, m, args, below, meth, c⟩ := K
  obtain ⟨hx, hZ, hown, hby, -⟩ := ok
  intro T locs X eT N
  obtain ⟨s₂, o, st, r⟩ := w T locs X eT N
  exact ⟨s₂, o, XS.lloadN X.here hx rfl (hb hby hd) hl st, r⟩
theorem w_lload (ok : Ok K Z n0 own code maxL ret nm) {i : Nat} {v : Int64} (hd : decode code pc = .ok (.lload i, 2)) (hl : L[i]? = some (.val (.long v))) (w : W K l R n0 P h k n (pc + 2) L (.long v :: S)) : W K l R n0 P h k n pc L (S) := by
  obtain ⟨p, e, s, m, args, below, meth, c⟩ := K
  obtain ⟨hx, hZ, hown, hby, -⟩ := ok
  intro T locs X eT N
  obtain ⟨s₂, o, st, r⟩ := w T locs X eT N
  exact ⟨s₂, o, XS.lload X.here hx rfl (hb hby hd) hl st, r⟩
theorem w_lstoreN (ok : Ok K Z n0 own code maxL ret nm) {i : Fin 4} {v : Int64} {L' : Array Slot} (hd : decode code pc = .ok (.lstore_n i, 1)) (hl : storeLocals L i.val (.long v) = some L') (w : W K l R n0 P h k n (pc + 1) L' (S)) : W K l R n0 P h k n pc L (.long v :: S) := by
  obtain ⟨p, e, s, m, args, below, meth, c⟩ := K
  obtain ⟨hx, hZ, hown, hby, -⟩ := ok
  intro T locs X eT N
  obtain ⟨s₂, o, st, r⟩ := w T locs X eT N
  exact ⟨s₂, o, XS.lstoreN X.here hx rfl (hb hby hd) rfl hl st, r⟩
theorem w_lstore (ok : Ok K Z n0 own code maxL ret nm) {i : Nat} {v : Int64} {L' : Array Slot} (hd : decode code pc = .ok (.lstore i, 2)) (hl : storeLocals L i (.long v) = some L') (w : W K l R n0 P h k n (pc + 2) L' (S)) : W K l R n0 P h k n pc L (.long v :: S) := by
  obtain ⟨p, e, s, m, args, below, meth, c⟩ := K
  obtain ⟨hx, hZ, hown, hby, -⟩ := ok
  intro T locs X eT N
  obtain ⟨s₂, o, st, r⟩ := w T locs X eT N
  exact ⟨s₂, o, XS.lstore X.here hx rfl (hb hby hd) rfl hl st, r⟩
theorem w_aloadN (ok : Ok K Z n0 own code maxL ret nm) {i : Fin 4} {v : Value} (hd : decode code pc = .ok (.aload_n i, 1)) (hl : L[i.val]? = some (.val v)) (hv : v.isRef = true) (w : W K l R n0 P h k n (pc + 1) L (v :: S)) : W K l R n0 P h k n pc L (S) := by
  obtain ⟨p, e, s, m, args, below, meth, c⟩ := K
  obtain ⟨hx, hZ, hown, hby, -⟩ := ok
  intro T locs X eT N
  obtain ⟨s₂, o, st, r⟩ := w T locs X eT N
  exact ⟨s₂, o, XS.aloadN X.here hx rfl (hb hby hd) hl hv st, r⟩
theorem w_aload (ok : Ok K Z n0 own code maxL ret nm) {i : Nat} {v : Value} (hd : decode code pc = .ok (.aload i, 2)) (hl : L[i]? = some (.val v)) (hv : v.isRef = true) (w : W K l R n0 P h k n (pc + 2) L (v :: S)) : W K l R n0 P h k n pc L (S) := by
  obtain ⟨p, e, s, m, args, below, meth, c⟩ := K
  obtain ⟨hx, hZ, hown, hby, -⟩ := ok
  intro T locs X eT N
  obtain ⟨s₂, o, st, r⟩ := w T locs X eT N
  exact ⟨s₂, o, XS.aload X.here hx rfl (hb hby hd) hl hv st, r⟩
theorem w_astoreN (ok : Ok K Z n0 own code maxL ret nm) {i : Fin 4} {v : Value} {L' : Array Slot} (hd : decode code pc = .ok (.astore_n i, 1)) (hv : v.isRef = true) (hl : storeLocals L i.val v = some L') (w : W K l R n0 P h k n (pc + 1) L' (S)) : W K l R n0 P h k n pc L (v :: S) := by
  obtain ⟨p, e, s, m, args, below, meth, c⟩ := K
  obtain ⟨hx, hZ, hown, hby, -⟩ := ok
  intro T locs X eT N
  obtain ⟨s₂, o, st, r⟩ := w T locs X eT N
  exact ⟨s₂, o, XS.astoreN X.here hx rfl (hb hby hd) rfl hv hl st, r⟩
theorem w_astore (ok : Ok K Z n0 own code maxL ret nm) {i : Nat} {v : Value} {L' : Array Slot} (hd : decode code pc = .ok (.astore i, 2)) (hv : v.isRef = true) (hl : storeLocals L i v = some L') (w : W K l R n0 P h k n (pc + 2) L' (S)) : W K l R n0 P h k n pc L (v :: S) := by
  obtain ⟨p, e, s, m, args, below, meth, c⟩ := K
  obtain ⟨hx, hZ, hown, hby, -⟩ := ok
  intro T locs X eT N
  obtain ⟨s₂, o, st, r⟩ := w T locs X eT N
  exact ⟨s₂, o, XS.astore X.here hx rfl (hb hby hd) rfl hv hl st, r⟩
theorem w_iconst (ok : Ok K Z n0 own code maxL ret nm) {i : Int} {v : Int32} (hd : decode code pc = .ok (.iconst i, 1)) (hv : Int32.ofInt i = v) (w : W K l R n0 P h k n (pc + 1) L (.int v :: S)) : W K l R n0 P h k n pc L (S) := by
  obtain ⟨p, e, s, m, args, below, meth, c⟩ := K
  obtain ⟨hx, hZ, hown, hby, -⟩ := ok
  intro T locs X eT N
  obtain ⟨s₂, o, st, r⟩ := w T locs X eT N
  exact ⟨s₂, o, XS.iconst X.here hx rfl (hb hby hd) (hv ▸ st), r⟩
theorem w_bipush (ok : Ok K Z n0 own code maxL ret nm) {i : Int} {v : Int32} (hd : decode code pc = .ok (.bipush i, 2)) (hv : (Int8.ofInt i).toInt32 = v) (w : W K l R n0 P h k n (pc + 2) L (.int v :: S)) : W K l R n0 P h k n pc L (S) := by
  obtain ⟨p, e, s, m, args, below, meth, c⟩ := K
  obtain ⟨hx, hZ, hown, hby, -⟩ := ok
  intro T locs X eT N
  obtain ⟨s₂, o, st, r⟩ := w T locs X eT N
  exact ⟨s₂, o, XS.bipush X.here hx rfl (hb hby hd) (hv ▸ st), r⟩
theorem w_sipush (ok : Ok K Z n0 own code maxL ret nm) {i : Int} {v : Int32} (hd : decode code pc = .ok (.sipush i, 3)) (hv : (Int16.ofInt i).toInt32 = v) (w : W K l R n0 P h k n (pc + 3) L (.int v :: S)) : W K l R n0 P h k n pc L (S) := by
  obtain ⟨p, e, s, m, args, below, meth, c⟩ := K
  obtain ⟨hx, hZ, hown, hby, -⟩ := ok
  intro T locs X eT N
  obtain ⟨s₂, o, st, r⟩ := w T locs X eT N
  exact ⟨s₂, o, XS.sipush X.here hx rfl (hb hby hd) (hv ▸ st), r⟩
theorem w_lconst (ok : Ok K Z n0 own code maxL ret nm) {i : Fin 2} {v : Int64} (hd : decode code pc = .ok (.lconst i, 1)) (hv : Int64.ofNat i = v) (w : W K l R n0 P h k n (pc + 1) L (.long v :: S)) : W K l R n0 P h k n pc L (S) := by
  obtain ⟨p, e, s, m, args, below, meth, c⟩ := K
  obtain ⟨hx, hZ, hown, hby, -⟩ := ok
  intro T locs X eT N
  obtain ⟨s₂, o, st, r⟩ := w T locs X eT N
  exact ⟨s₂, o, XS.lconst X.here hx rfl (hb hby hd) (hv ▸ st), r⟩
theorem w_aconstNull (ok : Ok K Z n0 own code maxL ret nm)  (hd : decode code pc = .ok (.aconst_null, 1)) (w : W K l R n0 P h k n (pc + 1) L (.null :: S)) : W K l R n0 P h k n pc L (S) := by
  obtain ⟨p, e, s, m, args, below, meth, c⟩ := K
  obtain ⟨hx, hZ, hown, hby, -⟩ := ok
  intro T locs X eT N
  obtain ⟨s₂, o, st, r⟩ := w T locs X eT N
  exact ⟨s₂, o, XS.aconstNull X.here hx rfl (hb hby hd)  st, r⟩
theorem w_dup (ok : Ok K Z n0 own code maxL ret nm) {v : Value} (hd : decode code pc = .ok (.dup, 1)) (hv : v.category = 1) (w : W K l R n0 P h k n (pc + 1) L (v :: v :: S)) : W K l R n0 P h k n pc L (v :: S) := by
  obtain ⟨p, e, s, m, args, below, meth, c⟩ := K
  obtain ⟨hx, hZ, hown, hby, -⟩ := ok
  intro T locs X eT N
  obtain ⟨s₂, o, st, r⟩ := w T locs X eT N
  exact ⟨s₂, o, XS.dup X.here hx rfl (hb hby hd) rfl hv st, r⟩
theorem w_dupX1 (ok : Ok K Z n0 own code maxL ret nm) {v u : Value} (hd : decode code pc = .ok (.dup_x1, 1)) (hv : v.category = 1) (hu : u.category = 1) (w : W K l R n0 P h k n (pc + 1) L (v :: u :: v :: S)) : W K l R n0 P h k n pc L (v :: u :: S) := by
  obtain ⟨p, e, s, m, args, below, meth, c⟩ := K
  obtain ⟨hx, hZ, hown, hby, -⟩ := ok
  intro T locs X eT N
  obtain ⟨s₂, o, st, r⟩ := w T locs X eT N
  exact ⟨s₂, o, XS.dupX1 X.here hx rfl (hb hby hd) rfl hv hu st, r⟩
theorem w_pop (ok : Ok K Z n0 own code maxL ret nm) {v : Value} (hd : decode code pc = .ok (.pop, 1)) (hv : v.category = 1) (w : W K l R n0 P h k n (pc + 1) L (S)) : W K l R n0 P h k n pc L (v :: S) := by
  obtain ⟨p, e, s, m, args, below, meth, c⟩ := K
  obtain ⟨hx, hZ, hown, hby, -⟩ := ok
  intro T locs X eT N
  obtain ⟨s₂, o, st, r⟩ := w T locs X eT N
  exact ⟨s₂, o, XS.pop X.here hx rfl (hb hby hd) rfl hv st, r⟩
theorem w_dup2 (ok : Ok K Z n0 own code maxL ret nm) {v u : Value} (hd : decode code pc = .ok (.dup2, 1)) (hv : v.category = 1) (hu : u.category = 1) (w : W K l R n0 P h k n (pc + 1) L (v :: u :: v :: u :: S)) : W K l R n0 P h k n pc L (v :: u :: S) := by
  obtain ⟨p, e, s, m, args, below, meth, c⟩ := K
  obtain ⟨hx, hZ, hown, hby, -⟩ := ok
  intro T locs X eT N
  obtain ⟨s₂, o, st, r⟩ := w T locs X eT N
  exact ⟨s₂, o, XT.dup2 X.here hx rfl (hb hby hd) rfl hv hu st, r⟩
theorem w_iinc (ok : Ok K Z n0 own code maxL ret nm) {i : Nat} {c : Int} {v u : Int32} {L' : Array Slot} (hd : decode code pc = .ok (.iinc i c, 3)) (hu : Int32.ofInt c = u) (hl : L[i]? = some (.val (.int v))) (hl' : storeLocals L i (.int (v + u)) = some L') (w : W K l R n0 P h k n (pc + 3) L' (S)) : W K l R n0 P h k n pc L (S) := by
  obtain ⟨p, e, s, m, args, below, meth, c⟩ := K
  obtain ⟨hx, hZ, hown, hby, -⟩ := ok
  intro T locs X eT N
  obtain ⟨s₂, o, st, r⟩ := w T locs X eT N
  exact ⟨s₂, o, XS.iinc X.here hx rfl (hb hby hd) hl (by rw [hu]; exact hl') st, r⟩
theorem w_iadd (ok : Ok K Z n0 own code maxL ret nm) {x y : Int32} (hd : decode code pc = .ok (.iadd, 1)) (w : W K l R n0 P h k n (pc + 1) L (.int (x + y) :: S)) : W K l R n0 P h k n pc L (.int y :: .int x :: S) := by
  obtain ⟨p, e, s, m, args, below, meth, c⟩ := K
  obtain ⟨hx, hZ, hown, hby, -⟩ := ok
  intro T locs X eT N
  obtain ⟨s₂, o, st, r⟩ := w T locs X eT N
  exact ⟨s₂, o, XS.iadd X.here hx rfl (hb hby hd) rfl st, r⟩
theorem w_isub (ok : Ok K Z n0 own code maxL ret nm) {x y : Int32} (hd : decode code pc = .ok (.isub, 1)) (w : W K l R n0 P h k n (pc + 1) L (.int (x - y) :: S)) : W K l R n0 P h k n pc L (.int y :: .int x :: S) := by
  obtain ⟨p, e, s, m, args, below, meth, c⟩ := K
  obtain ⟨hx, hZ, hown, hby, -⟩ := ok
  intro T locs X eT N
  obtain ⟨s₂, o, st, r⟩ := w T locs X eT N
  exact ⟨s₂, o, XS.isub X.here hx rfl (hb hby hd) rfl st, r⟩
theorem w_imul (ok : Ok K Z n0 own code maxL ret nm) {x y : Int32} (hd : decode code pc = .ok (.imul, 1)) (w : W K l R n0 P h k n (pc + 1) L (.int (x * y) :: S)) : W K l R n0 P h k n pc L (.int y :: .int x :: S) := by
  obtain ⟨p, e, s, m, args, below, meth, c⟩ := K
  obtain ⟨hx, hZ, hown, hby, -⟩ := ok
  intro T locs X eT N
  obtain ⟨s₂, o, st, r⟩ := w T locs X eT N
  exact ⟨s₂, o, XS.imul X.here hx rfl (hb hby hd) rfl st, r⟩
theorem w_iand (ok : Ok K Z n0 own code maxL ret nm) {x y : Int32} (hd : decode code pc = .ok (.iand, 1)) (w : W K l R n0 P h k n (pc + 1) L (.int (x &&& y) :: S)) : W K l R n0 P h k n pc L (.int y :: .int x :: S) := by
  obtain ⟨p, e, s, m, args, below, meth, c⟩ := K
  obtain ⟨hx, hZ, hown, hby, -⟩ := ok
  intro T locs X eT N
  obtain ⟨s₂, o, st, r⟩ := w T locs X eT N
  exact ⟨s₂, o, XS.iand X.here hx rfl (hb hby hd) rfl st, r⟩
theorem w_ior (ok : Ok K Z n0 own code maxL ret nm) {x y : Int32} (hd : decode code pc = .ok (.ior, 1)) (w : W K l R n0 P h k n (pc + 1) L (.int (x ||| y) :: S)) : W K l R n0 P h k n pc L (.int y :: .int x :: S) := by
  obtain ⟨p, e, s, m, args, below, meth, c⟩ := K
  obtain ⟨hx, hZ, hown, hby, -⟩ := ok
  intro T locs X eT N
  obtain ⟨s₂, o, st, r⟩ := w T locs X eT N
  exact ⟨s₂, o, XS.ior X.here hx rfl (hb hby hd) rfl st, r⟩
theorem w_ixor (ok : Ok K Z n0 own code maxL ret nm) {x y : Int32} (hd : decode code pc = .ok (.ixor, 1)) (w : W K l R n0 P h k n (pc + 1) L (.int (x ^^^ y) :: S)) : W K l R n0 P h k n pc L (.int y :: .int x :: S) := by
  obtain ⟨p, e, s, m, args, below, meth, c⟩ := K
  obtain ⟨hx, hZ, hown, hby, -⟩ := ok
  intro T locs X eT N
  obtain ⟨s₂, o, st, r⟩ := w T locs X eT N
  exact ⟨s₂, o, XS.ixor X.here hx rfl (hb hby hd) rfl st, r⟩
theorem w_ishl (ok : Ok K Z n0 own code maxL ret nm) {x y : Int32} (hd : decode code pc = .ok (.ishl, 1)) (w : W K l R n0 P h k n (pc + 1) L (.int (x <<< (y &&& 31)) :: S)) : W K l R n0 P h k n pc L (.int y :: .int x :: S) := by
  obtain ⟨p, e, s, m, args, below, meth, c⟩ := K
  obtain ⟨hx, hZ, hown, hby, -⟩ := ok
  intro T locs X eT N
  obtain ⟨s₂, o, st, r⟩ := w T locs X eT N
  exact ⟨s₂, o, XS.ishl X.here hx rfl (hb hby hd) rfl st, r⟩
theorem w_ishr (ok : Ok K Z n0 own code maxL ret nm) {x y : Int32} (hd : decode code pc = .ok (.ishr, 1)) (w : W K l R n0 P h k n (pc + 1) L (.int (x >>> (y &&& 31)) :: S)) : W K l R n0 P h k n pc L (.int y :: .int x :: S) := by
  obtain ⟨p, e, s, m, args, below, meth, c⟩ := K
  obtain ⟨hx, hZ, hown, hby, -⟩ := ok
  intro T locs X eT N
  obtain ⟨s₂, o, st, r⟩ := w T locs X eT N
  exact ⟨s₂, o, XS.ishr X.here hx rfl (hb hby hd) rfl st, r⟩
theorem w_iushr (ok : Ok K Z n0 own code maxL ret nm) {x y : Int32} (hd : decode code pc = .ok (.iushr, 1)) (w : W K l R n0 P h k n (pc + 1) L (.int (XT.ushr x y) :: S)) : W K l R n0 P h k n pc L (.int y :: .int x :: S) := by
  obtain ⟨p, e, s, m, args, below, meth, c⟩ := K
  obtain ⟨hx, hZ, hown, hby, -⟩ := ok
  intro T locs X eT N
  obtain ⟨s₂, o, st, r⟩ := w T locs X eT N
  exact ⟨s₂, o, XS.iushr X.here hx rfl (hb hby hd) rfl st, r⟩
theorem w_ladd (ok : Ok K Z n0 own code maxL ret nm) {x y : Int64} (hd : decode code pc = .ok (.ladd, 1)) (w : W K l R n0 P h k n (pc + 1) L (.long (x + y) :: S)) : W K l R n0 P h k n pc L (.long y :: .long x :: S) := by
  obtain ⟨p, e, s, m, args, below, meth, c⟩ := K
  obtain ⟨hx, hZ, hown, hby, -⟩ := ok
  intro T locs X eT N
  obtain ⟨s₂, o, st, r⟩ := w T locs X eT N
  exact ⟨s₂, o, XS.ladd X.here hx rfl (hb hby hd) rfl st, r⟩
theorem w_lsub (ok : Ok K Z n0 own code maxL ret nm) {x y : Int64} (hd : decode code pc = .ok (.lsub, 1)) (w : W K l R n0 P h k n (pc + 1) L (.long (x - y) :: S)) : W K l R n0 P h k n pc L (.long y :: .long x :: S) := by
  obtain ⟨p, e, s, m, args, below, meth, c⟩ := K
  obtain ⟨hx, hZ, hown, hby, -⟩ := ok
  intro T locs X eT N
  obtain ⟨s₂, o, st, r⟩ := w T locs X eT N
  exact ⟨s₂, o, XS.lsub X.here hx rfl (hb hby hd) rfl st, r⟩
theorem w_lmul (ok : Ok K Z n0 own code maxL ret nm) {x y : Int64} (hd : decode code pc = .ok (.lmul, 1)) (w : W K l R n0 P h k n (pc + 1) L (.long (x * y) :: S)) : W K l R n0 P h k n pc L (.long y :: .long x :: S) := by
  obtain ⟨p, e, s, m, args, below, meth, c⟩ := K
  obtain ⟨hx, hZ, hown, hby, -⟩ := ok
  intro T locs X eT N
  obtain ⟨s₂, o, st, r⟩ := w T locs X eT N
  exact ⟨s₂, o, XS.lmul X.here hx rfl (hb hby hd) rfl st, r⟩
theorem w_land (ok : Ok K Z n0 own code maxL ret nm) {x y : Int64} (hd : decode code pc = .ok (.land, 1)) (w : W K l R n0 P h k n (pc + 1) L (.long (x &&& y) :: S)) : W K l R n0 P h k n pc L (.long y :: .long x :: S) := by
  obtain ⟨p, e, s, m, args, below, meth, c⟩ := K
  obtain ⟨hx, hZ, hown, hby, -⟩ := ok
  intro T locs X eT N
  obtain ⟨s₂, o, st, r⟩ := w T locs X eT N
  exact ⟨s₂, o, XS.land X.here hx rfl (hb hby hd) rfl st, r⟩
theorem w_lor (ok : Ok K Z n0 own code maxL ret nm) {x y : Int64} (hd : decode code pc = .ok (.lor, 1)) (w : W K l R n0 P h k n (pc + 1) L (.long (x ||| y) :: S)) : W K l R n0 P h k n pc L (.long y :: .long x :: S) := by
  obtain ⟨p, e, s, m, args, below, meth, c⟩ := K
  obtain ⟨hx, hZ, hown, hby, -⟩ := ok
  intro T locs X eT N
  obtain ⟨s₂, o, st, r⟩ := w T locs X eT N
  exact ⟨s₂, o, XS.lor X.here hx rfl (hb hby hd) rfl st, r⟩
theorem w_lxor (ok : Ok K Z n0 own code maxL ret nm) {x y : Int64} (hd : decode code pc = .ok (.lxor, 1)) (w : W K l R n0 P h k n (pc + 1) L (.long (x ^^^ y) :: S)) : W K l R n0 P h k n pc L (.long y :: .long x :: S) := by
  obtain ⟨p, e, s, m, args, below, meth, c⟩ := K
  obtain ⟨hx, hZ, hown, hby, -⟩ := ok
  intro T locs X eT N
  obtain ⟨s₂, o, st, r⟩ := w T locs X eT N
  exact ⟨s₂, o, XS.lxor X.here hx rfl (hb hby hd) rfl st, r⟩
theorem w_lshl (ok : Ok K Z n0 own code maxL ret nm) {x : Int64} {y : Int32} (hd : decode code pc = .ok (.lshl, 1)) (w : W K l R n0 P h k n (pc + 1) L (.long (x <<< (y &&& 0x3f).toInt64) :: S)) : W K l R n0 P h k n pc L (.int y :: .long x :: S) := by
  obtain ⟨p, e, s, m, args, below, meth, c⟩ := K
  obtain ⟨hx, hZ, hown, hby, -⟩ := ok
  intro T locs X eT N
  obtain ⟨s₂, o, st, r⟩ := w T locs X eT N
  exact ⟨s₂, o, XS.lshl X.here hx rfl (hb hby hd) rfl st, r⟩
theorem w_lshr (ok : Ok K Z n0 own code maxL ret nm) {x : Int64} {y : Int32} (hd : decode code pc = .ok (.lshr, 1)) (w : W K l R n0 P h k n (pc + 1) L (.long (x >>> (y &&& 0x3f).toInt64) :: S)) : W K l R n0 P h k n pc L (.int y :: .long x :: S) := by
  obtain ⟨p, e, s, m, args, below, meth, c⟩ := K
  obtain ⟨hx, hZ, hown, hby, -⟩ := ok
  intro T locs X eT N
  obtain ⟨s₂, o, st, r⟩ := w T locs X eT N
  exact ⟨s₂, o, XS.lshr X.here hx rfl (hb hby hd) rfl st, r⟩
theorem w_lushr (ok : Ok K Z n0 own code maxL ret nm) {x : Int64} {y : Int32} (hd : decode code pc = .ok (.lushr, 1)) (w : W K l R n0 P h k n (pc + 1) L (.long ((x.toUInt64 >>> (y &&& 0x3f).toInt64.toUInt64).toInt64) :: S)) : W K l R n0 P h k n pc L (.int y :: .long x :: S) := by
  obtain ⟨p, e, s, m, args, below, meth, c⟩ := K
  obtain ⟨hx, hZ, hown, hby, -⟩ := ok
  intro T locs X eT N
  obtain ⟨s₂, o, st, r⟩ := w T locs X eT N
  exact ⟨s₂, o, XS.lushr X.here hx rfl (hb hby hd) rfl st, r⟩
theorem w_i2l (ok : Ok K Z n0 own code maxL ret nm) {x : Int32} (hd : decode code pc = .ok (.i2l, 1)) (w : W K l R n0 P h k n (pc + 1) L (.long (x.toInt64) :: S)) : W K l R n0 P h k n pc L (.int x :: S) := by
  obtain ⟨p, e, s, m, args, below, meth, c⟩ := K
  obtain ⟨hx, hZ, hown, hby, -⟩ := ok
  intro T locs X eT N
  obtain ⟨s₂, o, st, r⟩ := w T locs X eT N
  exact ⟨s₂, o, XS.i2l X.here hx rfl (hb hby hd) rfl st, r⟩
theorem w_l2i (ok : Ok K Z n0 own code maxL ret nm) {x : Int64} (hd : decode code pc = .ok (.l2i, 1)) (w : W K l R n0 P h k n (pc + 1) L (.int (x.toInt32) :: S)) : W K l R n0 P h k n pc L (.long x :: S) := by
  obtain ⟨p, e, s, m, args, below, meth, c⟩ := K
  obtain ⟨hx, hZ, hown, hby, -⟩ := ok
  intro T locs X eT N
  obtain ⟨s₂, o, st, r⟩ := w T locs X eT N
  exact ⟨s₂, o, XS.l2i X.here hx rfl (hb hby hd) rfl st, r⟩
theorem w_i2b (ok : Ok K Z n0 own code maxL ret nm) {x : Int32} (hd : decode code pc = .ok (.i2b, 1)) (w : W K l R n0 P h k n (pc + 1) L (.int (x.toInt8.toInt32) :: S)) : W K l R n0 P h k n pc L (.int x :: S) := by
  obtain ⟨p, e, s, m, args, below, meth, c⟩ := K
  obtain ⟨hx, hZ, hown, hby, -⟩ := ok
  intro T locs X eT N
  obtain ⟨s₂, o, st, r⟩ := w T locs X eT N
  exact ⟨s₂, o, XS.i2b X.here hx rfl (hb hby hd) rfl st, r⟩
theorem w_i2c (ok : Ok K Z n0 own code maxL ret nm) {x : Int32} (hd : decode code pc = .ok (.i2c, 1)) (w : W K l R n0 P h k n (pc + 1) L (.int (x.toUInt32.toUInt16.toUInt32.toInt32) :: S)) : W K l R n0 P h k n pc L (.int x :: S) := by
  obtain ⟨p, e, s, m, args, below, meth, c⟩ := K
  obtain ⟨hx, hZ, hown, hby, -⟩ := ok
  intro T locs X eT N
  obtain ⟨s₂, o, st, r⟩ := w T locs X eT N
  exact ⟨s₂, o, XS.i2c X.here hx rfl (hb hby hd) rfl st, r⟩
theorem w_ineg (ok : Ok K Z n0 own code maxL ret nm) {x : Int32} (hd : decode code pc = .ok (.ineg, 1)) (w : W K l R n0 P h k n (pc + 1) L (.int (-x) :: S)) : W K l R n0 P h k n pc L (.int x :: S) := by
  obtain ⟨p, e, s, m, args, below, meth, c⟩ := K
  obtain ⟨hx, hZ, hown, hby, -⟩ := ok
  intro T locs X eT N
  obtain ⟨s₂, o, st, r⟩ := w T locs X eT N
  exact ⟨s₂, o, XS.ineg X.here hx rfl (hb hby hd) rfl st, r⟩
theorem w_idiv (ok : Ok K Z n0 own code maxL ret nm) {x y : Int32} (hd : decode code pc = .ok (.idiv, 1)) (hy : y ≠ 0) (w : W K l R n0 P h k n (pc + 1) L (.int (x / y) :: S)) : W K l R n0 P h k n pc L (.int y :: .int x :: S) := by
  obtain ⟨p, e, s, m, args, below, meth, c⟩ := K
  obtain ⟨hx, hZ, hown, hby, -⟩ := ok
  intro T locs X eT N
  obtain ⟨s₂, o, st, r⟩ := w T locs X eT N
  exact ⟨s₂, o, XS.idiv X.here hx rfl (hb hby hd) rfl hy st, r⟩
theorem w_irem (ok : Ok K Z n0 own code maxL ret nm) {x y : Int32} (hd : decode code pc = .ok (.irem, 1)) (hy : y ≠ 0) (w : W K l R n0 P h k n (pc + 1) L (.int (x % y) :: S)) : W K l R n0 P h k n pc L (.int y :: .int x :: S) := by
  obtain ⟨p, e, s, m, args, below, meth, c⟩ := K
  obtain ⟨hx, hZ, hown, hby, -⟩ := ok
  intro T locs X eT N
  obtain ⟨s₂, o, st, r⟩ := w T locs X eT N
  exact ⟨s₂, o, iremM X hx rfl (hb hby hd) rfl hy st, r⟩
theorem w_ldiv (ok : Ok K Z n0 own code maxL ret nm) {x y : Int64} (hd : decode code pc = .ok (.ldiv, 1)) (hy : y ≠ 0) (w : W K l R n0 P h k n (pc + 1) L (.long (x / y) :: S)) : W K l R n0 P h k n pc L (.long y :: .long x :: S) := by
  obtain ⟨p, e, s, m, args, below, meth, c⟩ := K
  obtain ⟨hx, hZ, hown, hby, -⟩ := ok
  intro T locs X eT N
  obtain ⟨s₂, o, st, r⟩ := w T locs X eT N
  exact ⟨s₂, o, XS.ldiv X.here hx rfl (hb hby hd) rfl hy st, r⟩
theorem w_lrem (ok : Ok K Z n0 own code maxL ret nm) {x y : Int64} (hd : decode code pc = .ok (.lrem, 1)) (hy : y ≠ 0) (w : W K l R n0 P h k n (pc + 1) L (.long (x % y) :: S)) : W K l R n0 P h k n pc L (.long y :: .long x :: S) := by
  obtain ⟨p, e, s, m, args, below, meth, c⟩ := K
  obtain ⟨hx, hZ, hown, hby, -⟩ := ok
  intro T locs X eT N
  obtain ⟨s₂, o, st, r⟩ := w T locs X eT N
  exact ⟨s₂, o, XS.lrem X.here hx rfl (hb hby hd) rfl hy (by rw [lrem_mod]; exact st), r⟩
theorem w_goto (ok : Ok K Z n0 own code maxL ret nm) {o : Int} {pc' : Nat} (hd : decode code pc = .ok (.goto o, 3)) (hp : (pc : Int) + o = (pc' : Int)) (w : W K l R n0 P h k n (pc') L (S)) : W K l R n0 P h k n pc L (S) := by
  obtain ⟨p, e, s, m, args, below, meth, c⟩ := K
  obtain ⟨hx, hZ, hown, hby, -⟩ := ok
  intro T locs X eT N
  obtain ⟨s₂, o, st, r⟩ := w T locs X eT N
  exact ⟨s₂, o, XS.goto X.here hx rfl (pc0 := pc) (pc' := pc') rfl (hb hby hd) (by rw [hp]; exact Int.natCast_nonneg _) (by rw [hp]; rfl) st, r⟩
theorem w_ldcI (ok : Ok K Z n0 own code maxL ret nm) {i : Nat} {v : Int32} (hd : decode code pc = .ok (.ldc i, 2)) (w1 : (Cond.constant own i v).before a0 Z = true) (w : W K l R n0 P h k n (pc + 2) L (.int v :: S)) : W K l R n0 P h k n pc L (S) := by
  obtain ⟨p, e, s, m, args, below, meth, c⟩ := K
  obtain ⟨hx, hZ, hown, hby, -⟩ := ok
  intro T locs X eT N
  obtain ⟨s₂, o, st, r⟩ := w T locs X eT N
  exact ⟨s₂, o, X.ldcInt hx hown (mvT hZ w1) (g := mkF m pc L S) rfl (hb hby hd) _ st, r⟩
theorem w_ldc2J (ok : Ok K Z n0 own code maxL ret nm) {i : Nat} {v : Int64} (hd : decode code pc = .ok (.ldc2_w i, 3)) (w1 : (Cond.constantLong own i v).before a0 Z = true) (w : W K l R n0 P h k n (pc + 3) L (.long v :: S)) : W K l R n0 P h k n pc L (S) := by
  obtain ⟨p, e, s, m, args, below, meth, c⟩ := K
  obtain ⟨hx, hZ, hown, hby, -⟩ := ok
  intro T locs X eT N
  obtain ⟨s₂, o, st, r⟩ := w T locs X eT N
  exact ⟨s₂, o, X.ldc2Long hx hown (mvT hZ w1) (g := mkF m pc L S) rfl (hb hby hd) _ st, r⟩
theorem w_icmp_eq (ok : Ok K Z n0 own code maxL ret nm) {x y : Int32} {o : Int} {pc' : Nat} (hd : decode code pc = .ok (.if_icmp .eq o, 3)) (hp : (pc : Int) + o = (pc' : Int)) (wy : x = y → W K l R n0 P h k n pc' L S) (wn : ¬ x = y → W K l R n0 P h k n (pc + 3) L S) : W K l R n0 P h k n pc L (.int y :: .int x :: S) := by
  obtain ⟨p, e, s, m, args, below, meth, c⟩ := K
  obtain ⟨hx, hZ, hown, hby, -⟩ := ok
  intro T locs X eT N
  by_cases hc : x = y
  · obtain ⟨s₂, o, st, r⟩ := wy hc T locs X eT N
    exact ⟨s₂, o, XS.icmpYes X.here hx rfl (pc0 := pc) (pc' := pc') rfl (hb hby hd) rfl (teq hc).1 (by rw [hp]; exact Int.natCast_nonneg _) (by rw [hp]; rfl) st, r⟩
  · obtain ⟨s₂, o, st, r⟩ := wn hc T locs X eT N
    exact ⟨s₂, o, XS.icmpNo X.here hx rfl (hb hby hd) rfl (feq hc).1 st, r⟩
theorem w_if_eq (ok : Ok K Z n0 own code maxL ret nm) {x : Int32} {o : Int} {pc' : Nat} (hd : decode code pc = .ok (.ifCond .eq o, 3)) (hp : (pc : Int) + o = (pc' : Int)) (wy : x = 0 → W K l R n0 P h k n pc' L S) (wn : ¬ x = 0 → W K l R n0 P h k n (pc + 3) L S) : W K l R n0 P h k n pc L (.int x :: S) := by
  obtain ⟨p, e, s, m, args, below, meth, c⟩ := K
  obtain ⟨hx, hZ, hown, hby, -⟩ := ok
  intro T locs X eT N
  by_cases hc : x = 0
  · obtain ⟨s₂, o, st, r⟩ := wy hc T locs X eT N
    exact ⟨s₂, o, XS.ifYes X.here hx rfl (pc0 := pc) (pc' := pc') rfl (hb hby hd) rfl ((if0 _ _).trans (teq hc).1) (by rw [hp]; exact Int.natCast_nonneg _) (by rw [hp]; rfl) st, r⟩
  · obtain ⟨s₂, o, st, r⟩ := wn hc T locs X eT N
    exact ⟨s₂, o, XS.ifNo X.here hx rfl (hb hby hd) rfl ((if0 _ _).trans (feq hc).1) st, r⟩
theorem w_icmp_ne (ok : Ok K Z n0 own code maxL ret nm) {x y : Int32} {o : Int} {pc' : Nat} (hd : decode code pc = .ok (.if_icmp .ne o, 3)) (hp : (pc : Int) + o = (pc' : Int)) (wy : ¬ x = y → W K l R n0 P h k n pc' L S) (wn : x = y → W K l R n0 P h k n (pc + 3) L S) : W K l R n0 P h k n pc L (.int y :: .int x :: S) := by
  obtain ⟨p, e, s, m, args, below, meth, c⟩ := K
  obtain ⟨hx, hZ, hown, hby, -⟩ := ok
  intro T locs X eT N
  by_cases hc : x = y
  · obtain ⟨s₂, o, st, r⟩ := wn hc T locs X eT N
    exact ⟨s₂, o, XS.icmpNo X.here hx rfl (hb hby hd) rfl (teq hc).2 st, r⟩
  · obtain ⟨s₂, o, st, r⟩ := wy hc T locs X eT N
    exact ⟨s₂, o, XS.icmpYes X.here hx rfl (pc0 := pc) (pc' := pc') rfl (hb hby hd) rfl (feq hc).2 (by rw [hp]; exact Int.natCast_nonneg _) (by rw [hp]; rfl) st, r⟩
theorem w_if_ne (ok : Ok K Z n0 own code maxL ret nm) {x : Int32} {o : Int} {pc' : Nat} (hd : decode code pc = .ok (.ifCond .ne o, 3)) (hp : (pc : Int) + o = (pc' : Int)) (wy : ¬ x = 0 → W K l R n0 P h k n pc' L S) (wn : x = 0 → W K l R n0 P h k n (pc + 3) L S) : W K l R n0 P h k n pc L (.int x :: S) := by
  obtain ⟨p, e, s, m, args, below, meth, c⟩ := K
  obtain ⟨hx, hZ, hown, hby, -⟩ := ok
  intro T locs X eT N
  by_cases hc : x = 0
  · obtain ⟨s₂, o, st, r⟩ := wn hc T locs X eT N
    exact ⟨s₂, o, XS.ifNo X.here hx rfl (hb hby hd) rfl ((if0 _ _).trans (teq hc).2) st, r⟩
  · obtain ⟨s₂, o, st, r⟩ := wy hc T locs X eT N
    exact ⟨s₂, o, XS.ifYes X.here hx rfl (pc0 := pc) (pc' := pc') rfl (hb hby hd) rfl ((if0 _ _).trans (feq hc).2) (by rw [hp]; exact Int.natCast_nonneg _) (by rw [hp]; rfl) st, r⟩
theorem w_icmp_lt (ok : Ok K Z n0 own code maxL ret nm) {x y : Int32} {o : Int} {pc' : Nat} (hd : decode code pc = .ok (.if_icmp .lt o, 3)) (hp : (pc : Int) + o = (pc' : Int)) (wy : x < y → W K l R n0 P h k n pc' L S) (wn : ¬ x < y → W K l R n0 P h k n (pc + 3) L S) : W K l R n0 P h k n pc L (.int y :: .int x :: S) := by
  obtain ⟨p, e, s, m, args, below, meth, c⟩ := K
  obtain ⟨hx, hZ, hown, hby, -⟩ := ok
  intro T locs X eT N
  by_cases hc : x < y
  · obtain ⟨s₂, o, st, r⟩ := wy hc T locs X eT N
    exact ⟨s₂, o, XS.icmpYes X.here hx rfl (pc0 := pc) (pc' := pc') rfl (hb hby hd) rfl (tlt hc).1 (by rw [hp]; exact Int.natCast_nonneg _) (by rw [hp]; rfl) st, r⟩
  · obtain ⟨s₂, o, st, r⟩ := wn hc T locs X eT N
    exact ⟨s₂, o, XS.icmpNo X.here hx rfl (hb hby hd) rfl (flt hc).1 st, r⟩
theorem w_if_lt (ok : Ok K Z n0 own code maxL ret nm) {x : Int32} {o : Int} {pc' : Nat} (hd : decode code pc = .ok (.ifCond .lt o, 3)) (hp : (pc : Int) + o = (pc' : Int)) (wy : x < 0 → W K l R n0 P h k n pc' L S) (wn : ¬ x < 0 → W K l R n0 P h k n (pc + 3) L S) : W K l R n0 P h k n pc L (.int x :: S) := by
  obtain ⟨p, e, s, m, args, below, meth, c⟩ := K
  obtain ⟨hx, hZ, hown, hby, -⟩ := ok
  intro T locs X eT N
  by_cases hc : x < 0
  · obtain ⟨s₂, o, st, r⟩ := wy hc T locs X eT N
    exact ⟨s₂, o, XS.ifYes X.here hx rfl (pc0 := pc) (pc' := pc') rfl (hb hby hd) rfl ((if0 _ _).trans (tlt hc).1) (by rw [hp]; exact Int.natCast_nonneg _) (by rw [hp]; rfl) st, r⟩
  · obtain ⟨s₂, o, st, r⟩ := wn hc T locs X eT N
    exact ⟨s₂, o, XS.ifNo X.here hx rfl (hb hby hd) rfl ((if0 _ _).trans (flt hc).1) st, r⟩
theorem w_icmp_ge (ok : Ok K Z n0 own code maxL ret nm) {x y : Int32} {o : Int} {pc' : Nat} (hd : decode code pc = .ok (.if_icmp .ge o, 3)) (hp : (pc : Int) + o = (pc' : Int)) (wy : ¬ x < y → W K l R n0 P h k n pc' L S) (wn : x < y → W K l R n0 P h k n (pc + 3) L S) : W K l R n0 P h k n pc L (.int y :: .int x :: S) := by
  obtain ⟨p, e, s, m, args, below, meth, c⟩ := K
  obtain ⟨hx, hZ, hown, hby, -⟩ := ok
  intro T locs X eT N
  by_cases hc : x < y
  · obtain ⟨s₂, o, st, r⟩ := wn hc T locs X eT N
    exact ⟨s₂, o, XS.icmpNo X.here hx rfl (hb hby hd) rfl (tlt hc).2.1 st, r⟩
  · obtain ⟨s₂, o, st, r⟩ := wy hc T locs X eT N
    exact ⟨s₂, o, XS.icmpYes X.here hx rfl (pc0 := pc) (pc' := pc') rfl (hb hby hd) rfl (flt hc).2.1 (by rw [hp]; exact Int.natCast_nonneg _) (by rw [hp]; rfl) st, r⟩
theorem w_if_ge (ok : Ok K Z n0 own code maxL ret nm) {x : Int32} {o : Int} {pc' : Nat} (hd : decode code pc = .ok (.ifCond .ge o, 3)) (hp : (pc : Int) + o = (pc' : Int)) (wy : ¬ x < 0 → W K l R n0 P h k n pc' L S) (wn : x < 0 → W K l R n0 P h k n (pc + 3) L S) : W K l R n0 P h k n pc L (.int x :: S) := by
  obtain ⟨p, e, s, m, args, below, meth, c⟩ := K
  obtain ⟨hx, hZ, hown, hby, -⟩ := ok
  intro T locs X eT N
  by_cases hc : x < 0
  · obtain ⟨s₂, o, st, r⟩ := wn hc T locs X eT N
    exact ⟨s₂, o, XS.ifNo X.here hx rfl (hb hby hd) rfl ((if0 _ _).trans (tlt hc).2.1) st, r⟩
  · obtain ⟨s₂, o, st, r⟩ := wy hc T locs X eT N
    exact ⟨s₂, o, XS.ifYes X.here hx rfl (pc0 := pc) (pc' := pc') rfl (hb hby hd) rfl ((if0 _ _).trans (flt hc).2.1) (by rw [hp]; exact Int.natCast_nonneg _) (by rw [hp]; rfl) st, r⟩
theorem w_icmp_gt (ok : Ok K Z n0 own code maxL ret nm) {x y : Int32} {o : Int} {pc' : Nat} (hd : decode code pc = .ok (.if_icmp .gt o, 3)) (hp : (pc : Int) + o = (pc' : Int)) (wy : y < x → W K l R n0 P h k n pc' L S) (wn : ¬ y < x → W K l R n0 P h k n (pc + 3) L S) : W K l R n0 P h k n pc L (.int y :: .int x :: S) := by
  obtain ⟨p, e, s, m, args, below, meth, c⟩ := K
  obtain ⟨hx, hZ, hown, hby, -⟩ := ok
  intro T locs X eT N
  by_cases hc : y < x
  · obtain ⟨s₂, o, st, r⟩ := wy hc T locs X eT N
    exact ⟨s₂, o, XS.icmpYes X.here hx rfl (pc0 := pc) (pc' := pc') rfl (hb hby hd) rfl (tlt hc).2.2.1 (by rw [hp]; exact Int.natCast_nonneg _) (by rw [hp]; rfl) st, r⟩
  · obtain ⟨s₂, o, st, r⟩ := wn hc T locs X eT N
    exact ⟨s₂, o, XS.icmpNo X.here hx rfl (hb hby hd) rfl (flt hc).2.2.1 st, r⟩
theorem w_if_gt (ok : Ok K Z n0 own code maxL ret nm) {x : Int32} {o : Int} {pc' : Nat} (hd : decode code pc = .ok (.ifCond .gt o, 3)) (hp : (pc : Int) + o = (pc' : Int)) (wy : 0 < x → W K l R n0 P h k n pc' L S) (wn : ¬ 0 < x → W K l R n0 P h k n (pc + 3) L S) : W K l R n0 P h k n pc L (.int x :: S) := by
  obtain ⟨p, e, s, m, args, below, meth, c⟩ := K
  obtain ⟨hx, hZ, hown, hby, -⟩ := ok
  intro T locs X eT N
  by_cases hc : 0 < x
  · obtain ⟨s₂, o, st, r⟩ := wy hc T locs X eT N
    exact ⟨s₂, o, XS.ifYes X.here hx rfl (pc0 := pc) (pc' := pc') rfl (hb hby hd) rfl ((if0 _ _).trans (tlt hc).2.2.1) (by rw [hp]; exact Int.natCast_nonneg _) (by rw [hp]; rfl) st, r⟩
  · obtain ⟨s₂, o, st, r⟩ := wn hc T locs X eT N
    exact ⟨s₂, o, XS.ifNo X.here hx rfl (hb hby hd) rfl ((if0 _ _).trans (flt hc).2.2.1) st, r⟩
theorem w_icmp_le (ok : Ok K Z n0 own code maxL ret nm) {x y : Int32} {o : Int} {pc' : Nat} (hd : decode code pc = .ok (.if_icmp .le o, 3)) (hp : (pc : Int) + o = (pc' : Int)) (wy : ¬ y < x → W K l R n0 P h k n pc' L S) (wn : y < x → W K l R n0 P h k n (pc + 3) L S) : W K l R n0 P h k n pc L (.int y :: .int x :: S) := by
  obtain ⟨p, e, s, m, args, below, meth, c⟩ := K
  obtain ⟨hx, hZ, hown, hby, -⟩ := ok
  intro T locs X eT N
  by_cases hc : y < x
  · obtain ⟨s₂, o, st, r⟩ := wn hc T locs X eT N
    exact ⟨s₂, o, XS.icmpNo X.here hx rfl (hb hby hd) rfl (tlt hc).2.2.2 st, r⟩
  · obtain ⟨s₂, o, st, r⟩ := wy hc T locs X eT N
    exact ⟨s₂, o, XS.icmpYes X.here hx rfl (pc0 := pc) (pc' := pc') rfl (hb hby hd) rfl (flt hc).2.2.2 (by rw [hp]; exact Int.natCast_nonneg _) (by rw [hp]; rfl) st, r⟩
theorem w_if_le (ok : Ok K Z n0 own code maxL ret nm) {x : Int32} {o : Int} {pc' : Nat} (hd : decode code pc = .ok (.ifCond .le o, 3)) (hp : (pc : Int) + o = (pc' : Int)) (wy : ¬ 0 < x → W K l R n0 P h k n pc' L S) (wn : 0 < x → W K l R n0 P h k n (pc + 3) L S) : W K l R n0 P h k n pc L (.int x :: S) := by
  obtain ⟨p, e, s, m, args, below, meth, c⟩ := K
  obtain ⟨hx, hZ, hown, hby, -⟩ := ok
  intro T locs X eT N
  by_cases hc : 0 < x
  · obtain ⟨s₂, o, st, r⟩ := wn hc T locs X eT N
    exact ⟨s₂, o, XS.ifNo X.here hx rfl (hb hby hd) rfl ((if0 _ _).trans (tlt hc).2.2.2) st, r⟩
  · obtain ⟨s₂, o, st, r⟩ := wy hc T locs X eT N
    exact ⟨s₂, o, XS.ifYes X.here hx rfl (pc0 := pc) (pc' := pc') rfl (hb hby hd) rfl ((if0 _ _).trans (flt hc).2.2.2) (by rw [hp]; exact Int.natCast_nonneg _) (by rw [hp]; rfl) st, r⟩
theorem w_lcmp (ok : Ok K Z n0 own code maxL ret nm) {x y : Int64} (hd : decode code pc = .ok (.lcmp, 1)) (w : W K l R n0 P h k n (pc + 1) L (.int (lcmpW x y) :: S)) : W K l R n0 P h k n pc L (.long y :: .long x :: S) := by
  obtain ⟨p, e, s, m, args, below, meth, c⟩ := K
  obtain ⟨hx, hZ, hown, hby, -⟩ := ok
  intro T locs X eT N
  obtain ⟨s₂, o, st, r⟩ := w T locs X eT N
  exact ⟨s₂, o, XS.lcmp X.here hx rfl (hb hby hd) rfl st, r⟩
theorem w_lcmp_eq (ok : Ok K Z n0 own code maxL ret nm) {x y : Int64} {o : Int} {pc' : Nat} (hd : decode code pc = .ok (.lcmp, 1)) (hd2 : decode code (pc + 1) = .ok (.ifCond .eq o, 3)) (hp : ((pc + 1 : Nat) : Int) + o = (pc' : Int)) (wy : x = y → W K l R n0 P h k n pc' L S) (wn : ¬ x = y → W K l R n0 P h k n (pc + 4) L S) : W K l R n0 P h k n pc L (.long y :: .long x :: S) :=
  w_lcmp ok hd (w_if_eq ok hd2 hp (fun hc => wy ((lw_eq x y).mp hc)) (fun hc => wn (fun q => hc ((lw_eq x y).mpr q))))
theorem w_lcmp_ne (ok : Ok K Z n0 own code maxL ret nm) {x y : Int64} {o : Int} {pc' : Nat} (hd : decode code pc = .ok (.lcmp, 1)) (hd2 : decode code (pc + 1) = .ok (.ifCond .ne o, 3)) (hp : ((pc + 1 : Nat) : Int) + o = (pc' : Int)) (wy : ¬ x = y → W K l R n0 P h k n pc' L S) (wn : x = y → W K l R n0 P h k n (pc + 4) L S) : W K l R n0 P h k n pc L (.long y :: .long x :: S) :=
  w_lcmp ok hd (w_if_ne ok hd2 hp (fun hc => wy (fun q => hc ((lw_eq x y).mpr q))) (fun hc => wn ((lw_eq x y).mp hc)))
theorem w_lcmp_lt (ok : Ok K Z n0 own code maxL ret nm) {x y : Int64} {o : Int} {pc' : Nat} (hd : decode code pc = .ok (.lcmp, 1)) (hd2 : decode code (pc + 1) = .ok (.ifCond .lt o, 3)) (hp : ((pc + 1 : Nat) : Int) + o = (pc' : Int)) (wy : x < y → W K l R n0 P h k n pc' L S) (wn : ¬ x < y → W K l R n0 P h k n (pc + 4) L S) : W K l R n0 P h k n pc L (.long y :: .long x :: S) :=
  w_lcmp ok hd (w_if_lt ok hd2 hp (fun hc => wy ((lw_lt x y).mp hc)) (fun hc => wn (fun q => hc ((lw_lt x y).mpr q))))
theorem w_lcmp_ge (ok : Ok K Z n0 own code maxL ret nm) {x y : Int64} {o : Int} {pc' : Nat} (hd : decode code pc = .ok (.lcmp, 1)) (hd2 : decode code (pc + 1) = .ok (.ifCond .ge o, 3)) (hp : ((pc + 1 : Nat) : Int) + o = (pc' : Int)) (wy : ¬ x < y → W K l R n0 P h k n pc' L S) (wn : x < y → W K l R n0 P h k n (pc + 4) L S) : W K l R n0 P h k n pc L (.long y :: .long x :: S) :=
  w_lcmp ok hd (w_if_ge ok hd2 hp (fun hc => wy (fun q => hc ((lw_lt x y).mpr q))) (fun hc => wn ((lw_lt x y).mp hc)))
theorem w_lcmp_gt (ok : Ok K Z n0 own code maxL ret nm) {x y : Int64} {o : Int} {pc' : Nat} (hd : decode code pc = .ok (.lcmp, 1)) (hd2 : decode code (pc + 1) = .ok (.ifCond .gt o, 3)) (hp : ((pc + 1 : Nat) : Int) + o = (pc' : Int)) (wy : y < x → W K l R n0 P h k n pc' L S) (wn : ¬ y < x → W K l R n0 P h k n (pc + 4) L S) : W K l R n0 P h k n pc L (.long y :: .long x :: S) :=
  w_lcmp ok hd (w_if_gt ok hd2 hp (fun hc => wy ((lw_gt x y).mp hc)) (fun hc => wn (fun q => hc ((lw_gt x y).mpr q))))
theorem w_lcmp_le (ok : Ok K Z n0 own code maxL ret nm) {x y : Int64} {o : Int} {pc' : Nat} (hd : decode code pc = .ok (.lcmp, 1)) (hd2 : decode code (pc + 1) = .ok (.ifCond .le o, 3)) (hp : ((pc + 1 : Nat) : Int) + o = (pc' : Int)) (wy : ¬ y < x → W K l R n0 P h k n pc' L S) (wn : y < x → W K l R n0 P h k n (pc + 4) L S) : W K l R n0 P h k n pc L (.long y :: .long x :: S) :=
  w_lcmp ok hd (w_if_le ok hd2 hp (fun hc => wy (fun q => hc ((lw_gt x y).mpr q))) (fun hc => wn ((lw_gt x y).mp hc)))
theorem w_out {t : FieldType} {i : Instr} {w : Value} (ok : Ok K Z n0 own code maxL (some t) nm) (hn : narrow t w = w) (hi : (i = .ireturn ∧ (t = .int ∨ t = .boolean ∨ t = .byte ∨ t = .char ∨ t = .short) ∧ ∃ z, w = .int z) ∨ (i = .lreturn ∧ t = .long ∧ ∃ z, w = .long z) ∨ (i = .dreturn ∧ t = .double ∧ ∃ z, w = .double z) ∨ (i = .freturn ∧ t = .float ∧ ∃ z, w = .float z) ∨ (i = .areturn ∧ t.isReference = true ∧ w.isRef = true))
    (hd : decode code pc = .ok (i, 1)) (hk : k ≤ R.cells) (hs : n ≤ R.slots) (hP : P (some w) h) : W K l R n0 P h k n pc L (w :: S) := by
  obtain ⟨p, e, s, m, args, below, meth, c⟩ := K
  obtain ⟨hx, hZ, hown, hby, hml, hret, hnm, hlk, hn0⟩ := ok
  intro T locs X eT N
  obtain ⟨fs, hr, hrun, hended, hW, hsame⟩ := X.leave (v := some w) (fun q => by rw [hret] at q; cases q)
  exact ⟨_, _, retOut X hx hret hn hi (hb hby hd) hr, hrun, hended, _, _, rfl, ⟨by show P (some w) T.heap; rw [eT]; exact hP, N⟩, ⟨_, rfl⟩, hW, hsame.mono hk hs⟩
theorem w_iret {z : Int32} (ok : Ok K Z n0 own code maxL (some .int) nm) (hd : decode code pc = .ok (.ireturn, 1)) (hk : k ≤ R.cells) (hs : n ≤ R.slots) (hP : P (some (.int z)) h) : W K l R n0 P h k n pc L (.int z :: S) :=
  w_out ok rfl (Or.inl ⟨rfl, by simp, z, rfl⟩) hd hk hs hP
theorem w_lret {z : Int64} (ok : Ok K Z n0 own code maxL (some .long) nm) (hd : decode code pc = .ok (.lreturn, 1)) (hk : k ≤ R.cells) (hs : n ≤ R.slots) (hP : P (some (.long z)) h) : W K l R n0 P h k n pc L (.long z :: S) :=
  w_out ok rfl (Or.inr (Or.inl ⟨rfl, rfl, z, rfl⟩)) hd hk hs hP
theorem w_aret {w : Value} {t : FieldType} (ok : Ok K Z n0 own code maxL (some t) nm) (ht : t.isReference = true) (hw : w.isRef = true) (hd : decode code pc = .ok (.areturn, 1)) (hk : k ≤ R.cells) (hs : n ≤ R.slots) (hP : P (some w) h) : W K l R n0 P h k n pc L (w :: S) :=
  w_out ok (by rcases ref_cases hw with rfl | ⟨_, rfl⟩ <;> cases t <;> first | rfl | cases ht) (Or.inr (Or.inr (Or.inr (Or.inr ⟨rfl, ht, hw⟩)))) hd hk hs hP
theorem w_bret {z : Int32} {t : FieldType} (ok : Ok K Z n0 own code maxL (some t) nm) (ht : t = .boolean ∨ t = .byte ∨ t = .char ∨ t = .short) (hd : decode code pc = .ok (.ireturn, 1)) (hk : k ≤ R.cells) (hs : n ≤ R.slots) (hP : P (some (.int (nar t z))) h) : W K l R n0 P h k n pc L (.int z :: S) := by
  obtain ⟨p, e, s, m, args, below, meth, c⟩ := K
  obtain ⟨hx, hZ, hown, hby, hml, hret, hnm, hlk, hn0⟩ := ok
  intro T locs X eT N
  obtain ⟨fs, hr, hrun, hended, hW, hsame⟩ := X.leave (v := some (.int (nar t z))) (fun q => by rw [hret] at q; cases q)
  exact ⟨_, _, retN X hx hret ht (hb hby hd) hr, hrun, hended, _, _, rfl, ⟨by show P (some (.int (nar t z))) T.heap; rw [eT]; exact hP, N⟩, ⟨_, rfl⟩, hW, hsame.mono hk hs⟩
theorem w_ret (ok : Ok K Z n0 own code maxL none nm) (hd : decode code pc = .ok (.return_, 1)) (hk : k ≤ R.cells) (hs : n ≤ R.slots) (hP : P none h) : W K l R n0 P h k n pc L [] := by
  obtain ⟨p, e, s, m, args, below, meth, c⟩ := K
  obtain ⟨hx, hZ, hown, hby, hml, hret, hnm, hlk, hn0⟩ := ok
  intro T locs X eT N
  obtain ⟨fs, hr, hrun, hended, hW, hsame⟩ := X.leave (v := none) (fun _ => rfl)
  exact ⟨_, _, X.returnOut hx hret (hb hby hd) hr, hrun, hended, _, _, rfl, ⟨by show P none T.heap; rw [eT]; exact hP, N⟩, ⟨_, rfl⟩, hW, hsame.mono hk hs⟩
abbrev notHandle (y : MethodName) : Prop := y.cls ≠ "java/lang/invoke/MethodHandle" ∧ y.cls ≠ "java/lang/invoke/VarHandle"
theorem w_callS (ok : Ok K Z n0 own code maxL ret nm) {index : Nat} {y : MethodName} {bytes : ByteArray} {mL : Nat} {rt : Option FieldType} {rm : Room} {argsL rest : List Value} {Q : Option Value → Heap → Prop} {ps : List FieldType} {r : Option FieldType}
    (hd : decode code pc = .ok (.invokestatic index, 3)) (w1 : (Cond.methodLink own index y).before a0 Z = true) (w2 : (Cond.static y).before a0 Z = true) (w3 : (Cond.initialized y.cls).before a0 Z = true) (w4 : (Cond.code y bytes mL rt).before a0 Z = true) (hy : notHandle y)
    (pd : parseMethodDescriptor y.desc = some ⟨ps, r⟩) (hlen : argsL.length = ps.length) (hL : L.size = maxL) (hf : rm.frames + 1 ≤ R.frames) (hl : (rest.map fun v => v.category).sum + (mL + 11) + rm.locals ≤ R.locals) (hc : k + rm.cells ≤ R.cells) (hs : n + rm.slots ≤ R.slots)
    (hM : n0 ≤ h.size → Met l Z n0 y bytes mL rt [] rm argsL.toArray h Q) (w : ∀ v h', Q v h' → W K l R n0 P h' (k + rm.cells) (n + rm.slots) (pc + 3) L (v.toList ++ rest)) : W K l R n0 P h k n pc L (argsL.reverse ++ rest) := by
  obtain ⟨p, e, s, m, args, below, meth, c⟩ := K
  obtain ⟨hx, hZ, hown, hby, hml, hret, hnm, hlk, hn0⟩ := ok
  intro T locs X eT N
  have hM := hM (by rw [← eT]; exact Nat.le_trans hn0 X.same.2.1)
  obtain ⟨v, _, ⟨T1, L1, k1, n1⟩, -, X1, ⟨Lc, ⟨hQ, N1⟩, l1, y1, z1⟩, st⟩ := Jvm.LawKit.callS X hx (y := y) hown (mvT hZ w1) (mvT hZ w2) (mvT hZ w3) (mvT hZ w4) hy (backOf (W := (rest.map fun v => v.category).sum) (Q := fun v h L => Q v h ∧ Fr n0 L) hM hZ w4 w3 hf hl) (g := mkF m pc L (argsL.reverse ++ rest)) rfl (hL.trans hml.symm) (argsL := argsL) (rest := rest) (lenOf pd hlen) rfl (by show 2 * 0 + _ ≤ _; omega) (hb hby hd) (fun _ _ => ⟨rfl, eT, hc, hs⟩)
  dsimp only [Pt.U, Pt.locs, Pt.cells, Pt.slots] at X1 l1 y1 z1 st hQ
  subst l1 y1 z1
  obtain ⟨s₂, o, st2, r2⟩ := w v _ hQ T1 _ X1 rfl (Fr.app N N1)
  exact ⟨s₂, o, st _ st2, r2⟩
theorem pa_z {N : Nat} (q : N < 2 ^ 31) : ∃ z : Int32, N = z.toNatClampNeg ∧ ¬ z < 0 := by
  have e : (Int32.ofNat N).toInt = N := Int32.toInt_ofNat_of_lt q
  refine ⟨Int32.ofNat N, ?_, ?_⟩
  · simp [Int32.toNatClampNeg, e]
  · rw [Int32.lt_iff_toInt_lt, e]; simp
def PA (ty : FieldType) (Z : State) (h : Heap) (a : Addr) (vs : List Value) : Prop := ∃ c : Cell, Arr Z h a c ty ∧ vs.length < 2 ^ 31 ∧ c.slots = vs.toArray ∧ ∀ v ∈ vs, fits ty v = true
theorem pa_in {c : Cell} {vs : List Value} {j : Int32} (q : c.slots = vs.toArray) (h0 : ¬ j < 0) (hj : j.toNatClampNeg < vs.length) : ¬ (j < 0 ∨ c.slots.size ≤ j.toNatClampNeg) := by
  rw [q]; rintro (y | y)
  · exact h0 y
  · simp at y; omega
section PAs
variable {ty : FieldType} {h' : Heap} {a b : Addr} {vs : List Value} {v : Value} {sl : Nat} {ws : List Addr}
theorem PA.lt (A : PA ty Z h a vs) : a < h.size := by obtain ⟨c, A, -⟩ := A; exact A.lt
theorem PA.len (A : PA ty Z h a vs) : vs.length < 2 ^ 31 := by obtain ⟨c, A, q, -⟩ := A; exact q
theorem PA.ext (A : PA ty Z h a vs) (E : Ext h h') : PA ty Z h' a vs := by obtain ⟨c, A, r⟩ := A; exact ⟨c, A.ext E, r⟩
theorem PA.other (A : PA ty Z h b vs) (W1 : Wr h h' a sl v) (ne : b ≠ a) : PA ty Z h' b vs := by obtain ⟨c, A, r⟩ := A; exact ⟨c, A.other W1 ne, r⟩
theorem PA.keep (A : PA ty Z h a vs) (K1 : Keep h h' ws) (q : a ∉ ws) : PA ty Z h' a vs := by obtain ⟨c, A, r⟩ := A; exact ⟨c, ⟨K1.2.1 a c A.1 q, A.2⟩, r⟩
theorem PA.set (A : PA ty Z h a vs) (W1 : Wr h h' a sl v) (hv : fits ty v = true) : PA ty Z h' a (vs.set sl v) := by
  obtain ⟨c, A, hl, hs, hf⟩ := A
  refine ⟨c.setSlot sl v, A.same W1, by rw [List.length_set]; exact hl, ?_, ?_⟩
  · show c.slots.setIfInBounds sl v = _
    rw [hs]; simp
  · intro u hu
    rcases List.mem_or_eq_of_mem_set hu with q | rfl
    · exact hf _ q
    · exact hv
theorem PA.arv (A : PA ty Z h a vs) {z : Int32} (hz : vs.length = z.toNatClampNeg) (hz0 : ¬ z < 0) (d : Value) : ∃ k, Arv Z h a k ty z vs d := by
  obtain ⟨c, A, hl, hs, hf⟩ := A
  refine ⟨c.cls, c, A, rfl, by rw [hs]; simpa using hz, hz0, fun i hi => ?_, fun i hi => ?_⟩
  · rw [hs] at hi ⊢
    simp at hi
    simp [List.getD_eq_getElem?_getD, List.getElem?_eq_getElem hi]
  · rw [hs] at hi
    simp at hi
    rw [List.getD_eq_getElem?_getD, List.getElem?_eq_getElem hi]
    exact hf _ (List.getElem_mem hi)
theorem PA.of_arv {k : ClassId} {z : Int32} {d : Value} (B : Arv Z h a k ty z vs d) (hl : vs.length = z.toNatClampNeg) : PA ty Z h a vs := by
  obtain ⟨c, A, -, S1, N1, H, G⟩ := B
  have e : c.slots = vs.toArray := by
    apply Array.ext_getElem?
    intro i
    by_cases q : i < c.slots.size
    · rw [H i q]
      have q2 : i < vs.length := by omega
      simp [List.getD_eq_getElem?_getD, List.getElem?_eq_getElem q2]
    · rw [Array.getElem?_eq_none (by omega)]
      simp; omega
  refine ⟨c, A, by have := (back32 N1).2; omega, e, fun v hv => ?_⟩
  obtain ⟨i, hi, rfl⟩ := List.getElem_of_mem hv
  have q := G i (by omega)
  rw [List.getD_eq_getElem?_getD, List.getElem?_eq_getElem hi] at q
  exact q
end PAs
theorem w_arraylength (ok : Ok K Z n0 own code maxL ret nm) {ty : FieldType} {a : Addr} {vs : List Value} {z : Int32} (hd : decode code pc = .ok (.arraylength, 1)) (A : PA ty Z h a vs) (hz : vs.length = z.toNatClampNeg) (hz0 : ¬ z < 0) (w : W K l R n0 P h k n (pc + 1) L (.int z :: S)) : W K l R n0 P h k n pc L (.ref a :: S) := by
  obtain ⟨p, e, s, m, args, below, meth, c⟩ := K
  obtain ⟨hx, hZ, hown, hby, -⟩ := ok
  intro T locs X eT N
  obtain ⟨s₂, o, st, r⟩ := w T locs X eT N
  obtain ⟨cl, A, q1, q2, q3⟩ := A
  have e1 : cl.slots.size.toInt32 = z := len_of (by rw [q2]; simpa using hz) hz0
  exact ⟨s₂, o, X.arraylength hx (by rw [eT]; exact A.1) (State.isArrayOf_alike hZ.alike A.2.1) (g := mkF m pc L (.ref a :: S)) rfl rfl (hb hby hd) _ (by rw [e1]; exact st), r⟩
theorem w_newarray (ok : Ok K Z n0 own code maxL ret nm) {aty : ArrayType} {z : Int32} (hd : decode code pc = .ok (.newarray aty, 2)) (w1 : (Cond.arrayClass (newarray.typeOf aty)).before a0 Z = true) (hz : ¬ z < 0) {cap : Nat} (hcap : z.toNatClampNeg ≤ cap) (hb1 : cap * 8 ≤ 536870912) (hc : k + 1 ≤ R.cells) (hl : n + cap ≤ R.slots)
    (w : ∀ h' a, a = h.size → n0 ≤ a → Ext h h' → PA (newarray.typeOf aty) Z h' a (List.replicate z.toNatClampNeg (defaultValue (newarray.typeOf aty))) → W K l R n0 P h' (k + 1) (n + cap) (pc + 2) L (.ref a :: S)) : W K l R n0 P h k n pc L (.int z :: S) := by
  obtain ⟨p, e, s, m, args, below, meth, c⟩ := K
  obtain ⟨hx, hZ, hown, hby, hml, hret, hnm, hlk, hn0⟩ := ok
  intro T locs X eT N
  obtain ⟨T1, h1, cA, X1, e1, E1, A1, st⟩ := newP X hx hZ w1 eT (g := mkF m pc L (.int z :: S)) rfl (hb hby hd) rfl hz hcap hb1 hc hl
  have A2 : PA (newarray.typeOf aty) Z h1 h.size (List.replicate z.toNatClampNeg (defaultValue (newarray.typeOf aty))) := by
    refine ⟨_, A1, by simpa using (back32 hz).2, by simp [newA], fun v hv => ?_⟩
    rw [List.eq_of_mem_replicate hv]
    cases aty <;> rfl
  obtain ⟨s₂, o, st2, r⟩ := w h1 h.size rfl (by rw [← eT]; exact Nat.le_trans hn0 X.same.2.1) E1 A2 T1 _ X1 e1 N
  exact ⟨s₂, o, st _ st2, r⟩
theorem w_arraycopy (ok : Ok K Z n0 own code maxL ret nm) {index : Nat} {ty : FieldType} {a b : Addr} {vs vd : List Value} {sp dp nn : Int32} {sp' dp' nn' : Nat} (hd : decode code pc = .ok (.invokestatic index, 3)) (w1 : (Cond.methodLink own index Jvm.Stand.acN).before a0 Z = true) (w2 : (Cond.native Jvm.Stand.acN).before a0 Z = true) (w3 : (Cond.static Jvm.Stand.acN).before a0 Z = true) (w4 : (Cond.initialized "java/lang/System").before a0 Z = true)
    (A : PA ty Z h a vs) (B : PA ty Z h b vd) (hty : refKind ty = false) (ge : n0 ≤ b) (h1 : ¬ sp < 0) (h2 : ¬ dp < 0) (h3 : ¬ nn < 0) (es : sp.toNatClampNeg = sp') (ed : dp.toNatClampNeg = dp') (en : nn.toNatClampNeg = nn') (h4 : sp' + nn' ≤ vs.length) (h5 : dp' + nn' ≤ vd.length) (hL : L.size = maxL) (hf : 1 ≤ R.frames) (hlo : (S.map fun v => v.category).sum + (nativeFrameWords "java/lang/System" "arraycopy" 5 + 11) ≤ R.locals)
    (w : ∀ h', Keep h h' [b] → PA ty Z h' b (vd.take dp' ++ (vs.drop sp').take nn' ++ vd.drop (dp' + nn')) → W K l R n0 P h' k n (pc + 3) L S) : W K l R n0 P h k n pc L (.int nn :: .int dp :: .ref b :: .int sp :: .ref a :: S) := by
  obtain ⟨p, e, s, m, args, below, meth, c⟩ := K
  obtain ⟨hx, hZ, hown, hby, hml, hret, hnm, hlk, hn0⟩ := ok
  intro T locs X eT N
  subst es ed en
  obtain ⟨z1, hz1, hz2⟩ : ∃ z : Int32, vs.length = z.toNatClampNeg ∧ ¬ z < 0 := pa_z A.len
  obtain ⟨z3, hz3, hz4⟩ : ∃ z : Int32, vd.length = z.toNatClampNeg ∧ ¬ z < 0 := pa_z B.len
  obtain ⟨k1, A1⟩ := A.arv hz1 hz2 .null
  obtain ⟨k2, B1⟩ := B.arv hz3 hz4 .null
  obtain ⟨T1, h1', L1, X1, e1, N1, K1, B2, st⟩ := cpA X hx hZ hown w1 w2 w3 w4 eT A1 B1 (Or.inl ⟨rfl, hty⟩) h1 h2 h3 (by omega) (by omega) rfl h5 N ge (g := mkF m pc L (.int nn :: .int dp :: .ref b :: .int sp :: .ref a :: S)) rfl (hL.trans hml.symm) rfl (hb hby hd) hf (W := (S.map fun v => v.category).sum) (by show 2 * 0 + _ ≤ _; omega) hlo
  have e2 : ((List.range nn.toNatClampNeg).map fun i => vs.getD (sp.toNatClampNeg + i) Value.null) = (vs.drop sp.toNatClampNeg).take nn.toNatClampNeg := by
    apply List.ext_getElem
    · simp; omega
    · intro i q1 q2
      simp at q1
      simp [List.getD_eq_getElem?_getD, List.getElem?_eq_getElem (show sp.toNatClampNeg + i < vs.length by omega)]
  rw [e2] at B2
  obtain ⟨s₂, o, st2, r⟩ := w h1' K1 (PA.of_arv B2 (by simp; omega)) T1 _ X1 e1 N1
  exact ⟨s₂, o, st _ st2, r⟩
theorem w_iaload (ok : Ok K Z n0 own code maxL ret nm) {a : Addr} {vs : List Value} {j : Int32} {v : Value} (hd : decode code pc = .ok (.iaload, 1)) (A : PA .int Z h a vs) (h0 : ¬ j < 0) (hj : vs[j.toNatClampNeg]? = some v) (w : W K l R n0 P h k n (pc + 1) L (v :: S)) : W K l R n0 P h k n pc L (.int j :: .ref a :: S) := by
  obtain ⟨p, e, s, m, args, below, meth, c⟩ := K
  obtain ⟨hx, hZ, hown, hby, -⟩ := ok
  intro T locs X eT N
  obtain ⟨s₂, o, st, r⟩ := w T locs X eT N
  obtain ⟨cl, A, q1, q2, q3⟩ := A
  exact ⟨s₂, o, X.iaload hx (j := j) (v := v) (by rw [eT]; exact A.1) (State.isArrayOf_alike hZ.alike A.2.1) A.2.2 (pa_in q2 h0 (List.getElem?_eq_some_iff.mp hj).1) (by rw [q2]; simpa using hj) (g := mkF m pc L (.int j :: .ref a :: S)) rfl rfl (hb hby hd) _ st, r⟩
theorem w_laload (ok : Ok K Z n0 own code maxL ret nm) {a : Addr} {vs : List Value} {j : Int32} {v : Value} (hd : decode code pc = .ok (.laload, 1)) (A : PA .long Z h a vs) (h0 : ¬ j < 0) (hj : vs[j.toNatClampNeg]? = some v) (w : W K l R n0 P h k n (pc + 1) L (v :: S)) : W K l R n0 P h k n pc L (.int j :: .ref a :: S) := by
  obtain ⟨p, e, s, m, args, below, meth, c⟩ := K
  obtain ⟨hx, hZ, hown, hby, -⟩ := ok
  intro T locs X eT N
  obtain ⟨s₂, o, st, r⟩ := w T locs X eT N
  obtain ⟨cl, A, q1, q2, q3⟩ := A
  exact ⟨s₂, o, X.laload hx (j := j) (v := v) (by rw [eT]; exact A.1) (State.isArrayOf_alike hZ.alike A.2.1) A.2.2 (pa_in q2 h0 (List.getElem?_eq_some_iff.mp hj).1) (by rw [q2]; simpa using hj) (g := mkF m pc L (.int j :: .ref a :: S)) rfl rfl (hb hby hd) _ st, r⟩
theorem w_caload (ok : Ok K Z n0 own code maxL ret nm) {a : Addr} {vs : List Value} {j : Int32} {v : Value} (hd : decode code pc = .ok (.caload, 1)) (A : PA .char Z h a vs) (h0 : ¬ j < 0) (hj : vs[j.toNatClampNeg]? = some v) (w : W K l R n0 P h k n (pc + 1) L (v :: S)) : W K l R n0 P h k n pc L (.int j :: .ref a :: S) := by
  obtain ⟨p, e, s, m, args, below, meth, c⟩ := K
  obtain ⟨hx, hZ, hown, hby, -⟩ := ok
  intro T locs X eT N
  obtain ⟨s₂, o, st, r⟩ := w T locs X eT N
  obtain ⟨cl, A, q1, q2, q3⟩ := A
  exact ⟨s₂, o, X.caload hx (j := j) (v := v) (by rw [eT]; exact A.1) (State.isArrayOf_alike hZ.alike A.2.1) A.2.2 (pa_in q2 h0 (List.getElem?_eq_some_iff.mp hj).1) (by rw [q2]; simpa using hj) (g := mkF m pc L (.int j :: .ref a :: S)) rfl rfl (hb hby hd) _ st, r⟩
theorem w_baload (ok : Ok K Z n0 own code maxL ret nm) {a : Addr} {vs : List Value} {j : Int32} {v : Value} (hd : decode code pc = .ok (.baload, 1)) (A : PA .byte Z h a vs) (h0 : ¬ j < 0) (hj : vs[j.toNatClampNeg]? = some v) (w : W K l R n0 P h k n (pc + 1) L (v :: S)) : W K l R n0 P h k n pc L (.int j :: .ref a :: S) := by
  obtain ⟨p, e, s, m, args, below, meth, c⟩ := K
  obtain ⟨hx, hZ, hown, hby, -⟩ := ok
  intro T locs X eT N
  obtain ⟨s₂, o, st, r⟩ := w T locs X eT N
  obtain ⟨cl, A, q1, q2, q3⟩ := A
  exact ⟨s₂, o, X.baloadBytes hx (j := j) (v := v) (by rw [eT]; exact A.1) (State.isArrayOf_alike hZ.alike A.2.1) A.2.2 (pa_in q2 h0 (List.getElem?_eq_some_iff.mp hj).1) (by rw [q2]; simpa using hj) (g := mkF m pc L (.int j :: .ref a :: S)) rfl rfl (hb hby hd) _ st, r⟩
theorem w_zaload (ok : Ok K Z n0 own code maxL ret nm) {a : Addr} {vs : List Value} {j : Int32} {v : Value} (hd : decode code pc = .ok (.baload, 1)) (A : PA .boolean Z h a vs) (h0 : ¬ j < 0) (hj : vs[j.toNatClampNeg]? = some v) (w : W K l R n0 P h k n (pc + 1) L (v :: S)) : W K l R n0 P h k n pc L (.int j :: .ref a :: S) := by
  obtain ⟨p, e, s, m, args, below, meth, c⟩ := K
  obtain ⟨hx, hZ, hown, hby, -⟩ := ok
  intro T locs X eT N
  obtain ⟨s₂, o, st, r⟩ := w T locs X eT N
  obtain ⟨cl, A, q1, q2, q3⟩ := A
  exact ⟨s₂, o, X.baloadBooleans hx (j := j) (v := v) (by rw [eT]; exact A.1) (State.isArrayOf_alike hZ.alike A.2.1) A.2.2 (pa_in q2 h0 (List.getElem?_eq_some_iff.mp hj).1) (by rw [q2]; simpa using hj) (g := mkF m pc L (.int j :: .ref a :: S)) rfl rfl (hb hby hd) _ st, r⟩
theorem w_aaload (ok : Ok K Z n0 own code maxL ret nm) {ty : FieldType} {a : Addr} {vs : List Value} {j : Int32} {v : Value} (hd : decode code pc = .ok (.aaload, 1)) (A : PA ty Z h a vs) (ht : ty.isReference = true) (h0 : ¬ j < 0) (hj : vs[j.toNatClampNeg]? = some v) (w : W K l R n0 P h k n (pc + 1) L (v :: S)) : W K l R n0 P h k n pc L (.int j :: .ref a :: S) := by
  obtain ⟨p, e, s, m, args, below, meth, c⟩ := K
  obtain ⟨hx, hZ, hown, hby, -⟩ := ok
  intro T locs X eT N
  obtain ⟨s₂, o, st, r⟩ := w T locs X eT N
  obtain ⟨cl, A, q1, q2, q3⟩ := A
  exact ⟨s₂, o, X.aaload hx (j := j) (v := v) (by rw [eT]; exact A.1) (State.isArrayOf_alike hZ.alike A.2.1) ht A.2.2 (pa_in q2 h0 (List.getElem?_eq_some_iff.mp hj).1) (by rw [q2]; simpa using hj) (g := mkF m pc L (.int j :: .ref a :: S)) rfl rfl (hb hby hd) _ st, r⟩
theorem w_iastore (ok : Ok K Z n0 own code maxL ret nm) {a : Addr} {vs : List Value} {j : Int32} {x : Int32} (hd : decode code pc = .ok (.iastore, 1)) (A : PA .int Z h a vs) (ge : n0 ≤ a) (h0 : ¬ j < 0) (hj : j.toNatClampNeg < vs.length) (w : ∀ h', Wr h h' a j.toNatClampNeg (.int x) → PA .int Z h' a (vs.set j.toNatClampNeg (.int x)) → W K l R n0 P h' k n (pc + 1) L S) : W K l R n0 P h k n pc L (.int x :: .int j :: .ref a :: S) := by
  obtain ⟨p, e, s, m, args, below, meth, c⟩ := K
  obtain ⟨hx, hZ, hown, hby, -⟩ := ok
  intro T locs X eT N
  have A0 := A
  obtain ⟨cl, A, q1, q2, q3⟩ := A
  obtain ⟨T1, h1, X1, e1, W1, st⟩ := stI X hx hZ eT A (j := j) (pa_in q2 h0 hj) (g := mkF m pc L (.int x :: .int j :: .ref a :: S)) rfl rfl (hb hby hd)
  obtain ⟨s₂, o, st2, r⟩ := w h1 W1 (A0.set W1 rfl) T1 _ X1 e1 (Fr.snoc X1 N ge)
  exact ⟨s₂, o, st _ st2, r⟩
theorem w_lastore (ok : Ok K Z n0 own code maxL ret nm) {a : Addr} {vs : List Value} {j : Int32} {x : Int64} (hd : decode code pc = .ok (.lastore, 1)) (A : PA .long Z h a vs) (ge : n0 ≤ a) (h0 : ¬ j < 0) (hj : j.toNatClampNeg < vs.length) (w : ∀ h', Wr h h' a j.toNatClampNeg (.long x) → PA .long Z h' a (vs.set j.toNatClampNeg (.long x)) → W K l R n0 P h' k n (pc + 1) L S) : W K l R n0 P h k n pc L (.long x :: .int j :: .ref a :: S) := by
  obtain ⟨p, e, s, m, args, below, meth, c⟩ := K
  obtain ⟨hx, hZ, hown, hby, -⟩ := ok
  intro T locs X eT N
  have A0 := A
  obtain ⟨cl, A, q1, q2, q3⟩ := A
  obtain ⟨T1, h1, X1, e1, W1, st⟩ := stJ X hx hZ eT A (j := j) (pa_in q2 h0 hj) (g := mkF m pc L (.long x :: .int j :: .ref a :: S)) rfl rfl (hb hby hd)
  obtain ⟨s₂, o, st2, r⟩ := w h1 W1 (A0.set W1 rfl) T1 _ X1 e1 (Fr.snoc X1 N ge)
  exact ⟨s₂, o, st _ st2, r⟩
theorem w_castore (ok : Ok K Z n0 own code maxL ret nm) {a : Addr} {vs : List Value} {j : Int32} {x : Int32} (hd : decode code pc = .ok (.castore, 1)) (A : PA .char Z h a vs) (ge : n0 ≤ a) (h0 : ¬ j < 0) (hj : j.toNatClampNeg < vs.length) (w : ∀ h', Wr h h' a j.toNatClampNeg (.int (nar .char x)) → PA .char Z h' a (vs.set j.toNatClampNeg (.int (nar .char x))) → W K l R n0 P h' k n (pc + 1) L S) : W K l R n0 P h k n pc L (.int x :: .int j :: .ref a :: S) := by
  obtain ⟨p, e, s, m, args, below, meth, c⟩ := K
  obtain ⟨hx, hZ, hown, hby, -⟩ := ok
  intro T locs X eT N
  have A0 := A
  obtain ⟨cl, A, q1, q2, q3⟩ := A
  obtain ⟨T1, h1, X1, e1, W1, st⟩ := stC X hx hZ eT A (j := j) (pa_in q2 h0 hj) (g := mkF m pc L (.int x :: .int j :: .ref a :: S)) rfl rfl (hb hby hd)
  obtain ⟨s₂, o, st2, r⟩ := w h1 W1 (A0.set W1 (fits_nar_char x)) T1 _ X1 e1 (Fr.snoc X1 N ge)
  exact ⟨s₂, o, st _ st2, r⟩
theorem w_bastore (ok : Ok K Z n0 own code maxL ret nm) {a : Addr} {vs : List Value} {j : Int32} {x : Int32} (hd : decode code pc = .ok (.bastore, 1)) (A : PA .byte Z h a vs) (ge : n0 ≤ a) (h0 : ¬ j < 0) (hj : j.toNatClampNeg < vs.length) (w : ∀ h', Wr h h' a j.toNatClampNeg (.int (nar .byte x)) → PA .byte Z h' a (vs.set j.toNatClampNeg (.int (nar .byte x))) → W K l R n0 P h' k n (pc + 1) L S) : W K l R n0 P h k n pc L (.int x :: .int j :: .ref a :: S) := by
  obtain ⟨p, e, s, m, args, below, meth, c⟩ := K
  obtain ⟨hx, hZ, hown, hby, -⟩ := ok
  intro T locs X eT N
  have A0 := A
  obtain ⟨cl, A, q1, q2, q3⟩ := A
  obtain ⟨T1, h1, X1, e1, W1, st⟩ := stB X hx hZ eT A (j := j) (pa_in q2 h0 hj) (g := mkF m pc L (.int x :: .int j :: .ref a :: S)) rfl rfl (hb hby hd)
  obtain ⟨s₂, o, st2, r⟩ := w h1 W1 (A0.set W1 (fits_nar_byte x)) T1 _ X1 e1 (Fr.snoc X1 N ge)
  exact ⟨s₂, o, st _ st2, r⟩
theorem w_zastore (ok : Ok K Z n0 own code maxL ret nm) {a : Addr} {vs : List Value} {j : Int32} {x : Int32} (hd : decode code pc = .ok (.bastore, 1)) (A : PA .boolean Z h a vs) (ge : n0 ≤ a) (h0 : ¬ j < 0) (hj : j.toNatClampNeg < vs.length) (w : ∀ h', Wr h h' a j.toNatClampNeg (.int (nar .boolean x)) → PA .boolean Z h' a (vs.set j.toNatClampNeg (.int (nar .boolean x))) → W K l R n0 P h' k n (pc + 1) L S) : W K l R n0 P h k n pc L (.int x :: .int j :: .ref a :: S) := by
  obtain ⟨p, e, s, m, args, below, meth, c⟩ := K
  obtain ⟨hx, hZ, hown, hby, -⟩ := ok
  intro T locs X eT N
  have A0 := A
  obtain ⟨cl, A, q1, q2, q3⟩ := A
  obtain ⟨T1, h1, X1, e1, W1, st⟩ := stZ X hx hZ eT A (j := j) (pa_in q2 h0 hj) (g := mkF m pc L (.int x :: .int j :: .ref a :: S)) rfl rfl (hb hby hd)
  obtain ⟨s₂, o, st2, r⟩ := w h1 W1 (A0.set W1 (fits_nar_bool x)) T1 _ X1 e1 (Fr.snoc X1 N ge)
  exact ⟨s₂, o, st _ st2, r⟩
/-! objects -/
abbrev Fl := List (String × String × String × FieldType)
def Ob (Z : State) (h : Heap) (a : Addr) (C : String) (fl : Fl) (vals : List Value) : Prop := Exa Z h a C ∧ ∀ (i : Nat) f v, fl[i]? = some f → vals[i]? = some v → Fld Z h a f.1 f.2.1 f.2.2.1 v
def LA (Z : State) (a0 : Array Value) (C : String) (fl : Fl) : Prop := (∀ f ∈ fl, Laid Z a0 C f.1 f.2.1 f.2.2.1 ∧ parseFieldDescriptor f.2.2.1 = some f.2.2.2) ∧ (fl.map (·.2.1)).Nodup
section Obs
variable {h' : Heap} {a b : Addr} {C : String} {fl : Fl} {vals : List Value} {v : Value} {sl : Nat} {ws : List Addr}
theorem Ob.lt (O : Ob Z h a C fl vals) : a < h.size := O.1.lt
theorem Ob.ext (O : Ob Z h a C fl vals) (E : Ext h h') : Ob Z h' a C fl vals := ⟨O.1.ext E, fun i f v q r => (O.2 i f v q r).ext E⟩
theorem Ob.other (O : Ob Z h b C fl vals) (W1 : Wr h h' a sl v) (ne : b ≠ a) : Ob Z h' b C fl vals := ⟨O.1.wr W1, fun i f v q r => (O.2 i f v q r).other W1 (Or.inl ne)⟩
theorem Ob.keep (O : Ob Z h a C fl vals) (K1 : Keep h h' ws) (q : a ∉ ws) : Ob Z h' a C fl vals := ⟨O.1.keep K1, fun i f v r r' => (O.2 i f v r r').keep K1 q⟩
theorem Ob.put (O : Ob Z h a C fl vals) (LAs : LA Z a0 C fl) {i : Nat} {f : String × String × String × FieldType} {u : Value} (hf : fl[i]? = some f) (hv : vals[i]? = some u) (W1 : Wr h h' a (Jvm.RoadKit.slotOf Z f.1 f.2.1 f.2.2.1) v) : Ob Z h' a C fl (vals.set i v) := by
  refine ⟨O.1.wr W1, fun j g w hg hw => ?_⟩
  by_cases e : i = j
  · subst e
    cases hf.symm.trans hg
    rw [List.getElem?_set_self (List.getElem?_eq_some_iff.mp hv).1] at hw
    cases hw
    exact (O.2 i f u hf hv).same W1
  · rw [List.getElem?_set_ne e] at hw
    refine (O.2 j g w hg hw).other W1 (Or.inr ?_)
    have m1 := LAs.1 f (List.mem_of_getElem? hf)
    have m2 := LAs.1 g (List.mem_of_getElem? hg)
    refine slot_ne m2.1 m1.1 (fun q => e ?_) m2.2 m1.2
    have hi := (List.getElem?_eq_some_iff.mp hf)
    have hj := (List.getElem?_eq_some_iff.mp hg)
    have nd := LAs.2
    have q1 : (fl.map (·.2.1))[i]? = some f.2.1 := by simp [hf]
    have q2 : (fl.map (·.2.1))[j]? = some f.2.1 := by simp [hg, q]
    exact (List.getElem?_inj (by simpa using hi.1) nd).mp (q1.trans q2.symm)
end Obs
theorem w_getfield (ok : Ok K Z n0 own code maxL ret nm) {index : Nat} {a : Addr} {C R0 host : String} {fl : Fl} {vals : List Value} {v : Value} {f : String × String × String × FieldType} (i : Nat) (hd : decode code pc = .ok (.getfield index, 3)) (w1 : (Cond.fieldLink own index R0 f.2.1 f.2.2.1).before a0 Z = true ∨ (Cond.fieldLinkNest own index R0 f.2.1 f.2.2.1 host).before a0 Z = true) (via : Via Z R0 f.1 f.2.1 f.2.2.1) (O : Ob Z h a C fl vals) (hf : fl[i]? = some f) (hv : vals[i]? = some v)
    (w : W K l R n0 P h k n (pc + 3) L (v :: S)) : W K l R n0 P h k n pc L (.ref a :: S) := by
  obtain ⟨p, e, s, m, args, below, meth, c⟩ := K
  obtain ⟨hx, hZ, hown, hby, -⟩ := ok
  intro T locs X eT N
  obtain ⟨T1, X1, e1, st⟩ := getF X hx hZ hown w1 via eT (O.2 i f v hf hv) (g := mkF m pc L (.ref a :: S)) rfl rfl (hb hby hd)
  obtain ⟨s₂, o, st2, r⟩ := w T1 locs X1 e1 N
  exact ⟨s₂, o, st _ st2, r⟩
theorem w_putfield (ok : Ok K Z n0 own code maxL ret nm) {index kk : Nat} {a : Addr} {C R0 host : String} {fl : Fl} {vals : List Value} {v u : Value} {f : String × String × String × FieldType} (i : Nat) (hd : decode code pc = .ok (.putfield index, 3)) (w1 : (Cond.fieldLink own index R0 f.2.1 f.2.2.1).before a0 Z = true ∨ (Cond.fieldLinkNest own index R0 f.2.1 f.2.2.1 host).before a0 Z = true) (via : Via Z R0 f.1 f.2.1 f.2.2.1) (O : Ob Z h a C fl vals) (LAs : LA Z a0 C fl) (hf : fl[i]? = some f) (hv : vals[i]? = some u)
    (w2 : (Cond.lays C f.1 f.2.1 f.2.2.1).before a0 Z = true ∨ ((Cond.laysFinal C f.1 f.2.1 f.2.2.1).before a0 Z = true ∧ own = f.1 ∧ nm = "<init>")) (w3 : (Cond.instantiable C kk).before a0 Z = true) (hn : narrow f.2.2.2 v = v) (hfit : fits f.2.2.2 v = true) (ge : n0 ≤ a)
    (w : ∀ h', Wr h h' a (Jvm.RoadKit.slotOf Z f.1 f.2.1 f.2.2.1) v → Ob Z h' a C fl (vals.set i v) → W K l R n0 P h' k n (pc + 3) L S) : W K l R n0 P h k n pc L (v :: .ref a :: S) := by
  obtain ⟨p, e, s, m, args, below, meth, c⟩ := K
  obtain ⟨hx, hZ, hown, hby, hml, hret, hnm, hlk, hn0⟩ := ok
  intro T locs X eT N
  obtain ⟨T1, h1, X1, e1, W1, st⟩ := putF X hx hZ hown w1 via eT (O.2 i f u hf hv) O.1 (w2.imp id fun q => ⟨q.1, q.2.1, hnm.trans q.2.2⟩) w3 (LAs.1 f (List.mem_of_getElem? hf)).2 hn hfit (g := mkF m pc L (v :: .ref a :: S)) rfl rfl (hb hby hd)
  obtain ⟨s₂, o, st2, r⟩ := w h1 W1 (O.put LAs hf hv W1) T1 _ X1 e1 (Fr.snoc X1 N ge)
  exact ⟨s₂, o, st _ st2, r⟩
theorem w_new (ok : Ok K Z n0 own code maxL ret nm) {index kk : Nat} {C : String} {fl : Fl} (hd : decode code pc = .ok (.new index, 3)) (w1 : (Cond.classLink own index C).before a0 Z = true) (w2 : (Cond.instantiable C kk).before a0 Z = true) (w3 : (Cond.initialized C).before a0 Z = true) (LAs : LA Z a0 C fl) (hc : k + 1 ≤ R.cells) (hl : n + kk ≤ R.slots)
    (w : ∀ h' a, a = h.size → n0 ≤ a → Ext h h' → Ob Z h' a C fl (fl.map fun f => defaultValue f.2.2.2) → W K l R n0 P h' (k + 1) (n + kk) (pc + 3) L (.ref a :: S)) : W K l R n0 P h k n pc L S := by
  obtain ⟨p, e, s, m, args, below, meth, c⟩ := K
  obtain ⟨hx, hZ, hown, hby, hml, hret, hnm, hlk, hn0⟩ := ok
  intro T locs X eT N
  obtain ⟨T1, h1, X1, e1, E1, A1, D1, -, st⟩ := newO X hx hZ hown w1 w2 w3 eT (g := mkF m pc L S) rfl (hb hby hd) hc hl
  obtain ⟨s₂, o, st2, r⟩ := w h1 h.size rfl (by rw [← eT]; exact Nat.le_trans hn0 X.same.2.1) E1 ⟨A1, fun i f v hf hv => by
    simp [hf] at hv; subst hv
    exact D1 (LAs.1 f (List.mem_of_getElem? hf)).1 (LAs.1 f (List.mem_of_getElem? hf)).2⟩ T1 _ X1 e1 N
  exact ⟨s₂, o, st _ st2, r⟩
theorem w_initO (ok : Ok K Z n0 own code maxL ret nm) {index : Nat} {a : Addr} (hd : decode code pc = .ok (.invokespecial index, 3)) (w1 : (Cond.methodLink own index Lib.objectInit).before a0 Z = true) (w2 : (Cond.instanceMethod Lib.objectInit).before a0 Z = true) (w3 : (Cond.code Lib.objectInit ⟨#[0xb1]⟩ 1 none).before a0 Z = true) (hL : L.size = maxL) (hf : 1 ≤ R.frames) (hl : (S.map fun v => v.category).sum + 12 ≤ R.locals)
    (w : W K l R n0 P h k n (pc + 3) L S) : W K l R n0 P h k n pc L (.ref a :: S) := by
  obtain ⟨p, e, s, m, args, below, meth, c⟩ := K
  obtain ⟨hx, hZ, hown, hby, hml, hret, hnm, hlk, hn0⟩ := ok
  intro T locs X eT N
  obtain ⟨T1, X1, e1, st⟩ := initO X hx hZ hown w1 w2 w3 eT (g := mkF m pc L (.ref a :: S)) rfl (hL.trans hml.symm) rfl (hb hby hd) hf (W := (S.map fun v => v.category).sum) (by show 2 * 0 + _ ≤ _; omega) hl
  obtain ⟨s₂, o, st2, r⟩ := w T1 locs X1 e1 N
  exact ⟨s₂, o, st _ st2, r⟩
theorem w_callI (ok : Ok K Z n0 own code maxL ret nm) {index : Nat} {y : MethodName} {bytes : ByteArray} {mL : Nat} {rm : Room} {a : Addr} {argsL rest : List Value} {Q : Option Value → Heap → Prop} {ps : List FieldType} {r : Option FieldType}
    (hd : decode code pc = .ok (.invokespecial index, 3)) (hy1 : y.name = "<init>") (w1 : (Cond.methodLink own index y).before a0 Z = true) (w2 : (Cond.instanceMethod y).before a0 Z = true) (w3 : (Cond.initialized y.cls).before a0 Z = true) (w4 : (Cond.code y bytes mL none).before a0 Z = true) (hy : notHandle y)
    (pd : parseMethodDescriptor y.desc = some ⟨ps, r⟩) (hlen : argsL.length = ps.length) (hL : L.size = maxL) (hf : rm.frames + 1 ≤ R.frames) (hl : (rest.map fun v => v.category).sum + (mL + 11) + rm.locals ≤ R.locals) (hc : k + rm.cells ≤ R.cells) (hs : n + rm.slots ≤ R.slots)
    (hM : n0 ≤ h.size → Met l Z n0 y bytes mL none [] rm (.ref a :: argsL).toArray h Q) (w : ∀ v h', Q v h' → W K l R n0 P h' (k + rm.cells) (n + rm.slots) (pc + 3) L (v.toList ++ rest)) : W K l R n0 P h k n pc L (argsL.reverse ++ .ref a :: rest) := by
  obtain ⟨p, e, s, m, args, below, meth, c⟩ := K
  obtain ⟨hx, hZ, hown, hby, hml, hret, hnm, hlk, hn0⟩ := ok
  intro T locs X eT N
  have hM := hM (by rw [← eT]; exact Nat.le_trans hn0 X.same.2.1)
  obtain ⟨v, _, ⟨T1, L1, k1, n1⟩, -, X1, ⟨Lc, ⟨hQ, N1⟩, l1, y1, z1⟩, st⟩ := X.specialBack hx (y := y) hy1 hown (mvT hZ w1) (mvT hZ w2) (mvT hZ w4) hy (backOf (W := (rest.map fun v => v.category).sum) (Q := fun v h L => Q v h ∧ Fr n0 L) hM hZ w4 w3 hf hl) (g := mkF m pc L (argsL.reverse ++ .ref a :: rest)) rfl (hL.trans hml.symm) (Steps.refl _) (a := a) (argsL := argsL) (rest := rest) (lenOf pd hlen) rfl (by show 2 * 0 + _ ≤ _; omega) (hb hby hd) (fun _ _ => ⟨rfl, eT, hc, hs⟩)
  dsimp only [Pt.U, Pt.locs, Pt.cells, Pt.slots] at X1 l1 y1 z1 st hQ
  subst l1 y1 z1
  obtain ⟨s₂, o, st2, r2⟩ := w v _ hQ T1 _ X1 rfl (Fr.app N N1)
  exact ⟨s₂, o, st.trans st2, r2⟩
theorem w_callV (ok : Ok K Z n0 own code maxL ret nm) {index : Nat} {C : String} {y : MethodName} {bytes : ByteArray} {mL : Nat} {rt : Option FieldType} {rm : Room} {a : Addr} {argsL rest : List Value} {Q : Option Value → Heap → Prop} {ps : List FieldType} {r : Option FieldType}
    (hd : decode code pc = .ok (.invokevirtual index, 3)) (w1 : (Cond.methodLink own index y).before a0 Z = true) (w2 : (Cond.declares y).before a0 Z = true) (w3 : (Cond.selects C y y).before a0 Z = true) (w4 : (Cond.instanceMethod y).before a0 Z = true) (w5 : (Cond.initialized y.cls).before a0 Z = true) (w6 : (Cond.code y bytes mL rt).before a0 Z = true) (hy : notHandle y)
    (E : Exa Z h a C) (pd : parseMethodDescriptor y.desc = some ⟨ps, r⟩) (hlen : argsL.length = ps.length) (hL : L.size = maxL) (hf : rm.frames + 1 ≤ R.frames) (hl : (rest.map fun v => v.category).sum + (mL + 11) + rm.locals ≤ R.locals) (hc : k + rm.cells ≤ R.cells) (hs : n + rm.slots ≤ R.slots)
    (hM : n0 ≤ h.size → Met l Z n0 y bytes mL rt [] rm (.ref a :: argsL).toArray h Q) (w : ∀ v h', Q v h' → W K l R n0 P h' (k + rm.cells) (n + rm.slots) (pc + 3) L (v.toList ++ rest)) : W K l R n0 P h k n pc L (argsL.reverse ++ .ref a :: rest) := by
  obtain ⟨p, e, s, m, args, below, meth, c⟩ := K
  obtain ⟨hx, hZ, hown, hby, hml, hret, hnm, hlk, hn0⟩ := ok
  intro T locs X eT N
  have hM := hM (by rw [← eT]; exact Nat.le_trans hn0 X.same.2.1)
  obtain ⟨cq, kq, qa, qb, qc⟩ := isOf hZ eT E
  obtain ⟨v, _, ⟨T1, L1, k1, n1⟩, -, X1, ⟨Lc, ⟨hQ, N1⟩, l1, y1, z1⟩, st⟩ := X.virtualBack hx (y := y) (z := y) hown (mvT hZ w1) (mvT hZ w2) (notFace_of_selects (args := #[]) (mvT hZ w3)) (mvT hZ w3) (mvT hZ w4) hy (backOf (W := (rest.map fun v => v.category).sum) (Q := fun v h L => Q v h ∧ Fr n0 L) hM hZ w6 w5 hf hl) qa qc (g := mkF m pc L (argsL.reverse ++ .ref a :: rest)) rfl (hL.trans hml.symm) (Steps.refl _) (argsL := argsL) (rest := rest) (lenOf pd hlen) rfl (by show 2 * 0 + _ ≤ _; omega) (hb hby hd) (fun _ _ => ⟨rfl, eT, hc, hs⟩)
  dsimp only [Pt.U, Pt.locs, Pt.cells, Pt.slots] at X1 l1 y1 z1 st hQ
  subst l1 y1 z1
  obtain ⟨s₂, o, st2, r2⟩ := w v _ hQ T1 _ X1 rfl (Fr.app N N1)
  exact ⟨s₂, o, st.trans st2, r2⟩
theorem w_callP (ok : Ok K Z n0 own code maxL ret nm) {index kk : Nat} {y : MethodName} {bytes : ByteArray} {mL : Nat} {rt : Option FieldType} {rm : Room} {a : Addr} {argsL rest : List Value} {Q : Option Value → Heap → Prop} {ps : List FieldType} {r : Option FieldType}
    (hd : decode code pc = .ok (.invokevirtual index, 3)) (w1 : (Cond.methodLink own index y).before a0 Z = true) (w2 : (Cond.instanceMethod y).before a0 Z = true) (w3 : (Cond.privateMethod y).before a0 Z = true) (w4 : (Cond.instantiable y.cls kk).before a0 Z = true) (w5 : (Cond.initialized y.cls).before a0 Z = true) (w6 : (Cond.code y bytes mL rt).before a0 Z = true) (hy : notHandle y)
    (E : Exa Z h a y.cls) (pd : parseMethodDescriptor y.desc = some ⟨ps, r⟩) (hlen : argsL.length = ps.length) (hL : L.size = maxL) (hf : rm.frames + 1 ≤ R.frames) (hl : (rest.map fun v => v.category).sum + (mL + 11) + rm.locals ≤ R.locals) (hc : k + rm.cells ≤ R.cells) (hs : n + rm.slots ≤ R.slots)
    (hM : n0 ≤ h.size → Met l Z n0 y bytes mL rt [] rm (.ref a :: argsL).toArray h Q) (w : ∀ v h', Q v h' → W K l R n0 P h' (k + rm.cells) (n + rm.slots) (pc + 3) L (v.toList ++ rest)) : W K l R n0 P h k n pc L (argsL.reverse ++ .ref a :: rest) := by
  obtain ⟨p, e, s, m, args, below, meth, c⟩ := K
  obtain ⟨hx, hZ, hown, hby, hml, hret, hnm, hlk, hn0⟩ := ok
  intro T locs X eT N
  have hM := hM (by rw [← eT]; exact Nat.le_trans hn0 X.same.2.1)
  have hP : s.PrivateAt y := Cond.privateMethod_at (mvP hZ w3 (args := #[]))
  obtain ⟨ci, ki, i1, i2, i3, i4, -⟩ := Cond.instantiable_spec (mvT (args := args) hZ w4)
  have hni : ki.isInterface = false := by
    cases q : ki.isInterface
    · rfl
    · rw [q] at i4; cases i4
  have hsel := selects_self_of_private (args := args) i1 i2 hni hP (mvT hZ w2) hy
  obtain ⟨cell, hcell, hobj⟩ := E.cell
  obtain ⟨v, _, ⟨T1, L1, k1, n1⟩, -, X1, ⟨Lc, ⟨hQ, N1⟩, l1, y1, z1⟩, st⟩ := X.privateBack hx (y := y) hown (mvT hZ w1) (mvT hZ w2) hsel hP (mvT hZ w6) hy (backOf (W := (rest.map fun v => v.category).sum) (Q := fun v h L => Q v h ∧ Fr n0 L) hM hZ w6 w5 hf hl) (g := mkF m pc L (argsL.reverse ++ .ref a :: rest)) rfl (hL.trans hml.symm) (Steps.refl _) (a := a) (by rw [eT]; exact hcell) hobj (argsL := argsL) (rest := rest) (lenOf pd hlen) rfl (by show 2 * 0 + _ ≤ _; omega) (hb hby hd) (fun _ _ => ⟨rfl, eT, hc, hs⟩)
  dsimp only [Pt.U, Pt.locs, Pt.cells, Pt.slots] at X1 l1 y1 z1 st hQ
  subst l1 y1 z1
  obtain ⟨s₂, o, st2, r2⟩ := w v _ hQ T1 _ X1 rfl (Fr.app N N1)
  exact ⟨s₂, o, st.trans st2, r2⟩
theorem frame_fin {s u : State} {L L' : List Loc} {v : Option Value} {c c' n n' : Nat} (hq : FrameEnd s (.returned v) u L c n) (N : Fr s.heap.size L) (h1 : c ≤ c') (h2 : n ≤ n') : FrameEnd s (.returned v) u L' c' n' :=
  ⟨hq.1, hq.2.1, (hq.2.2.sift fun y hy => Or.inr (N y hy)).mono h1 h2⟩
end S
end Jvm.OwnKit
namespace Jvm.Pilot.@@N@@
open Jvm Jvm.ClassFile Sem Op Lib Jvm.Free Jvm.Stand Jvm.LawKit Jvm.RoadKit Bundle Jvm.OwnKit Jvm.Pilot.@@N@@.Jvm.D
abbrev fl_IntList : Fl := [("com/example/perx/perx/index/IntList", "values", "[I", (.array .int)), ("com/example/perx/perx/index/IntList", "size", "I", .int)]
theorem la_IntList {Z : State} {a0 : Array Value} (hw : ∀ d ∈ tables_1, d.before a0 Z = true) : LA Z a0 "com/example/perx/perx/index/IntList" fl_IntList := by
  refine ⟨fun f hf => ?_, by decide⟩
  simp only [fl_IntList, List.mem_cons, List.not_mem_nil, or_false] at hf
  rcases hf with rfl | rfl
  · exact ⟨Or.inl (hw _ (List.mem_of_getElem? (i := 12) rfl)), by decide⟩
  · exact ⟨Or.inl (hw _ (List.mem_of_getElem? (i := 19) rfl)), by decide⟩
def own_min (a b : Int32) : Int32 := if b < a then b else a
theorem own_min_lt {a b : Int32} (h : a.toNatClampNeg < b.toNatClampNeg) (h0 : ¬ a < 0) (h1 : ¬ b < 0) : own_min a b = a := by
  rw [own_min, if_neg]
  have e1 := nat_of h0; have e2 := nat_of h1
  rw [Int32.lt_iff_toInt_lt]; omega
theorem d11_0 : decode jdk_29_method_69_code 0 = .ok (.iload_n 0, 1) := by decide +kernel
theorem d11_1 : decode jdk_29_method_69_code 1 = .ok (.iload_n 1, 1) := by decide +kernel
theorem d11_2 : decode jdk_29_method_69_code 2 = .ok (.if_icmp .gt 7, 3) := by decide +kernel
theorem d11_5 : decode jdk_29_method_69_code 5 = .ok (.iload_n 0, 1) := by decide +kernel
theorem d11_6 : decode jdk_29_method_69_code 6 = .ok (.goto 4, 3) := by decide +kernel
theorem d11_9 : decode jdk_29_method_69_code 9 = .ok (.iload_n 1, 1) := by decide +kernel
theorem d11_10 : decode jdk_29_method_69_code 10 = .ok (.ireturn, 1) := by decide +kernel
set_option maxRecDepth 65536 in
set_option maxHeartbeats 40000000 in
theorem rm_min (l : Launch) (Z : State) (a0 : Array Value) (hw : ∀ d ∈ tables_1, d.before a0 Z = true) (ws : List Jvm.Cond) (n0 : Nat) (h0 : Heap) (Z0 : n0 ≤ h0.size) (a b : Int32)  :
    Met l Z n0 (⟨"java/lang/Math", "min", "(II)I"⟩ : MethodName) jdk_29_method_69_code 2 (some .int) ws ({ frames := 0, cells := 0, slots := 0, locals := 0 } : Room) #[(.int a), (.int b)] h0 (fun u h => u = some (.int (own_min a b)) ∧ h0 = h) := by
  refine met_of Z0 (Jvm.Free.JP.mathPlain rfl (by decide +kernel)) (Ls := #[.val (.int a), .val (.int b)]) (fun m => by first | (simp [entryFrame, mkF, argsToLocals, Value.category]; done) | rfl) ?_
  intro K ok
  show W K l _ n0 _ h0 0 0 0 #[.val (.int a), .val (.int b)] []
  refine w_iloadN ok d11_0 rfl ?_
  show W K l _ n0 _ h0 0 0 1 #[.val (.int a), .val (.int b)] [(.int a)]
  refine w_iloadN ok d11_1 rfl ?_
  show W K l _ n0 _ h0 0 0 2 #[.val (.int a), .val (.int b)] [(.int b), (.int a)]
  refine w_icmp_gt ok d11_2 (pc' := 9) (by decide) (fun hc1 => ?_) (fun hc1 => ?_)
  · show W K l _ n0 _ h0 0 0 9 #[.val (.int a), .val (.int b)] []
    refine w_iloadN ok d11_9 rfl ?_
    show W K l _ n0 _ h0 0 0 10 #[.val (.int a), .val (.int b)] [(.int b)]
    refine w_iret ok d11_10 (by decide) (by decide) ?_
    exact ⟨by simp [own_min, *], rfl⟩
  · show W K l _ n0 _ h0 0 0 5 #[.val (.int a), .val (.int b)] []
    refine w_iloadN ok d11_5 rfl ?_
    show W K l _ n0 _ h0 0 0 6 #[.val (.int a), .val (.int b)] [(.int a)]
    refine w_goto ok d11_6 (pc' := 10) (by decide) ?_
    show W K l _ n0 _ h0 0 0 10 #[.val (.int a), .val (.int b)] [(.int a)]
    refine w_iret ok d11_10 (by decide) (by decide) ?_
    exact ⟨by simp [own_min, *], rfl⟩
theorem d10_0 : decode jdk_65_method_123_code 0 = .ok (.iload_n 1, 1) := by decide +kernel
theorem d10_1 : decode jdk_65_method_123_code 1 = .ok (.aload_n 0, 1) := by decide +kernel
theorem d10_2 : decode jdk_65_method_123_code 2 = .ok (.arraylength, 1) := by decide +kernel
theorem d10_3 : decode jdk_65_method_123_code 3 = .ok (.if_icmp .ne 11, 3) := by decide +kernel
theorem d10_6 : decode jdk_65_method_123_code 6 = .ok (.aload_n 0, 1) := by decide +kernel
theorem d10_7 : decode jdk_65_method_123_code 7 = .ok (.invokevirtual 316, 3) := by decide +kernel
theorem d10_10 : decode jdk_65_method_123_code 10 = .ok (.checkcast 317, 3) := by decide +kernel
theorem d10_13 : decode jdk_65_method_123_code 13 = .ok (.areturn, 1) := by decide +kernel
theorem d10_14 : decode jdk_65_method_123_code 14 = .ok (.iload_n 1, 1) := by decide +kernel
theorem d10_15 : decode jdk_65_method_123_code 15 = .ok (.newarray .int, 2) := by decide +kernel
theorem d10_17 : decode jdk_65_method_123_code 17 = .ok (.astore_n 2, 1) := by decide +kernel
theorem d10_18 : decode jdk_65_method_123_code 18 = .ok (.aload_n 0, 1) := by decide +kernel
theorem d10_19 : decode jdk_65_method_123_code 19 = .ok (.iconst 0, 1) := by decide +kernel
theorem d10_20 : decode jdk_65_method_123_code 20 = .ok (.aload_n 2, 1) := by decide +kernel
theorem d10_21 : decode jdk_65_method_123_code 21 = .ok (.iconst 0, 1) := by decide +kernel
theorem d10_22 : decode jdk_65_method_123_code 22 = .ok (.aload_n 0, 1) := by decide +kernel
theorem d10_23 : decode jdk_65_method_123_code 23 = .ok (.arraylength, 1) := by decide +kernel
theorem d10_24 : decode jdk_65_method_123_code 24 = .ok (.iload_n 1, 1) := by decide +kernel
theorem d10_25 : decode jdk_65_method_123_code 25 = .ok (.invokestatic 304, 3) := by decide +kernel
theorem d10_28 : decode jdk_65_method_123_code 28 = .ok (.invokestatic 150, 3) := by decide +kernel
theorem d10_31 : decode jdk_65_method_123_code 31 = .ok (.aload_n 2, 1) := by decide +kernel
theorem d10_32 : decode jdk_65_method_123_code 32 = .ok (.areturn, 1) := by decide +kernel
theorem pn_java_util_Arrays : plainName "java/util/Arrays" = true := by first | (simp [plainName, overriddenIn]; done) | decide +kernel
theorem pd_28II29I : parseMethodDescriptor "(II)I" = some ⟨[.int, .int], some .int⟩ := by decide +kernel
set_option maxRecDepth 65536 in
set_option maxHeartbeats 40000000 in
theorem cp_int (l : Launch) (Z : State) (a0 : Array Value) (hw : ∀ d ∈ tables_1, d.before a0 Z = true) (ws : List Jvm.Cond) (n0 : Nat) (h0 : Heap) (Z0 : n0 ≤ h0.size) (a : Addr) (vs : List Value) (z : Int32) (A_a : PA .int Z h0 a vs) (hz : vs.length < z.toNatClampNeg) (hz0 : ¬ z < 0) (hcap : z.toNatClampNeg ≤ 48)  :
    Met l Z n0 (⟨"java/util/Arrays", "copyOf", "([II)[I"⟩ : MethodName) jdk_65_method_123_code 3 (some (.array .int)) ws ({ frames := 1, cells := 1, slots := 48, locals := 18 } : Room) #[(.ref a), (.int z)] h0 (fun u h => ∃ b, u = some (.ref b) ∧ h0.size ≤ b ∧ n0 ≤ b ∧ Keep h0 h [] ∧ PA .int Z h b (vs ++ List.replicate (z.toNatClampNeg - vs.length) (Value.int 0))) := by
  refine met_of Z0 (plainFor_of_name pn_java_util_Arrays) (Ls := #[.val (.ref a), .val (.int z), .unset]) (fun m => by first | (simp [entryFrame, mkF, argsToLocals, Value.category]; done) | rfl) ?_
  intro K ok
  have Kp : Keep h0 h0 [] := Keep.refl _ _
  obtain ⟨q, hq, hq0⟩ := pa_z A_a.len
  show W K l _ n0 _ h0 0 0 0 #[.val (.ref a), .val (.int z), .unset] []
  refine w_iloadN ok d10_0 rfl ?_
  show W K l _ n0 _ h0 0 0 1 #[.val (.ref a), .val (.int z), .unset] [(.int z)]
  refine w_aloadN ok d10_1 rfl rfl ?_
  show W K l _ n0 _ h0 0 0 2 #[.val (.ref a), .val (.int z), .unset] [(.ref a), (.int z)]
  refine w_arraylength ok (z := q) d10_2 A_a hq hq0 ?_
  show W K l _ n0 _ h0 0 0 3 #[.val (.ref a), .val (.int z), .unset] [(.int q), (.int z)]
  refine w_icmp_ne ok d10_3 (pc' := 14) (by decide) (fun hc1 => ?_) (fun hc1 => False.elim (by rw [hc1] at hz; omega))
  show W K l _ n0 _ h0 0 0 14 #[.val (.ref a), .val (.int z), .unset] []
  refine w_iloadN ok d10_14 rfl ?_
  show W K l _ n0 _ h0 0 0 15 #[.val (.ref a), .val (.int z), .unset] [(.int z)]
  refine w_newarray ok d10_15 (hw _ (List.mem_of_getElem? (i := 10) rfl)) hz0 (cap := 48) hcap (by decide) (by decide) (by decide) (fun h3 b2 ea_b2 ge_b2 E_b2 A_b2 => ?_)
  have sz_b2 : h0.size ≤ b2 := Nat.le_trans Kp.1 (Nat.le_of_eq ea_b2.symm)
  have ne_a_b2 : a ≠ b2 := fun q => Nat.lt_irrefl _ (Nat.lt_of_lt_of_eq A_a.lt (ea_b2.symm.trans q.symm))
  replace Kp := Kp.ext E_b2
  replace A_a := A_a.ext E_b2
  replace A_b2 : PA .int Z h3 b2 (List.replicate z.toNatClampNeg (.int (0 : Int32))) := A_b2
  show W K l _ n0 _ h3 1 48 17 #[.val (.ref a), .val (.int z), .unset] [(.ref b2)]
  refine w_astoreN ok d10_17 rfl (L' := #[.val (.ref a), .val (.int z), .val (.ref b2)]) rfl ?_
  show W K l _ n0 _ h3 1 48 18 #[.val (.ref a), .val (.int z), .val (.ref b2)] []
  refine w_aloadN ok d10_18 rfl rfl ?_
  show W K l _ n0 _ h3 1 48 19 #[.val (.ref a), .val (.int z), .val (.ref b2)] [(.ref a)]
  refine w_iconst ok d10_19 (v := (0 : Int32)) rfl ?_
  show W K l _ n0 _ h3 1 48 20 #[.val (.ref a), .val (.int z), .val (.ref b2)] [(.int (0 : Int32)), (.ref a)]
  refine w_aloadN ok d10_20 rfl rfl ?_
  show W K l _ n0 _ h3 1 48 21 #[.val (.ref a), .val (.int z), .val (.ref b2)] [(.ref b2), (.int (0 : Int32)), (.ref a)]
  refine w_iconst ok d10_21 (v := (0 : Int32)) rfl ?_
  show W K l _ n0 _ h3 1 48 22 #[.val (.ref a), .val (.int z), .val (.ref b2)] [(.int (0 : Int32)), (.ref b2), (.int (0 : Int32)), (.ref a)]
  refine w_aloadN ok d10_22 rfl rfl ?_
  show W K l _ n0 _ h3 1 48 23 #[.val (.ref a), .val (.int z), .val (.ref b2)] [(.ref a), (.int (0 : Int32)), (.ref b2), (.int (0 : Int32)), (.ref a)]
  refine w_arraylength ok (z := q) d10_23 A_a hq hq0 ?_
  show W K l _ n0 _ h3 1 48 24 #[.val (.ref a), .val (.int z), .val (.ref b2)] [(.int q), (.int (0 : Int32)), (.ref b2), (.int (0 : Int32)), (.ref a)]
  refine w_iloadN ok d10_24 rfl ?_
  show W K l _ n0 _ h3 1 48 25 #[.val (.ref a), .val (.int z), .val (.ref b2)] [(.int z), (.int q), (.int (0 : Int32)), (.ref b2), (.int (0 : Int32)), (.ref a)]
  refine w_callS ok (y := (⟨"java/lang/Math", "min", "(II)I"⟩ : MethodName)) (argsL := [(.int q), (.int z)]) (rest := [(.int (0 : Int32)), (.ref b2), (.int (0 : Int32)), (.ref a)]) d10_25 (hw _ (List.mem_of_getElem? (i := 56) rfl)) (hw _ (List.mem_of_getElem? (i := 57) rfl)) (hw _ (List.mem_of_getElem? (i := 50) rfl)) (hw _ (List.mem_of_getElem? (i := 58) rfl)) (by decide) pd_28II29I rfl rfl (by decide) (Nat.le_of_ble_eq_true rfl) (by decide) (by decide) (fun z0 => rm_min l Z a0 hw [] n0 h3 z0 q z) (fun v4 h5 qv4 => ?_)
  obtain ⟨rfl, rfl⟩ := qv4
  rw [own_min_lt (a := q) (b := z) (by omega) hq0 hz0]
  show W K l _ n0 _ h3 1 48 28 #[.val (.ref a), .val (.int z), .val (.ref b2)] [(.int q), (.int (0 : Int32)), (.ref b2), (.int (0 : Int32)), (.ref a)]
  refine w_arraycopy ok (sp' := 0) (dp' := 0) (nn' := vs.length) d10_28 (hw _ (List.mem_of_getElem? (i := 59) rfl)) (hw _ (List.mem_of_getElem? (i := 33) rfl)) (hw _ (List.mem_of_getElem? (i := 31) rfl)) (hw _ (List.mem_of_getElem? (i := 32) rfl)) A_a A_b2 rfl ge_b2 (by decide) (by decide) hq0 rfl rfl hq.symm (by omega) (by simp; omega) rfl (by decide) (Nat.le_of_ble_eq_true rfl) (fun h6 K_h6 A1_h6 => ?_)
  replace Kp := Kp.trans K_h6 (allS (Or.inr sz_b2) all0)
  replace A_a := A_a.keep K_h6 (ninS ne_a_b2 nin0)
  replace A_b2 : PA .int Z h6 b2 (vs ++ List.replicate (z.toNatClampNeg - vs.length) (Value.int 0)) := (by simpa using A1_h6)
  show W K l _ n0 _ h6 1 48 31 #[.val (.ref a), .val (.int z), .val (.ref b2)] []
  refine w_aloadN ok d10_31 rfl rfl ?_
  show W K l _ n0 _ h6 1 48 32 #[.val (.ref a), .val (.int z), .val (.ref b2)] [(.ref b2)]
  refine w_aret ok rfl rfl d10_32 (by decide) (by decide) ?_
  exact ⟨b2, rfl, sz_b2, ge_b2, Kp, A_b2⟩
theorem d1_0 : decode prog_24_method_1_code 0 = .ok (.aload_n 0, 1) := by decide +kernel
theorem d1_1 : decode prog_24_method_1_code 1 = .ok (.invokespecial 1, 3) := by decide +kernel
theorem d1_4 : decode prog_24_method_1_code 4 = .ok (.aload_n 0, 1) := by decide +kernel
theorem d1_5 : decode prog_24_method_1_code 5 = .ok (.bipush 16, 2) := by decide +kernel
theorem d1_7 : decode prog_24_method_1_code 7 = .ok (.newarray .int, 2) := by decide +kernel
theorem d1_9 : decode prog_24_method_1_code 9 = .ok (.putfield 7, 3) := by decide +kernel
theorem d1_12 : decode prog_24_method_1_code 12 = .ok (.return_, 1) := by decide +kernel
theorem pn_com_example_perx_perx_index_IntList : plainName "com/example/perx/perx/index/IntList" = true := by first | (simp [plainName, overriddenIn]; done) | decide +kernel
set_option maxRecDepth 65536 in
set_option maxHeartbeats 40000000 in
theorem rm_init (l : Launch) (Z : State) (a0 : Array Value) (hw : ∀ d ∈ tables_1, d.before a0 Z = true) (ws : List Jvm.Cond) (n0 : Nat) (h0 : Heap) (Z0 : n0 ≤ h0.size) (a : Addr) (A_a : Ob Z h0 a "com/example/perx/perx/index/IntList" fl_IntList [.null, .int 0]) (ge_a : n0 ≤ a)  :
    Met l Z n0 (⟨"com/example/perx/perx/index/IntList", "<init>", "()V"⟩ : MethodName) prog_24_method_1_code 1 none ws ({ frames := 1, cells := 1, slots := 16, locals := 12 } : Room) #[(.ref a)] h0 (fun u h => u = none ∧ ∃ b, h0.size ≤ b ∧ n0 ≤ b ∧ Keep h0 h [a] ∧ Ob Z h a "com/example/perx/perx/index/IntList" fl_IntList [.ref b, .int 0] ∧ PA .int Z h b (List.replicate 16 (Value.int 0))) := by
  refine met_of Z0 (plainFor_of_name pn_com_example_perx_perx_index_IntList) (Ls := #[.val (.ref a)]) (fun m => by first | (simp [entryFrame, mkF, argsToLocals, Value.category]; done) | rfl) ?_
  intro K ok
  have Kp : Keep h0 h0 [a] := Keep.refl _ _
  show W K l _ n0 _ h0 0 0 0 #[.val (.ref a)] []
  refine w_aloadN ok d1_0 rfl rfl ?_
  show W K l _ n0 _ h0 0 0 1 #[.val (.ref a)] [(.ref a)]
  refine w_initO ok d1_1 (hw _ (List.mem_of_getElem? (i := 7) rfl)) (hw _ (List.mem_of_getElem? (i := 8) rfl)) (hw _ (List.mem_of_getElem? (i := 9) rfl)) rfl (by decide) (Nat.le_of_ble_eq_true rfl) ?_
  show W K l _ n0 _ h0 0 0 4 #[.val (.ref a)] []
  refine w_aloadN ok d1_4 rfl rfl ?_
  show W K l _ n0 _ h0 0 0 5 #[.val (.ref a)] [(.ref a)]
  refine w_bipush ok d1_5 (v := (16 : Int32)) rfl ?_
  show W K l _ n0 _ h0 0 0 7 #[.val (.ref a)] [(.int (16 : Int32)), (.ref a)]
  refine w_newarray ok d1_7 (hw _ (List.mem_of_getElem? (i := 10) rfl)) (by decide) (cap := 16) (by decide) (by decide) (by decide) (by decide) (fun h2 b1 ea_b1 ge_b1 E_b1 A_b1 => ?_)
  have sz_b1 : h0.size ≤ b1 := Nat.le_trans Kp.1 (Nat.le_of_eq ea_b1.symm)
  have ne_a_b1 : a ≠ b1 := fun q => Nat.lt_irrefl _ (Nat.lt_of_lt_of_eq A_a.lt (ea_b1.symm.trans q.symm))
  replace Kp := Kp.ext E_b1
  replace A_a := A_a.ext E_b1
  replace A_b1 : PA .int Z h2 b1 [(.int (0 : Int32)), (.int (0 : Int32)), (.int (0 : Int32)), (.int (0 : Int32)), (.int (0 : Int32)), (.int (0 : Int32)), (.int (0 : Int32)), (.int (0 : Int32)), (.int (0 : Int32)), (.int (0 : Int32)), (.int (0 : Int32)), (.int (0 : Int32)), (.int (0 : Int32)), (.int (0 : Int32)), (.int (0 : Int32)), (.int (0 : Int32))] := A_b1
  show W K l _ n0 _ h2 1 16 9 #[.val (.ref a)] [(.ref b1), (.ref a)]
  refine w_putfield ok (host := "") (f := ("com/example/perx/perx/index/IntList", "values", "[I", (.array .int))) 0 d1_9 (Or.inl (hw _ (List.mem_of_getElem? (i := 11) rfl))) Via.refl A_a (la_IntList hw) rfl rfl (Or.inl (hw _ (List.mem_of_getElem? (i := 12) rfl))) (hw _ (List.mem_of_getElem? (i := 2) rfl)) rfl rfl ge_a (fun h3 W_h3 A1_h3 => ?_)
  replace Kp := Kp.wr W_h3 (Or.inl (by simp))
  replace A_b1 := A_b1.other W_h3 (Ne.symm ne_a_b1)
  replace A_a : Ob Z h3 a "com/example/perx/perx/index/IntList" fl_IntList [(.ref b1), (.int (0 : Int32))] := A1_h3
  show W K l _ n0 _ h3 1 16 12 #[.val (.ref a)] []
  refine w_ret ok d1_12 (by decide) (by decide) ?_
  exact ⟨rfl, b1, sz_b1, ge_b1, Kp, A_a, A_b1⟩
theorem d6_0 : decode prog_24_method_2_code 0 = .ok (.aload_n 0, 1) := by decide +kernel
theorem d6_1 : decode prog_24_method_2_code 1 = .ok (.getfield 13, 3) := by decide +kernel
theorem d6_4 : decode prog_24_method_2_code 4 = .ok (.ireturn, 1) := by decide +kernel
set_option maxRecDepth 65536 in
set_option maxHeartbeats 40000000 in
theorem rm_size (l : Launch) (Z : State) (a0 : Array Value) (hw : ∀ d ∈ tables_1, d.before a0 Z = true) (ws : List Jvm.Cond) (n0 : Nat) (h0 : Heap) (Z0 : n0 ≤ h0.size) (a r : Addr) (sz : Int32) (A_a : Ob Z h0 a "com/example/perx/perx/index/IntList" fl_IntList [.ref r, .int sz])  :
    Met l Z n0 (⟨"com/example/perx/perx/index/IntList", "size", "()I"⟩ : MethodName) prog_24_method_2_code 1 (some .int) ws ({ frames := 0, cells := 0, slots := 0, locals := 0 } : Room) #[(.ref a)] h0 (fun u h => u = some (.int sz) ∧ h0 = h) := by
  refine met_of Z0 (plainFor_of_name pn_com_example_perx_perx_index_IntList) (Ls := #[.val (.ref a)]) (fun m => by first | (simp [entryFrame, mkF, argsToLocals, Value.category]; done) | rfl) ?_
  intro K ok
  show W K l _ n0 _ h0 0 0 0 #[.val (.ref a)] []
  refine w_aloadN ok d6_0 rfl rfl ?_
  show W K l _ n0 _ h0 0 0 1 #[.val (.ref a)] [(.ref a)]
  refine w_getfield ok (v := (.int sz)) (host := "") (f := ("com/example/perx/perx/index/IntList", "size", "I", .int)) 1 d6_1 (Or.inl (hw _ (List.mem_of_getElem? (i := 18) rfl))) Via.refl A_a rfl rfl ?_
  show W K l _ n0 _ h0 0 0 4 #[.val (.ref a)] [(.int sz)]
  refine w_iret ok d6_4 (by decide) (by decide) ?_
  exact ⟨rfl, rfl⟩
theorem d7_0 : decode prog_24_method_4_code 0 = .ok (.aload_n 0, 1) := by decide +kernel
theorem d7_1 : decode prog_24_method_4_code 1 = .ok (.getfield 7, 3) := by decide +kernel
theorem d7_4 : decode prog_24_method_4_code 4 = .ok (.iload_n 1, 1) := by decide +kernel
theorem d7_5 : decode prog_24_method_4_code 5 = .ok (.iaload, 1) := by decide +kernel
theorem d7_6 : decode prog_24_method_4_code 6 = .ok (.ireturn, 1) := by decide +kernel
set_option maxRecDepth 65536 in
set_option maxHeartbeats 40000000 in
theorem rm_get (l : Launch) (Z : State) (a0 : Array Value) (hw : ∀ d ∈ tables_1, d.before a0 Z = true) (ws : List Jvm.Cond) (n0 : Nat) (h0 : Heap) (Z0 : n0 ≤ h0.size) (a r : Addr) (sz i x : Int32) (vs : List Value) (A_a : Ob Z h0 a "com/example/perx/perx/index/IntList" fl_IntList [.ref r, .int sz]) (A_r : PA .int Z h0 r vs) (hi0 : ¬ i < 0) (hi : vs[i.toNatClampNeg]? = some (.int x))  :
    Met l Z n0 (⟨"com/example/perx/perx/index/IntList", "get", "(I)I"⟩ : MethodName) prog_24_method_4_code 2 (some .int) ws ({ frames := 0, cells := 0, slots := 0, locals := 0 } : Room) #[(.ref a), (.int i)] h0 (fun u h => u = some (.int x) ∧ h0 = h) := by
  refine met_of Z0 (plainFor_of_name pn_com_example_perx_perx_index_IntList) (Ls := #[.val (.ref a), .val (.int i)]) (fun m => by first | (simp [entryFrame, mkF, argsToLocals, Value.category]; done) | rfl) ?_
  intro K ok
  show W K l _ n0 _ h0 0 0 0 #[.val (.ref a), .val (.int i)] []
  refine w_aloadN ok d7_0 rfl rfl ?_
  show W K l _ n0 _ h0 0 0 1 #[.val (.ref a), .val (.int i)] [(.ref a)]
  refine w_getfield ok (v := (.ref r)) (host := "") (f := ("com/example/perx/perx/index/IntList", "values", "[I", (.array .int))) 0 d7_1 (Or.inl (hw _ (List.mem_of_getElem? (i := 11) rfl))) Via.refl A_a rfl rfl ?_
  show W K l _ n0 _ h0 0 0 4 #[.val (.ref a), .val (.int i)] [(.ref r)]
  refine w_iloadN ok d7_4 rfl ?_
  show W K l _ n0 _ h0 0 0 5 #[.val (.ref a), .val (.int i)] [(.int i), (.ref r)]
  refine w_iaload ok (v := (.int x)) d7_5 A_r hi0 hi ?_
  show W K l _ n0 _ h0 0 0 6 #[.val (.ref a), .val (.int i)] [(.int x)]
  refine w_iret ok d7_6 (by decide) (by decide) ?_
  exact ⟨rfl, rfl⟩
theorem d4_0 : decode prog_24_method_7_code 0 = .ok (.aload_n 0, 1) := by decide +kernel
theorem d4_1 : decode prog_24_method_7_code 1 = .ok (.iload_n 1, 1) := by decide +kernel
theorem d4_2 : decode prog_24_method_7_code 2 = .ok (.putfield 13, 3) := by decide +kernel
theorem d4_5 : decode prog_24_method_7_code 5 = .ok (.return_, 1) := by decide +kernel
set_option maxRecDepth 65536 in
set_option maxHeartbeats 40000000 in
theorem rm_trunc (l : Launch) (Z : State) (a0 : Array Value) (hw : ∀ d ∈ tables_1, d.before a0 Z = true) (ws : List Jvm.Cond) (n0 : Nat) (h0 : Heap) (Z0 : n0 ≤ h0.size) (a r : Addr) (sz i : Int32) (A_a : Ob Z h0 a "com/example/perx/perx/index/IntList" fl_IntList [.ref r, .int sz]) (ge_a : n0 ≤ a)  :
    Met l Z n0 (⟨"com/example/perx/perx/index/IntList", "truncate", "(I)V"⟩ : MethodName) prog_24_method_7_code 2 none ws ({ frames := 0, cells := 0, slots := 0, locals := 0 } : Room) #[(.ref a), (.int i)] h0 (fun u h => u = none ∧ Keep h0 h [a] ∧ Ob Z h a "com/example/perx/perx/index/IntList" fl_IntList [.ref r, .int i]) := by
  refine met_of Z0 (plainFor_of_name pn_com_example_perx_perx_index_IntList) (Ls := #[.val (.ref a), .val (.int i)]) (fun m => by first | (simp [entryFrame, mkF, argsToLocals, Value.category]; done) | rfl) ?_
  intro K ok
  have Kp : Keep h0 h0 [a] := Keep.refl _ _
  show W K l _ n0 _ h0 0 0 0 #[.val (.ref a), .val (.int i)] []
  refine w_aloadN ok d4_0 rfl rfl ?_
  show W K l _ n0 _ h0 0 0 1 #[.val (.ref a), .val (.int i)] [(.ref a)]
  refine w_iloadN ok d4_1 rfl ?_
  show W K l _ n0 _ h0 0 0 2 #[.val (.ref a), .val (.int i)] [(.int i), (.ref a)]
  refine w_putfield ok (host := "") (f := ("com/example/perx/perx/index/IntList", "size", "I", .int)) 1 d4_2 (Or.inl (hw _ (List.mem_of_getElem? (i := 18) rfl))) Via.refl A_a (la_IntList hw) rfl rfl (Or.inl (hw _ (List.mem_of_getElem? (i := 19) rfl))) (hw _ (List.mem_of_getElem? (i := 2) rfl)) rfl rfl ge_a (fun h1 W_h1 A1_h1 => ?_)
  replace Kp := Kp.wr W_h1 (Or.inl (by simp))
  replace A_a : Ob Z h1 a "com/example/perx/perx/index/IntList" fl_IntList [(.ref r), (.int i)] := A1_h1
  show W K l _ n0 _ h1 0 0 5 #[.val (.ref a), .val (.int i)] []
  refine w_ret ok d4_5 (by decide) (by decide) ?_
  exact ⟨rfl, Kp, A_a⟩
theorem own_ltq {z q : Int32} {N : Nat} (h : ¬ z = q) (h0 : ¬ z < 0) (h1 : ¬ q < 0) (h2 : z.toNatClampNeg ≤ N) (h3 : N = q.toNatClampNeg) : z.toNatClampNeg < N := by
  have e1 := nat_of h0; have e2 := nat_of h1
  rw [← Int32.toInt_inj] at h; omega
theorem own_dbln {z q : Int32} {N : Nat} (h0 : ¬ z < 0) (h1 : ¬ q < 0) (h2 : z.toNatClampNeg + z.toNatClampNeg ≤ N) (h3 : N = q.toNatClampNeg) : ¬ q < z + z := by
  have e1 := nat_of h0; have e2 := nat_of h1; have e3 := c_iadd z z; have r := rng32 (z + z); have r2 := rng32 q
  rw [Int32.lt_iff_toInt_lt]; omega
theorem own_dbl {q : Int32} (h : ¬ q < 0) (h1 : q.toNatClampNeg ≤ 1000000) : (q * 2).toNatClampNeg = 2 * q.toNatClampNeg := by
  have e := nat_of h; have e2 := c_imul q 2; have r := rng32 (q * 2); have e3 : (2 : Int32).toInt = 2 := rfl
  rw [e3] at e2
  simp only [Int32.toNatClampNeg] at *; omega
theorem own_dbl0 {q : Int32} (h : ¬ q < 0) (h1 : q.toNatClampNeg ≤ 1000000) : ¬ q * 2 < 0 := by
  have e := nat_of h; have e2 := c_imul q 2; have r := rng32 (q * 2); have e3 : (2 : Int32).toInt = 2 := rfl; have e4 : (0 : Int32).toInt = 0 := rfl
  rw [e3] at e2
  rw [Int32.lt_iff_toInt_lt, e4]; omega
theorem d3_0 : decode prog_24_method_3_code 0 = .ok (.aload_n 0, 1) := by decide +kernel
theorem d3_1 : decode prog_24_method_3_code 1 = .ok (.getfield 13, 3) := by decide +kernel
theorem d3_4 : decode prog_24_method_3_code 4 = .ok (.aload_n 0, 1) := by decide +kernel
theorem d3_5 : decode prog_24_method_3_code 5 = .ok (.getfield 7, 3) := by decide +kernel
theorem d3_8 : decode prog_24_method_3_code 8 = .ok (.arraylength, 1) := by decide +kernel
theorem d3_9 : decode prog_24_method_3_code 9 = .ok (.if_icmp .ne 21, 3) := by decide +kernel
theorem d3_12 : decode prog_24_method_3_code 12 = .ok (.aload_n 0, 1) := by decide +kernel
theorem d3_13 : decode prog_24_method_3_code 13 = .ok (.aload_n 0, 1) := by decide +kernel
theorem d3_14 : decode prog_24_method_3_code 14 = .ok (.getfield 7, 3) := by decide +kernel
theorem d3_17 : decode prog_24_method_3_code 17 = .ok (.aload_n 0, 1) := by decide +kernel
theorem d3_18 : decode prog_24_method_3_code 18 = .ok (.getfield 7, 3) := by decide +kernel
theorem d3_21 : decode prog_24_method_3_code 21 = .ok (.arraylength, 1) := by decide +kernel
theorem d3_22 : decode prog_24_method_3_code 22 = .ok (.iconst 2, 1) := by decide +kernel
theorem d3_23 : decode prog_24_method_3_code 23 = .ok (.imul, 1) := by decide +kernel
theorem d3_24 : decode prog_24_method_3_code 24 = .ok (.invokestatic 17, 3) := by decide +kernel
theorem d3_27 : decode prog_24_method_3_code 27 = .ok (.putfield 7, 3) := by decide +kernel
theorem d3_30 : decode prog_24_method_3_code 30 = .ok (.aload_n 0, 1) := by decide +kernel
theorem d3_31 : decode prog_24_method_3_code 31 = .ok (.getfield 7, 3) := by decide +kernel
theorem d3_34 : decode prog_24_method_3_code 34 = .ok (.aload_n 0, 1) := by decide +kernel
theorem d3_35 : decode prog_24_method_3_code 35 = .ok (.dup, 1) := by decide +kernel
theorem d3_36 : decode prog_24_method_3_code 36 = .ok (.getfield 13, 3) := by decide +kernel
theorem d3_39 : decode prog_24_method_3_code 39 = .ok (.dup_x1, 1) := by decide +kernel
theorem d3_40 : decode prog_24_method_3_code 40 = .ok (.iconst 1, 1) := by decide +kernel
theorem d3_41 : decode prog_24_method_3_code 41 = .ok (.iadd, 1) := by decide +kernel
theorem d3_42 : decode prog_24_method_3_code 42 = .ok (.putfield 13, 3) := by decide +kernel
theorem d3_45 : decode prog_24_method_3_code 45 = .ok (.iload_n 1, 1) := by decide +kernel
theorem d3_46 : decode prog_24_method_3_code 46 = .ok (.iastore, 1) := by decide +kernel
theorem d3_47 : decode prog_24_method_3_code 47 = .ok (.return_, 1) := by decide +kernel
theorem pd_285bII295bI : parseMethodDescriptor "([II)[I" = some ⟨[(.array .int), .int], some (.array .int)⟩ := by decide +kernel
set_option maxRecDepth 65536 in
set_option maxHeartbeats 40000000 in
theorem rm_add (l : Launch) (Z : State) (a0 : Array Value) (hw : ∀ d ∈ tables_1, d.before a0 Z = true) (ws : List Jvm.Cond) (n0 : Nat) (h0 : Heap) (Z0 : n0 ≤ h0.size) (a r : Addr) (vs : List Value) (sz x : Int32) (A_a : Ob Z h0 a "com/example/perx/perx/index/IntList" fl_IntList [.ref r, .int sz]) (A_r : PA .int Z h0 r vs) (ge_a : n0 ≤ a) (ge_r : n0 ≤ r) (ne_a_r : a ≠ r) (hsz0 : ¬ sz < 0) (hsz : sz.toNatClampNeg ≤ vs.length) (hvs : 1 ≤ vs.length ∧ 2 * vs.length ≤ 48)  :
    Met l Z n0 (⟨"com/example/perx/perx/index/IntList", "add", "(I)V"⟩ : MethodName) prog_24_method_3_code 2 none ws ({ frames := 2, cells := 1, slots := 48, locals := 33 } : Room) #[(.ref a), (.int x)] h0 (fun u h => u = none ∧ ∃ b e, n0 ≤ b ∧ (b = r ∨ h0.size ≤ b) ∧ a ≠ b ∧ Keep h0 h [a, r] ∧ Ob Z h a "com/example/perx/perx/index/IntList" fl_IntList [.ref b, .int (sz + 1)] ∧ PA .int Z h b ((vs ++ List.replicate e (Value.int 0)).set sz.toNatClampNeg (.int x)) ∧ (sz.toNatClampNeg < vs.length → e = 0 ∧ r = b) ∧ sz.toNatClampNeg < vs.length + e ∧ vs.length + e ≤ 48) := by
  refine met_of Z0 (plainFor_of_name pn_com_example_perx_perx_index_IntList) (Ls := #[.val (.ref a), .val (.int x)]) (fun m => by first | (simp [entryFrame, mkF, argsToLocals, Value.category]; done) | rfl) ?_
  intro K ok
  have Kp : Keep h0 h0 [a, r] := Keep.refl _ _
  obtain ⟨q, hq, hq0⟩ := pa_z A_r.len
  show W K l _ n0 _ h0 0 0 0 #[.val (.ref a), .val (.int x)] []
  refine w_aloadN ok d3_0 rfl rfl ?_
  show W K l _ n0 _ h0 0 0 1 #[.val (.ref a), .val (.int x)] [(.ref a)]
  refine w_getfield ok (v := (.int sz)) (host := "") (f := ("com/example/perx/perx/index/IntList", "size", "I", .int)) 1 d3_1 (Or.inl (hw _ (List.mem_of_getElem? (i := 18) rfl))) Via.refl A_a rfl rfl ?_
  show W K l _ n0 _ h0 0 0 4 #[.val (.ref a), .val (.int x)] [(.int sz)]
  refine w_aloadN ok d3_4 rfl rfl ?_
  show W K l _ n0 _ h0 0 0 5 #[.val (.ref a), .val (.int x)] [(.ref a), (.int sz)]
  refine w_getfield ok (v := (.ref r)) (host := "") (f := ("com/example/perx/perx/index/IntList", "values", "[I", (.array .int))) 0 d3_5 (Or.inl (hw _ (List.mem_of_getElem? (i := 11) rfl))) Via.refl A_a rfl rfl ?_
  show W K l _ n0 _ h0 0 0 8 #[.val (.ref a), .val (.int x)] [(.ref r), (.int sz)]
  refine w_arraylength ok (z := q) d3_8 A_r hq hq0 ?_
  show W K l _ n0 _ h0 0 0 9 #[.val (.ref a), .val (.int x)] [(.int q), (.int sz)]
  refine w_icmp_ne ok d3_9 (pc' := 30) (by decide) (fun hc1 => ?_) (fun hc1 => ?_)
  · show W K l _ n0 _ h0 0 0 30 #[.val (.ref a), .val (.int x)] []
    refine w_aloadN ok d3_30 rfl rfl ?_
    show W K l _ n0 _ h0 0 0 31 #[.val (.ref a), .val (.int x)] [(.ref a)]
    refine w_getfield ok (v := (.ref r)) (host := "") (f := ("com/example/perx/perx/index/IntList", "values", "[I", (.array .int))) 0 d3_31 (Or.inl (hw _ (List.mem_of_getElem? (i := 11) rfl))) Via.refl A_a rfl rfl ?_
    show W K l _ n0 _ h0 0 0 34 #[.val (.ref a), .val (.int x)] [(.ref r)]
    refine w_aloadN ok d3_34 rfl rfl ?_
    show W K l _ n0 _ h0 0 0 35 #[.val (.ref a), .val (.int x)] [(.ref a), (.ref r)]
    refine w_dup ok d3_35 rfl ?_
    show W K l _ n0 _ h0 0 0 36 #[.val (.ref a), .val (.int x)] [(.ref a), (.ref a), (.ref r)]
    refine w_getfield ok (v := (.int sz)) (host := "") (f := ("com/example/perx/perx/index/IntList", "size", "I", .int)) 1 d3_36 (Or.inl (hw _ (List.mem_of_getElem? (i := 18) rfl))) Via.refl A_a rfl rfl ?_
    show W K l _ n0 _ h0 0 0 39 #[.val (.ref a), .val (.int x)] [(.int sz), (.ref a), (.ref r)]
    refine w_dupX1 ok d3_39 rfl rfl ?_
    show W K l _ n0 _ h0 0 0 40 #[.val (.ref a), .val (.int x)] [(.int sz), (.ref a), (.int sz), (.ref r)]
    refine w_iconst ok d3_40 (v := (1 : Int32)) rfl ?_
    show W K l _ n0 _ h0 0 0 41 #[.val (.ref a), .val (.int x)] [(.int (1 : Int32)), (.int sz), (.ref a), (.int sz), (.ref r)]
    refine w_iadd ok d3_41 ?_
    show W K l _ n0 _ h0 0 0 42 #[.val (.ref a), .val (.int x)] [(.int (sz + (1 : Int32))), (.ref a), (.int sz), (.ref r)]
    refine w_putfield ok (host := "") (f := ("com/example/perx/perx/index/IntList", "size", "I", .int)) 1 d3_42 (Or.inl (hw _ (List.mem_of_getElem? (i := 18) rfl))) Via.refl A_a (la_IntList hw) rfl rfl (Or.inl (hw _ (List.mem_of_getElem? (i := 19) rfl))) (hw _ (List.mem_of_getElem? (i := 2) rfl)) rfl rfl ge_a (fun h2 W_h2 A1_h2 => ?_)
    replace Kp := Kp.wr W_h2 (Or.inl (by simp))
    replace A_r := A_r.other W_h2 (Ne.symm ne_a_r)
    replace A_a : Ob Z h2 a "com/example/perx/perx/index/IntList" fl_IntList [(.ref r), (.int (sz + (1 : Int32)))] := A1_h2
    show W K l _ n0 _ h2 0 0 45 #[.val (.ref a), .val (.int x)] [(.int sz), (.ref r)]
    refine w_iloadN ok d3_45 rfl ?_
    show W K l _ n0 _ h2 0 0 46 #[.val (.ref a), .val (.int x)] [(.int x), (.int sz), (.ref r)]
    refine w_iastore ok d3_46 A_r ge_r hsz0 (own_ltq hc1 hsz0 hq0 hsz hq) (fun h3 W_h3 A1_h3 => ?_)
    replace Kp := Kp.wr W_h3 (Or.inl (by simp))
    replace A_a := A_a.other W_h3 ne_a_r
    replace A_r : PA .int Z h3 r (vs.set sz.toNatClampNeg (.int x)) := A1_h3
    show W K l _ n0 _ h3 0 0 47 #[.val (.ref a), .val (.int x)] []
    refine w_ret ok d3_47 (by decide) (by decide) ?_
    exact ⟨rfl, r, 0, ge_r, Or.inl rfl, ne_a_r, Kp, A_a, by simpa using A_r, fun _ => ⟨rfl, rfl⟩, own_ltq hc1 hsz0 hq0 hsz hq, by omega⟩
  · show W K l _ n0 _ h0 0 0 12 #[.val (.ref a), .val (.int x)] []
    refine w_aloadN ok d3_12 rfl rfl ?_
    show W K l _ n0 _ h0 0 0 13 #[.val (.ref a), .val (.int x)] [(.ref a)]
    refine w_aloadN ok d3_13 rfl rfl ?_
    show W K l _ n0 _ h0 0 0 14 #[.val (.ref a), .val (.int x)] [(.ref a), (.ref a)]
    refine w_getfield ok (v := (.ref r)) (host := "") (f := ("com/example/perx/perx/index/IntList", "values", "[I", (.array .int))) 0 d3_14 (Or.inl (hw _ (List.mem_of_getElem? (i := 11) rfl))) Via.refl A_a rfl rfl ?_
    show W K l _ n0 _ h0 0 0 17 #[.val (.ref a), .val (.int x)] [(.ref r), (.ref a)]
    refine w_aloadN ok d3_17 rfl rfl ?_
    show W K l _ n0 _ h0 0 0 18 #[.val (.ref a), .val (.int x)] [(.ref a), (.ref r), (.ref a)]
    refine w_getfield ok (v := (.ref r)) (host := "") (f := ("com/example/perx/perx/index/IntList", "values", "[I", (.array .int))) 0 d3_18 (Or.inl (hw _ (List.mem_of_getElem? (i := 11) rfl))) Via.refl A_a rfl rfl ?_
    show W K l _ n0 _ h0 0 0 21 #[.val (.ref a), .val (.int x)] [(.ref r), (.ref r), (.ref a)]
    refine w_arraylength ok (z := q) d3_21 A_r hq hq0 ?_
    show W K l _ n0 _ h0 0 0 22 #[.val (.ref a), .val (.int x)] [(.int q), (.ref r), (.ref a)]
    refine w_iconst ok d3_22 (v := (2 : Int32)) rfl ?_
    show W K l _ n0 _ h0 0 0 23 #[.val (.ref a), .val (.int x)] [(.int (2 : Int32)), (.int q), (.ref r), (.ref a)]
    refine w_imul ok d3_23 ?_
    show W K l _ n0 _ h0 0 0 24 #[.val (.ref a), .val (.int x)] [(.int (q * (2 : Int32))), (.ref r), (.ref a)]
    refine w_callS ok (y := (⟨"java/util/Arrays", "copyOf", "([II)[I"⟩ : MethodName)) (argsL := [(.ref r), (.int (q * (2 : Int32)))]) (rest := [(.ref a)]) d3_24 (hw _ (List.mem_of_getElem? (i := 52) rfl)) (hw _ (List.mem_of_getElem? (i := 53) rfl)) (hw _ (List.mem_of_getElem? (i := 54) rfl)) (hw _ (List.mem_of_getElem? (i := 55) rfl)) (by decide) pd_285bII295bI rfl rfl (by decide) (Nat.le_of_ble_eq_true rfl) (by decide) (by decide) (fun z0 => cp_int l Z a0 hw [] n0 h0 z0 r vs (q * (2 : Int32)) A_r (by rw [own_dbl hq0 (by omega)]; omega) (own_dbl0 hq0 (by omega)) (by rw [own_dbl hq0 (by omega)]; omega)) (fun v4 h5 qv4 => ?_)
    obtain ⟨c, rfl, sz_c, ge_c, K1, A_c⟩ := qv4
    have ne_a_c : a ≠ c := Nat.ne_of_lt (Nat.lt_of_lt_of_le A_a.lt sz_c)
    have ne_r_c : r ≠ c := Nat.ne_of_lt (Nat.lt_of_lt_of_le A_r.lt sz_c)
    have szq_c : h0.size ≤ c := Nat.le_trans Kp.1 sz_c
    replace Kp := Kp.trans K1 all0
    replace A_a := A_a.keep K1 nin0
    replace A_r := A_r.keep K1 nin0
    show W K l _ n0 _ h5 1 48 27 #[.val (.ref a), .val (.int x)] [(.ref c), (.ref a)]
    refine w_putfield ok (host := "") (f := ("com/example/perx/perx/index/IntList", "values", "[I", (.array .int))) 0 d3_27 (Or.inl (hw _ (List.mem_of_getElem? (i := 11) rfl))) Via.refl A_a (la_IntList hw) rfl rfl (Or.inl (hw _ (List.mem_of_getElem? (i := 12) rfl))) (hw _ (List.mem_of_getElem? (i := 2) rfl)) rfl rfl ge_a (fun h6 W_h6 A1_h6 => ?_)
    replace Kp := Kp.wr W_h6 (Or.inl (by simp))
    replace A_r := A_r.other W_h6 (Ne.symm ne_a_r)
    replace A_c := A_c.other W_h6 (Ne.symm ne_a_c)
    replace A_a : Ob Z h6 a "com/example/perx/perx/index/IntList" fl_IntList [(.ref c), (.int sz)] := A1_h6
    show W K l _ n0 _ h6 1 48 30 #[.val (.ref a), .val (.int x)] []
    refine w_aloadN ok d3_30 rfl rfl ?_
    show W K l _ n0 _ h6 1 48 31 #[.val (.ref a), .val (.int x)] [(.ref a)]
    refine w_getfield ok (v := (.ref c)) (host := "") (f := ("com/example/perx/perx/index/IntList", "values", "[I", (.array .int))) 0 d3_31 (Or.inl (hw _ (List.mem_of_getElem? (i := 11) rfl))) Via.refl A_a rfl rfl ?_
    show W K l _ n0 _ h6 1 48 34 #[.val (.ref a), .val (.int x)] [(.ref c)]
    refine w_aloadN ok d3_34 rfl rfl ?_
    show W K l _ n0 _ h6 1 48 35 #[.val (.ref a), .val (.int x)] [(.ref a), (.ref c)]
    refine w_dup ok d3_35 rfl ?_
    show W K l _ n0 _ h6 1 48 36 #[.val (.ref a), .val (.int x)] [(.ref a), (.ref a), (.ref c)]
    refine w_getfield ok (v := (.int sz)) (host := "") (f := ("com/example/perx/perx/index/IntList", "size", "I", .int)) 1 d3_36 (Or.inl (hw _ (List.mem_of_getElem? (i := 18) rfl))) Via.refl A_a rfl rfl ?_
    show W K l _ n0 _ h6 1 48 39 #[.val (.ref a), .val (.int x)] [(.int sz), (.ref a), (.ref c)]
    refine w_dupX1 ok d3_39 rfl rfl ?_
    show W K l _ n0 _ h6 1 48 40 #[.val (.ref a), .val (.int x)] [(.int sz), (.ref a), (.int sz), (.ref c)]
    refine w_iconst ok d3_40 (v := (1 : Int32)) rfl ?_
    show W K l _ n0 _ h6 1 48 41 #[.val (.ref a), .val (.int x)] [(.int (1 : Int32)), (.int sz), (.ref a), (.int sz), (.ref c)]
    refine w_iadd ok d3_41 ?_
    show W K l _ n0 _ h6 1 48 42 #[.val (.ref a), .val (.int x)] [(.int (sz + (1 : Int32))), (.ref a), (.int sz), (.ref c)]
    refine w_putfield ok (host := "") (f := ("com/example/perx/perx/index/IntList", "size", "I", .int)) 1 d3_42 (Or.inl (hw _ (List.mem_of_getElem? (i := 18) rfl))) Via.refl A_a (la_IntList hw) rfl rfl (Or.inl (hw _ (List.mem_of_getElem? (i := 19) rfl))) (hw _ (List.mem_of_getElem? (i := 2) rfl)) rfl rfl ge_a (fun h7 W_h7 A1_h7 => ?_)
    replace Kp := Kp.wr W_h7 (Or.inl (by simp))
    replace A_r := A_r.other W_h7 (Ne.symm ne_a_r)
    replace A_c := A_c.other W_h7 (Ne.symm ne_a_c)
    replace A_a : Ob Z h7 a "com/example/perx/perx/index/IntList" fl_IntList [(.ref c), (.int (sz + (1 : Int32)))] := A1_h7
    show W K l _ n0 _ h7 1 48 45 #[.val (.ref a), .val (.int x)] [(.int sz), (.ref c)]
    refine w_iloadN ok d3_45 rfl ?_
    show W K l _ n0 _ h7 1 48 46 #[.val (.ref a), .val (.int x)] [(.int x), (.int sz), (.ref c)]
    refine w_iastore ok d3_46 A_c ge_c hsz0 (by rw [List.length_append, List.length_replicate, own_dbl hq0 (by omega)]; omega) (fun h8 W_h8 A1_h8 => ?_)
    replace Kp := Kp.wr W_h8 (Or.inr szq_c)
    replace A_a := A_a.other W_h8 ne_a_c
    replace A_r := A_r.other W_h8 ne_r_c
    replace A_c : PA .int Z h8 c ((vs ++ List.replicate ((q * (2 : Int32)).toNatClampNeg - vs.length) (Value.int 0)).set sz.toNatClampNeg (.int x)) := A1_h8
    show W K l _ n0 _ h8 1 48 47 #[.val (.ref a), .val (.int x)] []
    refine w_ret ok d3_47 (by decide) (by decide) ?_
    refine ⟨rfl, c, (q * 2).toNatClampNeg - vs.length, ge_c, Or.inr szq_c, ne_a_c, Kp, A_a, A_c, fun y => absurd y ?_, ?_, by rw [own_dbl hq0 (by omega)]; omega⟩
    all_goals (have e1 : sz.toNatClampNeg = q.toNatClampNeg := by rw [hc1])
    · omega
    · rw [own_dbl hq0 (by omega)]; omega
def own_max (a b : Int32) : Int32 := if a < b then b else a
theorem d9_0 : decode jdk_29_method_65_code 0 = .ok (.iload_n 0, 1) := by decide +kernel
theorem d9_1 : decode jdk_29_method_65_code 1 = .ok (.iload_n 1, 1) := by decide +kernel
theorem d9_2 : decode jdk_29_method_65_code 2 = .ok (.if_icmp .lt 7, 3) := by decide +kernel
theorem d9_5 : decode jdk_29_method_65_code 5 = .ok (.iload_n 0, 1) := by decide +kernel
theorem d9_6 : decode jdk_29_method_65_code 6 = .ok (.goto 4, 3) := by decide +kernel
theorem d9_9 : decode jdk_29_method_65_code 9 = .ok (.iload_n 1, 1) := by decide +kernel
theorem d9_10 : decode jdk_29_method_65_code 10 = .ok (.ireturn, 1) := by decide +kernel
set_option maxRecDepth 65536 in
set_option maxHeartbeats 40000000 in
theorem rm_max (l : Launch) (Z : State) (a0 : Array Value) (hw : ∀ d ∈ tables_1, d.before a0 Z = true) (ws : List Jvm.Cond) (n0 : Nat) (h0 : Heap) (Z0 : n0 ≤ h0.size) (a b : Int32)  :
    Met l Z n0 (⟨"java/lang/Math", "max", "(II)I"⟩ : MethodName) jdk_29_method_65_code 2 (some .int) ws ({ frames := 0, cells := 0, slots := 0, locals := 0 } : Room) #[(.int a), (.int b)] h0 (fun u h => u = some (.int (own_max a b)) ∧ h0 = h) := by
  refine met_of Z0 (Jvm.Free.JP.mathPlain rfl (by decide +kernel)) (Ls := #[.val (.int a), .val (.int b)]) (fun m => by first | (simp [entryFrame, mkF, argsToLocals, Value.category]; done) | rfl) ?_
  intro K ok
  show W K l _ n0 _ h0 0 0 0 #[.val (.int a), .val (.int b)] []
  refine w_iloadN ok d9_0 rfl ?_
  show W K l _ n0 _ h0 0 0 1 #[.val (.int a), .val (.int b)] [(.int a)]
  refine w_iloadN ok d9_1 rfl ?_
  show W K l _ n0 _ h0 0 0 2 #[.val (.int a), .val (.int b)] [(.int b), (.int a)]
  refine w_icmp_lt ok d9_2 (pc' := 9) (by decide) (fun hc1 => ?_) (fun hc1 => ?_)
  · show W K l _ n0 _ h0 0 0 9 #[.val (.int a), .val (.int b)] []
    refine w_iloadN ok d9_9 rfl ?_
    show W K l _ n0 _ h0 0 0 10 #[.val (.int a), .val (.int b)] [(.int b)]
    refine w_iret ok d9_10 (by decide) (by decide) ?_
    exact ⟨by simp [own_max, *], rfl⟩
  · show W K l _ n0 _ h0 0 0 5 #[.val (.int a), .val (.int b)] []
    refine w_iloadN ok d9_5 rfl ?_
    show W K l _ n0 _ h0 0 0 6 #[.val (.int a), .val (.int b)] [(.int a)]
    refine w_goto ok d9_6 (pc' := 10) (by decide) ?_
    show W K l _ n0 _ h0 0 0 10 #[.val (.int a), .val (.int b)] [(.int a)]
    refine w_iret ok d9_10 (by decide) (by decide) ?_
    exact ⟨by simp [own_max, *], rfl⟩
theorem own_add {a b : Int32} (ha : ¬ a < 0) (hb : ¬ b < 0) (h : a.toNatClampNeg + b.toNatClampNeg < 2147483648) : (a + b).toNatClampNeg = a.toNatClampNeg + b.toNatClampNeg ∧ ¬ a + b < 0 := by
  have e1 := nat_of ha; have e2 := nat_of hb; have e3 := c_iadd a b; have r := rng32 (a + b); have e4 : (0 : Int32).toInt = 0 := rfl
  refine ⟨?_, ?_⟩
  · rw [Int32.toNatClampNeg]; omega
  · rw [Int32.lt_iff_toInt_lt, e4]; omega
theorem own_zmax {q sa sb : Int32} {N : Nat} (hq : N = q.toNatClampNeg) (hq0 : ¬ q < 0) (ha : ¬ sa < 0) (hb : ¬ sb < 0) (hN : N ≤ 16) (hs : sa.toNatClampNeg + sb.toNatClampNeg ≤ 48) (hN1 : 1 ≤ N) (hg : q < sa + sb) :
    N < (own_max (q * 2) (sa + sb)).toNatClampNeg ∧ sa.toNatClampNeg + sb.toNatClampNeg ≤ (own_max (q * 2) (sa + sb)).toNatClampNeg ∧ (own_max (q * 2) (sa + sb)).toNatClampNeg ≤ 48 ∧ ¬ own_max (q * 2) (sa + sb) < 0 := by
  have d := own_dbl hq0 (by omega); have d0 := own_dbl0 hq0 (by omega); have ⟨a1, a2⟩ := own_add ha hb (by omega)
  have e1 := nat_of hq0; have e2 := nat_of d0; have e3 := nat_of a2
  rw [Int32.lt_iff_toInt_lt] at hg
  unfold own_max
  split
  · rename_i c; rw [Int32.lt_iff_toInt_lt] at c; exact ⟨by omega, by omega, by omega, a2⟩
  · rename_i c; rw [Int32.lt_iff_toInt_lt] at c; exact ⟨by omega, by omega, by omega, d0⟩
theorem own_nogr {q sa sb : Int32} {N : Nat} (hq : N = q.toNatClampNeg) (hq0 : ¬ q < 0) (ha : ¬ sa < 0) (hb : ¬ sb < 0) (hs : sa.toNatClampNeg + sb.toNatClampNeg ≤ 48) (hg : ¬ q < sa + sb) : sa.toNatClampNeg + sb.toNatClampNeg ≤ N := by
  have ⟨a1, a2⟩ := own_add ha hb (by omega); have e1 := nat_of hq0; have e3 := nat_of a2
  rw [Int32.lt_iff_toInt_lt] at hg; omega
theorem own_nefr {x r r2 : Addr} {h : Heap} (h1 : x < h.size) (h2 : x ≠ r) (h3 : r2 = r ∨ h.size ≤ r2) : x ≠ r2 := by
  rcases h3 with rfl | h3
  · exact h2
  · exact Nat.ne_of_lt (Nat.lt_of_lt_of_le h1 h3)
theorem d5_0 : decode prog_24_method_6_code 0 = .ok (.aload_n 0, 1) := by decide +kernel
theorem d5_1 : decode prog_24_method_6_code 1 = .ok (.getfield 13, 3) := by decide +kernel
theorem d5_4 : decode prog_24_method_6_code 4 = .ok (.aload_n 1, 1) := by decide +kernel
theorem d5_5 : decode prog_24_method_6_code 5 = .ok (.getfield 13, 3) := by decide +kernel
theorem d5_8 : decode prog_24_method_6_code 8 = .ok (.iadd, 1) := by decide +kernel
theorem d5_9 : decode prog_24_method_6_code 9 = .ok (.aload_n 0, 1) := by decide +kernel
theorem d5_10 : decode prog_24_method_6_code 10 = .ok (.getfield 7, 3) := by decide +kernel
theorem d5_13 : decode prog_24_method_6_code 13 = .ok (.arraylength, 1) := by decide +kernel
theorem d5_14 : decode prog_24_method_6_code 14 = .ok (.if_icmp .le 33, 3) := by decide +kernel
theorem d5_17 : decode prog_24_method_6_code 17 = .ok (.aload_n 0, 1) := by decide +kernel
theorem d5_18 : decode prog_24_method_6_code 18 = .ok (.aload_n 0, 1) := by decide +kernel
theorem d5_19 : decode prog_24_method_6_code 19 = .ok (.getfield 7, 3) := by decide +kernel
theorem d5_22 : decode prog_24_method_6_code 22 = .ok (.aload_n 0, 1) := by decide +kernel
theorem d5_23 : decode prog_24_method_6_code 23 = .ok (.getfield 7, 3) := by decide +kernel
theorem d5_26 : decode prog_24_method_6_code 26 = .ok (.arraylength, 1) := by decide +kernel
theorem d5_27 : decode prog_24_method_6_code 27 = .ok (.iconst 2, 1) := by decide +kernel
theorem d5_28 : decode prog_24_method_6_code 28 = .ok (.imul, 1) := by decide +kernel
theorem d5_29 : decode prog_24_method_6_code 29 = .ok (.aload_n 0, 1) := by decide +kernel
theorem d5_30 : decode prog_24_method_6_code 30 = .ok (.getfield 13, 3) := by decide +kernel
theorem d5_33 : decode prog_24_method_6_code 33 = .ok (.aload_n 1, 1) := by decide +kernel
theorem d5_34 : decode prog_24_method_6_code 34 = .ok (.getfield 13, 3) := by decide +kernel
theorem d5_37 : decode prog_24_method_6_code 37 = .ok (.iadd, 1) := by decide +kernel
theorem d5_38 : decode prog_24_method_6_code 38 = .ok (.invokestatic 23, 3) := by decide +kernel
theorem d5_41 : decode prog_24_method_6_code 41 = .ok (.invokestatic 17, 3) := by decide +kernel
theorem d5_44 : decode prog_24_method_6_code 44 = .ok (.putfield 7, 3) := by decide +kernel
theorem d5_47 : decode prog_24_method_6_code 47 = .ok (.aload_n 1, 1) := by decide +kernel
theorem d5_48 : decode prog_24_method_6_code 48 = .ok (.getfield 7, 3) := by decide +kernel
theorem d5_51 : decode prog_24_method_6_code 51 = .ok (.iconst 0, 1) := by decide +kernel
theorem d5_52 : decode prog_24_method_6_code 52 = .ok (.aload_n 0, 1) := by decide +kernel
theorem d5_53 : decode prog_24_method_6_code 53 = .ok (.getfield 7, 3) := by decide +kernel
theorem d5_56 : decode prog_24_method_6_code 56 = .ok (.aload_n 0, 1) := by decide +kernel
theorem d5_57 : decode prog_24_method_6_code 57 = .ok (.getfield 13, 3) := by decide +kernel
theorem d5_60 : decode prog_24_method_6_code 60 = .ok (.aload_n 1, 1) := by decide +kernel
theorem d5_61 : decode prog_24_method_6_code 61 = .ok (.getfield 13, 3) := by decide +kernel
theorem d5_64 : decode prog_24_method_6_code 64 = .ok (.invokestatic 29, 3) := by decide +kernel
theorem d5_67 : decode prog_24_method_6_code 67 = .ok (.aload_n 0, 1) := by decide +kernel
theorem d5_68 : decode prog_24_method_6_code 68 = .ok (.dup, 1) := by decide +kernel
theorem d5_69 : decode prog_24_method_6_code 69 = .ok (.getfield 13, 3) := by decide +kernel
theorem d5_72 : decode prog_24_method_6_code 72 = .ok (.aload_n 1, 1) := by decide +kernel
theorem d5_73 : decode prog_24_method_6_code 73 = .ok (.getfield 13, 3) := by decide +kernel
theorem d5_76 : decode prog_24_method_6_code 76 = .ok (.iadd, 1) := by decide +kernel
theorem d5_77 : decode prog_24_method_6_code 77 = .ok (.putfield 13, 3) := by decide +kernel
theorem d5_80 : decode prog_24_method_6_code 80 = .ok (.return_, 1) := by decide +kernel
set_option maxRecDepth 65536 in
set_option maxHeartbeats 40000000 in
theorem rm_selfG (l : Launch) (Z : State) (a0 : Array Value) (hw : ∀ d ∈ tables_1, d.before a0 Z = true) (ws : List Jvm.Cond) (n0 : Nat) (h0 : Heap) (Z0 : n0 ≤ h0.size) (a r : Addr) (va : List Value) (sa : Int32) (A_a : Ob Z h0 a "com/example/perx/perx/index/IntList" fl_IntList [.ref r, .int sa]) (A_r : PA .int Z h0 r va) (ge_a : n0 ≤ a) (ge_r : n0 ≤ r) (ne_a_r : a ≠ r) (hsa0 : ¬ sa < 0) (hsa : sa.toNatClampNeg ≤ 16) (hva : va.length = 16)  :
    Met l Z n0 (⟨"com/example/perx/perx/index/IntList", "addAll", "(Lcom/example/perx/perx/index/IntList;)V"⟩ : MethodName) prog_24_method_6_code 2 none ws ({ frames := 2, cells := 1, slots := 48, locals := 33 } : Room) #[(.ref a), (.ref a)] h0 (fun u h => u = none ∧ ∃ r2 w e, w = va ++ List.replicate e (Value.int 0) ∧ sa.toNatClampNeg + sa.toNatClampNeg ≤ w.length ∧ n0 ≤ r2 ∧ (r2 = r ∨ h0.size ≤ r2) ∧ a ≠ r2 ∧ Keep h0 h [a, r] ∧ Ob Z h a "com/example/perx/perx/index/IntList" fl_IntList [.ref r2, .int (sa + sa)] ∧ PA .int Z h r2 (w.take sa.toNatClampNeg ++ w.take sa.toNatClampNeg ++ w.drop (sa.toNatClampNeg + sa.toNatClampNeg))) := by
  refine met_of Z0 (plainFor_of_name pn_com_example_perx_perx_index_IntList) (Ls := #[.val (.ref a), .val (.ref a)]) (fun m => by first | (simp [entryFrame, mkF, argsToLocals, Value.category]; done) | rfl) ?_
  intro K ok
  have Kp : Keep h0 h0 [a, r] := Keep.refl _ _
  obtain ⟨q, hq, hq0⟩ := pa_z A_r.len
  show W K l _ n0 _ h0 0 0 0 #[.val (.ref a), .val (.ref a)] []
  refine w_aloadN ok d5_0 rfl rfl ?_
  show W K l _ n0 _ h0 0 0 1 #[.val (.ref a), .val (.ref a)] [(.ref a)]
  refine w_getfield ok (v := (.int sa)) (host := "") (f := ("com/example/perx/perx/index/IntList", "size", "I", .int)) 1 d5_1 (Or.inl (hw _ (List.mem_of_getElem? (i := 18) rfl))) Via.refl A_a rfl rfl ?_
  show W K l _ n0 _ h0 0 0 4 #[.val (.ref a), .val (.ref a)] [(.int sa)]
  refine w_aloadN ok d5_4 rfl rfl ?_
  show W K l _ n0 _ h0 0 0 5 #[.val (.ref a), .val (.ref a)] [(.ref a), (.int sa)]
  refine w_getfield ok (v := (.int sa)) (host := "") (f := ("com/example/perx/perx/index/IntList", "size", "I", .int)) 1 d5_5 (Or.inl (hw _ (List.mem_of_getElem? (i := 18) rfl))) Via.refl A_a rfl rfl ?_
  show W K l _ n0 _ h0 0 0 8 #[.val (.ref a), .val (.ref a)] [(.int sa), (.int sa)]
  refine w_iadd ok d5_8 ?_
  show W K l _ n0 _ h0 0 0 9 #[.val (.ref a), .val (.ref a)] [(.int (sa + sa))]
  refine w_aloadN ok d5_9 rfl rfl ?_
  show W K l _ n0 _ h0 0 0 10 #[.val (.ref a), .val (.ref a)] [(.ref a), (.int (sa + sa))]
  refine w_getfield ok (v := (.ref r)) (host := "") (f := ("com/example/perx/perx/index/IntList", "values", "[I", (.array .int))) 0 d5_10 (Or.inl (hw _ (List.mem_of_getElem? (i := 11) rfl))) Via.refl A_a rfl rfl ?_
  show W K l _ n0 _ h0 0 0 13 #[.val (.ref a), .val (.ref a)] [(.ref r), (.int (sa + sa))]
  refine w_arraylength ok (z := q) d5_13 A_r hq hq0 ?_
  show W K l _ n0 _ h0 0 0 14 #[.val (.ref a), .val (.ref a)] [(.int q), (.int (sa + sa))]
  refine w_icmp_le ok d5_14 (pc' := 47) (by decide) (fun hc1 => ?_) (fun hc1 => ?_)
  · show W K l _ n0 _ h0 0 0 47 #[.val (.ref a), .val (.ref a)] []
    refine w_aloadN ok d5_47 rfl rfl ?_
    show W K l _ n0 _ h0 0 0 48 #[.val (.ref a), .val (.ref a)] [(.ref a)]
    refine w_getfield ok (v := (.ref r)) (host := "") (f := ("com/example/perx/perx/index/IntList", "values", "[I", (.array .int))) 0 d5_48 (Or.inl (hw _ (List.mem_of_getElem? (i := 11) rfl))) Via.refl A_a rfl rfl ?_
    show W K l _ n0 _ h0 0 0 51 #[.val (.ref a), .val (.ref a)] [(.ref r)]
    refine w_iconst ok d5_51 (v := (0 : Int32)) rfl ?_
    show W K l _ n0 _ h0 0 0 52 #[.val (.ref a), .val (.ref a)] [(.int (0 : Int32)), (.ref r)]
    refine w_aloadN ok d5_52 rfl rfl ?_
    show W K l _ n0 _ h0 0 0 53 #[.val (.ref a), .val (.ref a)] [(.ref a), (.int (0 : Int32)), (.ref r)]
    refine w_getfield ok (v := (.ref r)) (host := "") (f := ("com/example/perx/perx/index/IntList", "values", "[I", (.array .int))) 0 d5_53 (Or.inl (hw _ (List.mem_of_getElem? (i := 11) rfl))) Via.refl A_a rfl rfl ?_
    show W K l _ n0 _ h0 0 0 56 #[.val (.ref a), .val (.ref a)] [(.ref r), (.int (0 : Int32)), (.ref r)]
    refine w_aloadN ok d5_56 rfl rfl ?_
    show W K l _ n0 _ h0 0 0 57 #[.val (.ref a), .val (.ref a)] [(.ref a), (.ref r), (.int (0 : Int32)), (.ref r)]
    refine w_getfield ok (v := (.int sa)) (host := "") (f := ("com/example/perx/perx/index/IntList", "size", "I", .int)) 1 d5_57 (Or.inl (hw _ (List.mem_of_getElem? (i := 18) rfl))) Via.refl A_a rfl rfl ?_
    show W K l _ n0 _ h0 0 0 60 #[.val (.ref a), .val (.ref a)] [(.int sa), (.ref r), (.int (0 : Int32)), (.ref r)]
    refine w_aloadN ok d5_60 rfl rfl ?_
    show W K l _ n0 _ h0 0 0 61 #[.val (.ref a), .val (.ref a)] [(.ref a), (.int sa), (.ref r), (.int (0 : Int32)), (.ref r)]
    refine w_getfield ok (v := (.int sa)) (host := "") (f := ("com/example/perx/perx/index/IntList", "size", "I", .int)) 1 d5_61 (Or.inl (hw _ (List.mem_of_getElem? (i := 18) rfl))) Via.refl A_a rfl rfl ?_
    show W K l _ n0 _ h0 0 0 64 #[.val (.ref a), .val (.ref a)] [(.int sa), (.int sa), (.ref r), (.int (0 : Int32)), (.ref r)]
    have ng := own_nogr hq hq0 hsa0 hsa0 (by omega) hc1
    refine w_arraycopy ok (sp' := 0) (dp' := sa.toNatClampNeg) (nn' := sa.toNatClampNeg) d5_64 (hw _ (List.mem_of_getElem? (i := 30) rfl)) (hw _ (List.mem_of_getElem? (i := 33) rfl)) (hw _ (List.mem_of_getElem? (i := 31) rfl)) (hw _ (List.mem_of_getElem? (i := 32) rfl)) A_r A_r rfl ge_r (by decide) hsa0 hsa0 rfl rfl rfl (by rw [Nat.zero_add]; exact (by omega)) ng rfl (by decide) (Nat.le_of_ble_eq_true rfl) (fun h2 K_h2 A1_h2 => ?_)
    replace Kp := Kp.trans K_h2 (allS (Or.inl (by simp)) all0)
    replace A_a := A_a.keep K_h2 (ninS ne_a_r nin0)
    replace A_r : PA .int Z h2 r (va.take sa.toNatClampNeg ++ va.take sa.toNatClampNeg ++ va.drop (sa.toNatClampNeg + sa.toNatClampNeg)) := (by rw [List.drop_zero] at A1_h2; exact A1_h2)
    show W K l _ n0 _ h2 0 0 67 #[.val (.ref a), .val (.ref a)] []
    refine w_aloadN ok d5_67 rfl rfl ?_
    show W K l _ n0 _ h2 0 0 68 #[.val (.ref a), .val (.ref a)] [(.ref a)]
    refine w_dup ok d5_68 rfl ?_
    show W K l _ n0 _ h2 0 0 69 #[.val (.ref a), .val (.ref a)] [(.ref a), (.ref a)]
    refine w_getfield ok (v := (.int sa)) (host := "") (f := ("com/example/perx/perx/index/IntList", "size", "I", .int)) 1 d5_69 (Or.inl (hw _ (List.mem_of_getElem? (i := 18) rfl))) Via.refl A_a rfl rfl ?_
    show W K l _ n0 _ h2 0 0 72 #[.val (.ref a), .val (.ref a)] [(.int sa), (.ref a)]
    refine w_aloadN ok d5_72 rfl rfl ?_
    show W K l _ n0 _ h2 0 0 73 #[.val (.ref a), .val (.ref a)] [(.ref a), (.int sa), (.ref a)]
    refine w_getfield ok (v := (.int sa)) (host := "") (f := ("com/example/perx/perx/index/IntList", "size", "I", .int)) 1 d5_73 (Or.inl (hw _ (List.mem_of_getElem? (i := 18) rfl))) Via.refl A_a rfl rfl ?_
    show W K l _ n0 _ h2 0 0 76 #[.val (.ref a), .val (.ref a)] [(.int sa), (.int sa), (.ref a)]
    refine w_iadd ok d5_76 ?_
    show W K l _ n0 _ h2 0 0 77 #[.val (.ref a), .val (.ref a)] [(.int (sa + sa)), (.ref a)]
    refine w_putfield ok (host := "") (f := ("com/example/perx/perx/index/IntList", "size", "I", .int)) 1 d5_77 (Or.inl (hw _ (List.mem_of_getElem? (i := 18) rfl))) Via.refl A_a (la_IntList hw) rfl rfl (Or.inl (hw _ (List.mem_of_getElem? (i := 19) rfl))) (hw _ (List.mem_of_getElem? (i := 2) rfl)) rfl rfl ge_a (fun h3 W_h3 A1_h3 => ?_)
    replace Kp := Kp.wr W_h3 (Or.inl (by simp))
    replace A_r := A_r.other W_h3 (Ne.symm ne_a_r)
    replace A_a : Ob Z h3 a "com/example/perx/perx/index/IntList" fl_IntList [(.ref r), (.int (sa + sa))] := A1_h3
    show W K l _ n0 _ h3 0 0 80 #[.val (.ref a), .val (.ref a)] []
    refine w_ret ok d5_80 (by decide) (by decide) ?_
    exact ⟨rfl, r, va, 0, by simp, ng, ge_r, Or.inl rfl, ne_a_r, Kp, A_a, A_r⟩
  · show W K l _ n0 _ h0 0 0 17 #[.val (.ref a), .val (.ref a)] []
    refine w_aloadN ok d5_17 rfl rfl ?_
    show W K l _ n0 _ h0 0 0 18 #[.val (.ref a), .val (.ref a)] [(.ref a)]
    refine w_aloadN ok d5_18 rfl rfl ?_
    show W K l _ n0 _ h0 0 0 19 #[.val (.ref a), .val (.ref a)] [(.ref a), (.ref a)]
    refine w_getfield ok (v := (.ref r)) (host := "") (f := ("com/example/perx/perx/index/IntList", "values", "[I", (.array .int))) 0 d5_19 (Or.inl (hw _ (List.mem_of_getElem? (i := 11) rfl))) Via.refl A_a rfl rfl ?_
    show W K l _ n0 _ h0 0 0 22 #[.val (.ref a), .val (.ref a)] [(.ref r), (.ref a)]
    refine w_aloadN ok d5_22 rfl rfl ?_
    show W K l _ n0 _ h0 0 0 23 #[.val (.ref a), .val (.ref a)] [(.ref a), (.ref r), (.ref a)]
    refine w_getfield ok (v := (.ref r)) (host := "") (f := ("com/example/perx/perx/index/IntList", "values", "[I", (.array .int))) 0 d5_23 (Or.inl (hw _ (List.mem_of_getElem? (i := 11) rfl))) Via.refl A_a rfl rfl ?_
    show W K l _ n0 _ h0 0 0 26 #[.val (.ref a), .val (.ref a)] [(.ref r), (.ref r), (.ref a)]
    refine w_arraylength ok (z := q) d5_26 A_r hq hq0 ?_
    show W K l _ n0 _ h0 0 0 27 #[.val (.ref a), .val (.ref a)] [(.int q), (.ref r), (.ref a)]
    refine w_iconst ok d5_27 (v := (2 : Int32)) rfl ?_
    show W K l _ n0 _ h0 0 0 28 #[.val (.ref a), .val (.ref a)] [(.int (2 : Int32)), (.int q), (.ref r), (.ref a)]
    refine w_imul ok d5_28 ?_
    show W K l _ n0 _ h0 0 0 29 #[.val (.ref a), .val (.ref a)] [(.int (q * (2 : Int32))), (.ref r), (.ref a)]
    refine w_aloadN ok d5_29 rfl rfl ?_
    show W K l _ n0 _ h0 0 0 30 #[.val (.ref a), .val (.ref a)] [(.ref a), (.int (q * (2 : Int32))), (.ref r), (.ref a)]
    refine w_getfield ok (v := (.int sa)) (host := "") (f := ("com/example/perx/perx/index/IntList", "size", "I", .int)) 1 d5_30 (Or.inl (hw _ (List.mem_of_getElem? (i := 18) rfl))) Via.refl A_a rfl rfl ?_
    show W K l _ n0 _ h0 0 0 33 #[.val (.ref a), .val (.ref a)] [(.int sa), (.int (q * (2 : Int32))), (.ref r), (.ref a)]
    refine w_aloadN ok d5_33 rfl rfl ?_
    show W K l _ n0 _ h0 0 0 34 #[.val (.ref a), .val (.ref a)] [(.ref a), (.int sa), (.int (q * (2 : Int32))), (.ref r), (.ref a)]
    refine w_getfield ok (v := (.int sa)) (host := "") (f := ("com/example/perx/perx/index/IntList", "size", "I", .int)) 1 d5_34 (Or.inl (hw _ (List.mem_of_getElem? (i := 18) rfl))) Via.refl A_a rfl rfl ?_
    show W K l _ n0 _ h0 0 0 37 #[.val (.ref a), .val (.ref a)] [(.int sa), (.int sa), (.int (q * (2 : Int32))), (.ref r), (.ref a)]
    refine w_iadd ok d5_37 ?_
    show W K l _ n0 _ h0 0 0 38 #[.val (.ref a), .val (.ref a)] [(.int (sa + sa)), (.int (q * (2 : Int32))), (.ref r), (.ref a)]
    refine w_callS ok (y := (⟨"java/lang/Math", "max", "(II)I"⟩ : MethodName)) (argsL := [(.int (q * (2 : Int32))), (.int (sa + sa))]) (rest := [(.ref r), (.ref a)]) d5_38 (hw _ (List.mem_of_getElem? (i := 48) rfl)) (hw _ (List.mem_of_getElem? (i := 49) rfl)) (hw _ (List.mem_of_getElem? (i := 50) rfl)) (hw _ (List.mem_of_getElem? (i := 51) rfl)) (by decide) pd_28II29I rfl rfl (by decide) (Nat.le_of_ble_eq_true rfl) (by decide) (by decide) (fun z0 => rm_max l Z a0 hw [] n0 h0 z0 (q * (2 : Int32)) (sa + sa)) (fun v4 h5 qv4 => ?_)
    obtain ⟨rfl, rfl⟩ := qv4
    show W K l _ n0 _ h0 0 0 41 #[.val (.ref a), .val (.ref a)] [(.int (own_max (q * (2 : Int32)) (sa + sa))), (.ref r), (.ref a)]
    obtain ⟨z1, z2, z3, z4⟩ := own_zmax hq hq0 hsa0 hsa0 (by omega) (by omega) (by omega) hc1
    refine w_callS ok (y := (⟨"java/util/Arrays", "copyOf", "([II)[I"⟩ : MethodName)) (argsL := [(.ref r), (.int (own_max (q * (2 : Int32)) (sa + sa)))]) (rest := [(.ref a)]) d5_41 (hw _ (List.mem_of_getElem? (i := 52) rfl)) (hw _ (List.mem_of_getElem? (i := 53) rfl)) (hw _ (List.mem_of_getElem? (i := 54) rfl)) (hw _ (List.mem_of_getElem? (i := 55) rfl)) (by decide) pd_285bII295bI rfl rfl (by decide) (Nat.le_of_ble_eq_true rfl) (by decide) (by decide) (fun z0 => cp_int l Z a0 hw [] n0 h0 z0 r va (own_max (q * (2 : Int32)) (sa + sa)) A_r z1 z4 z3) (fun v6 h7 qv6 => ?_)
    obtain ⟨c, rfl, sz_c, ge_c, K1, A_c⟩ := qv6
    have ne_a_c : a ≠ c := Nat.ne_of_lt (Nat.lt_of_lt_of_le A_a.lt sz_c)
    have ne_r_c : r ≠ c := Nat.ne_of_lt (Nat.lt_of_lt_of_le A_r.lt sz_c)
    have szq_c : h0.size ≤ c := Nat.le_trans Kp.1 sz_c
    replace Kp := Kp.trans K1 all0
    replace A_a := A_a.keep K1 nin0
    replace A_r := A_r.keep K1 nin0
    show W K l _ n0 _ h7 1 48 44 #[.val (.ref a), .val (.ref a)] [(.ref c), (.ref a)]
    refine w_putfield ok (host := "") (f := ("com/example/perx/perx/index/IntList", "values", "[I", (.array .int))) 0 d5_44 (Or.inl (hw _ (List.mem_of_getElem? (i := 11) rfl))) Via.refl A_a (la_IntList hw) rfl rfl (Or.inl (hw _ (List.mem_of_getElem? (i := 12) rfl))) (hw _ (List.mem_of_getElem? (i := 2) rfl)) rfl rfl ge_a (fun h8 W_h8 A1_h8 => ?_)
    replace Kp := Kp.wr W_h8 (Or.inl (by simp))
    replace A_r := A_r.other W_h8 (Ne.symm ne_a_r)
    replace A_c := A_c.other W_h8 (Ne.symm ne_a_c)
    replace A_a : Ob Z h8 a "com/example/perx/perx/index/IntList" fl_IntList [(.ref c), (.int sa)] := A1_h8
    show W K l _ n0 _ h8 1 48 47 #[.val (.ref a), .val (.ref a)] []
    refine w_aloadN ok d5_47 rfl rfl ?_
    show W K l _ n0 _ h8 1 48 48 #[.val (.ref a), .val (.ref a)] [(.ref a)]
    refine w_getfield ok (v := (.ref c)) (host := "") (f := ("com/example/perx/perx/index/IntList", "values", "[I", (.array .int))) 0 d5_48 (Or.inl (hw _ (List.mem_of_getElem? (i := 11) rfl))) Via.refl A_a rfl rfl ?_
    show W K l _ n0 _ h8 1 48 51 #[.val (.ref a), .val (.ref a)] [(.ref c)]
    refine w_iconst ok d5_51 (v := (0 : Int32)) rfl ?_
    show W K l _ n0 _ h8 1 48 52 #[.val (.ref a), .val (.ref a)] [(.int (0 : Int32)), (.ref c)]
    refine w_aloadN ok d5_52 rfl rfl ?_
    show W K l _ n0 _ h8 1 48 53 #[.val (.ref a), .val (.ref a)] [(.ref a), (.int (0 : Int32)), (.ref c)]
    refine w_getfield ok (v := (.ref c)) (host := "") (f := ("com/example/perx/perx/index/IntList", "values", "[I", (.array .int))) 0 d5_53 (Or.inl (hw _ (List.mem_of_getElem? (i := 11) rfl))) Via.refl A_a rfl rfl ?_
    show W K l _ n0 _ h8 1 48 56 #[.val (.ref a), .val (.ref a)] [(.ref c), (.int (0 : Int32)), (.ref c)]
    refine w_aloadN ok d5_56 rfl rfl ?_
    show W K l _ n0 _ h8 1 48 57 #[.val (.ref a), .val (.ref a)] [(.ref a), (.ref c), (.int (0 : Int32)), (.ref c)]
    refine w_getfield ok (v := (.int sa)) (host := "") (f := ("com/example/perx/perx/index/IntList", "size", "I", .int)) 1 d5_57 (Or.inl (hw _ (List.mem_of_getElem? (i := 18) rfl))) Via.refl A_a rfl rfl ?_
    show W K l _ n0 _ h8 1 48 60 #[.val (.ref a), .val (.ref a)] [(.int sa), (.ref c), (.int (0 : Int32)), (.ref c)]
    refine w_aloadN ok d5_60 rfl rfl ?_
    show W K l _ n0 _ h8 1 48 61 #[.val (.ref a), .val (.ref a)] [(.ref a), (.int sa), (.ref c), (.int (0 : Int32)), (.ref c)]
    refine w_getfield ok (v := (.int sa)) (host := "") (f := ("com/example/perx/perx/index/IntList", "size", "I", .int)) 1 d5_61 (Or.inl (hw _ (List.mem_of_getElem? (i := 18) rfl))) Via.refl A_a rfl rfl ?_
    show W K l _ n0 _ h8 1 48 64 #[.val (.ref a), .val (.ref a)] [(.int sa), (.int sa), (.ref c), (.int (0 : Int32)), (.ref c)]
    refine w_arraycopy ok (sp' := 0) (dp' := sa.toNatClampNeg) (nn' := sa.toNatClampNeg) d5_64 (hw _ (List.mem_of_getElem? (i := 30) rfl)) (hw _ (List.mem_of_getElem? (i := 33) rfl)) (hw _ (List.mem_of_getElem? (i := 31) rfl)) (hw _ (List.mem_of_getElem? (i := 32) rfl)) A_c A_c rfl ge_c (by decide) hsa0 hsa0 rfl rfl rfl (by rw [Nat.zero_add]; exact (by simp; omega)) (by simp; omega) rfl (by decide) (Nat.le_of_ble_eq_true rfl) (fun h9 K_h9 A1_h9 => ?_)
    replace Kp := Kp.trans K_h9 (allS (Or.inr szq_c) all0)
    replace A_a := A_a.keep K_h9 (ninS ne_a_c nin0)
    replace A_r := A_r.keep K_h9 (ninS ne_r_c nin0)
    replace A_c : PA .int Z h9 c ((va ++ List.replicate ((own_max (q * (2 : Int32)) (sa + sa)).toNatClampNeg - va.length) (Value.int 0)).take sa.toNatClampNeg ++ (va ++ List.replicate ((own_max (q * (2 : Int32)) (sa + sa)).toNatClampNeg - va.length) (Value.int 0)).take sa.toNatClampNeg ++ (va ++ List.replicate ((own_max (q * (2 : Int32)) (sa + sa)).toNatClampNeg - va.length) (Value.int 0)).drop (sa.toNatClampNeg + sa.toNatClampNeg)) := (by rw [List.drop_zero] at A1_h9; exact A1_h9)
    show W K l _ n0 _ h9 1 48 67 #[.val (.ref a), .val (.ref a)] []
    refine w_aloadN ok d5_67 rfl rfl ?_
    show W K l _ n0 _ h9 1 48 68 #[.val (.ref a), .val (.ref a)] [(.ref a)]
    refine w_dup ok d5_68 rfl ?_
    show W K l _ n0 _ h9 1 48 69 #[.val (.ref a), .val (.ref a)] [(.ref a), (.ref a)]
    refine w_getfield ok (v := (.int sa)) (host := "") (f := ("com/example/perx/perx/index/IntList", "size", "I", .int)) 1 d5_69 (Or.inl (hw _ (List.mem_of_getElem? (i := 18) rfl))) Via.refl A_a rfl rfl ?_
    show W K l _ n0 _ h9 1 48 72 #[.val (.ref a), .val (.ref a)] [(.int sa), (.ref a)]
    refine w_aloadN ok d5_72 rfl rfl ?_
    show W K l _ n0 _ h9 1 48 73 #[.val (.ref a), .val (.ref a)] [(.ref a), (.int sa), (.ref a)]
    refine w_getfield ok (v := (.int sa)) (host := "") (f := ("com/example/perx/perx/index/IntList", "size", "I", .int)) 1 d5_73 (Or.inl (hw _ (List.mem_of_getElem? (i := 18) rfl))) Via.refl A_a rfl rfl ?_
    show W K l _ n0 _ h9 1 48 76 #[.val (.ref a), .val (.ref a)] [(.int sa), (.int sa), (.ref a)]
    refine w_iadd ok d5_76 ?_
    show W K l _ n0 _ h9 1 48 77 #[.val (.ref a), .val (.ref a)] [(.int (sa + sa)), (.ref a)]
    refine w_putfield ok (host := "") (f := ("com/example/perx/perx/index/IntList", "size", "I", .int)) 1 d5_77 (Or.inl (hw _ (List.mem_of_getElem? (i := 18) rfl))) Via.refl A_a (la_IntList hw) rfl rfl (Or.inl (hw _ (List.mem_of_getElem? (i := 19) rfl))) (hw _ (List.mem_of_getElem? (i := 2) rfl)) rfl rfl ge_a (fun h10 W_h10 A1_h10 => ?_)
    replace Kp := Kp.wr W_h10 (Or.inl (by simp))
    replace A_r := A_r.other W_h10 (Ne.symm ne_a_r)
    replace A_c := A_c.other W_h10 (Ne.symm ne_a_c)
    replace A_a : Ob Z h10 a "com/example/perx/perx/index/IntList" fl_IntList [(.ref c), (.int (sa + sa))] := A1_h10
    show W K l _ n0 _ h10 1 48 80 #[.val (.ref a), .val (.ref a)] []
    refine w_ret ok d5_80 (by decide) (by decide) ?_
    exact ⟨rfl, c, _, _, rfl, by simp; omega, ge_c, Or.inr szq_c, ne_a_c, Kp, A_a, A_c⟩
set_option maxRecDepth 65536 in
set_option maxHeartbeats 40000000 in
theorem rm_allG (l : Launch) (Z : State) (a0 : Array Value) (hw : ∀ d ∈ tables_1, d.before a0 Z = true) (ws : List Jvm.Cond) (n0 : Nat) (h0 : Heap) (Z0 : n0 ≤ h0.size) (a r b t : Addr) (va vb : List Value) (sa sb : Int32) (A_a : Ob Z h0 a "com/example/perx/perx/index/IntList" fl_IntList [.ref r, .int sa]) (A_r : PA .int Z h0 r va) (A_b : Ob Z h0 b "com/example/perx/perx/index/IntList" fl_IntList [.ref t, .int sb]) (A_t : PA .int Z h0 t vb) (ge_a : n0 ≤ a) (ge_r : n0 ≤ r) (ne_a_r : a ≠ r) (ne_a_b : a ≠ b) (ne_a_t : a ≠ t) (ne_r_b : r ≠ b) (ne_r_t : r ≠ t) (hsa0 : ¬ sa < 0) (hsa : sa.toNatClampNeg ≤ 16) (hva : va.length = 16) (hsb0 : ¬ sb < 0) (hsb : sb.toNatClampNeg ≤ vb.length) (hsb2 : sb.toNatClampNeg ≤ 32)  :
    Met l Z n0 (⟨"com/example/perx/perx/index/IntList", "addAll", "(Lcom/example/perx/perx/index/IntList;)V"⟩ : MethodName) prog_24_method_6_code 2 none ws ({ frames := 2, cells := 1, slots := 48, locals := 33 } : Room) #[(.ref a), (.ref b)] h0 (fun u h => u = none ∧ ∃ r2 w e, w = va ++ List.replicate e (Value.int 0) ∧ sa.toNatClampNeg + sb.toNatClampNeg ≤ w.length ∧ n0 ≤ r2 ∧ (r2 = r ∨ h0.size ≤ r2) ∧ a ≠ r2 ∧ Keep h0 h [a, r] ∧ Ob Z h a "com/example/perx/perx/index/IntList" fl_IntList [.ref r2, .int (sa + sb)] ∧ PA .int Z h r2 (w.take sa.toNatClampNeg ++ vb.take sb.toNatClampNeg ++ w.drop (sa.toNatClampNeg + sb.toNatClampNeg))) := by
  refine met_of Z0 (plainFor_of_name pn_com_example_perx_perx_index_IntList) (Ls := #[.val (.ref a), .val (.ref b)]) (fun m => by first | (simp [entryFrame, mkF, argsToLocals, Value.category]; done) | rfl) ?_
  intro K ok
  have Kp : Keep h0 h0 [a, r] := Keep.refl _ _
  obtain ⟨q, hq, hq0⟩ := pa_z A_r.len
  show W K l _ n0 _ h0 0 0 0 #[.val (.ref a), .val (.ref b)] []
  refine w_aloadN ok d5_0 rfl rfl ?_
  show W K l _ n0 _ h0 0 0 1 #[.val (.ref a), .val (.ref b)] [(.ref a)]
  refine w_getfield ok (v := (.int sa)) (host := "") (f := ("com/example/perx/perx/index/IntList", "size", "I", .int)) 1 d5_1 (Or.inl (hw _ (List.mem_of_getElem? (i := 18) rfl))) Via.refl A_a rfl rfl ?_
  show W K l _ n0 _ h0 0 0 4 #[.val (.ref a), .val (.ref b)] [(.int sa)]
  refine w_aloadN ok d5_4 rfl rfl ?_
  show W K l _ n0 _ h0 0 0 5 #[.val (.ref a), .val (.ref b)] [(.ref b), (.int sa)]
  refine w_getfield ok (v := (.int sb)) (host := "") (f := ("com/example/perx/perx/index/IntList", "size", "I", .int)) 1 d5_5 (Or.inl (hw _ (List.mem_of_getElem? (i := 18) rfl))) Via.refl A_b rfl rfl ?_
  show W K l _ n0 _ h0 0 0 8 #[.val (.ref a), .val (.ref b)] [(.int sb), (.int sa)]
  refine w_iadd ok d5_8 ?_
  show W K l _ n0 _ h0 0 0 9 #[.val (.ref a), .val (.ref b)] [(.int (sa + sb))]
  refine w_aloadN ok d5_9 rfl rfl ?_
  show W K l _ n0 _ h0 0 0 10 #[.val (.ref a), .val (.ref b)] [(.ref a), (.int (sa + sb))]
  refine w_getfield ok (v := (.ref r)) (host := "") (f := ("com/example/perx/perx/index/IntList", "values", "[I", (.array .int))) 0 d5_10 (Or.inl (hw _ (List.mem_of_getElem? (i := 11) rfl))) Via.refl A_a rfl rfl ?_
  show W K l _ n0 _ h0 0 0 13 #[.val (.ref a), .val (.ref b)] [(.ref r), (.int (sa + sb))]
  refine w_arraylength ok (z := q) d5_13 A_r hq hq0 ?_
  show W K l _ n0 _ h0 0 0 14 #[.val (.ref a), .val (.ref b)] [(.int q), (.int (sa + sb))]
  refine w_icmp_le ok d5_14 (pc' := 47) (by decide) (fun hc1 => ?_) (fun hc1 => ?_)
  · show W K l _ n0 _ h0 0 0 47 #[.val (.ref a), .val (.ref b)] []
    refine w_aloadN ok d5_47 rfl rfl ?_
    show W K l _ n0 _ h0 0 0 48 #[.val (.ref a), .val (.ref b)] [(.ref b)]
    refine w_getfield ok (v := (.ref t)) (host := "") (f := ("com/example/perx/perx/index/IntList", "values", "[I", (.array .int))) 0 d5_48 (Or.inl (hw _ (List.mem_of_getElem? (i := 11) rfl))) Via.refl A_b rfl rfl ?_
    show W K l _ n0 _ h0 0 0 51 #[.val (.ref a), .val (.ref b)] [(.ref t)]
    refine w_iconst ok d5_51 (v := (0 : Int32)) rfl ?_
    show W K l _ n0 _ h0 0 0 52 #[.val (.ref a), .val (.ref b)] [(.int (0 : Int32)), (.ref t)]
    refine w_aloadN ok d5_52 rfl rfl ?_
    show W K l _ n0 _ h0 0 0 53 #[.val (.ref a), .val (.ref b)] [(.ref a), (.int (0 : Int32)), (.ref t)]
    refine w_getfield ok (v := (.ref r)) (host := "") (f := ("com/example/perx/perx/index/IntList", "values", "[I", (.array .int))) 0 d5_53 (Or.inl (hw _ (List.mem_of_getElem? (i := 11) rfl))) Via.refl A_a rfl rfl ?_
    show W K l _ n0 _ h0 0 0 56 #[.val (.ref a), .val (.ref b)] [(.ref r), (.int (0 : Int32)), (.ref t)]
    refine w_aloadN ok d5_56 rfl rfl ?_
    show W K l _ n0 _ h0 0 0 57 #[.val (.ref a), .val (.ref b)] [(.ref a), (.ref r), (.int (0 : Int32)), (.ref t)]
    refine w_getfield ok (v := (.int sa)) (host := "") (f := ("com/example/perx/perx/index/IntList", "size", "I", .int)) 1 d5_57 (Or.inl (hw _ (List.mem_of_getElem? (i := 18) rfl))) Via.refl A_a rfl rfl ?_
    show W K l _ n0 _ h0 0 0 60 #[.val (.ref a), .val (.ref b)] [(.int sa), (.ref r), (.int (0 : Int32)), (.ref t)]
    refine w_aloadN ok d5_60 rfl rfl ?_
    show W K l _ n0 _ h0 0 0 61 #[.val (.ref a), .val (.ref b)] [(.ref b), (.int sa), (.ref r), (.int (0 : Int32)), (.ref t)]
    refine w_getfield ok (v := (.int sb)) (host := "") (f := ("com/example/perx/perx/index/IntList", "size", "I", .int)) 1 d5_61 (Or.inl (hw _ (List.mem_of_getElem? (i := 18) rfl))) Via.refl A_b rfl rfl ?_
    show W K l _ n0 _ h0 0 0 64 #[.val (.ref a), .val (.ref b)] [(.int sb), (.int sa), (.ref r), (.int (0 : Int32)), (.ref t)]
    have ng := own_nogr hq hq0 hsa0 hsb0 (by omega) hc1
    refine w_arraycopy ok (sp' := 0) (dp' := sa.toNatClampNeg) (nn' := sb.toNatClampNeg) d5_64 (hw _ (List.mem_of_getElem? (i := 30) rfl)) (hw _ (List.mem_of_getElem? (i := 33) rfl)) (hw _ (List.mem_of_getElem? (i := 31) rfl)) (hw _ (List.mem_of_getElem? (i := 32) rfl)) A_t A_r rfl ge_r (by decide) hsa0 hsb0 rfl rfl rfl (by rw [Nat.zero_add]; exact hsb) ng rfl (by decide) (Nat.le_of_ble_eq_true rfl) (fun h2 K_h2 A1_h2 => ?_)
    replace Kp := Kp.trans K_h2 (allS (Or.inl (by simp)) all0)
    replace A_a := A_a.keep K_h2 (ninS ne_a_r nin0)
    replace A_b := A_b.keep K_h2 (ninS (Ne.symm ne_r_b) nin0)
    replace A_t := A_t.keep K_h2 (ninS (Ne.symm ne_r_t) nin0)
    replace A_r : PA .int Z h2 r (va.take sa.toNatClampNeg ++ vb.take sb.toNatClampNeg ++ va.drop (sa.toNatClampNeg + sb.toNatClampNeg)) := (by rw [List.drop_zero] at A1_h2; exact A1_h2)
    show W K l _ n0 _ h2 0 0 67 #[.val (.ref a), .val (.ref b)] []
    refine w_aloadN ok d5_67 rfl rfl ?_
    show W K l _ n0 _ h2 0 0 68 #[.val (.ref a), .val (.ref b)] [(.ref a)]
    refine w_dup ok d5_68 rfl ?_
    show W K l _ n0 _ h2 0 0 69 #[.val (.ref a), .val (.ref b)] [(.ref a), (.ref a)]
    refine w_getfield ok (v := (.int sa)) (host := "") (f := ("com/example/perx/perx/index/IntList", "size", "I", .int)) 1 d5_69 (Or.inl (hw _ (List.mem_of_getElem? (i := 18) rfl))) Via.refl A_a rfl rfl ?_
    show W K l _ n0 _ h2 0 0 72 #[.val (.ref a), .val (.ref b)] [(.int sa), (.ref a)]
    refine w_aloadN ok d5_72 rfl rfl ?_
    show W K l _ n0 _ h2 0 0 73 #[.val (.ref a), .val (.ref b)] [(.ref b), (.int sa), (.ref a)]
    refine w_getfield ok (v := (.int sb)) (host := "") (f := ("com/example/perx/perx/index/IntList", "size", "I", .int)) 1 d5_73 (Or.inl (hw _ (List.mem_of_getElem? (i := 18) rfl))) Via.refl A_b rfl rfl ?_
    show W K l _ n0 _ h2 0 0 76 #[.val (.ref a), .val (.ref b)] [(.int sb), (.int sa), (.ref a)]
    refine w_iadd ok d5_76 ?_
    show W K l _ n0 _ h2 0 0 77 #[.val (.ref a), .val (.ref b)] [(.int (sa + sb)), (.ref a)]
    refine w_putfield ok (host := "") (f := ("com/example/perx/perx/index/IntList", "size", "I", .int)) 1 d5_77 (Or.inl (hw _ (List.mem_of_getElem? (i := 18) rfl))) Via.refl A_a (la_IntList hw) rfl rfl (Or.inl (hw _ (List.mem_of_getElem? (i := 19) rfl))) (hw _ (List.mem_of_getElem? (i := 2) rfl)) rfl rfl ge_a (fun h3 W_h3 A1_h3 => ?_)
    replace Kp := Kp.wr W_h3 (Or.inl (by simp))
    replace A_r := A_r.other W_h3 (Ne.symm ne_a_r)
    replace A_b := A_b.other W_h3 (Ne.symm ne_a_b)
    replace A_t := A_t.other W_h3 (Ne.symm ne_a_t)
    replace A_a : Ob Z h3 a "com/example/perx/perx/index/IntList" fl_IntList [(.ref r), (.int (sa + sb))] := A1_h3
    show W K l _ n0 _ h3 0 0 80 #[.val (.ref a), .val (.ref b)] []
    refine w_ret ok d5_80 (by decide) (by decide) ?_
    exact ⟨rfl, r, va, 0, by simp, ng, ge_r, Or.inl rfl, ne_a_r, Kp, A_a, A_r⟩
  · show W K l _ n0 _ h0 0 0 17 #[.val (.ref a), .val (.ref b)] []
    refine w_aloadN ok d5_17 rfl rfl ?_
    show W K l _ n0 _ h0 0 0 18 #[.val (.ref a), .val (.ref b)] [(.ref a)]
    refine w_aloadN ok d5_18 rfl rfl ?_
    show W K l _ n0 _ h0 0 0 19 #[.val (.ref a), .val (.ref b)] [(.ref a), (.ref a)]
    refine w_getfield ok (v := (.ref r)) (host := "") (f := ("com/example/perx/perx/index/IntList", "values", "[I", (.array .int))) 0 d5_19 (Or.inl (hw _ (List.mem_of_getElem? (i := 11) rfl))) Via.refl A_a rfl rfl ?_
    show W K l _ n0 _ h0 0 0 22 #[.val (.ref a), .val (.ref b)] [(.ref r), (.ref a)]
    refine w_aloadN ok d5_22 rfl rfl ?_
    show W K l _ n0 _ h0 0 0 23 #[.val (.ref a), .val (.ref b)] [(.ref a), (.ref r), (.ref a)]
    refine w_getfield ok (v := (.ref r)) (host := "") (f := ("com/example/perx/perx/index/IntList", "values", "[I", (.array .int))) 0 d5_23 (Or.inl (hw _ (List.mem_of_getElem? (i := 11) rfl))) Via.refl A_a rfl rfl ?_
    show W K l _ n0 _ h0 0 0 26 #[.val (.ref a), .val (.ref b)] [(.ref r), (.ref r), (.ref a)]
    refine w_arraylength ok (z := q) d5_26 A_r hq hq0 ?_
    show W K l _ n0 _ h0 0 0 27 #[.val (.ref a), .val (.ref b)] [(.int q), (.ref r), (.ref a)]
    refine w_iconst ok d5_27 (v := (2 : Int32)) rfl ?_
    show W K l _ n0 _ h0 0 0 28 #[.val (.ref a), .val (.ref b)] [(.int (2 : Int32)), (.int q), (.ref r), (.ref a)]
    refine w_imul ok d5_28 ?_
    show W K l _ n0 _ h0 0 0 29 #[.val (.ref a), .val (.ref b)] [(.int (q * (2 : Int32))), (.ref r), (.ref a)]
    refine w_aloadN ok d5_29 rfl rfl ?_
    show W K l _ n0 _ h0 0 0 30 #[.val (.ref a), .val (.ref b)] [(.ref a), (.int (q * (2 : Int32))), (.ref r), (.ref a)]
    refine w_getfield ok (v := (.int sa)) (host := "") (f := ("com/example/perx/perx/index/IntList", "size", "I", .int)) 1 d5_30 (Or.inl (hw _ (List.mem_of_getElem? (i := 18) rfl))) Via.refl A_a rfl rfl ?_
    show W K l _ n0 _ h0 0 0 33 #[.val (.ref a), .val (.ref b)] [(.int sa), (.int (q * (2 : Int32))), (.ref r), (.ref a)]
    refine w_aloadN ok d5_33 rfl rfl ?_
    show W K l _ n0 _ h0 0 0 34 #[.val (.ref a), .val (.ref b)] [(.ref b), (.int sa), (.int (q * (2 : Int32))), (.ref r), (.ref a)]
    refine w_getfield ok (v := (.int sb)) (host := "") (f := ("com/example/perx/perx/index/IntList", "size", "I", .int)) 1 d5_34 (Or.inl (hw _ (List.mem_of_getElem? (i := 18) rfl))) Via.refl A_b rfl rfl ?_
    show W K l _ n0 _ h0 0 0 37 #[.val (.ref a), .val (.ref b)] [(.int sb), (.int sa), (.int (q * (2 : Int32))), (.ref r), (.ref a)]
    refine w_iadd ok d5_37 ?_
    show W K l _ n0 _ h0 0 0 38 #[.val (.ref a), .val (.ref b)] [(.int (sa + sb)), (.int (q * (2 : Int32))), (.ref r), (.ref a)]
    refine w_callS ok (y := (⟨"java/lang/Math", "max", "(II)I"⟩ : MethodName)) (argsL := [(.int (q * (2 : Int32))), (.int (sa + sb))]) (rest := [(.ref r), (.ref a)]) d5_38 (hw _ (List.mem_of_getElem? (i := 48) rfl)) (hw _ (List.mem_of_getElem? (i := 49) rfl)) (hw _ (List.mem_of_getElem? (i := 50) rfl)) (hw _ (List.mem_of_getElem? (i := 51) rfl)) (by decide) pd_28II29I rfl rfl (by decide) (Nat.le_of_ble_eq_true rfl) (by decide) (by decide) (fun z0 => rm_max l Z a0 hw [] n0 h0 z0 (q * (2 : Int32)) (sa + sb)) (fun v4 h5 qv4 => ?_)
    obtain ⟨rfl, rfl⟩ := qv4
    show W K l _ n0 _ h0 0 0 41 #[.val (.ref a), .val (.ref b)] [(.int (own_max (q * (2 : Int32)) (sa + sb))), (.ref r), (.ref a)]
    obtain ⟨z1, z2, z3, z4⟩ := own_zmax hq hq0 hsa0 hsb0 (by omega) (by omega) (by omega) hc1
    refine w_callS ok (y := (⟨"java/util/Arrays", "copyOf", "([II)[I"⟩ : MethodName)) (argsL := [(.ref r), (.int (own_max (q * (2 : Int32)) (sa + sb)))]) (rest := [(.ref a)]) d5_41 (hw _ (List.mem_of_getElem? (i := 52) rfl)) (hw _ (List.mem_of_getElem? (i := 53) rfl)) (hw _ (List.mem_of_getElem? (i := 54) rfl)) (hw _ (List.mem_of_getElem? (i := 55) rfl)) (by decide) pd_285bII295bI rfl rfl (by decide) (Nat.le_of_ble_eq_true rfl) (by decide) (by decide) (fun z0 => cp_int l Z a0 hw [] n0 h0 z0 r va (own_max (q * (2 : Int32)) (sa + sb)) A_r z1 z4 z3) (fun v6 h7 qv6 => ?_)
    obtain ⟨c, rfl, sz_c, ge_c, K1, A_c⟩ := qv6
    have ne_a_c : a ≠ c := Nat.ne_of_lt (Nat.lt_of_lt_of_le A_a.lt sz_c)
    have ne_r_c : r ≠ c := Nat.ne_of_lt (Nat.lt_of_lt_of_le A_r.lt sz_c)
    have ne_b_c : b ≠ c := Nat.ne_of_lt (Nat.lt_of_lt_of_le A_b.lt sz_c)
    have ne_t_c : t ≠ c := Nat.ne_of_lt (Nat.lt_of_lt_of_le A_t.lt sz_c)
    have szq_c : h0.size ≤ c := Nat.le_trans Kp.1 sz_c
    replace Kp := Kp.trans K1 all0
    replace A_a := A_a.keep K1 nin0
    replace A_r := A_r.keep K1 nin0
    replace A_b := A_b.keep K1 nin0
    replace A_t := A_t.keep K1 nin0
    show W K l _ n0 _ h7 1 48 44 #[.val (.ref a), .val (.ref b)] [(.ref c), (.ref a)]
    refine w_putfield ok (host := "") (f := ("com/example/perx/perx/index/IntList", "values", "[I", (.array .int))) 0 d5_44 (Or.inl (hw _ (List.mem_of_getElem? (i := 11) rfl))) Via.refl A_a (la_IntList hw) rfl rfl (Or.inl (hw _ (List.mem_of_getElem? (i := 12) rfl))) (hw _ (List.mem_of_getElem? (i := 2) rfl)) rfl rfl ge_a (fun h8 W_h8 A1_h8 => ?_)
    replace Kp := Kp.wr W_h8 (Or.inl (by simp))
    replace A_r := A_r.other W_h8 (Ne.symm ne_a_r)
    replace A_b := A_b.other W_h8 (Ne.symm ne_a_b)
    replace A_t := A_t.other W_h8 (Ne.symm ne_a_t)
    replace A_c := A_c.other W_h8 (Ne.symm ne_a_c)
    replace A_a : Ob Z h8 a "com/example/perx/perx/index/IntList" fl_IntList [(.ref c), (.int sa)] := A1_h8
    show W K l _ n0 _ h8 1 48 47 #[.val (.ref a), .val (.ref b)] []
    refine w_aloadN ok d5_47 rfl rfl ?_
    show W K l _ n0 _ h8 1 48 48 #[.val (.ref a), .val (.ref b)] [(.ref b)]
    refine w_getfield ok (v := (.ref t)) (host := "") (f := ("com/example/perx/perx/index/IntList", "values", "[I", (.array .int))) 0 d5_48 (Or.inl (hw _ (List.mem_of_getElem? (i := 11) rfl))) Via.refl A_b rfl rfl ?_
    show W K l _ n0 _ h8 1 48 51 #[.val (.ref a), .val (.ref b)] [(.ref t)]
    refine w_iconst ok d5_51 (v := (0 : Int32)) rfl ?_
    show W K l _ n0 _ h8 1 48 52 #[.val (.ref a), .val (.ref b)] [(.int (0 : Int32)), (.ref t)]
    refine w_aloadN ok d5_52 rfl rfl ?_
    show W K l _ n0 _ h8 1 48 53 #[.val (.ref a), .val (.ref b)] [(.ref a), (.int (0 : Int32)), (.ref t)]
    refine w_getfield ok (v := (.ref c)) (host := "") (f := ("com/example/perx/perx/index/IntList", "values", "[I", (.array .int))) 0 d5_53 (Or.inl (hw _ (List.mem_of_getElem? (i := 11) rfl))) Via.refl A_a rfl rfl ?_
    show W K l _ n0 _ h8 1 48 56 #[.val (.ref a), .val (.ref b)] [(.ref c), (.int (0 : Int32)), (.ref t)]
    refine w_aloadN ok d5_56 rfl rfl ?_
    show W K l _ n0 _ h8 1 48 57 #[.val (.ref a), .val (.ref b)] [(.ref a), (.ref c), (.int (0 : Int32)), (.ref t)]
    refine w_getfield ok (v := (.int sa)) (host := "") (f := ("com/example/perx/perx/index/IntList", "size", "I", .int)) 1 d5_57 (Or.inl (hw _ (List.mem_of_getElem? (i := 18) rfl))) Via.refl A_a rfl rfl ?_
    show W K l _ n0 _ h8 1 48 60 #[.val (.ref a), .val (.ref b)] [(.int sa), (.ref c), (.int (0 : Int32)), (.ref t)]
    refine w_aloadN ok d5_60 rfl rfl ?_
    show W K l _ n0 _ h8 1 48 61 #[.val (.ref a), .val (.ref b)] [(.ref b), (.int sa), (.ref c), (.int (0 : Int32)), (.ref t)]
    refine w_getfield ok (v := (.int sb)) (host := "") (f := ("com/example/perx/perx/index/IntList", "size", "I", .int)) 1 d5_61 (Or.inl (hw _ (List.mem_of_getElem? (i := 18) rfl))) Via.refl A_b rfl rfl ?_
    show W K l _ n0 _ h8 1 48 64 #[.val (.ref a), .val (.ref b)] [(.int sb), (.int sa), (.ref c), (.int (0 : Int32)), (.ref t)]
    refine w_arraycopy ok (sp' := 0) (dp' := sa.toNatClampNeg) (nn' := sb.toNatClampNeg) d5_64 (hw _ (List.mem_of_getElem? (i := 30) rfl)) (hw _ (List.mem_of_getElem? (i := 33) rfl)) (hw _ (List.mem_of_getElem? (i := 31) rfl)) (hw _ (List.mem_of_getElem? (i := 32) rfl)) A_t A_c rfl ge_c (by decide) hsa0 hsb0 rfl rfl rfl (by rw [Nat.zero_add]; exact hsb) (by simp; omega) rfl (by decide) (Nat.le_of_ble_eq_true rfl) (fun h9 K_h9 A1_h9 => ?_)
    replace Kp := Kp.trans K_h9 (allS (Or.inr szq_c) all0)
    replace A_a := A_a.keep K_h9 (ninS ne_a_c nin0)
    replace A_r := A_r.keep K_h9 (ninS ne_r_c nin0)
    replace A_b := A_b.keep K_h9 (ninS ne_b_c nin0)
    replace A_t := A_t.keep K_h9 (ninS ne_t_c nin0)
    replace A_c : PA .int Z h9 c ((va ++ List.replicate ((own_max (q * (2 : Int32)) (sa + sb)).toNatClampNeg - va.length) (Value.int 0)).take sa.toNatClampNeg ++ vb.take sb.toNatClampNeg ++ (va ++ List.replicate ((own_max (q * (2 : Int32)) (sa + sb)).toNatClampNeg - va.length) (Value.int 0)).drop (sa.toNatClampNeg + sb.toNatClampNeg)) := (by rw [List.drop_zero] at A1_h9; exact A1_h9)
    show W K l _ n0 _ h9 1 48 67 #[.val (.ref a), .val (.ref b)] []
    refine w_aloadN ok d5_67 rfl rfl ?_
    show W K l _ n0 _ h9 1 48 68 #[.val (.ref a), .val (.ref b)] [(.ref a)]
    refine w_dup ok d5_68 rfl ?_
    show W K l _ n0 _ h9 1 48 69 #[.val (.ref a), .val (.ref b)] [(.ref a), (.ref a)]
    refine w_getfield ok (v := (.int sa)) (host := "") (f := ("com/example/perx/perx/index/IntList", "size", "I", .int)) 1 d5_69 (Or.inl (hw _ (List.mem_of_getElem? (i := 18) rfl))) Via.refl A_a rfl rfl ?_
    show W K l _ n0 _ h9 1 48 72 #[.val (.ref a), .val (.ref b)] [(.int sa), (.ref a)]
    refine w_aloadN ok d5_72 rfl rfl ?_
    show W K l _ n0 _ h9 1 48 73 #[.val (.ref a), .val (.ref b)] [(.ref b), (.int sa), (.ref a)]
    refine w_getfield ok (v := (.int sb)) (host := "") (f := ("com/example/perx/perx/index/IntList", "size", "I", .int)) 1 d5_73 (Or.inl (hw _ (List.mem_of_getElem? (i := 18) rfl))) Via.refl A_b rfl rfl ?_
    show W K l _ n0 _ h9 1 48 76 #[.val (.ref a), .val (.ref b)] [(.int sb), (.int sa), (.ref a)]
    refine w_iadd ok d5_76 ?_
    show W K l _ n0 _ h9 1 48 77 #[.val (.ref a), .val (.ref b)] [(.int (sa + sb)), (.ref a)]
    refine w_putfield ok (host := "") (f := ("com/example/perx/perx/index/IntList", "size", "I", .int)) 1 d5_77 (Or.inl (hw _ (List.mem_of_getElem? (i := 18) rfl))) Via.refl A_a (la_IntList hw) rfl rfl (Or.inl (hw _ (List.mem_of_getElem? (i := 19) rfl))) (hw _ (List.mem_of_getElem? (i := 2) rfl)) rfl rfl ge_a (fun h10 W_h10 A1_h10 => ?_)
    replace Kp := Kp.wr W_h10 (Or.inl (by simp))
    replace A_r := A_r.other W_h10 (Ne.symm ne_a_r)
    replace A_b := A_b.other W_h10 (Ne.symm ne_a_b)
    replace A_t := A_t.other W_h10 (Ne.symm ne_a_t)
    replace A_c := A_c.other W_h10 (Ne.symm ne_a_c)
    replace A_a : Ob Z h10 a "com/example/perx/perx/index/IntList" fl_IntList [(.ref c), (.int (sa + sb))] := A1_h10
    show W K l _ n0 _ h10 1 48 80 #[.val (.ref a), .val (.ref b)] []
    refine w_ret ok d5_80 (by decide) (by decide) ?_
    exact ⟨rfl, c, _, _, rfl, by simp; omega, ge_c, Or.inr szq_c, ne_a_c, Kp, A_a, A_c⟩
def own_exp (i k m : Nat) (p x y : Int32) : Int32 := if i < k then (if i = 0 then p else 0) else if (if m ≤ i - k then i - k - m else i - k) = 0 then x else if (if m ≤ i - k then i - k - m else i - k) = 1 then y else 0
theorem d8_0 : decode method_2_code 0 = .ok (.iload_n 0, 1) := by decide +kernel
theorem d8_1 : decode method_2_code 1 = .ok (.iload_n 1, 1) := by decide +kernel
theorem d8_2 : decode method_2_code 2 = .ok (.if_icmp .ge 13, 3) := by decide +kernel
theorem d8_5 : decode method_2_code 5 = .ok (.iload_n 0, 1) := by decide +kernel
theorem d8_6 : decode method_2_code 6 = .ok (.ifCond .ne 7, 3) := by decide +kernel
theorem d8_9 : decode method_2_code 9 = .ok (.iload_n 3, 1) := by decide +kernel
theorem d8_10 : decode method_2_code 10 = .ok (.goto 4, 3) := by decide +kernel
theorem d8_13 : decode method_2_code 13 = .ok (.iconst 0, 1) := by decide +kernel
theorem d8_14 : decode method_2_code 14 = .ok (.ireturn, 1) := by decide +kernel
theorem d8_15 : decode method_2_code 15 = .ok (.iload_n 0, 1) := by decide +kernel
theorem d8_16 : decode method_2_code 16 = .ok (.iload_n 1, 1) := by decide +kernel
theorem d8_17 : decode method_2_code 17 = .ok (.isub, 1) := by decide +kernel
theorem d8_18 : decode method_2_code 18 = .ok (.istore 6, 2) := by decide +kernel
theorem d8_20 : decode method_2_code 20 = .ok (.iload 6, 2) := by decide +kernel
theorem d8_22 : decode method_2_code 22 = .ok (.iload_n 2, 1) := by decide +kernel
theorem d8_23 : decode method_2_code 23 = .ok (.if_icmp .lt 9, 3) := by decide +kernel
theorem d8_26 : decode method_2_code 26 = .ok (.iload 6, 2) := by decide +kernel
theorem d8_28 : decode method_2_code 28 = .ok (.iload_n 2, 1) := by decide +kernel
theorem d8_29 : decode method_2_code 29 = .ok (.isub, 1) := by decide +kernel
theorem d8_30 : decode method_2_code 30 = .ok (.istore 6, 2) := by decide +kernel
theorem d8_32 : decode method_2_code 32 = .ok (.iload 6, 2) := by decide +kernel
theorem d8_34 : decode method_2_code 34 = .ok (.ifCond .ne 6, 3) := by decide +kernel
theorem d8_37 : decode method_2_code 37 = .ok (.iload 4, 2) := by decide +kernel
theorem d8_39 : decode method_2_code 39 = .ok (.ireturn, 1) := by decide +kernel
theorem d8_40 : decode method_2_code 40 = .ok (.iload 6, 2) := by decide +kernel
theorem d8_42 : decode method_2_code 42 = .ok (.iconst 1, 1) := by decide +kernel
theorem d8_43 : decode method_2_code 43 = .ok (.if_icmp .ne 6, 3) := by decide +kernel
theorem d8_46 : decode method_2_code 46 = .ok (.iload 5, 2) := by decide +kernel
theorem d8_48 : decode method_2_code 48 = .ok (.ireturn, 1) := by decide +kernel
theorem d8_49 : decode method_2_code 49 = .ok (.iconst 0, 1) := by decide +kernel
theorem d8_50 : decode method_2_code 50 = .ok (.ireturn, 1) := by decide +kernel
theorem pn_com_example_perx_perx_index_IntListAddAllPinLaw : plainName "com/example/perx/perx/index/IntListAddAllPinLaw" = true := by first | (simp [plainName, overriddenIn]; done) | decide +kernel
set_option maxRecDepth 65536 in
set_option maxHeartbeats 40000000 in
theorem rm_exp (l : Launch) (Z : State) (a0 : Array Value) (hw : ∀ d ∈ tables_1, d.before a0 Z = true) (ws : List Jvm.Cond) (n0 : Nat) (h0 : Heap) (Z0 : n0 ≤ h0.size) (i k m p x y : Int32) (hi : ¬ i < 0) (hk : ¬ k < 0) (hm : ¬ m < 0)  :
    Met l Z n0 (⟨"com/example/perx/perx/index/IntListAddAllPinLaw", "expectedAt", "(IIIIII)I"⟩ : MethodName) method_2_code 7 (some .int) ws ({ frames := 0, cells := 0, slots := 0, locals := 0 } : Room) #[(.int i), (.int k), (.int m), (.int p), (.int x), (.int y)] h0 (fun u h => u = some (.int (own_exp i.toNatClampNeg k.toNatClampNeg m.toNatClampNeg p x y)) ∧ h0 = h) := by
  refine met_of Z0 (plainFor_of_name pn_com_example_perx_perx_index_IntListAddAllPinLaw) (Ls := #[.val (.int i), .val (.int k), .val (.int m), .val (.int p), .val (.int x), .val (.int y), .unset]) (fun m => by first | (simp [entryFrame, mkF, argsToLocals, Value.category]; done) | rfl) ?_
  intro K ok
  have e1 := nat_of hi; have e2 := nat_of hk; have e3 := nat_of hm; have s1 := c_isub i k; have s2 := c_isub (i - k) m; have r1 := rng32 (i - k); have r2 := rng32 (i - k - m); have r3 := rng32 i; have r4 := rng32 k
  show W K l _ n0 _ h0 0 0 0 #[.val (.int i), .val (.int k), .val (.int m), .val (.int p), .val (.int x), .val (.int y), .unset] []
  refine w_iloadN ok d8_0 rfl ?_
  show W K l _ n0 _ h0 0 0 1 #[.val (.int i), .val (.int k), .val (.int m), .val (.int p), .val (.int x), .val (.int y), .unset] [(.int i)]
  refine w_iloadN ok d8_1 rfl ?_
  show W K l _ n0 _ h0 0 0 2 #[.val (.int i), .val (.int k), .val (.int m), .val (.int p), .val (.int x), .val (.int y), .unset] [(.int k), (.int i)]
  refine w_icmp_ge ok d8_2 (pc' := 15) (by decide) (fun hc1 => ?_) (fun hc1 => ?_)
  · show W K l _ n0 _ h0 0 0 15 #[.val (.int i), .val (.int k), .val (.int m), .val (.int p), .val (.int x), .val (.int y), .unset] []
    refine w_iloadN ok d8_15 rfl ?_
    show W K l _ n0 _ h0 0 0 16 #[.val (.int i), .val (.int k), .val (.int m), .val (.int p), .val (.int x), .val (.int y), .unset] [(.int i)]
    refine w_iloadN ok d8_16 rfl ?_
    show W K l _ n0 _ h0 0 0 17 #[.val (.int i), .val (.int k), .val (.int m), .val (.int p), .val (.int x), .val (.int y), .unset] [(.int k), (.int i)]
    refine w_isub ok d8_17 ?_
    show W K l _ n0 _ h0 0 0 18 #[.val (.int i), .val (.int k), .val (.int m), .val (.int p), .val (.int x), .val (.int y), .unset] [(.int (i - k))]
    refine w_istore ok d8_18 (L' := #[.val (.int i), .val (.int k), .val (.int m), .val (.int p), .val (.int x), .val (.int y), .val (.int (i - k))]) rfl ?_
    show W K l _ n0 _ h0 0 0 20 #[.val (.int i), .val (.int k), .val (.int m), .val (.int p), .val (.int x), .val (.int y), .val (.int (i - k))] []
    refine w_iload ok d8_20 rfl ?_
    show W K l _ n0 _ h0 0 0 22 #[.val (.int i), .val (.int k), .val (.int m), .val (.int p), .val (.int x), .val (.int y), .val (.int (i - k))] [(.int (i - k))]
    refine w_iloadN ok d8_22 rfl ?_
    show W K l _ n0 _ h0 0 0 23 #[.val (.int i), .val (.int k), .val (.int m), .val (.int p), .val (.int x), .val (.int y), .val (.int (i - k))] [(.int m), (.int (i - k))]
    refine w_icmp_lt ok d8_23 (pc' := 32) (by decide) (fun hc3 => ?_) (fun hc3 => ?_)
    · show W K l _ n0 _ h0 0 0 32 #[.val (.int i), .val (.int k), .val (.int m), .val (.int p), .val (.int x), .val (.int y), .val (.int (i - k))] []
      refine w_iload ok d8_32 rfl ?_
      show W K l _ n0 _ h0 0 0 34 #[.val (.int i), .val (.int k), .val (.int m), .val (.int p), .val (.int x), .val (.int y), .val (.int (i - k))] [(.int (i - k))]
      refine w_if_ne ok d8_34 (pc' := 40) (by decide) (fun hc5 => ?_) (fun hc5 => ?_)
      · show W K l _ n0 _ h0 0 0 40 #[.val (.int i), .val (.int k), .val (.int m), .val (.int p), .val (.int x), .val (.int y), .val (.int (i - k))] []
        refine w_iload ok d8_40 rfl ?_
        show W K l _ n0 _ h0 0 0 42 #[.val (.int i), .val (.int k), .val (.int m), .val (.int p), .val (.int x), .val (.int y), .val (.int (i - k))] [(.int (i - k))]
        refine w_iconst ok d8_42 (v := (1 : Int32)) rfl ?_
        show W K l _ n0 _ h0 0 0 43 #[.val (.int i), .val (.int k), .val (.int m), .val (.int p), .val (.int x), .val (.int y), .val (.int (i - k))] [(.int (1 : Int32)), (.int (i - k))]
        refine w_icmp_ne ok d8_43 (pc' := 49) (by decide) (fun hc7 => ?_) (fun hc7 => ?_)
        · show W K l _ n0 _ h0 0 0 49 #[.val (.int i), .val (.int k), .val (.int m), .val (.int p), .val (.int x), .val (.int y), .val (.int (i - k))] []
          refine w_iconst ok d8_49 (v := (0 : Int32)) rfl ?_
          show W K l _ n0 _ h0 0 0 50 #[.val (.int i), .val (.int k), .val (.int m), .val (.int p), .val (.int x), .val (.int y), .val (.int (i - k))] [(.int (0 : Int32))]
          refine w_iret ok d8_50 (by decide) (by decide) ?_
          refine ⟨?_, rfl⟩
          simp only [Int32.lt_iff_toInt_lt, ← Int32.toInt_inj, Int32.reduceToInt] at *
          congr 2
          unfold own_exp
          repeat' split
          all_goals first | rfl | omega
        · show W K l _ n0 _ h0 0 0 46 #[.val (.int i), .val (.int k), .val (.int m), .val (.int p), .val (.int x), .val (.int y), .val (.int (i - k))] []
          refine w_iload ok d8_46 rfl ?_
          show W K l _ n0 _ h0 0 0 48 #[.val (.int i), .val (.int k), .val (.int m), .val (.int p), .val (.int x), .val (.int y), .val (.int (i - k))] [(.int y)]
          refine w_iret ok d8_48 (by decide) (by decide) ?_
          refine ⟨?_, rfl⟩
          simp only [Int32.lt_iff_toInt_lt, ← Int32.toInt_inj, Int32.reduceToInt] at *
          congr 2
          unfold own_exp
          repeat' split
          all_goals first | rfl | omega
      · show W K l _ n0 _ h0 0 0 37 #[.val (.int i), .val (.int k), .val (.int m), .val (.int p), .val (.int x), .val (.int y), .val (.int (i - k))] []
        refine w_iload ok d8_37 rfl ?_
        show W K l _ n0 _ h0 0 0 39 #[.val (.int i), .val (.int k), .val (.int m), .val (.int p), .val (.int x), .val (.int y), .val (.int (i - k))] [(.int x)]
        refine w_iret ok d8_39 (by decide) (by decide) ?_
        refine ⟨?_, rfl⟩
        simp only [Int32.lt_iff_toInt_lt, ← Int32.toInt_inj, Int32.reduceToInt] at *
        congr 2
        unfold own_exp
        repeat' split
        all_goals first | rfl | omega
    · show W K l _ n0 _ h0 0 0 26 #[.val (.int i), .val (.int k), .val (.int m), .val (.int p), .val (.int x), .val (.int y), .val (.int (i - k))] []
      refine w_iload ok d8_26 rfl ?_
      show W K l _ n0 _ h0 0 0 28 #[.val (.int i), .val (.int k), .val (.int m), .val (.int p), .val (.int x), .val (.int y), .val (.int (i - k))] [(.int (i - k))]
      refine w_iloadN ok d8_28 rfl ?_
      show W K l _ n0 _ h0 0 0 29 #[.val (.int i), .val (.int k), .val (.int m), .val (.int p), .val (.int x), .val (.int y), .val (.int (i - k))] [(.int m), (.int (i - k))]
      refine w_isub ok d8_29 ?_
      show W K l _ n0 _ h0 0 0 30 #[.val (.int i), .val (.int k), .val (.int m), .val (.int p), .val (.int x), .val (.int y), .val (.int (i - k))] [(.int ((i - k) - m))]
      refine w_istore ok d8_30 (L' := #[.val (.int i), .val (.int k), .val (.int m), .val (.int p), .val (.int x), .val (.int y), .val (.int ((i - k) - m))]) rfl ?_
      show W K l _ n0 _ h0 0 0 32 #[.val (.int i), .val (.int k), .val (.int m), .val (.int p), .val (.int x), .val (.int y), .val (.int ((i - k) - m))] []
      refine w_iload ok d8_32 rfl ?_
      show W K l _ n0 _ h0 0 0 34 #[.val (.int i), .val (.int k), .val (.int m), .val (.int p), .val (.int x), .val (.int y), .val (.int ((i - k) - m))] [(.int ((i - k) - m))]
      refine w_if_ne ok d8_34 (pc' := 40) (by decide) (fun hc9 => ?_) (fun hc9 => ?_)
      · show W K l _ n0 _ h0 0 0 40 #[.val (.int i), .val (.int k), .val (.int m), .val (.int p), .val (.int x), .val (.int y), .val (.int ((i - k) - m))] []
        refine w_iload ok d8_40 rfl ?_
        show W K l _ n0 _ h0 0 0 42 #[.val (.int i), .val (.int k), .val (.int m), .val (.int p), .val (.int x), .val (.int y), .val (.int ((i - k) - m))] [(.int ((i - k) - m))]
        refine w_iconst ok d8_42 (v := (1 : Int32)) rfl ?_
        show W K l _ n0 _ h0 0 0 43 #[.val (.int i), .val (.int k), .val (.int m), .val (.int p), .val (.int x), .val (.int y), .val (.int ((i - k) - m))] [(.int (1 : Int32)), (.int ((i - k) - m))]
        refine w_icmp_ne ok d8_43 (pc' := 49) (by decide) (fun hc11 => ?_) (fun hc11 => ?_)
        · show W K l _ n0 _ h0 0 0 49 #[.val (.int i), .val (.int k), .val (.int m), .val (.int p), .val (.int x), .val (.int y), .val (.int ((i - k) - m))] []
          refine w_iconst ok d8_49 (v := (0 : Int32)) rfl ?_
          show W K l _ n0 _ h0 0 0 50 #[.val (.int i), .val (.int k), .val (.int m), .val (.int p), .val (.int x), .val (.int y), .val (.int ((i - k) - m))] [(.int (0 : Int32))]
          refine w_iret ok d8_50 (by decide) (by decide) ?_
          refine ⟨?_, rfl⟩
          simp only [Int32.lt_iff_toInt_lt, ← Int32.toInt_inj, Int32.reduceToInt] at *
          congr 2
          unfold own_exp
          repeat' split
          all_goals first | rfl | omega
        · show W K l _ n0 _ h0 0 0 46 #[.val (.int i), .val (.int k), .val (.int m), .val (.int p), .val (.int x), .val (.int y), .val (.int ((i - k) - m))] []
          refine w_iload ok d8_46 rfl ?_
          show W K l _ n0 _ h0 0 0 48 #[.val (.int i), .val (.int k), .val (.int m), .val (.int p), .val (.int x), .val (.int y), .val (.int ((i - k) - m))] [(.int y)]
          refine w_iret ok d8_48 (by decide) (by decide) ?_
          refine ⟨?_, rfl⟩
          simp only [Int32.lt_iff_toInt_lt, ← Int32.toInt_inj, Int32.reduceToInt] at *
          congr 2
          unfold own_exp
          repeat' split
          all_goals first | rfl | omega
      · show W K l _ n0 _ h0 0 0 37 #[.val (.int i), .val (.int k), .val (.int m), .val (.int p), .val (.int x), .val (.int y), .val (.int ((i - k) - m))] []
        refine w_iload ok d8_37 rfl ?_
        show W K l _ n0 _ h0 0 0 39 #[.val (.int i), .val (.int k), .val (.int m), .val (.int p), .val (.int x), .val (.int y), .val (.int ((i - k) - m))] [(.int x)]
        refine w_iret ok d8_39 (by decide) (by decide) ?_
        refine ⟨?_, rfl⟩
        simp only [Int32.lt_iff_toInt_lt, ← Int32.toInt_inj, Int32.reduceToInt] at *
        congr 2
        unfold own_exp
        repeat' split
        all_goals first | rfl | omega
  · show W K l _ n0 _ h0 0 0 5 #[.val (.int i), .val (.int k), .val (.int m), .val (.int p), .val (.int x), .val (.int y), .unset] []
    refine w_iloadN ok d8_5 rfl ?_
    show W K l _ n0 _ h0 0 0 6 #[.val (.int i), .val (.int k), .val (.int m), .val (.int p), .val (.int x), .val (.int y), .unset] [(.int i)]
    refine w_if_ne ok d8_6 (pc' := 13) (by decide) (fun hc13 => ?_) (fun hc13 => ?_)
    · show W K l _ n0 _ h0 0 0 13 #[.val (.int i), .val (.int k), .val (.int m), .val (.int p), .val (.int x), .val (.int y), .unset] []
      refine w_iconst ok d8_13 (v := (0 : Int32)) rfl ?_
      show W K l _ n0 _ h0 0 0 14 #[.val (.int i), .val (.int k), .val (.int m), .val (.int p), .val (.int x), .val (.int y), .unset] [(.int (0 : Int32))]
      refine w_iret ok d8_14 (by decide) (by decide) ?_
      refine ⟨?_, rfl⟩
      simp only [Int32.lt_iff_toInt_lt, ← Int32.toInt_inj, Int32.reduceToInt] at *
      congr 2
      unfold own_exp
      repeat' split
      all_goals first | rfl | omega
    · show W K l _ n0 _ h0 0 0 9 #[.val (.int i), .val (.int k), .val (.int m), .val (.int p), .val (.int x), .val (.int y), .unset] []
      refine w_iloadN ok d8_9 rfl ?_
      show W K l _ n0 _ h0 0 0 10 #[.val (.int i), .val (.int k), .val (.int m), .val (.int p), .val (.int x), .val (.int y), .unset] [(.int p)]
      refine w_goto ok d8_10 (pc' := 14) (by decide) ?_
      show W K l _ n0 _ h0 0 0 14 #[.val (.int i), .val (.int k), .val (.int m), .val (.int p), .val (.int x), .val (.int y), .unset] [(.int p)]
      refine w_iret ok d8_14 (by decide) (by decide) ?_
      refine ⟨?_, rfl⟩
      simp only [Int32.lt_iff_toInt_lt, ← Int32.toInt_inj, Int32.reduceToInt] at *
      congr 2
      unfold own_exp
      repeat' split
      all_goals first | rfl | omega
theorem own_va (p : Int32) : ∀ i : Nat, i < 16 → ([.int p, .int 0, .int 0, .int 0, .int 0, .int 0, .int 0, .int 0, .int 0, .int 0, .int 0, .int 0, .int 0, .int 0, .int 0, .int 0] : List Value)[i]? = some (.int (if i = 0 then p else 0))
  | 0, _ => rfl
  | 1, _ => rfl
  | 2, _ => rfl
  | 3, _ => rfl
  | 4, _ => rfl
  | 5, _ => rfl
  | 6, _ => rfl
  | 7, _ => rfl
  | 8, _ => rfl
  | 9, _ => rfl
  | 10, _ => rfl
  | 11, _ => rfl
  | 12, _ => rfl
  | 13, _ => rfl
  | 14, _ => rfl
  | 15, _ => rfl
  | n + 16, h => absurd h (by omega)
theorem own_vb (x y : Int32) : ∀ i : Nat, i < 16 → ([.int x, .int y, .int 0, .int 0, .int 0, .int 0, .int 0, .int 0, .int 0, .int 0, .int 0, .int 0, .int 0, .int 0, .int 0, .int 0] : List Value)[i]? = some (.int (if i = 0 then x else if i = 1 then y else 0))
  | 0, _ => rfl
  | 1, _ => rfl
  | 2, _ => rfl
  | 3, _ => rfl
  | 4, _ => rfl
  | 5, _ => rfl
  | 6, _ => rfl
  | 7, _ => rfl
  | 8, _ => rfl
  | 9, _ => rfl
  | 10, _ => rfl
  | 11, _ => rfl
  | 12, _ => rfl
  | 13, _ => rfl
  | 14, _ => rfl
  | 15, _ => rfl
  | n + 16, h => absurd h (by omega)
theorem own_mid {A Bl Cl : List Value} {k n i : Nat} (hA : k ≤ A.length) (hB : n ≤ Bl.length) (hi : i < k + n) : (A.take k ++ Bl.take n ++ Cl)[i]? = if i < k then A[i]? else Bl[i - k]? := by
  have l1 : (A.take k).length = k := by simp; omega
  have l2 : (Bl.take n).length = n := by simp; omega
  rw [List.getElem?_append_left (by rw [List.length_append]; omega)]
  split
  · rename_i c; rw [List.getElem?_append_left (by omega), List.getElem?_take_of_lt c]
  · rename_i c; rw [List.getElem?_append_right (by omega), l1, List.getElem?_take_of_lt (by omega)]
theorem own_one (p x y : Int32) (e k m i : Nat) (hk : k ≤ 16) (hm : m ≤ 16) (he : k + m ≤ (([.int p, .int 0, .int 0, .int 0, .int 0, .int 0, .int 0, .int 0, .int 0, .int 0, .int 0, .int 0, .int 0, .int 0, .int 0, .int 0] : List Value) ++ List.replicate e (Value.int 0)).length) (hi : i < k + m) (Cl : List Value) :
    ((([.int p, .int 0, .int 0, .int 0, .int 0, .int 0, .int 0, .int 0, .int 0, .int 0, .int 0, .int 0, .int 0, .int 0, .int 0, .int 0] : List Value) ++ List.replicate e (Value.int 0)).take k ++ ([.int x, .int y, .int 0, .int 0, .int 0, .int 0, .int 0, .int 0, .int 0, .int 0, .int 0, .int 0, .int 0, .int 0, .int 0, .int 0] : List Value).take m ++ Cl)[i]? = some (.int (own_exp i k m p x y)) := by
  have l1 : ([.int p, .int 0, .int 0, .int 0, .int 0, .int 0, .int 0, .int 0, .int 0, .int 0, .int 0, .int 0, .int 0, .int 0, .int 0, .int 0] : List Value).length = 16 := rfl
  have l2 : ([.int x, .int y, .int 0, .int 0, .int 0, .int 0, .int 0, .int 0, .int 0, .int 0, .int 0, .int 0, .int 0, .int 0, .int 0, .int 0] : List Value).length = 16 := rfl
  rw [own_mid (by omega) (by rw [l2]; exact hm) hi, own_exp]
  by_cases c : i < k
  · rw [if_pos c, if_pos c, List.getElem?_append_left (by omega), own_va p i (by omega)]
  · rw [if_neg c, if_neg c, own_vb x y _ (by omega)]; simp only [show ¬ m ≤ i - k by omega, if_false]
theorem own_two (p x y : Int32) (e e2 k m i : Nat) (hk : k ≤ 16) (hm : m ≤ 16) (he : k + (m + m) ≤ (([.int p, .int 0, .int 0, .int 0, .int 0, .int 0, .int 0, .int 0, .int 0, .int 0, .int 0, .int 0, .int 0, .int 0, .int 0, .int 0] : List Value) ++ List.replicate e (Value.int 0)).length) (he2 : m + m ≤ (([.int x, .int y, .int 0, .int 0, .int 0, .int 0, .int 0, .int 0, .int 0, .int 0, .int 0, .int 0, .int 0, .int 0, .int 0, .int 0] : List Value) ++ List.replicate e2 (Value.int 0)).length) (hi : i < k + (m + m)) (Cl D : List Value) :
    ((([.int p, .int 0, .int 0, .int 0, .int 0, .int 0, .int 0, .int 0, .int 0, .int 0, .int 0, .int 0, .int 0, .int 0, .int 0, .int 0] : List Value) ++ List.replicate e (Value.int 0)).take k ++ ((([.int x, .int y, .int 0, .int 0, .int 0, .int 0, .int 0, .int 0, .int 0, .int 0, .int 0, .int 0, .int 0, .int 0, .int 0, .int 0] : List Value) ++ List.replicate e2 (Value.int 0)).take m ++ (([.int x, .int y, .int 0, .int 0, .int 0, .int 0, .int 0, .int 0, .int 0, .int 0, .int 0, .int 0, .int 0, .int 0, .int 0, .int 0] : List Value) ++ List.replicate e2 (Value.int 0)).take m ++ D).take (m + m) ++ Cl)[i]? = some (.int (own_exp i k m p x y)) := by
  have l1 : ([.int p, .int 0, .int 0, .int 0, .int 0, .int 0, .int 0, .int 0, .int 0, .int 0, .int 0, .int 0, .int 0, .int 0, .int 0, .int 0] : List Value).length = 16 := rfl
  have l2 : ([.int x, .int y, .int 0, .int 0, .int 0, .int 0, .int 0, .int 0, .int 0, .int 0, .int 0, .int 0, .int 0, .int 0, .int 0, .int 0] : List Value).length = 16 := rfl
  have l3 : m + m ≤ ((([.int x, .int y, .int 0, .int 0, .int 0, .int 0, .int 0, .int 0, .int 0, .int 0, .int 0, .int 0, .int 0, .int 0, .int 0, .int 0] : List Value) ++ List.replicate e2 (Value.int 0)).take m ++ (([.int x, .int y, .int 0, .int 0, .int 0, .int 0, .int 0, .int 0, .int 0, .int 0, .int 0, .int 0, .int 0, .int 0, .int 0, .int 0] : List Value) ++ List.replicate e2 (Value.int 0)).take m ++ D).length := by simp only [List.length_append, List.length_take, List.length_replicate, l2] at he2 ⊢; omega
  rw [own_mid (by omega) l3 hi, own_exp]
  by_cases c : i < k
  · rw [if_pos c, if_pos c, List.getElem?_append_left (by omega), own_va p i (by omega)]
  · rw [if_neg c, if_neg c, own_mid (by omega) (by omega) (by omega)]
    by_cases d : i - k < m
    · rw [if_pos d, List.getElem?_append_left (by omega), own_vb x y _ (by omega)]; simp only [show ¬ m ≤ i - k by omega, if_false]
    · rw [if_neg d, List.getElem?_append_left (by omega), own_vb x y _ (by omega)]; simp only [show m ≤ i - k by omega, if_true]
theorem own_m17 {z : Int32} (h : 0 ≤ z.toInt) : ¬ z % 17 < 0 ∧ (z % 17).toNatClampNeg ≤ 16 := by
  have h2 := (c_irem z 17 17 rfl).1 h
  refine ⟨?_, ?_⟩
  · rw [Int32.lt_iff_toInt_lt, h2]; show ¬ _ < (0 : Int); omega
  · rw [Int32.toNatClampNeg, h2]; omega
theorem own_k17 (z : Int32) : 0 ≤ (z &&& 2147483647).toInt := by have := c_mask z 2147483647 31 (by decide) (by decide); omega
theorem own_s17 (z : Int32) : 0 ≤ (Jvm.Free.XT.ushr z 1).toInt := by
  have := c_iushr z 1 1 (by decide) (by decide)
  show 0 ≤ ((z.toUInt32 >>> ((1 : Int32) &&& 31).toUInt32).toInt32).toInt
  rw [this]; omega
theorem own_tw {m : Int32} (h : ¬ m < 0) (h2 : m.toNatClampNeg ≤ 16) : 2 * m = m + m := by
  have e := nat_of h; have a := c_imul 2 m; have b := c_iadd m m; have r1 := rng32 (2 * m); have r2 := rng32 (m + m); have e2 : (2 : Int32).toInt = 2 := rfl
  rw [e2] at a
  apply Int32.toInt_inj.mp; omega
theorem own_idx {q t : Int32} (ht : ¬ t < 0) (h0 : ¬ t = 0) : ¬ (q &&& 2147483647) % t < 0 ∧ ((q &&& 2147483647) % t).toNatClampNeg < t.toNatClampNeg := by
  have e := nat_of ht; have z : 0 < t.toInt := by rw [← Int32.toInt_inj] at h0; have : (0 : Int32).toInt = 0 := rfl; omega
  have a := (c_iremV (q &&& 2147483647) t).1 (own_k17 q) z
  refine ⟨?_, ?_⟩
  · rw [Int32.lt_iff_toInt_lt]; show ¬ _ < (0 : Int); omega
  · rw [Int32.toNatClampNeg]; omega
theorem pd_2829V : parseMethodDescriptor "()V" = some ⟨[], none⟩ := by decide +kernel
theorem pd_28I29V : parseMethodDescriptor "(I)V" = some ⟨[.int], none⟩ := by decide +kernel
theorem pd_28Lcom2fexample2fperx2fperx2findex2fIntList3b29V : parseMethodDescriptor "(Lcom/example/perx/perx/index/IntList;)V" = some ⟨[(.object "com/example/perx/perx/index/IntList")], none⟩ := by decide +kernel
theorem pd_2829I : parseMethodDescriptor "()I" = some ⟨[], some .int⟩ := by decide +kernel
theorem pd_28I29I : parseMethodDescriptor "(I)I" = some ⟨[.int], some .int⟩ := by decide +kernel
theorem pd_28IIIIII29I : parseMethodDescriptor "(IIIIII)I" = some ⟨[.int, .int, .int, .int, .int, .int], some .int⟩ := by decide +kernel
set_option maxRecDepth 65536 in
set_option maxHeartbeats 40000000 in
theorem rm0 (l : Launch) (Z : State) (a0 : Array Value) (hw : ∀ d ∈ tables_1, d.before a0 Z = true) (ws : List Jvm.Cond) (n0 : Nat) (h0 : Heap) (Z0 : n0 ≤ h0.size) (p xx y k0 m0 q : Int32)  :
    Met l Z n0 x code maxLocals ret ws room_1 #[(.int p), (.int xx), (.int y), (.int k0), (.int m0), (.int q)] h0 (fun u h => u = some (.int 1)) := by
  refine met_of Z0 (plainFor_of_name pn_com_example_perx_perx_index_IntListAddAllPinLaw) (Ls := #[.val (.int p), .val (.int xx), .val (.int y), .val (.int k0), .val (.int m0), .val (.int q), .unset, .unset, .unset, .unset, .unset, .unset, .unset, .unset]) (fun m => by first | (simp [entryFrame, mkF, argsToLocals, Value.category, maxLocals]; done) | rfl) ?_
  intro K ok
  show W K l _ n0 _ h0 0 0 0 #[.val (.int p), .val (.int xx), .val (.int y), .val (.int k0), .val (.int m0), .val (.int q), .unset, .unset, .unset, .unset, .unset, .unset, .unset, .unset] []
  refine w_iloadN ok at_0 rfl ?_
  show W K l _ n0 _ h0 0 0 1 #[.val (.int p), .val (.int xx), .val (.int y), .val (.int k0), .val (.int m0), .val (.int q), .unset, .unset, .unset, .unset, .unset, .unset, .unset, .unset] [(.int k0)]
  refine w_ldcI (v := (2147483647 : Int32)) ok at_1 (hw _ (List.mem_of_getElem? (i := 0) rfl)) ?_
  show W K l _ n0 _ h0 0 0 3 #[.val (.int p), .val (.int xx), .val (.int y), .val (.int k0), .val (.int m0), .val (.int q), .unset, .unset, .unset, .unset, .unset, .unset, .unset, .unset] [(.int (2147483647 : Int32)), (.int k0)]
  refine w_iand ok at_3 ?_
  show W K l _ n0 _ h0 0 0 4 #[.val (.int p), .val (.int xx), .val (.int y), .val (.int k0), .val (.int m0), .val (.int q), .unset, .unset, .unset, .unset, .unset, .unset, .unset, .unset] [(.int (k0 &&& (2147483647 : Int32)))]
  refine w_bipush ok at_4 (v := (17 : Int32)) rfl ?_
  show W K l _ n0 _ h0 0 0 6 #[.val (.int p), .val (.int xx), .val (.int y), .val (.int k0), .val (.int m0), .val (.int q), .unset, .unset, .unset, .unset, .unset, .unset, .unset, .unset] [(.int (17 : Int32)), (.int (k0 &&& (2147483647 : Int32)))]
  refine w_irem ok at_6 (by decide) ?_
  show W K l _ n0 _ h0 0 0 7 #[.val (.int p), .val (.int xx), .val (.int y), .val (.int k0), .val (.int m0), .val (.int q), .unset, .unset, .unset, .unset, .unset, .unset, .unset, .unset] [(.int ((k0 &&& (2147483647 : Int32)) % (17 : Int32)))]
  refine w_istore ok at_7 (L' := #[.val (.int p), .val (.int xx), .val (.int y), .val (.int k0), .val (.int m0), .val (.int q), .val (.int ((k0 &&& (2147483647 : Int32)) % (17 : Int32))), .unset, .unset, .unset, .unset, .unset, .unset, .unset]) rfl ?_
  show W K l _ n0 _ h0 0 0 9 #[.val (.int p), .val (.int xx), .val (.int y), .val (.int k0), .val (.int m0), .val (.int q), .val (.int ((k0 &&& (2147483647 : Int32)) % (17 : Int32))), .unset, .unset, .unset, .unset, .unset, .unset, .unset] []
  refine w_iload ok at_9 rfl ?_
  show W K l _ n0 _ h0 0 0 11 #[.val (.int p), .val (.int xx), .val (.int y), .val (.int k0), .val (.int m0), .val (.int q), .val (.int ((k0 &&& (2147483647 : Int32)) % (17 : Int32))), .unset, .unset, .unset, .unset, .unset, .unset, .unset] [(.int m0)]
  refine w_iconst ok at_11 (v := (1 : Int32)) rfl ?_
  show W K l _ n0 _ h0 0 0 12 #[.val (.int p), .val (.int xx), .val (.int y), .val (.int k0), .val (.int m0), .val (.int q), .val (.int ((k0 &&& (2147483647 : Int32)) % (17 : Int32))), .unset, .unset, .unset, .unset, .unset, .unset, .unset] [(.int (1 : Int32)), (.int m0)]
  refine w_iand ok at_12 ?_
  show W K l _ n0 _ h0 0 0 13 #[.val (.int p), .val (.int xx), .val (.int y), .val (.int k0), .val (.int m0), .val (.int q), .val (.int ((k0 &&& (2147483647 : Int32)) % (17 : Int32))), .unset, .unset, .unset, .unset, .unset, .unset, .unset] [(.int (m0 &&& (1 : Int32)))]
  refine w_if_eq ok at_13 (pc' := 20) (by decide) (fun hc1 => ?_) (fun hc1 => ?_)
  · show W K l _ n0 _ h0 0 0 20 #[.val (.int p), .val (.int xx), .val (.int y), .val (.int k0), .val (.int m0), .val (.int q), .val (.int ((k0 &&& (2147483647 : Int32)) % (17 : Int32))), .unset, .unset, .unset, .unset, .unset, .unset, .unset] []
    refine w_iconst ok at_20 (v := (0 : Int32)) rfl ?_
    show W K l _ n0 _ h0 0 0 21 #[.val (.int p), .val (.int xx), .val (.int y), .val (.int k0), .val (.int m0), .val (.int q), .val (.int ((k0 &&& (2147483647 : Int32)) % (17 : Int32))), .unset, .unset, .unset, .unset, .unset, .unset, .unset] [(.int (0 : Int32))]
    refine w_istore ok at_21 (L' := #[.val (.int p), .val (.int xx), .val (.int y), .val (.int k0), .val (.int m0), .val (.int q), .val (.int ((k0 &&& (2147483647 : Int32)) % (17 : Int32))), .val (.int (0 : Int32)), .unset, .unset, .unset, .unset, .unset, .unset]) rfl ?_
    show W K l _ n0 _ h0 0 0 23 #[.val (.int p), .val (.int xx), .val (.int y), .val (.int k0), .val (.int m0), .val (.int q), .val (.int ((k0 &&& (2147483647 : Int32)) % (17 : Int32))), .val (.int (0 : Int32)), .unset, .unset, .unset, .unset, .unset, .unset] []
    refine w_iload ok at_23 rfl ?_
    show W K l _ n0 _ h0 0 0 25 #[.val (.int p), .val (.int xx), .val (.int y), .val (.int k0), .val (.int m0), .val (.int q), .val (.int ((k0 &&& (2147483647 : Int32)) % (17 : Int32))), .val (.int (0 : Int32)), .unset, .unset, .unset, .unset, .unset, .unset] [(.int m0)]
    refine w_iconst ok at_25 (v := (1 : Int32)) rfl ?_
    show W K l _ n0 _ h0 0 0 26 #[.val (.int p), .val (.int xx), .val (.int y), .val (.int k0), .val (.int m0), .val (.int q), .val (.int ((k0 &&& (2147483647 : Int32)) % (17 : Int32))), .val (.int (0 : Int32)), .unset, .unset, .unset, .unset, .unset, .unset] [(.int (1 : Int32)), (.int m0)]
    refine w_iushr ok at_26 ?_
    show W K l _ n0 _ h0 0 0 27 #[.val (.int p), .val (.int xx), .val (.int y), .val (.int k0), .val (.int m0), .val (.int q), .val (.int ((k0 &&& (2147483647 : Int32)) % (17 : Int32))), .val (.int (0 : Int32)), .unset, .unset, .unset, .unset, .unset, .unset] [(.int (Jvm.Free.XT.ushr m0 (1 : Int32)))]
    refine w_bipush ok at_27 (v := (17 : Int32)) rfl ?_
    show W K l _ n0 _ h0 0 0 29 #[.val (.int p), .val (.int xx), .val (.int y), .val (.int k0), .val (.int m0), .val (.int q), .val (.int ((k0 &&& (2147483647 : Int32)) % (17 : Int32))), .val (.int (0 : Int32)), .unset, .unset, .unset, .unset, .unset, .unset] [(.int (17 : Int32)), (.int (Jvm.Free.XT.ushr m0 (1 : Int32)))]
    refine w_irem ok at_29 (by decide) ?_
    show W K l _ n0 _ h0 0 0 30 #[.val (.int p), .val (.int xx), .val (.int y), .val (.int k0), .val (.int m0), .val (.int q), .val (.int ((k0 &&& (2147483647 : Int32)) % (17 : Int32))), .val (.int (0 : Int32)), .unset, .unset, .unset, .unset, .unset, .unset] [(.int ((Jvm.Free.XT.ushr m0 (1 : Int32)) % (17 : Int32)))]
    refine w_istore ok at_30 (L' := #[.val (.int p), .val (.int xx), .val (.int y), .val (.int k0), .val (.int m0), .val (.int q), .val (.int ((k0 &&& (2147483647 : Int32)) % (17 : Int32))), .val (.int (0 : Int32)), .val (.int ((Jvm.Free.XT.ushr m0 (1 : Int32)) % (17 : Int32))), .unset, .unset, .unset, .unset, .unset]) rfl ?_
    show W K l _ n0 _ h0 0 0 32 #[.val (.int p), .val (.int xx), .val (.int y), .val (.int k0), .val (.int m0), .val (.int q), .val (.int ((k0 &&& (2147483647 : Int32)) % (17 : Int32))), .val (.int (0 : Int32)), .val (.int ((Jvm.Free.XT.ushr m0 (1 : Int32)) % (17 : Int32))), .unset, .unset, .unset, .unset, .unset] []
    refine w_iload ok at_32 rfl ?_
    show W K l _ n0 _ h0 0 0 34 #[.val (.int p), .val (.int xx), .val (.int y), .val (.int k0), .val (.int m0), .val (.int q), .val (.int ((k0 &&& (2147483647 : Int32)) % (17 : Int32))), .val (.int (0 : Int32)), .val (.int ((Jvm.Free.XT.ushr m0 (1 : Int32)) % (17 : Int32))), .unset, .unset, .unset, .unset, .unset] [(.int (0 : Int32))]
    refine w_if_eq ok at_34 (pc' := 44) (by decide) (fun hc3 => ?_) (fun hc3 => False.elim (by revert hc3; decide))
    show W K l _ n0 _ h0 0 0 44 #[.val (.int p), .val (.int xx), .val (.int y), .val (.int k0), .val (.int m0), .val (.int q), .val (.int ((k0 &&& (2147483647 : Int32)) % (17 : Int32))), .val (.int (0 : Int32)), .val (.int ((Jvm.Free.XT.ushr m0 (1 : Int32)) % (17 : Int32))), .unset, .unset, .unset, .unset, .unset] []
    refine w_iload ok at_44 rfl ?_
    show W K l _ n0 _ h0 0 0 46 #[.val (.int p), .val (.int xx), .val (.int y), .val (.int k0), .val (.int m0), .val (.int q), .val (.int ((k0 &&& (2147483647 : Int32)) % (17 : Int32))), .val (.int (0 : Int32)), .val (.int ((Jvm.Free.XT.ushr m0 (1 : Int32)) % (17 : Int32))), .unset, .unset, .unset, .unset, .unset] [(.int ((Jvm.Free.XT.ushr m0 (1 : Int32)) % (17 : Int32)))]
    refine w_istore ok at_46 (L' := #[.val (.int p), .val (.int xx), .val (.int y), .val (.int k0), .val (.int m0), .val (.int q), .val (.int ((k0 &&& (2147483647 : Int32)) % (17 : Int32))), .val (.int (0 : Int32)), .val (.int ((Jvm.Free.XT.ushr m0 (1 : Int32)) % (17 : Int32))), .val (.int ((Jvm.Free.XT.ushr m0 (1 : Int32)) % (17 : Int32))), .unset, .unset, .unset, .unset]) rfl ?_
    show W K l _ n0 _ h0 0 0 48 #[.val (.int p), .val (.int xx), .val (.int y), .val (.int k0), .val (.int m0), .val (.int q), .val (.int ((k0 &&& (2147483647 : Int32)) % (17 : Int32))), .val (.int (0 : Int32)), .val (.int ((Jvm.Free.XT.ushr m0 (1 : Int32)) % (17 : Int32))), .val (.int ((Jvm.Free.XT.ushr m0 (1 : Int32)) % (17 : Int32))), .unset, .unset, .unset, .unset] []
    generalize hk : (k0 &&& (2147483647 : Int32)) % (17 : Int32) = k
    generalize hm : (Jvm.Free.XT.ushr m0 (1 : Int32)) % (17 : Int32) = m
    obtain ⟨hk1, hk2⟩ := own_m17 (own_k17 k0)
    rw [hk] at hk1 hk2
    obtain ⟨hm1, hm2⟩ := own_m17 (own_s17 m0)
    rw [hm] at hm1 hm2
    show W K l _ n0 _ h0 0 0 48 #[.val (.int p), .val (.int xx), .val (.int y), .val (.int k0), .val (.int m0), .val (.int q), .val (.int k), .val (.int (0 : Int32)), .val (.int m), .val (.int m), .unset, .unset, .unset, .unset] []
    refine w_new ok at_48 (hw _ (List.mem_of_getElem? (i := 1) rfl)) (hw _ (List.mem_of_getElem? (i := 2) rfl)) (hw _ (List.mem_of_getElem? (i := 3) rfl)) (la_IntList hw) (by decide) (by decide) (fun h5 b4 ea_b4 ge_b4 E_b4 A_b4 => ?_)
    replace A_b4 : Ob Z h5 b4 "com/example/perx/perx/index/IntList" fl_IntList [.null, (.int (0 : Int32))] := A_b4
    show W K l _ n0 _ h5 1 2 51 #[.val (.int p), .val (.int xx), .val (.int y), .val (.int k0), .val (.int m0), .val (.int q), .val (.int k), .val (.int (0 : Int32)), .val (.int m), .val (.int m), .unset, .unset, .unset, .unset] [(.ref b4)]
    refine w_dup ok at_51 rfl ?_
    show W K l _ n0 _ h5 1 2 52 #[.val (.int p), .val (.int xx), .val (.int y), .val (.int k0), .val (.int m0), .val (.int q), .val (.int k), .val (.int (0 : Int32)), .val (.int m), .val (.int m), .unset, .unset, .unset, .unset] [(.ref b4), (.ref b4)]
    refine w_callI ok (y := (⟨"com/example/perx/perx/index/IntList", "<init>", "()V"⟩ : MethodName)) (a := b4) (argsL := []) (rest := [(.ref b4)]) at_52 rfl (hw _ (List.mem_of_getElem? (i := 4) rfl)) (hw _ (List.mem_of_getElem? (i := 5) rfl)) (hw _ (List.mem_of_getElem? (i := 3) rfl)) (hw _ (List.mem_of_getElem? (i := 6) rfl)) (by decide) pd_2829V rfl rfl (by decide) (Nat.le_of_ble_eq_true rfl) (by decide) (by decide) (fun z0 => rm_init l Z a0 hw [] n0 h5 z0 b4 A_b4 ge_b4) (fun v6 h7 qv6 => ?_)
    obtain ⟨rfl, c8, sz_c8, ge_c8, K1, A1, A_c8⟩ := qv6
    have ne_b4_c8 : b4 ≠ c8 := Nat.ne_of_lt (Nat.lt_of_lt_of_le A_b4.lt sz_c8)
    replace A_b4 : Ob Z h7 b4 "com/example/perx/perx/index/IntList" fl_IntList [(.ref c8), (.int (0 : Int32))] := A1
    replace A_c8 : PA .int Z h7 c8 [(.int (0 : Int32)), (.int (0 : Int32)), (.int (0 : Int32)), (.int (0 : Int32)), (.int (0 : Int32)), (.int (0 : Int32)), (.int (0 : Int32)), (.int (0 : Int32)), (.int (0 : Int32)), (.int (0 : Int32)), (.int (0 : Int32)), (.int (0 : Int32)), (.int (0 : Int32)), (.int (0 : Int32)), (.int (0 : Int32)), (.int (0 : Int32))] := A_c8
    show W K l _ n0 _ h7 2 18 55 #[.val (.int p), .val (.int xx), .val (.int y), .val (.int k0), .val (.int m0), .val (.int q), .val (.int k), .val (.int (0 : Int32)), .val (.int m), .val (.int m), .unset, .unset, .unset, .unset] [(.ref b4)]
    refine w_astore ok at_55 rfl (L' := #[.val (.int p), .val (.int xx), .val (.int y), .val (.int k0), .val (.int m0), .val (.int q), .val (.int k), .val (.int (0 : Int32)), .val (.int m), .val (.int m), .val (.ref b4), .unset, .unset, .unset]) rfl ?_
    show W K l _ n0 _ h7 2 18 57 #[.val (.int p), .val (.int xx), .val (.int y), .val (.int k0), .val (.int m0), .val (.int q), .val (.int k), .val (.int (0 : Int32)), .val (.int m), .val (.int m), .val (.ref b4), .unset, .unset, .unset] []
    refine w_aload ok at_57 rfl rfl ?_
    show W K l _ n0 _ h7 2 18 59 #[.val (.int p), .val (.int xx), .val (.int y), .val (.int k0), .val (.int m0), .val (.int q), .val (.int k), .val (.int (0 : Int32)), .val (.int m), .val (.int m), .val (.ref b4), .unset, .unset, .unset] [(.ref b4)]
    refine w_iloadN ok at_59 rfl ?_
    show W K l _ n0 _ h7 2 18 60 #[.val (.int p), .val (.int xx), .val (.int y), .val (.int k0), .val (.int m0), .val (.int q), .val (.int k), .val (.int (0 : Int32)), .val (.int m), .val (.int m), .val (.ref b4), .unset, .unset, .unset] [(.int p), (.ref b4)]
    refine w_callV ok (y := (⟨"com/example/perx/perx/index/IntList", "add", "(I)V"⟩ : MethodName)) (a := b4) (argsL := [(.int p)]) (rest := []) at_60 (hw _ (List.mem_of_getElem? (i := 13) rfl)) (hw _ (List.mem_of_getElem? (i := 14) rfl)) (hw _ (List.mem_of_getElem? (i := 16) rfl)) (hw _ (List.mem_of_getElem? (i := 15) rfl)) (hw _ (List.mem_of_getElem? (i := 3) rfl)) (hw _ (List.mem_of_getElem? (i := 17) rfl)) (by decide) A_b4.1 pd_28I29V rfl rfl (by decide) (Nat.le_of_ble_eq_true rfl) (by decide) (by decide) (fun z0 => rm_add l Z a0 hw [] n0 h7 z0 b4 c8 [(.int (0 : Int32)), (.int (0 : Int32)), (.int (0 : Int32)), (.int (0 : Int32)), (.int (0 : Int32)), (.int (0 : Int32)), (.int (0 : Int32)), (.int (0 : Int32)), (.int (0 : Int32)), (.int (0 : Int32)), (.int (0 : Int32)), (.int (0 : Int32)), (.int (0 : Int32)), (.int (0 : Int32)), (.int (0 : Int32)), (.int (0 : Int32))] (0 : Int32) p A_b4 A_c8 ge_b4 ge_c8 ne_b4_c8 (by decide) (Nat.le_of_ble_eq_true rfl) ⟨Nat.le_of_ble_eq_true rfl, Nat.le_of_ble_eq_true rfl⟩) (fun v9 h10 qv9 => ?_)
    obtain ⟨rfl, c11, e12, ge_c11, fr_c11, ne_b4_c11, K1, A1, A_c11, hqc11, hbc11, hec11⟩ := qv9
    obtain ⟨rfl, rfl⟩ := hqc11 (Nat.le_of_ble_eq_true rfl)
    replace A_b4 : Ob Z h10 b4 "com/example/perx/perx/index/IntList" fl_IntList [(.ref c8), (.int (1 : Int32))] := A1
    replace A_c8 : PA .int Z h10 c8 [(.int p), (.int (0 : Int32)), (.int (0 : Int32)), (.int (0 : Int32)), (.int (0 : Int32)), (.int (0 : Int32)), (.int (0 : Int32)), (.int (0 : Int32)), (.int (0 : Int32)), (.int (0 : Int32)), (.int (0 : Int32)), (.int (0 : Int32)), (.int (0 : Int32)), (.int (0 : Int32)), (.int (0 : Int32)), (.int (0 : Int32))] := A_c11
    show W K l _ n0 _ h10 3 66 63 #[.val (.int p), .val (.int xx), .val (.int y), .val (.int k0), .val (.int m0), .val (.int q), .val (.int k), .val (.int (0 : Int32)), .val (.int m), .val (.int m), .val (.ref b4), .unset, .unset, .unset] []
    refine w_aload ok at_63 rfl rfl ?_
    show W K l _ n0 _ h10 3 66 65 #[.val (.int p), .val (.int xx), .val (.int y), .val (.int k0), .val (.int m0), .val (.int q), .val (.int k), .val (.int (0 : Int32)), .val (.int m), .val (.int m), .val (.ref b4), .unset, .unset, .unset] [(.ref b4)]
    refine w_iload ok at_65 rfl ?_
    show W K l _ n0 _ h10 3 66 67 #[.val (.int p), .val (.int xx), .val (.int y), .val (.int k0), .val (.int m0), .val (.int q), .val (.int k), .val (.int (0 : Int32)), .val (.int m), .val (.int m), .val (.ref b4), .unset, .unset, .unset] [(.int k), (.ref b4)]
    refine w_callV ok (y := (⟨"com/example/perx/perx/index/IntList", "truncate", "(I)V"⟩ : MethodName)) (a := b4) (argsL := [(.int k)]) (rest := []) at_67 (hw _ (List.mem_of_getElem? (i := 20) rfl)) (hw _ (List.mem_of_getElem? (i := 21) rfl)) (hw _ (List.mem_of_getElem? (i := 23) rfl)) (hw _ (List.mem_of_getElem? (i := 22) rfl)) (hw _ (List.mem_of_getElem? (i := 3) rfl)) (hw _ (List.mem_of_getElem? (i := 24) rfl)) (by decide) A_b4.1 pd_28I29V rfl rfl (by decide) (Nat.le_of_ble_eq_true rfl) (by decide) (by decide) (fun z0 => rm_trunc l Z a0 hw [] n0 h10 z0 b4 c8 (1 : Int32) k A_b4 ge_b4) (fun v13 h14 qv13 => ?_)
    obtain ⟨rfl, K1, A1⟩ := qv13
    replace A_c8 := A_c8.keep K1 (ninS (Ne.symm ne_b4_c8) nin0)
    replace A_b4 : Ob Z h14 b4 "com/example/perx/perx/index/IntList" fl_IntList [(.ref c8), (.int k)] := A1
    show W K l _ n0 _ h14 3 66 70 #[.val (.int p), .val (.int xx), .val (.int y), .val (.int k0), .val (.int m0), .val (.int q), .val (.int k), .val (.int (0 : Int32)), .val (.int m), .val (.int m), .val (.ref b4), .unset, .unset, .unset] []
    refine w_new ok at_70 (hw _ (List.mem_of_getElem? (i := 1) rfl)) (hw _ (List.mem_of_getElem? (i := 2) rfl)) (hw _ (List.mem_of_getElem? (i := 3) rfl)) (la_IntList hw) (by decide) (by decide) (fun h16 b15 ea_b15 ge_b15 E_b15 A_b15 => ?_)
    have ne_b4_b15 : b4 ≠ b15 := fun q => Nat.lt_irrefl _ (Nat.lt_of_lt_of_eq A_b4.lt (ea_b15.symm.trans q.symm))
    have ne_c8_b15 : c8 ≠ b15 := fun q => Nat.lt_irrefl _ (Nat.lt_of_lt_of_eq A_c8.lt (ea_b15.symm.trans q.symm))
    replace A_b4 := A_b4.ext E_b15
    replace A_c8 := A_c8.ext E_b15
    replace A_b15 : Ob Z h16 b15 "com/example/perx/perx/index/IntList" fl_IntList [.null, (.int (0 : Int32))] := A_b15
    show W K l _ n0 _ h16 4 68 73 #[.val (.int p), .val (.int xx), .val (.int y), .val (.int k0), .val (.int m0), .val (.int q), .val (.int k), .val (.int (0 : Int32)), .val (.int m), .val (.int m), .val (.ref b4), .unset, .unset, .unset] [(.ref b15)]
    refine w_dup ok at_73 rfl ?_
    show W K l _ n0 _ h16 4 68 74 #[.val (.int p), .val (.int xx), .val (.int y), .val (.int k0), .val (.int m0), .val (.int q), .val (.int k), .val (.int (0 : Int32)), .val (.int m), .val (.int m), .val (.ref b4), .unset, .unset, .unset] [(.ref b15), (.ref b15)]
    refine w_callI ok (y := (⟨"com/example/perx/perx/index/IntList", "<init>", "()V"⟩ : MethodName)) (a := b15) (argsL := []) (rest := [(.ref b15)]) at_74 rfl (hw _ (List.mem_of_getElem? (i := 4) rfl)) (hw _ (List.mem_of_getElem? (i := 5) rfl)) (hw _ (List.mem_of_getElem? (i := 3) rfl)) (hw _ (List.mem_of_getElem? (i := 6) rfl)) (by decide) pd_2829V rfl rfl (by decide) (Nat.le_of_ble_eq_true rfl) (by decide) (by decide) (fun z0 => rm_init l Z a0 hw [] n0 h16 z0 b15 A_b15 ge_b15) (fun v17 h18 qv17 => ?_)
    obtain ⟨rfl, c19, sz_c19, ge_c19, K1, A1, A_c19⟩ := qv17
    have ne_b4_c19 : b4 ≠ c19 := Nat.ne_of_lt (Nat.lt_of_lt_of_le A_b4.lt sz_c19)
    have ne_c8_c19 : c8 ≠ c19 := Nat.ne_of_lt (Nat.lt_of_lt_of_le A_c8.lt sz_c19)
    have ne_b15_c19 : b15 ≠ c19 := Nat.ne_of_lt (Nat.lt_of_lt_of_le A_b15.lt sz_c19)
    replace A_b4 := A_b4.keep K1 (ninS ne_b4_b15 nin0)
    replace A_c8 := A_c8.keep K1 (ninS ne_c8_b15 nin0)
    replace A_b15 : Ob Z h18 b15 "com/example/perx/perx/index/IntList" fl_IntList [(.ref c19), (.int (0 : Int32))] := A1
    replace A_c19 : PA .int Z h18 c19 [(.int (0 : Int32)), (.int (0 : Int32)), (.int (0 : Int32)), (.int (0 : Int32)), (.int (0 : Int32)), (.int (0 : Int32)), (.int (0 : Int32)), (.int (0 : Int32)), (.int (0 : Int32)), (.int (0 : Int32)), (.int (0 : Int32)), (.int (0 : Int32)), (.int (0 : Int32)), (.int (0 : Int32)), (.int (0 : Int32)), (.int (0 : Int32))] := A_c19
    show W K l _ n0 _ h18 5 84 77 #[.val (.int p), .val (.int xx), .val (.int y), .val (.int k0), .val (.int m0), .val (.int q), .val (.int k), .val (.int (0 : Int32)), .val (.int m), .val (.int m), .val (.ref b4), .unset, .unset, .unset] [(.ref b15)]
    refine w_astore ok at_77 rfl (L' := #[.val (.int p), .val (.int xx), .val (.int y), .val (.int k0), .val (.int m0), .val (.int q), .val (.int k), .val (.int (0 : Int32)), .val (.int m), .val (.int m), .val (.ref b4), .val (.ref b15), .unset, .unset]) rfl ?_
    show W K l _ n0 _ h18 5 84 79 #[.val (.int p), .val (.int xx), .val (.int y), .val (.int k0), .val (.int m0), .val (.int q), .val (.int k), .val (.int (0 : Int32)), .val (.int m), .val (.int m), .val (.ref b4), .val (.ref b15), .unset, .unset] []
    refine w_aload ok at_79 rfl rfl ?_
    show W K l _ n0 _ h18 5 84 81 #[.val (.int p), .val (.int xx), .val (.int y), .val (.int k0), .val (.int m0), .val (.int q), .val (.int k), .val (.int (0 : Int32)), .val (.int m), .val (.int m), .val (.ref b4), .val (.ref b15), .unset, .unset] [(.ref b15)]
    refine w_iloadN ok at_81 rfl ?_
    show W K l _ n0 _ h18 5 84 82 #[.val (.int p), .val (.int xx), .val (.int y), .val (.int k0), .val (.int m0), .val (.int q), .val (.int k), .val (.int (0 : Int32)), .val (.int m), .val (.int m), .val (.ref b4), .val (.ref b15), .unset, .unset] [(.int xx), (.ref b15)]
    refine w_callV ok (y := (⟨"com/example/perx/perx/index/IntList", "add", "(I)V"⟩ : MethodName)) (a := b15) (argsL := [(.int xx)]) (rest := []) at_82 (hw _ (List.mem_of_getElem? (i := 13) rfl)) (hw _ (List.mem_of_getElem? (i := 14) rfl)) (hw _ (List.mem_of_getElem? (i := 16) rfl)) (hw _ (List.mem_of_getElem? (i := 15) rfl)) (hw _ (List.mem_of_getElem? (i := 3) rfl)) (hw _ (List.mem_of_getElem? (i := 17) rfl)) (by decide) A_b15.1 pd_28I29V rfl rfl (by decide) (Nat.le_of_ble_eq_true rfl) (by decide) (by decide) (fun z0 => rm_add l Z a0 hw [] n0 h18 z0 b15 c19 [(.int (0 : Int32)), (.int (0 : Int32)), (.int (0 : Int32)), (.int (0 : Int32)), (.int (0 : Int32)), (.int (0 : Int32)), (.int (0 : Int32)), (.int (0 : Int32)), (.int (0 : Int32)), (.int (0 : Int32)), (.int (0 : Int32)), (.int (0 : Int32)), (.int (0 : Int32)), (.int (0 : Int32)), (.int (0 : Int32)), (.int (0 : Int32))] (0 : Int32) xx A_b15 A_c19 ge_b15 ge_c19 ne_b15_c19 (by decide) (Nat.le_of_ble_eq_true rfl) ⟨Nat.le_of_ble_eq_true rfl, Nat.le_of_ble_eq_true rfl⟩) (fun v20 h21 qv20 => ?_)
    obtain ⟨rfl, c22, e23, ge_c22, fr_c22, ne_b15_c22, K1, A1, A_c22, hqc22, hbc22, hec22⟩ := qv20
    obtain ⟨rfl, rfl⟩ := hqc22 (Nat.le_of_ble_eq_true rfl)
    replace A_b4 := A_b4.keep K1 (ninS ne_b4_b15 (ninS ne_b4_c19 nin0))
    replace A_c8 := A_c8.keep K1 (ninS ne_c8_b15 (ninS ne_c8_c19 nin0))
    replace A_b15 : Ob Z h21 b15 "com/example/perx/perx/index/IntList" fl_IntList [(.ref c19), (.int (1 : Int32))] := A1
    replace A_c19 : PA .int Z h21 c19 [(.int xx), (.int (0 : Int32)), (.int (0 : Int32)), (.int (0 : Int32)), (.int (0 : Int32)), (.int (0 : Int32)), (.int (0 : Int32)), (.int (0 : Int32)), (.int (0 : Int32)), (.int (0 : Int32)), (.int (0 : Int32)), (.int (0 : Int32)), (.int (0 : Int32)), (.int (0 : Int32)), (.int (0 : Int32)), (.int (0 : Int32))] := A_c22
    show W K l _ n0 _ h21 6 132 85 #[.val (.int p), .val (.int xx), .val (.int y), .val (.int k0), .val (.int m0), .val (.int q), .val (.int k), .val (.int (0 : Int32)), .val (.int m), .val (.int m), .val (.ref b4), .val (.ref b15), .unset, .unset] []
    refine w_aload ok at_85 rfl rfl ?_
    show W K l _ n0 _ h21 6 132 87 #[.val (.int p), .val (.int xx), .val (.int y), .val (.int k0), .val (.int m0), .val (.int q), .val (.int k), .val (.int (0 : Int32)), .val (.int m), .val (.int m), .val (.ref b4), .val (.ref b15), .unset, .unset] [(.ref b15)]
    refine w_iloadN ok at_87 rfl ?_
    show W K l _ n0 _ h21 6 132 88 #[.val (.int p), .val (.int xx), .val (.int y), .val (.int k0), .val (.int m0), .val (.int q), .val (.int k), .val (.int (0 : Int32)), .val (.int m), .val (.int m), .val (.ref b4), .val (.ref b15), .unset, .unset] [(.int y), (.ref b15)]
    refine w_callV ok (y := (⟨"com/example/perx/perx/index/IntList", "add", "(I)V"⟩ : MethodName)) (a := b15) (argsL := [(.int y)]) (rest := []) at_88 (hw _ (List.mem_of_getElem? (i := 13) rfl)) (hw _ (List.mem_of_getElem? (i := 14) rfl)) (hw _ (List.mem_of_getElem? (i := 16) rfl)) (hw _ (List.mem_of_getElem? (i := 15) rfl)) (hw _ (List.mem_of_getElem? (i := 3) rfl)) (hw _ (List.mem_of_getElem? (i := 17) rfl)) (by decide) A_b15.1 pd_28I29V rfl rfl (by decide) (Nat.le_of_ble_eq_true rfl) (by decide) (by decide) (fun z0 => rm_add l Z a0 hw [] n0 h21 z0 b15 c19 [(.int xx), (.int (0 : Int32)), (.int (0 : Int32)), (.int (0 : Int32)), (.int (0 : Int32)), (.int (0 : Int32)), (.int (0 : Int32)), (.int (0 : Int32)), (.int (0 : Int32)), (.int (0 : Int32)), (.int (0 : Int32)), (.int (0 : Int32)), (.int (0 : Int32)), (.int (0 : Int32)), (.int (0 : Int32)), (.int (0 : Int32))] (1 : Int32) y A_b15 A_c19 ge_b15 ge_c19 ne_b15_c19 (by decide) (Nat.le_of_ble_eq_true rfl) ⟨Nat.le_of_ble_eq_true rfl, Nat.le_of_ble_eq_true rfl⟩) (fun v24 h25 qv24 => ?_)
    obtain ⟨rfl, c26, e27, ge_c26, fr_c26, ne_b15_c26, K1, A1, A_c26, hqc26, hbc26, hec26⟩ := qv24
    obtain ⟨rfl, rfl⟩ := hqc26 (Nat.le_of_ble_eq_true rfl)
    replace A_b4 := A_b4.keep K1 (ninS ne_b4_b15 (ninS ne_b4_c19 nin0))
    replace A_c8 := A_c8.keep K1 (ninS ne_c8_b15 (ninS ne_c8_c19 nin0))
    replace A_b15 : Ob Z h25 b15 "com/example/perx/perx/index/IntList" fl_IntList [(.ref c19), (.int (2 : Int32))] := A1
    replace A_c19 : PA .int Z h25 c19 [(.int xx), (.int y), (.int (0 : Int32)), (.int (0 : Int32)), (.int (0 : Int32)), (.int (0 : Int32)), (.int (0 : Int32)), (.int (0 : Int32)), (.int (0 : Int32)), (.int (0 : Int32)), (.int (0 : Int32)), (.int (0 : Int32)), (.int (0 : Int32)), (.int (0 : Int32)), (.int (0 : Int32)), (.int (0 : Int32))] := A_c26
    show W K l _ n0 _ h25 7 180 91 #[.val (.int p), .val (.int xx), .val (.int y), .val (.int k0), .val (.int m0), .val (.int q), .val (.int k), .val (.int (0 : Int32)), .val (.int m), .val (.int m), .val (.ref b4), .val (.ref b15), .unset, .unset] []
    refine w_aload ok at_91 rfl rfl ?_
    show W K l _ n0 _ h25 7 180 93 #[.val (.int p), .val (.int xx), .val (.int y), .val (.int k0), .val (.int m0), .val (.int q), .val (.int k), .val (.int (0 : Int32)), .val (.int m), .val (.int m), .val (.ref b4), .val (.ref b15), .unset, .unset] [(.ref b15)]
    refine w_iload ok at_93 rfl ?_
    show W K l _ n0 _ h25 7 180 95 #[.val (.int p), .val (.int xx), .val (.int y), .val (.int k0), .val (.int m0), .val (.int q), .val (.int k), .val (.int (0 : Int32)), .val (.int m), .val (.int m), .val (.ref b4), .val (.ref b15), .unset, .unset] [(.int m), (.ref b15)]
    refine w_callV ok (y := (⟨"com/example/perx/perx/index/IntList", "truncate", "(I)V"⟩ : MethodName)) (a := b15) (argsL := [(.int m)]) (rest := []) at_95 (hw _ (List.mem_of_getElem? (i := 20) rfl)) (hw _ (List.mem_of_getElem? (i := 21) rfl)) (hw _ (List.mem_of_getElem? (i := 23) rfl)) (hw _ (List.mem_of_getElem? (i := 22) rfl)) (hw _ (List.mem_of_getElem? (i := 3) rfl)) (hw _ (List.mem_of_getElem? (i := 24) rfl)) (by decide) A_b15.1 pd_28I29V rfl rfl (by decide) (Nat.le_of_ble_eq_true rfl) (by decide) (by decide) (fun z0 => rm_trunc l Z a0 hw [] n0 h25 z0 b15 c19 (2 : Int32) m A_b15 ge_b15) (fun v28 h29 qv28 => ?_)
    obtain ⟨rfl, K1, A1⟩ := qv28
    replace A_b4 := A_b4.keep K1 (ninS ne_b4_b15 nin0)
    replace A_c8 := A_c8.keep K1 (ninS ne_c8_b15 nin0)
    replace A_c19 := A_c19.keep K1 (ninS (Ne.symm ne_b15_c19) nin0)
    replace A_b15 : Ob Z h29 b15 "com/example/perx/perx/index/IntList" fl_IntList [(.ref c19), (.int m)] := A1
    show W K l _ n0 _ h29 7 180 98 #[.val (.int p), .val (.int xx), .val (.int y), .val (.int k0), .val (.int m0), .val (.int q), .val (.int k), .val (.int (0 : Int32)), .val (.int m), .val (.int m), .val (.ref b4), .val (.ref b15), .unset, .unset] []
    refine w_iload ok at_98 rfl ?_
    show W K l _ n0 _ h29 7 180 100 #[.val (.int p), .val (.int xx), .val (.int y), .val (.int k0), .val (.int m0), .val (.int q), .val (.int k), .val (.int (0 : Int32)), .val (.int m), .val (.int m), .val (.ref b4), .val (.ref b15), .unset, .unset] [(.int (0 : Int32))]
    refine w_if_eq ok at_100 (pc' := 110) (by decide) (fun hc31 => ?_) (fun hc31 => False.elim (by revert hc31; decide))
    show W K l _ n0 _ h29 7 180 110 #[.val (.int p), .val (.int xx), .val (.int y), .val (.int k0), .val (.int m0), .val (.int q), .val (.int k), .val (.int (0 : Int32)), .val (.int m), .val (.int m), .val (.ref b4), .val (.ref b15), .unset, .unset] []
    refine w_aload ok at_110 rfl rfl ?_
    show W K l _ n0 _ h29 7 180 112 #[.val (.int p), .val (.int xx), .val (.int y), .val (.int k0), .val (.int m0), .val (.int q), .val (.int k), .val (.int (0 : Int32)), .val (.int m), .val (.int m), .val (.ref b4), .val (.ref b15), .unset, .unset] [(.ref b4)]
    refine w_aload ok at_112 rfl rfl ?_
    show W K l _ n0 _ h29 7 180 114 #[.val (.int p), .val (.int xx), .val (.int y), .val (.int k0), .val (.int m0), .val (.int q), .val (.int k), .val (.int (0 : Int32)), .val (.int m), .val (.int m), .val (.ref b4), .val (.ref b15), .unset, .unset] [(.ref b15), (.ref b4)]
    refine w_callV ok (y := (⟨"com/example/perx/perx/index/IntList", "addAll", "(Lcom/example/perx/perx/index/IntList;)V"⟩ : MethodName)) (a := b4) (argsL := [(.ref b15)]) (rest := []) at_114 (hw _ (List.mem_of_getElem? (i := 25) rfl)) (hw _ (List.mem_of_getElem? (i := 26) rfl)) (hw _ (List.mem_of_getElem? (i := 28) rfl)) (hw _ (List.mem_of_getElem? (i := 27) rfl)) (hw _ (List.mem_of_getElem? (i := 3) rfl)) (hw _ (List.mem_of_getElem? (i := 29) rfl)) (by decide) A_b4.1 pd_28Lcom2fexample2fperx2fperx2findex2fIntList3b29V rfl rfl (by decide) (Nat.le_of_ble_eq_true rfl) (by decide) (by decide) (fun z0 => rm_allG l Z a0 hw [] n0 h29 z0 b4 c8 b15 c19 [.int p, .int 0, .int 0, .int 0, .int 0, .int 0, .int 0, .int 0, .int 0, .int 0, .int 0, .int 0, .int 0, .int 0, .int 0, .int 0] ([(.int xx), (.int y), (.int (0 : Int32)), (.int (0 : Int32)), (.int (0 : Int32)), (.int (0 : Int32)), (.int (0 : Int32)), (.int (0 : Int32)), (.int (0 : Int32)), (.int (0 : Int32)), (.int (0 : Int32)), (.int (0 : Int32)), (.int (0 : Int32)), (.int (0 : Int32)), (.int (0 : Int32)), (.int (0 : Int32))] : List Value) k m A_b4 A_c8 A_b15 A_c19 ge_b4 ge_c8 ne_b4_c8 ne_b4_b15 ne_b4_c19 ne_c8_b15 ne_c8_c19 hk1 hk2 rfl hm1 (show m.toNatClampNeg ≤ 16 from hm2) (by omega)) (fun v32 h33 qv32 => ?_)
    obtain ⟨rfl, c3, w3, e3, rfl, hw3, ge_c3, -, ne_b4_c3, K1, A1, A_c3⟩ := qv32
    replace A_b4 : Ob Z h33 b4 "com/example/perx/perx/index/IntList" fl_IntList [(.ref c3), (.int (k + m))] := A1
    show W K l _ n0 _ h33 8 228 117 #[.val (.int p), .val (.int xx), .val (.int y), .val (.int k0), .val (.int m0), .val (.int q), .val (.int k), .val (.int (0 : Int32)), .val (.int m), .val (.int m), .val (.ref b4), .val (.ref b15), .unset, .unset] []
    refine w_iload ok at_117 rfl ?_
    show W K l _ n0 _ h33 8 228 119 #[.val (.int p), .val (.int xx), .val (.int y), .val (.int k0), .val (.int m0), .val (.int q), .val (.int k), .val (.int (0 : Int32)), .val (.int m), .val (.int m), .val (.ref b4), .val (.ref b15), .unset, .unset] [(.int k)]
    refine w_iload ok at_119 rfl ?_
    show W K l _ n0 _ h33 8 228 121 #[.val (.int p), .val (.int xx), .val (.int y), .val (.int k0), .val (.int m0), .val (.int q), .val (.int k), .val (.int (0 : Int32)), .val (.int m), .val (.int m), .val (.ref b4), .val (.ref b15), .unset, .unset] [(.int m), (.int k)]
    refine w_iadd ok at_121 ?_
    show W K l _ n0 _ h33 8 228 122 #[.val (.int p), .val (.int xx), .val (.int y), .val (.int k0), .val (.int m0), .val (.int q), .val (.int k), .val (.int (0 : Int32)), .val (.int m), .val (.int m), .val (.ref b4), .val (.ref b15), .unset, .unset] [(.int (k + m))]
    refine w_istore ok at_122 (L' := #[.val (.int p), .val (.int xx), .val (.int y), .val (.int k0), .val (.int m0), .val (.int q), .val (.int k), .val (.int (0 : Int32)), .val (.int m), .val (.int m), .val (.ref b4), .val (.ref b15), .val (.int (k + m)), .unset]) rfl ?_
    show W K l _ n0 _ h33 8 228 124 #[.val (.int p), .val (.int xx), .val (.int y), .val (.int k0), .val (.int m0), .val (.int q), .val (.int k), .val (.int (0 : Int32)), .val (.int m), .val (.int m), .val (.ref b4), .val (.ref b15), .val (.int (k + m)), .unset] []
    refine w_aload ok at_124 rfl rfl ?_
    show W K l _ n0 _ h33 8 228 126 #[.val (.int p), .val (.int xx), .val (.int y), .val (.int k0), .val (.int m0), .val (.int q), .val (.int k), .val (.int (0 : Int32)), .val (.int m), .val (.int m), .val (.ref b4), .val (.ref b15), .val (.int (k + m)), .unset] [(.ref b4)]
    refine w_callV ok (y := (⟨"com/example/perx/perx/index/IntList", "size", "()I"⟩ : MethodName)) (a := b4) (argsL := []) (rest := []) at_126 (hw _ (List.mem_of_getElem? (i := 34) rfl)) (hw _ (List.mem_of_getElem? (i := 35) rfl)) (hw _ (List.mem_of_getElem? (i := 37) rfl)) (hw _ (List.mem_of_getElem? (i := 36) rfl)) (hw _ (List.mem_of_getElem? (i := 3) rfl)) (hw _ (List.mem_of_getElem? (i := 38) rfl)) (by decide) A_b4.1 pd_2829I rfl rfl (by decide) (Nat.le_of_ble_eq_true rfl) (by decide) (by decide) (fun z0 => rm_size l Z a0 hw [] n0 h33 z0 b4 c3 (k + m) A_b4) (fun v34 h35 qv34 => ?_)
    obtain ⟨rfl, rfl⟩ := qv34
    show W K l _ n0 _ h33 8 228 129 #[.val (.int p), .val (.int xx), .val (.int y), .val (.int k0), .val (.int m0), .val (.int q), .val (.int k), .val (.int (0 : Int32)), .val (.int m), .val (.int m), .val (.ref b4), .val (.ref b15), .val (.int (k + m)), .unset] [(.int (k + m))]
    refine w_iload ok at_129 rfl ?_
    show W K l _ n0 _ h33 8 228 131 #[.val (.int p), .val (.int xx), .val (.int y), .val (.int k0), .val (.int m0), .val (.int q), .val (.int k), .val (.int (0 : Int32)), .val (.int m), .val (.int m), .val (.ref b4), .val (.ref b15), .val (.int (k + m)), .unset] [(.int (k + m)), (.int (k + m))]
    refine w_icmp_eq ok at_131 (pc' := 136) (by decide) (fun hc37 => ?_) (fun hc37 => False.elim (by exact hc37 rfl))
    show W K l _ n0 _ h33 8 228 136 #[.val (.int p), .val (.int xx), .val (.int y), .val (.int k0), .val (.int m0), .val (.int q), .val (.int k), .val (.int (0 : Int32)), .val (.int m), .val (.int m), .val (.ref b4), .val (.ref b15), .val (.int (k + m)), .unset] []
    refine w_iload ok at_136 rfl ?_
    show W K l _ n0 _ h33 8 228 138 #[.val (.int p), .val (.int xx), .val (.int y), .val (.int k0), .val (.int m0), .val (.int q), .val (.int k), .val (.int (0 : Int32)), .val (.int m), .val (.int m), .val (.ref b4), .val (.ref b15), .val (.int (k + m)), .unset] [(.int (k + m))]
    refine w_if_ne ok at_138 (pc' := 143) (by decide) (fun hc39 => ?_) (fun hc39 => ?_)
    · show W K l _ n0 _ h33 8 228 143 #[.val (.int p), .val (.int xx), .val (.int y), .val (.int k0), .val (.int m0), .val (.int q), .val (.int k), .val (.int (0 : Int32)), .val (.int m), .val (.int m), .val (.ref b4), .val (.ref b15), .val (.int (k + m)), .unset] []
      refine w_iload ok at_143 rfl ?_
      show W K l _ n0 _ h33 8 228 145 #[.val (.int p), .val (.int xx), .val (.int y), .val (.int k0), .val (.int m0), .val (.int q), .val (.int k), .val (.int (0 : Int32)), .val (.int m), .val (.int m), .val (.ref b4), .val (.ref b15), .val (.int (k + m)), .unset] [(.int q)]
      refine w_ldcI (v := (2147483647 : Int32)) ok at_145 (hw _ (List.mem_of_getElem? (i := 0) rfl)) ?_
      show W K l _ n0 _ h33 8 228 147 #[.val (.int p), .val (.int xx), .val (.int y), .val (.int k0), .val (.int m0), .val (.int q), .val (.int k), .val (.int (0 : Int32)), .val (.int m), .val (.int m), .val (.ref b4), .val (.ref b15), .val (.int (k + m)), .unset] [(.int (2147483647 : Int32)), (.int q)]
      refine w_iand ok at_147 ?_
      show W K l _ n0 _ h33 8 228 148 #[.val (.int p), .val (.int xx), .val (.int y), .val (.int k0), .val (.int m0), .val (.int q), .val (.int k), .val (.int (0 : Int32)), .val (.int m), .val (.int m), .val (.ref b4), .val (.ref b15), .val (.int (k + m)), .unset] [(.int (q &&& (2147483647 : Int32)))]
      refine w_iload ok at_148 rfl ?_
      show W K l _ n0 _ h33 8 228 150 #[.val (.int p), .val (.int xx), .val (.int y), .val (.int k0), .val (.int m0), .val (.int q), .val (.int k), .val (.int (0 : Int32)), .val (.int m), .val (.int m), .val (.ref b4), .val (.ref b15), .val (.int (k + m)), .unset] [(.int (k + m)), (.int (q &&& (2147483647 : Int32)))]
      refine w_irem ok at_150 (by assumption) ?_
      show W K l _ n0 _ h33 8 228 151 #[.val (.int p), .val (.int xx), .val (.int y), .val (.int k0), .val (.int m0), .val (.int q), .val (.int k), .val (.int (0 : Int32)), .val (.int m), .val (.int m), .val (.ref b4), .val (.ref b15), .val (.int (k + m)), .unset] [(.int ((q &&& (2147483647 : Int32)) % (k + m)))]
      refine w_istore ok at_151 (L' := #[.val (.int p), .val (.int xx), .val (.int y), .val (.int k0), .val (.int m0), .val (.int q), .val (.int k), .val (.int (0 : Int32)), .val (.int m), .val (.int m), .val (.ref b4), .val (.ref b15), .val (.int (k + m)), .val (.int ((q &&& (2147483647 : Int32)) % (k + m)))]) rfl ?_
      show W K l _ n0 _ h33 8 228 153 #[.val (.int p), .val (.int xx), .val (.int y), .val (.int k0), .val (.int m0), .val (.int q), .val (.int k), .val (.int (0 : Int32)), .val (.int m), .val (.int m), .val (.ref b4), .val (.ref b15), .val (.int (k + m)), .val (.int ((q &&& (2147483647 : Int32)) % (k + m)))] []
      obtain ⟨t1, t2⟩ := own_add hk1 hm1 (by omega)
      obtain ⟨i1, i2⟩ := own_idx (q := q) t2 hc39
      generalize (q &&& (2147483647 : Int32)) % (k + m) = ix at i1 i2 ⊢
      show W K l _ n0 _ h33 8 228 153 #[.val (.int p), .val (.int xx), .val (.int y), .val (.int k0), .val (.int m0), .val (.int q), .val (.int k), .val (.int (0 : Int32)), .val (.int m), .val (.int m), .val (.ref b4), .val (.ref b15), .val (.int (k + m)), .val (.int ix)] []
      refine w_aload ok at_153 rfl rfl ?_
      show W K l _ n0 _ h33 8 228 155 #[.val (.int p), .val (.int xx), .val (.int y), .val (.int k0), .val (.int m0), .val (.int q), .val (.int k), .val (.int (0 : Int32)), .val (.int m), .val (.int m), .val (.ref b4), .val (.ref b15), .val (.int (k + m)), .val (.int ix)] [(.ref b4)]
      refine w_iload ok at_155 rfl ?_
      show W K l _ n0 _ h33 8 228 157 #[.val (.int p), .val (.int xx), .val (.int y), .val (.int k0), .val (.int m0), .val (.int q), .val (.int k), .val (.int (0 : Int32)), .val (.int m), .val (.int m), .val (.ref b4), .val (.ref b15), .val (.int (k + m)), .val (.int ix)] [(.int ix), (.ref b4)]
      refine w_callV ok (y := (⟨"com/example/perx/perx/index/IntList", "get", "(I)I"⟩ : MethodName)) (a := b4) (argsL := [(.int ix)]) (rest := []) at_157 (hw _ (List.mem_of_getElem? (i := 39) rfl)) (hw _ (List.mem_of_getElem? (i := 40) rfl)) (hw _ (List.mem_of_getElem? (i := 42) rfl)) (hw _ (List.mem_of_getElem? (i := 41) rfl)) (hw _ (List.mem_of_getElem? (i := 3) rfl)) (hw _ (List.mem_of_getElem? (i := 43) rfl)) (by decide) A_b4.1 pd_28I29I rfl rfl (by decide) (Nat.le_of_ble_eq_true rfl) (by decide) (by decide) (fun z0 => rm_get l Z a0 hw [] n0 h33 z0 b4 c3 (k + m) ix (own_exp ix.toNatClampNeg k.toNatClampNeg m.toNatClampNeg p xx y) _ A_b4 A_c3 i1 (own_one p xx y e3 k.toNatClampNeg m.toNatClampNeg ix.toNatClampNeg hk2 hm2 hw3 (by omega) _)) (fun v40 h41 qv40 => ?_)
      obtain ⟨rfl, rfl⟩ := qv40
      show W K l _ n0 _ h33 8 228 160 #[.val (.int p), .val (.int xx), .val (.int y), .val (.int k0), .val (.int m0), .val (.int q), .val (.int k), .val (.int (0 : Int32)), .val (.int m), .val (.int m), .val (.ref b4), .val (.ref b15), .val (.int (k + m)), .val (.int ix)] [(.int (own_exp ix.toNatClampNeg k.toNatClampNeg m.toNatClampNeg p xx y))]
      refine w_iload ok at_160 rfl ?_
      show W K l _ n0 _ h33 8 228 162 #[.val (.int p), .val (.int xx), .val (.int y), .val (.int k0), .val (.int m0), .val (.int q), .val (.int k), .val (.int (0 : Int32)), .val (.int m), .val (.int m), .val (.ref b4), .val (.ref b15), .val (.int (k + m)), .val (.int ix)] [(.int ix), (.int (own_exp ix.toNatClampNeg k.toNatClampNeg m.toNatClampNeg p xx y))]
      refine w_iload ok at_162 rfl ?_
      show W K l _ n0 _ h33 8 228 164 #[.val (.int p), .val (.int xx), .val (.int y), .val (.int k0), .val (.int m0), .val (.int q), .val (.int k), .val (.int (0 : Int32)), .val (.int m), .val (.int m), .val (.ref b4), .val (.ref b15), .val (.int (k + m)), .val (.int ix)] [(.int k), (.int ix), (.int (own_exp ix.toNatClampNeg k.toNatClampNeg m.toNatClampNeg p xx y))]
      refine w_iload ok at_164 rfl ?_
      show W K l _ n0 _ h33 8 228 166 #[.val (.int p), .val (.int xx), .val (.int y), .val (.int k0), .val (.int m0), .val (.int q), .val (.int k), .val (.int (0 : Int32)), .val (.int m), .val (.int m), .val (.ref b4), .val (.ref b15), .val (.int (k + m)), .val (.int ix)] [(.int m), (.int k), (.int ix), (.int (own_exp ix.toNatClampNeg k.toNatClampNeg m.toNatClampNeg p xx y))]
      refine w_iloadN ok at_166 rfl ?_
      show W K l _ n0 _ h33 8 228 167 #[.val (.int p), .val (.int xx), .val (.int y), .val (.int k0), .val (.int m0), .val (.int q), .val (.int k), .val (.int (0 : Int32)), .val (.int m), .val (.int m), .val (.ref b4), .val (.ref b15), .val (.int (k + m)), .val (.int ix)] [(.int p), (.int m), (.int k), (.int ix), (.int (own_exp ix.toNatClampNeg k.toNatClampNeg m.toNatClampNeg p xx y))]
      refine w_iloadN ok at_167 rfl ?_
      show W K l _ n0 _ h33 8 228 168 #[.val (.int p), .val (.int xx), .val (.int y), .val (.int k0), .val (.int m0), .val (.int q), .val (.int k), .val (.int (0 : Int32)), .val (.int m), .val (.int m), .val (.ref b4), .val (.ref b15), .val (.int (k + m)), .val (.int ix)] [(.int xx), (.int p), (.int m), (.int k), (.int ix), (.int (own_exp ix.toNatClampNeg k.toNatClampNeg m.toNatClampNeg p xx y))]
      refine w_iloadN ok at_168 rfl ?_
      show W K l _ n0 _ h33 8 228 169 #[.val (.int p), .val (.int xx), .val (.int y), .val (.int k0), .val (.int m0), .val (.int q), .val (.int k), .val (.int (0 : Int32)), .val (.int m), .val (.int m), .val (.ref b4), .val (.ref b15), .val (.int (k + m)), .val (.int ix)] [(.int y), (.int xx), (.int p), (.int m), (.int k), (.int ix), (.int (own_exp ix.toNatClampNeg k.toNatClampNeg m.toNatClampNeg p xx y))]
      refine w_callS ok (y := (⟨"com/example/perx/perx/index/IntListAddAllPinLaw", "expectedAt", "(IIIIII)I"⟩ : MethodName)) (argsL := [(.int ix), (.int k), (.int m), (.int p), (.int xx), (.int y)]) (rest := [(.int (own_exp ix.toNatClampNeg k.toNatClampNeg m.toNatClampNeg p xx y))]) at_169 (hw _ (List.mem_of_getElem? (i := 44) rfl)) (hw _ (List.mem_of_getElem? (i := 45) rfl)) (hw _ (List.mem_of_getElem? (i := 46) rfl)) (hw _ (List.mem_of_getElem? (i := 47) rfl)) (by decide) pd_28IIIIII29I rfl rfl (by decide) (Nat.le_of_ble_eq_true rfl) (by decide) (by decide) (fun z0 => rm_exp l Z a0 hw [] n0 h33 z0 ix k m p xx y i1 hk1 hm1) (fun v42 h43 qv42 => ?_)
      obtain ⟨rfl, rfl⟩ := qv42
      show W K l _ n0 _ h33 8 228 172 #[.val (.int p), .val (.int xx), .val (.int y), .val (.int k0), .val (.int m0), .val (.int q), .val (.int k), .val (.int (0 : Int32)), .val (.int m), .val (.int m), .val (.ref b4), .val (.ref b15), .val (.int (k + m)), .val (.int ix)] [(.int (own_exp ix.toNatClampNeg k.toNatClampNeg m.toNatClampNeg p xx y)), (.int (own_exp ix.toNatClampNeg k.toNatClampNeg m.toNatClampNeg p xx y))]
      refine w_icmp_ne ok at_172 (pc' := 179) (by decide) (fun hc45 => False.elim (by exact hc45 rfl)) (fun hc45 => ?_)
      show W K l _ n0 _ h33 8 228 175 #[.val (.int p), .val (.int xx), .val (.int y), .val (.int k0), .val (.int m0), .val (.int q), .val (.int k), .val (.int (0 : Int32)), .val (.int m), .val (.int m), .val (.ref b4), .val (.ref b15), .val (.int (k + m)), .val (.int ix)] []
      refine w_iconst ok at_175 (v := (1 : Int32)) rfl ?_
      show W K l _ n0 _ h33 8 228 176 #[.val (.int p), .val (.int xx), .val (.int y), .val (.int k0), .val (.int m0), .val (.int q), .val (.int k), .val (.int (0 : Int32)), .val (.int m), .val (.int m), .val (.ref b4), .val (.ref b15), .val (.int (k + m)), .val (.int ix)] [(.int (1 : Int32))]
      refine w_goto ok at_176 (pc' := 180) (by decide) ?_
      show W K l _ n0 _ h33 8 228 180 #[.val (.int p), .val (.int xx), .val (.int y), .val (.int k0), .val (.int m0), .val (.int q), .val (.int k), .val (.int (0 : Int32)), .val (.int m), .val (.int m), .val (.ref b4), .val (.ref b15), .val (.int (k + m)), .val (.int ix)] [(.int (1 : Int32))]
      refine w_bret ok (by simp) at_180 (by decide) (by decide) ?_
      exact rfl
    · show W K l _ n0 _ h33 8 228 141 #[.val (.int p), .val (.int xx), .val (.int y), .val (.int k0), .val (.int m0), .val (.int q), .val (.int k), .val (.int (0 : Int32)), .val (.int m), .val (.int m), .val (.ref b4), .val (.ref b15), .val (.int (k + m)), .unset] []
      refine w_iconst ok at_141 (v := (1 : Int32)) rfl ?_
      show W K l _ n0 _ h33 8 228 142 #[.val (.int p), .val (.int xx), .val (.int y), .val (.int k0), .val (.int m0), .val (.int q), .val (.int k), .val (.int (0 : Int32)), .val (.int m), .val (.int m), .val (.ref b4), .val (.ref b15), .val (.int (k + m)), .unset] [(.int (1 : Int32))]
      refine w_bret ok (by simp) at_142 (by decide) (by decide) ?_
      exact rfl
  · show W K l _ n0 _ h0 0 0 16 #[.val (.int p), .val (.int xx), .val (.int y), .val (.int k0), .val (.int m0), .val (.int q), .val (.int ((k0 &&& (2147483647 : Int32)) % (17 : Int32))), .unset, .unset, .unset, .unset, .unset, .unset, .unset] []
    refine w_iconst ok at_16 (v := (1 : Int32)) rfl ?_
    show W K l _ n0 _ h0 0 0 17 #[.val (.int p), .val (.int xx), .val (.int y), .val (.int k0), .val (.int m0), .val (.int q), .val (.int ((k0 &&& (2147483647 : Int32)) % (17 : Int32))), .unset, .unset, .unset, .unset, .unset, .unset, .unset] [(.int (1 : Int32))]
    refine w_goto ok at_17 (pc' := 21) (by decide) ?_
    show W K l _ n0 _ h0 0 0 21 #[.val (.int p), .val (.int xx), .val (.int y), .val (.int k0), .val (.int m0), .val (.int q), .val (.int ((k0 &&& (2147483647 : Int32)) % (17 : Int32))), .unset, .unset, .unset, .unset, .unset, .unset, .unset] [(.int (1 : Int32))]
    refine w_istore ok at_21 (L' := #[.val (.int p), .val (.int xx), .val (.int y), .val (.int k0), .val (.int m0), .val (.int q), .val (.int ((k0 &&& (2147483647 : Int32)) % (17 : Int32))), .val (.int (1 : Int32)), .unset, .unset, .unset, .unset, .unset, .unset]) rfl ?_
    show W K l _ n0 _ h0 0 0 23 #[.val (.int p), .val (.int xx), .val (.int y), .val (.int k0), .val (.int m0), .val (.int q), .val (.int ((k0 &&& (2147483647 : Int32)) % (17 : Int32))), .val (.int (1 : Int32)), .unset, .unset, .unset, .unset, .unset, .unset] []
    refine w_iload ok at_23 rfl ?_
    show W K l _ n0 _ h0 0 0 25 #[.val (.int p), .val (.int xx), .val (.int y), .val (.int k0), .val (.int m0), .val (.int q), .val (.int ((k0 &&& (2147483647 : Int32)) % (17 : Int32))), .val (.int (1 : Int32)), .unset, .unset, .unset, .unset, .unset, .unset] [(.int m0)]
    refine w_iconst ok at_25 (v := (1 : Int32)) rfl ?_
    show W K l _ n0 _ h0 0 0 26 #[.val (.int p), .val (.int xx), .val (.int y), .val (.int k0), .val (.int m0), .val (.int q), .val (.int ((k0 &&& (2147483647 : Int32)) % (17 : Int32))), .val (.int (1 : Int32)), .unset, .unset, .unset, .unset, .unset, .unset] [(.int (1 : Int32)), (.int m0)]
    refine w_iushr ok at_26 ?_
    show W K l _ n0 _ h0 0 0 27 #[.val (.int p), .val (.int xx), .val (.int y), .val (.int k0), .val (.int m0), .val (.int q), .val (.int ((k0 &&& (2147483647 : Int32)) % (17 : Int32))), .val (.int (1 : Int32)), .unset, .unset, .unset, .unset, .unset, .unset] [(.int (Jvm.Free.XT.ushr m0 (1 : Int32)))]
    refine w_bipush ok at_27 (v := (17 : Int32)) rfl ?_
    show W K l _ n0 _ h0 0 0 29 #[.val (.int p), .val (.int xx), .val (.int y), .val (.int k0), .val (.int m0), .val (.int q), .val (.int ((k0 &&& (2147483647 : Int32)) % (17 : Int32))), .val (.int (1 : Int32)), .unset, .unset, .unset, .unset, .unset, .unset] [(.int (17 : Int32)), (.int (Jvm.Free.XT.ushr m0 (1 : Int32)))]
    refine w_irem ok at_29 (by decide) ?_
    show W K l _ n0 _ h0 0 0 30 #[.val (.int p), .val (.int xx), .val (.int y), .val (.int k0), .val (.int m0), .val (.int q), .val (.int ((k0 &&& (2147483647 : Int32)) % (17 : Int32))), .val (.int (1 : Int32)), .unset, .unset, .unset, .unset, .unset, .unset] [(.int ((Jvm.Free.XT.ushr m0 (1 : Int32)) % (17 : Int32)))]
    refine w_istore ok at_30 (L' := #[.val (.int p), .val (.int xx), .val (.int y), .val (.int k0), .val (.int m0), .val (.int q), .val (.int ((k0 &&& (2147483647 : Int32)) % (17 : Int32))), .val (.int (1 : Int32)), .val (.int ((Jvm.Free.XT.ushr m0 (1 : Int32)) % (17 : Int32))), .unset, .unset, .unset, .unset, .unset]) rfl ?_
    show W K l _ n0 _ h0 0 0 32 #[.val (.int p), .val (.int xx), .val (.int y), .val (.int k0), .val (.int m0), .val (.int q), .val (.int ((k0 &&& (2147483647 : Int32)) % (17 : Int32))), .val (.int (1 : Int32)), .val (.int ((Jvm.Free.XT.ushr m0 (1 : Int32)) % (17 : Int32))), .unset, .unset, .unset, .unset, .unset] []
    refine w_iload ok at_32 rfl ?_
    show W K l _ n0 _ h0 0 0 34 #[.val (.int p), .val (.int xx), .val (.int y), .val (.int k0), .val (.int m0), .val (.int q), .val (.int ((k0 &&& (2147483647 : Int32)) % (17 : Int32))), .val (.int (1 : Int32)), .val (.int ((Jvm.Free.XT.ushr m0 (1 : Int32)) % (17 : Int32))), .unset, .unset, .unset, .unset, .unset] [(.int (1 : Int32))]
    refine w_if_eq ok at_34 (pc' := 44) (by decide) (fun hc47 => False.elim (by revert hc47; decide)) (fun hc47 => ?_)
    show W K l _ n0 _ h0 0 0 37 #[.val (.int p), .val (.int xx), .val (.int y), .val (.int k0), .val (.int m0), .val (.int q), .val (.int ((k0 &&& (2147483647 : Int32)) % (17 : Int32))), .val (.int (1 : Int32)), .val (.int ((Jvm.Free.XT.ushr m0 (1 : Int32)) % (17 : Int32))), .unset, .unset, .unset, .unset, .unset] []
    refine w_iconst ok at_37 (v := (2 : Int32)) rfl ?_
    show W K l _ n0 _ h0 0 0 38 #[.val (.int p), .val (.int xx), .val (.int y), .val (.int k0), .val (.int m0), .val (.int q), .val (.int ((k0 &&& (2147483647 : Int32)) % (17 : Int32))), .val (.int (1 : Int32)), .val (.int ((Jvm.Free.XT.ushr m0 (1 : Int32)) % (17 : Int32))), .unset, .unset, .unset, .unset, .unset] [(.int (2 : Int32))]
    refine w_iload ok at_38 rfl ?_
    show W K l _ n0 _ h0 0 0 40 #[.val (.int p), .val (.int xx), .val (.int y), .val (.int k0), .val (.int m0), .val (.int q), .val (.int ((k0 &&& (2147483647 : Int32)) % (17 : Int32))), .val (.int (1 : Int32)), .val (.int ((Jvm.Free.XT.ushr m0 (1 : Int32)) % (17 : Int32))), .unset, .unset, .unset, .unset, .unset] [(.int ((Jvm.Free.XT.ushr m0 (1 : Int32)) % (17 : Int32))), (.int (2 : Int32))]
    refine w_imul ok at_40 ?_
    show W K l _ n0 _ h0 0 0 41 #[.val (.int p), .val (.int xx), .val (.int y), .val (.int k0), .val (.int m0), .val (.int q), .val (.int ((k0 &&& (2147483647 : Int32)) % (17 : Int32))), .val (.int (1 : Int32)), .val (.int ((Jvm.Free.XT.ushr m0 (1 : Int32)) % (17 : Int32))), .unset, .unset, .unset, .unset, .unset] [(.int ((2 : Int32) * ((Jvm.Free.XT.ushr m0 (1 : Int32)) % (17 : Int32))))]
    refine w_goto ok at_41 (pc' := 46) (by decide) ?_
    show W K l _ n0 _ h0 0 0 46 #[.val (.int p), .val (.int xx), .val (.int y), .val (.int k0), .val (.int m0), .val (.int q), .val (.int ((k0 &&& (2147483647 : Int32)) % (17 : Int32))), .val (.int (1 : Int32)), .val (.int ((Jvm.Free.XT.ushr m0 (1 : Int32)) % (17 : Int32))), .unset, .unset, .unset, .unset, .unset] [(.int ((2 : Int32) * ((Jvm.Free.XT.ushr m0 (1 : Int32)) % (17 : Int32))))]
    refine w_istore ok at_46 (L' := #[.val (.int p), .val (.int xx), .val (.int y), .val (.int k0), .val (.int m0), .val (.int q), .val (.int ((k0 &&& (2147483647 : Int32)) % (17 : Int32))), .val (.int (1 : Int32)), .val (.int ((Jvm.Free.XT.ushr m0 (1 : Int32)) % (17 : Int32))), .val (.int ((2 : Int32) * ((Jvm.Free.XT.ushr m0 (1 : Int32)) % (17 : Int32)))), .unset, .unset, .unset, .unset]) rfl ?_
    show W K l _ n0 _ h0 0 0 48 #[.val (.int p), .val (.int xx), .val (.int y), .val (.int k0), .val (.int m0), .val (.int q), .val (.int ((k0 &&& (2147483647 : Int32)) % (17 : Int32))), .val (.int (1 : Int32)), .val (.int ((Jvm.Free.XT.ushr m0 (1 : Int32)) % (17 : Int32))), .val (.int ((2 : Int32) * ((Jvm.Free.XT.ushr m0 (1 : Int32)) % (17 : Int32)))), .unset, .unset, .unset, .unset] []
    generalize hk : (k0 &&& (2147483647 : Int32)) % (17 : Int32) = k
    generalize hm : (Jvm.Free.XT.ushr m0 (1 : Int32)) % (17 : Int32) = m
    obtain ⟨hk1, hk2⟩ := own_m17 (own_k17 k0)
    rw [hk] at hk1 hk2
    obtain ⟨hm1, hm2⟩ := own_m17 (own_s17 m0)
    rw [hm] at hm1 hm2
    show W K l _ n0 _ h0 0 0 48 #[.val (.int p), .val (.int xx), .val (.int y), .val (.int k0), .val (.int m0), .val (.int q), .val (.int k), .val (.int (1 : Int32)), .val (.int m), .val (.int ((2 : Int32) * m)), .unset, .unset, .unset, .unset] []
    rw [own_tw hm1 hm2]
    show W K l _ n0 _ h0 0 0 48 #[.val (.int p), .val (.int xx), .val (.int y), .val (.int k0), .val (.int m0), .val (.int q), .val (.int k), .val (.int (1 : Int32)), .val (.int m), .val (.int (m + m)), .unset, .unset, .unset, .unset] []
    refine w_new ok at_48 (hw _ (List.mem_of_getElem? (i := 1) rfl)) (hw _ (List.mem_of_getElem? (i := 2) rfl)) (hw _ (List.mem_of_getElem? (i := 3) rfl)) (la_IntList hw) (by decide) (by decide) (fun h49 b48 ea_b48 ge_b48 E_b48 A_b48 => ?_)
    replace A_b48 : Ob Z h49 b48 "com/example/perx/perx/index/IntList" fl_IntList [.null, (.int (0 : Int32))] := A_b48
    show W K l _ n0 _ h49 1 2 51 #[.val (.int p), .val (.int xx), .val (.int y), .val (.int k0), .val (.int m0), .val (.int q), .val (.int k), .val (.int (1 : Int32)), .val (.int m), .val (.int (m + m)), .unset, .unset, .unset, .unset] [(.ref b48)]
    refine w_dup ok at_51 rfl ?_
    show W K l _ n0 _ h49 1 2 52 #[.val (.int p), .val (.int xx), .val (.int y), .val (.int k0), .val (.int m0), .val (.int q), .val (.int k), .val (.int (1 : Int32)), .val (.int m), .val (.int (m + m)), .unset, .unset, .unset, .unset] [(.ref b48), (.ref b48)]
    refine w_callI ok (y := (⟨"com/example/perx/perx/index/IntList", "<init>", "()V"⟩ : MethodName)) (a := b48) (argsL := []) (rest := [(.ref b48)]) at_52 rfl (hw _ (List.mem_of_getElem? (i := 4) rfl)) (hw _ (List.mem_of_getElem? (i := 5) rfl)) (hw _ (List.mem_of_getElem? (i := 3) rfl)) (hw _ (List.mem_of_getElem? (i := 6) rfl)) (by decide) pd_2829V rfl rfl (by decide) (Nat.le_of_ble_eq_true rfl) (by decide) (by decide) (fun z0 => rm_init l Z a0 hw [] n0 h49 z0 b48 A_b48 ge_b48) (fun v50 h51 qv50 => ?_)
    obtain ⟨rfl, c52, sz_c52, ge_c52, K1, A1, A_c52⟩ := qv50
    have ne_b48_c52 : b48 ≠ c52 := Nat.ne_of_lt (Nat.lt_of_lt_of_le A_b48.lt sz_c52)
    replace A_b48 : Ob Z h51 b48 "com/example/perx/perx/index/IntList" fl_IntList [(.ref c52), (.int (0 : Int32))] := A1
    replace A_c52 : PA .int Z h51 c52 [(.int (0 : Int32)), (.int (0 : Int32)), (.int (0 : Int32)), (.int (0 : Int32)), (.int (0 : Int32)), (.int (0 : Int32)), (.int (0 : Int32)), (.int (0 : Int32)), (.int (0 : Int32)), (.int (0 : Int32)), (.int (0 : Int32)), (.int (0 : Int32)), (.int (0 : Int32)), (.int (0 : Int32)), (.int (0 : Int32)), (.int (0 : Int32))] := A_c52
    show W K l _ n0 _ h51 2 18 55 #[.val (.int p), .val (.int xx), .val (.int y), .val (.int k0), .val (.int m0), .val (.int q), .val (.int k), .val (.int (1 : Int32)), .val (.int m), .val (.int (m + m)), .unset, .unset, .unset, .unset] [(.ref b48)]
    refine w_astore ok at_55 rfl (L' := #[.val (.int p), .val (.int xx), .val (.int y), .val (.int k0), .val (.int m0), .val (.int q), .val (.int k), .val (.int (1 : Int32)), .val (.int m), .val (.int (m + m)), .val (.ref b48), .unset, .unset, .unset]) rfl ?_
    show W K l _ n0 _ h51 2 18 57 #[.val (.int p), .val (.int xx), .val (.int y), .val (.int k0), .val (.int m0), .val (.int q), .val (.int k), .val (.int (1 : Int32)), .val (.int m), .val (.int (m + m)), .val (.ref b48), .unset, .unset, .unset] []
    refine w_aload ok at_57 rfl rfl ?_
    show W K l _ n0 _ h51 2 18 59 #[.val (.int p), .val (.int xx), .val (.int y), .val (.int k0), .val (.int m0), .val (.int q), .val (.int k), .val (.int (1 : Int32)), .val (.int m), .val (.int (m + m)), .val (.ref b48), .unset, .unset, .unset] [(.ref b48)]
    refine w_iloadN ok at_59 rfl ?_
    show W K l _ n0 _ h51 2 18 60 #[.val (.int p), .val (.int xx), .val (.int y), .val (.int k0), .val (.int m0), .val (.int q), .val (.int k), .val (.int (1 : Int32)), .val (.int m), .val (.int (m + m)), .val (.ref b48), .unset, .unset, .unset] [(.int p), (.ref b48)]
    refine w_callV ok (y := (⟨"com/example/perx/perx/index/IntList", "add", "(I)V"⟩ : MethodName)) (a := b48) (argsL := [(.int p)]) (rest := []) at_60 (hw _ (List.mem_of_getElem? (i := 13) rfl)) (hw _ (List.mem_of_getElem? (i := 14) rfl)) (hw _ (List.mem_of_getElem? (i := 16) rfl)) (hw _ (List.mem_of_getElem? (i := 15) rfl)) (hw _ (List.mem_of_getElem? (i := 3) rfl)) (hw _ (List.mem_of_getElem? (i := 17) rfl)) (by decide) A_b48.1 pd_28I29V rfl rfl (by decide) (Nat.le_of_ble_eq_true rfl) (by decide) (by decide) (fun z0 => rm_add l Z a0 hw [] n0 h51 z0 b48 c52 [(.int (0 : Int32)), (.int (0 : Int32)), (.int (0 : Int32)), (.int (0 : Int32)), (.int (0 : Int32)), (.int (0 : Int32)), (.int (0 : Int32)), (.int (0 : Int32)), (.int (0 : Int32)), (.int (0 : Int32)), (.int (0 : Int32)), (.int (0 : Int32)), (.int (0 : Int32)), (.int (0 : Int32)), (.int (0 : Int32)), (.int (0 : Int32))] (0 : Int32) p A_b48 A_c52 ge_b48 ge_c52 ne_b48_c52 (by decide) (Nat.le_of_ble_eq_true rfl) ⟨Nat.le_of_ble_eq_true rfl, Nat.le_of_ble_eq_true rfl⟩) (fun v53 h54 qv53 => ?_)
    obtain ⟨rfl, c55, e56, ge_c55, fr_c55, ne_b48_c55, K1, A1, A_c55, hqc55, hbc55, hec55⟩ := qv53
    obtain ⟨rfl, rfl⟩ := hqc55 (Nat.le_of_ble_eq_true rfl)
    replace A_b48 : Ob Z h54 b48 "com/example/perx/perx/index/IntList" fl_IntList [(.ref c52), (.int (1 : Int32))] := A1
    replace A_c52 : PA .int Z h54 c52 [(.int p), (.int (0 : Int32)), (.int (0 : Int32)), (.int (0 : Int32)), (.int (0 : Int32)), (.int (0 : Int32)), (.int (0 : Int32)), (.int (0 : Int32)), (.int (0 : Int32)), (.int (0 : Int32)), (.int (0 : Int32)), (.int (0 : Int32)), (.int (0 : Int32)), (.int (0 : Int32)), (.int (0 : Int32)), (.int (0 : Int32))] := A_c55
    show W K l _ n0 _ h54 3 66 63 #[.val (.int p), .val (.int xx), .val (.int y), .val (.int k0), .val (.int m0), .val (.int q), .val (.int k), .val (.int (1 : Int32)), .val (.int m), .val (.int (m + m)), .val (.ref b48), .unset, .unset, .unset] []
    refine w_aload ok at_63 rfl rfl ?_
    show W K l _ n0 _ h54 3 66 65 #[.val (.int p), .val (.int xx), .val (.int y), .val (.int k0), .val (.int m0), .val (.int q), .val (.int k), .val (.int (1 : Int32)), .val (.int m), .val (.int (m + m)), .val (.ref b48), .unset, .unset, .unset] [(.ref b48)]
    refine w_iload ok at_65 rfl ?_
    show W K l _ n0 _ h54 3 66 67 #[.val (.int p), .val (.int xx), .val (.int y), .val (.int k0), .val (.int m0), .val (.int q), .val (.int k), .val (.int (1 : Int32)), .val (.int m), .val (.int (m + m)), .val (.ref b48), .unset, .unset, .unset] [(.int k), (.ref b48)]
    refine w_callV ok (y := (⟨"com/example/perx/perx/index/IntList", "truncate", "(I)V"⟩ : MethodName)) (a := b48) (argsL := [(.int k)]) (rest := []) at_67 (hw _ (List.mem_of_getElem? (i := 20) rfl)) (hw _ (List.mem_of_getElem? (i := 21) rfl)) (hw _ (List.mem_of_getElem? (i := 23) rfl)) (hw _ (List.mem_of_getElem? (i := 22) rfl)) (hw _ (List.mem_of_getElem? (i := 3) rfl)) (hw _ (List.mem_of_getElem? (i := 24) rfl)) (by decide) A_b48.1 pd_28I29V rfl rfl (by decide) (Nat.le_of_ble_eq_true rfl) (by decide) (by decide) (fun z0 => rm_trunc l Z a0 hw [] n0 h54 z0 b48 c52 (1 : Int32) k A_b48 ge_b48) (fun v57 h58 qv57 => ?_)
    obtain ⟨rfl, K1, A1⟩ := qv57
    replace A_c52 := A_c52.keep K1 (ninS (Ne.symm ne_b48_c52) nin0)
    replace A_b48 : Ob Z h58 b48 "com/example/perx/perx/index/IntList" fl_IntList [(.ref c52), (.int k)] := A1
    show W K l _ n0 _ h58 3 66 70 #[.val (.int p), .val (.int xx), .val (.int y), .val (.int k0), .val (.int m0), .val (.int q), .val (.int k), .val (.int (1 : Int32)), .val (.int m), .val (.int (m + m)), .val (.ref b48), .unset, .unset, .unset] []
    refine w_new ok at_70 (hw _ (List.mem_of_getElem? (i := 1) rfl)) (hw _ (List.mem_of_getElem? (i := 2) rfl)) (hw _ (List.mem_of_getElem? (i := 3) rfl)) (la_IntList hw) (by decide) (by decide) (fun h60 b59 ea_b59 ge_b59 E_b59 A_b59 => ?_)
    have ne_b48_b59 : b48 ≠ b59 := fun q => Nat.lt_irrefl _ (Nat.lt_of_lt_of_eq A_b48.lt (ea_b59.symm.trans q.symm))
    have ne_c52_b59 : c52 ≠ b59 := fun q => Nat.lt_irrefl _ (Nat.lt_of_lt_of_eq A_c52.lt (ea_b59.symm.trans q.symm))
    replace A_b48 := A_b48.ext E_b59
    replace A_c52 := A_c52.ext E_b59
    replace A_b59 : Ob Z h60 b59 "com/example/perx/perx/index/IntList" fl_IntList [.null, (.int (0 : Int32))] := A_b59
    show W K l _ n0 _ h60 4 68 73 #[.val (.int p), .val (.int xx), .val (.int y), .val (.int k0), .val (.int m0), .val (.int q), .val (.int k), .val (.int (1 : Int32)), .val (.int m), .val (.int (m + m)), .val (.ref b48), .unset, .unset, .unset] [(.ref b59)]
    refine w_dup ok at_73 rfl ?_
    show W K l _ n0 _ h60 4 68 74 #[.val (.int p), .val (.int xx), .val (.int y), .val (.int k0), .val (.int m0), .val (.int q), .val (.int k), .val (.int (1 : Int32)), .val (.int m), .val (.int (m + m)), .val (.ref b48), .unset, .unset, .unset] [(.ref b59), (.ref b59)]
    refine w_callI ok (y := (⟨"com/example/perx/perx/index/IntList", "<init>", "()V"⟩ : MethodName)) (a := b59) (argsL := []) (rest := [(.ref b59)]) at_74 rfl (hw _ (List.mem_of_getElem? (i := 4) rfl)) (hw _ (List.mem_of_getElem? (i := 5) rfl)) (hw _ (List.mem_of_getElem? (i := 3) rfl)) (hw _ (List.mem_of_getElem? (i := 6) rfl)) (by decide) pd_2829V rfl rfl (by decide) (Nat.le_of_ble_eq_true rfl) (by decide) (by decide) (fun z0 => rm_init l Z a0 hw [] n0 h60 z0 b59 A_b59 ge_b59) (fun v61 h62 qv61 => ?_)
    obtain ⟨rfl, c63, sz_c63, ge_c63, K1, A1, A_c63⟩ := qv61
    have ne_b48_c63 : b48 ≠ c63 := Nat.ne_of_lt (Nat.lt_of_lt_of_le A_b48.lt sz_c63)
    have ne_c52_c63 : c52 ≠ c63 := Nat.ne_of_lt (Nat.lt_of_lt_of_le A_c52.lt sz_c63)
    have ne_b59_c63 : b59 ≠ c63 := Nat.ne_of_lt (Nat.lt_of_lt_of_le A_b59.lt sz_c63)
    replace A_b48 := A_b48.keep K1 (ninS ne_b48_b59 nin0)
    replace A_c52 := A_c52.keep K1 (ninS ne_c52_b59 nin0)
    replace A_b59 : Ob Z h62 b59 "com/example/perx/perx/index/IntList" fl_IntList [(.ref c63), (.int (0 : Int32))] := A1
    replace A_c63 : PA .int Z h62 c63 [(.int (0 : Int32)), (.int (0 : Int32)), (.int (0 : Int32)), (.int (0 : Int32)), (.int (0 : Int32)), (.int (0 : Int32)), (.int (0 : Int32)), (.int (0 : Int32)), (.int (0 : Int32)), (.int (0 : Int32)), (.int (0 : Int32)), (.int (0 : Int32)), (.int (0 : Int32)), (.int (0 : Int32)), (.int (0 : Int32)), (.int (0 : Int32))] := A_c63
    show W K l _ n0 _ h62 5 84 77 #[.val (.int p), .val (.int xx), .val (.int y), .val (.int k0), .val (.int m0), .val (.int q), .val (.int k), .val (.int (1 : Int32)), .val (.int m), .val (.int (m + m)), .val (.ref b48), .unset, .unset, .unset] [(.ref b59)]
    refine w_astore ok at_77 rfl (L' := #[.val (.int p), .val (.int xx), .val (.int y), .val (.int k0), .val (.int m0), .val (.int q), .val (.int k), .val (.int (1 : Int32)), .val (.int m), .val (.int (m + m)), .val (.ref b48), .val (.ref b59), .unset, .unset]) rfl ?_
    show W K l _ n0 _ h62 5 84 79 #[.val (.int p), .val (.int xx), .val (.int y), .val (.int k0), .val (.int m0), .val (.int q), .val (.int k), .val (.int (1 : Int32)), .val (.int m), .val (.int (m + m)), .val (.ref b48), .val (.ref b59), .unset, .unset] []
    refine w_aload ok at_79 rfl rfl ?_
    show W K l _ n0 _ h62 5 84 81 #[.val (.int p), .val (.int xx), .val (.int y), .val (.int k0), .val (.int m0), .val (.int q), .val (.int k), .val (.int (1 : Int32)), .val (.int m), .val (.int (m + m)), .val (.ref b48), .val (.ref b59), .unset, .unset] [(.ref b59)]
    refine w_iloadN ok at_81 rfl ?_
    show W K l _ n0 _ h62 5 84 82 #[.val (.int p), .val (.int xx), .val (.int y), .val (.int k0), .val (.int m0), .val (.int q), .val (.int k), .val (.int (1 : Int32)), .val (.int m), .val (.int (m + m)), .val (.ref b48), .val (.ref b59), .unset, .unset] [(.int xx), (.ref b59)]
    refine w_callV ok (y := (⟨"com/example/perx/perx/index/IntList", "add", "(I)V"⟩ : MethodName)) (a := b59) (argsL := [(.int xx)]) (rest := []) at_82 (hw _ (List.mem_of_getElem? (i := 13) rfl)) (hw _ (List.mem_of_getElem? (i := 14) rfl)) (hw _ (List.mem_of_getElem? (i := 16) rfl)) (hw _ (List.mem_of_getElem? (i := 15) rfl)) (hw _ (List.mem_of_getElem? (i := 3) rfl)) (hw _ (List.mem_of_getElem? (i := 17) rfl)) (by decide) A_b59.1 pd_28I29V rfl rfl (by decide) (Nat.le_of_ble_eq_true rfl) (by decide) (by decide) (fun z0 => rm_add l Z a0 hw [] n0 h62 z0 b59 c63 [(.int (0 : Int32)), (.int (0 : Int32)), (.int (0 : Int32)), (.int (0 : Int32)), (.int (0 : Int32)), (.int (0 : Int32)), (.int (0 : Int32)), (.int (0 : Int32)), (.int (0 : Int32)), (.int (0 : Int32)), (.int (0 : Int32)), (.int (0 : Int32)), (.int (0 : Int32)), (.int (0 : Int32)), (.int (0 : Int32)), (.int (0 : Int32))] (0 : Int32) xx A_b59 A_c63 ge_b59 ge_c63 ne_b59_c63 (by decide) (Nat.le_of_ble_eq_true rfl) ⟨Nat.le_of_ble_eq_true rfl, Nat.le_of_ble_eq_true rfl⟩) (fun v64 h65 qv64 => ?_)
    obtain ⟨rfl, c66, e67, ge_c66, fr_c66, ne_b59_c66, K1, A1, A_c66, hqc66, hbc66, hec66⟩ := qv64
    obtain ⟨rfl, rfl⟩ := hqc66 (Nat.le_of_ble_eq_true rfl)
    replace A_b48 := A_b48.keep K1 (ninS ne_b48_b59 (ninS ne_b48_c63 nin0))
    replace A_c52 := A_c52.keep K1 (ninS ne_c52_b59 (ninS ne_c52_c63 nin0))
    replace A_b59 : Ob Z h65 b59 "com/example/perx/perx/index/IntList" fl_IntList [(.ref c63), (.int (1 : Int32))] := A1
    replace A_c63 : PA .int Z h65 c63 [(.int xx), (.int (0 : Int32)), (.int (0 : Int32)), (.int (0 : Int32)), (.int (0 : Int32)), (.int (0 : Int32)), (.int (0 : Int32)), (.int (0 : Int32)), (.int (0 : Int32)), (.int (0 : Int32)), (.int (0 : Int32)), (.int (0 : Int32)), (.int (0 : Int32)), (.int (0 : Int32)), (.int (0 : Int32)), (.int (0 : Int32))] := A_c66
    show W K l _ n0 _ h65 6 132 85 #[.val (.int p), .val (.int xx), .val (.int y), .val (.int k0), .val (.int m0), .val (.int q), .val (.int k), .val (.int (1 : Int32)), .val (.int m), .val (.int (m + m)), .val (.ref b48), .val (.ref b59), .unset, .unset] []
    refine w_aload ok at_85 rfl rfl ?_
    show W K l _ n0 _ h65 6 132 87 #[.val (.int p), .val (.int xx), .val (.int y), .val (.int k0), .val (.int m0), .val (.int q), .val (.int k), .val (.int (1 : Int32)), .val (.int m), .val (.int (m + m)), .val (.ref b48), .val (.ref b59), .unset, .unset] [(.ref b59)]
    refine w_iloadN ok at_87 rfl ?_
    show W K l _ n0 _ h65 6 132 88 #[.val (.int p), .val (.int xx), .val (.int y), .val (.int k0), .val (.int m0), .val (.int q), .val (.int k), .val (.int (1 : Int32)), .val (.int m), .val (.int (m + m)), .val (.ref b48), .val (.ref b59), .unset, .unset] [(.int y), (.ref b59)]
    refine w_callV ok (y := (⟨"com/example/perx/perx/index/IntList", "add", "(I)V"⟩ : MethodName)) (a := b59) (argsL := [(.int y)]) (rest := []) at_88 (hw _ (List.mem_of_getElem? (i := 13) rfl)) (hw _ (List.mem_of_getElem? (i := 14) rfl)) (hw _ (List.mem_of_getElem? (i := 16) rfl)) (hw _ (List.mem_of_getElem? (i := 15) rfl)) (hw _ (List.mem_of_getElem? (i := 3) rfl)) (hw _ (List.mem_of_getElem? (i := 17) rfl)) (by decide) A_b59.1 pd_28I29V rfl rfl (by decide) (Nat.le_of_ble_eq_true rfl) (by decide) (by decide) (fun z0 => rm_add l Z a0 hw [] n0 h65 z0 b59 c63 [(.int xx), (.int (0 : Int32)), (.int (0 : Int32)), (.int (0 : Int32)), (.int (0 : Int32)), (.int (0 : Int32)), (.int (0 : Int32)), (.int (0 : Int32)), (.int (0 : Int32)), (.int (0 : Int32)), (.int (0 : Int32)), (.int (0 : Int32)), (.int (0 : Int32)), (.int (0 : Int32)), (.int (0 : Int32)), (.int (0 : Int32))] (1 : Int32) y A_b59 A_c63 ge_b59 ge_c63 ne_b59_c63 (by decide) (Nat.le_of_ble_eq_true rfl) ⟨Nat.le_of_ble_eq_true rfl, Nat.le_of_ble_eq_true rfl⟩) (fun v68 h69 qv68 => ?_)
    obtain ⟨rfl, c70, e71, ge_c70, fr_c70, ne_b59_c70, K1, A1, A_c70, hqc70, hbc70, hec70⟩ := qv68
    obtain ⟨rfl, rfl⟩ := hqc70 (Nat.le_of_ble_eq_true rfl)
    replace A_b48 := A_b48.keep K1 (ninS ne_b48_b59 (ninS ne_b48_c63 nin0))
    replace A_c52 := A_c52.keep K1 (ninS ne_c52_b59 (ninS ne_c52_c63 nin0))
    replace A_b59 : Ob Z h69 b59 "com/example/perx/perx/index/IntList" fl_IntList [(.ref c63), (.int (2 : Int32))] := A1
    replace A_c63 : PA .int Z h69 c63 [(.int xx), (.int y), (.int (0 : Int32)), (.int (0 : Int32)), (.int (0 : Int32)), (.int (0 : Int32)), (.int (0 : Int32)), (.int (0 : Int32)), (.int (0 : Int32)), (.int (0 : Int32)), (.int (0 : Int32)), (.int (0 : Int32)), (.int (0 : Int32)), (.int (0 : Int32)), (.int (0 : Int32)), (.int (0 : Int32))] := A_c70
    show W K l _ n0 _ h69 7 180 91 #[.val (.int p), .val (.int xx), .val (.int y), .val (.int k0), .val (.int m0), .val (.int q), .val (.int k), .val (.int (1 : Int32)), .val (.int m), .val (.int (m + m)), .val (.ref b48), .val (.ref b59), .unset, .unset] []
    refine w_aload ok at_91 rfl rfl ?_
    show W K l _ n0 _ h69 7 180 93 #[.val (.int p), .val (.int xx), .val (.int y), .val (.int k0), .val (.int m0), .val (.int q), .val (.int k), .val (.int (1 : Int32)), .val (.int m), .val (.int (m + m)), .val (.ref b48), .val (.ref b59), .unset, .unset] [(.ref b59)]
    refine w_iload ok at_93 rfl ?_
    show W K l _ n0 _ h69 7 180 95 #[.val (.int p), .val (.int xx), .val (.int y), .val (.int k0), .val (.int m0), .val (.int q), .val (.int k), .val (.int (1 : Int32)), .val (.int m), .val (.int (m + m)), .val (.ref b48), .val (.ref b59), .unset, .unset] [(.int m), (.ref b59)]
    refine w_callV ok (y := (⟨"com/example/perx/perx/index/IntList", "truncate", "(I)V"⟩ : MethodName)) (a := b59) (argsL := [(.int m)]) (rest := []) at_95 (hw _ (List.mem_of_getElem? (i := 20) rfl)) (hw _ (List.mem_of_getElem? (i := 21) rfl)) (hw _ (List.mem_of_getElem? (i := 23) rfl)) (hw _ (List.mem_of_getElem? (i := 22) rfl)) (hw _ (List.mem_of_getElem? (i := 3) rfl)) (hw _ (List.mem_of_getElem? (i := 24) rfl)) (by decide) A_b59.1 pd_28I29V rfl rfl (by decide) (Nat.le_of_ble_eq_true rfl) (by decide) (by decide) (fun z0 => rm_trunc l Z a0 hw [] n0 h69 z0 b59 c63 (2 : Int32) m A_b59 ge_b59) (fun v72 h73 qv72 => ?_)
    obtain ⟨rfl, K1, A1⟩ := qv72
    replace A_b48 := A_b48.keep K1 (ninS ne_b48_b59 nin0)
    replace A_c52 := A_c52.keep K1 (ninS ne_c52_b59 nin0)
    replace A_c63 := A_c63.keep K1 (ninS (Ne.symm ne_b59_c63) nin0)
    replace A_b59 : Ob Z h73 b59 "com/example/perx/perx/index/IntList" fl_IntList [(.ref c63), (.int m)] := A1
    show W K l _ n0 _ h73 7 180 98 #[.val (.int p), .val (.int xx), .val (.int y), .val (.int k0), .val (.int m0), .val (.int q), .val (.int k), .val (.int (1 : Int32)), .val (.int m), .val (.int (m + m)), .val (.ref b48), .val (.ref b59), .unset, .unset] []
    refine w_iload ok at_98 rfl ?_
    show W K l _ n0 _ h73 7 180 100 #[.val (.int p), .val (.int xx), .val (.int y), .val (.int k0), .val (.int m0), .val (.int q), .val (.int k), .val (.int (1 : Int32)), .val (.int m), .val (.int (m + m)), .val (.ref b48), .val (.ref b59), .unset, .unset] [(.int (1 : Int32))]
    refine w_if_eq ok at_100 (pc' := 110) (by decide) (fun hc75 => False.elim (by revert hc75; decide)) (fun hc75 => ?_)
    show W K l _ n0 _ h73 7 180 103 #[.val (.int p), .val (.int xx), .val (.int y), .val (.int k0), .val (.int m0), .val (.int q), .val (.int k), .val (.int (1 : Int32)), .val (.int m), .val (.int (m + m)), .val (.ref b48), .val (.ref b59), .unset, .unset] []
    refine w_aload ok at_103 rfl rfl ?_
    show W K l _ n0 _ h73 7 180 105 #[.val (.int p), .val (.int xx), .val (.int y), .val (.int k0), .val (.int m0), .val (.int q), .val (.int k), .val (.int (1 : Int32)), .val (.int m), .val (.int (m + m)), .val (.ref b48), .val (.ref b59), .unset, .unset] [(.ref b59)]
    refine w_aload ok at_105 rfl rfl ?_
    show W K l _ n0 _ h73 7 180 107 #[.val (.int p), .val (.int xx), .val (.int y), .val (.int k0), .val (.int m0), .val (.int q), .val (.int k), .val (.int (1 : Int32)), .val (.int m), .val (.int (m + m)), .val (.ref b48), .val (.ref b59), .unset, .unset] [(.ref b59), (.ref b59)]
    refine w_callV ok (y := (⟨"com/example/perx/perx/index/IntList", "addAll", "(Lcom/example/perx/perx/index/IntList;)V"⟩ : MethodName)) (a := b59) (argsL := [(.ref b59)]) (rest := []) at_107 (hw _ (List.mem_of_getElem? (i := 25) rfl)) (hw _ (List.mem_of_getElem? (i := 26) rfl)) (hw _ (List.mem_of_getElem? (i := 28) rfl)) (hw _ (List.mem_of_getElem? (i := 27) rfl)) (hw _ (List.mem_of_getElem? (i := 3) rfl)) (hw _ (List.mem_of_getElem? (i := 29) rfl)) (by decide) A_b59.1 pd_28Lcom2fexample2fperx2fperx2findex2fIntList3b29V rfl rfl (by decide) (Nat.le_of_ble_eq_true rfl) (by decide) (by decide) (fun z0 => rm_selfG l Z a0 hw [] n0 h73 z0 b59 c63 [.int xx, .int y, .int 0, .int 0, .int 0, .int 0, .int 0, .int 0, .int 0, .int 0, .int 0, .int 0, .int 0, .int 0, .int 0, .int 0] m A_b59 A_c63 ge_b59 ge_c63 ne_b59_c63 hm1 hm2 rfl) (fun v76 h77 qv76 => ?_)
    obtain ⟨rfl, c2, w2, e2, rfl, hw2, ge_c2, fr_c2, ne_b59_c2, K1, A1, A_c2⟩ := qv76
    have ne_b48_c2 : b48 ≠ c2 := own_nefr A_b48.lt ne_b48_c63 fr_c2
    have ne_c52_c2 : c52 ≠ c2 := own_nefr A_c52.lt ne_c52_c63 fr_c2
    replace A_b48 := A_b48.keep K1 (ninS ne_b48_b59 (ninS ne_b48_c63 nin0))
    replace A_c52 := A_c52.keep K1 (ninS ne_c52_b59 (ninS ne_c52_c63 nin0))
    replace A_b59 : Ob Z h77 b59 "com/example/perx/perx/index/IntList" fl_IntList [(.ref c2), (.int (m + m))] := A1
    show W K l _ n0 _ h77 8 228 110 #[.val (.int p), .val (.int xx), .val (.int y), .val (.int k0), .val (.int m0), .val (.int q), .val (.int k), .val (.int (1 : Int32)), .val (.int m), .val (.int (m + m)), .val (.ref b48), .val (.ref b59), .unset, .unset] []
    refine w_aload ok at_110 rfl rfl ?_
    show W K l _ n0 _ h77 8 228 112 #[.val (.int p), .val (.int xx), .val (.int y), .val (.int k0), .val (.int m0), .val (.int q), .val (.int k), .val (.int (1 : Int32)), .val (.int m), .val (.int (m + m)), .val (.ref b48), .val (.ref b59), .unset, .unset] [(.ref b48)]
    refine w_aload ok at_112 rfl rfl ?_
    show W K l _ n0 _ h77 8 228 114 #[.val (.int p), .val (.int xx), .val (.int y), .val (.int k0), .val (.int m0), .val (.int q), .val (.int k), .val (.int (1 : Int32)), .val (.int m), .val (.int (m + m)), .val (.ref b48), .val (.ref b59), .unset, .unset] [(.ref b59), (.ref b48)]
    refine w_callV ok (y := (⟨"com/example/perx/perx/index/IntList", "addAll", "(Lcom/example/perx/perx/index/IntList;)V"⟩ : MethodName)) (a := b48) (argsL := [(.ref b59)]) (rest := []) at_114 (hw _ (List.mem_of_getElem? (i := 25) rfl)) (hw _ (List.mem_of_getElem? (i := 26) rfl)) (hw _ (List.mem_of_getElem? (i := 28) rfl)) (hw _ (List.mem_of_getElem? (i := 27) rfl)) (hw _ (List.mem_of_getElem? (i := 3) rfl)) (hw _ (List.mem_of_getElem? (i := 29) rfl)) (by decide) A_b48.1 pd_28Lcom2fexample2fperx2fperx2findex2fIntList3b29V rfl rfl (by decide) (Nat.le_of_ble_eq_true rfl) (by decide) (by decide) (fun z0 => rm_allG l Z a0 hw [] n0 h77 z0 b48 c52 b59 c2 [.int p, .int 0, .int 0, .int 0, .int 0, .int 0, .int 0, .int 0, .int 0, .int 0, .int 0, .int 0, .int 0, .int 0, .int 0, .int 0] (((([.int xx, .int y, .int 0, .int 0, .int 0, .int 0, .int 0, .int 0, .int 0, .int 0, .int 0, .int 0, .int 0, .int 0, .int 0, .int 0] : List Value) ++ List.replicate e2 (Value.int 0)).take m.toNatClampNeg ++ (([.int xx, .int y, .int 0, .int 0, .int 0, .int 0, .int 0, .int 0, .int 0, .int 0, .int 0, .int 0, .int 0, .int 0, .int 0, .int 0] : List Value) ++ List.replicate e2 (Value.int 0)).take m.toNatClampNeg ++ (([.int xx, .int y, .int 0, .int 0, .int 0, .int 0, .int 0, .int 0, .int 0, .int 0, .int 0, .int 0, .int 0, .int 0, .int 0, .int 0] : List Value) ++ List.replicate e2 (Value.int 0)).drop (m.toNatClampNeg + m.toNatClampNeg))) k (m + m) A_b48 A_c52 A_b59 A_c2 ge_b48 ge_c52 ne_b48_c52 ne_b48_b59 ne_b48_c2 ne_c52_b59 ne_c52_c2 hk1 hk2 rfl (own_add hm1 hm1 (by omega)).2 (by rw [(own_add hm1 hm1 (by omega)).1]; simp only [List.length_append, List.length_take, List.length_replicate, List.length_drop] at hw2 ⊢; omega) (by rw [(own_add hm1 hm1 (by omega)).1]; omega)) (fun v78 h79 qv78 => ?_)
    obtain ⟨rfl, c3, w3, e3, rfl, hw3, ge_c3, -, ne_b48_c3, K1, A1, A_c3⟩ := qv78
    replace A_b48 : Ob Z h79 b48 "com/example/perx/perx/index/IntList" fl_IntList [(.ref c3), (.int (k + (m + m)))] := A1
    show W K l _ n0 _ h79 9 276 117 #[.val (.int p), .val (.int xx), .val (.int y), .val (.int k0), .val (.int m0), .val (.int q), .val (.int k), .val (.int (1 : Int32)), .val (.int m), .val (.int (m + m)), .val (.ref b48), .val (.ref b59), .unset, .unset] []
    refine w_iload ok at_117 rfl ?_
    show W K l _ n0 _ h79 9 276 119 #[.val (.int p), .val (.int xx), .val (.int y), .val (.int k0), .val (.int m0), .val (.int q), .val (.int k), .val (.int (1 : Int32)), .val (.int m), .val (.int (m + m)), .val (.ref b48), .val (.ref b59), .unset, .unset] [(.int k)]
    refine w_iload ok at_119 rfl ?_
    show W K l _ n0 _ h79 9 276 121 #[.val (.int p), .val (.int xx), .val (.int y), .val (.int k0), .val (.int m0), .val (.int q), .val (.int k), .val (.int (1 : Int32)), .val (.int m), .val (.int (m + m)), .val (.ref b48), .val (.ref b59), .unset, .unset] [(.int (m + m)), (.int k)]
    refine w_iadd ok at_121 ?_
    show W K l _ n0 _ h79 9 276 122 #[.val (.int p), .val (.int xx), .val (.int y), .val (.int k0), .val (.int m0), .val (.int q), .val (.int k), .val (.int (1 : Int32)), .val (.int m), .val (.int (m + m)), .val (.ref b48), .val (.ref b59), .unset, .unset] [(.int (k + (m + m)))]
    refine w_istore ok at_122 (L' := #[.val (.int p), .val (.int xx), .val (.int y), .val (.int k0), .val (.int m0), .val (.int q), .val (.int k), .val (.int (1 : Int32)), .val (.int m), .val (.int (m + m)), .val (.ref b48), .val (.ref b59), .val (.int (k + (m + m))), .unset]) rfl ?_
    show W K l _ n0 _ h79 9 276 124 #[.val (.int p), .val (.int xx), .val (.int y), .val (.int k0), .val (.int m0), .val (.int q), .val (.int k), .val (.int (1 : Int32)), .val (.int m), .val (.int (m + m)), .val (.ref b48), .val (.ref b59), .val (.int (k + (m + m))), .unset] []
    refine w_aload ok at_124 rfl rfl ?_
    show W K l _ n0 _ h79 9 276 126 #[.val (.int p), .val (.int xx), .val (.int y), .val (.int k0), .val (.int m0), .val (.int q), .val (.int k), .val (.int (1 : Int32)), .val (.int m), .val (.int (m + m)), .val (.ref b48), .val (.ref b59), .val (.int (k + (m + m))), .unset] [(.ref b48)]
    refine w_callV ok (y := (⟨"com/example/perx/perx/index/IntList", "size", "()I"⟩ : MethodName)) (a := b48) (argsL := []) (rest := []) at_126 (hw _ (List.mem_of_getElem? (i := 34) rfl)) (hw _ (List.mem_of_getElem? (i := 35) rfl)) (hw _ (List.mem_of_getElem? (i := 37) rfl)) (hw _ (List.mem_of_getElem? (i := 36) rfl)) (hw _ (List.mem_of_getElem? (i := 3) rfl)) (hw _ (List.mem_of_getElem? (i := 38) rfl)) (by decide) A_b48.1 pd_2829I rfl rfl (by decide) (Nat.le_of_ble_eq_true rfl) (by decide) (by decide) (fun z0 => rm_size l Z a0 hw [] n0 h79 z0 b48 c3 (k + (m + m)) A_b48) (fun v80 h81 qv80 => ?_)
    obtain ⟨rfl, rfl⟩ := qv80
    show W K l _ n0 _ h79 9 276 129 #[.val (.int p), .val (.int xx), .val (.int y), .val (.int k0), .val (.int m0), .val (.int q), .val (.int k), .val (.int (1 : Int32)), .val (.int m), .val (.int (m + m)), .val (.ref b48), .val (.ref b59), .val (.int (k + (m + m))), .unset] [(.int (k + (m + m)))]
    refine w_iload ok at_129 rfl ?_
    show W K l _ n0 _ h79 9 276 131 #[.val (.int p), .val (.int xx), .val (.int y), .val (.int k0), .val (.int m0), .val (.int q), .val (.int k), .val (.int (1 : Int32)), .val (.int m), .val (.int (m + m)), .val (.ref b48), .val (.ref b59), .val (.int (k + (m + m))), .unset] [(.int (k + (m + m))), (.int (k + (m + m)))]
    refine w_icmp_eq ok at_131 (pc' := 136) (by decide) (fun hc83 => ?_) (fun hc83 => False.elim (by exact hc83 rfl))
    show W K l _ n0 _ h79 9 276 136 #[.val (.int p), .val (.int xx), .val (.int y), .val (.int k0), .val (.int m0), .val (.int q), .val (.int k), .val (.int (1 : Int32)), .val (.int m), .val (.int (m + m)), .val (.ref b48), .val (.ref b59), .val (.int (k + (m + m))), .unset] []
    refine w_iload ok at_136 rfl ?_
    show W K l _ n0 _ h79 9 276 138 #[.val (.int p), .val (.int xx), .val (.int y), .val (.int k0), .val (.int m0), .val (.int q), .val (.int k), .val (.int (1 : Int32)), .val (.int m), .val (.int (m + m)), .val (.ref b48), .val (.ref b59), .val (.int (k + (m + m))), .unset] [(.int (k + (m + m)))]
    refine w_if_ne ok at_138 (pc' := 143) (by decide) (fun hc85 => ?_) (fun hc85 => ?_)
    · show W K l _ n0 _ h79 9 276 143 #[.val (.int p), .val (.int xx), .val (.int y), .val (.int k0), .val (.int m0), .val (.int q), .val (.int k), .val (.int (1 : Int32)), .val (.int m), .val (.int (m + m)), .val (.ref b48), .val (.ref b59), .val (.int (k + (m + m))), .unset] []
      refine w_iload ok at_143 rfl ?_
      show W K l _ n0 _ h79 9 276 145 #[.val (.int p), .val (.int xx), .val (.int y), .val (.int k0), .val (.int m0), .val (.int q), .val (.int k), .val (.int (1 : Int32)), .val (.int m), .val (.int (m + m)), .val (.ref b48), .val (.ref b59), .val (.int (k + (m + m))), .unset] [(.int q)]
      refine w_ldcI (v := (2147483647 : Int32)) ok at_145 (hw _ (List.mem_of_getElem? (i := 0) rfl)) ?_
      show W K l _ n0 _ h79 9 276 147 #[.val (.int p), .val (.int xx), .val (.int y), .val (.int k0), .val (.int m0), .val (.int q), .val (.int k), .val (.int (1 : Int32)), .val (.int m), .val (.int (m + m)), .val (.ref b48), .val (.ref b59), .val (.int (k + (m + m))), .unset] [(.int (2147483647 : Int32)), (.int q)]
      refine w_iand ok at_147 ?_
      show W K l _ n0 _ h79 9 276 148 #[.val (.int p), .val (.int xx), .val (.int y), .val (.int k0), .val (.int m0), .val (.int q), .val (.int k), .val (.int (1 : Int32)), .val (.int m), .val (.int (m + m)), .val (.ref b48), .val (.ref b59), .val (.int (k + (m + m))), .unset] [(.int (q &&& (2147483647 : Int32)))]
      refine w_iload ok at_148 rfl ?_
      show W K l _ n0 _ h79 9 276 150 #[.val (.int p), .val (.int xx), .val (.int y), .val (.int k0), .val (.int m0), .val (.int q), .val (.int k), .val (.int (1 : Int32)), .val (.int m), .val (.int (m + m)), .val (.ref b48), .val (.ref b59), .val (.int (k + (m + m))), .unset] [(.int (k + (m + m))), (.int (q &&& (2147483647 : Int32)))]
      refine w_irem ok at_150 (by assumption) ?_
      show W K l _ n0 _ h79 9 276 151 #[.val (.int p), .val (.int xx), .val (.int y), .val (.int k0), .val (.int m0), .val (.int q), .val (.int k), .val (.int (1 : Int32)), .val (.int m), .val (.int (m + m)), .val (.ref b48), .val (.ref b59), .val (.int (k + (m + m))), .unset] [(.int ((q &&& (2147483647 : Int32)) % (k + (m + m))))]
      refine w_istore ok at_151 (L' := #[.val (.int p), .val (.int xx), .val (.int y), .val (.int k0), .val (.int m0), .val (.int q), .val (.int k), .val (.int (1 : Int32)), .val (.int m), .val (.int (m + m)), .val (.ref b48), .val (.ref b59), .val (.int (k + (m + m))), .val (.int ((q &&& (2147483647 : Int32)) % (k + (m + m))))]) rfl ?_
      show W K l _ n0 _ h79 9 276 153 #[.val (.int p), .val (.int xx), .val (.int y), .val (.int k0), .val (.int m0), .val (.int q), .val (.int k), .val (.int (1 : Int32)), .val (.int m), .val (.int (m + m)), .val (.ref b48), .val (.ref b59), .val (.int (k + (m + m))), .val (.int ((q &&& (2147483647 : Int32)) % (k + (m + m))))] []
      obtain ⟨m3, m4⟩ := own_add hm1 hm1 (by omega)
      obtain ⟨t1, t2⟩ := own_add hk1 m4 (by omega)
      rw [m3] at t1 hw3 A_c3
      obtain ⟨i1, i2⟩ := own_idx (q := q) t2 hc85
      generalize (q &&& (2147483647 : Int32)) % (k + (m + m)) = ix at i1 i2 ⊢
      show W K l _ n0 _ h79 9 276 153 #[.val (.int p), .val (.int xx), .val (.int y), .val (.int k0), .val (.int m0), .val (.int q), .val (.int k), .val (.int (1 : Int32)), .val (.int m), .val (.int (m + m)), .val (.ref b48), .val (.ref b59), .val (.int (k + (m + m))), .val (.int ix)] []
      refine w_aload ok at_153 rfl rfl ?_
      show W K l _ n0 _ h79 9 276 155 #[.val (.int p), .val (.int xx), .val (.int y), .val (.int k0), .val (.int m0), .val (.int q), .val (.int k), .val (.int (1 : Int32)), .val (.int m), .val (.int (m + m)), .val (.ref b48), .val (.ref b59), .val (.int (k + (m + m))), .val (.int ix)] [(.ref b48)]
      refine w_iload ok at_155 rfl ?_
      show W K l _ n0 _ h79 9 276 157 #[.val (.int p), .val (.int xx), .val (.int y), .val (.int k0), .val (.int m0), .val (.int q), .val (.int k), .val (.int (1 : Int32)), .val (.int m), .val (.int (m + m)), .val (.ref b48), .val (.ref b59), .val (.int (k + (m + m))), .val (.int ix)] [(.int ix), (.ref b48)]
      refine w_callV ok (y := (⟨"com/example/perx/perx/index/IntList", "get", "(I)I"⟩ : MethodName)) (a := b48) (argsL := [(.int ix)]) (rest := []) at_157 (hw _ (List.mem_of_getElem? (i := 39) rfl)) (hw _ (List.mem_of_getElem? (i := 40) rfl)) (hw _ (List.mem_of_getElem? (i := 42) rfl)) (hw _ (List.mem_of_getElem? (i := 41) rfl)) (hw _ (List.mem_of_getElem? (i := 3) rfl)) (hw _ (List.mem_of_getElem? (i := 43) rfl)) (by decide) A_b48.1 pd_28I29I rfl rfl (by decide) (Nat.le_of_ble_eq_true rfl) (by decide) (by decide) (fun z0 => rm_get l Z a0 hw [] n0 h79 z0 b48 c3 (k + (m + m)) ix (own_exp ix.toNatClampNeg k.toNatClampNeg m.toNatClampNeg p xx y) _ A_b48 A_c3 i1 (own_two p xx y e3 e2 k.toNatClampNeg m.toNatClampNeg ix.toNatClampNeg hk2 hm2 hw3 hw2 (by omega) _ _)) (fun v86 h87 qv86 => ?_)
      obtain ⟨rfl, rfl⟩ := qv86
      show W K l _ n0 _ h79 9 276 160 #[.val (.int p), .val (.int xx), .val (.int y), .val (.int k0), .val (.int m0), .val (.int q), .val (.int k), .val (.int (1 : Int32)), .val (.int m), .val (.int (m + m)), .val (.ref b48), .val (.ref b59), .val (.int (k + (m + m))), .val (.int ix)] [(.int (own_exp ix.toNatClampNeg k.toNatClampNeg m.toNatClampNeg p xx y))]
      refine w_iload ok at_160 rfl ?_
      show W K l _ n0 _ h79 9 276 162 #[.val (.int p), .val (.int xx), .val (.int y), .val (.int k0), .val (.int m0), .val (.int q), .val (.int k), .val (.int (1 : Int32)), .val (.int m), .val (.int (m + m)), .val (.ref b48), .val (.ref b59), .val (.int (k + (m + m))), .val (.int ix)] [(.int ix), (.int (own_exp ix.toNatClampNeg k.toNatClampNeg m.toNatClampNeg p xx y))]
      refine w_iload ok at_162 rfl ?_
      show W K l _ n0 _ h79 9 276 164 #[.val (.int p), .val (.int xx), .val (.int y), .val (.int k0), .val (.int m0), .val (.int q), .val (.int k), .val (.int (1 : Int32)), .val (.int m), .val (.int (m + m)), .val (.ref b48), .val (.ref b59), .val (.int (k + (m + m))), .val (.int ix)] [(.int k), (.int ix), (.int (own_exp ix.toNatClampNeg k.toNatClampNeg m.toNatClampNeg p xx y))]
      refine w_iload ok at_164 rfl ?_
      show W K l _ n0 _ h79 9 276 166 #[.val (.int p), .val (.int xx), .val (.int y), .val (.int k0), .val (.int m0), .val (.int q), .val (.int k), .val (.int (1 : Int32)), .val (.int m), .val (.int (m + m)), .val (.ref b48), .val (.ref b59), .val (.int (k + (m + m))), .val (.int ix)] [(.int m), (.int k), (.int ix), (.int (own_exp ix.toNatClampNeg k.toNatClampNeg m.toNatClampNeg p xx y))]
      refine w_iloadN ok at_166 rfl ?_
      show W K l _ n0 _ h79 9 276 167 #[.val (.int p), .val (.int xx), .val (.int y), .val (.int k0), .val (.int m0), .val (.int q), .val (.int k), .val (.int (1 : Int32)), .val (.int m), .val (.int (m + m)), .val (.ref b48), .val (.ref b59), .val (.int (k + (m + m))), .val (.int ix)] [(.int p), (.int m), (.int k), (.int ix), (.int (own_exp ix.toNatClampNeg k.toNatClampNeg m.toNatClampNeg p xx y))]
      refine w_iloadN ok at_167 rfl ?_
      show W K l _ n0 _ h79 9 276 168 #[.val (.int p), .val (.int xx), .val (.int y), .val (.int k0), .val (.int m0), .val (.int q), .val (.int k), .val (.int (1 : Int32)), .val (.int m), .val (.int (m + m)), .val (.ref b48), .val (.ref b59), .val (.int (k + (m + m))), .val (.int ix)] [(.int xx), (.int p), (.int m), (.int k), (.int ix), (.int (own_exp ix.toNatClampNeg k.toNatClampNeg m.toNatClampNeg p xx y))]
      refine w_iloadN ok at_168 rfl ?_
      show W K l _ n0 _ h79 9 276 169 #[.val (.int p), .val (.int xx), .val (.int y), .val (.int k0), .val (.int m0), .val (.int q), .val (.int k), .val (.int (1 : Int32)), .val (.int m), .val (.int (m + m)), .val (.ref b48), .val (.ref b59), .val (.int (k + (m + m))), .val (.int ix)] [(.int y), (.int xx), (.int p), (.int m), (.int k), (.int ix), (.int (own_exp ix.toNatClampNeg k.toNatClampNeg m.toNatClampNeg p xx y))]
      refine w_callS ok (y := (⟨"com/example/perx/perx/index/IntListAddAllPinLaw", "expectedAt", "(IIIIII)I"⟩ : MethodName)) (argsL := [(.int ix), (.int k), (.int m), (.int p), (.int xx), (.int y)]) (rest := [(.int (own_exp ix.toNatClampNeg k.toNatClampNeg m.toNatClampNeg p xx y))]) at_169 (hw _ (List.mem_of_getElem? (i := 44) rfl)) (hw _ (List.mem_of_getElem? (i := 45) rfl)) (hw _ (List.mem_of_getElem? (i := 46) rfl)) (hw _ (List.mem_of_getElem? (i := 47) rfl)) (by decide) pd_28IIIIII29I rfl rfl (by decide) (Nat.le_of_ble_eq_true rfl) (by decide) (by decide) (fun z0 => rm_exp l Z a0 hw [] n0 h79 z0 ix k m p xx y i1 hk1 hm1) (fun v88 h89 qv88 => ?_)
      obtain ⟨rfl, rfl⟩ := qv88
      show W K l _ n0 _ h79 9 276 172 #[.val (.int p), .val (.int xx), .val (.int y), .val (.int k0), .val (.int m0), .val (.int q), .val (.int k), .val (.int (1 : Int32)), .val (.int m), .val (.int (m + m)), .val (.ref b48), .val (.ref b59), .val (.int (k + (m + m))), .val (.int ix)] [(.int (own_exp ix.toNatClampNeg k.toNatClampNeg m.toNatClampNeg p xx y)), (.int (own_exp ix.toNatClampNeg k.toNatClampNeg m.toNatClampNeg p xx y))]
      refine w_icmp_ne ok at_172 (pc' := 179) (by decide) (fun hc91 => False.elim (by exact hc91 rfl)) (fun hc91 => ?_)
      show W K l _ n0 _ h79 9 276 175 #[.val (.int p), .val (.int xx), .val (.int y), .val (.int k0), .val (.int m0), .val (.int q), .val (.int k), .val (.int (1 : Int32)), .val (.int m), .val (.int (m + m)), .val (.ref b48), .val (.ref b59), .val (.int (k + (m + m))), .val (.int ix)] []
      refine w_iconst ok at_175 (v := (1 : Int32)) rfl ?_
      show W K l _ n0 _ h79 9 276 176 #[.val (.int p), .val (.int xx), .val (.int y), .val (.int k0), .val (.int m0), .val (.int q), .val (.int k), .val (.int (1 : Int32)), .val (.int m), .val (.int (m + m)), .val (.ref b48), .val (.ref b59), .val (.int (k + (m + m))), .val (.int ix)] [(.int (1 : Int32))]
      refine w_goto ok at_176 (pc' := 180) (by decide) ?_
      show W K l _ n0 _ h79 9 276 180 #[.val (.int p), .val (.int xx), .val (.int y), .val (.int k0), .val (.int m0), .val (.int q), .val (.int k), .val (.int (1 : Int32)), .val (.int m), .val (.int (m + m)), .val (.ref b48), .val (.ref b59), .val (.int (k + (m + m))), .val (.int ix)] [(.int (1 : Int32))]
      refine w_bret ok (by simp) at_180 (by decide) (by decide) ?_
      exact rfl
    · show W K l _ n0 _ h79 9 276 141 #[.val (.int p), .val (.int xx), .val (.int y), .val (.int k0), .val (.int m0), .val (.int q), .val (.int k), .val (.int (1 : Int32)), .val (.int m), .val (.int (m + m)), .val (.ref b48), .val (.ref b59), .val (.int (k + (m + m))), .unset] []
      refine w_iconst ok at_141 (v := (1 : Int32)) rfl ?_
      show W K l _ n0 _ h79 9 276 142 #[.val (.int p), .val (.int xx), .val (.int y), .val (.int k0), .val (.int m0), .val (.int q), .val (.int k), .val (.int (1 : Int32)), .val (.int m), .val (.int (m + m)), .val (.ref b48), .val (.ref b59), .val (.int (k + (m + m))), .unset] [(.int (1 : Int32))]
      refine w_bret ok (by simp) at_142 (by decide) (by decide) ?_
      exact rfl
set_option maxRecDepth 65536 in
set_option maxHeartbeats 40000000 in
theorem comes_1 {Post : Tables → Env → Array Value → State → Outcome → State → Prop} (hpost : ∀ tb e args s v u, (limb_1_1.after args s (.returned v) u = true ∧ limb_1_2.after args s (.returned v) u = true) → FrameEnd s (.returned v) u (Jvm.fieldLocs frame_1_writes args s ++ Jvm.arrayLocs frame_1_arrays args s ++ Jvm.staticLocs frame_1_statics s) 24 320 → Post tb e args s (.returned v) u) :
    ArmFor flags0 classFile x code maxLocals ret World_1 tables_1 room_1 Calls_1 rest_1 Pre_1 Post := by
  intro l hfl _ _ p e ha hc hk s m args below hf hA hF happ hP
  obtain ⟨hcalls, hrest, hpre⟩ := hP
  obtain ⟨-, -, -, hnamed, -, -, -, hat⟩ := (Spec.applies_iff hf).mp happ
  obtain ⟨hg, hn⟩ := and_e (Cond.before_iff.mp (show (Jvm.Cond.and given_1 narrow_1).before args s = true from hpre))
  obtain ⟨g0, r0⟩ := and_e hg
  obtain ⟨g1, r1⟩ := and_e r0
  obtain ⟨g2, r2⟩ := and_e r1
  obtain ⟨g3, r3⟩ := and_e r2
  obtain ⟨g4, r4⟩ := and_e r3
  obtain ⟨g5, r5⟩ := and_e r4
  obtain ⟨w0, w1, w2, w3, w4, w5, rfl⟩ : ∃ w0 w1 w2 w3 w4 w5 : Value, args = #[w0, w1, w2, w3, w4, w5] := by
    have hs : args.size = 6 := by simpa [Cond.value, given_1] using g0
    obtain ⟨L⟩ := args
    match L, hs with
    | [w0, w1, w2, w3, w4, w5], _ => exact ⟨w0, w1, w2, w3, w4, w5, rfl⟩
  have hw := fun d (hd : d ∈ tables_1) => atoms_spec (ws := Jvm.Cond.code x code maxLocals ret :: tables_1) hat d (List.mem_cons_of_mem _ hd)
  have hfit : Fit s := fun {y c} hc i hi => by
    obtain ⟨ha, rfl⟩ := Array.getElem?_eq_some_iff.mp hc
    have q := List.all_eq_true.mp ((Array.all_eq_true_iff_forall_mem.mp hF) _ (Array.getElem_mem ha)) i (List.mem_range.mpr hi)
    simpa [Array.getElem?_eq_getElem hi] using q
  obtain ⟨i0, ei0⟩ := is_v g1
  obtain rfl : w0 = (.int i0) := Option.some.inj ei0
  obtain ⟨i1, ei1⟩ := is_v g2
  obtain rfl : w1 = (.int i1) := Option.some.inj ei1
  obtain ⟨i2, ei2⟩ := is_v g3
  obtain rfl : w2 = (.int i2) := Option.some.inj ei2
  obtain ⟨i3, ei3⟩ := is_v g4
  obtain rfl : w3 = (.int i3) := Option.some.inj ei3
  obtain ⟨i4, ei4⟩ := is_v g5
  obtain rfl : w4 = (.int i4) := Option.some.inj ei4
  obtain ⟨i5, ei5⟩ := is_v r5
  obtain rfl : w5 = (.int i5) := Option.some.inj ei5
  obtain ⟨n, o, h1, h2, h3, _, L, rfl, ⟨rfl, N⟩, hq⟩ := rm0 l s _ hw tables_1 s.heap.size s.heap (Nat.le_refl _) i0 i1 i2 i3 i4 i5  p e ha hc hk s m _ below hf ((Spec.applies_iff_loose hf).mp happ).1 ⟨rfl, State.Warmed39.refl s, rfl⟩ trivial
  exact ⟨n, _, h1, h2, h3, hpost _ _ _ _ _ _ ⟨Cond.after_iff.mpr rfl, Cond.after_iff.mpr (eq_i res_at (Term.int_eval (1)) rfl)⟩ (frame_fin hq N (by decide) (by decide))⟩
theorem main_1_1 : Claimed_1_1 := comes_1 fun _ _ _ _ _ _ h hF => ⟨h.1, hF⟩
theorem main_1_2 : Claimed_1_2 := comes_1 fun _ _ _ _ _ _ h hF => ⟨h.2, hF⟩
end Jvm.Pilot.@@N@@
namespace Jvm.Pilot.@@N@@
open Jvm Jvm.ClassFile Sem Op Lib Jvm.Free Jvm.Stand Jvm.Pilot.@@N@@.Jvm.D
/-! MADE BY PROGRAM (witnessworld.py) out of the Statement's table words and the real class files: 12 classes; the members and pool entries that the words name. The judged class is class 1, her method 2. -/
namespace start1
open Jvm.ClassFile
def u (s : String) : CpInfo := .utf8 (stringToUtf16 s)
/-- a pool by its gaps: so many unusable entries, then the entry; so many at the end -/
def gap : Nat → List CpInfo → List CpInfo
  | 0, r => r
  | n + 1, r => .unusable :: gap n r
def poolList (es : List (Nat × CpInfo)) (last : Nat) : List CpInfo := es.foldr (fun e r => gap e.1 (e.2 :: r)) (gap last [])
def pool (es : List (Nat × CpInfo)) (last : Nat) : Array CpInfo := ⟨poolList es last⟩
def fileOf (pool : Array CpInfo) (this : Nat) (attrs : Array Attribute := #[]) (ms : Array MethodInfo := #[]) (fl : Nat := 33) (sup : Nat := 0) (ifs : Array Nat := #[]) (fds : Array FieldInfo := #[]) : ClassFile where
  minorVersion := 0
  majorVersion := 65
  constantPool := pool
  accessFlags := fl
  thisClass := this
  superClass := sup
  interfaces := ifs
  fields := fds
  methods := ms
  attributes := attrs
def plain (name : String) (sup : Option ClassId) : Class where
  name := name
  kind := .ordinary
  loader := none
  accessFlags := 33
  super := sup
  interfaces := #[]
  cf := none
  fields := #[]
  methods := #[]
  instanceTypes := #[]
  staticTypes := #[]
  resolved := #[]
  callSites := []
  init := .initialized
  statics := none
  mirror := none

def pool0 : Array CpInfo := pool [(5, u "<init>"), (0, u "()V"), (1, .class_ 10), (1, u "java/lang/Object")] 113

def k0c0 : Code := { maxStack := 0, maxLocals := 1, code := object_method_1_code, exceptionTable := #[], attributes := #[] }
def k0m0 : Method := { name := "<init>", desc := "()V", sig := { parameters := [], returnType := none }, accessFlags := 1, code := some k0c0 }
/-- java/lang/Object -/
def k0 : Class := { plain "java/lang/Object" none with
  accessFlags := 33
  interfaces := #[]
  cf := some (fileOf pool0 8 #[] #[{ accessFlags := 1, nameIndex := 5, descriptorIndex := 6, attributes := #[] }] 33 0 #[] #[])
  fields := #[]
  methods := #[k0m0]
  instanceTypes := #[]
  staticTypes := #[]
  resolved := Array.replicate 124 none
  statics := none }

def pool1 : Array CpInfo := pool [(2, .class_ 4), (0, .nameAndType 5 6), (0, u "java/lang/Object"), (0, u "<init>"), (0, u "()V"), (0, .integer 2147483647), (0, .class_ 9), (0, u "com/example/perx/perx/index/IntList"), (0, .methodref 8 3), (0, .methodref 8 12), (0, .nameAndType 13 14), (0, u "add"), (0, u "(I)V"), (0, .methodref 8 16), (0, .nameAndType 17 14), (0, u "truncate"), (0, .methodref 8 19), (0, .nameAndType 20 21), (0, u "addAll"), (0, u "(Lcom/example/perx/perx/index/IntList;)V"), (0, .methodref 8 23), (0, .nameAndType 24 25), (0, u "size"), (0, u "()I"), (0, .methodref 8 27), (0, .nameAndType 28 29), (0, u "get"), (0, u "(I)I"), (0, .methodref 31 32), (0, .class_ 33), (0, .nameAndType 34 35), (0, u "com/example/perx/perx/index/IntListAddAllPinLaw"), (0, u "expectedAt"), (0, u "(IIIIII)I"), (3, u "law"), (0, u "(IIIIII)Z")] 2

def k1m0 : Method := { name := "<init>", desc := "()V", sig := { parameters := [], returnType := none }, accessFlags := 1, code := none }
def k1c1 : Code := { maxStack := 2, maxLocals := 7, code := method_2_code, exceptionTable := #[], attributes := #[] }
def k1m1 : Method := { name := "expectedAt", desc := "(IIIIII)I", sig := { parameters := [.int, .int, .int, .int, .int, .int], returnType := some .int }, accessFlags := 10, code := some k1c1 }
def k1c2 : Code := { maxStack := 7, maxLocals := 14, code := code, exceptionTable := #[], attributes := #[] }
def k1m2 : Method := { name := "law", desc := "(IIIIII)Z", sig := { parameters := [.int, .int, .int, .int, .int, .int], returnType := some .boolean }, accessFlags := 9, code := some k1c2 }
/-- com/example/perx/perx/index/IntListAddAllPinLaw -/
def k1 : Class := { plain "com/example/perx/perx/index/IntListAddAllPinLaw" (some 0) with
  accessFlags := 49
  interfaces := #[]
  cf := some (fileOf pool1 31 #[] #[{ accessFlags := 1, nameIndex := 5, descriptorIndex := 6, attributes := #[] }, { accessFlags := 10, nameIndex := 34, descriptorIndex := 35, attributes := #[] }, { accessFlags := 9, nameIndex := 39, descriptorIndex := 40, attributes := #[] }] 49 2 #[] #[])
  fields := #[]
  methods := #[k1m0, k1m1, k1m2]
  instanceTypes := #[]
  staticTypes := #[]
  resolved := Array.replicate 43 none
  statics := none }

def pool2 : Array CpInfo := pool [(1, .methodref 2 3), (0, .class_ 4), (0, .nameAndType 5 6), (0, u "java/lang/Object"), (0, u "<init>"), (0, u "()V"), (0, .fieldref 8 9), (0, .class_ 10), (0, .nameAndType 11 12), (0, u "com/example/perx/perx/index/IntList"), (0, u "values"), (0, u "[I"), (0, .fieldref 8 14), (0, .nameAndType 15 16), (0, u "size"), (0, u "I"), (0, .methodref 18 19), (0, .class_ 20), (0, .nameAndType 21 22), (0, u "java/util/Arrays"), (0, u "copyOf"), (0, u "([II)[I"), (0, .methodref 24 25), (0, .class_ 26), (0, .nameAndType 27 28), (0, u "java/lang/Math"), (0, u "max"), (0, u "(II)I"), (0, .methodref 30 31), (0, .class_ 32), (0, .nameAndType 33 34), (0, u "java/lang/System"), (0, u "arraycopy"), (0, u "(Ljava/lang/Object;ILjava/lang/Object;II)V"), (2, u "()I"), (0, u "add"), (0, u "(I)V"), (1, u "get"), (0, u "(I)I"), (2, u "addAll"), (0, u "(Lcom/example/perx/perx/index/IntList;)V"), (0, u "truncate")] 2

def k2c0 : Code := { maxStack := 2, maxLocals := 1, code := prog_24_method_1_code, exceptionTable := #[], attributes := #[] }
def k2m0 : Method := { name := "<init>", desc := "()V", sig := { parameters := [], returnType := none }, accessFlags := 0, code := some k2c0 }
def k2c1 : Code := { maxStack := 1, maxLocals := 1, code := prog_24_method_2_code, exceptionTable := #[], attributes := #[] }
def k2m1 : Method := { name := "size", desc := "()I", sig := { parameters := [], returnType := some .int }, accessFlags := 0, code := some k2c1 }
def k2c2 : Code := { maxStack := 5, maxLocals := 2, code := prog_24_method_3_code, exceptionTable := #[], attributes := #[] }
def k2m2 : Method := { name := "add", desc := "(I)V", sig := { parameters := [.int], returnType := none }, accessFlags := 0, code := some k2c2 }
def k2c3 : Code := { maxStack := 2, maxLocals := 2, code := prog_24_method_4_code, exceptionTable := #[], attributes := #[] }
def k2m3 : Method := { name := "get", desc := "(I)I", sig := { parameters := [.int], returnType := some .int }, accessFlags := 0, code := some k2c3 }
def k2c4 : Code := { maxStack := 5, maxLocals := 2, code := prog_24_method_6_code, exceptionTable := #[], attributes := #[] }
def k2m4 : Method := { name := "addAll", desc := "(Lcom/example/perx/perx/index/IntList;)V", sig := { parameters := [(.object "com/example/perx/perx/index/IntList")], returnType := none }, accessFlags := 0, code := some k2c4 }
def k2c5 : Code := { maxStack := 2, maxLocals := 2, code := prog_24_method_7_code, exceptionTable := #[], attributes := #[] }
def k2m5 : Method := { name := "truncate", desc := "(I)V", sig := { parameters := [.int], returnType := none }, accessFlags := 0, code := some k2c5 }
/-- com/example/perx/perx/index/IntList -/
def k2 : Class := { plain "com/example/perx/perx/index/IntList" (some 0) with
  accessFlags := 48
  interfaces := #[]
  cf := some (fileOf pool2 8 #[] #[{ accessFlags := 0, nameIndex := 5, descriptorIndex := 6, attributes := #[] }, { accessFlags := 0, nameIndex := 15, descriptorIndex := 37, attributes := #[] }, { accessFlags := 0, nameIndex := 38, descriptorIndex := 39, attributes := #[] }, { accessFlags := 0, nameIndex := 41, descriptorIndex := 42, attributes := #[] }, { accessFlags := 0, nameIndex := 45, descriptorIndex := 46, attributes := #[] }, { accessFlags := 0, nameIndex := 47, descriptorIndex := 39, attributes := #[] }] 48 2 #[] #[{ accessFlags := 2, nameIndex := 11, descriptorIndex := 12, attributes := #[] }, { accessFlags := 2, nameIndex := 15, descriptorIndex := 16, attributes := #[] }])
  fields := #[{ name := "values", type := (.array .int), accessFlags := 2, slot := 0, constantValue := 0 }, { name := "size", type := .int, accessFlags := 2, slot := 1, constantValue := 0 }]
  methods := #[k2m0, k2m1, k2m2, k2m3, k2m4, k2m5]
  instanceTypes := #[(.array .int), .int]
  staticTypes := #[]
  resolved := Array.replicate 50 none
  statics := none }

def pool3 : Array CpInfo := pool [(2, .class_ 4), (1, u "java/lang/Object"), (0, u "<init>"), (0, u "()V"), (1, .class_ 10), (1, u "java/lang/System"), (0, u "allowSecurityManager"), (0, u "I"), (16, u "cons"), (0, u "Ljava/io/Console;"), (77, .class_ 110), (1, u "java/lang/System$CallersHolder"), (43, u "initialErrStream"), (0, u "Ljava/io/PrintStream;"), (19, u "security"), (0, u "Ljava/lang/SecurityManager;"), (31, .class_ 209), (0, u "java/lang/System$1"), (7, u "props"), (0, u "Ljava/util/Properties;"), (2, u "lineSeparator"), (0, u "Ljava/lang/String;"), (96, .class_ 321), (1, u "java/lang/System$LoggerFinder"), (5, .class_ 328), (0, u "java/lang/System$Logger"), (67, u "err"), (2, u "out"), (91, u "notSupportedJnuEncoding"), (15, u "in"), (17, u "initialIn"), (0, u "Ljava/io/InputStream;"), (35, u "bootLayer"), (0, u "Ljava/lang/ModuleLayer;"), (99, .class_ 664), (0, u "java/lang/System$2"), (9, u "NEVER"), (2, u "MAYBE"), (49, u "arraycopy"), (0, u "(Ljava/lang/Object;ILjava/lang/Object;II)V"), (72, .class_ 802), (0, u "java/lang/System$Logger$Level")] 31

def k3m0 : Method := { name := "<init>", desc := "()V", sig := { parameters := [], returnType := none }, accessFlags := 2, code := none }
def k3m1 : Method := { name := "arraycopy", desc := "(Ljava/lang/Object;ILjava/lang/Object;II)V", sig := { parameters := [(.object "java/lang/Object"), .int, (.object "java/lang/Object"), .int, .int], returnType := none }, accessFlags := 265, code := none }
/-- java/lang/System -/
def k3 : Class := { plain "java/lang/System" (some 0) with
  accessFlags := 49
  interfaces := #[]
  cf := some (fileOf pool3 8 #[.nestMembers #[319, 327, 801, 108, 663, 208]] #[{ accessFlags := 2, nameIndex := 5, descriptorIndex := 6, attributes := #[] }, { accessFlags := 265, nameIndex := 727, descriptorIndex := 728, attributes := #[] }] 49 2 #[] #[{ accessFlags := 25, nameIndex := 507, descriptorIndex := 526, attributes := #[] }, { accessFlags := 25, nameIndex := 399, descriptorIndex := 155, attributes := #[] }, { accessFlags := 25, nameIndex := 396, descriptorIndex := 155, attributes := #[] }, { accessFlags := 10, nameIndex := 525, descriptorIndex := 526, attributes := #[] }, { accessFlags := 26, nameIndex := 674, descriptorIndex := 12, attributes := #[] }, { accessFlags := 26, nameIndex := 677, descriptorIndex := 12, attributes := #[] }, { accessFlags := 10, nameIndex := 11, descriptorIndex := 12, attributes := #[] }, { accessFlags := 74, nameIndex := 175, descriptorIndex := 176, attributes := #[] }, { accessFlags := 10, nameIndex := 491, descriptorIndex := 222, attributes := #[] }, { accessFlags := 74, nameIndex := 29, descriptorIndex := 30, attributes := #[] }, { accessFlags := 74, nameIndex := 154, descriptorIndex := 155, attributes := #[] }, { accessFlags := 10, nameIndex := 217, descriptorIndex := 218, attributes := #[] }, { accessFlags := 10, nameIndex := 221, descriptorIndex := 222, attributes := #[] }, { accessFlags := 8, nameIndex := 562, descriptorIndex := 563, attributes := #[] }])
  fields := #[{ name := "in", type := (.object "java/io/InputStream"), accessFlags := 25, slot := 0, constantValue := 0 }, { name := "out", type := (.object "java/io/PrintStream"), accessFlags := 25, slot := 1, constantValue := 0 }, { name := "err", type := (.object "java/io/PrintStream"), accessFlags := 25, slot := 2, constantValue := 0 }, { name := "initialIn", type := (.object "java/io/InputStream"), accessFlags := 10, slot := 3, constantValue := 0 }, { name := "NEVER", type := .int, accessFlags := 26, slot := 4, constantValue := 0 }, { name := "MAYBE", type := .int, accessFlags := 26, slot := 5, constantValue := 0 }, { name := "allowSecurityManager", type := .int, accessFlags := 10, slot := 6, constantValue := 0 }, { name := "security", type := (.object "java/lang/SecurityManager"), accessFlags := 74, slot := 7, constantValue := 0 }, { name := "notSupportedJnuEncoding", type := (.object "java/lang/String"), accessFlags := 10, slot := 8, constantValue := 0 }, { name := "cons", type := (.object "java/io/Console"), accessFlags := 74, slot := 9, constantValue := 0 }, { name := "initialErrStream", type := (.object "java/io/PrintStream"), accessFlags := 74, slot := 10, constantValue := 0 }, { name := "props", type := (.object "java/util/Properties"), accessFlags := 10, slot := 11, constantValue := 0 }, { name := "lineSeparator", type := (.object "java/lang/String"), accessFlags := 10, slot := 12, constantValue := 0 }, { name := "bootLayer", type := (.object "java/lang/ModuleLayer"), accessFlags := 8, slot := 13, constantValue := 0 }]
  methods := #[k3m0, k3m1]
  instanceTypes := #[]
  staticTypes := #[(.object "java/io/InputStream"), (.object "java/io/PrintStream"), (.object "java/io/PrintStream"), (.object "java/io/InputStream"), .int, .int, .int, (.object "java/lang/SecurityManager"), (.object "java/lang/String"), (.object "java/io/Console"), (.object "java/io/PrintStream"), (.object "java/util/Properties"), (.object "java/lang/String"), (.object "java/lang/ModuleLayer")]
  resolved := Array.replicate 834 none
  statics := none }

def pool4 : Array CpInfo := pool [(1, .class_ 2), (0, u "java/lang/Math"), (1, .class_ 6), (1, u "java/lang/Object"), (0, u "<init>"), (0, u "()V"), (89, .class_ 100), (1, u "java/lang/Math$RandomNumberGeneratorHolder"), (71, u "negativeZeroFloatBits"), (0, u "J"), (2, u "negativeZeroDoubleBits"), (21, u "max"), (2, u "min"), (43, u "$assertionsDisabled"), (0, u "Z"), (88, u "(II)I"), (2, u "twoToTheDoubleScaleDown"), (0, u "D"), (4, u "twoToTheDoubleScaleUp"), (9, u "E"), (3, u "PI"), (2, u "TAU"), (2, u "DEGREES_TO_RADIANS"), (0, u "RADIANS_TO_DEGREES")] 94

def k4m0 : Method := { name := "<init>", desc := "()V", sig := { parameters := [], returnType := none }, accessFlags := 2, code := none }
def k4c1 : Code := { maxStack := 2, maxLocals := 2, code := jdk_29_method_65_code, exceptionTable := #[], attributes := #[] }
def k4m1 : Method := { name := "max", desc := "(II)I", sig := { parameters := [.int, .int], returnType := some .int }, accessFlags := 9, code := some k4c1 }
def k4c2 : Code := { maxStack := 2, maxLocals := 2, code := jdk_29_method_69_code, exceptionTable := #[], attributes := #[] }
def k4m2 : Method := { name := "min", desc := "(II)I", sig := { parameters := [.int, .int], returnType := some .int }, accessFlags := 9, code := some k4c2 }
/-- java/lang/Math -/
def k4 : Class := { plain "java/lang/Math" (some 0) with
  accessFlags := 49
  interfaces := #[]
  cf := some (fileOf pool4 1 #[.nestMembers #[98]] #[{ accessFlags := 2, nameIndex := 7, descriptorIndex := 8, attributes := #[] }, { accessFlags := 9, nameIndex := 198, descriptorIndex := 335, attributes := #[] }, { accessFlags := 9, nameIndex := 201, descriptorIndex := 335, attributes := #[] }] 49 4 #[] #[{ accessFlags := 25, nameIndex := 354, descriptorIndex := 339, attributes := #[] }, { accessFlags := 25, nameIndex := 358, descriptorIndex := 339, attributes := #[] }, { accessFlags := 25, nameIndex := 361, descriptorIndex := 339, attributes := #[] }, { accessFlags := 26, nameIndex := 364, descriptorIndex := 339, attributes := #[] }, { accessFlags := 26, nameIndex := 365, descriptorIndex := 339, attributes := #[] }, { accessFlags := 26, nameIndex := 172, descriptorIndex := 173, attributes := #[] }, { accessFlags := 26, nameIndex := 176, descriptorIndex := 173, attributes := #[] }, { accessFlags := 8, nameIndex := 344, descriptorIndex := 339, attributes := #[] }, { accessFlags := 8, nameIndex := 338, descriptorIndex := 339, attributes := #[] }, { accessFlags := 4120, nameIndex := 245, descriptorIndex := 246, attributes := #[] }])
  fields := #[{ name := "E", type := .double, accessFlags := 25, slot := 0, constantValue := 0 }, { name := "PI", type := .double, accessFlags := 25, slot := 1, constantValue := 0 }, { name := "TAU", type := .double, accessFlags := 25, slot := 2, constantValue := 0 }, { name := "DEGREES_TO_RADIANS", type := .double, accessFlags := 26, slot := 3, constantValue := 0 }, { name := "RADIANS_TO_DEGREES", type := .double, accessFlags := 26, slot := 4, constantValue := 0 }, { name := "negativeZeroFloatBits", type := .long, accessFlags := 26, slot := 5, constantValue := 0 }, { name := "negativeZeroDoubleBits", type := .long, accessFlags := 26, slot := 6, constantValue := 0 }, { name := "twoToTheDoubleScaleUp", type := .double, accessFlags := 8, slot := 7, constantValue := 0 }, { name := "twoToTheDoubleScaleDown", type := .double, accessFlags := 8, slot := 8, constantValue := 0 }, { name := "$assertionsDisabled", type := .boolean, accessFlags := 4120, slot := 9, constantValue := 0 }]
  methods := #[k4m0, k4m1, k4m2]
  instanceTypes := #[]
  staticTypes := #[.double, .double, .double, .double, .double, .long, .long, .double, .double, .boolean]
  resolved := Array.replicate 460 none
  statics := none }

def pool5 : Array CpInfo := pool [(2, .class_ 4), (1, u "java/lang/Object"), (0, u "<init>"), (0, u "()V"), (7, .class_ 16), (1, u "java/util/Arrays"), (57, .class_ 76), (1, u "java/util/Arrays$NaturalOrder"), (36, .class_ 115), (1, u "java/util/Arrays$LegacyMergeSort"), (1, u "Z"), (32, .methodref 151 152), (0, .class_ 153), (0, .nameAndType 154 155), (0, u "java/lang/System"), (0, u "arraycopy"), (0, u "(Ljava/lang/Object;ILjava/lang/Object;II)V"), (146, u "copyOf"), (1, .methodref 305 306), (0, .class_ 307), (0, .nameAndType 308 309), (0, u "java/lang/Math"), (0, u "min"), (0, u "(II)I"), (65, .class_ 376), (0, u "java/util/Arrays$ArrayList"), (68, u "$assertionsDisabled"), (269, u "MIN_ARRAY_SORT_GRAN"), (0, u "I"), (2, u "INSERTIONSORT_THRESHOLD"), (151, u "([II)[I"), (103, .class_ 976), (0, u "java/util/Arrays$ArrayItr")] 52

def k5m0 : Method := { name := "<init>", desc := "()V", sig := { parameters := [], returnType := none }, accessFlags := 2, code := none }
def k5c1 : Code := { maxStack := 6, maxLocals := 3, code := jdk_65_method_123_code, exceptionTable := #[], attributes := #[] }
def k5m1 : Method := { name := "copyOf", desc := "([II)[I", sig := { parameters := [(.array .int), .int], returnType := some (.array .int) }, accessFlags := 9, code := some k5c1 }
/-- java/util/Arrays -/
def k5 : Class := { plain "java/util/Arrays" (some 0) with
  accessFlags := 49
  interfaces := #[]
  cf := some (fileOf pool5 14 #[.nestMembers #[975, 375, 113, 74]] #[{ accessFlags := 2, nameIndex := 5, descriptorIndex := 6, attributes := #[] }, { accessFlags := 9, nameIndex := 302, descriptorIndex := 871, attributes := #[] }] 49 2 #[] #[{ accessFlags := 26, nameIndex := 715, descriptorIndex := 716, attributes := #[] }, { accessFlags := 26, nameIndex := 719, descriptorIndex := 716, attributes := #[] }, { accessFlags := 4120, nameIndex := 445, descriptorIndex := 117, attributes := #[] }])
  fields := #[{ name := "MIN_ARRAY_SORT_GRAN", type := .int, accessFlags := 26, slot := 0, constantValue := 0 }, { name := "INSERTIONSORT_THRESHOLD", type := .int, accessFlags := 26, slot := 1, constantValue := 0 }, { name := "$assertionsDisabled", type := .boolean, accessFlags := 4120, slot := 2, constantValue := 0 }]
  methods := #[k5m0, k5m1]
  instanceTypes := #[]
  staticTypes := #[.int, .int, .boolean]
  resolved := Array.replicate 1029 none
  statics := none }

def pool6 : Array CpInfo := pool [(1, u "java/lang/Cloneable"), (0, .class_ 1), (0, u "java/lang/Object"), (0, .class_ 3)] 3

/-- java/lang/Cloneable -/
def k6 : Class := { plain "java/lang/Cloneable" (some 0) with
  accessFlags := 1537
  interfaces := #[]
  cf := some (fileOf pool6 2 #[] #[] 1537 4 #[] #[])
  fields := #[]
  methods := #[]
  instanceTypes := #[]
  staticTypes := #[]
  resolved := Array.replicate 8 none
  statics := none }

def pool7 : Array CpInfo := pool [(1, u "java/io/Serializable"), (0, .class_ 1), (0, u "java/lang/Object"), (0, .class_ 3)] 3

/-- java/io/Serializable -/
def k7 : Class := { plain "java/io/Serializable" (some 0) with
  accessFlags := 1537
  interfaces := #[]
  cf := some (fileOf pool7 2 #[] #[] 1537 4 #[] #[])
  fields := #[]
  methods := #[]
  instanceTypes := #[]
  staticTypes := #[]
  resolved := Array.replicate 8 none
  statics := none }

/-- the primitive byte -/
def k8 : Class := { plain "byte" none with kind := .primitive 'B', accessFlags := 0x411 }
/-- [B -/
def k9 : Class := { plain "[B" (some 0) with kind := .array 8 .byte, interfaces := #[6, 7], accessFlags := 1041 }

/-- the primitive int -/
def k10 : Class := { plain "int" none with kind := .primitive 'I', accessFlags := 0x411 }
/-- [I -/
def k11 : Class := { plain "[I" (some 0) with kind := .array 10 .int, interfaces := #[6, 7], accessFlags := 1041 }

def heap : Heap := #[]
def classes : Array Class := #[k0, k1, k2, k3, k4, k5, k6, k7, k8, k9, k10, k11]
def interned : List (Array UInt16 × Addr) := []
def slotsUsed : Nat := 0
def theMethod : MethodId := ⟨1, 2⟩
def args0 : Array Value := #[.int 5, .int 7, .int 9, .int 3, .int 8, .int 1]
def aboutOver (below : List Frame) : State where
  vm := { classes := classes, interned := interned.toArray }
  heap := heap
  slotsUsed := slotsUsed
  threads := #[{ frames := .invoking theMethod args0 :: below }]
def below0 : List Frame := [.native { method := ⟨0, 0⟩, args := #[] }]
def about1 : State := aboutOver below0
def p0 : Program := .bare "" "" ""
def e0 : Env := launch0.env 0 0 0
theorem w_frames : about1.frames = Frame.invoking theMethod args0 :: below0 := rfl
set_option maxRecDepth 65536 in
theorem w_args : argsFit about1.vm theMethod args0 = true := by decide +kernel
set_option maxRecDepth 65536 in
theorem w_heap : heapFits about1 = true := by decide +kernel
set_option maxRecDepth 65536 in
theorem w_runnable : about1.curStatus? = some .runnable := by decide +kernel
set_option maxRecDepth 65536 in
theorem w_alone : about1.alone = true := by decide +kernel
set_option maxRecDepth 65536 in
theorem w_named : about1.methodNamed? x = some theMethod := by decide +kernel
set_option maxRecDepth 65536 in
theorem w_hears : about1.hears theMethod below0 = true := by decide +kernel
set_option maxRecDepth 65536 in
theorem w_ripe : about1.ripe theMethod args0 below0 = true := by decide +kernel
theorem w_running : about1.status = .running := rfl
set_option maxRecDepth 65536 in
theorem w_room : about1.hasRoom e0.platform room_1 = true :=
  launch0.hasRoom_least _ room_1 (by decide +kernel) (by decide +kernel) (by decide +kernel) (by decide +kernel) (by decide +kernel) (by decide +kernel)
theorem allAtoms_all (ts : List Jvm.Cond) (a : Array Jvm.Value) (st : Jvm.State) : (allAtoms ts).before a st = ts.all (fun c => c.before a st) := by
  induction ts with
  | nil => rfl
  | cons c t ih =>
    show (Jvm.Cond.and c (allAtoms t)).before a st = _
    rw [Jvm.Cond.before_and, ih, List.all_cons]
def words1 : List Jvm.Cond := Jvm.Cond.code x code maxLocals ret :: tables_1
/-- a 'code' word, met by the world's own term for the bytes: nothing is compared byte by byte -/
theorem code_word {y : MethodName} {bytes : ByteArray} {mx : Nat} {rt : Option FieldType} {a : Array Value} {s : State} {m : MethodId} {meth : Method} {c : Code} (h1 : s.methodNamed? y = some m) (h2 : s.vm.method? m = some meth) (h3 : meth.code = some c) (h4 : c.code = bytes)
    (h5 : (c.maxLocals == mx && c.exceptionTable.isEmpty && decide (c.maxStack ≤ mostOperands) && decide (meth.sig.returnType = rt) && !meth.locks && decide (parseMethodDescriptor y.desc = some meth.sig)) = true) : (Jvm.Cond.code y bytes mx rt).before a s = true := by
  simp only [Bool.and_eq_true, beq_iff_eq, Bool.not_eq_true', decide_eq_true_eq] at h5
  obtain ⟨⟨⟨⟨⟨g1, g2⟩, g3⟩, g4⟩, g5⟩, g6⟩ := h5
  simp [Cond.before, Cond.holds, Cond.value, h1, h2, h3, h4, g1, g2, g3, g4, g5, g6]
def isCode : Jvm.Cond → Bool
  | .code _ _ _ _ => true
  | _ => false
theorem all_split {L : List Jvm.Cond} {P : Jvm.Cond → Bool} (h1 : L.all (fun c => isCode c || P c) = true) (h2 : ∀ c ∈ L.filter isCode, P c = true) : L.all P = true := by
  refine List.all_eq_true.mpr fun c hc => ?_
  have h := List.all_eq_true.mp h1 c hc
  rcases Bool.eq_false_or_eq_true (isCode c) with hi | hi
  · exact h2 c (List.mem_filter.mpr ⟨hc, hi⟩)
  · simpa [hi] using h
set_option maxRecDepth 65536 in
theorem w_c0 : (Jvm.Cond.code x code maxLocals ret).before args0 about1 = true := code_word (m := ⟨1, 2⟩) (meth := k1m2) (c := k1c2) (by decide +kernel) rfl rfl rfl (by decide +kernel)
set_option maxRecDepth 65536 in
theorem w_c1 : (Jvm.Cond.code ({ cls := "com/example/perx/perx/index/IntList", name := "<init>", desc := "()V" } : Jvm.MethodName) prog_24_method_1_code (1 : Nat) (Option.none : Option Jvm.ClassFile.FieldType)).before args0 about1 = true := code_word (m := ⟨2, 0⟩) (meth := k2m0) (c := k2c0) (by decide +kernel) rfl rfl rfl (by decide +kernel)
set_option maxRecDepth 65536 in
theorem w_c2 : (Jvm.Cond.code ({ cls := "java/lang/Object", name := "<init>", desc := "()V" } : Jvm.MethodName) object_method_1_code (1 : Nat) (Option.none : Option Jvm.ClassFile.FieldType)).before args0 about1 = true := code_word (m := ⟨0, 0⟩) (meth := k0m0) (c := k0c0) (by decide +kernel) rfl rfl rfl (by decide +kernel)
set_option maxRecDepth 65536 in
theorem w_c3 : (Jvm.Cond.code ({ cls := "com/example/perx/perx/index/IntList", name := "add", desc := "(I)V" } : Jvm.MethodName) prog_24_method_3_code (2 : Nat) (Option.none : Option Jvm.ClassFile.FieldType)).before args0 about1 = true := code_word (m := ⟨2, 2⟩) (meth := k2m2) (c := k2c2) (by decide +kernel) rfl rfl rfl (by decide +kernel)
set_option maxRecDepth 65536 in
theorem w_c4 : (Jvm.Cond.code ({ cls := "com/example/perx/perx/index/IntList", name := "truncate", desc := "(I)V" } : Jvm.MethodName) prog_24_method_7_code (2 : Nat) (Option.none : Option Jvm.ClassFile.FieldType)).before args0 about1 = true := code_word (m := ⟨2, 5⟩) (meth := k2m5) (c := k2c5) (by decide +kernel) rfl rfl rfl (by decide +kernel)
set_option maxRecDepth 65536 in
theorem w_c5 : (Jvm.Cond.code ({ cls := "com/example/perx/perx/index/IntList", name := "addAll", desc := "(Lcom/example/perx/perx/index/IntList;)V" } : Jvm.MethodName) prog_24_method_6_code (2 : Nat) (Option.none : Option Jvm.ClassFile.FieldType)).before args0 about1 = true := code_word (m := ⟨2, 4⟩) (meth := k2m4) (c := k2c4) (by decide +kernel) rfl rfl rfl (by decide +kernel)
set_option maxRecDepth 65536 in
theorem w_c6 : (Jvm.Cond.code ({ cls := "com/example/perx/perx/index/IntList", name := "size", desc := "()I" } : Jvm.MethodName) prog_24_method_2_code (1 : Nat) (Option.some Jvm.ClassFile.FieldType.int)).before args0 about1 = true := code_word (m := ⟨2, 1⟩) (meth := k2m1) (c := k2c1) (by decide +kernel) rfl rfl rfl (by decide +kernel)
set_option maxRecDepth 65536 in
theorem w_c7 : (Jvm.Cond.code ({ cls := "com/example/perx/perx/index/IntList", name := "get", desc := "(I)I" } : Jvm.MethodName) prog_24_method_4_code (2 : Nat) (Option.some Jvm.ClassFile.FieldType.int)).before args0 about1 = true := code_word (m := ⟨2, 3⟩) (meth := k2m3) (c := k2c3) (by decide +kernel) rfl rfl rfl (by decide +kernel)
set_option maxRecDepth 65536 in
theorem w_c8 : (Jvm.Cond.code ({ cls := "com/example/perx/perx/index/IntListAddAllPinLaw", name := "expectedAt", desc := "(IIIIII)I" } : Jvm.MethodName) method_2_code (7 : Nat) (Option.some Jvm.ClassFile.FieldType.int)).before args0 about1 = true := code_word (m := ⟨1, 1⟩) (meth := k1m1) (c := k1c1) (by decide +kernel) rfl rfl rfl (by decide +kernel)
set_option maxRecDepth 65536 in
theorem w_c9 : (Jvm.Cond.code ({ cls := "java/lang/Math", name := "max", desc := "(II)I" } : Jvm.MethodName) jdk_29_method_65_code (2 : Nat) (Option.some Jvm.ClassFile.FieldType.int)).before args0 about1 = true := code_word (m := ⟨4, 1⟩) (meth := k4m1) (c := k4c1) (by decide +kernel) rfl rfl rfl (by decide +kernel)
set_option maxRecDepth 65536 in
theorem w_c10 : (Jvm.Cond.code ({ cls := "java/util/Arrays", name := "copyOf", desc := "([II)[I" } : Jvm.MethodName) jdk_65_method_123_code (3 : Nat) (Option.some (Jvm.ClassFile.FieldType.array Jvm.ClassFile.FieldType.int))).before args0 about1 = true := code_word (m := ⟨5, 1⟩) (meth := k5m1) (c := k5c1) (by decide +kernel) rfl rfl rfl (by decide +kernel)
set_option maxRecDepth 65536 in
theorem w_c11 : (Jvm.Cond.code ({ cls := "java/lang/Math", name := "min", desc := "(II)I" } : Jvm.MethodName) jdk_29_method_69_code (2 : Nat) (Option.some Jvm.ClassFile.FieldType.int)).before args0 about1 = true := code_word (m := ⟨4, 2⟩) (meth := k4m2) (c := k4c2) (by decide +kernel) rfl rfl rfl (by decide +kernel)
def codes1 : List Jvm.Cond := [Jvm.Cond.code x code maxLocals ret, Jvm.Cond.code ({ cls := "com/example/perx/perx/index/IntList", name := "<init>", desc := "()V" } : Jvm.MethodName) prog_24_method_1_code (1 : Nat) (Option.none : Option Jvm.ClassFile.FieldType), Jvm.Cond.code ({ cls := "java/lang/Object", name := "<init>", desc := "()V" } : Jvm.MethodName) object_method_1_code (1 : Nat) (Option.none : Option Jvm.ClassFile.FieldType), Jvm.Cond.code ({ cls := "com/example/perx/perx/index/IntList", name := "add", desc := "(I)V" } : Jvm.MethodName) prog_24_method_3_code (2 : Nat) (Option.none : Option Jvm.ClassFile.FieldType), Jvm.Cond.code ({ cls := "com/example/perx/perx/index/IntList", name := "truncate", desc := "(I)V" } : Jvm.MethodName) prog_24_method_7_code (2 : Nat) (Option.none : Option Jvm.ClassFile.FieldType), Jvm.Cond.code ({ cls := "com/example/perx/perx/index/IntList", name := "addAll", desc := "(Lcom/example/perx/perx/index/IntList;)V" } : Jvm.MethodName) prog_24_method_6_code (2 : Nat) (Option.none : Option Jvm.ClassFile.FieldType), Jvm.Cond.code ({ cls := "com/example/perx/perx/index/IntList", name := "size", desc := "()I" } : Jvm.MethodName) prog_24_method_2_code (1 : Nat) (Option.some Jvm.ClassFile.FieldType.int), Jvm.Cond.code ({ cls := "com/example/perx/perx/index/IntList", name := "get", desc := "(I)I" } : Jvm.MethodName) prog_24_method_4_code (2 : Nat) (Option.some Jvm.ClassFile.FieldType.int), Jvm.Cond.code ({ cls := "com/example/perx/perx/index/IntListAddAllPinLaw", name := "expectedAt", desc := "(IIIIII)I" } : Jvm.MethodName) method_2_code (7 : Nat) (Option.some Jvm.ClassFile.FieldType.int), Jvm.Cond.code ({ cls := "java/lang/Math", name := "max", desc := "(II)I" } : Jvm.MethodName) jdk_29_method_65_code (2 : Nat) (Option.some Jvm.ClassFile.FieldType.int), Jvm.Cond.code ({ cls := "java/util/Arrays", name := "copyOf", desc := "([II)[I" } : Jvm.MethodName) jdk_65_method_123_code (3 : Nat) (Option.some (Jvm.ClassFile.FieldType.array Jvm.ClassFile.FieldType.int)), Jvm.Cond.code ({ cls := "java/lang/Math", name := "min", desc := "(II)I" } : Jvm.MethodName) jdk_29_method_69_code (2 : Nat) (Option.some Jvm.ClassFile.FieldType.int)]
set_option maxRecDepth 65536 in
theorem codes_eq : words1.filter isCode = codes1 := rfl
theorem w_codes : ∀ c ∈ words1.filter isCode, c.before args0 about1 = true := by
  rw [codes_eq]
  intro c hc
  simp only [codes1, List.mem_cons, List.not_mem_nil, or_false] at hc
  rcases hc with rfl | rfl | rfl | rfl | rfl | rfl | rfl | rfl | rfl | rfl | rfl | rfl
  · exact w_c0
  · exact w_c1
  · exact w_c2
  · exact w_c3
  · exact w_c4
  · exact w_c5
  · exact w_c6
  · exact w_c7
  · exact w_c8
  · exact w_c9
  · exact w_c10
  · exact w_c11
set_option maxRecDepth 65536 in
theorem w_t1 : (words1.take 24).all (fun c => isCode c || c.before args0 about1) = true := by decide +kernel
set_option maxRecDepth 65536 in
theorem w_t2 : ((words1.drop 24).take 24).all (fun c => isCode c || c.before args0 about1) = true := by decide +kernel
set_option maxRecDepth 65536 in
theorem w_t3 : ((words1.drop 24).drop 24).all (fun c => isCode c || c.before args0 about1) = true := by decide +kernel
theorem w_tables : (allAtoms (Jvm.Cond.code x code maxLocals ret :: tables_1)).before args0 about1 = true := by
  rw [allAtoms_all]
  show words1.all (fun c => c.before args0 about1) = true
  refine all_split ?_ w_codes
  rw [← List.take_append_drop 24 words1, List.all_append, w_t1, ← List.take_append_drop 24 (words1.drop 24), List.all_append, w_t2, w_t3]
  rfl
set_option maxRecDepth 65536 in
theorem w_case : (Jvm.Cond.and given_1 narrow_1).before args0 about1 = true := by decide +kernel
theorem w_applies : (headSpec (Jvm.Cond.code x code maxLocals ret :: tables_1) room_1).applies x e0.platform about1 = true :=
  (Spec.applies_iff w_frames).mpr ⟨w_running, w_runnable, w_alone, w_named, w_hears, w_ripe, w_room, w_tables⟩
theorem atStart : AtStart classFile x code maxLocals ret World_1 tables_1 room_1 Calls_1 rest_1 Pre_1 launch0 p0 e0 about1 theMethod args0 below0 :=
  ⟨lists_1, trivial, launch0.admits_env _ _ _, launch0.least_env, fairChoices_fair.cas, fairChoices_fair.clock, w_frames, w_args, w_heap, w_applies, trivial, trivial, w_case⟩
end start1
theorem witness_1 : WitnessClaimed_1 := ⟨start1.p0, start1.e0, start1.about1, start1.theMethod, start1.args0, start1.below0, start1.atStart⟩
end Jvm.Pilot.@@N@@
