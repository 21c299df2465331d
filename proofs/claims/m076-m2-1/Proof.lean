import JvmDerived
import JvmDerived.Pilot.@@N@@Statement
import JvmDerived.Pilot.@@N@@Code
set_option linter.unusedVariables false
set_option linter.unusedSimpArgs false
namespace Jvm.OwnKit
open Sem ClassFile Op Lib Jvm.Stand Jvm.Free Jvm.LawKit Jvm.RoadKit Bundle
/-- the run's own things: program, environment, start state, method, arguments, frames below, its record, its code -/
abbrev Cx := Program × Env × State × MethodId × Array Value × List Frame × Method × Code
def Ok (K : Cx) (Z : State) (n0 : Nat) (own : String) (code : ByteArray) (maxL : Nat) (ret : Option FieldType) (nm : String) : Prop :=
  match K with
  | (p, _, s, m, _, _, meth, c) => p.tables.exec = Jvm.exec ∧ Z.Warmed39 s.vm ∧ s.vm.findClass own = some m.cls ∧ c.code = code ∧ c.maxLocals = maxL ∧ meth.sig.returnType = ret ∧ meth.name = nm ∧ meth.locks = false ∧ n0 ≤ s.heap.size
/-- from heap h, with k cells and n slots made, at pc with locals L and stack S, the run comes to a return that P likes -/
def W (K : Cx) (l : Launch) (R : Room) (n0 : Nat) (P : Option Value → Heap → Prop) (h : Heap) (k n pc : Nat) (L : Array Slot) (S : List Value) : Prop :=
  match K with
  | (p, e, s, m, args, below, meth, c) => ∀ T locs, Stand p l e R s m args below meth c T locs k n → T.heap = h → Fr n0 locs →
    ∃ s₂ o, Steps p.tables e below (T.setTop (mkF m pc L S)) s₂ ∧ s₂.status = .running ∧ Ended s₂ below o ∧ ∃ v L', o = .returned v ∧ (P v s₂.heap ∧ Fr n0 L') ∧ FrameEnd s o s₂ L' R.cells R.slots
/-- a method's contract: called with as' at heap h it returns what Q likes -/
abbrev Met (l : Launch) (Z : State) (n0 : Nat) (y : MethodName) (bytes : ByteArray) (mL : Nat) (rt : Option FieldType) (ws : List Cond) (rm : Room) (as' : Array Value) (h : Heap) (Q : Option Value → Heap → Prop) : Prop :=
  MetFree l y (head1 (Cond.code y bytes mL rt :: ws) rm) (fun a U => a = as' ∧ Z.Warmed39 U.vm ∧ U.heap = h) (fun _ _ _ _ _ => True) (fun _ U o U' => ∃ v L, o = .returned v ∧ (Q v U'.heap ∧ Fr n0 L) ∧ FrameEnd U o U' L rm.cells rm.slots)
theorem met_of {l : Launch} {Z : State} {n0 : Nat} {y : MethodName} {bytes : ByteArray} {mL : Nat} {rt : Option FieldType} {ws : List Cond} {rm : Room} {as' : Array Value} {h : Heap} {Q : Option Value → Heap → Prop} (Z0 : n0 ≤ h.size) (pn : plainFor y = true) {Ls : Array Slot} (ef : ∀ m, entryFrame m as' mL = mkF m 0 Ls [])
    (H : ∀ K, Ok K Z n0 y.cls bytes mL rt y.name → W K l rm n0 Q h 0 0 0 Ls []) : Met l Z n0 y bytes mL rt ws rm as' h Q := by
  refine MetFree.of_bodySF pn hisR ?_
  intro p e s m args below meth c s₁ Bd hml0 hP hK
  obtain ⟨rfl, hZ, hh⟩ := hP
  have hnm := (name_of_methodNamed Bd.named Bd.method).1
  have X0 : Stand p l e rm s m args below meth c s₁ [] 0 0 := Stand.of_body Bd
  have e0 : s₁.heap = h := by rw [← hh, Bd.state]; rfl
  obtain ⟨s₂, o, st, r⟩ := H (p, e, s, m, args, below, meth, c) ⟨Bd.exec, hZ, findClass_of_methodNamed Bd.named, Bd.bytes, hml0, Bd.returns, hnm, Bd.notSynchronized, by show n0 ≤ s.heap.size; rw [hh]; exact Z0⟩ s₁ [] X0 e0 (Fr.nil n0)
  exact ⟨s₂, o, castTop (ef m) st, r⟩
section S
variable {K : Cx} {l : Launch} {R : Room} {Z : State} {n0 : Nat} {P : Option Value → Heap → Prop} {h : Heap} {k n pc : Nat} {L : Array Slot} {S : List Value} {own : String} {code : ByteArray} {maxL : Nat} {ret : Option FieldType} {nm : String} {a0 : Array Value}
theorem W.mono {P' : Option Value → Heap → Prop} (q : ∀ v h, P v h → P' v h) (w : W K l R n0 P h k n pc L S) : W K l R n0 P' h k n pc L S := by
  obtain ⟨p, e, s, m, args, below, meth, c⟩ := K
  intro T locs X eT N
  obtain ⟨s₂, o, st, r1, r2, v, L', r3, ⟨r4, r5⟩, r6⟩ := w T locs X eT N
  exact ⟨s₂, o, st, r1, r2, v, L', r3, ⟨q _ _ r4, r5⟩, r6⟩
theorem W.more {k' n' : Nat} (w : W K l R n0 P h k' n' pc L S) (hk : k ≤ k') (hn : n ≤ n') : W K l R n0 P h k n pc L S := by
  obtain ⟨p, e, s, m, args, below, meth, c⟩ := K
  intro T locs X eT N
  exact w T locs (X.more hk hn) eT N
theorem w_iloadN (ok : Ok K Z n0 own code maxL ret nm) {i : Fin 4} {v : Int32} (hd : decode code pc = .ok (.iload_n i, 1)) (hl : L[i.val]? = some (.val (.int v))) (w : W K l R n0 P h k n (pc + 1) L (.int v :: S)) : W K l R n0 P h k n pc L (S) := by
  obtain ⟨p, e, s, m, args, below, meth, c⟩ := K
  obtain ⟨hx, hZ, hown, hby, -⟩ := ok
  intro T locs X eT N
  obtain ⟨s₂, o, st, r⟩ := w T locs X eT N
  exact ⟨s₂, o, XS.iloadN X.here hx rfl (hb hby hd) hl st, r⟩
theorem w_iload (ok : Ok K Z n0 own code maxL ret nm) {i : Nat} {v : Int32} (hd : decode code pc = .ok (.iload i, 2)) (hl : L[i]? = some (.val (.int v))) (w : W K l R n0 P h k n (pc + 2) L (.int v :: S)) : W K l R n0 P h k n pc L (S) := by
  obtain ⟨p, e, s, m, args, below, meth, c⟩ := K
  obtain ⟨hx, hZ, hown, hby, -⟩ := ok
  intro T locs X eT N
  obtain ⟨s₂, o, st, r⟩ := w T locs X eT N
  exact ⟨s₂, o, XS.iload X.here hx rfl (hb hby hd) hl st, r⟩
theorem w_istoreN (ok : Ok K Z n0 own code maxL ret nm) {i : Fin 4} {v : Int32} {L' : Array Slot} (hd : decode code pc = .ok (.istore_n i, 1)) (hl : storeLocals L i.val (.int v) = some L') (w : W K l R n0 P h k n (pc + 1) L' (S)) : W K l R n0 P h k n pc L (.int v :: S) := by
  obtain ⟨p, e, s, m, args, below, meth, c⟩ := K
  obtain ⟨hx, hZ, hown, hby, -⟩ := ok
  intro T locs X eT N
  obtain ⟨s₂, o, st, r⟩ := w T locs X eT N
  exact ⟨s₂, o, XS.istoreN X.here hx rfl (hb hby hd) rfl hl st, r⟩
theorem w_istore (ok : Ok K Z n0 own code maxL ret nm) {i : Nat} {v : Int32} {L' : Array Slot} (hd : decode code pc = .ok (.istore i, 2)) (hl : storeLocals L i (.int v) = some L') (w : W K l R n0 P h k n (pc + 2) L' (S)) : W K l R n0 P h k n pc L (.int v :: S) := by
  obtain ⟨p, e, s, m, args, below, meth, c⟩ := K
  obtain ⟨hx, hZ, hown, hby, -⟩ := ok
  intro T locs X eT N
  obtain ⟨s₂, o, st, r⟩ := w T locs X eT N
  exact ⟨s₂, o, XS.istore X.here hx rfl (hb hby hd) rfl hl st, r⟩
theorem w_lloadN (ok : Ok K Z n0 own code maxL ret nm) {i : Fin 4} {v : Int64} (hd : decode code pc = .ok (.lload_n i, 1)) (hl : L[i.val]? = some (.val (.long v))) (w : W K l R n0 P h k n (pc + 1) L (.long v :: S)) : W K l R n0 P h k n pc L (S) := by
  obtain ⟨p, e, s, m, args, below, meth, c⟩ := K
  obtain ⟨hx, hZ, hown, hby, -⟩ := ok
  intro T locs X eT N
  obtain ⟨s₂, o, st, r⟩ := w T locs X eT N
  exact ⟨s₂, o, XS.lloadN X.here hx rfl (hb hby hd) hl st, r⟩
theorem w_lload (ok : Ok K Z n0 own code maxL ret nm) {i : Nat} {v : Int64} (hd : decode code pc = .ok (.lload i, 2)) (hl : L[i]? = some (.val (.long v))) (w : W K l R n0 P h k n (pc + 2) L (.long v :: S)) : W K l R n0 P h k n pc L (S) := by
  obtain ⟨p, e, s, m, args, below, meth, c⟩ := K
  obtain ⟨hx, hZ, hown, hby, -⟩ := ok
  intro T locs X eT N
  obtain ⟨s₂, o, st, r⟩ := w T locs X eT N
  exact ⟨s₂, o, XS.lload X.here hx rfl (hb hby hd) hl st, r⟩
theorem w_lstoreN (ok : Ok K Z n0 own code maxL ret nm) {i : Fin 4} {v : Int64} {L' : Array Slot} (hd : decode code pc = .ok (.lstore_n i, 1)) (hl : storeLocals L i.val (.long v) = some L') (w : W K l R n0 P h k n (pc + 1) L' (S)) : W K l R n0 P h k n pc L (.long v :: S) := by
  obtain ⟨p, e, s, m, args, below, meth, c⟩ := K
  obtain ⟨hx, hZ, hown, hby, -⟩ := ok
  intro T locs X eT N
  obtain ⟨s₂, o, st, r⟩ := w T locs X eT N
  exact ⟨s₂, o, XS.lstoreN X.here hx rfl (hb hby hd) rfl hl st, r⟩
theorem w_lstore (ok : Ok K Z n0 own code maxL ret nm) {i : Nat} {v : Int64} {L' : Array Slot} (hd : decode code pc = .ok (.lstore i, 2)) (hl : storeLocals L i (.long v) = some L') (w : W K l R n0 P h k n (pc + 2) L' (S)) : W K l R n0 P h k n pc L (.long v :: S) := by
  obtain ⟨p, e, s, m, args, below, meth, c⟩ := K
  obtain ⟨hx, hZ, hown, hby, -⟩ := ok
  intro T locs X eT N
  obtain ⟨s₂, o, st, r⟩ := w T locs X eT N
  exact ⟨s₂, o, XS.lstore X.here hx rfl (hb hby hd) rfl hl st, r⟩
theorem w_aloadN (ok : Ok K Z n0 own code maxL ret nm) {i : Fin 4} {v : Value} (hd : decode code pc = .ok (.aload_n i, 1)) (hl : L[i.val]? = some (.val v)) (hv : v.isRef = true) (w : W K l R n0 P h k n (pc + 1) L (v :: S)) : W K l R n0 P h k n pc L (S) := by
  obtain ⟨p, e, s, m, args, below, meth, c⟩ := K
  obtain ⟨hx, hZ, hown, hby, -⟩ := ok
  intro T locs X eT N
  obtain ⟨s₂, o, st, r⟩ := w T locs X eT N
  exact ⟨s₂, o, XS.aloadN X.here hx rfl (hb hby hd) hl hv st, r⟩
theorem w_aload (ok : Ok K Z n0 own code maxL ret nm) {i : Nat} {v : Value} (hd : decode code pc = .ok (.aload i, 2)) (hl : L[i]? = some (.val v)) (hv : v.isRef = true) (w : W K l R n0 P h k n (pc + 2) L (v :: S)) : W K l R n0 P h k n pc L (S) := by
  obtain ⟨p, e, s, m, args, below, meth, c⟩ := K
  obtain ⟨hx, hZ, hown, hby, -⟩ := ok
  intro T locs X eT N
  obtain ⟨s₂, o, st, r⟩ := w T locs X eT N
  exact ⟨s₂, o, XS.aload X.here hx rfl (hb hby hd) hl hv st, r⟩
theorem w_astoreN (ok : Ok K Z n0 own code maxL ret nm) {i : Fin 4} {v : Value} {L' : Array Slot} (hd : decode code pc = .ok (.astore_n i, 1)) (hv : v.isRef = true) (hl : storeLocals L i.val v = some L') (w : W K l R n0 P h k n (pc + 1) L' (S)) : W K l R n0 P h k n pc L (v :: S) := by
  obtain ⟨p, e, s, m, args, below, meth, c⟩ := K
  obtain ⟨hx, hZ, hown, hby, -⟩ := ok
  intro T locs X eT N
  obtain ⟨s₂, o, st, r⟩ := w T locs X eT N
  exact ⟨s₂, o, XS.astoreN X.here hx rfl (hb hby hd) rfl hv hl st, r⟩
theorem w_astore (ok : Ok K Z n0 own code maxL ret nm) {i : Nat} {v : Value} {L' : Array Slot} (hd : decode code pc = .ok (.astore i, 2)) (hv : v.isRef = true) (hl : storeLocals L i v = some L') (w : W K l R n0 P h k n (pc + 2) L' (S)) : W K l R n0 P h k n pc L (v :: S) := by
  obtain ⟨p, e, s, m, args, below, meth, c⟩ := K
  obtain ⟨hx, hZ, hown, hby, -⟩ := ok
  intro T locs X eT N
  obtain ⟨s₂, o, st, r⟩ := w T locs X eT N
  exact ⟨s₂, o, XS.astore X.here hx rfl (hb hby hd) rfl hv hl st, r⟩
theorem w_iconst (ok : Ok K Z n0 own code maxL ret nm) {i : Int} {v : Int32} (hd : decode code pc = .ok (.iconst i, 1)) (hv : Int32.ofInt i = v) (w : W K l R n0 P h k n (pc + 1) L (.int v :: S)) : W K l R n0 P h k n pc L (S) := by
  obtain ⟨p, e, s, m, args, below, meth, c⟩ := K
  obtain ⟨hx, hZ, hown, hby, -⟩ := ok
  intro T locs X eT N
  obtain ⟨s₂, o, st, r⟩ := w T locs X eT N
  exact ⟨s₂, o, XS.iconst X.here hx rfl (hb hby hd) (hv ▸ st), r⟩
theorem w_bipush (ok : Ok K Z n0 own code maxL ret nm) {i : Int} {v : Int32} (hd : decode code pc = .ok (.bipush i, 2)) (hv : (Int8.ofInt i).toInt32 = v) (w : W K l R n0 P h k n (pc + 2) L (.int v :: S)) : W K l R n0 P h k n pc L (S) := by
  obtain ⟨p, e, s, m, args, below, meth, c⟩ := K
  obtain ⟨hx, hZ, hown, hby, -⟩ := ok
  intro T locs X eT N
  obtain ⟨s₂, o, st, r⟩ := w T locs X eT N
  exact ⟨s₂, o, XS.bipush X.here hx rfl (hb hby hd) (hv ▸ st), r⟩
theorem w_sipush (ok : Ok K Z n0 own code maxL ret nm) {i : Int} {v : Int32} (hd : decode code pc = .ok (.sipush i, 3)) (hv : (Int16.ofInt i).toInt32 = v) (w : W K l R n0 P h k n (pc + 3) L (.int v :: S)) : W K l R n0 P h k n pc L (S) := by
  obtain ⟨p, e, s, m, args, below, meth, c⟩ := K
  obtain ⟨hx, hZ, hown, hby, -⟩ := ok
  intro T locs X eT N
  obtain ⟨s₂, o, st, r⟩ := w T locs X eT N
  exact ⟨s₂, o, XS.sipush X.here hx rfl (hb hby hd) (hv ▸ st), r⟩
theorem w_lconst (ok : Ok K Z n0 own code maxL ret nm) {i : Fin 2} {v : Int64} (hd : decode code pc = .ok (.lconst i, 1)) (hv : Int64.ofNat i = v) (w : W K l R n0 P h k n (pc + 1) L (.long v :: S)) : W K l R n0 P h k n pc L (S) := by
  obtain ⟨p, e, s, m, args, below, meth, c⟩ := K
  obtain ⟨hx, hZ, hown, hby, -⟩ := ok
  intro T locs X eT N
  obtain ⟨s₂, o, st, r⟩ := w T locs X eT N
  exact ⟨s₂, o, XS.lconst X.here hx rfl (hb hby hd) (hv ▸ st), r⟩
theorem w_aconstNull (ok : Ok K Z n0 own code maxL ret nm)  (hd : decode code pc = .ok (.aconst_null, 1)) (w : W K l R n0 P h k n (pc + 1) L (.null :: S)) : W K l R n0 P h k n pc L (S) := by
  obtain ⟨p, e, s, m, args, below, meth, c⟩ := K
  obtain ⟨hx, hZ, hown, hby, -⟩ := ok
  intro T locs X eT N
  obtain ⟨s₂, o, st, r⟩ := w T locs X eT N
  exact ⟨s₂, o, XS.aconstNull X.here hx rfl (hb hby hd)  st, r⟩
theorem w_dup (ok : Ok K Z n0 own code maxL ret nm) {v : Value} (hd : decode code pc = .ok (.dup, 1)) (hv : v.category = 1) (w : W K l R n0 P h k n (pc + 1) L (v :: v :: S)) : W K l R n0 P h k n pc L (v :: S) := by
  obtain ⟨p, e, s, m, args, below, meth, c⟩ := K
  obtain ⟨hx, hZ, hown, hby, -⟩ := ok
  intro T locs X eT N
  obtain ⟨s₂, o, st, r⟩ := w T locs X eT N
  exact ⟨s₂, o, XS.dup X.here hx rfl (hb hby hd) rfl hv st, r⟩
theorem w_dupX1 (ok : Ok K Z n0 own code maxL ret nm) {v u : Value} (hd : decode code pc = .ok (.dup_x1, 1)) (hv : v.category = 1) (hu : u.category = 1) (w : W K l R n0 P h k n (pc + 1) L (v :: u :: v :: S)) : W K l R n0 P h k n pc L (v :: u :: S) := by
  obtain ⟨p, e, s, m, args, below, meth, c⟩ := K
  obtain ⟨hx, hZ, hown, hby, -⟩ := ok
  intro T locs X eT N
  obtain ⟨s₂, o, st, r⟩ := w T locs X eT N
  exact ⟨s₂, o, XS.dupX1 X.here hx rfl (hb hby hd) rfl hv hu st, r⟩
theorem w_pop (ok : Ok K Z n0 own code maxL ret nm) {v : Value} (hd : decode code pc = .ok (.pop, 1)) (hv : v.category = 1) (w : W K l R n0 P h k n (pc + 1) L (S)) : W K l R n0 P h k n pc L (v :: S) := by
  obtain ⟨p, e, s, m, args, below, meth, c⟩ := K
  obtain ⟨hx, hZ, hown, hby, -⟩ := ok
  intro T locs X eT N
  obtain ⟨s₂, o, st, r⟩ := w T locs X eT N
  exact ⟨s₂, o, XS.pop X.here hx rfl (hb hby hd) rfl hv st, r⟩
theorem w_dup2 (ok : Ok K Z n0 own code maxL ret nm) {v u : Value} (hd : decode code pc = .ok (.dup2, 1)) (hv : v.category = 1) (hu : u.category = 1) (w : W K l R n0 P h k n (pc + 1) L (v :: u :: v :: u :: S)) : W K l R n0 P h k n pc L (v :: u :: S) := by
  obtain ⟨p, e, s, m, args, below, meth, c⟩ := K
  obtain ⟨hx, hZ, hown, hby, -⟩ := ok
  intro T locs X eT N
  obtain ⟨s₂, o, st, r⟩ := w T locs X eT N
  exact ⟨s₂, o, XT.dup2 X.here hx rfl (hb hby hd) rfl hv hu st, r⟩
theorem w_iinc (ok : Ok K Z n0 own code maxL ret nm) {i : Nat} {c : Int} {v u : Int32} {L' : Array Slot} (hd : decode code pc = .ok (.iinc i c, 3)) (hu : Int32.ofInt c = u) (hl : L[i]? = some (.val (.int v))) (hl' : storeLocals L i (.int (v + u)) = some L') (w : W K l R n0 P h k n (pc + 3) L' (S)) : W K l R n0 P h k n pc L (S) := by
  obtain ⟨p, e, s, m, args, below, meth, c⟩ := K
  obtain ⟨hx, hZ, hown, hby, -⟩ := ok
  intro T locs X eT N
  obtain ⟨s₂, o, st, r⟩ := w T locs X eT N
  exact ⟨s₂, o, XS.iinc X.here hx rfl (hb hby hd) hl (by rw [hu]; exact hl') st, r⟩
theorem w_iadd (ok : Ok K Z n0 own code maxL ret nm) {x y : Int32} (hd : decode code pc = .ok (.iadd, 1)) (w : W K l R n0 P h k n (pc + 1) L (.int (x + y) :: S)) : W K l R n0 P h k n pc L (.int y :: .int x :: S) := by
  obtain ⟨p, e, s, m, args, below, meth, c⟩ := K
  obtain ⟨hx, hZ, hown, hby, -⟩ := ok
  intro T locs X eT N
  obtain ⟨s₂, o, st, r⟩ := w T locs X eT N
  exact ⟨s₂, o, XS.iadd X.here hx rfl (hb hby hd) rfl st, r⟩
theorem w_isub (ok : Ok K Z n0 own code maxL ret nm) {x y : Int32} (hd : decode code pc = .ok (.isub, 1)) (w : W K l R n0 P h k n (pc + 1) L (.int (x - y) :: S)) : W K l R n0 P h k n pc L (.int y :: .int x :: S) := by
  obtain ⟨p, e, s, m, args, below, meth, c⟩ := K
  obtain ⟨hx, hZ, hown, hby, -⟩ := ok
  intro T locs X eT N
  obtain ⟨s₂, o, st, r⟩ := w T locs X eT N
  exact ⟨s₂, o, XS.isub X.here hx rfl (hb hby hd) rfl st, r⟩
theorem w_imul (ok : Ok K Z n0 own code maxL ret nm) {x y : Int32} (hd : decode code pc = .ok (.imul, 1)) (w : W K l R n0 P h k n (pc + 1) L (.int (x * y) :: S)) : W K l R n0 P h k n pc L (.int y :: .int x :: S) := by
  obtain ⟨p, e, s, m, args, below, meth, c⟩ := K
  obtain ⟨hx, hZ, hown, hby, -⟩ := ok
  intro T locs X eT N
  obtain ⟨s₂, o, st, r⟩ := w T locs X eT N
  exact ⟨s₂, o, XS.imul X.here hx rfl (hb hby hd) rfl st, r⟩
theorem w_iand (ok : Ok K Z n0 own code maxL ret nm) {x y : Int32} (hd : decode code pc = .ok (.iand, 1)) (w : W K l R n0 P h k n (pc + 1) L (.int (x &&& y) :: S)) : W K l R n0 P h k n pc L (.int y :: .int x :: S) := by
  obtain ⟨p, e, s, m, args, below, meth, c⟩ := K
  obtain ⟨hx, hZ, hown, hby, -⟩ := ok
  intro T locs X eT N
  obtain ⟨s₂, o, st, r⟩ := w T locs X eT N
  exact ⟨s₂, o, XS.iand X.here hx rfl (hb hby hd) rfl st, r⟩
theorem w_ior (ok : Ok K Z n0 own code maxL ret nm) {x y : Int32} (hd : decode code pc = .ok (.ior, 1)) (w : W K l R n0 P h k n (pc + 1) L (.int (x ||| y) :: S)) : W K l R n0 P h k n pc L (.int y :: .int x :: S) := by
  obtain ⟨p, e, s, m, args, below, meth, c⟩ := K
  obtain ⟨hx, hZ, hown, hby, -⟩ := ok
  intro T locs X eT N
  obtain ⟨s₂, o, st, r⟩ := w T locs X eT N
  exact ⟨s₂, o, XS.ior X.here hx rfl (hb hby hd) rfl st, r⟩
theorem w_ixor (ok : Ok K Z n0 own code maxL ret nm) {x y : Int32} (hd : decode code pc = .ok (.ixor, 1)) (w : W K l R n0 P h k n (pc + 1) L (.int (x ^^^ y) :: S)) : W K l R n0 P h k n pc L (.int y :: .int x :: S) := by
  obtain ⟨p, e, s, m, args, below, meth, c⟩ := K
  obtain ⟨hx, hZ, hown, hby, -⟩ := ok
  intro T locs X eT N
  obtain ⟨s₂, o, st, r⟩ := w T locs X eT N
  exact ⟨s₂, o, XS.ixor X.here hx rfl (hb hby hd) rfl st, r⟩
theorem w_ishl (ok : Ok K Z n0 own code maxL ret nm) {x y : Int32} (hd : decode code pc = .ok (.ishl, 1)) (w : W K l R n0 P h k n (pc + 1) L (.int (x <<< (y &&& 31)) :: S)) : W K l R n0 P h k n pc L (.int y :: .int x :: S) := by
  obtain ⟨p, e, s, m, args, below, meth, c⟩ := K
  obtain ⟨hx, hZ, hown, hby, -⟩ := ok
  intro T locs X eT N
  obtain ⟨s₂, o, st, r⟩ := w T locs X eT N
  exact ⟨s₂, o, XS.ishl X.here hx rfl (hb hby hd) rfl st, r⟩
theorem w_ishr (ok : Ok K Z n0 own code maxL ret nm) {x y : Int32} (hd : decode code pc = .ok (.ishr, 1)) (w : W K l R n0 P h k n (pc + 1) L (.int (x >>> (y &&& 31)) :: S)) : W K l R n0 P h k n pc L (.int y :: .int x :: S) := by
  obtain ⟨p, e, s, m, args, below, meth, c⟩ := K
  obtain ⟨hx, hZ, hown, hby, -⟩ := ok
  intro T locs X eT N
  obtain ⟨s₂, o, st, r⟩ := w T locs X eT N
  exact ⟨s₂, o, XS.ishr X.here hx rfl (hb hby hd) rfl st, r⟩
theorem w_iushr (ok : Ok K Z n0 own code maxL ret nm) {x y : Int32} (hd : decode code pc = .ok (.iushr, 1)) (w : W K l R n0 P h k n (pc + 1) L (.int (XT.ushr x y) :: S)) : W K l R n0 P h k n pc L (.int y :: .int x :: S) := by
  obtain ⟨p, e, s, m, args, below, meth, c⟩ := K
  obtain ⟨hx, hZ, hown, hby, -⟩ := ok
  intro T locs X eT N
  obtain ⟨s₂, o, st, r⟩ := w T locs X eT N
  exact ⟨s₂, o, XS.iushr X.here hx rfl (hb hby hd) rfl st, r⟩
theorem w_ladd (ok : Ok K Z n0 own code maxL ret nm) {x y : Int64} (hd : decode code pc = .ok (.ladd, 1)) (w : W K l R n0 P h k n (pc + 1) L (.long (x + y) :: S)) : W K l R n0 P h k n pc L (.long y :: .long x :: S) := by
  obtain ⟨p, e, s, m, args, below, meth, c⟩ := K
  obtain ⟨hx, hZ, hown, hby, -⟩ := ok
  intro T locs X eT N
  obtain ⟨s₂, o, st, r⟩ := w T locs X eT N
  exact ⟨s₂, o, XS.ladd X.here hx rfl (hb hby hd) rfl st, r⟩
theorem w_lsub (ok : Ok K Z n0 own code maxL ret nm) {x y : Int64} (hd : decode code pc = .ok (.lsub, 1)) (w : W K l R n0 P h k n (pc + 1) L (.long (x - y) :: S)) : W K l R n0 P h k n pc L (.long y :: .long x :: S) := by
  obtain ⟨p, e, s, m, args, below, meth, c⟩ := K
  obtain ⟨hx, hZ, hown, hby, -⟩ := ok
  intro T locs X eT N
  obtain ⟨s₂, o, st, r⟩ := w T locs X eT N
  exact ⟨s₂, o, XS.lsub X.here hx rfl (hb hby hd) rfl st, r⟩
theorem w_lmul (ok : Ok K Z n0 own code maxL ret nm) {x y : Int64} (hd : decode code pc = .ok (.lmul, 1)) (w : W K l R n0 P h k n (pc + 1) L (.long (x * y) :: S)) : W K l R n0 P h k n pc L (.long y :: .long x :: S) := by
  obtain ⟨p, e, s, m, args, below, meth, c⟩ := K
  obtain ⟨hx, hZ, hown, hby, -⟩ := ok
  intro T locs X eT N
  obtain ⟨s₂, o, st, r⟩ := w T locs X eT N
  exact ⟨s₂, o, XS.lmul X.here hx rfl (hb hby hd) rfl st, r⟩
theorem w_land (ok : Ok K Z n0 own code maxL ret nm) {x y : Int64} (hd : decode code pc = .ok (.land, 1)) (w : W K l R n0 P h k n (pc + 1) L (.long (x &&& y) :: S)) : W K l R n0 P h k n pc L (.long y :: .long x :: S) := by
  obtain ⟨p, e, s, m, args, below, meth, c⟩ := K
  obtain ⟨hx, hZ, hown, hby, -⟩ := ok
  intro T locs X eT N
  obtain ⟨s₂, o, st, r⟩ := w T locs X eT N
  exact ⟨s₂, o, XS.land X.here hx rfl (hb hby hd) rfl st, r⟩
theorem w_lor (ok : Ok K Z n0 own code maxL ret nm) {x y : Int64} (hd : decode code pc = .ok (.lor, 1)) (w : W K l R n0 P h k n (pc + 1) L (.long (x ||| y) :: S)) : W K l R n0 P h k n pc L (.long y :: .long x :: S) := by
  obtain ⟨p, e, s, m, args, below, meth, c⟩ := K
  obtain ⟨hx, hZ, hown, hby, -⟩ := ok
  intro T locs X eT N
  obtain ⟨s₂, o, st, r⟩ := w T locs X eT N
  exact ⟨s₂, o, XS.lor X.here hx rfl (hb hby hd) rfl st, r⟩
theorem w_lxor (ok : Ok K Z n0 own code maxL ret nm) {x y : Int64} (hd : decode code pc = .ok (.lxor, 1)) (w : W K l R n0 P h k n (pc + 1) L (.long (x ^^^ y) :: S)) : W K l R n0 P h k n pc L (.long y :: .long x :: S) := by
  obtain ⟨p, e, s, m, args, below, meth, c⟩ := K
  obtain ⟨hx, hZ, hown, hby, -⟩ := ok
  intro T locs X eT N
  obtain ⟨s₂, o, st, r⟩ := w T locs X eT N
  exact ⟨s₂, o, XS.lxor X.here hx rfl (hb hby hd) rfl st, r⟩
theorem w_lshl (ok : Ok K Z n0 own code maxL ret nm) {x : Int64} {y : Int32} (hd : decode code pc = .ok (.lshl, 1)) (w : W K l R n0 P h k n (pc + 1) L (.long (x <<< (y &&& 0x3f).toInt64) :: S)) : W K l R n0 P h k n pc L (.int y :: .long x :: S) := by
  obtain ⟨p, e, s, m, args, below, meth, c⟩ := K
  obtain ⟨hx, hZ, hown, hby, -⟩ := ok
  intro T locs X eT N
  obtain ⟨s₂, o, st, r⟩ := w T locs X eT N
  exact ⟨s₂, o, XS.lshl X.here hx rfl (hb hby hd) rfl st, r⟩
theorem w_lshr (ok : Ok K Z n0 own code maxL ret nm) {x : Int64} {y : Int32} (hd : decode code pc = .ok (.lshr, 1)) (w : W K l R n0 P h k n (pc + 1) L (.long (x >>> (y &&& 0x3f).toInt64) :: S)) : W K l R n0 P h k n pc L (.int y :: .long x :: S) := by
  obtain ⟨p, e, s, m, args, below, meth, c⟩ := K
  obtain ⟨hx, hZ, hown, hby, -⟩ := ok
  intro T locs X eT N
  obtain ⟨s₂, o, st, r⟩ := w T locs X eT N
  exact ⟨s₂, o, XS.lshr X.here hx rfl (hb hby hd) rfl st, r⟩
theorem w_lushr (ok : Ok K Z n0 own code maxL ret nm) {x : Int64} {y : Int32} (hd : decode code pc = .ok (.lushr, 1)) (w : W K l R n0 P h k n (pc + 1) L (.long ((x.toUInt64 >>> (y &&& 0x3f).toInt64.toUInt64).toInt64) :: S)) : W K l R n0 P h k n pc L (.int y :: .long x :: S) := by
  obtain ⟨p, e, s, m, args, below, meth, c⟩ := K
  obtain ⟨hx, hZ, hown, hby, -⟩ := ok
  intro T locs X eT N
  obtain ⟨s₂, o, st, r⟩ := w T locs X eT N
  exact ⟨s₂, o, XS.lushr X.here hx rfl (hb hby hd) rfl st, r⟩
theorem w_i2l (ok : Ok K Z n0 own code maxL ret nm) {x : Int32} (hd : decode code pc = .ok (.i2l, 1)) (w : W K l R n0 P h k n (pc + 1) L (.long (x.toInt64) :: S)) : W K l R n0 P h k n pc L (.int x :: S) := by
  obtain ⟨p, e, s, m, args, below, meth, c⟩ := K
  obtain ⟨hx, hZ, hown, hby, -⟩ := ok
  intro T locs X eT N
  obtain ⟨s₂, o, st, r⟩ := w T locs X eT N
  exact ⟨s₂, o, XS.i2l X.here hx rfl (hb hby hd) rfl st, r⟩
theorem w_l2i (ok : Ok K Z n0 own code maxL ret nm) {x : Int64} (hd : decode code pc = .ok (.l2i, 1)) (w : W K l R n0 P h k n (pc + 1) L (.int (x.toInt32) :: S)) : W K l R n0 P h k n pc L (.long x :: S) := by
  obtain ⟨p, e, s, m, args, below, meth, c⟩ := K
  obtain ⟨hx, hZ, hown, hby, -⟩ := ok
  intro T locs X eT N
  obtain ⟨s₂, o, st, r⟩ := w T locs X eT N
  exact ⟨s₂, o, XS.l2i X.here hx rfl (hb hby hd) rfl st, r⟩
theorem w_i2b (ok : Ok K Z n0 own code maxL ret nm) {x : Int32} (hd : decode code pc = .ok (.i2b, 1)) (w : W K l R n0 P h k n (pc + 1) L (.int (x.toInt8.toInt32) :: S)) : W K l R n0 P h k n pc L (.int x :: S) := by
  obtain ⟨p, e, s, m, args, below, meth, c⟩ := K
  obtain ⟨hx, hZ, hown, hby, -⟩ := ok
  intro T locs X eT N
  obtain ⟨s₂, o, st, r⟩ := w T locs X eT N
  exact ⟨s₂, o, XS.i2b X.here hx rfl (hb hby hd) rfl st, r⟩
theorem w_i2c (ok : Ok K Z n0 own code maxL ret nm) {x : Int32} (hd : decode code pc = .ok (.i2c, 1)) (w : W K l R n0 P h k n (pc + 1) L (.int (x.toUInt32.toUInt16.toUInt32.toInt32) :: S)) : W K l R n0 P h k n pc L (.int x :: S) := by
  obtain ⟨p, e, s, m, args, below, meth, c⟩ := K
  obtain ⟨hx, hZ, hown, hby, -⟩ := ok
  intro T locs X eT N
  obtain ⟨s₂, o, st, r⟩ := w T locs X eT N
  exact ⟨s₂, o, XS.i2c X.here hx rfl (hb hby hd) rfl st, r⟩
theorem w_ineg (ok : Ok K Z n0 own code maxL ret nm) {x : Int32} (hd : decode code pc = .ok (.ineg, 1)) (w : W K l R n0 P h k n (pc + 1) L (.int (-x) :: S)) : W K l R n0 P h k n pc L (.int x :: S) := by
  obtain ⟨p, e, s, m, args, below, meth, c⟩ := K
  obtain ⟨hx, hZ, hown, hby, -⟩ := ok
  intro T locs X eT N
  obtain ⟨s₂, o, st, r⟩ := w T locs X eT N
  exact ⟨s₂, o, XS.ineg X.here hx rfl (hb hby hd) rfl st, r⟩
theorem w_idiv (ok : Ok K Z n0 own code maxL ret nm) {x y : Int32} (hd : decode code pc = .ok (.idiv, 1)) (hy : y ≠ 0) (w : W K l R n0 P h k n (pc + 1) L (.int (x / y) :: S)) : W K l R n0 P h k n pc L (.int y :: .int x :: S) := by
  obtain ⟨p, e, s, m, args, below, meth, c⟩ := K
  obtain ⟨hx, hZ, hown, hby, -⟩ := ok
  intro T locs X eT N
  obtain ⟨s₂, o, st, r⟩ := w T locs X eT N
  exact ⟨s₂, o, XS.idiv X.here hx rfl (hb hby hd) rfl hy st, r⟩
theorem w_irem (ok : Ok K Z n0 own code maxL ret nm) {x y : Int32} (hd : decode code pc = .ok (.irem, 1)) (hy : y ≠ 0) (w : W K l R n0 P h k n (pc + 1) L (.int (x % y) :: S)) : W K l R n0 P h k n pc L (.int y :: .int x :: S) := by
  obtain ⟨p, e, s, m, args, below, meth, c⟩ := K
  obtain ⟨hx, hZ, hown, hby, -⟩ := ok
  intro T locs X eT N
  obtain ⟨s₂, o, st, r⟩ := w T locs X eT N
  exact ⟨s₂, o, iremM X hx rfl (hb hby hd) rfl hy st, r⟩
theorem w_ldiv (ok : Ok K Z n0 own code maxL ret nm) {x y : Int64} (hd : decode code pc = .ok (.ldiv, 1)) (hy : y ≠ 0) (w : W K l R n0 P h k n (pc + 1) L (.long (x / y) :: S)) : W K l R n0 P h k n pc L (.long y :: .long x :: S) := by
  obtain ⟨p, e, s, m, args, below, meth, c⟩ := K
  obtain ⟨hx, hZ, hown, hby, -⟩ := ok
  intro T locs X eT N
  obtain ⟨s₂, o, st, r⟩ := w T locs X eT N
  exact ⟨s₂, o, XS.ldiv X.here hx rfl (hb hby hd) rfl hy st, r⟩
theorem w_lrem (ok : Ok K Z n0 own code maxL ret nm) {x y : Int64} (hd : decode code pc = .ok (.lrem, 1)) (hy : y ≠ 0) (w : W K l R n0 P h k n (pc + 1) L (.long (x % y) :: S)) : W K l R n0 P h k n pc L (.long y :: .long x :: S) := by
  obtain ⟨p, e, s, m, args, below, meth, c⟩ := K
  obtain ⟨hx, hZ, hown, hby, -⟩ := ok
  intro T locs X eT N
  obtain ⟨s₂, o, st, r⟩ := w T locs X eT N
  exact ⟨s₂, o, XS.lrem X.here hx rfl (hb hby hd) rfl hy (by rw [lrem_mod]; exact st), r⟩
theorem w_goto (ok : Ok K Z n0 own code maxL ret nm) {o : Int} {pc' : Nat} (hd : decode code pc = .ok (.goto o, 3)) (hp : (pc : Int) + o = (pc' : Int)) (w : W K l R n0 P h k n (pc') L (S)) : W K l R n0 P h k n pc L (S) := by
  obtain ⟨p, e, s, m, args, below, meth, c⟩ := K
  obtain ⟨hx, hZ, hown, hby, -⟩ := ok
  intro T locs X eT N
  obtain ⟨s₂, o, st, r⟩ := w T locs X eT N
  exact ⟨s₂, o, XS.goto X.here hx rfl (pc0 := pc) (pc' := pc') rfl (hb hby hd) (by rw [hp]; exact Int.natCast_nonneg _) (by rw [hp]; rfl) st, r⟩
theorem w_ldcI (ok : Ok K Z n0 own code maxL ret nm) {i : Nat} {v : Int32} (hd : decode code pc = .ok (.ldc i, 2)) (w1 : (Cond.constant own i v).before a0 Z = true) (w : W K l R n0 P h k n (pc + 2) L (.int v :: S)) : W K l R n0 P h k n pc L (S) := by
  obtain ⟨p, e, s, m, args, below, meth, c⟩ := K
  obtain ⟨hx, hZ, hown, hby, -⟩ := ok
  intro T locs X eT N
  obtain ⟨s₂, o, st, r⟩ := w T locs X eT N
  exact ⟨s₂, o, X.ldcInt hx hown (mvT hZ w1) (g := mkF m pc L S) rfl (hb hby hd) _ st, r⟩
theorem w_ldc2J (ok : Ok K Z n0 own code maxL ret nm) {i : Nat} {v : Int64} (hd : decode code pc = .ok (.ldc2_w i, 3)) (w1 : (Cond.constantLong own i v).before a0 Z = true) (w : W K l R n0 P h k n (pc + 3) L (.long v :: S)) : W K l R n0 P h k n pc L (S) := by
  obtain ⟨p, e, s, m, args, below, meth, c⟩ := K
  obtain ⟨hx, hZ, hown, hby, -⟩ := ok
  intro T locs X eT N
  obtain ⟨s₂, o, st, r⟩ := w T locs X eT N
  exact ⟨s₂, o, X.ldc2Long hx hown (mvT hZ w1) (g := mkF m pc L S) rfl (hb hby hd) _ st, r⟩
theorem w_icmp_eq (ok : Ok K Z n0 own code maxL ret nm) {x y : Int32} {o : Int} {pc' : Nat} (hd : decode code pc = .ok (.if_icmp .eq o, 3)) (hp : (pc : Int) + o = (pc' : Int)) (wy : x = y → W K l R n0 P h k n pc' L S) (wn : ¬ x = y → W K l R n0 P h k n (pc + 3) L S) : W K l R n0 P h k n pc L (.int y :: .int x :: S) := by
  obtain ⟨p, e, s, m, args, below, meth, c⟩ := K
  obtain ⟨hx, hZ, hown, hby, -⟩ := ok
  intro T locs X eT N
  by_cases hc : x = y
  · obtain ⟨s₂, o, st, r⟩ := wy hc T locs X eT N
    exact ⟨s₂, o, XS.icmpYes X.here hx rfl (pc0 := pc) (pc' := pc') rfl (hb hby hd) rfl (teq hc).1 (by rw [hp]; exact Int.natCast_nonneg _) (by rw [hp]; rfl) st, r⟩
  · obtain ⟨s₂, o, st, r⟩ := wn hc T locs X eT N
    exact ⟨s₂, o, XS.icmpNo X.here hx rfl (hb hby hd) rfl (feq hc).1 st, r⟩
theorem w_if_eq (ok : Ok K Z n0 own code maxL ret nm) {x : Int32} {o : Int} {pc' : Nat} (hd : decode code pc = .ok (.ifCond .eq o, 3)) (hp : (pc : Int) + o = (pc' : Int)) (wy : x = 0 → W K l R n0 P h k n pc' L S) (wn : ¬ x = 0 → W K l R n0 P h k n (pc + 3) L S) : W K l R n0 P h k n pc L (.int x :: S) := by
  obtain ⟨p, e, s, m, args, below, meth, c⟩ := K
  obtain ⟨hx, hZ, hown, hby, -⟩ := ok
  intro T locs X eT N
  by_cases hc : x = 0
  · obtain ⟨s₂, o, st, r⟩ := wy hc T locs X eT N
    exact ⟨s₂, o, XS.ifYes X.here hx rfl (pc0 := pc) (pc' := pc') rfl (hb hby hd) rfl ((if0 _ _).trans (teq hc).1) (by rw [hp]; exact Int.natCast_nonneg _) (by rw [hp]; rfl) st, r⟩
  · obtain ⟨s₂, o, st, r⟩ := wn hc T locs X eT N
    exact ⟨s₂, o, XS.ifNo X.here hx rfl (hb hby hd) rfl ((if0 _ _).trans (feq hc).1) st, r⟩
theorem w_icmp_ne (ok : Ok K Z n0 own code maxL ret nm) {x y : Int32} {o : Int} {pc' : Nat} (hd : decode code pc = .ok (.if_icmp .ne o, 3)) (hp : (pc : Int) + o = (pc' : Int)) (wy : ¬ x = y → W K l R n0 P h k n pc' L S) (wn : x = y → W K l R n0 P h k n (pc + 3) L S) : W K l R n0 P h k n pc L (.int y :: .int x :: S) := by
  obtain ⟨p, e, s, m, args, below, meth, c⟩ := K
  obtain ⟨hx, hZ, hown, hby, -⟩ := ok
  intro T locs X eT N
  by_cases hc : x = y
  · obtain ⟨s₂, o, st, r⟩ := wn hc T locs X eT N
    exact ⟨s₂, o, XS.icmpNo X.here hx rfl (hb hby hd) rfl (teq hc).2 st, r⟩
  · obtain ⟨s₂, o, st, r⟩ := wy hc T locs X eT N
    exact ⟨s₂, o, XS.icmpYes X.here hx rfl (pc0 := pc) (pc' := pc') rfl (hb hby hd) rfl (feq hc).2 (by rw [hp]; exact Int.natCast_nonneg _) (by rw [hp]; rfl) st, r⟩
theorem w_if_ne (ok : Ok K Z n0 own code maxL ret nm) {x : Int32} {o : Int} {pc' : Nat} (hd : decode code pc = .ok (.ifCond .ne o, 3)) (hp : (pc : Int) + o = (pc' : Int)) (wy : ¬ x = 0 → W K l R n0 P h k n pc' L S) (wn : x = 0 → W K l R n0 P h k n (pc + 3) L S) : W K l R n0 P h k n pc L (.int x :: S) := by
  obtain ⟨p, e, s, m, args, below, meth, c⟩ := K
  obtain ⟨hx, hZ, hown, hby, -⟩ := ok
  intro T locs X eT N
  by_cases hc : x = 0
  · obtain ⟨s₂, o, st, r⟩ := wn hc T locs X eT N
    exact ⟨s₂, o, XS.ifNo X.here hx rfl (hb hby hd) rfl ((if0 _ _).trans (teq hc).2) st, r⟩
  · obtain ⟨s₂, o, st, r⟩ := wy hc T locs X eT N
    exact ⟨s₂, o, XS.ifYes X.here hx rfl (pc0 := pc) (pc' := pc') rfl (hb hby hd) rfl ((if0 _ _).trans (feq hc).2) (by rw [hp]; exact Int.natCast_nonneg _) (by rw [hp]; rfl) st, r⟩
theorem w_icmp_lt (ok : Ok K Z n0 own code maxL ret nm) {x y : Int32} {o : Int} {pc' : Nat} (hd : decode code pc = .ok (.if_icmp .lt o, 3)) (hp : (pc : Int) + o = (pc' : Int)) (wy : x < y → W K l R n0 P h k n pc' L S) (wn : ¬ x < y → W K l R n0 P h k n (pc + 3) L S) : W K l R n0 P h k n pc L (.int y :: .int x :: S) := by
  obtain ⟨p, e, s, m, args, below, meth, c⟩ := K
  obtain ⟨hx, hZ, hown, hby, -⟩ := ok
  intro T locs X eT N
  by_cases hc : x < y
  · obtain ⟨s₂, o, st, r⟩ := wy hc T locs X eT N
    exact ⟨s₂, o, XS.icmpYes X.here hx rfl (pc0 := pc) (pc' := pc') rfl (hb hby hd) rfl (tlt hc).1 (by rw [hp]; exact Int.natCast_nonneg _) (by rw [hp]; rfl) st, r⟩
  · obtain ⟨s₂, o, st, r⟩ := wn hc T locs X eT N
    exact ⟨s₂, o, XS.icmpNo X.here hx rfl (hb hby hd) rfl (flt hc).1 st, r⟩
theorem w_if_lt (ok : Ok K Z n0 own code maxL ret nm) {x : Int32} {o : Int} {pc' : Nat} (hd : decode code pc = .ok (.ifCond .lt o, 3)) (hp : (pc : Int) + o = (pc' : Int)) (wy : x < 0 → W K l R n0 P h k n pc' L S) (wn : ¬ x < 0 → W K l R n0 P h k n (pc + 3) L S) : W K l R n0 P h k n pc L (.int x :: S) := by
  obtain ⟨p, e, s, m, args, below, meth, c⟩ := K
  obtain ⟨hx, hZ, hown, hby, -⟩ := ok
  intro T locs X eT N
  by_cases hc : x < 0
  · obtain ⟨s₂, o, st, r⟩ := wy hc T locs X eT N
    exact ⟨s₂, o, XS.ifYes X.here hx rfl (pc0 := pc) (pc' := pc') rfl (hb hby hd) rfl ((if0 _ _).trans (tlt hc).1) (by rw [hp]; exact Int.natCast_nonneg _) (by rw [hp]; rfl) st, r⟩
  · obtain ⟨s₂, o, st, r⟩ := wn hc T locs X eT N
    exact ⟨s₂, o, XS.ifNo X.here hx rfl (hb hby hd) rfl ((if0 _ _).trans (flt hc).1) st, r⟩
theorem w_icmp_ge (ok : Ok K Z n0 own code maxL ret nm) {x y : Int32} {o : Int} {pc' : Nat} (hd : decode code pc = .ok (.if_icmp .ge o, 3)) (hp : (pc : Int) + o = (pc' : Int)) (wy : ¬ x < y → W K l R n0 P h k n pc' L S) (wn : x < y → W K l R n0 P h k n (pc + 3) L S) : W K l R n0 P h k n pc L (.int y :: .int x :: S) := by
  obtain ⟨p, e, s, m, args, below, meth, c⟩ := K
  obtain ⟨hx, hZ, hown, hby, -⟩ := ok
  intro T locs X eT N
  by_cases hc : x < y
  · obtain ⟨s₂, o, st, r⟩ := wn hc T locs X eT N
    exact ⟨s₂, o, XS.icmpNo X.here hx rfl (hb hby hd) rfl (tlt hc).2.1 st, r⟩
  · obtain ⟨s₂, o, st, r⟩ := wy hc T locs X eT N
    exact ⟨s₂, o, XS.icmpYes X.here hx rfl (pc0 := pc) (pc' := pc') rfl (hb hby hd) rfl (flt hc).2.1 (by rw [hp]; exact Int.natCast_nonneg _) (by rw [hp]; rfl) st, r⟩
theorem w_if_ge (ok : Ok K Z n0 own code maxL ret nm) {x : Int32} {o : Int} {pc' : Nat} (hd : decode code pc = .ok (.ifCond .ge o, 3)) (hp : (pc : Int) + o = (pc' : Int)) (wy : ¬ x < 0 → W K l R n0 P h k n pc' L S) (wn : x < 0 → W K l R n0 P h k n (pc + 3) L S) : W K l R n0 P h k n pc L (.int x :: S) := by
  obtain ⟨p, e, s, m, args, below, meth, c⟩ := K
  obtain ⟨hx, hZ, hown, hby, -⟩ := ok
  intro T locs X eT N
  by_cases hc : x < 0
  · obtain ⟨s₂, o, st, r⟩ := wn hc T locs X eT N
    exact ⟨s₂, o, XS.ifNo X.here hx rfl (hb hby hd) rfl ((if0 _ _).trans (tlt hc).2.1) st, r⟩
  · obtain ⟨s₂, o, st, r⟩ := wy hc T locs X eT N
    exact ⟨s₂, o, XS.ifYes X.here hx rfl (pc0 := pc) (pc' := pc') rfl (hb hby hd) rfl ((if0 _ _).trans (flt hc).2.1) (by rw [hp]; exact Int.natCast_nonneg _) (by rw [hp]; rfl) st, r⟩
theorem w_icmp_gt (ok : Ok K Z n0 own code maxL ret nm) {x y : Int32} {o : Int} {pc' : Nat} (hd : decode code pc = .ok (.if_icmp .gt o, 3)) (hp : (pc : Int) + o = (pc' : Int)) (wy : y < x → W K l R n0 P h k n pc' L S) (wn : ¬ y < x → W K l R n0 P h k n (pc + 3) L S) : W K l R n0 P h k n pc L (.int y :: .int x :: S) := by
  obtain ⟨p, e, s, m, args, below, meth, c⟩ := K
  obtain ⟨hx, hZ, hown, hby, -⟩ := ok
  intro T locs X eT N
  by_cases hc : y < x
  · obtain ⟨s₂, o, st, r⟩ := wy hc T locs X eT N
    exact ⟨s₂, o, XS.icmpYes X.here hx rfl (pc0 := pc) (pc' := pc') rfl (hb hby hd) rfl (tlt hc).2.2.1 (by rw [hp]; exact Int.natCast_nonneg _) (by rw [hp]; rfl) st, r⟩
  · obtain ⟨s₂, o, st, r⟩ := wn hc T locs X eT N
    exact ⟨s₂, o, XS.icmpNo X.here hx rfl (hb hby hd) rfl (flt hc).2.2.1 st, r⟩
theorem w_if_gt (ok : Ok K Z n0 own code maxL ret nm) {x : Int32} {o : Int} {pc' : Nat} (hd : decode code pc = .ok (.ifCond .gt o, 3)) (hp : (pc : Int) + o = (pc' : Int)) (wy : 0 < x → W K l R n0 P h k n pc' L S) (wn : ¬ 0 < x → W K l R n0 P h k n (pc + 3) L S) : W K l R n0 P h k n pc L (.int x :: S) := by
  obtain ⟨p, e, s, m, args, below, meth, c⟩ := K
  obtain ⟨hx, hZ, hown, hby, -⟩ := ok
  intro T locs X eT N
  by_cases hc : 0 < x
  · obtain ⟨s₂, o, st, r⟩ := wy hc T locs X eT N
    exact ⟨s₂, o, XS.ifYes X.here hx rfl (pc0 := pc) (pc' := pc') rfl (hb hby hd) rfl ((if0 _ _).trans (tlt hc).2.2.1) (by rw [hp]; exact Int.natCast_nonneg _) (by rw [hp]; rfl) st, r⟩
  · obtain ⟨s₂, o, st, r⟩ := wn hc T locs X eT N
    exact ⟨s₂, o, XS.ifNo X.here hx rfl (hb hby hd) rfl ((if0 _ _).trans (flt hc).2.2.1) st, r⟩
theorem w_icmp_le (ok : Ok K Z n0 own code maxL ret nm) {x y : Int32} {o : Int} {pc' : Nat} (hd : decode code pc = .ok (.if_icmp .le o, 3)) (hp : (pc : Int) + o = (pc' : Int)) (wy : ¬ y < x → W K l R n0 P h k n pc' L S) (wn : y < x → W K l R n0 P h k n (pc + 3) L S) : W K l R n0 P h k n pc L (.int y :: .int x :: S) := by
  obtain ⟨p, e, s, m, args, below, meth, c⟩ := K
  obtain ⟨hx, hZ, hown, hby, -⟩ := ok
  intro T locs X eT N
  by_cases hc : y < x
  · obtain ⟨s₂, o, st, r⟩ := wn hc T locs X eT N
    exact ⟨s₂, o, XS.icmpNo X.here hx rfl (hb hby hd) rfl (tlt hc).2.2.2 st, r⟩
  · obtain ⟨s₂, o, st, r⟩ := wy hc T locs X eT N
    exact ⟨s₂, o, XS.icmpYes X.here hx rfl (pc0 := pc) (pc' := pc') rfl (hb hby hd) rfl (flt hc).2.2.2 (by rw [hp]; exact Int.natCast_nonneg _) (by rw [hp]; rfl) st, r⟩
theorem w_if_le (ok : Ok K Z n0 own code maxL ret nm) {x : Int32} {o : Int} {pc' : Nat} (hd : decode code pc = .ok (.ifCond .le o, 3)) (hp : (pc : Int) + o = (pc' : Int)) (wy : ¬ 0 < x → W K l R n0 P h k n pc' L S) (wn : 0 < x → W K l R n0 P h k n (pc + 3) L S) : W K l R n0 P h k n pc L (.int x :: S) := by
  obtain ⟨p, e, s, m, args, below, meth, c⟩ := K
  obtain ⟨hx, hZ, hown, hby, -⟩ := ok
  intro T locs X eT N
  by_cases hc : 0 < x
  · obtain ⟨s₂, o, st, r⟩ := wn hc T locs X eT N
    exact ⟨s₂, o, XS.ifNo X.here hx rfl (hb hby hd) rfl ((if0 _ _).trans (tlt hc).2.2.2) st, r⟩
  · obtain ⟨s₂, o, st, r⟩ := wy hc T locs X eT N
    exact ⟨s₂, o, XS.ifYes X.here hx rfl (pc0 := pc) (pc' := pc') rfl (hb hby hd) rfl ((if0 _ _).trans (flt hc).2.2.2) (by rw [hp]; exact Int.natCast_nonneg _) (by rw [hp]; rfl) st, r⟩
theorem w_lcmp (ok : Ok K Z n0 own code maxL ret nm) {x y : Int64} (hd : decode code pc = .ok (.lcmp, 1)) (w : W K l R n0 P h k n (pc + 1) L (.int (lcmpW x y) :: S)) : W K l R n0 P h k n pc L (.long y :: .long x :: S) := by
  obtain ⟨p, e, s, m, args, below, meth, c⟩ := K
  obtain ⟨hx, hZ, hown, hby, -⟩ := ok
  intro T locs X eT N
  obtain ⟨s₂, o, st, r⟩ := w T locs X eT N
  exact ⟨s₂, o, XS.lcmp X.here hx rfl (hb hby hd) rfl st, r⟩
theorem w_lcmp_eq (ok : Ok K Z n0 own code maxL ret nm) {x y : Int64} {o : Int} {pc' : Nat} (hd : decode code pc = .ok (.lcmp, 1)) (hd2 : decode code (pc + 1) = .ok (.ifCond .eq o, 3)) (hp : ((pc + 1 : Nat) : Int) + o = (pc' : Int)) (wy : x = y → W K l R n0 P h k n pc' L S) (wn : ¬ x = y → W K l R n0 P h k n (pc + 4) L S) : W K l R n0 P h k n pc L (.long y :: .long x :: S) :=
  w_lcmp ok hd (w_if_eq ok hd2 hp (fun hc => wy ((lw_eq x y).mp hc)) (fun hc => wn (fun q => hc ((lw_eq x y).mpr q))))
theorem w_lcmp_ne (ok : Ok K Z n0 own code maxL ret nm) {x y : Int64} {o : Int} {pc' : Nat} (hd : decode code pc = .ok (.lcmp, 1)) (hd2 : decode code (pc + 1) = .ok (.ifCond .ne o, 3)) (hp : ((pc + 1 : Nat) : Int) + o = (pc' : Int)) (wy : ¬ x = y → W K l R n0 P h k n pc' L S) (wn : x = y → W K l R n0 P h k n (pc + 4) L S) : W K l R n0 P h k n pc L (.long y :: .long x :: S) :=
  w_lcmp ok hd (w_if_ne ok hd2 hp (fun hc => wy (fun q => hc ((lw_eq x y).mpr q))) (fun hc => wn ((lw_eq x y).mp hc)))
theorem w_lcmp_lt (ok : Ok K Z n0 own code maxL ret nm) {x y : Int64} {o : Int} {pc' : Nat} (hd : decode code pc = .ok (.lcmp, 1)) (hd2 : decode code (pc + 1) = .ok (.ifCond .lt o, 3)) (hp : ((pc + 1 : Nat) : Int) + o = (pc' : Int)) (wy : x < y → W K l R n0 P h k n pc' L S) (wn : ¬ x < y → W K l R n0 P h k n (pc + 4) L S) : W K l R n0 P h k n pc L (.long y :: .long x :: S) :=
  w_lcmp ok hd (w_if_lt ok hd2 hp (fun hc => wy ((lw_lt x y).mp hc)) (fun hc => wn (fun q => hc ((lw_lt x y).mpr q))))
theorem w_lcmp_ge (ok : Ok K Z n0 own code maxL ret nm) {x y : Int64} {o : Int} {pc' : Nat} (hd : decode code pc = .ok (.lcmp, 1)) (hd2 : decode code (pc + 1) = .ok (.ifCond .ge o, 3)) (hp : ((pc + 1 : Nat) : Int) + o = (pc' : Int)) (wy : ¬ x < y → W K l R n0 P h k n pc' L S) (wn : x < y → W K l R n0 P h k n (pc + 4) L S) : W K l R n0 P h k n pc L (.long y :: .long x :: S) :=
  w_lcmp ok hd (w_if_ge ok hd2 hp (fun hc => wy (fun q => hc ((lw_lt x y).mpr q))) (fun hc => wn ((lw_lt x y).mp hc)))
theorem w_lcmp_gt (ok : Ok K Z n0 own code maxL ret nm) {x y : Int64} {o : Int} {pc' : Nat} (hd : decode code pc = .ok (.lcmp, 1)) (hd2 : decode code (pc + 1) = .ok (.ifCond .gt o, 3)) (hp : ((pc + 1 : Nat) : Int) + o = (pc' : Int)) (wy : y < x → W K l R n0 P h k n pc' L S) (wn : ¬ y < x → W K l R n0 P h k n (pc + 4) L S) : W K l R n0 P h k n pc L (.long y :: .long x :: S) :=
  w_lcmp ok hd (w_if_gt ok hd2 hp (fun hc => wy ((lw_gt x y).mp hc)) (fun hc => wn (fun q => hc ((lw_gt x y).mpr q))))
theorem w_lcmp_le (ok : Ok K Z n0 own code maxL ret nm) {x y : Int64} {o : Int} {pc' : Nat} (hd : decode code pc = .ok (.lcmp, 1)) (hd2 : decode code (pc + 1) = .ok (.ifCond .le o, 3)) (hp : ((pc + 1 : Nat) : Int) + o = (pc' : Int)) (wy : ¬ y < x → W K l R n0 P h k n pc' L S) (wn : y < x → W K l R n0 P h k n (pc + 4) L S) : W K l R n0 P h k n pc L (.long y :: .long x :: S) :=
  w_lcmp ok hd (w_if_le ok hd2 hp (fun hc => wy (fun q => hc ((lw_gt x y).mpr q))) (fun hc => wn ((lw_gt x y).mp hc)))
theorem w_out {t : FieldType} {i : Instr} {w : Value} (ok : Ok K Z n0 own code maxL (some t) nm) (hn : narrow t w = w) (hi : (i = .ireturn ∧ (t = .int ∨ t = .boolean ∨ t = .byte ∨ t = .char ∨ t = .short) ∧ ∃ z, w = .int z) ∨ (i = .lreturn ∧ t = .long ∧ ∃ z, w = .long z) ∨ (i = .dreturn ∧ t = .double ∧ ∃ z, w = .double z) ∨ (i = .freturn ∧ t = .float ∧ ∃ z, w = .float z) ∨ (i = .areturn ∧ t.isReference = true ∧ w.isRef = true))
    (hd : decode code pc = .ok (i, 1)) (hk : k ≤ R.cells) (hs : n ≤ R.slots) (hP : P (some w) h) : W K l R n0 P h k n pc L (w :: S) := by
  obtain ⟨p, e, s, m, args, below, meth, c⟩ := K
  obtain ⟨hx, hZ, hown, hby, hml, hret, hnm, hlk, hn0⟩ := ok
  intro T locs X eT N
  obtain ⟨fs, hr, hrun, hended, hW, hsame⟩ := X.leave (v := some w) (fun q => by rw [hret] at q; cases q)
  exact ⟨_, _, retOut X hx hret hn hi (hb hby hd) hr, hrun, hended, _, _, rfl, ⟨by show P (some w) T.heap; rw [eT]; exact hP, N⟩, ⟨_, rfl⟩, hW, hsame.mono hk hs⟩
theorem w_iret {z : Int32} (ok : Ok K Z n0 own code maxL (some .int) nm) (hd : decode code pc = .ok (.ireturn, 1)) (hk : k ≤ R.cells) (hs : n ≤ R.slots) (hP : P (some (.int z)) h) : W K l R n0 P h k n pc L (.int z :: S) :=
  w_out ok rfl (Or.inl ⟨rfl, by simp, z, rfl⟩) hd hk hs hP
theorem w_lret {z : Int64} (ok : Ok K Z n0 own code maxL (some .long) nm) (hd : decode code pc = .ok (.lreturn, 1)) (hk : k ≤ R.cells) (hs : n ≤ R.slots) (hP : P (some (.long z)) h) : W K l R n0 P h k n pc L (.long z :: S) :=
  w_out ok rfl (Or.inr (Or.inl ⟨rfl, rfl, z, rfl⟩)) hd hk hs hP
theorem w_aret {w : Value} {t : FieldType} (ok : Ok K Z n0 own code maxL (some t) nm) (ht : t.isReference = true) (hw : w.isRef = true) (hd : decode code pc = .ok (.areturn, 1)) (hk : k ≤ R.cells) (hs : n ≤ R.slots) (hP : P (some w) h) : W K l R n0 P h k n pc L (w :: S) :=
  w_out ok (by rcases ref_cases hw with rfl | ⟨_, rfl⟩ <;> cases t <;> first | rfl | cases ht) (Or.inr (Or.inr (Or.inr (Or.inr ⟨rfl, ht, hw⟩)))) hd hk hs hP
theorem w_bret {z : Int32} {t : FieldType} (ok : Ok K Z n0 own code maxL (some t) nm) (ht : t = .boolean ∨ t = .byte ∨ t = .char ∨ t = .short) (hd : decode code pc = .ok (.ireturn, 1)) (hk : k ≤ R.cells) (hs : n ≤ R.slots) (hP : P (some (.int (nar t z))) h) : W K l R n0 P h k n pc L (.int z :: S) := by
  obtain ⟨p, e, s, m, args, below, meth, c⟩ := K
  obtain ⟨hx, hZ, hown, hby, hml, hret, hnm, hlk, hn0⟩ := ok
  intro T locs X eT N
  obtain ⟨fs, hr, hrun, hended, hW, hsame⟩ := X.leave (v := some (.int (nar t z))) (fun q => by rw [hret] at q; cases q)
  exact ⟨_, _, retN X hx hret ht (hb hby hd) hr, hrun, hended, _, _, rfl, ⟨by show P (some (.int (nar t z))) T.heap; rw [eT]; exact hP, N⟩, ⟨_, rfl⟩, hW, hsame.mono hk hs⟩
theorem w_ret (ok : Ok K Z n0 own code maxL none nm) (hd : decode code pc = .ok (.return_, 1)) (hk : k ≤ R.cells) (hs : n ≤ R.slots) (hP : P none h) : W K l R n0 P h k n pc L [] := by
  obtain ⟨p, e, s, m, args, below, meth, c⟩ := K
  obtain ⟨hx, hZ, hown, hby, hml, hret, hnm, hlk, hn0⟩ := ok
  intro T locs X eT N
  obtain ⟨fs, hr, hrun, hended, hW, hsame⟩ := X.leave (v := none) (fun _ => rfl)
  exact ⟨_, _, X.returnOut hx hret (hb hby hd) hr, hrun, hended, _, _, rfl, ⟨by show P none T.heap; rw [eT]; exact hP, N⟩, ⟨_, rfl⟩, hW, hsame.mono hk hs⟩
abbrev notHandle (y : MethodName) : Prop := y.cls ≠ "java/lang/invoke/MethodHandle" ∧ y.cls ≠ "java/lang/invoke/VarHandle"
theorem w_callS (ok : Ok K Z n0 own code maxL ret nm) {index : Nat} {y : MethodName} {bytes : ByteArray} {mL : Nat} {rt : Option FieldType} {rm : Room} {argsL rest : List Value} {Q : Option Value → Heap → Prop} {ps : List FieldType} {r : Option FieldType}
    (hd : decode code pc = .ok (.invokestatic index, 3)) (w1 : (Cond.methodLink own index y).before a0 Z = true) (w2 : (Cond.static y).before a0 Z = true) (w3 : (Cond.initialized y.cls).before a0 Z = true) (w4 : (Cond.code y bytes mL rt).before a0 Z = true) (hy : notHandle y)
    (pd : parseMethodDescriptor y.desc = some ⟨ps, r⟩) (hlen : argsL.length = ps.length) (hL : L.size = maxL) (hf : rm.frames + 1 ≤ R.frames) (hl : (rest.map fun v => v.category).sum + (mL + 11) + rm.locals ≤ R.locals) (hc : k + rm.cells ≤ R.cells) (hs : n + rm.slots ≤ R.slots)
    (hM : n0 ≤ h.size → Met l Z n0 y bytes mL rt [] rm argsL.toArray h Q) (w : ∀ v h', Q v h' → W K l R n0 P h' (k + rm.cells) (n + rm.slots) (pc + 3) L (v.toList ++ rest)) : W K l R n0 P h k n pc L (argsL.reverse ++ rest) := by
  obtain ⟨p, e, s, m, args, below, meth, c⟩ := K
  obtain ⟨hx, hZ, hown, hby, hml, hret, hnm, hlk, hn0⟩ := ok
  intro T locs X eT N
  have hM := hM (by rw [← eT]; exact Nat.le_trans hn0 X.same.2.1)
  obtain ⟨v, _, ⟨T1, L1, k1, n1⟩, -, X1, ⟨Lc, ⟨hQ, N1⟩, l1, y1, z1⟩, st⟩ := Jvm.LawKit.callS X hx (y := y) hown (mvT hZ w1) (mvT hZ w2) (mvT hZ w3) (mvT hZ w4) hy (backOf (W := (rest.map fun v => v.category).sum) (Q := fun v h L => Q v h ∧ Fr n0 L) hM hZ w4 w3 hf hl) (g := mkF m pc L (argsL.reverse ++ rest)) rfl (hL.trans hml.symm) (argsL := argsL) (rest := rest) (lenOf pd hlen) rfl (by show 2 * 0 + _ ≤ _; omega) (hb hby hd) (fun _ _ => ⟨rfl, eT, hc, hs⟩)
  dsimp only [Pt.U, Pt.locs, Pt.cells, Pt.slots] at X1 l1 y1 z1 st hQ
  subst l1 y1 z1
  obtain ⟨s₂, o, st2, r2⟩ := w v _ hQ T1 _ X1 rfl (Fr.app N N1)
  exact ⟨s₂, o, st _ st2, r2⟩
theorem pa_z {N : Nat} (q : N < 2 ^ 31) : ∃ z : Int32, N = z.toNatClampNeg ∧ ¬ z < 0 := by
  have e : (Int32.ofNat N).toInt = N := Int32.toInt_ofNat_of_lt q
  refine ⟨Int32.ofNat N, ?_, ?_⟩
  · simp [Int32.toNatClampNeg, e]
  · rw [Int32.lt_iff_toInt_lt, e]; simp
def PA (ty : FieldType) (Z : State) (h : Heap) (a : Addr) (vs : List Value) : Prop := ∃ c : Cell, Arr Z h a c ty ∧ vs.length < 2 ^ 31 ∧ c.slots = vs.toArray ∧ ∀ v ∈ vs, fits ty v = true
theorem pa_in {c : Cell} {vs : List Value} {j : Int32} (q : c.slots = vs.toArray) (h0 : ¬ j < 0) (hj : j.toNatClampNeg < vs.length) : ¬ (j < 0 ∨ c.slots.size ≤ j.toNatClampNeg) := by
  rw [q]; rintro (y | y)
  · exact h0 y
  · simp at y; omega
section PAs
variable {ty : FieldType} {h' : Heap} {a b : Addr} {vs : List Value} {v : Value} {sl : Nat} {ws : List Addr}
theorem PA.lt (A : PA ty Z h a vs) : a < h.size := by obtain ⟨c, A, -⟩ := A; exact A.lt
theorem PA.len (A : PA ty Z h a vs) : vs.length < 2 ^ 31 := by obtain ⟨c, A, q, -⟩ := A; exact q
theorem PA.ext (A : PA ty Z h a vs) (E : Ext h h') : PA ty Z h' a vs := by obtain ⟨c, A, r⟩ := A; exact ⟨c, A.ext E, r⟩
theorem PA.other (A : PA ty Z h b vs) (W1 : Wr h h' a sl v) (ne : b ≠ a) : PA ty Z h' b vs := by obtain ⟨c, A, r⟩ := A; exact ⟨c, A.other W1 ne, r⟩
theorem PA.keep (A : PA ty Z h a vs) (K1 : Keep h h' ws) (q : a ∉ ws) : PA ty Z h' a vs := by obtain ⟨c, A, r⟩ := A; exact ⟨c, ⟨K1.2.1 a c A.1 q, A.2⟩, r⟩
theorem PA.set (A : PA ty Z h a vs) (W1 : Wr h h' a sl v) (hv : fits ty v = true) : PA ty Z h' a (vs.set sl v) := by
  obtain ⟨c, A, hl, hs, hf⟩ := A
  refine ⟨c.setSlot sl v, A.same W1, by rw [List.length_set]; exact hl, ?_, ?_⟩
  · show c.slots.setIfInBounds sl v = _
    rw [hs]; simp
  · intro u hu
    rcases List.mem_or_eq_of_mem_set hu with q | rfl
    · exact hf _ q
    · exact hv
theorem PA.arv (A : PA ty Z h a vs) {z : Int32} (hz : vs.length = z.toNatClampNeg) (hz0 : ¬ z < 0) (d : Value) : ∃ k, Arv Z h a k ty z vs d := by
  obtain ⟨c, A, hl, hs, hf⟩ := A
  refine ⟨c.cls, c, A, rfl, by rw [hs]; simpa using hz, hz0, fun i hi => ?_, fun i hi => ?_⟩
  · rw [hs] at hi ⊢
    simp at hi
    simp [List.getD_eq_getElem?_getD, List.getElem?_eq_getElem hi]
  · rw [hs] at hi
    simp at hi
    rw [List.getD_eq_getElem?_getD, List.getElem?_eq_getElem hi]
    exact hf _ (List.getElem_mem hi)
theorem PA.of_arv {k : ClassId} {z : Int32} {d : Value} (B : Arv Z h a k ty z vs d) (hl : vs.length = z.toNatClampNeg) : PA ty Z h a vs := by
  obtain ⟨c, A, -, S1, N1, H, G⟩ := B
  have e : c.slots = vs.toArray := by
    apply Array.ext_getElem?
    intro i
    by_cases q : i < c.slots.size
    · rw [H i q]
      have q2 : i < vs.length := by omega
      simp [List.getD_eq_getElem?_getD, List.getElem?_eq_getElem q2]
    · rw [Array.getElem?_eq_none (by omega)]
      simp; omega
  refine ⟨c, A, by have := (back32 N1).2; omega, e, fun v hv => ?_⟩
  obtain ⟨i, hi, rfl⟩ := List.getElem_of_mem hv
  have q := G i (by omega)
  rw [List.getD_eq_getElem?_getD, List.getElem?_eq_getElem hi] at q
  exact q
end PAs
theorem w_arraylength (ok : Ok K Z n0 own code maxL ret nm) {ty : FieldType} {a : Addr} {vs : List Value} {z : Int32} (hd : decode code pc = .ok (.arraylength, 1)) (A : PA ty Z h a vs) (hz : vs.length = z.toNatClampNeg) (hz0 : ¬ z < 0) (w : W K l R n0 P h k n (pc + 1) L (.int z :: S)) : W K l R n0 P h k n pc L (.ref a :: S) := by
  obtain ⟨p, e, s, m, args, below, meth, c⟩ := K
  obtain ⟨hx, hZ, hown, hby, -⟩ := ok
  intro T locs X eT N
  obtain ⟨s₂, o, st, r⟩ := w T locs X eT N
  obtain ⟨cl, A, q1, q2, q3⟩ := A
  have e1 : cl.slots.size.toInt32 = z := len_of (by rw [q2]; simpa using hz) hz0
  exact ⟨s₂, o, X.arraylength hx (by rw [eT]; exact A.1) (State.isArrayOf_alike hZ.alike A.2.1) (g := mkF m pc L (.ref a :: S)) rfl rfl (hb hby hd) _ (by rw [e1]; exact st), r⟩
theorem w_newarray (ok : Ok K Z n0 own code maxL ret nm) {aty : ArrayType} {z : Int32} (hd : decode code pc = .ok (.newarray aty, 2)) (w1 : (Cond.arrayClass (newarray.typeOf aty)).before a0 Z = true) (hz : ¬ z < 0) {cap : Nat} (hcap : z.toNatClampNeg ≤ cap) (hb1 : cap * 8 ≤ 536870912) (hc : k + 1 ≤ R.cells) (hl : n + cap ≤ R.slots)
    (w : ∀ h' a, a = h.size → n0 ≤ a → Ext h h' → PA (newarray.typeOf aty) Z h' a (List.replicate z.toNatClampNeg (defaultValue (newarray.typeOf aty))) → W K l R n0 P h' (k + 1) (n + cap) (pc + 2) L (.ref a :: S)) : W K l R n0 P h k n pc L (.int z :: S) := by
  obtain ⟨p, e, s, m, args, below, meth, c⟩ := K
  obtain ⟨hx, hZ, hown, hby, hml, hret, hnm, hlk, hn0⟩ := ok
  intro T locs X eT N
  obtain ⟨T1, h1, cA, X1, e1, E1, A1, st⟩ := newP X hx hZ w1 eT (g := mkF m pc L (.int z :: S)) rfl (hb hby hd) rfl hz hcap hb1 hc hl
  have A2 : PA (newarray.typeOf aty) Z h1 h.size (List.replicate z.toNatClampNeg (defaultValue (newarray.typeOf aty))) := by
    refine ⟨_, A1, by simpa using (back32 hz).2, by simp [newA], fun v hv => ?_⟩
    rw [List.eq_of_mem_replicate hv]
    cases aty <;> rfl
  obtain ⟨s₂, o, st2, r⟩ := w h1 h.size rfl (by rw [← eT]; exact Nat.le_trans hn0 X.same.2.1) E1 A2 T1 _ X1 e1 N
  exact ⟨s₂, o, st _ st2, r⟩
theorem w_arraycopy (ok : Ok K Z n0 own code maxL ret nm) {index : Nat} {ty : FieldType} {a b : Addr} {vs vd : List Value} {sp dp nn : Int32} {sp' dp' nn' : Nat} (hd : decode code pc = .ok (.invokestatic index, 3)) (w1 : (Cond.methodLink own index Jvm.Stand.acN).before a0 Z = true) (w2 : (Cond.native Jvm.Stand.acN).before a0 Z = true) (w3 : (Cond.static Jvm.Stand.acN).before a0 Z = true) (w4 : (Cond.initialized "java/lang/System").before a0 Z = true)
    (A : PA ty Z h a vs) (B : PA ty Z h b vd) (hty : refKind ty = false) (ge : n0 ≤ b) (h1 : ¬ sp < 0) (h2 : ¬ dp < 0) (h3 : ¬ nn < 0) (es : sp.toNatClampNeg = sp') (ed : dp.toNatClampNeg = dp') (en : nn.toNatClampNeg = nn') (h4 : sp' + nn' ≤ vs.length) (h5 : dp' + nn' ≤ vd.length) (hL : L.size = maxL) (hf : 1 ≤ R.frames) (hlo : (S.map fun v => v.category).sum + (nativeFrameWords "java/lang/System" "arraycopy" 5 + 11) ≤ R.locals)
    (w : ∀ h', Keep h h' [b] → PA ty Z h' b (vd.take dp' ++ (vs.drop sp').take nn' ++ vd.drop (dp' + nn')) → W K l R n0 P h' k n (pc + 3) L S) : W K l R n0 P h k n pc L (.int nn :: .int dp :: .ref b :: .int sp :: .ref a :: S) := by
  obtain ⟨p, e, s, m, args, below, meth, c⟩ := K
  obtain ⟨hx, hZ, hown, hby, hml, hret, hnm, hlk, hn0⟩ := ok
  intro T locs X eT N
  subst es ed en
  obtain ⟨z1, hz1, hz2⟩ : ∃ z : Int32, vs.length = z.toNatClampNeg ∧ ¬ z < 0 := pa_z A.len
  obtain ⟨z3, hz3, hz4⟩ : ∃ z : Int32, vd.length = z.toNatClampNeg ∧ ¬ z < 0 := pa_z B.len
  obtain ⟨k1, A1⟩ := A.arv hz1 hz2 .null
  obtain ⟨k2, B1⟩ := B.arv hz3 hz4 .null
  obtain ⟨T1, h1', L1, X1, e1, N1, K1, B2, st⟩ := cpA X hx hZ hown w1 w2 w3 w4 eT A1 B1 (Or.inl ⟨rfl, hty⟩) h1 h2 h3 (by omega) (by omega) rfl h5 N ge (g := mkF m pc L (.int nn :: .int dp :: .ref b :: .int sp :: .ref a :: S)) rfl (hL.trans hml.symm) rfl (hb hby hd) hf (W := (S.map fun v => v.category).sum) (by show 2 * 0 + _ ≤ _; omega) hlo
  have e2 : ((List.range nn.toNatClampNeg).map fun i => vs.getD (sp.toNatClampNeg + i) Value.null) = (vs.drop sp.toNatClampNeg).take nn.toNatClampNeg := by
    apply List.ext_getElem
    · simp; omega
    · intro i q1 q2
      simp at q1
      simp [List.getD_eq_getElem?_getD, List.getElem?_eq_getElem (show sp.toNatClampNeg + i < vs.length by omega)]
  rw [e2] at B2
  obtain ⟨s₂, o, st2, r⟩ := w h1' K1 (PA.of_arv B2 (by simp; omega)) T1 _ X1 e1 N1
  exact ⟨s₂, o, st _ st2, r⟩
theorem w_iaload (ok : Ok K Z n0 own code maxL ret nm) {a : Addr} {vs : List Value} {j : Int32} {v : Value} (hd : decode code pc = .ok (.iaload, 1)) (A : PA .int Z h a vs) (h0 : ¬ j < 0) (hj : vs[j.toNatClampNeg]? = some v) (w : W K l R n0 P h k n (pc + 1) L (v :: S)) : W K l R n0 P h k n pc L (.int j :: .ref a :: S) := by
  obtain ⟨p, e, s, m, args, below, meth, c⟩ := K
  obtain ⟨hx, hZ, hown, hby, -⟩ := ok
  intro T locs X eT N
  obtain ⟨s₂, o, st, r⟩ := w T locs X eT N
  obtain ⟨cl, A, q1, q2, q3⟩ := A
  exact ⟨s₂, o, X.iaload hx (j := j) (v := v) (by rw [eT]; exact A.1) (State.isArrayOf_alike hZ.alike A.2.1) A.2.2 (pa_in q2 h0 (List.getElem?_eq_some_iff.mp hj).1) (by rw [q2]; simpa using hj) (g := mkF m pc L (.int j :: .ref a :: S)) rfl rfl (hb hby hd) _ st, r⟩
theorem w_laload (ok : Ok K Z n0 own code maxL ret nm) {a : Addr} {vs : List Value} {j : Int32} {v : Value} (hd : decode code pc = .ok (.laload, 1)) (A : PA .long Z h a vs) (h0 : ¬ j < 0) (hj : vs[j.toNatClampNeg]? = some v) (w : W K l R n0 P h k n (pc + 1) L (v :: S)) : W K l R n0 P h k n pc L (.int j :: .ref a :: S) := by
  obtain ⟨p, e, s, m, args, below, meth, c⟩ := K
  obtain ⟨hx, hZ, hown, hby, -⟩ := ok
  intro T locs X eT N
  obtain ⟨s₂, o, st, r⟩ := w T locs X eT N
  obtain ⟨cl, A, q1, q2, q3⟩ := A
  exact ⟨s₂, o, X.laload hx (j := j) (v := v) (by rw [eT]; exact A.1) (State.isArrayOf_alike hZ.alike A.2.1) A.2.2 (pa_in q2 h0 (List.getElem?_eq_some_iff.mp hj).1) (by rw [q2]; simpa using hj) (g := mkF m pc L (.int j :: .ref a :: S)) rfl rfl (hb hby hd) _ st, r⟩
theorem w_caload (ok : Ok K Z n0 own code maxL ret nm) {a : Addr} {vs : List Value} {j : Int32} {v : Value} (hd : decode code pc = .ok (.caload, 1)) (A : PA .char Z h a vs) (h0 : ¬ j < 0) (hj : vs[j.toNatClampNeg]? = some v) (w : W K l R n0 P h k n (pc + 1) L (v :: S)) : W K l R n0 P h k n pc L (.int j :: .ref a :: S) := by
  obtain ⟨p, e, s, m, args, below, meth, c⟩ := K
  obtain ⟨hx, hZ, hown, hby, -⟩ := ok
  intro T locs X eT N
  obtain ⟨s₂, o, st, r⟩ := w T locs X eT N
  obtain ⟨cl, A, q1, q2, q3⟩ := A
  exact ⟨s₂, o, X.caload hx (j := j) (v := v) (by rw [eT]; exact A.1) (State.isArrayOf_alike hZ.alike A.2.1) A.2.2 (pa_in q2 h0 (List.getElem?_eq_some_iff.mp hj).1) (by rw [q2]; simpa using hj) (g := mkF m pc L (.int j :: .ref a :: S)) rfl rfl (hb hby hd) _ st, r⟩
theorem w_baload (ok : Ok K Z n0 own code maxL ret nm) {a : Addr} {vs : List Value} {j : Int32} {v : Value} (hd : decode code pc = .ok (.baload, 1)) (A : PA .byte Z h a vs) (h0 : ¬ j < 0) (hj : vs[j.toNatClampNeg]? = some v) (w : W K l R n0 P h k n (pc + 1) L (v :: S)) : W K l R n0 P h k n pc L (.int j :: .ref a :: S) := by
  obtain ⟨p, e, s, m, args, below, meth, c⟩ := K
  obtain ⟨hx, hZ, hown, hby, -⟩ := ok
  intro T locs X eT N
  obtain ⟨s₂, o, st, r⟩ := w T locs X eT N
  obtain ⟨cl, A, q1, q2, q3⟩ := A
  exact ⟨s₂, o, X.baloadBytes hx (j := j) (v := v) (by rw [eT]; exact A.1) (State.isArrayOf_alike hZ.alike A.2.1) A.2.2 (pa_in q2 h0 (List.getElem?_eq_some_iff.mp hj).1) (by rw [q2]; simpa using hj) (g := mkF m pc L (.int j :: .ref a :: S)) rfl rfl (hb hby hd) _ st, r⟩
theorem w_zaload (ok : Ok K Z n0 own code maxL ret nm) {a : Addr} {vs : List Value} {j : Int32} {v : Value} (hd : decode code pc = .ok (.baload, 1)) (A : PA .boolean Z h a vs) (h0 : ¬ j < 0) (hj : vs[j.toNatClampNeg]? = some v) (w : W K l R n0 P h k n (pc + 1) L (v :: S)) : W K l R n0 P h k n pc L (.int j :: .ref a :: S) := by
  obtain ⟨p, e, s, m, args, below, meth, c⟩ := K
  obtain ⟨hx, hZ, hown, hby, -⟩ := ok
  intro T locs X eT N
  obtain ⟨s₂, o, st, r⟩ := w T locs X eT N
  obtain ⟨cl, A, q1, q2, q3⟩ := A
  exact ⟨s₂, o, X.baloadBooleans hx (j := j) (v := v) (by rw [eT]; exact A.1) (State.isArrayOf_alike hZ.alike A.2.1) A.2.2 (pa_in q2 h0 (List.getElem?_eq_some_iff.mp hj).1) (by rw [q2]; simpa using hj) (g := mkF m pc L (.int j :: .ref a :: S)) rfl rfl (hb hby hd) _ st, r⟩
theorem w_aaload (ok : Ok K Z n0 own code maxL ret nm) {ty : FieldType} {a : Addr} {vs : List Value} {j : Int32} {v : Value} (hd : decode code pc = .ok (.aaload, 1)) (A : PA ty Z h a vs) (ht : ty.isReference = true) (h0 : ¬ j < 0) (hj : vs[j.toNatClampNeg]? = some v) (w : W K l R n0 P h k n (pc + 1) L (v :: S)) : W K l R n0 P h k n pc L (.int j :: .ref a :: S) := by
  obtain ⟨p, e, s, m, args, below, meth, c⟩ := K
  obtain ⟨hx, hZ, hown, hby, -⟩ := ok
  intro T locs X eT N
  obtain ⟨s₂, o, st, r⟩ := w T locs X eT N
  obtain ⟨cl, A, q1, q2, q3⟩ := A
  exact ⟨s₂, o, X.aaload hx (j := j) (v := v) (by rw [eT]; exact A.1) (State.isArrayOf_alike hZ.alike A.2.1) ht A.2.2 (pa_in q2 h0 (List.getElem?_eq_some_iff.mp hj).1) (by rw [q2]; simpa using hj) (g := mkF m pc L (.int j :: .ref a :: S)) rfl rfl (hb hby hd) _ st, r⟩
theorem w_iastore (ok : Ok K Z n0 own code maxL ret nm) {a : Addr} {vs : List Value} {j : Int32} {x : Int32} (hd : decode code pc = .ok (.iastore, 1)) (A : PA .int Z h a vs) (ge : n0 ≤ a) (h0 : ¬ j < 0) (hj : j.toNatClampNeg < vs.length) (w : ∀ h', Wr h h' a j.toNatClampNeg (.int x) → PA .int Z h' a (vs.set j.toNatClampNeg (.int x)) → W K l R n0 P h' k n (pc + 1) L S) : W K l R n0 P h k n pc L (.int x :: .int j :: .ref a :: S) := by
  obtain ⟨p, e, s, m, args, below, meth, c⟩ := K
  obtain ⟨hx, hZ, hown, hby, -⟩ := ok
  intro T locs X eT N
  have A0 := A
  obtain ⟨cl, A, q1, q2, q3⟩ := A
  obtain ⟨T1, h1, X1, e1, W1, st⟩ := stI X hx hZ eT A (j := j) (pa_in q2 h0 hj) (g := mkF m pc L (.int x :: .int j :: .ref a :: S)) rfl rfl (hb hby hd)
  obtain ⟨s₂, o, st2, r⟩ := w h1 W1 (A0.set W1 rfl) T1 _ X1 e1 (Fr.snoc X1 N ge)
  exact ⟨s₂, o, st _ st2, r⟩
theorem w_lastore (ok : Ok K Z n0 own code maxL ret nm) {a : Addr} {vs : List Value} {j : Int32} {x : Int64} (hd : decode code pc = .ok (.lastore, 1)) (A : PA .long Z h a vs) (ge : n0 ≤ a) (h0 : ¬ j < 0) (hj : j.toNatClampNeg < vs.length) (w : ∀ h', Wr h h' a j.toNatClampNeg (.long x) → PA .long Z h' a (vs.set j.toNatClampNeg (.long x)) → W K l R n0 P h' k n (pc + 1) L S) : W K l R n0 P h k n pc L (.long x :: .int j :: .ref a :: S) := by
  obtain ⟨p, e, s, m, args, below, meth, c⟩ := K
  obtain ⟨hx, hZ, hown, hby, -⟩ := ok
  intro T locs X eT N
  have A0 := A
  obtain ⟨cl, A, q1, q2, q3⟩ := A
  obtain ⟨T1, h1, X1, e1, W1, st⟩ := stJ X hx hZ eT A (j := j) (pa_in q2 h0 hj) (g := mkF m pc L (.long x :: .int j :: .ref a :: S)) rfl rfl (hb hby hd)
  obtain ⟨s₂, o, st2, r⟩ := w h1 W1 (A0.set W1 rfl) T1 _ X1 e1 (Fr.snoc X1 N ge)
  exact ⟨s₂, o, st _ st2, r⟩
theorem w_castore (ok : Ok K Z n0 own code maxL ret nm) {a : Addr} {vs : List Value} {j : Int32} {x : Int32} (hd : decode code pc = .ok (.castore, 1)) (A : PA .char Z h a vs) (ge : n0 ≤ a) (h0 : ¬ j < 0) (hj : j.toNatClampNeg < vs.length) (w : ∀ h', Wr h h' a j.toNatClampNeg (.int (nar .char x)) → PA .char Z h' a (vs.set j.toNatClampNeg (.int (nar .char x))) → W K l R n0 P h' k n (pc + 1) L S) : W K l R n0 P h k n pc L (.int x :: .int j :: .ref a :: S) := by
  obtain ⟨p, e, s, m, args, below, meth, c⟩ := K
  obtain ⟨hx, hZ, hown, hby, -⟩ := ok
  intro T locs X eT N
  have A0 := A
  obtain ⟨cl, A, q1, q2, q3⟩ := A
  obtain ⟨T1, h1, X1, e1, W1, st⟩ := stC X hx hZ eT A (j := j) (pa_in q2 h0 hj) (g := mkF m pc L (.int x :: .int j :: .ref a :: S)) rfl rfl (hb hby hd)
  obtain ⟨s₂, o, st2, r⟩ := w h1 W1 (A0.set W1 (fits_nar_char x)) T1 _ X1 e1 (Fr.snoc X1 N ge)
  exact ⟨s₂, o, st _ st2, r⟩
theorem w_bastore (ok : Ok K Z n0 own code maxL ret nm) {a : Addr} {vs : List Value} {j : Int32} {x : Int32} (hd : decode code pc = .ok (.bastore, 1)) (A : PA .byte Z h a vs) (ge : n0 ≤ a) (h0 : ¬ j < 0) (hj : j.toNatClampNeg < vs.length) (w : ∀ h', Wr h h' a j.toNatClampNeg (.int (nar .byte x)) → PA .byte Z h' a (vs.set j.toNatClampNeg (.int (nar .byte x))) → W K l R n0 P h' k n (pc + 1) L S) : W K l R n0 P h k n pc L (.int x :: .int j :: .ref a :: S) := by
  obtain ⟨p, e, s, m, args, below, meth, c⟩ := K
  obtain ⟨hx, hZ, hown, hby, -⟩ := ok
  intro T locs X eT N
  have A0 := A
  obtain ⟨cl, A, q1, q2, q3⟩ := A
  obtain ⟨T1, h1, X1, e1, W1, st⟩ := stB X hx hZ eT A (j := j) (pa_in q2 h0 hj) (g := mkF m pc L (.int x :: .int j :: .ref a :: S)) rfl rfl (hb hby hd)
  obtain ⟨s₂, o, st2, r⟩ := w h1 W1 (A0.set W1 (fits_nar_byte x)) T1 _ X1 e1 (Fr.snoc X1 N ge)
  exact ⟨s₂, o, st _ st2, r⟩
theorem w_zastore (ok : Ok K Z n0 own code maxL ret nm) {a : Addr} {vs : List Value} {j : Int32} {x : Int32} (hd : decode code pc = .ok (.bastore, 1)) (A : PA .boolean Z h a vs) (ge : n0 ≤ a) (h0 : ¬ j < 0) (hj : j.toNatClampNeg < vs.length) (w : ∀ h', Wr h h' a j.toNatClampNeg (.int (nar .boolean x)) → PA .boolean Z h' a (vs.set j.toNatClampNeg (.int (nar .boolean x))) → W K l R n0 P h' k n (pc + 1) L S) : W K l R n0 P h k n pc L (.int x :: .int j :: .ref a :: S) := by
  obtain ⟨p, e, s, m, args, below, meth, c⟩ := K
  obtain ⟨hx, hZ, hown, hby, -⟩ := ok
  intro T locs X eT N
  have A0 := A
  obtain ⟨cl, A, q1, q2, q3⟩ := A
  obtain ⟨T1, h1, X1, e1, W1, st⟩ := stZ X hx hZ eT A (j := j) (pa_in q2 h0 hj) (g := mkF m pc L (.int x :: .int j :: .ref a :: S)) rfl rfl (hb hby hd)
  obtain ⟨s₂, o, st2, r⟩ := w h1 W1 (A0.set W1 (fits_nar_bool x)) T1 _ X1 e1 (Fr.snoc X1 N ge)
  exact ⟨s₂, o, st _ st2, r⟩
/-! objects -/
abbrev Fl := List (String × String × String × FieldType)
def Ob (Z : State) (h : Heap) (a : Addr) (C : String) (fl : Fl) (vals : List Value) : Prop := Exa Z h a C ∧ ∀ (i : Nat) f v, fl[i]? = some f → vals[i]? = some v → Fld Z h a f.1 f.2.1 f.2.2.1 v
def LA (Z : State) (a0 : Array Value) (C : String) (fl : Fl) : Prop := (∀ f ∈ fl, Laid Z a0 C f.1 f.2.1 f.2.2.1 ∧ parseFieldDescriptor f.2.2.1 = some f.2.2.2) ∧ (fl.map (·.2.1)).Nodup
section Obs
variable {h' : Heap} {a b : Addr} {C : String} {fl : Fl} {vals : List Value} {v : Value} {sl : Nat} {ws : List Addr}
theorem Ob.lt (O : Ob Z h a C fl vals) : a < h.size := O.1.lt
theorem Ob.ext (O : Ob Z h a C fl vals) (E : Ext h h') : Ob Z h' a C fl vals := ⟨O.1.ext E, fun i f v q r => (O.2 i f v q r).ext E⟩
theorem Ob.other (O : Ob Z h b C fl vals) (W1 : Wr h h' a sl v) (ne : b ≠ a) : Ob Z h' b C fl vals := ⟨O.1.wr W1, fun i f v q r => (O.2 i f v q r).other W1 (Or.inl ne)⟩
theorem Ob.keep (O : Ob Z h a C fl vals) (K1 : Keep h h' ws) (q : a ∉ ws) : Ob Z h' a C fl vals := ⟨O.1.keep K1, fun i f v r r' => (O.2 i f v r r').keep K1 q⟩
theorem Ob.put (O : Ob Z h a C fl vals) (LAs : LA Z a0 C fl) {i : Nat} {f : String × String × String × FieldType} {u : Value} (hf : fl[i]? = some f) (hv : vals[i]? = some u) (W1 : Wr h h' a (Jvm.RoadKit.slotOf Z f.1 f.2.1 f.2.2.1) v) : Ob Z h' a C fl (vals.set i v) := by
  refine ⟨O.1.wr W1, fun j g w hg hw => ?_⟩
  by_cases e : i = j
  · subst e
    cases hf.symm.trans hg
    rw [List.getElem?_set_self (List.getElem?_eq_some_iff.mp hv).1] at hw
    cases hw
    exact (O.2 i f u hf hv).same W1
  · rw [List.getElem?_set_ne e] at hw
    refine (O.2 j g w hg hw).other W1 (Or.inr ?_)
    have m1 := LAs.1 f (List.mem_of_getElem? hf)
    have m2 := LAs.1 g (List.mem_of_getElem? hg)
    refine slot_ne m2.1 m1.1 (fun q => e ?_) m2.2 m1.2
    have hi := (List.getElem?_eq_some_iff.mp hf)
    have hj := (List.getElem?_eq_some_iff.mp hg)
    have nd := LAs.2
    have q1 : (fl.map (·.2.1))[i]? = some f.2.1 := by simp [hf]
    have q2 : (fl.map (·.2.1))[j]? = some f.2.1 := by simp [hg, q]
    exact (List.getElem?_inj (by simpa using hi.1) nd).mp (q1.trans q2.symm)
end Obs
theorem w_getfield (ok : Ok K Z n0 own code maxL ret nm) {index : Nat} {a : Addr} {C R0 host : String} {fl : Fl} {vals : List Value} {v : Value} {f : String × String × String × FieldType} (i : Nat) (hd : decode code pc = .ok (.getfield index, 3)) (w1 : (Cond.fieldLink own index R0 f.2.1 f.2.2.1).before a0 Z = true ∨ (Cond.fieldLinkNest own index R0 f.2.1 f.2.2.1 host).before a0 Z = true) (via : Via Z R0 f.1 f.2.1 f.2.2.1) (O : Ob Z h a C fl vals) (hf : fl[i]? = some f) (hv : vals[i]? = some v)
    (w : W K l R n0 P h k n (pc + 3) L (v :: S)) : W K l R n0 P h k n pc L (.ref a :: S) := by
  obtain ⟨p, e, s, m, args, below, meth, c⟩ := K
  obtain ⟨hx, hZ, hown, hby, -⟩ := ok
  intro T locs X eT N
  obtain ⟨T1, X1, e1, st⟩ := getF X hx hZ hown w1 via eT (O.2 i f v hf hv) (g := mkF m pc L (.ref a :: S)) rfl rfl (hb hby hd)
  obtain ⟨s₂, o, st2, r⟩ := w T1 locs X1 e1 N
  exact ⟨s₂, o, st _ st2, r⟩
theorem w_putfield (ok : Ok K Z n0 own code maxL ret nm) {index kk : Nat} {a : Addr} {C R0 host : String} {fl : Fl} {vals : List Value} {v u : Value} {f : String × String × String × FieldType} (i : Nat) (hd : decode code pc = .ok (.putfield index, 3)) (w1 : (Cond.fieldLink own index R0 f.2.1 f.2.2.1).before a0 Z = true ∨ (Cond.fieldLinkNest own index R0 f.2.1 f.2.2.1 host).before a0 Z = true) (via : Via Z R0 f.1 f.2.1 f.2.2.1) (O : Ob Z h a C fl vals) (LAs : LA Z a0 C fl) (hf : fl[i]? = some f) (hv : vals[i]? = some u)
    (w2 : (Cond.lays C f.1 f.2.1 f.2.2.1).before a0 Z = true ∨ ((Cond.laysFinal C f.1 f.2.1 f.2.2.1).before a0 Z = true ∧ own = f.1 ∧ nm = "<init>")) (w3 : (Cond.instantiable C kk).before a0 Z = true) (hn : narrow f.2.2.2 v = v) (hfit : fits f.2.2.2 v = true) (ge : n0 ≤ a)
    (w : ∀ h', Wr h h' a (Jvm.RoadKit.slotOf Z f.1 f.2.1 f.2.2.1) v → Ob Z h' a C fl (vals.set i v) → W K l R n0 P h' k n (pc + 3) L S) : W K l R n0 P h k n pc L (v :: .ref a :: S) := by
  obtain ⟨p, e, s, m, args, below, meth, c⟩ := K
  obtain ⟨hx, hZ, hown, hby, hml, hret, hnm, hlk, hn0⟩ := ok
  intro T locs X eT N
  obtain ⟨T1, h1, X1, e1, W1, st⟩ := putF X hx hZ hown w1 via eT (O.2 i f u hf hv) O.1 (w2.imp id fun q => ⟨q.1, q.2.1, hnm.trans q.2.2⟩) w3 (LAs.1 f (List.mem_of_getElem? hf)).2 hn hfit (g := mkF m pc L (v :: .ref a :: S)) rfl rfl (hb hby hd)
  obtain ⟨s₂, o, st2, r⟩ := w h1 W1 (O.put LAs hf hv W1) T1 _ X1 e1 (Fr.snoc X1 N ge)
  exact ⟨s₂, o, st _ st2, r⟩
theorem w_new (ok : Ok K Z n0 own code maxL ret nm) {index kk : Nat} {C : String} {fl : Fl} (hd : decode code pc = .ok (.new index, 3)) (w1 : (Cond.classLink own index C).before a0 Z = true) (w2 : (Cond.instantiable C kk).before a0 Z = true) (w3 : (Cond.initialized C).before a0 Z = true) (LAs : LA Z a0 C fl) (hc : k + 1 ≤ R.cells) (hl : n + kk ≤ R.slots)
    (w : ∀ h' a, a = h.size → n0 ≤ a → Ext h h' → Ob Z h' a C fl (fl.map fun f => defaultValue f.2.2.2) → W K l R n0 P h' (k + 1) (n + kk) (pc + 3) L (.ref a :: S)) : W K l R n0 P h k n pc L S := by
  obtain ⟨p, e, s, m, args, below, meth, c⟩ := K
  obtain ⟨hx, hZ, hown, hby, hml, hret, hnm, hlk, hn0⟩ := ok
  intro T locs X eT N
  obtain ⟨T1, h1, X1, e1, E1, A1, D1, -, st⟩ := newO X hx hZ hown w1 w2 w3 eT (g := mkF m pc L S) rfl (hb hby hd) hc hl
  obtain ⟨s₂, o, st2, r⟩ := w h1 h.size rfl (by rw [← eT]; exact Nat.le_trans hn0 X.same.2.1) E1 ⟨A1, fun i f v hf hv => by
    simp [hf] at hv; subst hv
    exact D1 (LAs.1 f (List.mem_of_getElem? hf)).1 (LAs.1 f (List.mem_of_getElem? hf)).2⟩ T1 _ X1 e1 N
  exact ⟨s₂, o, st _ st2, r⟩
theorem w_initO (ok : Ok K Z n0 own code maxL ret nm) {index : Nat} {a : Addr} (hd : decode code pc = .ok (.invokespecial index, 3)) (w1 : (Cond.methodLink own index Lib.objectInit).before a0 Z = true) (w2 : (Cond.instanceMethod Lib.objectInit).before a0 Z = true) (w3 : (Cond.code Lib.objectInit ⟨#[0xb1]⟩ 1 none).before a0 Z = true) (hL : L.size = maxL) (hf : 1 ≤ R.frames) (hl : (S.map fun v => v.category).sum + 12 ≤ R.locals)
    (w : W K l R n0 P h k n (pc + 3) L S) : W K l R n0 P h k n pc L (.ref a :: S) := by
  obtain ⟨p, e, s, m, args, below, meth, c⟩ := K
  obtain ⟨hx, hZ, hown, hby, hml, hret, hnm, hlk, hn0⟩ := ok
  intro T locs X eT N
  obtain ⟨T1, X1, e1, st⟩ := initO X hx hZ hown w1 w2 w3 eT (g := mkF m pc L (.ref a :: S)) rfl (hL.trans hml.symm) rfl (hb hby hd) hf (W := (S.map fun v => v.category).sum) (by show 2 * 0 + _ ≤ _; omega) hl
  obtain ⟨s₂, o, st2, r⟩ := w T1 locs X1 e1 N
  exact ⟨s₂, o, st _ st2, r⟩
theorem w_callI (ok : Ok K Z n0 own code maxL ret nm) {index : Nat} {y : MethodName} {bytes : ByteArray} {mL : Nat} {rm : Room} {a : Addr} {argsL rest : List Value} {Q : Option Value → Heap → Prop} {ps : List FieldType} {r : Option FieldType}
    (hd : decode code pc = .ok (.invokespecial index, 3)) (hy1 : y.name = "<init>") (w1 : (Cond.methodLink own index y).before a0 Z = true) (w2 : (Cond.instanceMethod y).before a0 Z = true) (w3 : (Cond.initialized y.cls).before a0 Z = true) (w4 : (Cond.code y bytes mL none).before a0 Z = true) (hy : notHandle y)
    (pd : parseMethodDescriptor y.desc = some ⟨ps, r⟩) (hlen : argsL.length = ps.length) (hL : L.size = maxL) (hf : rm.frames + 1 ≤ R.frames) (hl : (rest.map fun v => v.category).sum + (mL + 11) + rm.locals ≤ R.locals) (hc : k + rm.cells ≤ R.cells) (hs : n + rm.slots ≤ R.slots)
    (hM : n0 ≤ h.size → Met l Z n0 y bytes mL none [] rm (.ref a :: argsL).toArray h Q) (w : ∀ v h', Q v h' → W K l R n0 P h' (k + rm.cells) (n + rm.slots) (pc + 3) L (v.toList ++ rest)) : W K l R n0 P h k n pc L (argsL.reverse ++ .ref a :: rest) := by
  obtain ⟨p, e, s, m, args, below, meth, c⟩ := K
  obtain ⟨hx, hZ, hown, hby, hml, hret, hnm, hlk, hn0⟩ := ok
  intro T locs X eT N
  have hM := hM (by rw [← eT]; exact Nat.le_trans hn0 X.same.2.1)
  obtain ⟨v, _, ⟨T1, L1, k1, n1⟩, -, X1, ⟨Lc, ⟨hQ, N1⟩, l1, y1, z1⟩, st⟩ := X.specialBack hx (y := y) hy1 hown (mvT hZ w1) (mvT hZ w2) (mvT hZ w4) hy (backOf (W := (rest.map fun v => v.category).sum) (Q := fun v h L => Q v h ∧ Fr n0 L) hM hZ w4 w3 hf hl) (g := mkF m pc L (argsL.reverse ++ .ref a :: rest)) rfl (hL.trans hml.symm) (Steps.refl _) (a := a) (argsL := argsL) (rest := rest) (lenOf pd hlen) rfl (by show 2 * 0 + _ ≤ _; omega) (hb hby hd) (fun _ _ => ⟨rfl, eT, hc, hs⟩)
  dsimp only [Pt.U, Pt.locs, Pt.cells, Pt.slots] at X1 l1 y1 z1 st hQ
  subst l1 y1 z1
  obtain ⟨s₂, o, st2, r2⟩ := w v _ hQ T1 _ X1 rfl (Fr.app N N1)
  exact ⟨s₂, o, st.trans st2, r2⟩
theorem w_callV (ok : Ok K Z n0 own code maxL ret nm) {index : Nat} {C : String} {y : MethodName} {bytes : ByteArray} {mL : Nat} {rt : Option FieldType} {rm : Room} {a : Addr} {argsL rest : List Value} {Q : Option Value → Heap → Prop} {ps : List FieldType} {r : Option FieldType}
    (hd : decode code pc = .ok (.invokevirtual index, 3)) (w1 : (Cond.methodLink own index y).before a0 Z = true) (w2 : (Cond.declares y).before a0 Z = true) (w3 : (Cond.selects C y y).before a0 Z = true) (w4 : (Cond.instanceMethod y).before a0 Z = true) (w5 : (Cond.initialized y.cls).before a0 Z = true) (w6 : (Cond.code y bytes mL rt).before a0 Z = true) (hy : notHandle y)
    (E : Exa Z h a C) (pd : parseMethodDescriptor y.desc = some ⟨ps, r⟩) (hlen : argsL.length = ps.length) (hL : L.size = maxL) (hf : rm.frames + 1 ≤ R.frames) (hl : (rest.map fun v => v.category).sum + (mL + 11) + rm.locals ≤ R.locals) (hc : k + rm.cells ≤ R.cells) (hs : n + rm.slots ≤ R.slots)
    (hM : n0 ≤ h.size → Met l Z n0 y bytes mL rt [] rm (.ref a :: argsL).toArray h Q) (w : ∀ v h', Q v h' → W K l R n0 P h' (k + rm.cells) (n + rm.slots) (pc + 3) L (v.toList ++ rest)) : W K l R n0 P h k n pc L (argsL.reverse ++ .ref a :: rest) := by
  obtain ⟨p, e, s, m, args, below, meth, c⟩ := K
  obtain ⟨hx, hZ, hown, hby, hml, hret, hnm, hlk, hn0⟩ := ok
  intro T locs X eT N
  have hM := hM (by rw [← eT]; exact Nat.le_trans hn0 X.same.2.1)
  obtain ⟨cq, kq, qa, qb, qc⟩ := isOf hZ eT E
  obtain ⟨v, _, ⟨T1, L1, k1, n1⟩, -, X1, ⟨Lc, ⟨hQ, N1⟩, l1, y1, z1⟩, st⟩ := X.virtualBack hx (y := y) (z := y) hown (mvT hZ w1) (mvT hZ w2) (notFace_of_selects (args := #[]) (mvT hZ w3)) (mvT hZ w3) (mvT hZ w4) hy (backOf (W := (rest.map fun v => v.category).sum) (Q := fun v h L => Q v h ∧ Fr n0 L) hM hZ w6 w5 hf hl) qa qc (g := mkF m pc L (argsL.reverse ++ .ref a :: rest)) rfl (hL.trans hml.symm) (Steps.refl _) (argsL := argsL) (rest := rest) (lenOf pd hlen) rfl (by show 2 * 0 + _ ≤ _; omega) (hb hby hd) (fun _ _ => ⟨rfl, eT, hc, hs⟩)
  dsimp only [Pt.U, Pt.locs, Pt.cells, Pt.slots] at X1 l1 y1 z1 st hQ
  subst l1 y1 z1
  obtain ⟨s₂, o, st2, r2⟩ := w v _ hQ T1 _ X1 rfl (Fr.app N N1)
  exact ⟨s₂, o, st.trans st2, r2⟩
theorem w_callP (ok : Ok K Z n0 own code maxL ret nm) {index kk : Nat} {y : MethodName} {bytes : ByteArray} {mL : Nat} {rt : Option FieldType} {rm : Room} {a : Addr} {argsL rest : List Value} {Q : Option Value → Heap → Prop} {ps : List FieldType} {r : Option FieldType}
    (hd : decode code pc = .ok (.invokevirtual index, 3)) (w1 : (Cond.methodLink own index y).before a0 Z = true) (w2 : (Cond.instanceMethod y).before a0 Z = true) (w3 : (Cond.privateMethod y).before a0 Z = true) (w4 : (Cond.instantiable y.cls kk).before a0 Z = true) (w5 : (Cond.initialized y.cls).before a0 Z = true) (w6 : (Cond.code y bytes mL rt).before a0 Z = true) (hy : notHandle y)
    (E : Exa Z h a y.cls) (pd : parseMethodDescriptor y.desc = some ⟨ps, r⟩) (hlen : argsL.length = ps.length) (hL : L.size = maxL) (hf : rm.frames + 1 ≤ R.frames) (hl : (rest.map fun v => v.category).sum + (mL + 11) + rm.locals ≤ R.locals) (hc : k + rm.cells ≤ R.cells) (hs : n + rm.slots ≤ R.slots)
    (hM : n0 ≤ h.size → Met l Z n0 y bytes mL rt [] rm (.ref a :: argsL).toArray h Q) (w : ∀ v h', Q v h' → W K l R n0 P h' (k + rm.cells) (n + rm.slots) (pc + 3) L (v.toList ++ rest)) : W K l R n0 P h k n pc L (argsL.reverse ++ .ref a :: rest) := by
  obtain ⟨p, e, s, m, args, below, meth, c⟩ := K
  obtain ⟨hx, hZ, hown, hby, hml, hret, hnm, hlk, hn0⟩ := ok
  intro T locs X eT N
  have hM := hM (by rw [← eT]; exact Nat.le_trans hn0 X.same.2.1)
  have hP : s.PrivateAt y := Cond.privateMethod_at (mvP hZ w3 (args := #[]))
  obtain ⟨ci, ki, i1, i2, i3, i4, -⟩ := Cond.instantiable_spec (mvT (args := args) hZ w4)
  have hni : ki.isInterface = false := by
    cases q : ki.isInterface
    · rfl
    · rw [q] at i4; cases i4
  have hsel := selects_self_of_private (args := args) i1 i2 hni hP (mvT hZ w2) hy
  obtain ⟨cell, hcell, hobj⟩ := E.cell
  obtain ⟨v, _, ⟨T1, L1, k1, n1⟩, -, X1, ⟨Lc, ⟨hQ, N1⟩, l1, y1, z1⟩, st⟩ := X.privateBack hx (y := y) hown (mvT hZ w1) (mvT hZ w2) hsel hP (mvT hZ w6) hy (backOf (W := (rest.map fun v => v.category).sum) (Q := fun v h L => Q v h ∧ Fr n0 L) hM hZ w6 w5 hf hl) (g := mkF m pc L (argsL.reverse ++ .ref a :: rest)) rfl (hL.trans hml.symm) (Steps.refl _) (a := a) (by rw [eT]; exact hcell) hobj (argsL := argsL) (rest := rest) (lenOf pd hlen) rfl (by show 2 * 0 + _ ≤ _; omega) (hb hby hd) (fun _ _ => ⟨rfl, eT, hc, hs⟩)
  dsimp only [Pt.U, Pt.locs, Pt.cells, Pt.slots] at X1 l1 y1 z1 st hQ
  subst l1 y1 z1
  obtain ⟨s₂, o, st2, r2⟩ := w v _ hQ T1 _ X1 rfl (Fr.app N N1)
  exact ⟨s₂, o, st.trans st2, r2⟩
theorem frame_fin {s u : State} {L L' : List Loc} {v : Option Value} {c c' n n' : Nat} (hq : FrameEnd s (.returned v) u L c n) (N : Fr s.heap.size L) (h1 : c ≤ c') (h2 : n ≤ n') : FrameEnd s (.returned v) u L' c' n' :=
  ⟨hq.1, hq.2.1, (hq.2.2.sift fun y hy => Or.inr (N y hy)).mono h1 h2⟩
end S
end Jvm.OwnKit
namespace Jvm.Pilot.@@N@@
open Jvm Jvm.ClassFile Sem Op Lib Jvm.Free Jvm.Stand Jvm.LawKit Jvm.RoadKit Bundle Jvm.OwnKit Jvm.Pilot.@@N@@.Jvm.D
def own_pre : List Int32 → List Int32 → Int32
  | _, [] => 1
  | [], _ :: _ => 0
  | x :: xs, y :: ys => if x = y then own_pre xs ys else 0
def own_mt (xs : List Int32) (a : Int32) (ys : List Int32) : Int32 := if a.toInt < 0 ∨ (xs.length : Int) < a.toInt + ys.length then 0 else own_pre (xs.drop a.toNatClampNeg) ys
abbrev bys (xs : List Int32) : List Value := xs.map Value.int
theorem own_ofNat {j : Nat} (h : j < 2147483648) : (Int32.ofNat j).toInt = j := Int32.toInt_ofNat_of_lt h
theorem own_succ {j : Nat} (h : j + 1 < 2147483648) : Int32.ofNat j + 1 = Int32.ofNat (j + 1) := by
  apply Int32.toInt_inj.mp
  have e := c_iadd (Int32.ofNat j) 1; have r := rng32 (Int32.ofNat j + 1); have e1 : (1 : Int32).toInt = 1 := rfl
  rw [own_ofNat (show j < 2147483648 by omega)] at e
  rw [own_ofNat h]; omega
theorem own_clamp {z : Int32} {n : Nat} (h : z.toInt = n) : z.toNatClampNeg = n := by rw [Int32.toNatClampNeg, h]; rfl
theorem own_nn {z : Int32} {n : Nat} (h : z.toInt = n) : ¬ z < 0 := by rw [Int32.lt_iff_toInt_lt, h]; show ¬ (n : Int) < 0; omega
theorem own_bys {xs : List Int32} {i : Nat} (h : i < xs.length) : (bys xs)[i]? = some (.int xs[i]) := by simp [bys, h]
theorem d3_0 : decode prog_55_method_4_code 0 = .ok (.iload_n 1, 1) := by decide +kernel
theorem d3_1 : decode prog_55_method_4_code 1 = .ok (.ifCond .lt 12, 3) := by decide +kernel
theorem d3_4 : decode prog_55_method_4_code 4 = .ok (.iload_n 1, 1) := by decide +kernel
theorem d3_5 : decode prog_55_method_4_code 5 = .ok (.aload_n 2, 1) := by decide +kernel
theorem d3_6 : decode prog_55_method_4_code 6 = .ok (.arraylength, 1) := by decide +kernel
theorem d3_7 : decode prog_55_method_4_code 7 = .ok (.iadd, 1) := by decide +kernel
theorem d3_8 : decode prog_55_method_4_code 8 = .ok (.aload_n 0, 1) := by decide +kernel
theorem d3_9 : decode prog_55_method_4_code 9 = .ok (.arraylength, 1) := by decide +kernel
theorem d3_10 : decode prog_55_method_4_code 10 = .ok (.if_icmp .le 5, 3) := by decide +kernel
theorem d3_13 : decode prog_55_method_4_code 13 = .ok (.iconst 0, 1) := by decide +kernel
theorem d3_14 : decode prog_55_method_4_code 14 = .ok (.ireturn, 1) := by decide +kernel
theorem d3_15 : decode prog_55_method_4_code 15 = .ok (.iconst 0, 1) := by decide +kernel
theorem d3_16 : decode prog_55_method_4_code 16 = .ok (.istore_n 3, 1) := by decide +kernel
theorem d3_17 : decode prog_55_method_4_code 17 = .ok (.iload_n 3, 1) := by decide +kernel
theorem d3_18 : decode prog_55_method_4_code 18 = .ok (.aload_n 2, 1) := by decide +kernel
theorem d3_19 : decode prog_55_method_4_code 19 = .ok (.arraylength, 1) := by decide +kernel
theorem d3_20 : decode prog_55_method_4_code 20 = .ok (.if_icmp .ge 22, 3) := by decide +kernel
theorem d3_23 : decode prog_55_method_4_code 23 = .ok (.aload_n 0, 1) := by decide +kernel
theorem d3_24 : decode prog_55_method_4_code 24 = .ok (.iload_n 1, 1) := by decide +kernel
theorem d3_25 : decode prog_55_method_4_code 25 = .ok (.iload_n 3, 1) := by decide +kernel
theorem d3_26 : decode prog_55_method_4_code 26 = .ok (.iadd, 1) := by decide +kernel
theorem d3_27 : decode prog_55_method_4_code 27 = .ok (.baload, 1) := by decide +kernel
theorem d3_28 : decode prog_55_method_4_code 28 = .ok (.aload_n 2, 1) := by decide +kernel
theorem d3_29 : decode prog_55_method_4_code 29 = .ok (.iload_n 3, 1) := by decide +kernel
theorem d3_30 : decode prog_55_method_4_code 30 = .ok (.baload, 1) := by decide +kernel
theorem d3_31 : decode prog_55_method_4_code 31 = .ok (.if_icmp .eq 5, 3) := by decide +kernel
theorem d3_34 : decode prog_55_method_4_code 34 = .ok (.iconst 0, 1) := by decide +kernel
theorem d3_35 : decode prog_55_method_4_code 35 = .ok (.ireturn, 1) := by decide +kernel
theorem d3_36 : decode prog_55_method_4_code 36 = .ok (.iinc 3 1, 3) := by decide +kernel
theorem d3_39 : decode prog_55_method_4_code 39 = .ok (.goto (-22), 3) := by decide +kernel
theorem d3_42 : decode prog_55_method_4_code 42 = .ok (.iconst 1, 1) := by decide +kernel
theorem d3_43 : decode prog_55_method_4_code 43 = .ok (.ireturn, 1) := by decide +kernel
theorem pn_com_example_nakami_nakami_pdf_Bytes : plainName "com/example/nakami/nakami/pdf/Bytes" = true := by first | (simp [plainName, overriddenIn]; done) | decide +kernel
set_option maxRecDepth 65536 in
set_option maxHeartbeats 40000000 in
theorem lp_m (l : Launch) (Z : State) (a0 : Array Value) (hw : ∀ d ∈ tables_1, d.before a0 Z = true) (n0 : Nat) (h0 : Heap) (K : Cx) (ok : Ok K Z n0 "com/example/nakami/nakami/pdf/Bytes" prog_55_method_4_code 4 (some .boolean) "matches") (d p : Addr) (xs ys : List Int32) (a r : Int32) (A_d : PA .byte Z h0 d (bys xs)) (A_p : PA .byte Z h0 p (bys ys)) (ha : 0 ≤ a.toInt) (hl : a.toInt + ys.length ≤ xs.length) (hxs : xs.length < 2147483648) :
    ∀ (c j : Nat), j + c = ys.length → own_pre (xs.drop (a.toNatClampNeg + j)) (ys.drop j) = r → W K l ({ frames := 0, cells := 0, slots := 0, locals := 0 } : Room) n0 (fun u h => u = some (.int (nar .boolean r)) ∧ h0 = h) h0 0 0 17 #[.val (.ref d), .val (.int a), .val (.ref p), .val (.int (Int32.ofNat j))] [] := by
  obtain ⟨q, hq, hq0⟩ := pa_z A_p.len
  have eq := nat_of hq0
  simp only [bys, List.length_map] at hq
  have hq' : (bys ys).length = q.toNatClampNeg := by simpa using hq
  intro c
  induction c with
  | zero =>
    intro j hj hr
    have ej : (Int32.ofNat j).toInt = j := own_ofNat (by omega)
    show W K l _ n0 _ h0 0 0 17 #[.val (.ref d), .val (.int a), .val (.ref p), .val (.int (Int32.ofNat j))] []
    refine w_iloadN ok d3_17 rfl ?_
    show W K l _ n0 _ h0 0 0 18 #[.val (.ref d), .val (.int a), .val (.ref p), .val (.int (Int32.ofNat j))] [(.int (Int32.ofNat j))]
    refine w_aloadN ok d3_18 rfl rfl ?_
    show W K l _ n0 _ h0 0 0 19 #[.val (.ref d), .val (.int a), .val (.ref p), .val (.int (Int32.ofNat j))] [(.ref p), (.int (Int32.ofNat j))]
    refine w_arraylength ok (z := q) d3_19 A_p hq' hq0 ?_
    show W K l _ n0 _ h0 0 0 20 #[.val (.ref d), .val (.int a), .val (.ref p), .val (.int (Int32.ofNat j))] [(.int q), (.int (Int32.ofNat j))]
    refine w_icmp_ge ok d3_20 (pc' := 42) (by decide) (fun hc1 => ?_) (fun hc1 => False.elim (by rw [Int32.lt_iff_toInt_lt] at hc1; omega))
    show W K l _ n0 _ h0 0 0 42 #[.val (.ref d), .val (.int a), .val (.ref p), .val (.int (Int32.ofNat j))] []
    refine w_iconst ok d3_42 (v := (1 : Int32)) rfl ?_
    show W K l _ n0 _ h0 0 0 43 #[.val (.ref d), .val (.int a), .val (.ref p), .val (.int (Int32.ofNat j))] [(.int (1 : Int32))]
    refine w_bret ok (by simp) d3_43 (by decide) (by decide) ?_
    refine ⟨?_, rfl⟩
    rw [← hr, List.drop_of_length_le (by omega : ys.length ≤ j)]
    cases xs.drop (a.toNatClampNeg + j) <;> rfl
  | succ c ih =>
    intro j hj hr
    have ej : (Int32.ofNat j).toInt = j := own_ofNat (by omega)
    have ea := nat_of (show ¬ a < 0 by rw [Int32.lt_iff_toInt_lt]; show ¬ _ < (0 : Int); omega)
    have ei : (a + Int32.ofNat j).toInt = ((a.toNatClampNeg + j : Nat) : Int) := by have e := c_iadd a (Int32.ofNat j); have r := rng32 (a + Int32.ofNat j); rw [ej] at e; omega
    have hj2 : j < ys.length := by omega
    have hx2 : a.toNatClampNeg + j < xs.length := by omega
    rw [List.drop_eq_getElem_cons hx2, List.drop_eq_getElem_cons hj2, own_pre] at hr
    generalize hX : xs[a.toNatClampNeg + j] = X at hr
    generalize hY : ys[j] = Y at hr
    show W K l _ n0 _ h0 0 0 17 #[.val (.ref d), .val (.int a), .val (.ref p), .val (.int (Int32.ofNat j))] []
    refine w_iloadN ok d3_17 rfl ?_
    show W K l _ n0 _ h0 0 0 18 #[.val (.ref d), .val (.int a), .val (.ref p), .val (.int (Int32.ofNat j))] [(.int (Int32.ofNat j))]
    refine w_aloadN ok d3_18 rfl rfl ?_
    show W K l _ n0 _ h0 0 0 19 #[.val (.ref d), .val (.int a), .val (.ref p), .val (.int (Int32.ofNat j))] [(.ref p), (.int (Int32.ofNat j))]
    refine w_arraylength ok (z := q) d3_19 A_p hq' hq0 ?_
    show W K l _ n0 _ h0 0 0 20 #[.val (.ref d), .val (.int a), .val (.ref p), .val (.int (Int32.ofNat j))] [(.int q), (.int (Int32.ofNat j))]
    refine w_icmp_ge ok d3_20 (pc' := 42) (by decide) (fun hc3 => False.elim (by rw [Int32.lt_iff_toInt_lt] at hc3; omega)) (fun hc3 => ?_)
    show W K l _ n0 _ h0 0 0 23 #[.val (.ref d), .val (.int a), .val (.ref p), .val (.int (Int32.ofNat j))] []
    refine w_aloadN ok d3_23 rfl rfl ?_
    show W K l _ n0 _ h0 0 0 24 #[.val (.ref d), .val (.int a), .val (.ref p), .val (.int (Int32.ofNat j))] [(.ref d)]
    refine w_iloadN ok d3_24 rfl ?_
    show W K l _ n0 _ h0 0 0 25 #[.val (.ref d), .val (.int a), .val (.ref p), .val (.int (Int32.ofNat j))] [(.int a), (.ref d)]
    refine w_iloadN ok d3_25 rfl ?_
    show W K l _ n0 _ h0 0 0 26 #[.val (.ref d), .val (.int a), .val (.ref p), .val (.int (Int32.ofNat j))] [(.int (Int32.ofNat j)), (.int a), (.ref d)]
    refine w_iadd ok d3_26 ?_
    show W K l _ n0 _ h0 0 0 27 #[.val (.ref d), .val (.int a), .val (.ref p), .val (.int (Int32.ofNat j))] [(.int (a + (Int32.ofNat j))), (.ref d)]
    refine w_baload ok (v := (.int X)) d3_27 A_d (own_nn ei) (by rw [own_clamp ei, own_bys hx2, hX]) ?_
    show W K l _ n0 _ h0 0 0 28 #[.val (.ref d), .val (.int a), .val (.ref p), .val (.int (Int32.ofNat j))] [(.int X)]
    refine w_aloadN ok d3_28 rfl rfl ?_
    show W K l _ n0 _ h0 0 0 29 #[.val (.ref d), .val (.int a), .val (.ref p), .val (.int (Int32.ofNat j))] [(.ref p), (.int X)]
    refine w_iloadN ok d3_29 rfl ?_
    show W K l _ n0 _ h0 0 0 30 #[.val (.ref d), .val (.int a), .val (.ref p), .val (.int (Int32.ofNat j))] [(.int (Int32.ofNat j)), (.ref p), (.int X)]
    refine w_baload ok (v := (.int Y)) d3_30 A_p (own_nn ej) (by rw [own_clamp ej, own_bys hj2, hY]) ?_
    show W K l _ n0 _ h0 0 0 31 #[.val (.ref d), .val (.int a), .val (.ref p), .val (.int (Int32.ofNat j))] [(.int Y), (.int X)]
    refine w_icmp_eq ok d3_31 (pc' := 36) (by decide) (fun hc5 => ?_) (fun hc5 => ?_)
    · show W K l _ n0 _ h0 0 0 36 #[.val (.ref d), .val (.int a), .val (.ref p), .val (.int (Int32.ofNat j))] []
      refine w_iinc ok d3_36 (u := (1 : Int32)) rfl rfl (L' := #[.val (.ref d), .val (.int a), .val (.ref p), .val (.int ((Int32.ofNat j) + (1 : Int32)))]) rfl ?_
      show W K l _ n0 _ h0 0 0 39 #[.val (.ref d), .val (.int a), .val (.ref p), .val (.int ((Int32.ofNat j) + (1 : Int32)))] []
      refine w_goto ok d3_39 (pc' := 17) (by decide) ?_
      show W K l _ n0 _ h0 0 0 17 #[.val (.ref d), .val (.int a), .val (.ref p), .val (.int ((Int32.ofNat j) + (1 : Int32)))] []
      rw [own_succ (by omega)]
      exact ih (j + 1) (by omega) (by rw [if_pos hc5] at hr; exact hr)
    · show W K l _ n0 _ h0 0 0 34 #[.val (.ref d), .val (.int a), .val (.ref p), .val (.int (Int32.ofNat j))] []
      refine w_iconst ok d3_34 (v := (0 : Int32)) rfl ?_
      show W K l _ n0 _ h0 0 0 35 #[.val (.ref d), .val (.int a), .val (.ref p), .val (.int (Int32.ofNat j))] [(.int (0 : Int32))]
      refine w_bret ok (by simp) d3_35 (by decide) (by decide) ?_
      refine ⟨?_, rfl⟩
      rw [if_neg hc5] at hr; rw [← hr] <;> rfl
set_option maxRecDepth 65536 in
set_option maxHeartbeats 40000000 in
theorem rm_m (l : Launch) (Z : State) (a0 : Array Value) (hw : ∀ d ∈ tables_1, d.before a0 Z = true) (ws : List Jvm.Cond) (n0 : Nat) (h0 : Heap) (Z0 : n0 ≤ h0.size) (d p : Addr) (xs ys : List Int32) (a : Int32) (A_d : PA .byte Z h0 d (bys xs)) (A_p : PA .byte Z h0 p (bys ys)) (hxs : xs.length < 2147483648) (hov : a.toInt + ys.length < 2147483648)  :
    Met l Z n0 (⟨"com/example/nakami/nakami/pdf/Bytes", "matches", "([BI[B)Z"⟩ : MethodName) prog_55_method_4_code 4 (some .boolean) ws ({ frames := 0, cells := 0, slots := 0, locals := 0 } : Room) #[(.ref d), (.int a), (.ref p)] h0 (fun u h => u = some (.int (nar .boolean (own_mt xs a ys))) ∧ h0 = h) := by
  refine met_of Z0 (plainFor_of_name pn_com_example_nakami_nakami_pdf_Bytes) (Ls := #[.val (.ref d), .val (.int a), .val (.ref p), .unset]) (fun m => by first | (simp [entryFrame, mkF, argsToLocals, Value.category]; done) | rfl) ?_
  intro K ok
  obtain ⟨q, hq, hq0⟩ := pa_z A_p.len
  obtain ⟨q2, hq2, hq20⟩ := pa_z A_d.len
  have eq := nat_of hq0
  have eq2 := nat_of hq20
  have m1 : (bys ys).length = ys.length := by simp
  have m2 : (bys xs).length = xs.length := by simp
  have e := c_iadd a q
  have r1 := rng32 (a + q)
  show W K l _ n0 _ h0 0 0 0 #[.val (.ref d), .val (.int a), .val (.ref p), .unset] []
  refine w_iloadN ok d3_0 rfl ?_
  show W K l _ n0 _ h0 0 0 1 #[.val (.ref d), .val (.int a), .val (.ref p), .unset] [(.int a)]
  refine w_if_lt ok d3_1 (pc' := 13) (by decide) (fun hc1 => ?_) (fun hc1 => ?_)
  · show W K l _ n0 _ h0 0 0 13 #[.val (.ref d), .val (.int a), .val (.ref p), .unset] []
    refine w_iconst ok d3_13 (v := (0 : Int32)) rfl ?_
    show W K l _ n0 _ h0 0 0 14 #[.val (.ref d), .val (.int a), .val (.ref p), .unset] [(.int (0 : Int32))]
    refine w_bret ok (by simp) d3_14 (by decide) (by decide) ?_
    refine ⟨?_, rfl⟩
    simp only [Int32.lt_iff_toInt_lt, Int32.reduceToInt] at *
    rw [own_mt, if_pos (by omega)] <;> rfl
  · show W K l _ n0 _ h0 0 0 4 #[.val (.ref d), .val (.int a), .val (.ref p), .unset] []
    refine w_iloadN ok d3_4 rfl ?_
    show W K l _ n0 _ h0 0 0 5 #[.val (.ref d), .val (.int a), .val (.ref p), .unset] [(.int a)]
    refine w_aloadN ok d3_5 rfl rfl ?_
    show W K l _ n0 _ h0 0 0 6 #[.val (.ref d), .val (.int a), .val (.ref p), .unset] [(.ref p), (.int a)]
    refine w_arraylength ok (z := q) d3_6 A_p hq hq0 ?_
    show W K l _ n0 _ h0 0 0 7 #[.val (.ref d), .val (.int a), .val (.ref p), .unset] [(.int q), (.int a)]
    refine w_iadd ok d3_7 ?_
    show W K l _ n0 _ h0 0 0 8 #[.val (.ref d), .val (.int a), .val (.ref p), .unset] [(.int (a + q))]
    refine w_aloadN ok d3_8 rfl rfl ?_
    show W K l _ n0 _ h0 0 0 9 #[.val (.ref d), .val (.int a), .val (.ref p), .unset] [(.ref d), (.int (a + q))]
    refine w_arraylength ok (z := q2) d3_9 A_d hq2 hq20 ?_
    show W K l _ n0 _ h0 0 0 10 #[.val (.ref d), .val (.int a), .val (.ref p), .unset] [(.int q2), (.int (a + q))]
    refine w_icmp_le ok d3_10 (pc' := 15) (by decide) (fun hc3 => ?_) (fun hc3 => ?_)
    · show W K l _ n0 _ h0 0 0 15 #[.val (.ref d), .val (.int a), .val (.ref p), .unset] []
      refine w_iconst ok d3_15 (v := (0 : Int32)) rfl ?_
      show W K l _ n0 _ h0 0 0 16 #[.val (.ref d), .val (.int a), .val (.ref p), .unset] [(.int (0 : Int32))]
      refine w_istoreN ok d3_16 (L' := #[.val (.ref d), .val (.int a), .val (.ref p), .val (.int (0 : Int32))]) rfl ?_
      show W K l _ n0 _ h0 0 0 17 #[.val (.ref d), .val (.int a), .val (.ref p), .val (.int (0 : Int32))] []
      rw [Int32.lt_iff_toInt_lt] at hc1 hc3
      have z0 : (0 : Int32).toInt = 0 := rfl
      have hm : own_mt xs a ys = own_pre (xs.drop (a.toNatClampNeg + 0)) (ys.drop 0) := by rw [own_mt, if_neg (by omega)] <;> rfl
      rw [hm]
      exact lp_m l Z a0 hw n0 h0 K ok d p xs ys a _ A_d A_p (by omega) (by omega) hxs _ 0 (Nat.zero_add _) rfl
    · show W K l _ n0 _ h0 0 0 13 #[.val (.ref d), .val (.int a), .val (.ref p), .unset] []
      refine w_iconst ok d3_13 (v := (0 : Int32)) rfl ?_
      show W K l _ n0 _ h0 0 0 14 #[.val (.ref d), .val (.int a), .val (.ref p), .unset] [(.int (0 : Int32))]
      refine w_bret ok (by simp) d3_14 (by decide) (by decide) ?_
      refine ⟨?_, rfl⟩
      simp only [Int32.lt_iff_toInt_lt, Int32.reduceToInt] at *
      rw [own_mt, if_pos (by omega)] <;> rfl
theorem d2_0 : decode method_2_code 0 = .ok (.lload_n 0, 1) := by decide +kernel
theorem d2_1 : decode method_2_code 1 = .ok (.bipush 8, 2) := by decide +kernel
theorem d2_3 : decode method_2_code 3 = .ok (.iload_n 2, 1) := by decide +kernel
theorem d2_4 : decode method_2_code 4 = .ok (.imul, 1) := by decide +kernel
theorem d2_5 : decode method_2_code 5 = .ok (.lushr, 1) := by decide +kernel
theorem d2_6 : decode method_2_code 6 = .ok (.l2i, 1) := by decide +kernel
theorem d2_7 : decode method_2_code 7 = .ok (.i2b, 1) := by decide +kernel
theorem d2_8 : decode method_2_code 8 = .ok (.ireturn, 1) := by decide +kernel
theorem pn_com_example_nakami_nakami_pdf_BytesMatchesPinLaw : plainName "com/example/nakami/nakami/pdf/BytesMatchesPinLaw" = true := by first | (simp [plainName, overriddenIn]; done) | decide +kernel
set_option maxRecDepth 65536 in
set_option maxHeartbeats 40000000 in
theorem rm_b (l : Launch) (Z : State) (a0 : Array Value) (hw : ∀ d ∈ tables_1, d.before a0 Z = true) (ws : List Jvm.Cond) (n0 : Nat) (h0 : Heap) (Z0 : n0 ≤ h0.size) (w : Int64) (k : Int32)  :
    Met l Z n0 (⟨"com/example/nakami/nakami/pdf/BytesMatchesPinLaw", "b", "(JI)B"⟩ : MethodName) method_2_code 3 (some .byte) ws ({ frames := 0, cells := 0, slots := 0, locals := 0 } : Room) #[(.long w), (.int k)] h0 (fun u h => (∃ z : Int32, u = some (.int z)) ∧ h0 = h) := by
  refine met_of Z0 (plainFor_of_name pn_com_example_nakami_nakami_pdf_BytesMatchesPinLaw) (Ls := #[.val (.long w), .second, .val (.int k)]) (fun m => by first | (simp [entryFrame, mkF, argsToLocals, Value.category]; done) | rfl) ?_
  intro K ok
  show W K l _ n0 _ h0 0 0 0 #[.val (.long w), .second, .val (.int k)] []
  refine w_lloadN ok d2_0 rfl ?_
  show W K l _ n0 _ h0 0 0 1 #[.val (.long w), .second, .val (.int k)] [(.long w)]
  refine w_bipush ok d2_1 (v := (8 : Int32)) rfl ?_
  show W K l _ n0 _ h0 0 0 3 #[.val (.long w), .second, .val (.int k)] [(.int (8 : Int32)), (.long w)]
  refine w_iloadN ok d2_3 rfl ?_
  show W K l _ n0 _ h0 0 0 4 #[.val (.long w), .second, .val (.int k)] [(.int k), (.int (8 : Int32)), (.long w)]
  refine w_imul ok d2_4 ?_
  show W K l _ n0 _ h0 0 0 5 #[.val (.long w), .second, .val (.int k)] [(.int ((8 : Int32) * k)), (.long w)]
  refine w_lushr ok d2_5 ?_
  show W K l _ n0 _ h0 0 0 6 #[.val (.long w), .second, .val (.int k)] [(.long ((w.toUInt64 >>> (((8 : Int32) * k) &&& 0x3f).toInt64.toUInt64).toInt64))]
  refine w_l2i ok d2_6 ?_
  show W K l _ n0 _ h0 0 0 7 #[.val (.long w), .second, .val (.int k)] [(.int (((w.toUInt64 >>> (((8 : Int32) * k) &&& 0x3f).toInt64.toUInt64).toInt64).toInt32))]
  refine w_i2b ok d2_7 ?_
  show W K l _ n0 _ h0 0 0 8 #[.val (.long w), .second, .val (.int k)] [(.int ((((w.toUInt64 >>> (((8 : Int32) * k) &&& 0x3f).toInt64.toUInt64).toInt64).toInt32).toInt8.toInt32))]
  refine w_bret ok (by simp) d2_8 (by decide) (by decide) ?_
  exact ⟨⟨_, rfl⟩, rfl⟩
theorem d4_0 : decode method_4_code 0 = .ok (.iload_n 1, 1) := by decide +kernel
theorem d4_1 : decode method_4_code 1 = .ok (.iload_n 2, 1) := by decide +kernel
theorem d4_2 : decode method_4_code 2 = .ok (.iadd, 1) := by decide +kernel
theorem d4_3 : decode method_4_code 3 = .ok (.istore 6, 2) := by decide +kernel
theorem d4_5 : decode method_4_code 5 = .ok (.iload 5, 2) := by decide +kernel
theorem d4_7 : decode method_4_code 7 = .ok (.iload_n 2, 1) := by decide +kernel
theorem d4_8 : decode method_4_code 8 = .ok (.iushr, 1) := by decide +kernel
theorem d4_9 : decode method_4_code 9 = .ok (.iconst 1, 1) := by decide +kernel
theorem d4_10 : decode method_4_code 10 = .ok (.iand, 1) := by decide +kernel
theorem d4_11 : decode method_4_code 11 = .ok (.ifCond .eq 20, 3) := by decide +kernel
theorem d4_14 : decode method_4_code 14 = .ok (.iload 6, 2) := by decide +kernel
theorem d4_16 : decode method_4_code 16 = .ok (.ifCond .lt 15, 3) := by decide +kernel
theorem d4_19 : decode method_4_code 19 = .ok (.iload 6, 2) := by decide +kernel
theorem d4_21 : decode method_4_code 21 = .ok (.aload_n 0, 1) := by decide +kernel
theorem d4_22 : decode method_4_code 22 = .ok (.arraylength, 1) := by decide +kernel
theorem d4_23 : decode method_4_code 23 = .ok (.if_icmp .ge 8, 3) := by decide +kernel
theorem d4_26 : decode method_4_code 26 = .ok (.aload_n 0, 1) := by decide +kernel
theorem d4_27 : decode method_4_code 27 = .ok (.iload 6, 2) := by decide +kernel
theorem d4_29 : decode method_4_code 29 = .ok (.baload, 1) := by decide +kernel
theorem d4_30 : decode method_4_code 30 = .ok (.ireturn, 1) := by decide +kernel
theorem d4_31 : decode method_4_code 31 = .ok (.lload_n 3, 1) := by decide +kernel
theorem d4_32 : decode method_4_code 32 = .ok (.iload_n 2, 1) := by decide +kernel
theorem d4_33 : decode method_4_code 33 = .ok (.invokestatic 7, 3) := by decide +kernel
theorem d4_36 : decode method_4_code 36 = .ok (.ireturn, 1) := by decide +kernel
theorem pd_28JI29B : parseMethodDescriptor "(JI)B" = some ⟨[.long, .int], some .byte⟩ := by decide +kernel
set_option maxRecDepth 65536 in
set_option maxHeartbeats 40000000 in
theorem rm_pat (l : Launch) (Z : State) (a0 : Array Value) (hw : ∀ d ∈ tables_1, d.before a0 Z = true) (ws : List Jvm.Cond) (n0 : Nat) (h0 : Heap) (Z0 : n0 ≤ h0.size) (d : Addr) (xs : List Int32) (a i : Int32) (q : Int64) (pk : Int32) (A_d : PA .byte Z h0 d (bys xs))  :
    Met l Z n0 (⟨"com/example/nakami/nakami/pdf/BytesMatchesPinLaw", "pat", "([BIIJI)B"⟩ : MethodName) method_4_code 7 (some .byte) ws ({ frames := 1, cells := 0, slots := 0, locals := 14 } : Room) #[(.ref d), (.int a), (.int i), (.long q), (.int pk)] h0 (fun u h => (∃ z : Int32, u = some (.int z)) ∧ h0 = h) := by
  refine met_of Z0 (plainFor_of_name pn_com_example_nakami_nakami_pdf_BytesMatchesPinLaw) (Ls := #[.val (.ref d), .val (.int a), .val (.int i), .val (.long q), .second, .val (.int pk), .unset]) (fun m => by first | (simp [entryFrame, mkF, argsToLocals, Value.category]; done) | rfl) ?_
  intro K ok
  obtain ⟨q2, hq2, hq20⟩ := pa_z A_d.len
  have eq2 := nat_of hq20
  have m2 : (bys xs).length = xs.length := by simp
  show W K l _ n0 _ h0 0 0 0 #[.val (.ref d), .val (.int a), .val (.int i), .val (.long q), .second, .val (.int pk), .unset] []
  refine w_iloadN ok d4_0 rfl ?_
  show W K l _ n0 _ h0 0 0 1 #[.val (.ref d), .val (.int a), .val (.int i), .val (.long q), .second, .val (.int pk), .unset] [(.int a)]
  refine w_iloadN ok d4_1 rfl ?_
  show W K l _ n0 _ h0 0 0 2 #[.val (.ref d), .val (.int a), .val (.int i), .val (.long q), .second, .val (.int pk), .unset] [(.int i), (.int a)]
  refine w_iadd ok d4_2 ?_
  show W K l _ n0 _ h0 0 0 3 #[.val (.ref d), .val (.int a), .val (.int i), .val (.long q), .second, .val (.int pk), .unset] [(.int (a + i))]
  refine w_istore ok d4_3 (L' := #[.val (.ref d), .val (.int a), .val (.int i), .val (.long q), .second, .val (.int pk), .val (.int (a + i))]) rfl ?_
  show W K l _ n0 _ h0 0 0 5 #[.val (.ref d), .val (.int a), .val (.int i), .val (.long q), .second, .val (.int pk), .val (.int (a + i))] []
  refine w_iload ok d4_5 rfl ?_
  show W K l _ n0 _ h0 0 0 7 #[.val (.ref d), .val (.int a), .val (.int i), .val (.long q), .second, .val (.int pk), .val (.int (a + i))] [(.int pk)]
  refine w_iloadN ok d4_7 rfl ?_
  show W K l _ n0 _ h0 0 0 8 #[.val (.ref d), .val (.int a), .val (.int i), .val (.long q), .second, .val (.int pk), .val (.int (a + i))] [(.int i), (.int pk)]
  refine w_iushr ok d4_8 ?_
  show W K l _ n0 _ h0 0 0 9 #[.val (.ref d), .val (.int a), .val (.int i), .val (.long q), .second, .val (.int pk), .val (.int (a + i))] [(.int (Jvm.Free.XT.ushr pk i))]
  refine w_iconst ok d4_9 (v := (1 : Int32)) rfl ?_
  show W K l _ n0 _ h0 0 0 10 #[.val (.ref d), .val (.int a), .val (.int i), .val (.long q), .second, .val (.int pk), .val (.int (a + i))] [(.int (1 : Int32)), (.int (Jvm.Free.XT.ushr pk i))]
  refine w_iand ok d4_10 ?_
  show W K l _ n0 _ h0 0 0 11 #[.val (.ref d), .val (.int a), .val (.int i), .val (.long q), .second, .val (.int pk), .val (.int (a + i))] [(.int ((Jvm.Free.XT.ushr pk i) &&& (1 : Int32)))]
  refine w_if_eq ok d4_11 (pc' := 31) (by decide) (fun hc1 => ?_) (fun hc1 => ?_)
  · show W K l _ n0 _ h0 0 0 31 #[.val (.ref d), .val (.int a), .val (.int i), .val (.long q), .second, .val (.int pk), .val (.int (a + i))] []
    refine w_lloadN ok d4_31 rfl ?_
    show W K l _ n0 _ h0 0 0 32 #[.val (.ref d), .val (.int a), .val (.int i), .val (.long q), .second, .val (.int pk), .val (.int (a + i))] [(.long q)]
    refine w_iloadN ok d4_32 rfl ?_
    show W K l _ n0 _ h0 0 0 33 #[.val (.ref d), .val (.int a), .val (.int i), .val (.long q), .second, .val (.int pk), .val (.int (a + i))] [(.int i), (.long q)]
    refine w_callS ok (y := (⟨"com/example/nakami/nakami/pdf/BytesMatchesPinLaw", "b", "(JI)B"⟩ : MethodName)) (argsL := [(.long q), (.int i)]) (rest := []) d4_33 (hw _ (List.mem_of_getElem? (i := 5) rfl)) (hw _ (List.mem_of_getElem? (i := 6) rfl)) (hw _ (List.mem_of_getElem? (i := 2) rfl)) (hw _ (List.mem_of_getElem? (i := 7) rfl)) (by decide) pd_28JI29B rfl rfl (by decide) (Nat.le_of_ble_eq_true rfl) (by decide) (by decide) (fun z0 => rm_b l Z a0 hw [] n0 h0 z0 q i) (fun v2 h3 qv2 => ?_)
    obtain ⟨⟨z4, rfl⟩, rfl⟩ := qv2
    show W K l _ n0 _ h0 0 0 36 #[.val (.ref d), .val (.int a), .val (.int i), .val (.long q), .second, .val (.int pk), .val (.int (a + i))] [(.int z4)]
    refine w_bret ok (by simp) d4_36 (by decide) (by decide) ?_
    exact ⟨⟨_, rfl⟩, rfl⟩
  · show W K l _ n0 _ h0 0 0 14 #[.val (.ref d), .val (.int a), .val (.int i), .val (.long q), .second, .val (.int pk), .val (.int (a + i))] []
    refine w_iload ok d4_14 rfl ?_
    show W K l _ n0 _ h0 0 0 16 #[.val (.ref d), .val (.int a), .val (.int i), .val (.long q), .second, .val (.int pk), .val (.int (a + i))] [(.int (a + i))]
    refine w_if_lt ok d4_16 (pc' := 31) (by decide) (fun hc6 => ?_) (fun hc6 => ?_)
    · show W K l _ n0 _ h0 0 0 31 #[.val (.ref d), .val (.int a), .val (.int i), .val (.long q), .second, .val (.int pk), .val (.int (a + i))] []
      refine w_lloadN ok d4_31 rfl ?_
      show W K l _ n0 _ h0 0 0 32 #[.val (.ref d), .val (.int a), .val (.int i), .val (.long q), .second, .val (.int pk), .val (.int (a + i))] [(.long q)]
      refine w_iloadN ok d4_32 rfl ?_
      show W K l _ n0 _ h0 0 0 33 #[.val (.ref d), .val (.int a), .val (.int i), .val (.long q), .second, .val (.int pk), .val (.int (a + i))] [(.int i), (.long q)]
      refine w_callS ok (y := (⟨"com/example/nakami/nakami/pdf/BytesMatchesPinLaw", "b", "(JI)B"⟩ : MethodName)) (argsL := [(.long q), (.int i)]) (rest := []) d4_33 (hw _ (List.mem_of_getElem? (i := 5) rfl)) (hw _ (List.mem_of_getElem? (i := 6) rfl)) (hw _ (List.mem_of_getElem? (i := 2) rfl)) (hw _ (List.mem_of_getElem? (i := 7) rfl)) (by decide) pd_28JI29B rfl rfl (by decide) (Nat.le_of_ble_eq_true rfl) (by decide) (by decide) (fun z0 => rm_b l Z a0 hw [] n0 h0 z0 q i) (fun v7 h8 qv7 => ?_)
      obtain ⟨⟨z9, rfl⟩, rfl⟩ := qv7
      show W K l _ n0 _ h0 0 0 36 #[.val (.ref d), .val (.int a), .val (.int i), .val (.long q), .second, .val (.int pk), .val (.int (a + i))] [(.int z9)]
      refine w_bret ok (by simp) d4_36 (by decide) (by decide) ?_
      exact ⟨⟨_, rfl⟩, rfl⟩
    · show W K l _ n0 _ h0 0 0 19 #[.val (.ref d), .val (.int a), .val (.int i), .val (.long q), .second, .val (.int pk), .val (.int (a + i))] []
      refine w_iload ok d4_19 rfl ?_
      show W K l _ n0 _ h0 0 0 21 #[.val (.ref d), .val (.int a), .val (.int i), .val (.long q), .second, .val (.int pk), .val (.int (a + i))] [(.int (a + i))]
      refine w_aloadN ok d4_21 rfl rfl ?_
      show W K l _ n0 _ h0 0 0 22 #[.val (.ref d), .val (.int a), .val (.int i), .val (.long q), .second, .val (.int pk), .val (.int (a + i))] [(.ref d), (.int (a + i))]
      refine w_arraylength ok (z := q2) d4_22 A_d hq2 hq20 ?_
      show W K l _ n0 _ h0 0 0 23 #[.val (.ref d), .val (.int a), .val (.int i), .val (.long q), .second, .val (.int pk), .val (.int (a + i))] [(.int q2), (.int (a + i))]
      refine w_icmp_ge ok d4_23 (pc' := 31) (by decide) (fun hc11 => ?_) (fun hc11 => ?_)
      · show W K l _ n0 _ h0 0 0 31 #[.val (.ref d), .val (.int a), .val (.int i), .val (.long q), .second, .val (.int pk), .val (.int (a + i))] []
        refine w_lloadN ok d4_31 rfl ?_
        show W K l _ n0 _ h0 0 0 32 #[.val (.ref d), .val (.int a), .val (.int i), .val (.long q), .second, .val (.int pk), .val (.int (a + i))] [(.long q)]
        refine w_iloadN ok d4_32 rfl ?_
        show W K l _ n0 _ h0 0 0 33 #[.val (.ref d), .val (.int a), .val (.int i), .val (.long q), .second, .val (.int pk), .val (.int (a + i))] [(.int i), (.long q)]
        refine w_callS ok (y := (⟨"com/example/nakami/nakami/pdf/BytesMatchesPinLaw", "b", "(JI)B"⟩ : MethodName)) (argsL := [(.long q), (.int i)]) (rest := []) d4_33 (hw _ (List.mem_of_getElem? (i := 5) rfl)) (hw _ (List.mem_of_getElem? (i := 6) rfl)) (hw _ (List.mem_of_getElem? (i := 2) rfl)) (hw _ (List.mem_of_getElem? (i := 7) rfl)) (by decide) pd_28JI29B rfl rfl (by decide) (Nat.le_of_ble_eq_true rfl) (by decide) (by decide) (fun z0 => rm_b l Z a0 hw [] n0 h0 z0 q i) (fun v12 h13 qv12 => ?_)
        obtain ⟨⟨z14, rfl⟩, rfl⟩ := qv12
        show W K l _ n0 _ h0 0 0 36 #[.val (.ref d), .val (.int a), .val (.int i), .val (.long q), .second, .val (.int pk), .val (.int (a + i))] [(.int z14)]
        refine w_bret ok (by simp) d4_36 (by decide) (by decide) ?_
        exact ⟨⟨_, rfl⟩, rfl⟩
      · show W K l _ n0 _ h0 0 0 26 #[.val (.ref d), .val (.int a), .val (.int i), .val (.long q), .second, .val (.int pk), .val (.int (a + i))] []
        refine w_aloadN ok d4_26 rfl rfl ?_
        show W K l _ n0 _ h0 0 0 27 #[.val (.ref d), .val (.int a), .val (.int i), .val (.long q), .second, .val (.int pk), .val (.int (a + i))] [(.ref d)]
        refine w_iload ok d4_27 rfl ?_
        show W K l _ n0 _ h0 0 0 29 #[.val (.ref d), .val (.int a), .val (.int i), .val (.long q), .second, .val (.int pk), .val (.int (a + i))] [(.int (a + i)), (.ref d)]
        have hlt : (a + i).toNatClampNeg < xs.length := by have := nat_of hc6; rw [Int32.lt_iff_toInt_lt] at hc11; omega
        refine w_baload ok (v := (.int (xs[(a + i).toNatClampNeg]))) d4_29 A_d hc6 (own_bys hlt) ?_
        show W K l _ n0 _ h0 0 0 30 #[.val (.ref d), .val (.int a), .val (.int i), .val (.long q), .second, .val (.int pk), .val (.int (a + i))] [(.int (xs[(a + i).toNatClampNeg]))]
        refine w_bret ok (by simp) d4_30 (by decide) (by decide) ?_
        exact ⟨⟨_, rfl⟩, rfl⟩
theorem d1_0 : decode method_3_code 0 = .ok (.iload_n 2, 1) := by decide +kernel
theorem d1_1 : decode method_3_code 1 = .ok (.newarray .byte, 2) := by decide +kernel
theorem d1_3 : decode method_3_code 3 = .ok (.astore_n 3, 1) := by decide +kernel
theorem d1_4 : decode method_3_code 4 = .ok (.iload_n 2, 1) := by decide +kernel
theorem d1_5 : decode method_3_code 5 = .ok (.ifCond .le 11, 3) := by decide +kernel
theorem d1_8 : decode method_3_code 8 = .ok (.aload_n 3, 1) := by decide +kernel
theorem d1_9 : decode method_3_code 9 = .ok (.iconst 0, 1) := by decide +kernel
theorem d1_10 : decode method_3_code 10 = .ok (.lload_n 0, 1) := by decide +kernel
theorem d1_11 : decode method_3_code 11 = .ok (.iconst 0, 1) := by decide +kernel
theorem d1_12 : decode method_3_code 12 = .ok (.invokestatic 7, 3) := by decide +kernel
theorem d1_15 : decode method_3_code 15 = .ok (.bastore, 1) := by decide +kernel
theorem d1_16 : decode method_3_code 16 = .ok (.iload_n 2, 1) := by decide +kernel
theorem d1_17 : decode method_3_code 17 = .ok (.iconst 1, 1) := by decide +kernel
theorem d1_18 : decode method_3_code 18 = .ok (.if_icmp .le 11, 3) := by decide +kernel
theorem d1_21 : decode method_3_code 21 = .ok (.aload_n 3, 1) := by decide +kernel
theorem d1_22 : decode method_3_code 22 = .ok (.iconst 1, 1) := by decide +kernel
theorem d1_23 : decode method_3_code 23 = .ok (.lload_n 0, 1) := by decide +kernel
theorem d1_24 : decode method_3_code 24 = .ok (.iconst 1, 1) := by decide +kernel
theorem d1_25 : decode method_3_code 25 = .ok (.invokestatic 7, 3) := by decide +kernel
theorem d1_28 : decode method_3_code 28 = .ok (.bastore, 1) := by decide +kernel
theorem d1_29 : decode method_3_code 29 = .ok (.iload_n 2, 1) := by decide +kernel
theorem d1_30 : decode method_3_code 30 = .ok (.iconst 2, 1) := by decide +kernel
theorem d1_31 : decode method_3_code 31 = .ok (.if_icmp .le 11, 3) := by decide +kernel
theorem d1_34 : decode method_3_code 34 = .ok (.aload_n 3, 1) := by decide +kernel
theorem d1_35 : decode method_3_code 35 = .ok (.iconst 2, 1) := by decide +kernel
theorem d1_36 : decode method_3_code 36 = .ok (.lload_n 0, 1) := by decide +kernel
theorem d1_37 : decode method_3_code 37 = .ok (.iconst 2, 1) := by decide +kernel
theorem d1_38 : decode method_3_code 38 = .ok (.invokestatic 7, 3) := by decide +kernel
theorem d1_41 : decode method_3_code 41 = .ok (.bastore, 1) := by decide +kernel
theorem d1_42 : decode method_3_code 42 = .ok (.iload_n 2, 1) := by decide +kernel
theorem d1_43 : decode method_3_code 43 = .ok (.iconst 3, 1) := by decide +kernel
theorem d1_44 : decode method_3_code 44 = .ok (.if_icmp .le 11, 3) := by decide +kernel
theorem d1_47 : decode method_3_code 47 = .ok (.aload_n 3, 1) := by decide +kernel
theorem d1_48 : decode method_3_code 48 = .ok (.iconst 3, 1) := by decide +kernel
theorem d1_49 : decode method_3_code 49 = .ok (.lload_n 0, 1) := by decide +kernel
theorem d1_50 : decode method_3_code 50 = .ok (.iconst 3, 1) := by decide +kernel
theorem d1_51 : decode method_3_code 51 = .ok (.invokestatic 7, 3) := by decide +kernel
theorem d1_54 : decode method_3_code 54 = .ok (.bastore, 1) := by decide +kernel
theorem d1_55 : decode method_3_code 55 = .ok (.iload_n 2, 1) := by decide +kernel
theorem d1_56 : decode method_3_code 56 = .ok (.iconst 4, 1) := by decide +kernel
theorem d1_57 : decode method_3_code 57 = .ok (.if_icmp .le 11, 3) := by decide +kernel
theorem d1_60 : decode method_3_code 60 = .ok (.aload_n 3, 1) := by decide +kernel
theorem d1_61 : decode method_3_code 61 = .ok (.iconst 4, 1) := by decide +kernel
theorem d1_62 : decode method_3_code 62 = .ok (.lload_n 0, 1) := by decide +kernel
theorem d1_63 : decode method_3_code 63 = .ok (.iconst 4, 1) := by decide +kernel
theorem d1_64 : decode method_3_code 64 = .ok (.invokestatic 7, 3) := by decide +kernel
theorem d1_67 : decode method_3_code 67 = .ok (.bastore, 1) := by decide +kernel
theorem d1_68 : decode method_3_code 68 = .ok (.aload_n 3, 1) := by decide +kernel
theorem d1_69 : decode method_3_code 69 = .ok (.areturn, 1) := by decide +kernel
set_option maxRecDepth 65536 in
set_option maxHeartbeats 40000000 in
theorem rm_make (l : Launch) (Z : State) (a0 : Array Value) (hw : ∀ d ∈ tables_1, d.before a0 Z = true) (ws : List Jvm.Cond) (n0 : Nat) (h0 : Heap) (Z0 : n0 ≤ h0.size) (d : Int64) (n : Int32) (hn : n = 0 ∨ n = 1 ∨ n = 2 ∨ n = 3 ∨ n = 4 ∨ n = 5) :
    Met l Z n0 (⟨"com/example/nakami/nakami/pdf/BytesMatchesPinLaw", "makeData", "(JI)[B"⟩ : MethodName) method_3_code 4 (some (.array .byte)) ws ({ frames := 1, cells := 1, slots := 5, locals := 16 } : Room) #[.long d, .int n] h0 (fun u h => ∃ b xs, u = some (.ref b) ∧ h0.size ≤ b ∧ n0 ≤ b ∧ Keep h0 h [] ∧ PA .byte Z h b (bys xs) ∧ (xs.length : Int) = n.toInt) := by
  refine met_of Z0 (plainFor_of_name pn_com_example_nakami_nakami_pdf_BytesMatchesPinLaw) (Ls := #[.val (.long d), .second, .val (.int n), .unset]) (fun m => by first | (simp [entryFrame, mkF, argsToLocals, Value.category]; done) | rfl) ?_
  intro K ok
  rcases hn with rfl | rfl | rfl | rfl | rfl | rfl
  · have Kp : Keep h0 h0 [] := Keep.refl _ _
    show W K l _ n0 _ h0 0 0 0 #[.val (.long d), .second, .val (.int (0 : Int32)), .unset] []
    refine w_iloadN ok d1_0 rfl ?_
    show W K l _ n0 _ h0 0 0 1 #[.val (.long d), .second, .val (.int (0 : Int32)), .unset] [(.int (0 : Int32))]
    refine w_newarray ok d1_1 (hw _ (List.mem_of_getElem? (i := 4) rfl)) (by decide) (cap := 0) (by decide) (by decide) (by decide) (by decide) (fun h2 b1 ea_b1 ge_b1 E_b1 A_b1 => ?_)
    have sz_b1 : h0.size ≤ b1 := Nat.le_trans Kp.1 (Nat.le_of_eq ea_b1.symm)
    replace Kp := Kp.ext E_b1
    replace A_b1 : PA .byte Z h2 b1 [] := A_b1
    show W K l _ n0 _ h2 1 0 3 #[.val (.long d), .second, .val (.int (0 : Int32)), .unset] [(.ref b1)]
    refine w_astoreN ok d1_3 rfl (L' := #[.val (.long d), .second, .val (.int (0 : Int32)), .val (.ref b1)]) rfl ?_
    show W K l _ n0 _ h2 1 0 4 #[.val (.long d), .second, .val (.int (0 : Int32)), .val (.ref b1)] []
    refine w_iloadN ok d1_4 rfl ?_
    show W K l _ n0 _ h2 1 0 5 #[.val (.long d), .second, .val (.int (0 : Int32)), .val (.ref b1)] [(.int (0 : Int32))]
    refine w_if_le ok d1_5 (pc' := 16) (by decide) (fun hc4 => ?_) (fun hc4 => False.elim (by revert hc4; decide))
    show W K l _ n0 _ h2 1 0 16 #[.val (.long d), .second, .val (.int (0 : Int32)), .val (.ref b1)] []
    refine w_iloadN ok d1_16 rfl ?_
    show W K l _ n0 _ h2 1 0 17 #[.val (.long d), .second, .val (.int (0 : Int32)), .val (.ref b1)] [(.int (0 : Int32))]
    refine w_iconst ok d1_17 (v := (1 : Int32)) rfl ?_
    show W K l _ n0 _ h2 1 0 18 #[.val (.long d), .second, .val (.int (0 : Int32)), .val (.ref b1)] [(.int (1 : Int32)), (.int (0 : Int32))]
    refine w_icmp_le ok d1_18 (pc' := 29) (by decide) (fun hc6 => ?_) (fun hc6 => False.elim (by revert hc6; decide))
    show W K l _ n0 _ h2 1 0 29 #[.val (.long d), .second, .val (.int (0 : Int32)), .val (.ref b1)] []
    refine w_iloadN ok d1_29 rfl ?_
    show W K l _ n0 _ h2 1 0 30 #[.val (.long d), .second, .val (.int (0 : Int32)), .val (.ref b1)] [(.int (0 : Int32))]
    refine w_iconst ok d1_30 (v := (2 : Int32)) rfl ?_
    show W K l _ n0 _ h2 1 0 31 #[.val (.long d), .second, .val (.int (0 : Int32)), .val (.ref b1)] [(.int (2 : Int32)), (.int (0 : Int32))]
    refine w_icmp_le ok d1_31 (pc' := 42) (by decide) (fun hc8 => ?_) (fun hc8 => False.elim (by revert hc8; decide))
    show W K l _ n0 _ h2 1 0 42 #[.val (.long d), .second, .val (.int (0 : Int32)), .val (.ref b1)] []
    refine w_iloadN ok d1_42 rfl ?_
    show W K l _ n0 _ h2 1 0 43 #[.val (.long d), .second, .val (.int (0 : Int32)), .val (.ref b1)] [(.int (0 : Int32))]
    refine w_iconst ok d1_43 (v := (3 : Int32)) rfl ?_
    show W K l _ n0 _ h2 1 0 44 #[.val (.long d), .second, .val (.int (0 : Int32)), .val (.ref b1)] [(.int (3 : Int32)), (.int (0 : Int32))]
    refine w_icmp_le ok d1_44 (pc' := 55) (by decide) (fun hc10 => ?_) (fun hc10 => False.elim (by revert hc10; decide))
    show W K l _ n0 _ h2 1 0 55 #[.val (.long d), .second, .val (.int (0 : Int32)), .val (.ref b1)] []
    refine w_iloadN ok d1_55 rfl ?_
    show W K l _ n0 _ h2 1 0 56 #[.val (.long d), .second, .val (.int (0 : Int32)), .val (.ref b1)] [(.int (0 : Int32))]
    refine w_iconst ok d1_56 (v := (4 : Int32)) rfl ?_
    show W K l _ n0 _ h2 1 0 57 #[.val (.long d), .second, .val (.int (0 : Int32)), .val (.ref b1)] [(.int (4 : Int32)), (.int (0 : Int32))]
    refine w_icmp_le ok d1_57 (pc' := 68) (by decide) (fun hc12 => ?_) (fun hc12 => False.elim (by revert hc12; decide))
    show W K l _ n0 _ h2 1 0 68 #[.val (.long d), .second, .val (.int (0 : Int32)), .val (.ref b1)] []
    refine w_aloadN ok d1_68 rfl rfl ?_
    show W K l _ n0 _ h2 1 0 69 #[.val (.long d), .second, .val (.int (0 : Int32)), .val (.ref b1)] [(.ref b1)]
    refine w_aret ok rfl rfl d1_69 (by decide) (by decide) ?_
    exact ⟨b1, [], rfl, sz_b1, ge_b1, Kp, A_b1, rfl⟩
  · have Kp : Keep h0 h0 [] := Keep.refl _ _
    show W K l _ n0 _ h0 0 0 0 #[.val (.long d), .second, .val (.int (1 : Int32)), .unset] []
    refine w_iloadN ok d1_0 rfl ?_
    show W K l _ n0 _ h0 0 0 1 #[.val (.long d), .second, .val (.int (1 : Int32)), .unset] [(.int (1 : Int32))]
    refine w_newarray ok d1_1 (hw _ (List.mem_of_getElem? (i := 4) rfl)) (by decide) (cap := 1) (by decide) (by decide) (by decide) (by decide) (fun h2 b1 ea_b1 ge_b1 E_b1 A_b1 => ?_)
    have sz_b1 : h0.size ≤ b1 := Nat.le_trans Kp.1 (Nat.le_of_eq ea_b1.symm)
    replace Kp := Kp.ext E_b1
    replace A_b1 : PA .byte Z h2 b1 [(.int (0 : Int32))] := A_b1
    show W K l _ n0 _ h2 1 1 3 #[.val (.long d), .second, .val (.int (1 : Int32)), .unset] [(.ref b1)]
    refine w_astoreN ok d1_3 rfl (L' := #[.val (.long d), .second, .val (.int (1 : Int32)), .val (.ref b1)]) rfl ?_
    show W K l _ n0 _ h2 1 1 4 #[.val (.long d), .second, .val (.int (1 : Int32)), .val (.ref b1)] []
    refine w_iloadN ok d1_4 rfl ?_
    show W K l _ n0 _ h2 1 1 5 #[.val (.long d), .second, .val (.int (1 : Int32)), .val (.ref b1)] [(.int (1 : Int32))]
    refine w_if_le ok d1_5 (pc' := 16) (by decide) (fun hc4 => False.elim (by revert hc4; decide)) (fun hc4 => ?_)
    show W K l _ n0 _ h2 1 1 8 #[.val (.long d), .second, .val (.int (1 : Int32)), .val (.ref b1)] []
    refine w_aloadN ok d1_8 rfl rfl ?_
    show W K l _ n0 _ h2 1 1 9 #[.val (.long d), .second, .val (.int (1 : Int32)), .val (.ref b1)] [(.ref b1)]
    refine w_iconst ok d1_9 (v := (0 : Int32)) rfl ?_
    show W K l _ n0 _ h2 1 1 10 #[.val (.long d), .second, .val (.int (1 : Int32)), .val (.ref b1)] [(.int (0 : Int32)), (.ref b1)]
    refine w_lloadN ok d1_10 rfl ?_
    show W K l _ n0 _ h2 1 1 11 #[.val (.long d), .second, .val (.int (1 : Int32)), .val (.ref b1)] [(.long d), (.int (0 : Int32)), (.ref b1)]
    refine w_iconst ok d1_11 (v := (0 : Int32)) rfl ?_
    show W K l _ n0 _ h2 1 1 12 #[.val (.long d), .second, .val (.int (1 : Int32)), .val (.ref b1)] [(.int (0 : Int32)), (.long d), (.int (0 : Int32)), (.ref b1)]
    refine w_callS ok (y := (⟨"com/example/nakami/nakami/pdf/BytesMatchesPinLaw", "b", "(JI)B"⟩ : MethodName)) (argsL := [(.long d), (.int (0 : Int32))]) (rest := [(.int (0 : Int32)), (.ref b1)]) d1_12 (hw _ (List.mem_of_getElem? (i := 5) rfl)) (hw _ (List.mem_of_getElem? (i := 6) rfl)) (hw _ (List.mem_of_getElem? (i := 2) rfl)) (hw _ (List.mem_of_getElem? (i := 7) rfl)) (by decide) pd_28JI29B rfl rfl (by decide) (Nat.le_of_ble_eq_true rfl) (by decide) (by decide) (fun z0 => rm_b l Z a0 hw [] n0 h2 z0 d (0 : Int32)) (fun v5 h6 qv5 => ?_)
    obtain ⟨⟨z7, rfl⟩, rfl⟩ := qv5
    show W K l _ n0 _ h2 1 1 15 #[.val (.long d), .second, .val (.int (1 : Int32)), .val (.ref b1)] [(.int z7), (.int (0 : Int32)), (.ref b1)]
    refine w_bastore ok d1_15 A_b1 ge_b1 (by decide) (Nat.le_of_ble_eq_true rfl) (fun h8 W_h8 A1_h8 => ?_)
    replace Kp := Kp.wr W_h8 (Or.inr sz_b1)
    replace A_b1 : PA .byte Z h8 b1 [(.int (nar .byte z7))] := A1_h8
    show W K l _ n0 _ h8 1 1 16 #[.val (.long d), .second, .val (.int (1 : Int32)), .val (.ref b1)] []
    refine w_iloadN ok d1_16 rfl ?_
    show W K l _ n0 _ h8 1 1 17 #[.val (.long d), .second, .val (.int (1 : Int32)), .val (.ref b1)] [(.int (1 : Int32))]
    refine w_iconst ok d1_17 (v := (1 : Int32)) rfl ?_
    show W K l _ n0 _ h8 1 1 18 #[.val (.long d), .second, .val (.int (1 : Int32)), .val (.ref b1)] [(.int (1 : Int32)), (.int (1 : Int32))]
    refine w_icmp_le ok d1_18 (pc' := 29) (by decide) (fun hc10 => ?_) (fun hc10 => False.elim (by revert hc10; decide))
    show W K l _ n0 _ h8 1 1 29 #[.val (.long d), .second, .val (.int (1 : Int32)), .val (.ref b1)] []
    refine w_iloadN ok d1_29 rfl ?_
    show W K l _ n0 _ h8 1 1 30 #[.val (.long d), .second, .val (.int (1 : Int32)), .val (.ref b1)] [(.int (1 : Int32))]
    refine w_iconst ok d1_30 (v := (2 : Int32)) rfl ?_
    show W K l _ n0 _ h8 1 1 31 #[.val (.long d), .second, .val (.int (1 : Int32)), .val (.ref b1)] [(.int (2 : Int32)), (.int (1 : Int32))]
    refine w_icmp_le ok d1_31 (pc' := 42) (by decide) (fun hc12 => ?_) (fun hc12 => False.elim (by revert hc12; decide))
    show W K l _ n0 _ h8 1 1 42 #[.val (.long d), .second, .val (.int (1 : Int32)), .val (.ref b1)] []
    refine w_iloadN ok d1_42 rfl ?_
    show W K l _ n0 _ h8 1 1 43 #[.val (.long d), .second, .val (.int (1 : Int32)), .val (.ref b1)] [(.int (1 : Int32))]
    refine w_iconst ok d1_43 (v := (3 : Int32)) rfl ?_
    show W K l _ n0 _ h8 1 1 44 #[.val (.long d), .second, .val (.int (1 : Int32)), .val (.ref b1)] [(.int (3 : Int32)), (.int (1 : Int32))]
    refine w_icmp_le ok d1_44 (pc' := 55) (by decide) (fun hc14 => ?_) (fun hc14 => False.elim (by revert hc14; decide))
    show W K l _ n0 _ h8 1 1 55 #[.val (.long d), .second, .val (.int (1 : Int32)), .val (.ref b1)] []
    refine w_iloadN ok d1_55 rfl ?_
    show W K l _ n0 _ h8 1 1 56 #[.val (.long d), .second, .val (.int (1 : Int32)), .val (.ref b1)] [(.int (1 : Int32))]
    refine w_iconst ok d1_56 (v := (4 : Int32)) rfl ?_
    show W K l _ n0 _ h8 1 1 57 #[.val (.long d), .second, .val (.int (1 : Int32)), .val (.ref b1)] [(.int (4 : Int32)), (.int (1 : Int32))]
    refine w_icmp_le ok d1_57 (pc' := 68) (by decide) (fun hc16 => ?_) (fun hc16 => False.elim (by revert hc16; decide))
    show W K l _ n0 _ h8 1 1 68 #[.val (.long d), .second, .val (.int (1 : Int32)), .val (.ref b1)] []
    refine w_aloadN ok d1_68 rfl rfl ?_
    show W K l _ n0 _ h8 1 1 69 #[.val (.long d), .second, .val (.int (1 : Int32)), .val (.ref b1)] [(.ref b1)]
    refine w_aret ok rfl rfl d1_69 (by decide) (by decide) ?_
    exact ⟨b1, [nar .byte z7], rfl, sz_b1, ge_b1, Kp, A_b1, rfl⟩
  · have Kp : Keep h0 h0 [] := Keep.refl _ _
    show W K l _ n0 _ h0 0 0 0 #[.val (.long d), .second, .val (.int (2 : Int32)), .unset] []
    refine w_iloadN ok d1_0 rfl ?_
    show W K l _ n0 _ h0 0 0 1 #[.val (.long d), .second, .val (.int (2 : Int32)), .unset] [(.int (2 : Int32))]
    refine w_newarray ok d1_1 (hw _ (List.mem_of_getElem? (i := 4) rfl)) (by decide) (cap := 2) (by decide) (by decide) (by decide) (by decide) (fun h2 b1 ea_b1 ge_b1 E_b1 A_b1 => ?_)
    have sz_b1 : h0.size ≤ b1 := Nat.le_trans Kp.1 (Nat.le_of_eq ea_b1.symm)
    replace Kp := Kp.ext E_b1
    replace A_b1 : PA .byte Z h2 b1 [(.int (0 : Int32)), (.int (0 : Int32))] := A_b1
    show W K l _ n0 _ h2 1 2 3 #[.val (.long d), .second, .val (.int (2 : Int32)), .unset] [(.ref b1)]
    refine w_astoreN ok d1_3 rfl (L' := #[.val (.long d), .second, .val (.int (2 : Int32)), .val (.ref b1)]) rfl ?_
    show W K l _ n0 _ h2 1 2 4 #[.val (.long d), .second, .val (.int (2 : Int32)), .val (.ref b1)] []
    refine w_iloadN ok d1_4 rfl ?_
    show W K l _ n0 _ h2 1 2 5 #[.val (.long d), .second, .val (.int (2 : Int32)), .val (.ref b1)] [(.int (2 : Int32))]
    refine w_if_le ok d1_5 (pc' := 16) (by decide) (fun hc4 => False.elim (by revert hc4; decide)) (fun hc4 => ?_)
    show W K l _ n0 _ h2 1 2 8 #[.val (.long d), .second, .val (.int (2 : Int32)), .val (.ref b1)] []
    refine w_aloadN ok d1_8 rfl rfl ?_
    show W K l _ n0 _ h2 1 2 9 #[.val (.long d), .second, .val (.int (2 : Int32)), .val (.ref b1)] [(.ref b1)]
    refine w_iconst ok d1_9 (v := (0 : Int32)) rfl ?_
    show W K l _ n0 _ h2 1 2 10 #[.val (.long d), .second, .val (.int (2 : Int32)), .val (.ref b1)] [(.int (0 : Int32)), (.ref b1)]
    refine w_lloadN ok d1_10 rfl ?_
    show W K l _ n0 _ h2 1 2 11 #[.val (.long d), .second, .val (.int (2 : Int32)), .val (.ref b1)] [(.long d), (.int (0 : Int32)), (.ref b1)]
    refine w_iconst ok d1_11 (v := (0 : Int32)) rfl ?_
    show W K l _ n0 _ h2 1 2 12 #[.val (.long d), .second, .val (.int (2 : Int32)), .val (.ref b1)] [(.int (0 : Int32)), (.long d), (.int (0 : Int32)), (.ref b1)]
    refine w_callS ok (y := (⟨"com/example/nakami/nakami/pdf/BytesMatchesPinLaw", "b", "(JI)B"⟩ : MethodName)) (argsL := [(.long d), (.int (0 : Int32))]) (rest := [(.int (0 : Int32)), (.ref b1)]) d1_12 (hw _ (List.mem_of_getElem? (i := 5) rfl)) (hw _ (List.mem_of_getElem? (i := 6) rfl)) (hw _ (List.mem_of_getElem? (i := 2) rfl)) (hw _ (List.mem_of_getElem? (i := 7) rfl)) (by decide) pd_28JI29B rfl rfl (by decide) (Nat.le_of_ble_eq_true rfl) (by decide) (by decide) (fun z0 => rm_b l Z a0 hw [] n0 h2 z0 d (0 : Int32)) (fun v5 h6 qv5 => ?_)
    obtain ⟨⟨z7, rfl⟩, rfl⟩ := qv5
    show W K l _ n0 _ h2 1 2 15 #[.val (.long d), .second, .val (.int (2 : Int32)), .val (.ref b1)] [(.int z7), (.int (0 : Int32)), (.ref b1)]
    refine w_bastore ok d1_15 A_b1 ge_b1 (by decide) (Nat.le_of_ble_eq_true rfl) (fun h8 W_h8 A1_h8 => ?_)
    replace Kp := Kp.wr W_h8 (Or.inr sz_b1)
    replace A_b1 : PA .byte Z h8 b1 [(.int (nar .byte z7)), (.int (0 : Int32))] := A1_h8
    show W K l _ n0 _ h8 1 2 16 #[.val (.long d), .second, .val (.int (2 : Int32)), .val (.ref b1)] []
    refine w_iloadN ok d1_16 rfl ?_
    show W K l _ n0 _ h8 1 2 17 #[.val (.long d), .second, .val (.int (2 : Int32)), .val (.ref b1)] [(.int (2 : Int32))]
    refine w_iconst ok d1_17 (v := (1 : Int32)) rfl ?_
    show W K l _ n0 _ h8 1 2 18 #[.val (.long d), .second, .val (.int (2 : Int32)), .val (.ref b1)] [(.int (1 : Int32)), (.int (2 : Int32))]
    refine w_icmp_le ok d1_18 (pc' := 29) (by decide) (fun hc10 => False.elim (by revert hc10; decide)) (fun hc10 => ?_)
    show W K l _ n0 _ h8 1 2 21 #[.val (.long d), .second, .val (.int (2 : Int32)), .val (.ref b1)] []
    refine w_aloadN ok d1_21 rfl rfl ?_
    show W K l _ n0 _ h8 1 2 22 #[.val (.long d), .second, .val (.int (2 : Int32)), .val (.ref b1)] [(.ref b1)]
    refine w_iconst ok d1_22 (v := (1 : Int32)) rfl ?_
    show W K l _ n0 _ h8 1 2 23 #[.val (.long d), .second, .val (.int (2 : Int32)), .val (.ref b1)] [(.int (1 : Int32)), (.ref b1)]
    refine w_lloadN ok d1_23 rfl ?_
    show W K l _ n0 _ h8 1 2 24 #[.val (.long d), .second, .val (.int (2 : Int32)), .val (.ref b1)] [(.long d), (.int (1 : Int32)), (.ref b1)]
    refine w_iconst ok d1_24 (v := (1 : Int32)) rfl ?_
    show W K l _ n0 _ h8 1 2 25 #[.val (.long d), .second, .val (.int (2 : Int32)), .val (.ref b1)] [(.int (1 : Int32)), (.long d), (.int (1 : Int32)), (.ref b1)]
    refine w_callS ok (y := (⟨"com/example/nakami/nakami/pdf/BytesMatchesPinLaw", "b", "(JI)B"⟩ : MethodName)) (argsL := [(.long d), (.int (1 : Int32))]) (rest := [(.int (1 : Int32)), (.ref b1)]) d1_25 (hw _ (List.mem_of_getElem? (i := 5) rfl)) (hw _ (List.mem_of_getElem? (i := 6) rfl)) (hw _ (List.mem_of_getElem? (i := 2) rfl)) (hw _ (List.mem_of_getElem? (i := 7) rfl)) (by decide) pd_28JI29B rfl rfl (by decide) (Nat.le_of_ble_eq_true rfl) (by decide) (by decide) (fun z0 => rm_b l Z a0 hw [] n0 h8 z0 d (1 : Int32)) (fun v11 h12 qv11 => ?_)
    obtain ⟨⟨z13, rfl⟩, rfl⟩ := qv11
    show W K l _ n0 _ h8 1 2 28 #[.val (.long d), .second, .val (.int (2 : Int32)), .val (.ref b1)] [(.int z13), (.int (1 : Int32)), (.ref b1)]
    refine w_bastore ok d1_28 A_b1 ge_b1 (by decide) (Nat.le_of_ble_eq_true rfl) (fun h14 W_h14 A1_h14 => ?_)
    replace Kp := Kp.wr W_h14 (Or.inr sz_b1)
    replace A_b1 : PA .byte Z h14 b1 [(.int (nar .byte z7)), (.int (nar .byte z13))] := A1_h14
    show W K l _ n0 _ h14 1 2 29 #[.val (.long d), .second, .val (.int (2 : Int32)), .val (.ref b1)] []
    refine w_iloadN ok d1_29 rfl ?_
    show W K l _ n0 _ h14 1 2 30 #[.val (.long d), .second, .val (.int (2 : Int32)), .val (.ref b1)] [(.int (2 : Int32))]
    refine w_iconst ok d1_30 (v := (2 : Int32)) rfl ?_
    show W K l _ n0 _ h14 1 2 31 #[.val (.long d), .second, .val (.int (2 : Int32)), .val (.ref b1)] [(.int (2 : Int32)), (.int (2 : Int32))]
    refine w_icmp_le ok d1_31 (pc' := 42) (by decide) (fun hc16 => ?_) (fun hc16 => False.elim (by revert hc16; decide))
    show W K l _ n0 _ h14 1 2 42 #[.val (.long d), .second, .val (.int (2 : Int32)), .val (.ref b1)] []
    refine w_iloadN ok d1_42 rfl ?_
    show W K l _ n0 _ h14 1 2 43 #[.val (.long d), .second, .val (.int (2 : Int32)), .val (.ref b1)] [(.int (2 : Int32))]
    refine w_iconst ok d1_43 (v := (3 : Int32)) rfl ?_
    show W K l _ n0 _ h14 1 2 44 #[.val (.long d), .second, .val (.int (2 : Int32)), .val (.ref b1)] [(.int (3 : Int32)), (.int (2 : Int32))]
    refine w_icmp_le ok d1_44 (pc' := 55) (by decide) (fun hc18 => ?_) (fun hc18 => False.elim (by revert hc18; decide))
    show W K l _ n0 _ h14 1 2 55 #[.val (.long d), .second, .val (.int (2 : Int32)), .val (.ref b1)] []
    refine w_iloadN ok d1_55 rfl ?_
    show W K l _ n0 _ h14 1 2 56 #[.val (.long d), .second, .val (.int (2 : Int32)), .val (.ref b1)] [(.int (2 : Int32))]
    refine w_iconst ok d1_56 (v := (4 : Int32)) rfl ?_
    show W K l _ n0 _ h14 1 2 57 #[.val (.long d), .second, .val (.int (2 : Int32)), .val (.ref b1)] [(.int (4 : Int32)), (.int (2 : Int32))]
    refine w_icmp_le ok d1_57 (pc' := 68) (by decide) (fun hc20 => ?_) (fun hc20 => False.elim (by revert hc20; decide))
    show W K l _ n0 _ h14 1 2 68 #[.val (.long d), .second, .val (.int (2 : Int32)), .val (.ref b1)] []
    refine w_aloadN ok d1_68 rfl rfl ?_
    show W K l _ n0 _ h14 1 2 69 #[.val (.long d), .second, .val (.int (2 : Int32)), .val (.ref b1)] [(.ref b1)]
    refine w_aret ok rfl rfl d1_69 (by decide) (by decide) ?_
    exact ⟨b1, [nar .byte z7, nar .byte z13], rfl, sz_b1, ge_b1, Kp, A_b1, rfl⟩
  · have Kp : Keep h0 h0 [] := Keep.refl _ _
    show W K l _ n0 _ h0 0 0 0 #[.val (.long d), .second, .val (.int (3 : Int32)), .unset] []
    refine w_iloadN ok d1_0 rfl ?_
    show W K l _ n0 _ h0 0 0 1 #[.val (.long d), .second, .val (.int (3 : Int32)), .unset] [(.int (3 : Int32))]
    refine w_newarray ok d1_1 (hw _ (List.mem_of_getElem? (i := 4) rfl)) (by decide) (cap := 3) (by decide) (by decide) (by decide) (by decide) (fun h2 b1 ea_b1 ge_b1 E_b1 A_b1 => ?_)
    have sz_b1 : h0.size ≤ b1 := Nat.le_trans Kp.1 (Nat.le_of_eq ea_b1.symm)
    replace Kp := Kp.ext E_b1
    replace A_b1 : PA .byte Z h2 b1 [(.int (0 : Int32)), (.int (0 : Int32)), (.int (0 : Int32))] := A_b1
    show W K l _ n0 _ h2 1 3 3 #[.val (.long d), .second, .val (.int (3 : Int32)), .unset] [(.ref b1)]
    refine w_astoreN ok d1_3 rfl (L' := #[.val (.long d), .second, .val (.int (3 : Int32)), .val (.ref b1)]) rfl ?_
    show W K l _ n0 _ h2 1 3 4 #[.val (.long d), .second, .val (.int (3 : Int32)), .val (.ref b1)] []
    refine w_iloadN ok d1_4 rfl ?_
    show W K l _ n0 _ h2 1 3 5 #[.val (.long d), .second, .val (.int (3 : Int32)), .val (.ref b1)] [(.int (3 : Int32))]
    refine w_if_le ok d1_5 (pc' := 16) (by decide) (fun hc4 => False.elim (by revert hc4; decide)) (fun hc4 => ?_)
    show W K l _ n0 _ h2 1 3 8 #[.val (.long d), .second, .val (.int (3 : Int32)), .val (.ref b1)] []
    refine w_aloadN ok d1_8 rfl rfl ?_
    show W K l _ n0 _ h2 1 3 9 #[.val (.long d), .second, .val (.int (3 : Int32)), .val (.ref b1)] [(.ref b1)]
    refine w_iconst ok d1_9 (v := (0 : Int32)) rfl ?_
    show W K l _ n0 _ h2 1 3 10 #[.val (.long d), .second, .val (.int (3 : Int32)), .val (.ref b1)] [(.int (0 : Int32)), (.ref b1)]
    refine w_lloadN ok d1_10 rfl ?_
    show W K l _ n0 _ h2 1 3 11 #[.val (.long d), .second, .val (.int (3 : Int32)), .val (.ref b1)] [(.long d), (.int (0 : Int32)), (.ref b1)]
    refine w_iconst ok d1_11 (v := (0 : Int32)) rfl ?_
    show W K l _ n0 _ h2 1 3 12 #[.val (.long d), .second, .val (.int (3 : Int32)), .val (.ref b1)] [(.int (0 : Int32)), (.long d), (.int (0 : Int32)), (.ref b1)]
    refine w_callS ok (y := (⟨"com/example/nakami/nakami/pdf/BytesMatchesPinLaw", "b", "(JI)B"⟩ : MethodName)) (argsL := [(.long d), (.int (0 : Int32))]) (rest := [(.int (0 : Int32)), (.ref b1)]) d1_12 (hw _ (List.mem_of_getElem? (i := 5) rfl)) (hw _ (List.mem_of_getElem? (i := 6) rfl)) (hw _ (List.mem_of_getElem? (i := 2) rfl)) (hw _ (List.mem_of_getElem? (i := 7) rfl)) (by decide) pd_28JI29B rfl rfl (by decide) (Nat.le_of_ble_eq_true rfl) (by decide) (by decide) (fun z0 => rm_b l Z a0 hw [] n0 h2 z0 d (0 : Int32)) (fun v5 h6 qv5 => ?_)
    obtain ⟨⟨z7, rfl⟩, rfl⟩ := qv5
    show W K l _ n0 _ h2 1 3 15 #[.val (.long d), .second, .val (.int (3 : Int32)), .val (.ref b1)] [(.int z7), (.int (0 : Int32)), (.ref b1)]
    refine w_bastore ok d1_15 A_b1 ge_b1 (by decide) (Nat.le_of_ble_eq_true rfl) (fun h8 W_h8 A1_h8 => ?_)
    replace Kp := Kp.wr W_h8 (Or.inr sz_b1)
    replace A_b1 : PA .byte Z h8 b1 [(.int (nar .byte z7)), (.int (0 : Int32)), (.int (0 : Int32))] := A1_h8
    show W K l _ n0 _ h8 1 3 16 #[.val (.long d), .second, .val (.int (3 : Int32)), .val (.ref b1)] []
    refine w_iloadN ok d1_16 rfl ?_
    show W K l _ n0 _ h8 1 3 17 #[.val (.long d), .second, .val (.int (3 : Int32)), .val (.ref b1)] [(.int (3 : Int32))]
    refine w_iconst ok d1_17 (v := (1 : Int32)) rfl ?_
    show W K l _ n0 _ h8 1 3 18 #[.val (.long d), .second, .val (.int (3 : Int32)), .val (.ref b1)] [(.int (1 : Int32)), (.int (3 : Int32))]
    refine w_icmp_le ok d1_18 (pc' := 29) (by decide) (fun hc10 => False.elim (by revert hc10; decide)) (fun hc10 => ?_)
    show W K l _ n0 _ h8 1 3 21 #[.val (.long d), .second, .val (.int (3 : Int32)), .val (.ref b1)] []
    refine w_aloadN ok d1_21 rfl rfl ?_
    show W K l _ n0 _ h8 1 3 22 #[.val (.long d), .second, .val (.int (3 : Int32)), .val (.ref b1)] [(.ref b1)]
    refine w_iconst ok d1_22 (v := (1 : Int32)) rfl ?_
    show W K l _ n0 _ h8 1 3 23 #[.val (.long d), .second, .val (.int (3 : Int32)), .val (.ref b1)] [(.int (1 : Int32)), (.ref b1)]
    refine w_lloadN ok d1_23 rfl ?_
    show W K l _ n0 _ h8 1 3 24 #[.val (.long d), .second, .val (.int (3 : Int32)), .val (.ref b1)] [(.long d), (.int (1 : Int32)), (.ref b1)]
    refine w_iconst ok d1_24 (v := (1 : Int32)) rfl ?_
    show W K l _ n0 _ h8 1 3 25 #[.val (.long d), .second, .val (.int (3 : Int32)), .val (.ref b1)] [(.int (1 : Int32)), (.long d), (.int (1 : Int32)), (.ref b1)]
    refine w_callS ok (y := (⟨"com/example/nakami/nakami/pdf/BytesMatchesPinLaw", "b", "(JI)B"⟩ : MethodName)) (argsL := [(.long d), (.int (1 : Int32))]) (rest := [(.int (1 : Int32)), (.ref b1)]) d1_25 (hw _ (List.mem_of_getElem? (i := 5) rfl)) (hw _ (List.mem_of_getElem? (i := 6) rfl)) (hw _ (List.mem_of_getElem? (i := 2) rfl)) (hw _ (List.mem_of_getElem? (i := 7) rfl)) (by decide) pd_28JI29B rfl rfl (by decide) (Nat.le_of_ble_eq_true rfl) (by decide) (by decide) (fun z0 => rm_b l Z a0 hw [] n0 h8 z0 d (1 : Int32)) (fun v11 h12 qv11 => ?_)
    obtain ⟨⟨z13, rfl⟩, rfl⟩ := qv11
    show W K l _ n0 _ h8 1 3 28 #[.val (.long d), .second, .val (.int (3 : Int32)), .val (.ref b1)] [(.int z13), (.int (1 : Int32)), (.ref b1)]
    refine w_bastore ok d1_28 A_b1 ge_b1 (by decide) (Nat.le_of_ble_eq_true rfl) (fun h14 W_h14 A1_h14 => ?_)
    replace Kp := Kp.wr W_h14 (Or.inr sz_b1)
    replace A_b1 : PA .byte Z h14 b1 [(.int (nar .byte z7)), (.int (nar .byte z13)), (.int (0 : Int32))] := A1_h14
    show W K l _ n0 _ h14 1 3 29 #[.val (.long d), .second, .val (.int (3 : Int32)), .val (.ref b1)] []
    refine w_iloadN ok d1_29 rfl ?_
    show W K l _ n0 _ h14 1 3 30 #[.val (.long d), .second, .val (.int (3 : Int32)), .val (.ref b1)] [(.int (3 : Int32))]
    refine w_iconst ok d1_30 (v := (2 : Int32)) rfl ?_
    show W K l _ n0 _ h14 1 3 31 #[.val (.long d), .second, .val (.int (3 : Int32)), .val (.ref b1)] [(.int (2 : Int32)), (.int (3 : Int32))]
    refine w_icmp_le ok d1_31 (pc' := 42) (by decide) (fun hc16 => False.elim (by revert hc16; decide)) (fun hc16 => ?_)
    show W K l _ n0 _ h14 1 3 34 #[.val (.long d), .second, .val (.int (3 : Int32)), .val (.ref b1)] []
    refine w_aloadN ok d1_34 rfl rfl ?_
    show W K l _ n0 _ h14 1 3 35 #[.val (.long d), .second, .val (.int (3 : Int32)), .val (.ref b1)] [(.ref b1)]
    refine w_iconst ok d1_35 (v := (2 : Int32)) rfl ?_
    show W K l _ n0 _ h14 1 3 36 #[.val (.long d), .second, .val (.int (3 : Int32)), .val (.ref b1)] [(.int (2 : Int32)), (.ref b1)]
    refine w_lloadN ok d1_36 rfl ?_
    show W K l _ n0 _ h14 1 3 37 #[.val (.long d), .second, .val (.int (3 : Int32)), .val (.ref b1)] [(.long d), (.int (2 : Int32)), (.ref b1)]
    refine w_iconst ok d1_37 (v := (2 : Int32)) rfl ?_
    show W K l _ n0 _ h14 1 3 38 #[.val (.long d), .second, .val (.int (3 : Int32)), .val (.ref b1)] [(.int (2 : Int32)), (.long d), (.int (2 : Int32)), (.ref b1)]
    refine w_callS ok (y := (⟨"com/example/nakami/nakami/pdf/BytesMatchesPinLaw", "b", "(JI)B"⟩ : MethodName)) (argsL := [(.long d), (.int (2 : Int32))]) (rest := [(.int (2 : Int32)), (.ref b1)]) d1_38 (hw _ (List.mem_of_getElem? (i := 5) rfl)) (hw _ (List.mem_of_getElem? (i := 6) rfl)) (hw _ (List.mem_of_getElem? (i := 2) rfl)) (hw _ (List.mem_of_getElem? (i := 7) rfl)) (by decide) pd_28JI29B rfl rfl (by decide) (Nat.le_of_ble_eq_true rfl) (by decide) (by decide) (fun z0 => rm_b l Z a0 hw [] n0 h14 z0 d (2 : Int32)) (fun v17 h18 qv17 => ?_)
    obtain ⟨⟨z19, rfl⟩, rfl⟩ := qv17
    show W K l _ n0 _ h14 1 3 41 #[.val (.long d), .second, .val (.int (3 : Int32)), .val (.ref b1)] [(.int z19), (.int (2 : Int32)), (.ref b1)]
    refine w_bastore ok d1_41 A_b1 ge_b1 (by decide) (Nat.le_of_ble_eq_true rfl) (fun h20 W_h20 A1_h20 => ?_)
    replace Kp := Kp.wr W_h20 (Or.inr sz_b1)
    replace A_b1 : PA .byte Z h20 b1 [(.int (nar .byte z7)), (.int (nar .byte z13)), (.int (nar .byte z19))] := A1_h20
    show W K l _ n0 _ h20 1 3 42 #[.val (.long d), .second, .val (.int (3 : Int32)), .val (.ref b1)] []
    refine w_iloadN ok d1_42 rfl ?_
    show W K l _ n0 _ h20 1 3 43 #[.val (.long d), .second, .val (.int (3 : Int32)), .val (.ref b1)] [(.int (3 : Int32))]
    refine w_iconst ok d1_43 (v := (3 : Int32)) rfl ?_
    show W K l _ n0 _ h20 1 3 44 #[.val (.long d), .second, .val (.int (3 : Int32)), .val (.ref b1)] [(.int (3 : Int32)), (.int (3 : Int32))]
    refine w_icmp_le ok d1_44 (pc' := 55) (by decide) (fun hc22 => ?_) (fun hc22 => False.elim (by revert hc22; decide))
    show W K l _ n0 _ h20 1 3 55 #[.val (.long d), .second, .val (.int (3 : Int32)), .val (.ref b1)] []
    refine w_iloadN ok d1_55 rfl ?_
    show W K l _ n0 _ h20 1 3 56 #[.val (.long d), .second, .val (.int (3 : Int32)), .val (.ref b1)] [(.int (3 : Int32))]
    refine w_iconst ok d1_56 (v := (4 : Int32)) rfl ?_
    show W K l _ n0 _ h20 1 3 57 #[.val (.long d), .second, .val (.int (3 : Int32)), .val (.ref b1)] [(.int (4 : Int32)), (.int (3 : Int32))]
    refine w_icmp_le ok d1_57 (pc' := 68) (by decide) (fun hc24 => ?_) (fun hc24 => False.elim (by revert hc24; decide))
    show W K l _ n0 _ h20 1 3 68 #[.val (.long d), .second, .val (.int (3 : Int32)), .val (.ref b1)] []
    refine w_aloadN ok d1_68 rfl rfl ?_
    show W K l _ n0 _ h20 1 3 69 #[.val (.long d), .second, .val (.int (3 : Int32)), .val (.ref b1)] [(.ref b1)]
    refine w_aret ok rfl rfl d1_69 (by decide) (by decide) ?_
    exact ⟨b1, [nar .byte z7, nar .byte z13, nar .byte z19], rfl, sz_b1, ge_b1, Kp, A_b1, rfl⟩
  · have Kp : Keep h0 h0 [] := Keep.refl _ _
    show W K l _ n0 _ h0 0 0 0 #[.val (.long d), .second, .val (.int (4 : Int32)), .unset] []
    refine w_iloadN ok d1_0 rfl ?_
    show W K l _ n0 _ h0 0 0 1 #[.val (.long d), .second, .val (.int (4 : Int32)), .unset] [(.int (4 : Int32))]
    refine w_newarray ok d1_1 (hw _ (List.mem_of_getElem? (i := 4) rfl)) (by decide) (cap := 4) (by decide) (by decide) (by decide) (by decide) (fun h2 b1 ea_b1 ge_b1 E_b1 A_b1 => ?_)
    have sz_b1 : h0.size ≤ b1 := Nat.le_trans Kp.1 (Nat.le_of_eq ea_b1.symm)
    replace Kp := Kp.ext E_b1
    replace A_b1 : PA .byte Z h2 b1 [(.int (0 : Int32)), (.int (0 : Int32)), (.int (0 : Int32)), (.int (0 : Int32))] := A_b1
    show W K l _ n0 _ h2 1 4 3 #[.val (.long d), .second, .val (.int (4 : Int32)), .unset] [(.ref b1)]
    refine w_astoreN ok d1_3 rfl (L' := #[.val (.long d), .second, .val (.int (4 : Int32)), .val (.ref b1)]) rfl ?_
    show W K l _ n0 _ h2 1 4 4 #[.val (.long d), .second, .val (.int (4 : Int32)), .val (.ref b1)] []
    refine w_iloadN ok d1_4 rfl ?_
    show W K l _ n0 _ h2 1 4 5 #[.val (.long d), .second, .val (.int (4 : Int32)), .val (.ref b1)] [(.int (4 : Int32))]
    refine w_if_le ok d1_5 (pc' := 16) (by decide) (fun hc4 => False.elim (by revert hc4; decide)) (fun hc4 => ?_)
    show W K l _ n0 _ h2 1 4 8 #[.val (.long d), .second, .val (.int (4 : Int32)), .val (.ref b1)] []
    refine w_aloadN ok d1_8 rfl rfl ?_
    show W K l _ n0 _ h2 1 4 9 #[.val (.long d), .second, .val (.int (4 : Int32)), .val (.ref b1)] [(.ref b1)]
    refine w_iconst ok d1_9 (v := (0 : Int32)) rfl ?_
    show W K l _ n0 _ h2 1 4 10 #[.val (.long d), .second, .val (.int (4 : Int32)), .val (.ref b1)] [(.int (0 : Int32)), (.ref b1)]
    refine w_lloadN ok d1_10 rfl ?_
    show W K l _ n0 _ h2 1 4 11 #[.val (.long d), .second, .val (.int (4 : Int32)), .val (.ref b1)] [(.long d), (.int (0 : Int32)), (.ref b1)]
    refine w_iconst ok d1_11 (v := (0 : Int32)) rfl ?_
    show W K l _ n0 _ h2 1 4 12 #[.val (.long d), .second, .val (.int (4 : Int32)), .val (.ref b1)] [(.int (0 : Int32)), (.long d), (.int (0 : Int32)), (.ref b1)]
    refine w_callS ok (y := (⟨"com/example/nakami/nakami/pdf/BytesMatchesPinLaw", "b", "(JI)B"⟩ : MethodName)) (argsL := [(.long d), (.int (0 : Int32))]) (rest := [(.int (0 : Int32)), (.ref b1)]) d1_12 (hw _ (List.mem_of_getElem? (i := 5) rfl)) (hw _ (List.mem_of_getElem? (i := 6) rfl)) (hw _ (List.mem_of_getElem? (i := 2) rfl)) (hw _ (List.mem_of_getElem? (i := 7) rfl)) (by decide) pd_28JI29B rfl rfl (by decide) (Nat.le_of_ble_eq_true rfl) (by decide) (by decide) (fun z0 => rm_b l Z a0 hw [] n0 h2 z0 d (0 : Int32)) (fun v5 h6 qv5 => ?_)
    obtain ⟨⟨z7, rfl⟩, rfl⟩ := qv5
    show W K l _ n0 _ h2 1 4 15 #[.val (.long d), .second, .val (.int (4 : Int32)), .val (.ref b1)] [(.int z7), (.int (0 : Int32)), (.ref b1)]
    refine w_bastore ok d1_15 A_b1 ge_b1 (by decide) (Nat.le_of_ble_eq_true rfl) (fun h8 W_h8 A1_h8 => ?_)
    replace Kp := Kp.wr W_h8 (Or.inr sz_b1)
    replace A_b1 : PA .byte Z h8 b1 [(.int (nar .byte z7)), (.int (0 : Int32)), (.int (0 : Int32)), (.int (0 : Int32))] := A1_h8
    show W K l _ n0 _ h8 1 4 16 #[.val (.long d), .second, .val (.int (4 : Int32)), .val (.ref b1)] []
    refine w_iloadN ok d1_16 rfl ?_
    show W K l _ n0 _ h8 1 4 17 #[.val (.long d), .second, .val (.int (4 : Int32)), .val (.ref b1)] [(.int (4 : Int32))]
    refine w_iconst ok d1_17 (v := (1 : Int32)) rfl ?_
    show W K l _ n0 _ h8 1 4 18 #[.val (.long d), .second, .val (.int (4 : Int32)), .val (.ref b1)] [(.int (1 : Int32)), (.int (4 : Int32))]
    refine w_icmp_le ok d1_18 (pc' := 29) (by decide) (fun hc10 => False.elim (by revert hc10; decide)) (fun hc10 => ?_)
    show W K l _ n0 _ h8 1 4 21 #[.val (.long d), .second, .val (.int (4 : Int32)), .val (.ref b1)] []
    refine w_aloadN ok d1_21 rfl rfl ?_
    show W K l _ n0 _ h8 1 4 22 #[.val (.long d), .second, .val (.int (4 : Int32)), .val (.ref b1)] [(.ref b1)]
    refine w_iconst ok d1_22 (v := (1 : Int32)) rfl ?_
    show W K l _ n0 _ h8 1 4 23 #[.val (.long d), .second, .val (.int (4 : Int32)), .val (.ref b1)] [(.int (1 : Int32)), (.ref b1)]
    refine w_lloadN ok d1_23 rfl ?_
    show W K l _ n0 _ h8 1 4 24 #[.val (.long d), .second, .val (.int (4 : Int32)), .val (.ref b1)] [(.long d), (.int (1 : Int32)), (.ref b1)]
    refine w_iconst ok d1_24 (v := (1 : Int32)) rfl ?_
    show W K l _ n0 _ h8 1 4 25 #[.val (.long d), .second, .val (.int (4 : Int32)), .val (.ref b1)] [(.int (1 : Int32)), (.long d), (.int (1 : Int32)), (.ref b1)]
    refine w_callS ok (y := (⟨"com/example/nakami/nakami/pdf/BytesMatchesPinLaw", "b", "(JI)B"⟩ : MethodName)) (argsL := [(.long d), (.int (1 : Int32))]) (rest := [(.int (1 : Int32)), (.ref b1)]) d1_25 (hw _ (List.mem_of_getElem? (i := 5) rfl)) (hw _ (List.mem_of_getElem? (i := 6) rfl)) (hw _ (List.mem_of_getElem? (i := 2) rfl)) (hw _ (List.mem_of_getElem? (i := 7) rfl)) (by decide) pd_28JI29B rfl rfl (by decide) (Nat.le_of_ble_eq_true rfl) (by decide) (by decide) (fun z0 => rm_b l Z a0 hw [] n0 h8 z0 d (1 : Int32)) (fun v11 h12 qv11 => ?_)
    obtain ⟨⟨z13, rfl⟩, rfl⟩ := qv11
    show W K l _ n0 _ h8 1 4 28 #[.val (.long d), .second, .val (.int (4 : Int32)), .val (.ref b1)] [(.int z13), (.int (1 : Int32)), (.ref b1)]
    refine w_bastore ok d1_28 A_b1 ge_b1 (by decide) (Nat.le_of_ble_eq_true rfl) (fun h14 W_h14 A1_h14 => ?_)
    replace Kp := Kp.wr W_h14 (Or.inr sz_b1)
    replace A_b1 : PA .byte Z h14 b1 [(.int (nar .byte z7)), (.int (nar .byte z13)), (.int (0 : Int32)), (.int (0 : Int32))] := A1_h14
    show W K l _ n0 _ h14 1 4 29 #[.val (.long d), .second, .val (.int (4 : Int32)), .val (.ref b1)] []
    refine w_iloadN ok d1_29 rfl ?_
    show W K l _ n0 _ h14 1 4 30 #[.val (.long d), .second, .val (.int (4 : Int32)), .val (.ref b1)] [(.int (4 : Int32))]
    refine w_iconst ok d1_30 (v := (2 : Int32)) rfl ?_
    show W K l _ n0 _ h14 1 4 31 #[.val (.long d), .second, .val (.int (4 : Int32)), .val (.ref b1)] [(.int (2 : Int32)), (.int (4 : Int32))]
    refine w_icmp_le ok d1_31 (pc' := 42) (by decide) (fun hc16 => False.elim (by revert hc16; decide)) (fun hc16 => ?_)
    show W K l _ n0 _ h14 1 4 34 #[.val (.long d), .second, .val (.int (4 : Int32)), .val (.ref b1)] []
    refine w_aloadN ok d1_34 rfl rfl ?_
    show W K l _ n0 _ h14 1 4 35 #[.val (.long d), .second, .val (.int (4 : Int32)), .val (.ref b1)] [(.ref b1)]
    refine w_iconst ok d1_35 (v := (2 : Int32)) rfl ?_
    show W K l _ n0 _ h14 1 4 36 #[.val (.long d), .second, .val (.int (4 : Int32)), .val (.ref b1)] [(.int (2 : Int32)), (.ref b1)]
    refine w_lloadN ok d1_36 rfl ?_
    show W K l _ n0 _ h14 1 4 37 #[.val (.long d), .second, .val (.int (4 : Int32)), .val (.ref b1)] [(.long d), (.int (2 : Int32)), (.ref b1)]
    refine w_iconst ok d1_37 (v := (2 : Int32)) rfl ?_
    show W K l _ n0 _ h14 1 4 38 #[.val (.long d), .second, .val (.int (4 : Int32)), .val (.ref b1)] [(.int (2 : Int32)), (.long d), (.int (2 : Int32)), (.ref b1)]
    refine w_callS ok (y := (⟨"com/example/nakami/nakami/pdf/BytesMatchesPinLaw", "b", "(JI)B"⟩ : MethodName)) (argsL := [(.long d), (.int (2 : Int32))]) (rest := [(.int (2 : Int32)), (.ref b1)]) d1_38 (hw _ (List.mem_of_getElem? (i := 5) rfl)) (hw _ (List.mem_of_getElem? (i := 6) rfl)) (hw _ (List.mem_of_getElem? (i := 2) rfl)) (hw _ (List.mem_of_getElem? (i := 7) rfl)) (by decide) pd_28JI29B rfl rfl (by decide) (Nat.le_of_ble_eq_true rfl) (by decide) (by decide) (fun z0 => rm_b l Z a0 hw [] n0 h14 z0 d (2 : Int32)) (fun v17 h18 qv17 => ?_)
    obtain ⟨⟨z19, rfl⟩, rfl⟩ := qv17
    show W K l _ n0 _ h14 1 4 41 #[.val (.long d), .second, .val (.int (4 : Int32)), .val (.ref b1)] [(.int z19), (.int (2 : Int32)), (.ref b1)]
    refine w_bastore ok d1_41 A_b1 ge_b1 (by decide) (Nat.le_of_ble_eq_true rfl) (fun h20 W_h20 A1_h20 => ?_)
    replace Kp := Kp.wr W_h20 (Or.inr sz_b1)
    replace A_b1 : PA .byte Z h20 b1 [(.int (nar .byte z7)), (.int (nar .byte z13)), (.int (nar .byte z19)), (.int (0 : Int32))] := A1_h20
    show W K l _ n0 _ h20 1 4 42 #[.val (.long d), .second, .val (.int (4 : Int32)), .val (.ref b1)] []
    refine w_iloadN ok d1_42 rfl ?_
    show W K l _ n0 _ h20 1 4 43 #[.val (.long d), .second, .val (.int (4 : Int32)), .val (.ref b1)] [(.int (4 : Int32))]
    refine w_iconst ok d1_43 (v := (3 : Int32)) rfl ?_
    show W K l _ n0 _ h20 1 4 44 #[.val (.long d), .second, .val (.int (4 : Int32)), .val (.ref b1)] [(.int (3 : Int32)), (.int (4 : Int32))]
    refine w_icmp_le ok d1_44 (pc' := 55) (by decide) (fun hc22 => False.elim (by revert hc22; decide)) (fun hc22 => ?_)
    show W K l _ n0 _ h20 1 4 47 #[.val (.long d), .second, .val (.int (4 : Int32)), .val (.ref b1)] []
    refine w_aloadN ok d1_47 rfl rfl ?_
    show W K l _ n0 _ h20 1 4 48 #[.val (.long d), .second, .val (.int (4 : Int32)), .val (.ref b1)] [(.ref b1)]
    refine w_iconst ok d1_48 (v := (3 : Int32)) rfl ?_
    show W K l _ n0 _ h20 1 4 49 #[.val (.long d), .second, .val (.int (4 : Int32)), .val (.ref b1)] [(.int (3 : Int32)), (.ref b1)]
    refine w_lloadN ok d1_49 rfl ?_
    show W K l _ n0 _ h20 1 4 50 #[.val (.long d), .second, .val (.int (4 : Int32)), .val (.ref b1)] [(.long d), (.int (3 : Int32)), (.ref b1)]
    refine w_iconst ok d1_50 (v := (3 : Int32)) rfl ?_
    show W K l _ n0 _ h20 1 4 51 #[.val (.long d), .second, .val (.int (4 : Int32)), .val (.ref b1)] [(.int (3 : Int32)), (.long d), (.int (3 : Int32)), (.ref b1)]
    refine w_callS ok (y := (⟨"com/example/nakami/nakami/pdf/BytesMatchesPinLaw", "b", "(JI)B"⟩ : MethodName)) (argsL := [(.long d), (.int (3 : Int32))]) (rest := [(.int (3 : Int32)), (.ref b1)]) d1_51 (hw _ (List.mem_of_getElem? (i := 5) rfl)) (hw _ (List.mem_of_getElem? (i := 6) rfl)) (hw _ (List.mem_of_getElem? (i := 2) rfl)) (hw _ (List.mem_of_getElem? (i := 7) rfl)) (by decide) pd_28JI29B rfl rfl (by decide) (Nat.le_of_ble_eq_true rfl) (by decide) (by decide) (fun z0 => rm_b l Z a0 hw [] n0 h20 z0 d (3 : Int32)) (fun v23 h24 qv23 => ?_)
    obtain ⟨⟨z25, rfl⟩, rfl⟩ := qv23
    show W K l _ n0 _ h20 1 4 54 #[.val (.long d), .second, .val (.int (4 : Int32)), .val (.ref b1)] [(.int z25), (.int (3 : Int32)), (.ref b1)]
    refine w_bastore ok d1_54 A_b1 ge_b1 (by decide) (Nat.le_of_ble_eq_true rfl) (fun h26 W_h26 A1_h26 => ?_)
    replace Kp := Kp.wr W_h26 (Or.inr sz_b1)
    replace A_b1 : PA .byte Z h26 b1 [(.int (nar .byte z7)), (.int (nar .byte z13)), (.int (nar .byte z19)), (.int (nar .byte z25))] := A1_h26
    show W K l _ n0 _ h26 1 4 55 #[.val (.long d), .second, .val (.int (4 : Int32)), .val (.ref b1)] []
    refine w_iloadN ok d1_55 rfl ?_
    show W K l _ n0 _ h26 1 4 56 #[.val (.long d), .second, .val (.int (4 : Int32)), .val (.ref b1)] [(.int (4 : Int32))]
    refine w_iconst ok d1_56 (v := (4 : Int32)) rfl ?_
    show W K l _ n0 _ h26 1 4 57 #[.val (.long d), .second, .val (.int (4 : Int32)), .val (.ref b1)] [(.int (4 : Int32)), (.int (4 : Int32))]
    refine w_icmp_le ok d1_57 (pc' := 68) (by decide) (fun hc28 => ?_) (fun hc28 => False.elim (by revert hc28; decide))
    show W K l _ n0 _ h26 1 4 68 #[.val (.long d), .second, .val (.int (4 : Int32)), .val (.ref b1)] []
    refine w_aloadN ok d1_68 rfl rfl ?_
    show W K l _ n0 _ h26 1 4 69 #[.val (.long d), .second, .val (.int (4 : Int32)), .val (.ref b1)] [(.ref b1)]
    refine w_aret ok rfl rfl d1_69 (by decide) (by decide) ?_
    exact ⟨b1, [nar .byte z7, nar .byte z13, nar .byte z19, nar .byte z25], rfl, sz_b1, ge_b1, Kp, A_b1, rfl⟩
  · have Kp : Keep h0 h0 [] := Keep.refl _ _
    show W K l _ n0 _ h0 0 0 0 #[.val (.long d), .second, .val (.int (5 : Int32)), .unset] []
    refine w_iloadN ok d1_0 rfl ?_
    show W K l _ n0 _ h0 0 0 1 #[.val (.long d), .second, .val (.int (5 : Int32)), .unset] [(.int (5 : Int32))]
    refine w_newarray ok d1_1 (hw _ (List.mem_of_getElem? (i := 4) rfl)) (by decide) (cap := 5) (by decide) (by decide) (by decide) (by decide) (fun h2 b1 ea_b1 ge_b1 E_b1 A_b1 => ?_)
    have sz_b1 : h0.size ≤ b1 := Nat.le_trans Kp.1 (Nat.le_of_eq ea_b1.symm)
    replace Kp := Kp.ext E_b1
    replace A_b1 : PA .byte Z h2 b1 [(.int (0 : Int32)), (.int (0 : Int32)), (.int (0 : Int32)), (.int (0 : Int32)), (.int (0 : Int32))] := A_b1
    show W K l _ n0 _ h2 1 5 3 #[.val (.long d), .second, .val (.int (5 : Int32)), .unset] [(.ref b1)]
    refine w_astoreN ok d1_3 rfl (L' := #[.val (.long d), .second, .val (.int (5 : Int32)), .val (.ref b1)]) rfl ?_
    show W K l _ n0 _ h2 1 5 4 #[.val (.long d), .second, .val (.int (5 : Int32)), .val (.ref b1)] []
    refine w_iloadN ok d1_4 rfl ?_
    show W K l _ n0 _ h2 1 5 5 #[.val (.long d), .second, .val (.int (5 : Int32)), .val (.ref b1)] [(.int (5 : Int32))]
    refine w_if_le ok d1_5 (pc' := 16) (by decide) (fun hc4 => False.elim (by revert hc4; decide)) (fun hc4 => ?_)
    show W K l _ n0 _ h2 1 5 8 #[.val (.long d), .second, .val (.int (5 : Int32)), .val (.ref b1)] []
    refine w_aloadN ok d1_8 rfl rfl ?_
    show W K l _ n0 _ h2 1 5 9 #[.val (.long d), .second, .val (.int (5 : Int32)), .val (.ref b1)] [(.ref b1)]
    refine w_iconst ok d1_9 (v := (0 : Int32)) rfl ?_
    show W K l _ n0 _ h2 1 5 10 #[.val (.long d), .second, .val (.int (5 : Int32)), .val (.ref b1)] [(.int (0 : Int32)), (.ref b1)]
    refine w_lloadN ok d1_10 rfl ?_
    show W K l _ n0 _ h2 1 5 11 #[.val (.long d), .second, .val (.int (5 : Int32)), .val (.ref b1)] [(.long d), (.int (0 : Int32)), (.ref b1)]
    refine w_iconst ok d1_11 (v := (0 : Int32)) rfl ?_
    show W K l _ n0 _ h2 1 5 12 #[.val (.long d), .second, .val (.int (5 : Int32)), .val (.ref b1)] [(.int (0 : Int32)), (.long d), (.int (0 : Int32)), (.ref b1)]
    refine w_callS ok (y := (⟨"com/example/nakami/nakami/pdf/BytesMatchesPinLaw", "b", "(JI)B"⟩ : MethodName)) (argsL := [(.long d), (.int (0 : Int32))]) (rest := [(.int (0 : Int32)), (.ref b1)]) d1_12 (hw _ (List.mem_of_getElem? (i := 5) rfl)) (hw _ (List.mem_of_getElem? (i := 6) rfl)) (hw _ (List.mem_of_getElem? (i := 2) rfl)) (hw _ (List.mem_of_getElem? (i := 7) rfl)) (by decide) pd_28JI29B rfl rfl (by decide) (Nat.le_of_ble_eq_true rfl) (by decide) (by decide) (fun z0 => rm_b l Z a0 hw [] n0 h2 z0 d (0 : Int32)) (fun v5 h6 qv5 => ?_)
    obtain ⟨⟨z7, rfl⟩, rfl⟩ := qv5
    show W K l _ n0 _ h2 1 5 15 #[.val (.long d), .second, .val (.int (5 : Int32)), .val (.ref b1)] [(.int z7), (.int (0 : Int32)), (.ref b1)]
    refine w_bastore ok d1_15 A_b1 ge_b1 (by decide) (Nat.le_of_ble_eq_true rfl) (fun h8 W_h8 A1_h8 => ?_)
    replace Kp := Kp.wr W_h8 (Or.inr sz_b1)
    replace A_b1 : PA .byte Z h8 b1 [(.int (nar .byte z7)), (.int (0 : Int32)), (.int (0 : Int32)), (.int (0 : Int32)), (.int (0 : Int32))] := A1_h8
    show W K l _ n0 _ h8 1 5 16 #[.val (.long d), .second, .val (.int (5 : Int32)), .val (.ref b1)] []
    refine w_iloadN ok d1_16 rfl ?_
    show W K l _ n0 _ h8 1 5 17 #[.val (.long d), .second, .val (.int (5 : Int32)), .val (.ref b1)] [(.int (5 : Int32))]
    refine w_iconst ok d1_17 (v := (1 : Int32)) rfl ?_
    show W K l _ n0 _ h8 1 5 18 #[.val (.long d), .second, .val (.int (5 : Int32)), .val (.ref b1)] [(.int (1 : Int32)), (.int (5 : Int32))]
    refine w_icmp_le ok d1_18 (pc' := 29) (by decide) (fun hc10 => False.elim (by revert hc10; decide)) (fun hc10 => ?_)
    show W K l _ n0 _ h8 1 5 21 #[.val (.long d), .second, .val (.int (5 : Int32)), .val (.ref b1)] []
    refine w_aloadN ok d1_21 rfl rfl ?_
    show W K l _ n0 _ h8 1 5 22 #[.val (.long d), .second, .val (.int (5 : Int32)), .val (.ref b1)] [(.ref b1)]
    refine w_iconst ok d1_22 (v := (1 : Int32)) rfl ?_
    show W K l _ n0 _ h8 1 5 23 #[.val (.long d), .second, .val (.int (5 : Int32)), .val (.ref b1)] [(.int (1 : Int32)), (.ref b1)]
    refine w_lloadN ok d1_23 rfl ?_
    show W K l _ n0 _ h8 1 5 24 #[.val (.long d), .second, .val (.int (5 : Int32)), .val (.ref b1)] [(.long d), (.int (1 : Int32)), (.ref b1)]
    refine w_iconst ok d1_24 (v := (1 : Int32)) rfl ?_
    show W K l _ n0 _ h8 1 5 25 #[.val (.long d), .second, .val (.int (5 : Int32)), .val (.ref b1)] [(.int (1 : Int32)), (.long d), (.int (1 : Int32)), (.ref b1)]
    refine w_callS ok (y := (⟨"com/example/nakami/nakami/pdf/BytesMatchesPinLaw", "b", "(JI)B"⟩ : MethodName)) (argsL := [(.long d), (.int (1 : Int32))]) (rest := [(.int (1 : Int32)), (.ref b1)]) d1_25 (hw _ (List.mem_of_getElem? (i := 5) rfl)) (hw _ (List.mem_of_getElem? (i := 6) rfl)) (hw _ (List.mem_of_getElem? (i := 2) rfl)) (hw _ (List.mem_of_getElem? (i := 7) rfl)) (by decide) pd_28JI29B rfl rfl (by decide) (Nat.le_of_ble_eq_true rfl) (by decide) (by decide) (fun z0 => rm_b l Z a0 hw [] n0 h8 z0 d (1 : Int32)) (fun v11 h12 qv11 => ?_)
    obtain ⟨⟨z13, rfl⟩, rfl⟩ := qv11
    show W K l _ n0 _ h8 1 5 28 #[.val (.long d), .second, .val (.int (5 : Int32)), .val (.ref b1)] [(.int z13), (.int (1 : Int32)), (.ref b1)]
    refine w_bastore ok d1_28 A_b1 ge_b1 (by decide) (Nat.le_of_ble_eq_true rfl) (fun h14 W_h14 A1_h14 => ?_)
    replace Kp := Kp.wr W_h14 (Or.inr sz_b1)
    replace A_b1 : PA .byte Z h14 b1 [(.int (nar .byte z7)), (.int (nar .byte z13)), (.int (0 : Int32)), (.int (0 : Int32)), (.int (0 : Int32))] := A1_h14
    show W K l _ n0 _ h14 1 5 29 #[.val (.long d), .second, .val (.int (5 : Int32)), .val (.ref b1)] []
    refine w_iloadN ok d1_29 rfl ?_
    show W K l _ n0 _ h14 1 5 30 #[.val (.long d), .second, .val (.int (5 : Int32)), .val (.ref b1)] [(.int (5 : Int32))]
    refine w_iconst ok d1_30 (v := (2 : Int32)) rfl ?_
    show W K l _ n0 _ h14 1 5 31 #[.val (.long d), .second, .val (.int (5 : Int32)), .val (.ref b1)] [(.int (2 : Int32)), (.int (5 : Int32))]
    refine w_icmp_le ok d1_31 (pc' := 42) (by decide) (fun hc16 => False.elim (by revert hc16; decide)) (fun hc16 => ?_)
    show W K l _ n0 _ h14 1 5 34 #[.val (.long d), .second, .val (.int (5 : Int32)), .val (.ref b1)] []
    refine w_aloadN ok d1_34 rfl rfl ?_
    show W K l _ n0 _ h14 1 5 35 #[.val (.long d), .second, .val (.int (5 : Int32)), .val (.ref b1)] [(.ref b1)]
    refine w_iconst ok d1_35 (v := (2 : Int32)) rfl ?_
    show W K l _ n0 _ h14 1 5 36 #[.val (.long d), .second, .val (.int (5 : Int32)), .val (.ref b1)] [(.int (2 : Int32)), (.ref b1)]
    refine w_lloadN ok d1_36 rfl ?_
    show W K l _ n0 _ h14 1 5 37 #[.val (.long d), .second, .val (.int (5 : Int32)), .val (.ref b1)] [(.long d), (.int (2 : Int32)), (.ref b1)]
    refine w_iconst ok d1_37 (v := (2 : Int32)) rfl ?_
    show W K l _ n0 _ h14 1 5 38 #[.val (.long d), .second, .val (.int (5 : Int32)), .val (.ref b1)] [(.int (2 : Int32)), (.long d), (.int (2 : Int32)), (.ref b1)]
    refine w_callS ok (y := (⟨"com/example/nakami/nakami/pdf/BytesMatchesPinLaw", "b", "(JI)B"⟩ : MethodName)) (argsL := [(.long d), (.int (2 : Int32))]) (rest := [(.int (2 : Int32)), (.ref b1)]) d1_38 (hw _ (List.mem_of_getElem? (i := 5) rfl)) (hw _ (List.mem_of_getElem? (i := 6) rfl)) (hw _ (List.mem_of_getElem? (i := 2) rfl)) (hw _ (List.mem_of_getElem? (i := 7) rfl)) (by decide) pd_28JI29B rfl rfl (by decide) (Nat.le_of_ble_eq_true rfl) (by decide) (by decide) (fun z0 => rm_b l Z a0 hw [] n0 h14 z0 d (2 : Int32)) (fun v17 h18 qv17 => ?_)
    obtain ⟨⟨z19, rfl⟩, rfl⟩ := qv17
    show W K l _ n0 _ h14 1 5 41 #[.val (.long d), .second, .val (.int (5 : Int32)), .val (.ref b1)] [(.int z19), (.int (2 : Int32)), (.ref b1)]
    refine w_bastore ok d1_41 A_b1 ge_b1 (by decide) (Nat.le_of_ble_eq_true rfl) (fun h20 W_h20 A1_h20 => ?_)
    replace Kp := Kp.wr W_h20 (Or.inr sz_b1)
    replace A_b1 : PA .byte Z h20 b1 [(.int (nar .byte z7)), (.int (nar .byte z13)), (.int (nar .byte z19)), (.int (0 : Int32)), (.int (0 : Int32))] := A1_h20
    show W K l _ n0 _ h20 1 5 42 #[.val (.long d), .second, .val (.int (5 : Int32)), .val (.ref b1)] []
    refine w_iloadN ok d1_42 rfl ?_
    show W K l _ n0 _ h20 1 5 43 #[.val (.long d), .second, .val (.int (5 : Int32)), .val (.ref b1)] [(.int (5 : Int32))]
    refine w_iconst ok d1_43 (v := (3 : Int32)) rfl ?_
    show W K l _ n0 _ h20 1 5 44 #[.val (.long d), .second, .val (.int (5 : Int32)), .val (.ref b1)] [(.int (3 : Int32)), (.int (5 : Int32))]
    refine w_icmp_le ok d1_44 (pc' := 55) (by decide) (fun hc22 => False.elim (by revert hc22; decide)) (fun hc22 => ?_)
    show W K l _ n0 _ h20 1 5 47 #[.val (.long d), .second, .val (.int (5 : Int32)), .val (.ref b1)] []
    refine w_aloadN ok d1_47 rfl rfl ?_
    show W K l _ n0 _ h20 1 5 48 #[.val (.long d), .second, .val (.int (5 : Int32)), .val (.ref b1)] [(.ref b1)]
    refine w_iconst ok d1_48 (v := (3 : Int32)) rfl ?_
    show W K l _ n0 _ h20 1 5 49 #[.val (.long d), .second, .val (.int (5 : Int32)), .val (.ref b1)] [(.int (3 : Int32)), (.ref b1)]
    refine w_lloadN ok d1_49 rfl ?_
    show W K l _ n0 _ h20 1 5 50 #[.val (.long d), .second, .val (.int (5 : Int32)), .val (.ref b1)] [(.long d), (.int (3 : Int32)), (.ref b1)]
    refine w_iconst ok d1_50 (v := (3 : Int32)) rfl ?_
    show W K l _ n0 _ h20 1 5 51 #[.val (.long d), .second, .val (.int (5 : Int32)), .val (.ref b1)] [(.int (3 : Int32)), (.long d), (.int (3 : Int32)), (.ref b1)]
    refine w_callS ok (y := (⟨"com/example/nakami/nakami/pdf/BytesMatchesPinLaw", "b", "(JI)B"⟩ : MethodName)) (argsL := [(.long d), (.int (3 : Int32))]) (rest := [(.int (3 : Int32)), (.ref b1)]) d1_51 (hw _ (List.mem_of_getElem? (i := 5) rfl)) (hw _ (List.mem_of_getElem? (i := 6) rfl)) (hw _ (List.mem_of_getElem? (i := 2) rfl)) (hw _ (List.mem_of_getElem? (i := 7) rfl)) (by decide) pd_28JI29B rfl rfl (by decide) (Nat.le_of_ble_eq_true rfl) (by decide) (by decide) (fun z0 => rm_b l Z a0 hw [] n0 h20 z0 d (3 : Int32)) (fun v23 h24 qv23 => ?_)
    obtain ⟨⟨z25, rfl⟩, rfl⟩ := qv23
    show W K l _ n0 _ h20 1 5 54 #[.val (.long d), .second, .val (.int (5 : Int32)), .val (.ref b1)] [(.int z25), (.int (3 : Int32)), (.ref b1)]
    refine w_bastore ok d1_54 A_b1 ge_b1 (by decide) (Nat.le_of_ble_eq_true rfl) (fun h26 W_h26 A1_h26 => ?_)
    replace Kp := Kp.wr W_h26 (Or.inr sz_b1)
    replace A_b1 : PA .byte Z h26 b1 [(.int (nar .byte z7)), (.int (nar .byte z13)), (.int (nar .byte z19)), (.int (nar .byte z25)), (.int (0 : Int32))] := A1_h26
    show W K l _ n0 _ h26 1 5 55 #[.val (.long d), .second, .val (.int (5 : Int32)), .val (.ref b1)] []
    refine w_iloadN ok d1_55 rfl ?_
    show W K l _ n0 _ h26 1 5 56 #[.val (.long d), .second, .val (.int (5 : Int32)), .val (.ref b1)] [(.int (5 : Int32))]
    refine w_iconst ok d1_56 (v := (4 : Int32)) rfl ?_
    show W K l _ n0 _ h26 1 5 57 #[.val (.long d), .second, .val (.int (5 : Int32)), .val (.ref b1)] [(.int (4 : Int32)), (.int (5 : Int32))]
    refine w_icmp_le ok d1_57 (pc' := 68) (by decide) (fun hc28 => False.elim (by revert hc28; decide)) (fun hc28 => ?_)
    show W K l _ n0 _ h26 1 5 60 #[.val (.long d), .second, .val (.int (5 : Int32)), .val (.ref b1)] []
    refine w_aloadN ok d1_60 rfl rfl ?_
    show W K l _ n0 _ h26 1 5 61 #[.val (.long d), .second, .val (.int (5 : Int32)), .val (.ref b1)] [(.ref b1)]
    refine w_iconst ok d1_61 (v := (4 : Int32)) rfl ?_
    show W K l _ n0 _ h26 1 5 62 #[.val (.long d), .second, .val (.int (5 : Int32)), .val (.ref b1)] [(.int (4 : Int32)), (.ref b1)]
    refine w_lloadN ok d1_62 rfl ?_
    show W K l _ n0 _ h26 1 5 63 #[.val (.long d), .second, .val (.int (5 : Int32)), .val (.ref b1)] [(.long d), (.int (4 : Int32)), (.ref b1)]
    refine w_iconst ok d1_63 (v := (4 : Int32)) rfl ?_
    show W K l _ n0 _ h26 1 5 64 #[.val (.long d), .second, .val (.int (5 : Int32)), .val (.ref b1)] [(.int (4 : Int32)), (.long d), (.int (4 : Int32)), (.ref b1)]
    refine w_callS ok (y := (⟨"com/example/nakami/nakami/pdf/BytesMatchesPinLaw", "b", "(JI)B"⟩ : MethodName)) (argsL := [(.long d), (.int (4 : Int32))]) (rest := [(.int (4 : Int32)), (.ref b1)]) d1_64 (hw _ (List.mem_of_getElem? (i := 5) rfl)) (hw _ (List.mem_of_getElem? (i := 6) rfl)) (hw _ (List.mem_of_getElem? (i := 2) rfl)) (hw _ (List.mem_of_getElem? (i := 7) rfl)) (by decide) pd_28JI29B rfl rfl (by decide) (Nat.le_of_ble_eq_true rfl) (by decide) (by decide) (fun z0 => rm_b l Z a0 hw [] n0 h26 z0 d (4 : Int32)) (fun v29 h30 qv29 => ?_)
    obtain ⟨⟨z31, rfl⟩, rfl⟩ := qv29
    show W K l _ n0 _ h26 1 5 67 #[.val (.long d), .second, .val (.int (5 : Int32)), .val (.ref b1)] [(.int z31), (.int (4 : Int32)), (.ref b1)]
    refine w_bastore ok d1_67 A_b1 ge_b1 (by decide) (Nat.le_of_ble_eq_true rfl) (fun h32 W_h32 A1_h32 => ?_)
    replace Kp := Kp.wr W_h32 (Or.inr sz_b1)
    replace A_b1 : PA .byte Z h32 b1 [(.int (nar .byte z7)), (.int (nar .byte z13)), (.int (nar .byte z19)), (.int (nar .byte z25)), (.int (nar .byte z31))] := A1_h32
    show W K l _ n0 _ h32 1 5 68 #[.val (.long d), .second, .val (.int (5 : Int32)), .val (.ref b1)] []
    refine w_aloadN ok d1_68 rfl rfl ?_
    show W K l _ n0 _ h32 1 5 69 #[.val (.long d), .second, .val (.int (5 : Int32)), .val (.ref b1)] [(.ref b1)]
    refine w_aret ok rfl rfl d1_69 (by decide) (by decide) ?_
    exact ⟨b1, [nar .byte z7, nar .byte z13, nar .byte z19, nar .byte z25, nar .byte z31], rfl, sz_b1, ge_b1, Kp, A_b1, rfl⟩
theorem own_ix0 {a : Int32} (h : 0 ≤ a.toInt) : a.toInt = ((a.toNatClampNeg + 0 : Nat) : Int) := by rw [Int32.toNatClampNeg]; omega
theorem own_ix {a : Int32} (o : Nat) {z : Int32} (hz : z.toInt = o) (h : 0 ≤ a.toInt) (h2 : a.toInt + o ≤ 1000) : (a + z).toInt = ((a.toNatClampNeg + o : Nat) : Int) := by
  have e := c_iadd a z; have r := rng32 (a + z); rw [hz] at e; rw [Int32.toNatClampNeg]; omega
theorem own_pre_cons {xs ys : List Int32} {n : Nat} {x y : Int32} (h : xs[n]? = some x) : own_pre (xs.drop n) (y :: ys) = if x = y then own_pre (xs.drop (n + 1)) ys else 0 := by
  obtain ⟨h1, h2⟩ := List.getElem?_eq_some_iff.mp h
  rw [List.drop_eq_getElem_cons h1, own_pre, h2]
theorem own_pre_nil (xs : List Int32) : own_pre xs [] = 1 := by cases xs <;> rfl
theorem own_rd {xs : List Int32} {i : Nat} {x : Int32} (h : xs[i]? = some x) : (bys xs)[i]? = some (.int x) := by simp [bys, h]
theorem own_ex {xs : List Int32} {i : Nat} (h : i < xs.length) : ∃ x, xs[i]? = some x := ⟨_, List.getElem?_eq_getElem h⟩
theorem pd_28JI295bB : parseMethodDescriptor "(JI)[B" = some ⟨[.long, .int], some (.array .byte)⟩ := by decide +kernel
theorem pd_285bBI5bB29Z : parseMethodDescriptor "([BI[B)Z" = some ⟨[(.array .byte), .int, (.array .byte)], some .boolean⟩ := by decide +kernel
theorem pd_285bBIIJI29B : parseMethodDescriptor "([BIIJI)B" = some ⟨[(.array .byte), .int, .int, .long, .int], some .byte⟩ := by decide +kernel
set_option maxRecDepth 65536 in
set_option maxHeartbeats 40000000 in
theorem c35 (l : Launch) (Z : State) (a0 : Array Value) (hw : ∀ d ∈ tables_1, d.before a0 Z = true) (n0 : Nat) (h0 : Heap) (K : Cx) (ok : Ok K Z n0 x.cls code maxLocals ret x.name) (Z0 : n0 ≤ h0.size) (dd qq : Int64) (at' sh pk dl pl a : Int32) (hdl : dl = 0 ∨ dl = 1 ∨ dl = 2 ∨ dl = 3 ∨ dl = 4 ∨ dl = 5) (hpl : pl = 0 ∨ pl = 1 ∨ pl = 2 ∨ pl = 3) (ha : a.toInt ≤ 7) :
    W K l room_1 n0 (fun u h => u = some (.int 1)) h0 0 0 35 #[.val (.long dd), .second, .val (.long qq), .second, .val (.int at'), .val (.int sh), .val (.int pk), .val (.int dl), .val (.int pl), .val (.int a), .unset, .unset, .unset, .unset, .unset] [] := by
  have d5 : 0 ≤ dl.toInt ∧ dl.toInt ≤ 5 := by rcases hdl with rfl | rfl | rfl | rfl | rfl | rfl <;> decide
  have ra := rng32 a
  rcases hpl with rfl | rfl | rfl | rfl
  · skip
    show W K l _ n0 _ h0 0 0 35 #[.val (.long dd), .second, .val (.long qq), .second, .val (.int at'), .val (.int sh), .val (.int pk), .val (.int dl), .val (.int (0 : Int32)), .val (.int a), .unset, .unset, .unset, .unset, .unset] []
    refine w_lloadN ok at_35 rfl ?_
    show W K l _ n0 _ h0 0 0 36 #[.val (.long dd), .second, .val (.long qq), .second, .val (.int at'), .val (.int sh), .val (.int pk), .val (.int dl), .val (.int (0 : Int32)), .val (.int a), .unset, .unset, .unset, .unset, .unset] [(.long dd)]
    refine w_iload ok at_36 rfl ?_
    show W K l _ n0 _ h0 0 0 38 #[.val (.long dd), .second, .val (.long qq), .second, .val (.int at'), .val (.int sh), .val (.int pk), .val (.int dl), .val (.int (0 : Int32)), .val (.int a), .unset, .unset, .unset, .unset, .unset] [(.int dl), (.long dd)]
    refine w_callS ok (y := (⟨"com/example/nakami/nakami/pdf/BytesMatchesPinLaw", "makeData", "(JI)[B"⟩ : MethodName)) (argsL := [(.long dd), (.int dl)]) (rest := []) at_38 (hw _ (List.mem_of_getElem? (i := 0) rfl)) (hw _ (List.mem_of_getElem? (i := 1) rfl)) (hw _ (List.mem_of_getElem? (i := 2) rfl)) (hw _ (List.mem_of_getElem? (i := 3) rfl)) (by decide) pd_28JI295bB rfl rfl (by decide) (Nat.le_of_ble_eq_true rfl) (by decide) (by decide) (fun z0 => rm_make l Z a0 hw [] n0 h0 z0 dd dl hdl) (fun v1 h2 qv1 => ?_)
    obtain ⟨dt, xs, rfl, sz_dt, ge_dt, K1, A_dt, hxs⟩ := qv1
    show W K l _ n0 _ h2 1 5 41 #[.val (.long dd), .second, .val (.long qq), .second, .val (.int at'), .val (.int sh), .val (.int pk), .val (.int dl), .val (.int (0 : Int32)), .val (.int a), .unset, .unset, .unset, .unset, .unset] [(.ref dt)]
    refine w_astore ok at_41 rfl (L' := #[.val (.long dd), .second, .val (.long qq), .second, .val (.int at'), .val (.int sh), .val (.int pk), .val (.int dl), .val (.int (0 : Int32)), .val (.int a), .val (.ref dt), .unset, .unset, .unset, .unset]) rfl ?_
    show W K l _ n0 _ h2 1 5 43 #[.val (.long dd), .second, .val (.long qq), .second, .val (.int at'), .val (.int sh), .val (.int pk), .val (.int dl), .val (.int (0 : Int32)), .val (.int a), .val (.ref dt), .unset, .unset, .unset, .unset] []
    refine w_iload ok at_43 rfl ?_
    show W K l _ n0 _ h2 1 5 45 #[.val (.long dd), .second, .val (.long qq), .second, .val (.int at'), .val (.int sh), .val (.int pk), .val (.int dl), .val (.int (0 : Int32)), .val (.int a), .val (.ref dt), .unset, .unset, .unset, .unset] [(.int (0 : Int32))]
    refine w_newarray ok at_45 (hw _ (List.mem_of_getElem? (i := 4) rfl)) (by decide) (cap := 0) (by decide) (by decide) (by decide) (by decide) (fun h4 b3 ea_b3 ge_b3 E_b3 A_b3 => ?_)
    have ne_dt_b3 : dt ≠ b3 := fun q => Nat.lt_irrefl _ (Nat.lt_of_lt_of_eq A_dt.lt (ea_b3.symm.trans q.symm))
    replace A_dt := A_dt.ext E_b3
    replace A_b3 : PA .byte Z h4 b3 [] := A_b3
    show W K l _ n0 _ h4 2 5 47 #[.val (.long dd), .second, .val (.long qq), .second, .val (.int at'), .val (.int sh), .val (.int pk), .val (.int dl), .val (.int (0 : Int32)), .val (.int a), .val (.ref dt), .unset, .unset, .unset, .unset] [(.ref b3)]
    refine w_astore ok at_47 rfl (L' := #[.val (.long dd), .second, .val (.long qq), .second, .val (.int at'), .val (.int sh), .val (.int pk), .val (.int dl), .val (.int (0 : Int32)), .val (.int a), .val (.ref dt), .val (.ref b3), .unset, .unset, .unset]) rfl ?_
    show W K l _ n0 _ h4 2 5 49 #[.val (.long dd), .second, .val (.long qq), .second, .val (.int at'), .val (.int sh), .val (.int pk), .val (.int dl), .val (.int (0 : Int32)), .val (.int a), .val (.ref dt), .val (.ref b3), .unset, .unset, .unset] []
    refine w_iload ok at_49 rfl ?_
    show W K l _ n0 _ h4 2 5 51 #[.val (.long dd), .second, .val (.long qq), .second, .val (.int at'), .val (.int sh), .val (.int pk), .val (.int dl), .val (.int (0 : Int32)), .val (.int a), .val (.ref dt), .val (.ref b3), .unset, .unset, .unset] [(.int (0 : Int32))]
    refine w_if_le ok at_51 (pc' := 69) (by decide) (fun hc6 => ?_) (fun hc6 => False.elim (by revert hc6; decide))
    show W K l _ n0 _ h4 2 5 69 #[.val (.long dd), .second, .val (.long qq), .second, .val (.int at'), .val (.int sh), .val (.int pk), .val (.int dl), .val (.int (0 : Int32)), .val (.int a), .val (.ref dt), .val (.ref b3), .unset, .unset, .unset] []
    refine w_iload ok at_69 rfl ?_
    show W K l _ n0 _ h4 2 5 71 #[.val (.long dd), .second, .val (.long qq), .second, .val (.int at'), .val (.int sh), .val (.int pk), .val (.int dl), .val (.int (0 : Int32)), .val (.int a), .val (.ref dt), .val (.ref b3), .unset, .unset, .unset] [(.int (0 : Int32))]
    refine w_iconst ok at_71 (v := (1 : Int32)) rfl ?_
    show W K l _ n0 _ h4 2 5 72 #[.val (.long dd), .second, .val (.long qq), .second, .val (.int at'), .val (.int sh), .val (.int pk), .val (.int dl), .val (.int (0 : Int32)), .val (.int a), .val (.ref dt), .val (.ref b3), .unset, .unset, .unset] [(.int (1 : Int32)), (.int (0 : Int32))]
    refine w_icmp_le ok at_72 (pc' := 90) (by decide) (fun hc8 => ?_) (fun hc8 => False.elim (by revert hc8; decide))
    show W K l _ n0 _ h4 2 5 90 #[.val (.long dd), .second, .val (.long qq), .second, .val (.int at'), .val (.int sh), .val (.int pk), .val (.int dl), .val (.int (0 : Int32)), .val (.int a), .val (.ref dt), .val (.ref b3), .unset, .unset, .unset] []
    refine w_iload ok at_90 rfl ?_
    show W K l _ n0 _ h4 2 5 92 #[.val (.long dd), .second, .val (.long qq), .second, .val (.int at'), .val (.int sh), .val (.int pk), .val (.int dl), .val (.int (0 : Int32)), .val (.int a), .val (.ref dt), .val (.ref b3), .unset, .unset, .unset] [(.int (0 : Int32))]
    refine w_iconst ok at_92 (v := (2 : Int32)) rfl ?_
    show W K l _ n0 _ h4 2 5 93 #[.val (.long dd), .second, .val (.long qq), .second, .val (.int at'), .val (.int sh), .val (.int pk), .val (.int dl), .val (.int (0 : Int32)), .val (.int a), .val (.ref dt), .val (.ref b3), .unset, .unset, .unset] [(.int (2 : Int32)), (.int (0 : Int32))]
    refine w_icmp_le ok at_93 (pc' := 111) (by decide) (fun hc10 => ?_) (fun hc10 => False.elim (by revert hc10; decide))
    show W K l _ n0 _ h4 2 5 111 #[.val (.long dd), .second, .val (.long qq), .second, .val (.int at'), .val (.int sh), .val (.int pk), .val (.int dl), .val (.int (0 : Int32)), .val (.int a), .val (.ref dt), .val (.ref b3), .unset, .unset, .unset] []
    refine w_aload ok at_111 rfl rfl ?_
    show W K l _ n0 _ h4 2 5 113 #[.val (.long dd), .second, .val (.long qq), .second, .val (.int at'), .val (.int sh), .val (.int pk), .val (.int dl), .val (.int (0 : Int32)), .val (.int a), .val (.ref dt), .val (.ref b3), .unset, .unset, .unset] [(.ref dt)]
    refine w_iload ok at_113 rfl ?_
    show W K l _ n0 _ h4 2 5 115 #[.val (.long dd), .second, .val (.long qq), .second, .val (.int at'), .val (.int sh), .val (.int pk), .val (.int dl), .val (.int (0 : Int32)), .val (.int a), .val (.ref dt), .val (.ref b3), .unset, .unset, .unset] [(.int a), (.ref dt)]
    refine w_aload ok at_115 rfl rfl ?_
    show W K l _ n0 _ h4 2 5 117 #[.val (.long dd), .second, .val (.long qq), .second, .val (.int at'), .val (.int sh), .val (.int pk), .val (.int dl), .val (.int (0 : Int32)), .val (.int a), .val (.ref dt), .val (.ref b3), .unset, .unset, .unset] [(.ref b3), (.int a), (.ref dt)]
    refine w_callS ok (y := (⟨"com/example/nakami/nakami/pdf/Bytes", "matches", "([BI[B)Z"⟩ : MethodName)) (argsL := [(.ref dt), (.int a), (.ref b3)]) (rest := []) at_117 (hw _ (List.mem_of_getElem? (i := 8) rfl)) (hw _ (List.mem_of_getElem? (i := 9) rfl)) (hw _ (List.mem_of_getElem? (i := 10) rfl)) (hw _ (List.mem_of_getElem? (i := 11) rfl)) (by decide) pd_285bBI5bB29Z rfl rfl (by decide) (Nat.le_of_ble_eq_true rfl) (by decide) (by decide) (fun z0 => rm_m l Z a0 hw [] n0 h4 z0 dt b3 xs [] a A_dt A_b3 (by omega) (by show _ + (0 : Int) < _; omega)) (fun v11 h12 qv11 => ?_)
    obtain ⟨rfl, rfl⟩ := qv11
    show W K l _ n0 _ h4 2 5 120 #[.val (.long dd), .second, .val (.long qq), .second, .val (.int at'), .val (.int sh), .val (.int pk), .val (.int dl), .val (.int (0 : Int32)), .val (.int a), .val (.ref dt), .val (.ref b3), .unset, .unset, .unset] [(.int (nar .boolean (own_mt xs a [])))]
    refine w_istore ok at_120 (L' := #[.val (.long dd), .second, .val (.long qq), .second, .val (.int at'), .val (.int sh), .val (.int pk), .val (.int dl), .val (.int (0 : Int32)), .val (.int a), .val (.ref dt), .val (.ref b3), .val (.int (nar .boolean (own_mt xs a []))), .unset, .unset]) rfl ?_
    show W K l _ n0 _ h4 2 5 122 #[.val (.long dd), .second, .val (.long qq), .second, .val (.int at'), .val (.int sh), .val (.int pk), .val (.int dl), .val (.int (0 : Int32)), .val (.int a), .val (.ref dt), .val (.ref b3), .val (.int (nar .boolean (own_mt xs a []))), .unset, .unset] []
    have es : (dl - (0 : Int32)).toInt = dl.toInt - 0 := by have e1 := c_isub dl 0; have e2 := rng32 (dl - 0); have e3 : (0 : Int32).toInt = 0 := rfl; omega
    refine w_iload ok at_122 rfl ?_
    show W K l _ n0 _ h4 2 5 124 #[.val (.long dd), .second, .val (.long qq), .second, .val (.int at'), .val (.int sh), .val (.int pk), .val (.int dl), .val (.int (0 : Int32)), .val (.int a), .val (.ref dt), .val (.ref b3), .val (.int (nar .boolean (own_mt xs a []))), .unset, .unset] [(.int a)]
    refine w_if_lt ok at_124 (pc' := 141) (by decide) (fun hc14 => ?_) (fun hc14 => ?_)
    · show W K l _ n0 _ h4 2 5 141 #[.val (.long dd), .second, .val (.long qq), .second, .val (.int at'), .val (.int sh), .val (.int pk), .val (.int dl), .val (.int (0 : Int32)), .val (.int a), .val (.ref dt), .val (.ref b3), .val (.int (nar .boolean (own_mt xs a []))), .unset, .unset] []
      refine w_iconst ok at_141 (v := (0 : Int32)) rfl ?_
      show W K l _ n0 _ h4 2 5 142 #[.val (.long dd), .second, .val (.long qq), .second, .val (.int at'), .val (.int sh), .val (.int pk), .val (.int dl), .val (.int (0 : Int32)), .val (.int a), .val (.ref dt), .val (.ref b3), .val (.int (nar .boolean (own_mt xs a []))), .unset, .unset] [(.int (0 : Int32))]
      refine w_istore ok at_142 (L' := #[.val (.long dd), .second, .val (.long qq), .second, .val (.int at'), .val (.int sh), .val (.int pk), .val (.int dl), .val (.int (0 : Int32)), .val (.int a), .val (.ref dt), .val (.ref b3), .val (.int (nar .boolean (own_mt xs a []))), .val (.int (0 : Int32)), .unset]) rfl ?_
      show W K l _ n0 _ h4 2 5 144 #[.val (.long dd), .second, .val (.long qq), .second, .val (.int at'), .val (.int sh), .val (.int pk), .val (.int dl), .val (.int (0 : Int32)), .val (.int a), .val (.ref dt), .val (.ref b3), .val (.int (nar .boolean (own_mt xs a []))), .val (.int (0 : Int32)), .unset] []
      refine w_iload ok at_144 rfl ?_
      show W K l _ n0 _ h4 2 5 146 #[.val (.long dd), .second, .val (.long qq), .second, .val (.int at'), .val (.int sh), .val (.int pk), .val (.int dl), .val (.int (0 : Int32)), .val (.int a), .val (.ref dt), .val (.ref b3), .val (.int (nar .boolean (own_mt xs a []))), .val (.int (0 : Int32)), .unset] [(.int (0 : Int32))]
      refine w_if_eq ok at_146 (pc' := 211) (by decide) (fun hc16 => ?_) (fun hc16 => False.elim (by revert hc16; decide))
      show W K l _ n0 _ h4 2 5 211 #[.val (.long dd), .second, .val (.long qq), .second, .val (.int at'), .val (.int sh), .val (.int pk), .val (.int dl), .val (.int (0 : Int32)), .val (.int a), .val (.ref dt), .val (.ref b3), .val (.int (nar .boolean (own_mt xs a []))), .val (.int (0 : Int32)), .unset] []
      refine w_iconst ok at_211 (v := (0 : Int32)) rfl ?_
      show W K l _ n0 _ h4 2 5 212 #[.val (.long dd), .second, .val (.long qq), .second, .val (.int at'), .val (.int sh), .val (.int pk), .val (.int dl), .val (.int (0 : Int32)), .val (.int a), .val (.ref dt), .val (.ref b3), .val (.int (nar .boolean (own_mt xs a []))), .val (.int (0 : Int32)), .unset] [(.int (0 : Int32))]
      refine w_istore ok at_212 (L' := #[.val (.long dd), .second, .val (.long qq), .second, .val (.int at'), .val (.int sh), .val (.int pk), .val (.int dl), .val (.int (0 : Int32)), .val (.int a), .val (.ref dt), .val (.ref b3), .val (.int (nar .boolean (own_mt xs a []))), .val (.int (0 : Int32)), .val (.int (0 : Int32))]) rfl ?_
      show W K l _ n0 _ h4 2 5 214 #[.val (.long dd), .second, .val (.long qq), .second, .val (.int at'), .val (.int sh), .val (.int pk), .val (.int dl), .val (.int (0 : Int32)), .val (.int a), .val (.ref dt), .val (.ref b3), .val (.int (nar .boolean (own_mt xs a []))), .val (.int (0 : Int32)), .val (.int (0 : Int32))] []
      refine w_iload ok at_214 rfl ?_
      show W K l _ n0 _ h4 2 5 216 #[.val (.long dd), .second, .val (.long qq), .second, .val (.int at'), .val (.int sh), .val (.int pk), .val (.int dl), .val (.int (0 : Int32)), .val (.int a), .val (.ref dt), .val (.ref b3), .val (.int (nar .boolean (own_mt xs a []))), .val (.int (0 : Int32)), .val (.int (0 : Int32))] [(.int (nar .boolean (own_mt xs a [])))]
      refine w_iload ok at_216 rfl ?_
      show W K l _ n0 _ h4 2 5 218 #[.val (.long dd), .second, .val (.long qq), .second, .val (.int at'), .val (.int sh), .val (.int pk), .val (.int dl), .val (.int (0 : Int32)), .val (.int a), .val (.ref dt), .val (.ref b3), .val (.int (nar .boolean (own_mt xs a []))), .val (.int (0 : Int32)), .val (.int (0 : Int32))] [(.int (0 : Int32)), (.int (nar .boolean (own_mt xs a [])))]
      refine w_icmp_ne ok at_218 (pc' := 225) (by decide) (fun hc18 => False.elim (by exact hc18 (by simp only [Int32.lt_iff_toInt_lt, es, Int32.reduceToInt] at hc14; rw [own_mt, if_pos (by first | (left; omega) | (right; show _ < _ + (0 : Int); omega))] <;> rfl))) (fun hc18 => ?_)
      show W K l _ n0 _ h4 2 5 221 #[.val (.long dd), .second, .val (.long qq), .second, .val (.int at'), .val (.int sh), .val (.int pk), .val (.int dl), .val (.int (0 : Int32)), .val (.int a), .val (.ref dt), .val (.ref b3), .val (.int (nar .boolean (own_mt xs a []))), .val (.int (0 : Int32)), .val (.int (0 : Int32))] []
      refine w_iconst ok at_221 (v := (1 : Int32)) rfl ?_
      show W K l _ n0 _ h4 2 5 222 #[.val (.long dd), .second, .val (.long qq), .second, .val (.int at'), .val (.int sh), .val (.int pk), .val (.int dl), .val (.int (0 : Int32)), .val (.int a), .val (.ref dt), .val (.ref b3), .val (.int (nar .boolean (own_mt xs a []))), .val (.int (0 : Int32)), .val (.int (0 : Int32))] [(.int (1 : Int32))]
      refine w_goto ok at_222 (pc' := 226) (by decide) ?_
      show W K l _ n0 _ h4 2 5 226 #[.val (.long dd), .second, .val (.long qq), .second, .val (.int at'), .val (.int sh), .val (.int pk), .val (.int dl), .val (.int (0 : Int32)), .val (.int a), .val (.ref dt), .val (.ref b3), .val (.int (nar .boolean (own_mt xs a []))), .val (.int (0 : Int32)), .val (.int (0 : Int32))] [(.int (1 : Int32))]
      refine w_bret ok (by simp) at_226 (by decide) (by decide) ?_
      exact rfl
    · show W K l _ n0 _ h4 2 5 127 #[.val (.long dd), .second, .val (.long qq), .second, .val (.int at'), .val (.int sh), .val (.int pk), .val (.int dl), .val (.int (0 : Int32)), .val (.int a), .val (.ref dt), .val (.ref b3), .val (.int (nar .boolean (own_mt xs a []))), .unset, .unset] []
      refine w_iload ok at_127 rfl ?_
      show W K l _ n0 _ h4 2 5 129 #[.val (.long dd), .second, .val (.long qq), .second, .val (.int at'), .val (.int sh), .val (.int pk), .val (.int dl), .val (.int (0 : Int32)), .val (.int a), .val (.ref dt), .val (.ref b3), .val (.int (nar .boolean (own_mt xs a []))), .unset, .unset] [(.int a)]
      refine w_iload ok at_129 rfl ?_
      show W K l _ n0 _ h4 2 5 131 #[.val (.long dd), .second, .val (.long qq), .second, .val (.int at'), .val (.int sh), .val (.int pk), .val (.int dl), .val (.int (0 : Int32)), .val (.int a), .val (.ref dt), .val (.ref b3), .val (.int (nar .boolean (own_mt xs a []))), .unset, .unset] [(.int dl), (.int a)]
      refine w_iload ok at_131 rfl ?_
      show W K l _ n0 _ h4 2 5 133 #[.val (.long dd), .second, .val (.long qq), .second, .val (.int at'), .val (.int sh), .val (.int pk), .val (.int dl), .val (.int (0 : Int32)), .val (.int a), .val (.ref dt), .val (.ref b3), .val (.int (nar .boolean (own_mt xs a []))), .unset, .unset] [(.int (0 : Int32)), (.int dl), (.int a)]
      refine w_isub ok at_133 ?_
      show W K l _ n0 _ h4 2 5 134 #[.val (.long dd), .second, .val (.long qq), .second, .val (.int at'), .val (.int sh), .val (.int pk), .val (.int dl), .val (.int (0 : Int32)), .val (.int a), .val (.ref dt), .val (.ref b3), .val (.int (nar .boolean (own_mt xs a []))), .unset, .unset] [(.int (dl - (0 : Int32))), (.int a)]
      refine w_icmp_gt ok at_134 (pc' := 141) (by decide) (fun hc20 => ?_) (fun hc20 => ?_)
      · show W K l _ n0 _ h4 2 5 141 #[.val (.long dd), .second, .val (.long qq), .second, .val (.int at'), .val (.int sh), .val (.int pk), .val (.int dl), .val (.int (0 : Int32)), .val (.int a), .val (.ref dt), .val (.ref b3), .val (.int (nar .boolean (own_mt xs a []))), .unset, .unset] []
        refine w_iconst ok at_141 (v := (0 : Int32)) rfl ?_
        show W K l _ n0 _ h4 2 5 142 #[.val (.long dd), .second, .val (.long qq), .second, .val (.int at'), .val (.int sh), .val (.int pk), .val (.int dl), .val (.int (0 : Int32)), .val (.int a), .val (.ref dt), .val (.ref b3), .val (.int (nar .boolean (own_mt xs a []))), .unset, .unset] [(.int (0 : Int32))]
        refine w_istore ok at_142 (L' := #[.val (.long dd), .second, .val (.long qq), .second, .val (.int at'), .val (.int sh), .val (.int pk), .val (.int dl), .val (.int (0 : Int32)), .val (.int a), .val (.ref dt), .val (.ref b3), .val (.int (nar .boolean (own_mt xs a []))), .val (.int (0 : Int32)), .unset]) rfl ?_
        show W K l _ n0 _ h4 2 5 144 #[.val (.long dd), .second, .val (.long qq), .second, .val (.int at'), .val (.int sh), .val (.int pk), .val (.int dl), .val (.int (0 : Int32)), .val (.int a), .val (.ref dt), .val (.ref b3), .val (.int (nar .boolean (own_mt xs a []))), .val (.int (0 : Int32)), .unset] []
        refine w_iload ok at_144 rfl ?_
        show W K l _ n0 _ h4 2 5 146 #[.val (.long dd), .second, .val (.long qq), .second, .val (.int at'), .val (.int sh), .val (.int pk), .val (.int dl), .val (.int (0 : Int32)), .val (.int a), .val (.ref dt), .val (.ref b3), .val (.int (nar .boolean (own_mt xs a []))), .val (.int (0 : Int32)), .unset] [(.int (0 : Int32))]
        refine w_if_eq ok at_146 (pc' := 211) (by decide) (fun hc22 => ?_) (fun hc22 => False.elim (by revert hc22; decide))
        show W K l _ n0 _ h4 2 5 211 #[.val (.long dd), .second, .val (.long qq), .second, .val (.int at'), .val (.int sh), .val (.int pk), .val (.int dl), .val (.int (0 : Int32)), .val (.int a), .val (.ref dt), .val (.ref b3), .val (.int (nar .boolean (own_mt xs a []))), .val (.int (0 : Int32)), .unset] []
        refine w_iconst ok at_211 (v := (0 : Int32)) rfl ?_
        show W K l _ n0 _ h4 2 5 212 #[.val (.long dd), .second, .val (.long qq), .second, .val (.int at'), .val (.int sh), .val (.int pk), .val (.int dl), .val (.int (0 : Int32)), .val (.int a), .val (.ref dt), .val (.ref b3), .val (.int (nar .boolean (own_mt xs a []))), .val (.int (0 : Int32)), .unset] [(.int (0 : Int32))]
        refine w_istore ok at_212 (L' := #[.val (.long dd), .second, .val (.long qq), .second, .val (.int at'), .val (.int sh), .val (.int pk), .val (.int dl), .val (.int (0 : Int32)), .val (.int a), .val (.ref dt), .val (.ref b3), .val (.int (nar .boolean (own_mt xs a []))), .val (.int (0 : Int32)), .val (.int (0 : Int32))]) rfl ?_
        show W K l _ n0 _ h4 2 5 214 #[.val (.long dd), .second, .val (.long qq), .second, .val (.int at'), .val (.int sh), .val (.int pk), .val (.int dl), .val (.int (0 : Int32)), .val (.int a), .val (.ref dt), .val (.ref b3), .val (.int (nar .boolean (own_mt xs a []))), .val (.int (0 : Int32)), .val (.int (0 : Int32))] []
        refine w_iload ok at_214 rfl ?_
        show W K l _ n0 _ h4 2 5 216 #[.val (.long dd), .second, .val (.long qq), .second, .val (.int at'), .val (.int sh), .val (.int pk), .val (.int dl), .val (.int (0 : Int32)), .val (.int a), .val (.ref dt), .val (.ref b3), .val (.int (nar .boolean (own_mt xs a []))), .val (.int (0 : Int32)), .val (.int (0 : Int32))] [(.int (nar .boolean (own_mt xs a [])))]
        refine w_iload ok at_216 rfl ?_
        show W K l _ n0 _ h4 2 5 218 #[.val (.long dd), .second, .val (.long qq), .second, .val (.int at'), .val (.int sh), .val (.int pk), .val (.int dl), .val (.int (0 : Int32)), .val (.int a), .val (.ref dt), .val (.ref b3), .val (.int (nar .boolean (own_mt xs a []))), .val (.int (0 : Int32)), .val (.int (0 : Int32))] [(.int (0 : Int32)), (.int (nar .boolean (own_mt xs a [])))]
        refine w_icmp_ne ok at_218 (pc' := 225) (by decide) (fun hc24 => False.elim (by exact hc24 (by simp only [Int32.lt_iff_toInt_lt, es, Int32.reduceToInt] at hc14 hc20; rw [own_mt, if_pos (by first | (left; omega) | (right; show _ < _ + (0 : Int); omega))] <;> rfl))) (fun hc24 => ?_)
        show W K l _ n0 _ h4 2 5 221 #[.val (.long dd), .second, .val (.long qq), .second, .val (.int at'), .val (.int sh), .val (.int pk), .val (.int dl), .val (.int (0 : Int32)), .val (.int a), .val (.ref dt), .val (.ref b3), .val (.int (nar .boolean (own_mt xs a []))), .val (.int (0 : Int32)), .val (.int (0 : Int32))] []
        refine w_iconst ok at_221 (v := (1 : Int32)) rfl ?_
        show W K l _ n0 _ h4 2 5 222 #[.val (.long dd), .second, .val (.long qq), .second, .val (.int at'), .val (.int sh), .val (.int pk), .val (.int dl), .val (.int (0 : Int32)), .val (.int a), .val (.ref dt), .val (.ref b3), .val (.int (nar .boolean (own_mt xs a []))), .val (.int (0 : Int32)), .val (.int (0 : Int32))] [(.int (1 : Int32))]
        refine w_goto ok at_222 (pc' := 226) (by decide) ?_
        show W K l _ n0 _ h4 2 5 226 #[.val (.long dd), .second, .val (.long qq), .second, .val (.int at'), .val (.int sh), .val (.int pk), .val (.int dl), .val (.int (0 : Int32)), .val (.int a), .val (.ref dt), .val (.ref b3), .val (.int (nar .boolean (own_mt xs a []))), .val (.int (0 : Int32)), .val (.int (0 : Int32))] [(.int (1 : Int32))]
        refine w_bret ok (by simp) at_226 (by decide) (by decide) ?_
        exact rfl
      · show W K l _ n0 _ h4 2 5 137 #[.val (.long dd), .second, .val (.long qq), .second, .val (.int at'), .val (.int sh), .val (.int pk), .val (.int dl), .val (.int (0 : Int32)), .val (.int a), .val (.ref dt), .val (.ref b3), .val (.int (nar .boolean (own_mt xs a []))), .unset, .unset] []
        refine w_iconst ok at_137 (v := (1 : Int32)) rfl ?_
        show W K l _ n0 _ h4 2 5 138 #[.val (.long dd), .second, .val (.long qq), .second, .val (.int at'), .val (.int sh), .val (.int pk), .val (.int dl), .val (.int (0 : Int32)), .val (.int a), .val (.ref dt), .val (.ref b3), .val (.int (nar .boolean (own_mt xs a []))), .unset, .unset] [(.int (1 : Int32))]
        refine w_goto ok at_138 (pc' := 142) (by decide) ?_
        show W K l _ n0 _ h4 2 5 142 #[.val (.long dd), .second, .val (.long qq), .second, .val (.int at'), .val (.int sh), .val (.int pk), .val (.int dl), .val (.int (0 : Int32)), .val (.int a), .val (.ref dt), .val (.ref b3), .val (.int (nar .boolean (own_mt xs a []))), .unset, .unset] [(.int (1 : Int32))]
        refine w_istore ok at_142 (L' := #[.val (.long dd), .second, .val (.long qq), .second, .val (.int at'), .val (.int sh), .val (.int pk), .val (.int dl), .val (.int (0 : Int32)), .val (.int a), .val (.ref dt), .val (.ref b3), .val (.int (nar .boolean (own_mt xs a []))), .val (.int (1 : Int32)), .unset]) rfl ?_
        show W K l _ n0 _ h4 2 5 144 #[.val (.long dd), .second, .val (.long qq), .second, .val (.int at'), .val (.int sh), .val (.int pk), .val (.int dl), .val (.int (0 : Int32)), .val (.int a), .val (.ref dt), .val (.ref b3), .val (.int (nar .boolean (own_mt xs a []))), .val (.int (1 : Int32)), .unset] []
        refine w_iload ok at_144 rfl ?_
        show W K l _ n0 _ h4 2 5 146 #[.val (.long dd), .second, .val (.long qq), .second, .val (.int at'), .val (.int sh), .val (.int pk), .val (.int dl), .val (.int (0 : Int32)), .val (.int a), .val (.ref dt), .val (.ref b3), .val (.int (nar .boolean (own_mt xs a []))), .val (.int (1 : Int32)), .unset] [(.int (1 : Int32))]
        refine w_if_eq ok at_146 (pc' := 211) (by decide) (fun hc26 => False.elim (by revert hc26; decide)) (fun hc26 => ?_)
        show W K l _ n0 _ h4 2 5 149 #[.val (.long dd), .second, .val (.long qq), .second, .val (.int at'), .val (.int sh), .val (.int pk), .val (.int dl), .val (.int (0 : Int32)), .val (.int a), .val (.ref dt), .val (.ref b3), .val (.int (nar .boolean (own_mt xs a []))), .val (.int (1 : Int32)), .unset] []
        refine w_iload ok at_149 rfl ?_
        show W K l _ n0 _ h4 2 5 151 #[.val (.long dd), .second, .val (.long qq), .second, .val (.int at'), .val (.int sh), .val (.int pk), .val (.int dl), .val (.int (0 : Int32)), .val (.int a), .val (.ref dt), .val (.ref b3), .val (.int (nar .boolean (own_mt xs a []))), .val (.int (1 : Int32)), .unset] [(.int (0 : Int32))]
        refine w_iconst ok at_151 (v := (1 : Int32)) rfl ?_
        show W K l _ n0 _ h4 2 5 152 #[.val (.long dd), .second, .val (.long qq), .second, .val (.int at'), .val (.int sh), .val (.int pk), .val (.int dl), .val (.int (0 : Int32)), .val (.int a), .val (.ref dt), .val (.ref b3), .val (.int (nar .boolean (own_mt xs a []))), .val (.int (1 : Int32)), .unset] [(.int (1 : Int32)), (.int (0 : Int32))]
        refine w_icmp_lt ok at_152 (pc' := 167) (by decide) (fun hc28 => ?_) (fun hc28 => False.elim (by revert hc28; decide))
        show W K l _ n0 _ h4 2 5 167 #[.val (.long dd), .second, .val (.long qq), .second, .val (.int at'), .val (.int sh), .val (.int pk), .val (.int dl), .val (.int (0 : Int32)), .val (.int a), .val (.ref dt), .val (.ref b3), .val (.int (nar .boolean (own_mt xs a []))), .val (.int (1 : Int32)), .unset] []
        refine w_iload ok at_167 rfl ?_
        show W K l _ n0 _ h4 2 5 169 #[.val (.long dd), .second, .val (.long qq), .second, .val (.int at'), .val (.int sh), .val (.int pk), .val (.int dl), .val (.int (0 : Int32)), .val (.int a), .val (.ref dt), .val (.ref b3), .val (.int (nar .boolean (own_mt xs a []))), .val (.int (1 : Int32)), .unset] [(.int (0 : Int32))]
        refine w_iconst ok at_169 (v := (2 : Int32)) rfl ?_
        show W K l _ n0 _ h4 2 5 170 #[.val (.long dd), .second, .val (.long qq), .second, .val (.int at'), .val (.int sh), .val (.int pk), .val (.int dl), .val (.int (0 : Int32)), .val (.int a), .val (.ref dt), .val (.ref b3), .val (.int (nar .boolean (own_mt xs a []))), .val (.int (1 : Int32)), .unset] [(.int (2 : Int32)), (.int (0 : Int32))]
        refine w_icmp_lt ok at_170 (pc' := 187) (by decide) (fun hc30 => ?_) (fun hc30 => False.elim (by revert hc30; decide))
        show W K l _ n0 _ h4 2 5 187 #[.val (.long dd), .second, .val (.long qq), .second, .val (.int at'), .val (.int sh), .val (.int pk), .val (.int dl), .val (.int (0 : Int32)), .val (.int a), .val (.ref dt), .val (.ref b3), .val (.int (nar .boolean (own_mt xs a []))), .val (.int (1 : Int32)), .unset] []
        refine w_iload ok at_187 rfl ?_
        show W K l _ n0 _ h4 2 5 189 #[.val (.long dd), .second, .val (.long qq), .second, .val (.int at'), .val (.int sh), .val (.int pk), .val (.int dl), .val (.int (0 : Int32)), .val (.int a), .val (.ref dt), .val (.ref b3), .val (.int (nar .boolean (own_mt xs a []))), .val (.int (1 : Int32)), .unset] [(.int (0 : Int32))]
        refine w_iconst ok at_189 (v := (3 : Int32)) rfl ?_
        show W K l _ n0 _ h4 2 5 190 #[.val (.long dd), .second, .val (.long qq), .second, .val (.int at'), .val (.int sh), .val (.int pk), .val (.int dl), .val (.int (0 : Int32)), .val (.int a), .val (.ref dt), .val (.ref b3), .val (.int (nar .boolean (own_mt xs a []))), .val (.int (1 : Int32)), .unset] [(.int (3 : Int32)), (.int (0 : Int32))]
        refine w_icmp_lt ok at_190 (pc' := 207) (by decide) (fun hc32 => ?_) (fun hc32 => False.elim (by revert hc32; decide))
        show W K l _ n0 _ h4 2 5 207 #[.val (.long dd), .second, .val (.long qq), .second, .val (.int at'), .val (.int sh), .val (.int pk), .val (.int dl), .val (.int (0 : Int32)), .val (.int a), .val (.ref dt), .val (.ref b3), .val (.int (nar .boolean (own_mt xs a []))), .val (.int (1 : Int32)), .unset] []
        refine w_iconst ok at_207 (v := (1 : Int32)) rfl ?_
        show W K l _ n0 _ h4 2 5 208 #[.val (.long dd), .second, .val (.long qq), .second, .val (.int at'), .val (.int sh), .val (.int pk), .val (.int dl), .val (.int (0 : Int32)), .val (.int a), .val (.ref dt), .val (.ref b3), .val (.int (nar .boolean (own_mt xs a []))), .val (.int (1 : Int32)), .unset] [(.int (1 : Int32))]
        refine w_goto ok at_208 (pc' := 212) (by decide) ?_
        show W K l _ n0 _ h4 2 5 212 #[.val (.long dd), .second, .val (.long qq), .second, .val (.int at'), .val (.int sh), .val (.int pk), .val (.int dl), .val (.int (0 : Int32)), .val (.int a), .val (.ref dt), .val (.ref b3), .val (.int (nar .boolean (own_mt xs a []))), .val (.int (1 : Int32)), .unset] [(.int (1 : Int32))]
        refine w_istore ok at_212 (L' := #[.val (.long dd), .second, .val (.long qq), .second, .val (.int at'), .val (.int sh), .val (.int pk), .val (.int dl), .val (.int (0 : Int32)), .val (.int a), .val (.ref dt), .val (.ref b3), .val (.int (nar .boolean (own_mt xs a []))), .val (.int (1 : Int32)), .val (.int (1 : Int32))]) rfl ?_
        show W K l _ n0 _ h4 2 5 214 #[.val (.long dd), .second, .val (.long qq), .second, .val (.int at'), .val (.int sh), .val (.int pk), .val (.int dl), .val (.int (0 : Int32)), .val (.int a), .val (.ref dt), .val (.ref b3), .val (.int (nar .boolean (own_mt xs a []))), .val (.int (1 : Int32)), .val (.int (1 : Int32))] []
        refine w_iload ok at_214 rfl ?_
        show W K l _ n0 _ h4 2 5 216 #[.val (.long dd), .second, .val (.long qq), .second, .val (.int at'), .val (.int sh), .val (.int pk), .val (.int dl), .val (.int (0 : Int32)), .val (.int a), .val (.ref dt), .val (.ref b3), .val (.int (nar .boolean (own_mt xs a []))), .val (.int (1 : Int32)), .val (.int (1 : Int32))] [(.int (nar .boolean (own_mt xs a [])))]
        refine w_iload ok at_216 rfl ?_
        show W K l _ n0 _ h4 2 5 218 #[.val (.long dd), .second, .val (.long qq), .second, .val (.int at'), .val (.int sh), .val (.int pk), .val (.int dl), .val (.int (0 : Int32)), .val (.int a), .val (.ref dt), .val (.ref b3), .val (.int (nar .boolean (own_mt xs a []))), .val (.int (1 : Int32)), .val (.int (1 : Int32))] [(.int (1 : Int32)), (.int (nar .boolean (own_mt xs a [])))]
        refine w_icmp_ne ok at_218 (pc' := 225) (by decide) (fun hc34 => False.elim (by exact hc34 (by simp only [Int32.lt_iff_toInt_lt, es, Int32.reduceToInt] at hc14 hc20; rw [own_mt, if_neg (by show ¬ (_ ∨ _ < _ + (0 : Int)); omega)]; rw [own_pre_nil] <;> rfl))) (fun hc34 => ?_)
        show W K l _ n0 _ h4 2 5 221 #[.val (.long dd), .second, .val (.long qq), .second, .val (.int at'), .val (.int sh), .val (.int pk), .val (.int dl), .val (.int (0 : Int32)), .val (.int a), .val (.ref dt), .val (.ref b3), .val (.int (nar .boolean (own_mt xs a []))), .val (.int (1 : Int32)), .val (.int (1 : Int32))] []
        refine w_iconst ok at_221 (v := (1 : Int32)) rfl ?_
        show W K l _ n0 _ h4 2 5 222 #[.val (.long dd), .second, .val (.long qq), .second, .val (.int at'), .val (.int sh), .val (.int pk), .val (.int dl), .val (.int (0 : Int32)), .val (.int a), .val (.ref dt), .val (.ref b3), .val (.int (nar .boolean (own_mt xs a []))), .val (.int (1 : Int32)), .val (.int (1 : Int32))] [(.int (1 : Int32))]
        refine w_goto ok at_222 (pc' := 226) (by decide) ?_
        show W K l _ n0 _ h4 2 5 226 #[.val (.long dd), .second, .val (.long qq), .second, .val (.int at'), .val (.int sh), .val (.int pk), .val (.int dl), .val (.int (0 : Int32)), .val (.int a), .val (.ref dt), .val (.ref b3), .val (.int (nar .boolean (own_mt xs a []))), .val (.int (1 : Int32)), .val (.int (1 : Int32))] [(.int (1 : Int32))]
        refine w_bret ok (by simp) at_226 (by decide) (by decide) ?_
        exact rfl
  · skip
    show W K l _ n0 _ h0 0 0 35 #[.val (.long dd), .second, .val (.long qq), .second, .val (.int at'), .val (.int sh), .val (.int pk), .val (.int dl), .val (.int (1 : Int32)), .val (.int a), .unset, .unset, .unset, .unset, .unset] []
    refine w_lloadN ok at_35 rfl ?_
    show W K l _ n0 _ h0 0 0 36 #[.val (.long dd), .second, .val (.long qq), .second, .val (.int at'), .val (.int sh), .val (.int pk), .val (.int dl), .val (.int (1 : Int32)), .val (.int a), .unset, .unset, .unset, .unset, .unset] [(.long dd)]
    refine w_iload ok at_36 rfl ?_
    show W K l _ n0 _ h0 0 0 38 #[.val (.long dd), .second, .val (.long qq), .second, .val (.int at'), .val (.int sh), .val (.int pk), .val (.int dl), .val (.int (1 : Int32)), .val (.int a), .unset, .unset, .unset, .unset, .unset] [(.int dl), (.long dd)]
    refine w_callS ok (y := (⟨"com/example/nakami/nakami/pdf/BytesMatchesPinLaw", "makeData", "(JI)[B"⟩ : MethodName)) (argsL := [(.long dd), (.int dl)]) (rest := []) at_38 (hw _ (List.mem_of_getElem? (i := 0) rfl)) (hw _ (List.mem_of_getElem? (i := 1) rfl)) (hw _ (List.mem_of_getElem? (i := 2) rfl)) (hw _ (List.mem_of_getElem? (i := 3) rfl)) (by decide) pd_28JI295bB rfl rfl (by decide) (Nat.le_of_ble_eq_true rfl) (by decide) (by decide) (fun z0 => rm_make l Z a0 hw [] n0 h0 z0 dd dl hdl) (fun v35 h36 qv35 => ?_)
    obtain ⟨dt, xs, rfl, sz_dt, ge_dt, K1, A_dt, hxs⟩ := qv35
    show W K l _ n0 _ h36 1 5 41 #[.val (.long dd), .second, .val (.long qq), .second, .val (.int at'), .val (.int sh), .val (.int pk), .val (.int dl), .val (.int (1 : Int32)), .val (.int a), .unset, .unset, .unset, .unset, .unset] [(.ref dt)]
    refine w_astore ok at_41 rfl (L' := #[.val (.long dd), .second, .val (.long qq), .second, .val (.int at'), .val (.int sh), .val (.int pk), .val (.int dl), .val (.int (1 : Int32)), .val (.int a), .val (.ref dt), .unset, .unset, .unset, .unset]) rfl ?_
    show W K l _ n0 _ h36 1 5 43 #[.val (.long dd), .second, .val (.long qq), .second, .val (.int at'), .val (.int sh), .val (.int pk), .val (.int dl), .val (.int (1 : Int32)), .val (.int a), .val (.ref dt), .unset, .unset, .unset, .unset] []
    refine w_iload ok at_43 rfl ?_
    show W K l _ n0 _ h36 1 5 45 #[.val (.long dd), .second, .val (.long qq), .second, .val (.int at'), .val (.int sh), .val (.int pk), .val (.int dl), .val (.int (1 : Int32)), .val (.int a), .val (.ref dt), .unset, .unset, .unset, .unset] [(.int (1 : Int32))]
    refine w_newarray ok at_45 (hw _ (List.mem_of_getElem? (i := 4) rfl)) (by decide) (cap := 1) (by decide) (by decide) (by decide) (by decide) (fun h38 b37 ea_b37 ge_b37 E_b37 A_b37 => ?_)
    have ne_dt_b37 : dt ≠ b37 := fun q => Nat.lt_irrefl _ (Nat.lt_of_lt_of_eq A_dt.lt (ea_b37.symm.trans q.symm))
    replace A_dt := A_dt.ext E_b37
    replace A_b37 : PA .byte Z h38 b37 [(.int (0 : Int32))] := A_b37
    show W K l _ n0 _ h38 2 6 47 #[.val (.long dd), .second, .val (.long qq), .second, .val (.int at'), .val (.int sh), .val (.int pk), .val (.int dl), .val (.int (1 : Int32)), .val (.int a), .val (.ref dt), .unset, .unset, .unset, .unset] [(.ref b37)]
    refine w_astore ok at_47 rfl (L' := #[.val (.long dd), .second, .val (.long qq), .second, .val (.int at'), .val (.int sh), .val (.int pk), .val (.int dl), .val (.int (1 : Int32)), .val (.int a), .val (.ref dt), .val (.ref b37), .unset, .unset, .unset]) rfl ?_
    show W K l _ n0 _ h38 2 6 49 #[.val (.long dd), .second, .val (.long qq), .second, .val (.int at'), .val (.int sh), .val (.int pk), .val (.int dl), .val (.int (1 : Int32)), .val (.int a), .val (.ref dt), .val (.ref b37), .unset, .unset, .unset] []
    refine w_iload ok at_49 rfl ?_
    show W K l _ n0 _ h38 2 6 51 #[.val (.long dd), .second, .val (.long qq), .second, .val (.int at'), .val (.int sh), .val (.int pk), .val (.int dl), .val (.int (1 : Int32)), .val (.int a), .val (.ref dt), .val (.ref b37), .unset, .unset, .unset] [(.int (1 : Int32))]
    refine w_if_le ok at_51 (pc' := 69) (by decide) (fun hc40 => False.elim (by revert hc40; decide)) (fun hc40 => ?_)
    show W K l _ n0 _ h38 2 6 54 #[.val (.long dd), .second, .val (.long qq), .second, .val (.int at'), .val (.int sh), .val (.int pk), .val (.int dl), .val (.int (1 : Int32)), .val (.int a), .val (.ref dt), .val (.ref b37), .unset, .unset, .unset] []
    refine w_aload ok at_54 rfl rfl ?_
    show W K l _ n0 _ h38 2 6 56 #[.val (.long dd), .second, .val (.long qq), .second, .val (.int at'), .val (.int sh), .val (.int pk), .val (.int dl), .val (.int (1 : Int32)), .val (.int a), .val (.ref dt), .val (.ref b37), .unset, .unset, .unset] [(.ref b37)]
    refine w_iconst ok at_56 (v := (0 : Int32)) rfl ?_
    show W K l _ n0 _ h38 2 6 57 #[.val (.long dd), .second, .val (.long qq), .second, .val (.int at'), .val (.int sh), .val (.int pk), .val (.int dl), .val (.int (1 : Int32)), .val (.int a), .val (.ref dt), .val (.ref b37), .unset, .unset, .unset] [(.int (0 : Int32)), (.ref b37)]
    refine w_aload ok at_57 rfl rfl ?_
    show W K l _ n0 _ h38 2 6 59 #[.val (.long dd), .second, .val (.long qq), .second, .val (.int at'), .val (.int sh), .val (.int pk), .val (.int dl), .val (.int (1 : Int32)), .val (.int a), .val (.ref dt), .val (.ref b37), .unset, .unset, .unset] [(.ref dt), (.int (0 : Int32)), (.ref b37)]
    refine w_iload ok at_59 rfl ?_
    show W K l _ n0 _ h38 2 6 61 #[.val (.long dd), .second, .val (.long qq), .second, .val (.int at'), .val (.int sh), .val (.int pk), .val (.int dl), .val (.int (1 : Int32)), .val (.int a), .val (.ref dt), .val (.ref b37), .unset, .unset, .unset] [(.int a), (.ref dt), (.int (0 : Int32)), (.ref b37)]
    refine w_iconst ok at_61 (v := (0 : Int32)) rfl ?_
    show W K l _ n0 _ h38 2 6 62 #[.val (.long dd), .second, .val (.long qq), .second, .val (.int at'), .val (.int sh), .val (.int pk), .val (.int dl), .val (.int (1 : Int32)), .val (.int a), .val (.ref dt), .val (.ref b37), .unset, .unset, .unset] [(.int (0 : Int32)), (.int a), (.ref dt), (.int (0 : Int32)), (.ref b37)]
    refine w_lloadN ok at_62 rfl ?_
    show W K l _ n0 _ h38 2 6 63 #[.val (.long dd), .second, .val (.long qq), .second, .val (.int at'), .val (.int sh), .val (.int pk), .val (.int dl), .val (.int (1 : Int32)), .val (.int a), .val (.ref dt), .val (.ref b37), .unset, .unset, .unset] [(.long qq), (.int (0 : Int32)), (.int a), (.ref dt), (.int (0 : Int32)), (.ref b37)]
    refine w_iload ok at_63 rfl ?_
    show W K l _ n0 _ h38 2 6 65 #[.val (.long dd), .second, .val (.long qq), .second, .val (.int at'), .val (.int sh), .val (.int pk), .val (.int dl), .val (.int (1 : Int32)), .val (.int a), .val (.ref dt), .val (.ref b37), .unset, .unset, .unset] [(.int pk), (.long qq), (.int (0 : Int32)), (.int a), (.ref dt), (.int (0 : Int32)), (.ref b37)]
    refine w_callS ok (y := (⟨"com/example/nakami/nakami/pdf/BytesMatchesPinLaw", "pat", "([BIIJI)B"⟩ : MethodName)) (argsL := [(.ref dt), (.int a), (.int (0 : Int32)), (.long qq), (.int pk)]) (rest := [(.int (0 : Int32)), (.ref b37)]) at_65 (hw _ (List.mem_of_getElem? (i := 12) rfl)) (hw _ (List.mem_of_getElem? (i := 13) rfl)) (hw _ (List.mem_of_getElem? (i := 2) rfl)) (hw _ (List.mem_of_getElem? (i := 14) rfl)) (by decide) pd_285bBIIJI29B rfl rfl (by decide) (Nat.le_of_ble_eq_true rfl) (by decide) (by decide) (fun z0 => rm_pat l Z a0 hw [] n0 h38 z0 dt xs a (0 : Int32) qq pk A_dt) (fun v41 h42 qv41 => ?_)
    obtain ⟨⟨z43, rfl⟩, rfl⟩ := qv41
    show W K l _ n0 _ h38 2 6 68 #[.val (.long dd), .second, .val (.long qq), .second, .val (.int at'), .val (.int sh), .val (.int pk), .val (.int dl), .val (.int (1 : Int32)), .val (.int a), .val (.ref dt), .val (.ref b37), .unset, .unset, .unset] [(.int z43), (.int (0 : Int32)), (.ref b37)]
    refine w_bastore ok at_68 A_b37 ge_b37 (by decide) (Nat.le_of_ble_eq_true rfl) (fun h44 W_h44 A1_h44 => ?_)
    replace A_dt := A_dt.other W_h44 ne_dt_b37
    replace A_b37 : PA .byte Z h44 b37 [(.int (nar .byte z43))] := A1_h44
    show W K l _ n0 _ h44 2 6 69 #[.val (.long dd), .second, .val (.long qq), .second, .val (.int at'), .val (.int sh), .val (.int pk), .val (.int dl), .val (.int (1 : Int32)), .val (.int a), .val (.ref dt), .val (.ref b37), .unset, .unset, .unset] []
    refine w_iload ok at_69 rfl ?_
    show W K l _ n0 _ h44 2 6 71 #[.val (.long dd), .second, .val (.long qq), .second, .val (.int at'), .val (.int sh), .val (.int pk), .val (.int dl), .val (.int (1 : Int32)), .val (.int a), .val (.ref dt), .val (.ref b37), .unset, .unset, .unset] [(.int (1 : Int32))]
    refine w_iconst ok at_71 (v := (1 : Int32)) rfl ?_
    show W K l _ n0 _ h44 2 6 72 #[.val (.long dd), .second, .val (.long qq), .second, .val (.int at'), .val (.int sh), .val (.int pk), .val (.int dl), .val (.int (1 : Int32)), .val (.int a), .val (.ref dt), .val (.ref b37), .unset, .unset, .unset] [(.int (1 : Int32)), (.int (1 : Int32))]
    refine w_icmp_le ok at_72 (pc' := 90) (by decide) (fun hc46 => ?_) (fun hc46 => False.elim (by revert hc46; decide))
    show W K l _ n0 _ h44 2 6 90 #[.val (.long dd), .second, .val (.long qq), .second, .val (.int at'), .val (.int sh), .val (.int pk), .val (.int dl), .val (.int (1 : Int32)), .val (.int a), .val (.ref dt), .val (.ref b37), .unset, .unset, .unset] []
    refine w_iload ok at_90 rfl ?_
    show W K l _ n0 _ h44 2 6 92 #[.val (.long dd), .second, .val (.long qq), .second, .val (.int at'), .val (.int sh), .val (.int pk), .val (.int dl), .val (.int (1 : Int32)), .val (.int a), .val (.ref dt), .val (.ref b37), .unset, .unset, .unset] [(.int (1 : Int32))]
    refine w_iconst ok at_92 (v := (2 : Int32)) rfl ?_
    show W K l _ n0 _ h44 2 6 93 #[.val (.long dd), .second, .val (.long qq), .second, .val (.int at'), .val (.int sh), .val (.int pk), .val (.int dl), .val (.int (1 : Int32)), .val (.int a), .val (.ref dt), .val (.ref b37), .unset, .unset, .unset] [(.int (2 : Int32)), (.int (1 : Int32))]
    refine w_icmp_le ok at_93 (pc' := 111) (by decide) (fun hc48 => ?_) (fun hc48 => False.elim (by revert hc48; decide))
    show W K l _ n0 _ h44 2 6 111 #[.val (.long dd), .second, .val (.long qq), .second, .val (.int at'), .val (.int sh), .val (.int pk), .val (.int dl), .val (.int (1 : Int32)), .val (.int a), .val (.ref dt), .val (.ref b37), .unset, .unset, .unset] []
    refine w_aload ok at_111 rfl rfl ?_
    show W K l _ n0 _ h44 2 6 113 #[.val (.long dd), .second, .val (.long qq), .second, .val (.int at'), .val (.int sh), .val (.int pk), .val (.int dl), .val (.int (1 : Int32)), .val (.int a), .val (.ref dt), .val (.ref b37), .unset, .unset, .unset] [(.ref dt)]
    refine w_iload ok at_113 rfl ?_
    show W K l _ n0 _ h44 2 6 115 #[.val (.long dd), .second, .val (.long qq), .second, .val (.int at'), .val (.int sh), .val (.int pk), .val (.int dl), .val (.int (1 : Int32)), .val (.int a), .val (.ref dt), .val (.ref b37), .unset, .unset, .unset] [(.int a), (.ref dt)]
    refine w_aload ok at_115 rfl rfl ?_
    show W K l _ n0 _ h44 2 6 117 #[.val (.long dd), .second, .val (.long qq), .second, .val (.int at'), .val (.int sh), .val (.int pk), .val (.int dl), .val (.int (1 : Int32)), .val (.int a), .val (.ref dt), .val (.ref b37), .unset, .unset, .unset] [(.ref b37), (.int a), (.ref dt)]
    refine w_callS ok (y := (⟨"com/example/nakami/nakami/pdf/Bytes", "matches", "([BI[B)Z"⟩ : MethodName)) (argsL := [(.ref dt), (.int a), (.ref b37)]) (rest := []) at_117 (hw _ (List.mem_of_getElem? (i := 8) rfl)) (hw _ (List.mem_of_getElem? (i := 9) rfl)) (hw _ (List.mem_of_getElem? (i := 10) rfl)) (hw _ (List.mem_of_getElem? (i := 11) rfl)) (by decide) pd_285bBI5bB29Z rfl rfl (by decide) (Nat.le_of_ble_eq_true rfl) (by decide) (by decide) (fun z0 => rm_m l Z a0 hw [] n0 h44 z0 dt b37 xs [nar .byte z43] a A_dt A_b37 (by omega) (by show _ + (1 : Int) < _; omega)) (fun v49 h50 qv49 => ?_)
    obtain ⟨rfl, rfl⟩ := qv49
    show W K l _ n0 _ h44 2 6 120 #[.val (.long dd), .second, .val (.long qq), .second, .val (.int at'), .val (.int sh), .val (.int pk), .val (.int dl), .val (.int (1 : Int32)), .val (.int a), .val (.ref dt), .val (.ref b37), .unset, .unset, .unset] [(.int (nar .boolean (own_mt xs a [nar .byte z43])))]
    refine w_istore ok at_120 (L' := #[.val (.long dd), .second, .val (.long qq), .second, .val (.int at'), .val (.int sh), .val (.int pk), .val (.int dl), .val (.int (1 : Int32)), .val (.int a), .val (.ref dt), .val (.ref b37), .val (.int (nar .boolean (own_mt xs a [nar .byte z43]))), .unset, .unset]) rfl ?_
    show W K l _ n0 _ h44 2 6 122 #[.val (.long dd), .second, .val (.long qq), .second, .val (.int at'), .val (.int sh), .val (.int pk), .val (.int dl), .val (.int (1 : Int32)), .val (.int a), .val (.ref dt), .val (.ref b37), .val (.int (nar .boolean (own_mt xs a [nar .byte z43]))), .unset, .unset] []
    have es : (dl - (1 : Int32)).toInt = dl.toInt - 1 := by have e1 := c_isub dl 1; have e2 := rng32 (dl - 1); have e3 : (1 : Int32).toInt = 1 := rfl; omega
    refine w_iload ok at_122 rfl ?_
    show W K l _ n0 _ h44 2 6 124 #[.val (.long dd), .second, .val (.long qq), .second, .val (.int at'), .val (.int sh), .val (.int pk), .val (.int dl), .val (.int (1 : Int32)), .val (.int a), .val (.ref dt), .val (.ref b37), .val (.int (nar .boolean (own_mt xs a [nar .byte z43]))), .unset, .unset] [(.int a)]
    refine w_if_lt ok at_124 (pc' := 141) (by decide) (fun hc52 => ?_) (fun hc52 => ?_)
    · show W K l _ n0 _ h44 2 6 141 #[.val (.long dd), .second, .val (.long qq), .second, .val (.int at'), .val (.int sh), .val (.int pk), .val (.int dl), .val (.int (1 : Int32)), .val (.int a), .val (.ref dt), .val (.ref b37), .val (.int (nar .boolean (own_mt xs a [nar .byte z43]))), .unset, .unset] []
      refine w_iconst ok at_141 (v := (0 : Int32)) rfl ?_
      show W K l _ n0 _ h44 2 6 142 #[.val (.long dd), .second, .val (.long qq), .second, .val (.int at'), .val (.int sh), .val (.int pk), .val (.int dl), .val (.int (1 : Int32)), .val (.int a), .val (.ref dt), .val (.ref b37), .val (.int (nar .boolean (own_mt xs a [nar .byte z43]))), .unset, .unset] [(.int (0 : Int32))]
      refine w_istore ok at_142 (L' := #[.val (.long dd), .second, .val (.long qq), .second, .val (.int at'), .val (.int sh), .val (.int pk), .val (.int dl), .val (.int (1 : Int32)), .val (.int a), .val (.ref dt), .val (.ref b37), .val (.int (nar .boolean (own_mt xs a [nar .byte z43]))), .val (.int (0 : Int32)), .unset]) rfl ?_
      show W K l _ n0 _ h44 2 6 144 #[.val (.long dd), .second, .val (.long qq), .second, .val (.int at'), .val (.int sh), .val (.int pk), .val (.int dl), .val (.int (1 : Int32)), .val (.int a), .val (.ref dt), .val (.ref b37), .val (.int (nar .boolean (own_mt xs a [nar .byte z43]))), .val (.int (0 : Int32)), .unset] []
      refine w_iload ok at_144 rfl ?_
      show W K l _ n0 _ h44 2 6 146 #[.val (.long dd), .second, .val (.long qq), .second, .val (.int at'), .val (.int sh), .val (.int pk), .val (.int dl), .val (.int (1 : Int32)), .val (.int a), .val (.ref dt), .val (.ref b37), .val (.int (nar .boolean (own_mt xs a [nar .byte z43]))), .val (.int (0 : Int32)), .unset] [(.int (0 : Int32))]
      refine w_if_eq ok at_146 (pc' := 211) (by decide) (fun hc54 => ?_) (fun hc54 => False.elim (by revert hc54; decide))
      show W K l _ n0 _ h44 2 6 211 #[.val (.long dd), .second, .val (.long qq), .second, .val (.int at'), .val (.int sh), .val (.int pk), .val (.int dl), .val (.int (1 : Int32)), .val (.int a), .val (.ref dt), .val (.ref b37), .val (.int (nar .boolean (own_mt xs a [nar .byte z43]))), .val (.int (0 : Int32)), .unset] []
      refine w_iconst ok at_211 (v := (0 : Int32)) rfl ?_
      show W K l _ n0 _ h44 2 6 212 #[.val (.long dd), .second, .val (.long qq), .second, .val (.int at'), .val (.int sh), .val (.int pk), .val (.int dl), .val (.int (1 : Int32)), .val (.int a), .val (.ref dt), .val (.ref b37), .val (.int (nar .boolean (own_mt xs a [nar .byte z43]))), .val (.int (0 : Int32)), .unset] [(.int (0 : Int32))]
      refine w_istore ok at_212 (L' := #[.val (.long dd), .second, .val (.long qq), .second, .val (.int at'), .val (.int sh), .val (.int pk), .val (.int dl), .val (.int (1 : Int32)), .val (.int a), .val (.ref dt), .val (.ref b37), .val (.int (nar .boolean (own_mt xs a [nar .byte z43]))), .val (.int (0 : Int32)), .val (.int (0 : Int32))]) rfl ?_
      show W K l _ n0 _ h44 2 6 214 #[.val (.long dd), .second, .val (.long qq), .second, .val (.int at'), .val (.int sh), .val (.int pk), .val (.int dl), .val (.int (1 : Int32)), .val (.int a), .val (.ref dt), .val (.ref b37), .val (.int (nar .boolean (own_mt xs a [nar .byte z43]))), .val (.int (0 : Int32)), .val (.int (0 : Int32))] []
      refine w_iload ok at_214 rfl ?_
      show W K l _ n0 _ h44 2 6 216 #[.val (.long dd), .second, .val (.long qq), .second, .val (.int at'), .val (.int sh), .val (.int pk), .val (.int dl), .val (.int (1 : Int32)), .val (.int a), .val (.ref dt), .val (.ref b37), .val (.int (nar .boolean (own_mt xs a [nar .byte z43]))), .val (.int (0 : Int32)), .val (.int (0 : Int32))] [(.int (nar .boolean (own_mt xs a [nar .byte z43])))]
      refine w_iload ok at_216 rfl ?_
      show W K l _ n0 _ h44 2 6 218 #[.val (.long dd), .second, .val (.long qq), .second, .val (.int at'), .val (.int sh), .val (.int pk), .val (.int dl), .val (.int (1 : Int32)), .val (.int a), .val (.ref dt), .val (.ref b37), .val (.int (nar .boolean (own_mt xs a [nar .byte z43]))), .val (.int (0 : Int32)), .val (.int (0 : Int32))] [(.int (0 : Int32)), (.int (nar .boolean (own_mt xs a [nar .byte z43])))]
      refine w_icmp_ne ok at_218 (pc' := 225) (by decide) (fun hc56 => False.elim (by exact hc56 (by simp only [Int32.lt_iff_toInt_lt, es, Int32.reduceToInt] at hc52; rw [own_mt, if_pos (by first | (left; omega) | (right; show _ < _ + (1 : Int); omega))] <;> rfl))) (fun hc56 => ?_)
      show W K l _ n0 _ h44 2 6 221 #[.val (.long dd), .second, .val (.long qq), .second, .val (.int at'), .val (.int sh), .val (.int pk), .val (.int dl), .val (.int (1 : Int32)), .val (.int a), .val (.ref dt), .val (.ref b37), .val (.int (nar .boolean (own_mt xs a [nar .byte z43]))), .val (.int (0 : Int32)), .val (.int (0 : Int32))] []
      refine w_iconst ok at_221 (v := (1 : Int32)) rfl ?_
      show W K l _ n0 _ h44 2 6 222 #[.val (.long dd), .second, .val (.long qq), .second, .val (.int at'), .val (.int sh), .val (.int pk), .val (.int dl), .val (.int (1 : Int32)), .val (.int a), .val (.ref dt), .val (.ref b37), .val (.int (nar .boolean (own_mt xs a [nar .byte z43]))), .val (.int (0 : Int32)), .val (.int (0 : Int32))] [(.int (1 : Int32))]
      refine w_goto ok at_222 (pc' := 226) (by decide) ?_
      show W K l _ n0 _ h44 2 6 226 #[.val (.long dd), .second, .val (.long qq), .second, .val (.int at'), .val (.int sh), .val (.int pk), .val (.int dl), .val (.int (1 : Int32)), .val (.int a), .val (.ref dt), .val (.ref b37), .val (.int (nar .boolean (own_mt xs a [nar .byte z43]))), .val (.int (0 : Int32)), .val (.int (0 : Int32))] [(.int (1 : Int32))]
      refine w_bret ok (by simp) at_226 (by decide) (by decide) ?_
      exact rfl
    · show W K l _ n0 _ h44 2 6 127 #[.val (.long dd), .second, .val (.long qq), .second, .val (.int at'), .val (.int sh), .val (.int pk), .val (.int dl), .val (.int (1 : Int32)), .val (.int a), .val (.ref dt), .val (.ref b37), .val (.int (nar .boolean (own_mt xs a [nar .byte z43]))), .unset, .unset] []
      refine w_iload ok at_127 rfl ?_
      show W K l _ n0 _ h44 2 6 129 #[.val (.long dd), .second, .val (.long qq), .second, .val (.int at'), .val (.int sh), .val (.int pk), .val (.int dl), .val (.int (1 : Int32)), .val (.int a), .val (.ref dt), .val (.ref b37), .val (.int (nar .boolean (own_mt xs a [nar .byte z43]))), .unset, .unset] [(.int a)]
      refine w_iload ok at_129 rfl ?_
      show W K l _ n0 _ h44 2 6 131 #[.val (.long dd), .second, .val (.long qq), .second, .val (.int at'), .val (.int sh), .val (.int pk), .val (.int dl), .val (.int (1 : Int32)), .val (.int a), .val (.ref dt), .val (.ref b37), .val (.int (nar .boolean (own_mt xs a [nar .byte z43]))), .unset, .unset] [(.int dl), (.int a)]
      refine w_iload ok at_131 rfl ?_
      show W K l _ n0 _ h44 2 6 133 #[.val (.long dd), .second, .val (.long qq), .second, .val (.int at'), .val (.int sh), .val (.int pk), .val (.int dl), .val (.int (1 : Int32)), .val (.int a), .val (.ref dt), .val (.ref b37), .val (.int (nar .boolean (own_mt xs a [nar .byte z43]))), .unset, .unset] [(.int (1 : Int32)), (.int dl), (.int a)]
      refine w_isub ok at_133 ?_
      show W K l _ n0 _ h44 2 6 134 #[.val (.long dd), .second, .val (.long qq), .second, .val (.int at'), .val (.int sh), .val (.int pk), .val (.int dl), .val (.int (1 : Int32)), .val (.int a), .val (.ref dt), .val (.ref b37), .val (.int (nar .boolean (own_mt xs a [nar .byte z43]))), .unset, .unset] [(.int (dl - (1 : Int32))), (.int a)]
      refine w_icmp_gt ok at_134 (pc' := 141) (by decide) (fun hc58 => ?_) (fun hc58 => ?_)
      · show W K l _ n0 _ h44 2 6 141 #[.val (.long dd), .second, .val (.long qq), .second, .val (.int at'), .val (.int sh), .val (.int pk), .val (.int dl), .val (.int (1 : Int32)), .val (.int a), .val (.ref dt), .val (.ref b37), .val (.int (nar .boolean (own_mt xs a [nar .byte z43]))), .unset, .unset] []
        refine w_iconst ok at_141 (v := (0 : Int32)) rfl ?_
        show W K l _ n0 _ h44 2 6 142 #[.val (.long dd), .second, .val (.long qq), .second, .val (.int at'), .val (.int sh), .val (.int pk), .val (.int dl), .val (.int (1 : Int32)), .val (.int a), .val (.ref dt), .val (.ref b37), .val (.int (nar .boolean (own_mt xs a [nar .byte z43]))), .unset, .unset] [(.int (0 : Int32))]
        refine w_istore ok at_142 (L' := #[.val (.long dd), .second, .val (.long qq), .second, .val (.int at'), .val (.int sh), .val (.int pk), .val (.int dl), .val (.int (1 : Int32)), .val (.int a), .val (.ref dt), .val (.ref b37), .val (.int (nar .boolean (own_mt xs a [nar .byte z43]))), .val (.int (0 : Int32)), .unset]) rfl ?_
        show W K l _ n0 _ h44 2 6 144 #[.val (.long dd), .second, .val (.long qq), .second, .val (.int at'), .val (.int sh), .val (.int pk), .val (.int dl), .val (.int (1 : Int32)), .val (.int a), .val (.ref dt), .val (.ref b37), .val (.int (nar .boolean (own_mt xs a [nar .byte z43]))), .val (.int (0 : Int32)), .unset] []
        refine w_iload ok at_144 rfl ?_
        show W K l _ n0 _ h44 2 6 146 #[.val (.long dd), .second, .val (.long qq), .second, .val (.int at'), .val (.int sh), .val (.int pk), .val (.int dl), .val (.int (1 : Int32)), .val (.int a), .val (.ref dt), .val (.ref b37), .val (.int (nar .boolean (own_mt xs a [nar .byte z43]))), .val (.int (0 : Int32)), .unset] [(.int (0 : Int32))]
        refine w_if_eq ok at_146 (pc' := 211) (by decide) (fun hc60 => ?_) (fun hc60 => False.elim (by revert hc60; decide))
        show W K l _ n0 _ h44 2 6 211 #[.val (.long dd), .second, .val (.long qq), .second, .val (.int at'), .val (.int sh), .val (.int pk), .val (.int dl), .val (.int (1 : Int32)), .val (.int a), .val (.ref dt), .val (.ref b37), .val (.int (nar .boolean (own_mt xs a [nar .byte z43]))), .val (.int (0 : Int32)), .unset] []
        refine w_iconst ok at_211 (v := (0 : Int32)) rfl ?_
        show W K l _ n0 _ h44 2 6 212 #[.val (.long dd), .second, .val (.long qq), .second, .val (.int at'), .val (.int sh), .val (.int pk), .val (.int dl), .val (.int (1 : Int32)), .val (.int a), .val (.ref dt), .val (.ref b37), .val (.int (nar .boolean (own_mt xs a [nar .byte z43]))), .val (.int (0 : Int32)), .unset] [(.int (0 : Int32))]
        refine w_istore ok at_212 (L' := #[.val (.long dd), .second, .val (.long qq), .second, .val (.int at'), .val (.int sh), .val (.int pk), .val (.int dl), .val (.int (1 : Int32)), .val (.int a), .val (.ref dt), .val (.ref b37), .val (.int (nar .boolean (own_mt xs a [nar .byte z43]))), .val (.int (0 : Int32)), .val (.int (0 : Int32))]) rfl ?_
        show W K l _ n0 _ h44 2 6 214 #[.val (.long dd), .second, .val (.long qq), .second, .val (.int at'), .val (.int sh), .val (.int pk), .val (.int dl), .val (.int (1 : Int32)), .val (.int a), .val (.ref dt), .val (.ref b37), .val (.int (nar .boolean (own_mt xs a [nar .byte z43]))), .val (.int (0 : Int32)), .val (.int (0 : Int32))] []
        refine w_iload ok at_214 rfl ?_
        show W K l _ n0 _ h44 2 6 216 #[.val (.long dd), .second, .val (.long qq), .second, .val (.int at'), .val (.int sh), .val (.int pk), .val (.int dl), .val (.int (1 : Int32)), .val (.int a), .val (.ref dt), .val (.ref b37), .val (.int (nar .boolean (own_mt xs a [nar .byte z43]))), .val (.int (0 : Int32)), .val (.int (0 : Int32))] [(.int (nar .boolean (own_mt xs a [nar .byte z43])))]
        refine w_iload ok at_216 rfl ?_
        show W K l _ n0 _ h44 2 6 218 #[.val (.long dd), .second, .val (.long qq), .second, .val (.int at'), .val (.int sh), .val (.int pk), .val (.int dl), .val (.int (1 : Int32)), .val (.int a), .val (.ref dt), .val (.ref b37), .val (.int (nar .boolean (own_mt xs a [nar .byte z43]))), .val (.int (0 : Int32)), .val (.int (0 : Int32))] [(.int (0 : Int32)), (.int (nar .boolean (own_mt xs a [nar .byte z43])))]
        refine w_icmp_ne ok at_218 (pc' := 225) (by decide) (fun hc62 => False.elim (by exact hc62 (by simp only [Int32.lt_iff_toInt_lt, es, Int32.reduceToInt] at hc52 hc58; rw [own_mt, if_pos (by first | (left; omega) | (right; show _ < _ + (1 : Int); omega))] <;> rfl))) (fun hc62 => ?_)
        show W K l _ n0 _ h44 2 6 221 #[.val (.long dd), .second, .val (.long qq), .second, .val (.int at'), .val (.int sh), .val (.int pk), .val (.int dl), .val (.int (1 : Int32)), .val (.int a), .val (.ref dt), .val (.ref b37), .val (.int (nar .boolean (own_mt xs a [nar .byte z43]))), .val (.int (0 : Int32)), .val (.int (0 : Int32))] []
        refine w_iconst ok at_221 (v := (1 : Int32)) rfl ?_
        show W K l _ n0 _ h44 2 6 222 #[.val (.long dd), .second, .val (.long qq), .second, .val (.int at'), .val (.int sh), .val (.int pk), .val (.int dl), .val (.int (1 : Int32)), .val (.int a), .val (.ref dt), .val (.ref b37), .val (.int (nar .boolean (own_mt xs a [nar .byte z43]))), .val (.int (0 : Int32)), .val (.int (0 : Int32))] [(.int (1 : Int32))]
        refine w_goto ok at_222 (pc' := 226) (by decide) ?_
        show W K l _ n0 _ h44 2 6 226 #[.val (.long dd), .second, .val (.long qq), .second, .val (.int at'), .val (.int sh), .val (.int pk), .val (.int dl), .val (.int (1 : Int32)), .val (.int a), .val (.ref dt), .val (.ref b37), .val (.int (nar .boolean (own_mt xs a [nar .byte z43]))), .val (.int (0 : Int32)), .val (.int (0 : Int32))] [(.int (1 : Int32))]
        refine w_bret ok (by simp) at_226 (by decide) (by decide) ?_
        exact rfl
      · show W K l _ n0 _ h44 2 6 137 #[.val (.long dd), .second, .val (.long qq), .second, .val (.int at'), .val (.int sh), .val (.int pk), .val (.int dl), .val (.int (1 : Int32)), .val (.int a), .val (.ref dt), .val (.ref b37), .val (.int (nar .boolean (own_mt xs a [nar .byte z43]))), .unset, .unset] []
        refine w_iconst ok at_137 (v := (1 : Int32)) rfl ?_
        show W K l _ n0 _ h44 2 6 138 #[.val (.long dd), .second, .val (.long qq), .second, .val (.int at'), .val (.int sh), .val (.int pk), .val (.int dl), .val (.int (1 : Int32)), .val (.int a), .val (.ref dt), .val (.ref b37), .val (.int (nar .boolean (own_mt xs a [nar .byte z43]))), .unset, .unset] [(.int (1 : Int32))]
        refine w_goto ok at_138 (pc' := 142) (by decide) ?_
        show W K l _ n0 _ h44 2 6 142 #[.val (.long dd), .second, .val (.long qq), .second, .val (.int at'), .val (.int sh), .val (.int pk), .val (.int dl), .val (.int (1 : Int32)), .val (.int a), .val (.ref dt), .val (.ref b37), .val (.int (nar .boolean (own_mt xs a [nar .byte z43]))), .unset, .unset] [(.int (1 : Int32))]
        refine w_istore ok at_142 (L' := #[.val (.long dd), .second, .val (.long qq), .second, .val (.int at'), .val (.int sh), .val (.int pk), .val (.int dl), .val (.int (1 : Int32)), .val (.int a), .val (.ref dt), .val (.ref b37), .val (.int (nar .boolean (own_mt xs a [nar .byte z43]))), .val (.int (1 : Int32)), .unset]) rfl ?_
        show W K l _ n0 _ h44 2 6 144 #[.val (.long dd), .second, .val (.long qq), .second, .val (.int at'), .val (.int sh), .val (.int pk), .val (.int dl), .val (.int (1 : Int32)), .val (.int a), .val (.ref dt), .val (.ref b37), .val (.int (nar .boolean (own_mt xs a [nar .byte z43]))), .val (.int (1 : Int32)), .unset] []
        refine w_iload ok at_144 rfl ?_
        show W K l _ n0 _ h44 2 6 146 #[.val (.long dd), .second, .val (.long qq), .second, .val (.int at'), .val (.int sh), .val (.int pk), .val (.int dl), .val (.int (1 : Int32)), .val (.int a), .val (.ref dt), .val (.ref b37), .val (.int (nar .boolean (own_mt xs a [nar .byte z43]))), .val (.int (1 : Int32)), .unset] [(.int (1 : Int32))]
        refine w_if_eq ok at_146 (pc' := 211) (by decide) (fun hc64 => False.elim (by revert hc64; decide)) (fun hc64 => ?_)
        show W K l _ n0 _ h44 2 6 149 #[.val (.long dd), .second, .val (.long qq), .second, .val (.int at'), .val (.int sh), .val (.int pk), .val (.int dl), .val (.int (1 : Int32)), .val (.int a), .val (.ref dt), .val (.ref b37), .val (.int (nar .boolean (own_mt xs a [nar .byte z43]))), .val (.int (1 : Int32)), .unset] []
        refine w_iload ok at_149 rfl ?_
        show W K l _ n0 _ h44 2 6 151 #[.val (.long dd), .second, .val (.long qq), .second, .val (.int at'), .val (.int sh), .val (.int pk), .val (.int dl), .val (.int (1 : Int32)), .val (.int a), .val (.ref dt), .val (.ref b37), .val (.int (nar .boolean (own_mt xs a [nar .byte z43]))), .val (.int (1 : Int32)), .unset] [(.int (1 : Int32))]
        refine w_iconst ok at_151 (v := (1 : Int32)) rfl ?_
        show W K l _ n0 _ h44 2 6 152 #[.val (.long dd), .second, .val (.long qq), .second, .val (.int at'), .val (.int sh), .val (.int pk), .val (.int dl), .val (.int (1 : Int32)), .val (.int a), .val (.ref dt), .val (.ref b37), .val (.int (nar .boolean (own_mt xs a [nar .byte z43]))), .val (.int (1 : Int32)), .unset] [(.int (1 : Int32)), (.int (1 : Int32))]
        refine w_icmp_lt ok at_152 (pc' := 167) (by decide) (fun hc66 => False.elim (by revert hc66; decide)) (fun hc66 => ?_)
        show W K l _ n0 _ h44 2 6 155 #[.val (.long dd), .second, .val (.long qq), .second, .val (.int at'), .val (.int sh), .val (.int pk), .val (.int dl), .val (.int (1 : Int32)), .val (.int a), .val (.ref dt), .val (.ref b37), .val (.int (nar .boolean (own_mt xs a [nar .byte z43]))), .val (.int (1 : Int32)), .unset] []
        refine w_aload ok at_155 rfl rfl ?_
        show W K l _ n0 _ h44 2 6 157 #[.val (.long dd), .second, .val (.long qq), .second, .val (.int at'), .val (.int sh), .val (.int pk), .val (.int dl), .val (.int (1 : Int32)), .val (.int a), .val (.ref dt), .val (.ref b37), .val (.int (nar .boolean (own_mt xs a [nar .byte z43]))), .val (.int (1 : Int32)), .unset] [(.ref dt)]
        refine w_iload ok at_157 rfl ?_
        show W K l _ n0 _ h44 2 6 159 #[.val (.long dd), .second, .val (.long qq), .second, .val (.int at'), .val (.int sh), .val (.int pk), .val (.int dl), .val (.int (1 : Int32)), .val (.int a), .val (.ref dt), .val (.ref b37), .val (.int (nar .boolean (own_mt xs a [nar .byte z43]))), .val (.int (1 : Int32)), .unset] [(.int a), (.ref dt)]
        have hA : 0 ≤ a.toInt := by have q := hc52; simp only [Int32.lt_iff_toInt_lt, Int32.reduceToInt] at q; omega
        have hB : a.toInt ≤ dl.toInt - 1 := by have q := hc58; simp only [Int32.lt_iff_toInt_lt, es] at q; omega
        have ei0 : a.toInt = ((a.toNatClampNeg + 0 : Nat) : Int) := own_ix0 (by omega)
        obtain ⟨x0, hx0⟩ := own_ex (xs := xs) (i := a.toNatClampNeg + 0) (by omega)
        refine w_baload ok (v := (.int x0)) at_159 A_dt (own_nn ei0) (by rw [own_clamp ei0]; exact own_rd hx0) ?_
        show W K l _ n0 _ h44 2 6 160 #[.val (.long dd), .second, .val (.long qq), .second, .val (.int at'), .val (.int sh), .val (.int pk), .val (.int dl), .val (.int (1 : Int32)), .val (.int a), .val (.ref dt), .val (.ref b37), .val (.int (nar .boolean (own_mt xs a [nar .byte z43]))), .val (.int (1 : Int32)), .unset] [(.int x0)]
        refine w_aload ok at_160 rfl rfl ?_
        show W K l _ n0 _ h44 2 6 162 #[.val (.long dd), .second, .val (.long qq), .second, .val (.int at'), .val (.int sh), .val (.int pk), .val (.int dl), .val (.int (1 : Int32)), .val (.int a), .val (.ref dt), .val (.ref b37), .val (.int (nar .boolean (own_mt xs a [nar .byte z43]))), .val (.int (1 : Int32)), .unset] [(.ref b37), (.int x0)]
        refine w_iconst ok at_162 (v := (0 : Int32)) rfl ?_
        show W K l _ n0 _ h44 2 6 163 #[.val (.long dd), .second, .val (.long qq), .second, .val (.int at'), .val (.int sh), .val (.int pk), .val (.int dl), .val (.int (1 : Int32)), .val (.int a), .val (.ref dt), .val (.ref b37), .val (.int (nar .boolean (own_mt xs a [nar .byte z43]))), .val (.int (1 : Int32)), .unset] [(.int (0 : Int32)), (.ref b37), (.int x0)]
        refine w_baload ok (v := (.int (nar .byte z43))) at_163 A_b37 (by decide) rfl ?_
        show W K l _ n0 _ h44 2 6 164 #[.val (.long dd), .second, .val (.long qq), .second, .val (.int at'), .val (.int sh), .val (.int pk), .val (.int dl), .val (.int (1 : Int32)), .val (.int a), .val (.ref dt), .val (.ref b37), .val (.int (nar .boolean (own_mt xs a [nar .byte z43]))), .val (.int (1 : Int32)), .unset] [(.int (nar .byte z43)), (.int x0)]
        refine w_icmp_ne ok at_164 (pc' := 211) (by decide) (fun hc68 => ?_) (fun hc68 => ?_)
        · show W K l _ n0 _ h44 2 6 211 #[.val (.long dd), .second, .val (.long qq), .second, .val (.int at'), .val (.int sh), .val (.int pk), .val (.int dl), .val (.int (1 : Int32)), .val (.int a), .val (.ref dt), .val (.ref b37), .val (.int (nar .boolean (own_mt xs a [nar .byte z43]))), .val (.int (1 : Int32)), .unset] []
          refine w_iconst ok at_211 (v := (0 : Int32)) rfl ?_
          show W K l _ n0 _ h44 2 6 212 #[.val (.long dd), .second, .val (.long qq), .second, .val (.int at'), .val (.int sh), .val (.int pk), .val (.int dl), .val (.int (1 : Int32)), .val (.int a), .val (.ref dt), .val (.ref b37), .val (.int (nar .boolean (own_mt xs a [nar .byte z43]))), .val (.int (1 : Int32)), .unset] [(.int (0 : Int32))]
          refine w_istore ok at_212 (L' := #[.val (.long dd), .second, .val (.long qq), .second, .val (.int at'), .val (.int sh), .val (.int pk), .val (.int dl), .val (.int (1 : Int32)), .val (.int a), .val (.ref dt), .val (.ref b37), .val (.int (nar .boolean (own_mt xs a [nar .byte z43]))), .val (.int (1 : Int32)), .val (.int (0 : Int32))]) rfl ?_
          show W K l _ n0 _ h44 2 6 214 #[.val (.long dd), .second, .val (.long qq), .second, .val (.int at'), .val (.int sh), .val (.int pk), .val (.int dl), .val (.int (1 : Int32)), .val (.int a), .val (.ref dt), .val (.ref b37), .val (.int (nar .boolean (own_mt xs a [nar .byte z43]))), .val (.int (1 : Int32)), .val (.int (0 : Int32))] []
          refine w_iload ok at_214 rfl ?_
          show W K l _ n0 _ h44 2 6 216 #[.val (.long dd), .second, .val (.long qq), .second, .val (.int at'), .val (.int sh), .val (.int pk), .val (.int dl), .val (.int (1 : Int32)), .val (.int a), .val (.ref dt), .val (.ref b37), .val (.int (nar .boolean (own_mt xs a [nar .byte z43]))), .val (.int (1 : Int32)), .val (.int (0 : Int32))] [(.int (nar .boolean (own_mt xs a [nar .byte z43])))]
          refine w_iload ok at_216 rfl ?_
          show W K l _ n0 _ h44 2 6 218 #[.val (.long dd), .second, .val (.long qq), .second, .val (.int at'), .val (.int sh), .val (.int pk), .val (.int dl), .val (.int (1 : Int32)), .val (.int a), .val (.ref dt), .val (.ref b37), .val (.int (nar .boolean (own_mt xs a [nar .byte z43]))), .val (.int (1 : Int32)), .val (.int (0 : Int32))] [(.int (0 : Int32)), (.int (nar .boolean (own_mt xs a [nar .byte z43])))]
          refine w_icmp_ne ok at_218 (pc' := 225) (by decide) (fun hc70 => False.elim (by exact hc70 (by simp only [Int32.lt_iff_toInt_lt, es, Int32.reduceToInt] at hc52 hc58; rw [own_mt, if_neg (by show ¬ (_ ∨ _ < _ + (1 : Int)); omega)]; rw [own_pre_cons (n := a.toNatClampNeg) hx0, if_neg hc68] <;> rfl))) (fun hc70 => ?_)
          show W K l _ n0 _ h44 2 6 221 #[.val (.long dd), .second, .val (.long qq), .second, .val (.int at'), .val (.int sh), .val (.int pk), .val (.int dl), .val (.int (1 : Int32)), .val (.int a), .val (.ref dt), .val (.ref b37), .val (.int (nar .boolean (own_mt xs a [nar .byte z43]))), .val (.int (1 : Int32)), .val (.int (0 : Int32))] []
          refine w_iconst ok at_221 (v := (1 : Int32)) rfl ?_
          show W K l _ n0 _ h44 2 6 222 #[.val (.long dd), .second, .val (.long qq), .second, .val (.int at'), .val (.int sh), .val (.int pk), .val (.int dl), .val (.int (1 : Int32)), .val (.int a), .val (.ref dt), .val (.ref b37), .val (.int (nar .boolean (own_mt xs a [nar .byte z43]))), .val (.int (1 : Int32)), .val (.int (0 : Int32))] [(.int (1 : Int32))]
          refine w_goto ok at_222 (pc' := 226) (by decide) ?_
          show W K l _ n0 _ h44 2 6 226 #[.val (.long dd), .second, .val (.long qq), .second, .val (.int at'), .val (.int sh), .val (.int pk), .val (.int dl), .val (.int (1 : Int32)), .val (.int a), .val (.ref dt), .val (.ref b37), .val (.int (nar .boolean (own_mt xs a [nar .byte z43]))), .val (.int (1 : Int32)), .val (.int (0 : Int32))] [(.int (1 : Int32))]
          refine w_bret ok (by simp) at_226 (by decide) (by decide) ?_
          exact rfl
        · show W K l _ n0 _ h44 2 6 167 #[.val (.long dd), .second, .val (.long qq), .second, .val (.int at'), .val (.int sh), .val (.int pk), .val (.int dl), .val (.int (1 : Int32)), .val (.int a), .val (.ref dt), .val (.ref b37), .val (.int (nar .boolean (own_mt xs a [nar .byte z43]))), .val (.int (1 : Int32)), .unset] []
          refine w_iload ok at_167 rfl ?_
          show W K l _ n0 _ h44 2 6 169 #[.val (.long dd), .second, .val (.long qq), .second, .val (.int at'), .val (.int sh), .val (.int pk), .val (.int dl), .val (.int (1 : Int32)), .val (.int a), .val (.ref dt), .val (.ref b37), .val (.int (nar .boolean (own_mt xs a [nar .byte z43]))), .val (.int (1 : Int32)), .unset] [(.int (1 : Int32))]
          refine w_iconst ok at_169 (v := (2 : Int32)) rfl ?_
          show W K l _ n0 _ h44 2 6 170 #[.val (.long dd), .second, .val (.long qq), .second, .val (.int at'), .val (.int sh), .val (.int pk), .val (.int dl), .val (.int (1 : Int32)), .val (.int a), .val (.ref dt), .val (.ref b37), .val (.int (nar .boolean (own_mt xs a [nar .byte z43]))), .val (.int (1 : Int32)), .unset] [(.int (2 : Int32)), (.int (1 : Int32))]
          refine w_icmp_lt ok at_170 (pc' := 187) (by decide) (fun hc72 => ?_) (fun hc72 => False.elim (by revert hc72; decide))
          show W K l _ n0 _ h44 2 6 187 #[.val (.long dd), .second, .val (.long qq), .second, .val (.int at'), .val (.int sh), .val (.int pk), .val (.int dl), .val (.int (1 : Int32)), .val (.int a), .val (.ref dt), .val (.ref b37), .val (.int (nar .boolean (own_mt xs a [nar .byte z43]))), .val (.int (1 : Int32)), .unset] []
          refine w_iload ok at_187 rfl ?_
          show W K l _ n0 _ h44 2 6 189 #[.val (.long dd), .second, .val (.long qq), .second, .val (.int at'), .val (.int sh), .val (.int pk), .val (.int dl), .val (.int (1 : Int32)), .val (.int a), .val (.ref dt), .val (.ref b37), .val (.int (nar .boolean (own_mt xs a [nar .byte z43]))), .val (.int (1 : Int32)), .unset] [(.int (1 : Int32))]
          refine w_iconst ok at_189 (v := (3 : Int32)) rfl ?_
          show W K l _ n0 _ h44 2 6 190 #[.val (.long dd), .second, .val (.long qq), .second, .val (.int at'), .val (.int sh), .val (.int pk), .val (.int dl), .val (.int (1 : Int32)), .val (.int a), .val (.ref dt), .val (.ref b37), .val (.int (nar .boolean (own_mt xs a [nar .byte z43]))), .val (.int (1 : Int32)), .unset] [(.int (3 : Int32)), (.int (1 : Int32))]
          refine w_icmp_lt ok at_190 (pc' := 207) (by decide) (fun hc74 => ?_) (fun hc74 => False.elim (by revert hc74; decide))
          show W K l _ n0 _ h44 2 6 207 #[.val (.long dd), .second, .val (.long qq), .second, .val (.int at'), .val (.int sh), .val (.int pk), .val (.int dl), .val (.int (1 : Int32)), .val (.int a), .val (.ref dt), .val (.ref b37), .val (.int (nar .boolean (own_mt xs a [nar .byte z43]))), .val (.int (1 : Int32)), .unset] []
          refine w_iconst ok at_207 (v := (1 : Int32)) rfl ?_
          show W K l _ n0 _ h44 2 6 208 #[.val (.long dd), .second, .val (.long qq), .second, .val (.int at'), .val (.int sh), .val (.int pk), .val (.int dl), .val (.int (1 : Int32)), .val (.int a), .val (.ref dt), .val (.ref b37), .val (.int (nar .boolean (own_mt xs a [nar .byte z43]))), .val (.int (1 : Int32)), .unset] [(.int (1 : Int32))]
          refine w_goto ok at_208 (pc' := 212) (by decide) ?_
          show W K l _ n0 _ h44 2 6 212 #[.val (.long dd), .second, .val (.long qq), .second, .val (.int at'), .val (.int sh), .val (.int pk), .val (.int dl), .val (.int (1 : Int32)), .val (.int a), .val (.ref dt), .val (.ref b37), .val (.int (nar .boolean (own_mt xs a [nar .byte z43]))), .val (.int (1 : Int32)), .unset] [(.int (1 : Int32))]
          refine w_istore ok at_212 (L' := #[.val (.long dd), .second, .val (.long qq), .second, .val (.int at'), .val (.int sh), .val (.int pk), .val (.int dl), .val (.int (1 : Int32)), .val (.int a), .val (.ref dt), .val (.ref b37), .val (.int (nar .boolean (own_mt xs a [nar .byte z43]))), .val (.int (1 : Int32)), .val (.int (1 : Int32))]) rfl ?_
          show W K l _ n0 _ h44 2 6 214 #[.val (.long dd), .second, .val (.long qq), .second, .val (.int at'), .val (.int sh), .val (.int pk), .val (.int dl), .val (.int (1 : Int32)), .val (.int a), .val (.ref dt), .val (.ref b37), .val (.int (nar .boolean (own_mt xs a [nar .byte z43]))), .val (.int (1 : Int32)), .val (.int (1 : Int32))] []
          refine w_iload ok at_214 rfl ?_
          show W K l _ n0 _ h44 2 6 216 #[.val (.long dd), .second, .val (.long qq), .second, .val (.int at'), .val (.int sh), .val (.int pk), .val (.int dl), .val (.int (1 : Int32)), .val (.int a), .val (.ref dt), .val (.ref b37), .val (.int (nar .boolean (own_mt xs a [nar .byte z43]))), .val (.int (1 : Int32)), .val (.int (1 : Int32))] [(.int (nar .boolean (own_mt xs a [nar .byte z43])))]
          refine w_iload ok at_216 rfl ?_
          show W K l _ n0 _ h44 2 6 218 #[.val (.long dd), .second, .val (.long qq), .second, .val (.int at'), .val (.int sh), .val (.int pk), .val (.int dl), .val (.int (1 : Int32)), .val (.int a), .val (.ref dt), .val (.ref b37), .val (.int (nar .boolean (own_mt xs a [nar .byte z43]))), .val (.int (1 : Int32)), .val (.int (1 : Int32))] [(.int (1 : Int32)), (.int (nar .boolean (own_mt xs a [nar .byte z43])))]
          refine w_icmp_ne ok at_218 (pc' := 225) (by decide) (fun hc76 => False.elim (by exact hc76 (by simp only [Int32.lt_iff_toInt_lt, es, Int32.reduceToInt] at hc52 hc58; rw [own_mt, if_neg (by show ¬ (_ ∨ _ < _ + (1 : Int)); omega)]; rw [own_pre_cons (n := a.toNatClampNeg) hx0, if_pos hc68]; rw [own_pre_nil] <;> rfl))) (fun hc76 => ?_)
          show W K l _ n0 _ h44 2 6 221 #[.val (.long dd), .second, .val (.long qq), .second, .val (.int at'), .val (.int sh), .val (.int pk), .val (.int dl), .val (.int (1 : Int32)), .val (.int a), .val (.ref dt), .val (.ref b37), .val (.int (nar .boolean (own_mt xs a [nar .byte z43]))), .val (.int (1 : Int32)), .val (.int (1 : Int32))] []
          refine w_iconst ok at_221 (v := (1 : Int32)) rfl ?_
          show W K l _ n0 _ h44 2 6 222 #[.val (.long dd), .second, .val (.long qq), .second, .val (.int at'), .val (.int sh), .val (.int pk), .val (.int dl), .val (.int (1 : Int32)), .val (.int a), .val (.ref dt), .val (.ref b37), .val (.int (nar .boolean (own_mt xs a [nar .byte z43]))), .val (.int (1 : Int32)), .val (.int (1 : Int32))] [(.int (1 : Int32))]
          refine w_goto ok at_222 (pc' := 226) (by decide) ?_
          show W K l _ n0 _ h44 2 6 226 #[.val (.long dd), .second, .val (.long qq), .second, .val (.int at'), .val (.int sh), .val (.int pk), .val (.int dl), .val (.int (1 : Int32)), .val (.int a), .val (.ref dt), .val (.ref b37), .val (.int (nar .boolean (own_mt xs a [nar .byte z43]))), .val (.int (1 : Int32)), .val (.int (1 : Int32))] [(.int (1 : Int32))]
          refine w_bret ok (by simp) at_226 (by decide) (by decide) ?_
          exact rfl
  · skip
    show W K l _ n0 _ h0 0 0 35 #[.val (.long dd), .second, .val (.long qq), .second, .val (.int at'), .val (.int sh), .val (.int pk), .val (.int dl), .val (.int (2 : Int32)), .val (.int a), .unset, .unset, .unset, .unset, .unset] []
    refine w_lloadN ok at_35 rfl ?_
    show W K l _ n0 _ h0 0 0 36 #[.val (.long dd), .second, .val (.long qq), .second, .val (.int at'), .val (.int sh), .val (.int pk), .val (.int dl), .val (.int (2 : Int32)), .val (.int a), .unset, .unset, .unset, .unset, .unset] [(.long dd)]
    refine w_iload ok at_36 rfl ?_
    show W K l _ n0 _ h0 0 0 38 #[.val (.long dd), .second, .val (.long qq), .second, .val (.int at'), .val (.int sh), .val (.int pk), .val (.int dl), .val (.int (2 : Int32)), .val (.int a), .unset, .unset, .unset, .unset, .unset] [(.int dl), (.long dd)]
    refine w_callS ok (y := (⟨"com/example/nakami/nakami/pdf/BytesMatchesPinLaw", "makeData", "(JI)[B"⟩ : MethodName)) (argsL := [(.long dd), (.int dl)]) (rest := []) at_38 (hw _ (List.mem_of_getElem? (i := 0) rfl)) (hw _ (List.mem_of_getElem? (i := 1) rfl)) (hw _ (List.mem_of_getElem? (i := 2) rfl)) (hw _ (List.mem_of_getElem? (i := 3) rfl)) (by decide) pd_28JI295bB rfl rfl (by decide) (Nat.le_of_ble_eq_true rfl) (by decide) (by decide) (fun z0 => rm_make l Z a0 hw [] n0 h0 z0 dd dl hdl) (fun v77 h78 qv77 => ?_)
    obtain ⟨dt, xs, rfl, sz_dt, ge_dt, K1, A_dt, hxs⟩ := qv77
    show W K l _ n0 _ h78 1 5 41 #[.val (.long dd), .second, .val (.long qq), .second, .val (.int at'), .val (.int sh), .val (.int pk), .val (.int dl), .val (.int (2 : Int32)), .val (.int a), .unset, .unset, .unset, .unset, .unset] [(.ref dt)]
    refine w_astore ok at_41 rfl (L' := #[.val (.long dd), .second, .val (.long qq), .second, .val (.int at'), .val (.int sh), .val (.int pk), .val (.int dl), .val (.int (2 : Int32)), .val (.int a), .val (.ref dt), .unset, .unset, .unset, .unset]) rfl ?_
    show W K l _ n0 _ h78 1 5 43 #[.val (.long dd), .second, .val (.long qq), .second, .val (.int at'), .val (.int sh), .val (.int pk), .val (.int dl), .val (.int (2 : Int32)), .val (.int a), .val (.ref dt), .unset, .unset, .unset, .unset] []
    refine w_iload ok at_43 rfl ?_
    show W K l _ n0 _ h78 1 5 45 #[.val (.long dd), .second, .val (.long qq), .second, .val (.int at'), .val (.int sh), .val (.int pk), .val (.int dl), .val (.int (2 : Int32)), .val (.int a), .val (.ref dt), .unset, .unset, .unset, .unset] [(.int (2 : Int32))]
    refine w_newarray ok at_45 (hw _ (List.mem_of_getElem? (i := 4) rfl)) (by decide) (cap := 2) (by decide) (by decide) (by decide) (by decide) (fun h80 b79 ea_b79 ge_b79 E_b79 A_b79 => ?_)
    have ne_dt_b79 : dt ≠ b79 := fun q => Nat.lt_irrefl _ (Nat.lt_of_lt_of_eq A_dt.lt (ea_b79.symm.trans q.symm))
    replace A_dt := A_dt.ext E_b79
    replace A_b79 : PA .byte Z h80 b79 [(.int (0 : Int32)), (.int (0 : Int32))] := A_b79
    show W K l _ n0 _ h80 2 7 47 #[.val (.long dd), .second, .val (.long qq), .second, .val (.int at'), .val (.int sh), .val (.int pk), .val (.int dl), .val (.int (2 : Int32)), .val (.int a), .val (.ref dt), .unset, .unset, .unset, .unset] [(.ref b79)]
    refine w_astore ok at_47 rfl (L' := #[.val (.long dd), .second, .val (.long qq), .second, .val (.int at'), .val (.int sh), .val (.int pk), .val (.int dl), .val (.int (2 : Int32)), .val (.int a), .val (.ref dt), .val (.ref b79), .unset, .unset, .unset]) rfl ?_
    show W K l _ n0 _ h80 2 7 49 #[.val (.long dd), .second, .val (.long qq), .second, .val (.int at'), .val (.int sh), .val (.int pk), .val (.int dl), .val (.int (2 : Int32)), .val (.int a), .val (.ref dt), .val (.ref b79), .unset, .unset, .unset] []
    refine w_iload ok at_49 rfl ?_
    show W K l _ n0 _ h80 2 7 51 #[.val (.long dd), .second, .val (.long qq), .second, .val (.int at'), .val (.int sh), .val (.int pk), .val (.int dl), .val (.int (2 : Int32)), .val (.int a), .val (.ref dt), .val (.ref b79), .unset, .unset, .unset] [(.int (2 : Int32))]
    refine w_if_le ok at_51 (pc' := 69) (by decide) (fun hc82 => False.elim (by revert hc82; decide)) (fun hc82 => ?_)
    show W K l _ n0 _ h80 2 7 54 #[.val (.long dd), .second, .val (.long qq), .second, .val (.int at'), .val (.int sh), .val (.int pk), .val (.int dl), .val (.int (2 : Int32)), .val (.int a), .val (.ref dt), .val (.ref b79), .unset, .unset, .unset] []
    refine w_aload ok at_54 rfl rfl ?_
    show W K l _ n0 _ h80 2 7 56 #[.val (.long dd), .second, .val (.long qq), .second, .val (.int at'), .val (.int sh), .val (.int pk), .val (.int dl), .val (.int (2 : Int32)), .val (.int a), .val (.ref dt), .val (.ref b79), .unset, .unset, .unset] [(.ref b79)]
    refine w_iconst ok at_56 (v := (0 : Int32)) rfl ?_
    show W K l _ n0 _ h80 2 7 57 #[.val (.long dd), .second, .val (.long qq), .second, .val (.int at'), .val (.int sh), .val (.int pk), .val (.int dl), .val (.int (2 : Int32)), .val (.int a), .val (.ref dt), .val (.ref b79), .unset, .unset, .unset] [(.int (0 : Int32)), (.ref b79)]
    refine w_aload ok at_57 rfl rfl ?_
    show W K l _ n0 _ h80 2 7 59 #[.val (.long dd), .second, .val (.long qq), .second, .val (.int at'), .val (.int sh), .val (.int pk), .val (.int dl), .val (.int (2 : Int32)), .val (.int a), .val (.ref dt), .val (.ref b79), .unset, .unset, .unset] [(.ref dt), (.int (0 : Int32)), (.ref b79)]
    refine w_iload ok at_59 rfl ?_
    show W K l _ n0 _ h80 2 7 61 #[.val (.long dd), .second, .val (.long qq), .second, .val (.int at'), .val (.int sh), .val (.int pk), .val (.int dl), .val (.int (2 : Int32)), .val (.int a), .val (.ref dt), .val (.ref b79), .unset, .unset, .unset] [(.int a), (.ref dt), (.int (0 : Int32)), (.ref b79)]
    refine w_iconst ok at_61 (v := (0 : Int32)) rfl ?_
    show W K l _ n0 _ h80 2 7 62 #[.val (.long dd), .second, .val (.long qq), .second, .val (.int at'), .val (.int sh), .val (.int pk), .val (.int dl), .val (.int (2 : Int32)), .val (.int a), .val (.ref dt), .val (.ref b79), .unset, .unset, .unset] [(.int (0 : Int32)), (.int a), (.ref dt), (.int (0 : Int32)), (.ref b79)]
    refine w_lloadN ok at_62 rfl ?_
    show W K l _ n0 _ h80 2 7 63 #[.val (.long dd), .second, .val (.long qq), .second, .val (.int at'), .val (.int sh), .val (.int pk), .val (.int dl), .val (.int (2 : Int32)), .val (.int a), .val (.ref dt), .val (.ref b79), .unset, .unset, .unset] [(.long qq), (.int (0 : Int32)), (.int a), (.ref dt), (.int (0 : Int32)), (.ref b79)]
    refine w_iload ok at_63 rfl ?_
    show W K l _ n0 _ h80 2 7 65 #[.val (.long dd), .second, .val (.long qq), .second, .val (.int at'), .val (.int sh), .val (.int pk), .val (.int dl), .val (.int (2 : Int32)), .val (.int a), .val (.ref dt), .val (.ref b79), .unset, .unset, .unset] [(.int pk), (.long qq), (.int (0 : Int32)), (.int a), (.ref dt), (.int (0 : Int32)), (.ref b79)]
    refine w_callS ok (y := (⟨"com/example/nakami/nakami/pdf/BytesMatchesPinLaw", "pat", "([BIIJI)B"⟩ : MethodName)) (argsL := [(.ref dt), (.int a), (.int (0 : Int32)), (.long qq), (.int pk)]) (rest := [(.int (0 : Int32)), (.ref b79)]) at_65 (hw _ (List.mem_of_getElem? (i := 12) rfl)) (hw _ (List.mem_of_getElem? (i := 13) rfl)) (hw _ (List.mem_of_getElem? (i := 2) rfl)) (hw _ (List.mem_of_getElem? (i := 14) rfl)) (by decide) pd_285bBIIJI29B rfl rfl (by decide) (Nat.le_of_ble_eq_true rfl) (by decide) (by decide) (fun z0 => rm_pat l Z a0 hw [] n0 h80 z0 dt xs a (0 : Int32) qq pk A_dt) (fun v83 h84 qv83 => ?_)
    obtain ⟨⟨z85, rfl⟩, rfl⟩ := qv83
    show W K l _ n0 _ h80 2 7 68 #[.val (.long dd), .second, .val (.long qq), .second, .val (.int at'), .val (.int sh), .val (.int pk), .val (.int dl), .val (.int (2 : Int32)), .val (.int a), .val (.ref dt), .val (.ref b79), .unset, .unset, .unset] [(.int z85), (.int (0 : Int32)), (.ref b79)]
    refine w_bastore ok at_68 A_b79 ge_b79 (by decide) (Nat.le_of_ble_eq_true rfl) (fun h86 W_h86 A1_h86 => ?_)
    replace A_dt := A_dt.other W_h86 ne_dt_b79
    replace A_b79 : PA .byte Z h86 b79 [(.int (nar .byte z85)), (.int (0 : Int32))] := A1_h86
    show W K l _ n0 _ h86 2 7 69 #[.val (.long dd), .second, .val (.long qq), .second, .val (.int at'), .val (.int sh), .val (.int pk), .val (.int dl), .val (.int (2 : Int32)), .val (.int a), .val (.ref dt), .val (.ref b79), .unset, .unset, .unset] []
    refine w_iload ok at_69 rfl ?_
    show W K l _ n0 _ h86 2 7 71 #[.val (.long dd), .second, .val (.long qq), .second, .val (.int at'), .val (.int sh), .val (.int pk), .val (.int dl), .val (.int (2 : Int32)), .val (.int a), .val (.ref dt), .val (.ref b79), .unset, .unset, .unset] [(.int (2 : Int32))]
    refine w_iconst ok at_71 (v := (1 : Int32)) rfl ?_
    show W K l _ n0 _ h86 2 7 72 #[.val (.long dd), .second, .val (.long qq), .second, .val (.int at'), .val (.int sh), .val (.int pk), .val (.int dl), .val (.int (2 : Int32)), .val (.int a), .val (.ref dt), .val (.ref b79), .unset, .unset, .unset] [(.int (1 : Int32)), (.int (2 : Int32))]
    refine w_icmp_le ok at_72 (pc' := 90) (by decide) (fun hc88 => False.elim (by revert hc88; decide)) (fun hc88 => ?_)
    show W K l _ n0 _ h86 2 7 75 #[.val (.long dd), .second, .val (.long qq), .second, .val (.int at'), .val (.int sh), .val (.int pk), .val (.int dl), .val (.int (2 : Int32)), .val (.int a), .val (.ref dt), .val (.ref b79), .unset, .unset, .unset] []
    refine w_aload ok at_75 rfl rfl ?_
    show W K l _ n0 _ h86 2 7 77 #[.val (.long dd), .second, .val (.long qq), .second, .val (.int at'), .val (.int sh), .val (.int pk), .val (.int dl), .val (.int (2 : Int32)), .val (.int a), .val (.ref dt), .val (.ref b79), .unset, .unset, .unset] [(.ref b79)]
    refine w_iconst ok at_77 (v := (1 : Int32)) rfl ?_
    show W K l _ n0 _ h86 2 7 78 #[.val (.long dd), .second, .val (.long qq), .second, .val (.int at'), .val (.int sh), .val (.int pk), .val (.int dl), .val (.int (2 : Int32)), .val (.int a), .val (.ref dt), .val (.ref b79), .unset, .unset, .unset] [(.int (1 : Int32)), (.ref b79)]
    refine w_aload ok at_78 rfl rfl ?_
    show W K l _ n0 _ h86 2 7 80 #[.val (.long dd), .second, .val (.long qq), .second, .val (.int at'), .val (.int sh), .val (.int pk), .val (.int dl), .val (.int (2 : Int32)), .val (.int a), .val (.ref dt), .val (.ref b79), .unset, .unset, .unset] [(.ref dt), (.int (1 : Int32)), (.ref b79)]
    refine w_iload ok at_80 rfl ?_
    show W K l _ n0 _ h86 2 7 82 #[.val (.long dd), .second, .val (.long qq), .second, .val (.int at'), .val (.int sh), .val (.int pk), .val (.int dl), .val (.int (2 : Int32)), .val (.int a), .val (.ref dt), .val (.ref b79), .unset, .unset, .unset] [(.int a), (.ref dt), (.int (1 : Int32)), (.ref b79)]
    refine w_iconst ok at_82 (v := (1 : Int32)) rfl ?_
    show W K l _ n0 _ h86 2 7 83 #[.val (.long dd), .second, .val (.long qq), .second, .val (.int at'), .val (.int sh), .val (.int pk), .val (.int dl), .val (.int (2 : Int32)), .val (.int a), .val (.ref dt), .val (.ref b79), .unset, .unset, .unset] [(.int (1 : Int32)), (.int a), (.ref dt), (.int (1 : Int32)), (.ref b79)]
    refine w_lloadN ok at_83 rfl ?_
    show W K l _ n0 _ h86 2 7 84 #[.val (.long dd), .second, .val (.long qq), .second, .val (.int at'), .val (.int sh), .val (.int pk), .val (.int dl), .val (.int (2 : Int32)), .val (.int a), .val (.ref dt), .val (.ref b79), .unset, .unset, .unset] [(.long qq), (.int (1 : Int32)), (.int a), (.ref dt), (.int (1 : Int32)), (.ref b79)]
    refine w_iload ok at_84 rfl ?_
    show W K l _ n0 _ h86 2 7 86 #[.val (.long dd), .second, .val (.long qq), .second, .val (.int at'), .val (.int sh), .val (.int pk), .val (.int dl), .val (.int (2 : Int32)), .val (.int a), .val (.ref dt), .val (.ref b79), .unset, .unset, .unset] [(.int pk), (.long qq), (.int (1 : Int32)), (.int a), (.ref dt), (.int (1 : Int32)), (.ref b79)]
    refine w_callS ok (y := (⟨"com/example/nakami/nakami/pdf/BytesMatchesPinLaw", "pat", "([BIIJI)B"⟩ : MethodName)) (argsL := [(.ref dt), (.int a), (.int (1 : Int32)), (.long qq), (.int pk)]) (rest := [(.int (1 : Int32)), (.ref b79)]) at_86 (hw _ (List.mem_of_getElem? (i := 12) rfl)) (hw _ (List.mem_of_getElem? (i := 13) rfl)) (hw _ (List.mem_of_getElem? (i := 2) rfl)) (hw _ (List.mem_of_getElem? (i := 14) rfl)) (by decide) pd_285bBIIJI29B rfl rfl (by decide) (Nat.le_of_ble_eq_true rfl) (by decide) (by decide) (fun z0 => rm_pat l Z a0 hw [] n0 h86 z0 dt xs a (1 : Int32) qq pk A_dt) (fun v89 h90 qv89 => ?_)
    obtain ⟨⟨z91, rfl⟩, rfl⟩ := qv89
    show W K l _ n0 _ h86 2 7 89 #[.val (.long dd), .second, .val (.long qq), .second, .val (.int at'), .val (.int sh), .val (.int pk), .val (.int dl), .val (.int (2 : Int32)), .val (.int a), .val (.ref dt), .val (.ref b79), .unset, .unset, .unset] [(.int z91), (.int (1 : Int32)), (.ref b79)]
    refine w_bastore ok at_89 A_b79 ge_b79 (by decide) (Nat.le_of_ble_eq_true rfl) (fun h92 W_h92 A1_h92 => ?_)
    replace A_dt := A_dt.other W_h92 ne_dt_b79
    replace A_b79 : PA .byte Z h92 b79 [(.int (nar .byte z85)), (.int (nar .byte z91))] := A1_h92
    show W K l _ n0 _ h92 2 7 90 #[.val (.long dd), .second, .val (.long qq), .second, .val (.int at'), .val (.int sh), .val (.int pk), .val (.int dl), .val (.int (2 : Int32)), .val (.int a), .val (.ref dt), .val (.ref b79), .unset, .unset, .unset] []
    refine w_iload ok at_90 rfl ?_
    show W K l _ n0 _ h92 2 7 92 #[.val (.long dd), .second, .val (.long qq), .second, .val (.int at'), .val (.int sh), .val (.int pk), .val (.int dl), .val (.int (2 : Int32)), .val (.int a), .val (.ref dt), .val (.ref b79), .unset, .unset, .unset] [(.int (2 : Int32))]
    refine w_iconst ok at_92 (v := (2 : Int32)) rfl ?_
    show W K l _ n0 _ h92 2 7 93 #[.val (.long dd), .second, .val (.long qq), .second, .val (.int at'), .val (.int sh), .val (.int pk), .val (.int dl), .val (.int (2 : Int32)), .val (.int a), .val (.ref dt), .val (.ref b79), .unset, .unset, .unset] [(.int (2 : Int32)), (.int (2 : Int32))]
    refine w_icmp_le ok at_93 (pc' := 111) (by decide) (fun hc94 => ?_) (fun hc94 => False.elim (by revert hc94; decide))
    show W K l _ n0 _ h92 2 7 111 #[.val (.long dd), .second, .val (.long qq), .second, .val (.int at'), .val (.int sh), .val (.int pk), .val (.int dl), .val (.int (2 : Int32)), .val (.int a), .val (.ref dt), .val (.ref b79), .unset, .unset, .unset] []
    refine w_aload ok at_111 rfl rfl ?_
    show W K l _ n0 _ h92 2 7 113 #[.val (.long dd), .second, .val (.long qq), .second, .val (.int at'), .val (.int sh), .val (.int pk), .val (.int dl), .val (.int (2 : Int32)), .val (.int a), .val (.ref dt), .val (.ref b79), .unset, .unset, .unset] [(.ref dt)]
    refine w_iload ok at_113 rfl ?_
    show W K l _ n0 _ h92 2 7 115 #[.val (.long dd), .second, .val (.long qq), .second, .val (.int at'), .val (.int sh), .val (.int pk), .val (.int dl), .val (.int (2 : Int32)), .val (.int a), .val (.ref dt), .val (.ref b79), .unset, .unset, .unset] [(.int a), (.ref dt)]
    refine w_aload ok at_115 rfl rfl ?_
    show W K l _ n0 _ h92 2 7 117 #[.val (.long dd), .second, .val (.long qq), .second, .val (.int at'), .val (.int sh), .val (.int pk), .val (.int dl), .val (.int (2 : Int32)), .val (.int a), .val (.ref dt), .val (.ref b79), .unset, .unset, .unset] [(.ref b79), (.int a), (.ref dt)]
    refine w_callS ok (y := (⟨"com/example/nakami/nakami/pdf/Bytes", "matches", "([BI[B)Z"⟩ : MethodName)) (argsL := [(.ref dt), (.int a), (.ref b79)]) (rest := []) at_117 (hw _ (List.mem_of_getElem? (i := 8) rfl)) (hw _ (List.mem_of_getElem? (i := 9) rfl)) (hw _ (List.mem_of_getElem? (i := 10) rfl)) (hw _ (List.mem_of_getElem? (i := 11) rfl)) (by decide) pd_285bBI5bB29Z rfl rfl (by decide) (Nat.le_of_ble_eq_true rfl) (by decide) (by decide) (fun z0 => rm_m l Z a0 hw [] n0 h92 z0 dt b79 xs [nar .byte z85, nar .byte z91] a A_dt A_b79 (by omega) (by show _ + (2 : Int) < _; omega)) (fun v95 h96 qv95 => ?_)
    obtain ⟨rfl, rfl⟩ := qv95
    show W K l _ n0 _ h92 2 7 120 #[.val (.long dd), .second, .val (.long qq), .second, .val (.int at'), .val (.int sh), .val (.int pk), .val (.int dl), .val (.int (2 : Int32)), .val (.int a), .val (.ref dt), .val (.ref b79), .unset, .unset, .unset] [(.int (nar .boolean (own_mt xs a [nar .byte z85, nar .byte z91])))]
    refine w_istore ok at_120 (L' := #[.val (.long dd), .second, .val (.long qq), .second, .val (.int at'), .val (.int sh), .val (.int pk), .val (.int dl), .val (.int (2 : Int32)), .val (.int a), .val (.ref dt), .val (.ref b79), .val (.int (nar .boolean (own_mt xs a [nar .byte z85, nar .byte z91]))), .unset, .unset]) rfl ?_
    show W K l _ n0 _ h92 2 7 122 #[.val (.long dd), .second, .val (.long qq), .second, .val (.int at'), .val (.int sh), .val (.int pk), .val (.int dl), .val (.int (2 : Int32)), .val (.int a), .val (.ref dt), .val (.ref b79), .val (.int (nar .boolean (own_mt xs a [nar .byte z85, nar .byte z91]))), .unset, .unset] []
    have es : (dl - (2 : Int32)).toInt = dl.toInt - 2 := by have e1 := c_isub dl 2; have e2 := rng32 (dl - 2); have e3 : (2 : Int32).toInt = 2 := rfl; omega
    refine w_iload ok at_122 rfl ?_
    show W K l _ n0 _ h92 2 7 124 #[.val (.long dd), .second, .val (.long qq), .second, .val (.int at'), .val (.int sh), .val (.int pk), .val (.int dl), .val (.int (2 : Int32)), .val (.int a), .val (.ref dt), .val (.ref b79), .val (.int (nar .boolean (own_mt xs a [nar .byte z85, nar .byte z91]))), .unset, .unset] [(.int a)]
    refine w_if_lt ok at_124 (pc' := 141) (by decide) (fun hc98 => ?_) (fun hc98 => ?_)
    · show W K l _ n0 _ h92 2 7 141 #[.val (.long dd), .second, .val (.long qq), .second, .val (.int at'), .val (.int sh), .val (.int pk), .val (.int dl), .val (.int (2 : Int32)), .val (.int a), .val (.ref dt), .val (.ref b79), .val (.int (nar .boolean (own_mt xs a [nar .byte z85, nar .byte z91]))), .unset, .unset] []
      refine w_iconst ok at_141 (v := (0 : Int32)) rfl ?_
      show W K l _ n0 _ h92 2 7 142 #[.val (.long dd), .second, .val (.long qq), .second, .val (.int at'), .val (.int sh), .val (.int pk), .val (.int dl), .val (.int (2 : Int32)), .val (.int a), .val (.ref dt), .val (.ref b79), .val (.int (nar .boolean (own_mt xs a [nar .byte z85, nar .byte z91]))), .unset, .unset] [(.int (0 : Int32))]
      refine w_istore ok at_142 (L' := #[.val (.long dd), .second, .val (.long qq), .second, .val (.int at'), .val (.int sh), .val (.int pk), .val (.int dl), .val (.int (2 : Int32)), .val (.int a), .val (.ref dt), .val (.ref b79), .val (.int (nar .boolean (own_mt xs a [nar .byte z85, nar .byte z91]))), .val (.int (0 : Int32)), .unset]) rfl ?_
      show W K l _ n0 _ h92 2 7 144 #[.val (.long dd), .second, .val (.long qq), .second, .val (.int at'), .val (.int sh), .val (.int pk), .val (.int dl), .val (.int (2 : Int32)), .val (.int a), .val (.ref dt), .val (.ref b79), .val (.int (nar .boolean (own_mt xs a [nar .byte z85, nar .byte z91]))), .val (.int (0 : Int32)), .unset] []
      refine w_iload ok at_144 rfl ?_
      show W K l _ n0 _ h92 2 7 146 #[.val (.long dd), .second, .val (.long qq), .second, .val (.int at'), .val (.int sh), .val (.int pk), .val (.int dl), .val (.int (2 : Int32)), .val (.int a), .val (.ref dt), .val (.ref b79), .val (.int (nar .boolean (own_mt xs a [nar .byte z85, nar .byte z91]))), .val (.int (0 : Int32)), .unset] [(.int (0 : Int32))]
      refine w_if_eq ok at_146 (pc' := 211) (by decide) (fun hc100 => ?_) (fun hc100 => False.elim (by revert hc100; decide))
      show W K l _ n0 _ h92 2 7 211 #[.val (.long dd), .second, .val (.long qq), .second, .val (.int at'), .val (.int sh), .val (.int pk), .val (.int dl), .val (.int (2 : Int32)), .val (.int a), .val (.ref dt), .val (.ref b79), .val (.int (nar .boolean (own_mt xs a [nar .byte z85, nar .byte z91]))), .val (.int (0 : Int32)), .unset] []
      refine w_iconst ok at_211 (v := (0 : Int32)) rfl ?_
      show W K l _ n0 _ h92 2 7 212 #[.val (.long dd), .second, .val (.long qq), .second, .val (.int at'), .val (.int sh), .val (.int pk), .val (.int dl), .val (.int (2 : Int32)), .val (.int a), .val (.ref dt), .val (.ref b79), .val (.int (nar .boolean (own_mt xs a [nar .byte z85, nar .byte z91]))), .val (.int (0 : Int32)), .unset] [(.int (0 : Int32))]
      refine w_istore ok at_212 (L' := #[.val (.long dd), .second, .val (.long qq), .second, .val (.int at'), .val (.int sh), .val (.int pk), .val (.int dl), .val (.int (2 : Int32)), .val (.int a), .val (.ref dt), .val (.ref b79), .val (.int (nar .boolean (own_mt xs a [nar .byte z85, nar .byte z91]))), .val (.int (0 : Int32)), .val (.int (0 : Int32))]) rfl ?_
      show W K l _ n0 _ h92 2 7 214 #[.val (.long dd), .second, .val (.long qq), .second, .val (.int at'), .val (.int sh), .val (.int pk), .val (.int dl), .val (.int (2 : Int32)), .val (.int a), .val (.ref dt), .val (.ref b79), .val (.int (nar .boolean (own_mt xs a [nar .byte z85, nar .byte z91]))), .val (.int (0 : Int32)), .val (.int (0 : Int32))] []
      refine w_iload ok at_214 rfl ?_
      show W K l _ n0 _ h92 2 7 216 #[.val (.long dd), .second, .val (.long qq), .second, .val (.int at'), .val (.int sh), .val (.int pk), .val (.int dl), .val (.int (2 : Int32)), .val (.int a), .val (.ref dt), .val (.ref b79), .val (.int (nar .boolean (own_mt xs a [nar .byte z85, nar .byte z91]))), .val (.int (0 : Int32)), .val (.int (0 : Int32))] [(.int (nar .boolean (own_mt xs a [nar .byte z85, nar .byte z91])))]
      refine w_iload ok at_216 rfl ?_
      show W K l _ n0 _ h92 2 7 218 #[.val (.long dd), .second, .val (.long qq), .second, .val (.int at'), .val (.int sh), .val (.int pk), .val (.int dl), .val (.int (2 : Int32)), .val (.int a), .val (.ref dt), .val (.ref b79), .val (.int (nar .boolean (own_mt xs a [nar .byte z85, nar .byte z91]))), .val (.int (0 : Int32)), .val (.int (0 : Int32))] [(.int (0 : Int32)), (.int (nar .boolean (own_mt xs a [nar .byte z85, nar .byte z91])))]
      refine w_icmp_ne ok at_218 (pc' := 225) (by decide) (fun hc102 => False.elim (by exact hc102 (by simp only [Int32.lt_iff_toInt_lt, es, Int32.reduceToInt] at hc98; rw [own_mt, if_pos (by first | (left; omega) | (right; show _ < _ + (2 : Int); omega))] <;> rfl))) (fun hc102 => ?_)
      show W K l _ n0 _ h92 2 7 221 #[.val (.long dd), .second, .val (.long qq), .second, .val (.int at'), .val (.int sh), .val (.int pk), .val (.int dl), .val (.int (2 : Int32)), .val (.int a), .val (.ref dt), .val (.ref b79), .val (.int (nar .boolean (own_mt xs a [nar .byte z85, nar .byte z91]))), .val (.int (0 : Int32)), .val (.int (0 : Int32))] []
      refine w_iconst ok at_221 (v := (1 : Int32)) rfl ?_
      show W K l _ n0 _ h92 2 7 222 #[.val (.long dd), .second, .val (.long qq), .second, .val (.int at'), .val (.int sh), .val (.int pk), .val (.int dl), .val (.int (2 : Int32)), .val (.int a), .val (.ref dt), .val (.ref b79), .val (.int (nar .boolean (own_mt xs a [nar .byte z85, nar .byte z91]))), .val (.int (0 : Int32)), .val (.int (0 : Int32))] [(.int (1 : Int32))]
      refine w_goto ok at_222 (pc' := 226) (by decide) ?_
      show W K l _ n0 _ h92 2 7 226 #[.val (.long dd), .second, .val (.long qq), .second, .val (.int at'), .val (.int sh), .val (.int pk), .val (.int dl), .val (.int (2 : Int32)), .val (.int a), .val (.ref dt), .val (.ref b79), .val (.int (nar .boolean (own_mt xs a [nar .byte z85, nar .byte z91]))), .val (.int (0 : Int32)), .val (.int (0 : Int32))] [(.int (1 : Int32))]
      refine w_bret ok (by simp) at_226 (by decide) (by decide) ?_
      exact rfl
    · show W K l _ n0 _ h92 2 7 127 #[.val (.long dd), .second, .val (.long qq), .second, .val (.int at'), .val (.int sh), .val (.int pk), .val (.int dl), .val (.int (2 : Int32)), .val (.int a), .val (.ref dt), .val (.ref b79), .val (.int (nar .boolean (own_mt xs a [nar .byte z85, nar .byte z91]))), .unset, .unset] []
      refine w_iload ok at_127 rfl ?_
      show W K l _ n0 _ h92 2 7 129 #[.val (.long dd), .second, .val (.long qq), .second, .val (.int at'), .val (.int sh), .val (.int pk), .val (.int dl), .val (.int (2 : Int32)), .val (.int a), .val (.ref dt), .val (.ref b79), .val (.int (nar .boolean (own_mt xs a [nar .byte z85, nar .byte z91]))), .unset, .unset] [(.int a)]
      refine w_iload ok at_129 rfl ?_
      show W K l _ n0 _ h92 2 7 131 #[.val (.long dd), .second, .val (.long qq), .second, .val (.int at'), .val (.int sh), .val (.int pk), .val (.int dl), .val (.int (2 : Int32)), .val (.int a), .val (.ref dt), .val (.ref b79), .val (.int (nar .boolean (own_mt xs a [nar .byte z85, nar .byte z91]))), .unset, .unset] [(.int dl), (.int a)]
      refine w_iload ok at_131 rfl ?_
      show W K l _ n0 _ h92 2 7 133 #[.val (.long dd), .second, .val (.long qq), .second, .val (.int at'), .val (.int sh), .val (.int pk), .val (.int dl), .val (.int (2 : Int32)), .val (.int a), .val (.ref dt), .val (.ref b79), .val (.int (nar .boolean (own_mt xs a [nar .byte z85, nar .byte z91]))), .unset, .unset] [(.int (2 : Int32)), (.int dl), (.int a)]
      refine w_isub ok at_133 ?_
      show W K l _ n0 _ h92 2 7 134 #[.val (.long dd), .second, .val (.long qq), .second, .val (.int at'), .val (.int sh), .val (.int pk), .val (.int dl), .val (.int (2 : Int32)), .val (.int a), .val (.ref dt), .val (.ref b79), .val (.int (nar .boolean (own_mt xs a [nar .byte z85, nar .byte z91]))), .unset, .unset] [(.int (dl - (2 : Int32))), (.int a)]
      refine w_icmp_gt ok at_134 (pc' := 141) (by decide) (fun hc104 => ?_) (fun hc104 => ?_)
      · show W K l _ n0 _ h92 2 7 141 #[.val (.long dd), .second, .val (.long qq), .second, .val (.int at'), .val (.int sh), .val (.int pk), .val (.int dl), .val (.int (2 : Int32)), .val (.int a), .val (.ref dt), .val (.ref b79), .val (.int (nar .boolean (own_mt xs a [nar .byte z85, nar .byte z91]))), .unset, .unset] []
        refine w_iconst ok at_141 (v := (0 : Int32)) rfl ?_
        show W K l _ n0 _ h92 2 7 142 #[.val (.long dd), .second, .val (.long qq), .second, .val (.int at'), .val (.int sh), .val (.int pk), .val (.int dl), .val (.int (2 : Int32)), .val (.int a), .val (.ref dt), .val (.ref b79), .val (.int (nar .boolean (own_mt xs a [nar .byte z85, nar .byte z91]))), .unset, .unset] [(.int (0 : Int32))]
        refine w_istore ok at_142 (L' := #[.val (.long dd), .second, .val (.long qq), .second, .val (.int at'), .val (.int sh), .val (.int pk), .val (.int dl), .val (.int (2 : Int32)), .val (.int a), .val (.ref dt), .val (.ref b79), .val (.int (nar .boolean (own_mt xs a [nar .byte z85, nar .byte z91]))), .val (.int (0 : Int32)), .unset]) rfl ?_
        show W K l _ n0 _ h92 2 7 144 #[.val (.long dd), .second, .val (.long qq), .second, .val (.int at'), .val (.int sh), .val (.int pk), .val (.int dl), .val (.int (2 : Int32)), .val (.int a), .val (.ref dt), .val (.ref b79), .val (.int (nar .boolean (own_mt xs a [nar .byte z85, nar .byte z91]))), .val (.int (0 : Int32)), .unset] []
        refine w_iload ok at_144 rfl ?_
        show W K l _ n0 _ h92 2 7 146 #[.val (.long dd), .second, .val (.long qq), .second, .val (.int at'), .val (.int sh), .val (.int pk), .val (.int dl), .val (.int (2 : Int32)), .val (.int a), .val (.ref dt), .val (.ref b79), .val (.int (nar .boolean (own_mt xs a [nar .byte z85, nar .byte z91]))), .val (.int (0 : Int32)), .unset] [(.int (0 : Int32))]
        refine w_if_eq ok at_146 (pc' := 211) (by decide) (fun hc106 => ?_) (fun hc106 => False.elim (by revert hc106; decide))
        show W K l _ n0 _ h92 2 7 211 #[.val (.long dd), .second, .val (.long qq), .second, .val (.int at'), .val (.int sh), .val (.int pk), .val (.int dl), .val (.int (2 : Int32)), .val (.int a), .val (.ref dt), .val (.ref b79), .val (.int (nar .boolean (own_mt xs a [nar .byte z85, nar .byte z91]))), .val (.int (0 : Int32)), .unset] []
        refine w_iconst ok at_211 (v := (0 : Int32)) rfl ?_
        show W K l _ n0 _ h92 2 7 212 #[.val (.long dd), .second, .val (.long qq), .second, .val (.int at'), .val (.int sh), .val (.int pk), .val (.int dl), .val (.int (2 : Int32)), .val (.int a), .val (.ref dt), .val (.ref b79), .val (.int (nar .boolean (own_mt xs a [nar .byte z85, nar .byte z91]))), .val (.int (0 : Int32)), .unset] [(.int (0 : Int32))]
        refine w_istore ok at_212 (L' := #[.val (.long dd), .second, .val (.long qq), .second, .val (.int at'), .val (.int sh), .val (.int pk), .val (.int dl), .val (.int (2 : Int32)), .val (.int a), .val (.ref dt), .val (.ref b79), .val (.int (nar .boolean (own_mt xs a [nar .byte z85, nar .byte z91]))), .val (.int (0 : Int32)), .val (.int (0 : Int32))]) rfl ?_
        show W K l _ n0 _ h92 2 7 214 #[.val (.long dd), .second, .val (.long qq), .second, .val (.int at'), .val (.int sh), .val (.int pk), .val (.int dl), .val (.int (2 : Int32)), .val (.int a), .val (.ref dt), .val (.ref b79), .val (.int (nar .boolean (own_mt xs a [nar .byte z85, nar .byte z91]))), .val (.int (0 : Int32)), .val (.int (0 : Int32))] []
        refine w_iload ok at_214 rfl ?_
        show W K l _ n0 _ h92 2 7 216 #[.val (.long dd), .second, .val (.long qq), .second, .val (.int at'), .val (.int sh), .val (.int pk), .val (.int dl), .val (.int (2 : Int32)), .val (.int a), .val (.ref dt), .val (.ref b79), .val (.int (nar .boolean (own_mt xs a [nar .byte z85, nar .byte z91]))), .val (.int (0 : Int32)), .val (.int (0 : Int32))] [(.int (nar .boolean (own_mt xs a [nar .byte z85, nar .byte z91])))]
        refine w_iload ok at_216 rfl ?_
        show W K l _ n0 _ h92 2 7 218 #[.val (.long dd), .second, .val (.long qq), .second, .val (.int at'), .val (.int sh), .val (.int pk), .val (.int dl), .val (.int (2 : Int32)), .val (.int a), .val (.ref dt), .val (.ref b79), .val (.int (nar .boolean (own_mt xs a [nar .byte z85, nar .byte z91]))), .val (.int (0 : Int32)), .val (.int (0 : Int32))] [(.int (0 : Int32)), (.int (nar .boolean (own_mt xs a [nar .byte z85, nar .byte z91])))]
        refine w_icmp_ne ok at_218 (pc' := 225) (by decide) (fun hc108 => False.elim (by exact hc108 (by simp only [Int32.lt_iff_toInt_lt, es, Int32.reduceToInt] at hc98 hc104; rw [own_mt, if_pos (by first | (left; omega) | (right; show _ < _ + (2 : Int); omega))] <;> rfl))) (fun hc108 => ?_)
        show W K l _ n0 _ h92 2 7 221 #[.val (.long dd), .second, .val (.long qq), .second, .val (.int at'), .val (.int sh), .val (.int pk), .val (.int dl), .val (.int (2 : Int32)), .val (.int a), .val (.ref dt), .val (.ref b79), .val (.int (nar .boolean (own_mt xs a [nar .byte z85, nar .byte z91]))), .val (.int (0 : Int32)), .val (.int (0 : Int32))] []
        refine w_iconst ok at_221 (v := (1 : Int32)) rfl ?_
        show W K l _ n0 _ h92 2 7 222 #[.val (.long dd), .second, .val (.long qq), .second, .val (.int at'), .val (.int sh), .val (.int pk), .val (.int dl), .val (.int (2 : Int32)), .val (.int a), .val (.ref dt), .val (.ref b79), .val (.int (nar .boolean (own_mt xs a [nar .byte z85, nar .byte z91]))), .val (.int (0 : Int32)), .val (.int (0 : Int32))] [(.int (1 : Int32))]
        refine w_goto ok at_222 (pc' := 226) (by decide) ?_
        show W K l _ n0 _ h92 2 7 226 #[.val (.long dd), .second, .val (.long qq), .second, .val (.int at'), .val (.int sh), .val (.int pk), .val (.int dl), .val (.int (2 : Int32)), .val (.int a), .val (.ref dt), .val (.ref b79), .val (.int (nar .boolean (own_mt xs a [nar .byte z85, nar .byte z91]))), .val (.int (0 : Int32)), .val (.int (0 : Int32))] [(.int (1 : Int32))]
        refine w_bret ok (by simp) at_226 (by decide) (by decide) ?_
        exact rfl
      · show W K l _ n0 _ h92 2 7 137 #[.val (.long dd), .second, .val (.long qq), .second, .val (.int at'), .val (.int sh), .val (.int pk), .val (.int dl), .val (.int (2 : Int32)), .val (.int a), .val (.ref dt), .val (.ref b79), .val (.int (nar .boolean (own_mt xs a [nar .byte z85, nar .byte z91]))), .unset, .unset] []
        refine w_iconst ok at_137 (v := (1 : Int32)) rfl ?_
        show W K l _ n0 _ h92 2 7 138 #[.val (.long dd), .second, .val (.long qq), .second, .val (.int at'), .val (.int sh), .val (.int pk), .val (.int dl), .val (.int (2 : Int32)), .val (.int a), .val (.ref dt), .val (.ref b79), .val (.int (nar .boolean (own_mt xs a [nar .byte z85, nar .byte z91]))), .unset, .unset] [(.int (1 : Int32))]
        refine w_goto ok at_138 (pc' := 142) (by decide) ?_
        show W K l _ n0 _ h92 2 7 142 #[.val (.long dd), .second, .val (.long qq), .second, .val (.int at'), .val (.int sh), .val (.int pk), .val (.int dl), .val (.int (2 : Int32)), .val (.int a), .val (.ref dt), .val (.ref b79), .val (.int (nar .boolean (own_mt xs a [nar .byte z85, nar .byte z91]))), .unset, .unset] [(.int (1 : Int32))]
        refine w_istore ok at_142 (L' := #[.val (.long dd), .second, .val (.long qq), .second, .val (.int at'), .val (.int sh), .val (.int pk), .val (.int dl), .val (.int (2 : Int32)), .val (.int a), .val (.ref dt), .val (.ref b79), .val (.int (nar .boolean (own_mt xs a [nar .byte z85, nar .byte z91]))), .val (.int (1 : Int32)), .unset]) rfl ?_
        show W K l _ n0 _ h92 2 7 144 #[.val (.long dd), .second, .val (.long qq), .second, .val (.int at'), .val (.int sh), .val (.int pk), .val (.int dl), .val (.int (2 : Int32)), .val (.int a), .val (.ref dt), .val (.ref b79), .val (.int (nar .boolean (own_mt xs a [nar .byte z85, nar .byte z91]))), .val (.int (1 : Int32)), .unset] []
        refine w_iload ok at_144 rfl ?_
        show W K l _ n0 _ h92 2 7 146 #[.val (.long dd), .second, .val (.long qq), .second, .val (.int at'), .val (.int sh), .val (.int pk), .val (.int dl), .val (.int (2 : Int32)), .val (.int a), .val (.ref dt), .val (.ref b79), .val (.int (nar .boolean (own_mt xs a [nar .byte z85, nar .byte z91]))), .val (.int (1 : Int32)), .unset] [(.int (1 : Int32))]
        refine w_if_eq ok at_146 (pc' := 211) (by decide) (fun hc110 => False.elim (by revert hc110; decide)) (fun hc110 => ?_)
        show W K l _ n0 _ h92 2 7 149 #[.val (.long dd), .second, .val (.long qq), .second, .val (.int at'), .val (.int sh), .val (.int pk), .val (.int dl), .val (.int (2 : Int32)), .val (.int a), .val (.ref dt), .val (.ref b79), .val (.int (nar .boolean (own_mt xs a [nar .byte z85, nar .byte z91]))), .val (.int (1 : Int32)), .unset] []
        refine w_iload ok at_149 rfl ?_
        show W K l _ n0 _ h92 2 7 151 #[.val (.long dd), .second, .val (.long qq), .second, .val (.int at'), .val (.int sh), .val (.int pk), .val (.int dl), .val (.int (2 : Int32)), .val (.int a), .val (.ref dt), .val (.ref b79), .val (.int (nar .boolean (own_mt xs a [nar .byte z85, nar .byte z91]))), .val (.int (1 : Int32)), .unset] [(.int (2 : Int32))]
        refine w_iconst ok at_151 (v := (1 : Int32)) rfl ?_
        show W K l _ n0 _ h92 2 7 152 #[.val (.long dd), .second, .val (.long qq), .second, .val (.int at'), .val (.int sh), .val (.int pk), .val (.int dl), .val (.int (2 : Int32)), .val (.int a), .val (.ref dt), .val (.ref b79), .val (.int (nar .boolean (own_mt xs a [nar .byte z85, nar .byte z91]))), .val (.int (1 : Int32)), .unset] [(.int (1 : Int32)), (.int (2 : Int32))]
        refine w_icmp_lt ok at_152 (pc' := 167) (by decide) (fun hc112 => False.elim (by revert hc112; decide)) (fun hc112 => ?_)
        show W K l _ n0 _ h92 2 7 155 #[.val (.long dd), .second, .val (.long qq), .second, .val (.int at'), .val (.int sh), .val (.int pk), .val (.int dl), .val (.int (2 : Int32)), .val (.int a), .val (.ref dt), .val (.ref b79), .val (.int (nar .boolean (own_mt xs a [nar .byte z85, nar .byte z91]))), .val (.int (1 : Int32)), .unset] []
        refine w_aload ok at_155 rfl rfl ?_
        show W K l _ n0 _ h92 2 7 157 #[.val (.long dd), .second, .val (.long qq), .second, .val (.int at'), .val (.int sh), .val (.int pk), .val (.int dl), .val (.int (2 : Int32)), .val (.int a), .val (.ref dt), .val (.ref b79), .val (.int (nar .boolean (own_mt xs a [nar .byte z85, nar .byte z91]))), .val (.int (1 : Int32)), .unset] [(.ref dt)]
        refine w_iload ok at_157 rfl ?_
        show W K l _ n0 _ h92 2 7 159 #[.val (.long dd), .second, .val (.long qq), .second, .val (.int at'), .val (.int sh), .val (.int pk), .val (.int dl), .val (.int (2 : Int32)), .val (.int a), .val (.ref dt), .val (.ref b79), .val (.int (nar .boolean (own_mt xs a [nar .byte z85, nar .byte z91]))), .val (.int (1 : Int32)), .unset] [(.int a), (.ref dt)]
        have hA : 0 ≤ a.toInt := by have q := hc98; simp only [Int32.lt_iff_toInt_lt, Int32.reduceToInt] at q; omega
        have hB : a.toInt ≤ dl.toInt - 2 := by have q := hc104; simp only [Int32.lt_iff_toInt_lt, es] at q; omega
        have ei0 : a.toInt = ((a.toNatClampNeg + 0 : Nat) : Int) := own_ix0 (by omega)
        obtain ⟨x0, hx0⟩ := own_ex (xs := xs) (i := a.toNatClampNeg + 0) (by omega)
        refine w_baload ok (v := (.int x0)) at_159 A_dt (own_nn ei0) (by rw [own_clamp ei0]; exact own_rd hx0) ?_
        show W K l _ n0 _ h92 2 7 160 #[.val (.long dd), .second, .val (.long qq), .second, .val (.int at'), .val (.int sh), .val (.int pk), .val (.int dl), .val (.int (2 : Int32)), .val (.int a), .val (.ref dt), .val (.ref b79), .val (.int (nar .boolean (own_mt xs a [nar .byte z85, nar .byte z91]))), .val (.int (1 : Int32)), .unset] [(.int x0)]
        refine w_aload ok at_160 rfl rfl ?_
        show W K l _ n0 _ h92 2 7 162 #[.val (.long dd), .second, .val (.long qq), .second, .val (.int at'), .val (.int sh), .val (.int pk), .val (.int dl), .val (.int (2 : Int32)), .val (.int a), .val (.ref dt), .val (.ref b79), .val (.int (nar .boolean (own_mt xs a [nar .byte z85, nar .byte z91]))), .val (.int (1 : Int32)), .unset] [(.ref b79), (.int x0)]
        refine w_iconst ok at_162 (v := (0 : Int32)) rfl ?_
        show W K l _ n0 _ h92 2 7 163 #[.val (.long dd), .second, .val (.long qq), .second, .val (.int at'), .val (.int sh), .val (.int pk), .val (.int dl), .val (.int (2 : Int32)), .val (.int a), .val (.ref dt), .val (.ref b79), .val (.int (nar .boolean (own_mt xs a [nar .byte z85, nar .byte z91]))), .val (.int (1 : Int32)), .unset] [(.int (0 : Int32)), (.ref b79), (.int x0)]
        refine w_baload ok (v := (.int (nar .byte z85))) at_163 A_b79 (by decide) rfl ?_
        show W K l _ n0 _ h92 2 7 164 #[.val (.long dd), .second, .val (.long qq), .second, .val (.int at'), .val (.int sh), .val (.int pk), .val (.int dl), .val (.int (2 : Int32)), .val (.int a), .val (.ref dt), .val (.ref b79), .val (.int (nar .boolean (own_mt xs a [nar .byte z85, nar .byte z91]))), .val (.int (1 : Int32)), .unset] [(.int (nar .byte z85)), (.int x0)]
        refine w_icmp_ne ok at_164 (pc' := 211) (by decide) (fun hc114 => ?_) (fun hc114 => ?_)
        · show W K l _ n0 _ h92 2 7 211 #[.val (.long dd), .second, .val (.long qq), .second, .val (.int at'), .val (.int sh), .val (.int pk), .val (.int dl), .val (.int (2 : Int32)), .val (.int a), .val (.ref dt), .val (.ref b79), .val (.int (nar .boolean (own_mt xs a [nar .byte z85, nar .byte z91]))), .val (.int (1 : Int32)), .unset] []
          refine w_iconst ok at_211 (v := (0 : Int32)) rfl ?_
          show W K l _ n0 _ h92 2 7 212 #[.val (.long dd), .second, .val (.long qq), .second, .val (.int at'), .val (.int sh), .val (.int pk), .val (.int dl), .val (.int (2 : Int32)), .val (.int a), .val (.ref dt), .val (.ref b79), .val (.int (nar .boolean (own_mt xs a [nar .byte z85, nar .byte z91]))), .val (.int (1 : Int32)), .unset] [(.int (0 : Int32))]
          refine w_istore ok at_212 (L' := #[.val (.long dd), .second, .val (.long qq), .second, .val (.int at'), .val (.int sh), .val (.int pk), .val (.int dl), .val (.int (2 : Int32)), .val (.int a), .val (.ref dt), .val (.ref b79), .val (.int (nar .boolean (own_mt xs a [nar .byte z85, nar .byte z91]))), .val (.int (1 : Int32)), .val (.int (0 : Int32))]) rfl ?_
          show W K l _ n0 _ h92 2 7 214 #[.val (.long dd), .second, .val (.long qq), .second, .val (.int at'), .val (.int sh), .val (.int pk), .val (.int dl), .val (.int (2 : Int32)), .val (.int a), .val (.ref dt), .val (.ref b79), .val (.int (nar .boolean (own_mt xs a [nar .byte z85, nar .byte z91]))), .val (.int (1 : Int32)), .val (.int (0 : Int32))] []
          refine w_iload ok at_214 rfl ?_
          show W K l _ n0 _ h92 2 7 216 #[.val (.long dd), .second, .val (.long qq), .second, .val (.int at'), .val (.int sh), .val (.int pk), .val (.int dl), .val (.int (2 : Int32)), .val (.int a), .val (.ref dt), .val (.ref b79), .val (.int (nar .boolean (own_mt xs a [nar .byte z85, nar .byte z91]))), .val (.int (1 : Int32)), .val (.int (0 : Int32))] [(.int (nar .boolean (own_mt xs a [nar .byte z85, nar .byte z91])))]
          refine w_iload ok at_216 rfl ?_
          show W K l _ n0 _ h92 2 7 218 #[.val (.long dd), .second, .val (.long qq), .second, .val (.int at'), .val (.int sh), .val (.int pk), .val (.int dl), .val (.int (2 : Int32)), .val (.int a), .val (.ref dt), .val (.ref b79), .val (.int (nar .boolean (own_mt xs a [nar .byte z85, nar .byte z91]))), .val (.int (1 : Int32)), .val (.int (0 : Int32))] [(.int (0 : Int32)), (.int (nar .boolean (own_mt xs a [nar .byte z85, nar .byte z91])))]
          refine w_icmp_ne ok at_218 (pc' := 225) (by decide) (fun hc116 => False.elim (by exact hc116 (by simp only [Int32.lt_iff_toInt_lt, es, Int32.reduceToInt] at hc98 hc104; rw [own_mt, if_neg (by show ¬ (_ ∨ _ < _ + (2 : Int)); omega)]; rw [own_pre_cons (n := a.toNatClampNeg) hx0, if_neg hc114] <;> rfl))) (fun hc116 => ?_)
          show W K l _ n0 _ h92 2 7 221 #[.val (.long dd), .second, .val (.long qq), .second, .val (.int at'), .val (.int sh), .val (.int pk), .val (.int dl), .val (.int (2 : Int32)), .val (.int a), .val (.ref dt), .val (.ref b79), .val (.int (nar .boolean (own_mt xs a [nar .byte z85, nar .byte z91]))), .val (.int (1 : Int32)), .val (.int (0 : Int32))] []
          refine w_iconst ok at_221 (v := (1 : Int32)) rfl ?_
          show W K l _ n0 _ h92 2 7 222 #[.val (.long dd), .second, .val (.long qq), .second, .val (.int at'), .val (.int sh), .val (.int pk), .val (.int dl), .val (.int (2 : Int32)), .val (.int a), .val (.ref dt), .val (.ref b79), .val (.int (nar .boolean (own_mt xs a [nar .byte z85, nar .byte z91]))), .val (.int (1 : Int32)), .val (.int (0 : Int32))] [(.int (1 : Int32))]
          refine w_goto ok at_222 (pc' := 226) (by decide) ?_
          show W K l _ n0 _ h92 2 7 226 #[.val (.long dd), .second, .val (.long qq), .second, .val (.int at'), .val (.int sh), .val (.int pk), .val (.int dl), .val (.int (2 : Int32)), .val (.int a), .val (.ref dt), .val (.ref b79), .val (.int (nar .boolean (own_mt xs a [nar .byte z85, nar .byte z91]))), .val (.int (1 : Int32)), .val (.int (0 : Int32))] [(.int (1 : Int32))]
          refine w_bret ok (by simp) at_226 (by decide) (by decide) ?_
          exact rfl
        · show W K l _ n0 _ h92 2 7 167 #[.val (.long dd), .second, .val (.long qq), .second, .val (.int at'), .val (.int sh), .val (.int pk), .val (.int dl), .val (.int (2 : Int32)), .val (.int a), .val (.ref dt), .val (.ref b79), .val (.int (nar .boolean (own_mt xs a [nar .byte z85, nar .byte z91]))), .val (.int (1 : Int32)), .unset] []
          refine w_iload ok at_167 rfl ?_
          show W K l _ n0 _ h92 2 7 169 #[.val (.long dd), .second, .val (.long qq), .second, .val (.int at'), .val (.int sh), .val (.int pk), .val (.int dl), .val (.int (2 : Int32)), .val (.int a), .val (.ref dt), .val (.ref b79), .val (.int (nar .boolean (own_mt xs a [nar .byte z85, nar .byte z91]))), .val (.int (1 : Int32)), .unset] [(.int (2 : Int32))]
          refine w_iconst ok at_169 (v := (2 : Int32)) rfl ?_
          show W K l _ n0 _ h92 2 7 170 #[.val (.long dd), .second, .val (.long qq), .second, .val (.int at'), .val (.int sh), .val (.int pk), .val (.int dl), .val (.int (2 : Int32)), .val (.int a), .val (.ref dt), .val (.ref b79), .val (.int (nar .boolean (own_mt xs a [nar .byte z85, nar .byte z91]))), .val (.int (1 : Int32)), .unset] [(.int (2 : Int32)), (.int (2 : Int32))]
          refine w_icmp_lt ok at_170 (pc' := 187) (by decide) (fun hc118 => False.elim (by revert hc118; decide)) (fun hc118 => ?_)
          show W K l _ n0 _ h92 2 7 173 #[.val (.long dd), .second, .val (.long qq), .second, .val (.int at'), .val (.int sh), .val (.int pk), .val (.int dl), .val (.int (2 : Int32)), .val (.int a), .val (.ref dt), .val (.ref b79), .val (.int (nar .boolean (own_mt xs a [nar .byte z85, nar .byte z91]))), .val (.int (1 : Int32)), .unset] []
          refine w_aload ok at_173 rfl rfl ?_
          show W K l _ n0 _ h92 2 7 175 #[.val (.long dd), .second, .val (.long qq), .second, .val (.int at'), .val (.int sh), .val (.int pk), .val (.int dl), .val (.int (2 : Int32)), .val (.int a), .val (.ref dt), .val (.ref b79), .val (.int (nar .boolean (own_mt xs a [nar .byte z85, nar .byte z91]))), .val (.int (1 : Int32)), .unset] [(.ref dt)]
          refine w_iload ok at_175 rfl ?_
          show W K l _ n0 _ h92 2 7 177 #[.val (.long dd), .second, .val (.long qq), .second, .val (.int at'), .val (.int sh), .val (.int pk), .val (.int dl), .val (.int (2 : Int32)), .val (.int a), .val (.ref dt), .val (.ref b79), .val (.int (nar .boolean (own_mt xs a [nar .byte z85, nar .byte z91]))), .val (.int (1 : Int32)), .unset] [(.int a), (.ref dt)]
          refine w_iconst ok at_177 (v := (1 : Int32)) rfl ?_
          show W K l _ n0 _ h92 2 7 178 #[.val (.long dd), .second, .val (.long qq), .second, .val (.int at'), .val (.int sh), .val (.int pk), .val (.int dl), .val (.int (2 : Int32)), .val (.int a), .val (.ref dt), .val (.ref b79), .val (.int (nar .boolean (own_mt xs a [nar .byte z85, nar .byte z91]))), .val (.int (1 : Int32)), .unset] [(.int (1 : Int32)), (.int a), (.ref dt)]
          refine w_iadd ok at_178 ?_
          show W K l _ n0 _ h92 2 7 179 #[.val (.long dd), .second, .val (.long qq), .second, .val (.int at'), .val (.int sh), .val (.int pk), .val (.int dl), .val (.int (2 : Int32)), .val (.int a), .val (.ref dt), .val (.ref b79), .val (.int (nar .boolean (own_mt xs a [nar .byte z85, nar .byte z91]))), .val (.int (1 : Int32)), .unset] [(.int (a + (1 : Int32))), (.ref dt)]
          have ei1 : (a + (1 : Int32)).toInt = ((a.toNatClampNeg + 1 : Nat) : Int) := own_ix 1 (by decide) (by omega) (by omega)
          obtain ⟨x1, hx1⟩ := own_ex (xs := xs) (i := a.toNatClampNeg + 1) (by omega)
          refine w_baload ok (v := (.int x1)) at_179 A_dt (own_nn ei1) (by rw [own_clamp ei1]; exact own_rd hx1) ?_
          show W K l _ n0 _ h92 2 7 180 #[.val (.long dd), .second, .val (.long qq), .second, .val (.int at'), .val (.int sh), .val (.int pk), .val (.int dl), .val (.int (2 : Int32)), .val (.int a), .val (.ref dt), .val (.ref b79), .val (.int (nar .boolean (own_mt xs a [nar .byte z85, nar .byte z91]))), .val (.int (1 : Int32)), .unset] [(.int x1)]
          refine w_aload ok at_180 rfl rfl ?_
          show W K l _ n0 _ h92 2 7 182 #[.val (.long dd), .second, .val (.long qq), .second, .val (.int at'), .val (.int sh), .val (.int pk), .val (.int dl), .val (.int (2 : Int32)), .val (.int a), .val (.ref dt), .val (.ref b79), .val (.int (nar .boolean (own_mt xs a [nar .byte z85, nar .byte z91]))), .val (.int (1 : Int32)), .unset] [(.ref b79), (.int x1)]
          refine w_iconst ok at_182 (v := (1 : Int32)) rfl ?_
          show W K l _ n0 _ h92 2 7 183 #[.val (.long dd), .second, .val (.long qq), .second, .val (.int at'), .val (.int sh), .val (.int pk), .val (.int dl), .val (.int (2 : Int32)), .val (.int a), .val (.ref dt), .val (.ref b79), .val (.int (nar .boolean (own_mt xs a [nar .byte z85, nar .byte z91]))), .val (.int (1 : Int32)), .unset] [(.int (1 : Int32)), (.ref b79), (.int x1)]
          refine w_baload ok (v := (.int (nar .byte z91))) at_183 A_b79 (by decide) rfl ?_
          show W K l _ n0 _ h92 2 7 184 #[.val (.long dd), .second, .val (.long qq), .second, .val (.int at'), .val (.int sh), .val (.int pk), .val (.int dl), .val (.int (2 : Int32)), .val (.int a), .val (.ref dt), .val (.ref b79), .val (.int (nar .boolean (own_mt xs a [nar .byte z85, nar .byte z91]))), .val (.int (1 : Int32)), .unset] [(.int (nar .byte z91)), (.int x1)]
          refine w_icmp_ne ok at_184 (pc' := 211) (by decide) (fun hc120 => ?_) (fun hc120 => ?_)
          · show W K l _ n0 _ h92 2 7 211 #[.val (.long dd), .second, .val (.long qq), .second, .val (.int at'), .val (.int sh), .val (.int pk), .val (.int dl), .val (.int (2 : Int32)), .val (.int a), .val (.ref dt), .val (.ref b79), .val (.int (nar .boolean (own_mt xs a [nar .byte z85, nar .byte z91]))), .val (.int (1 : Int32)), .unset] []
            refine w_iconst ok at_211 (v := (0 : Int32)) rfl ?_
            show W K l _ n0 _ h92 2 7 212 #[.val (.long dd), .second, .val (.long qq), .second, .val (.int at'), .val (.int sh), .val (.int pk), .val (.int dl), .val (.int (2 : Int32)), .val (.int a), .val (.ref dt), .val (.ref b79), .val (.int (nar .boolean (own_mt xs a [nar .byte z85, nar .byte z91]))), .val (.int (1 : Int32)), .unset] [(.int (0 : Int32))]
            refine w_istore ok at_212 (L' := #[.val (.long dd), .second, .val (.long qq), .second, .val (.int at'), .val (.int sh), .val (.int pk), .val (.int dl), .val (.int (2 : Int32)), .val (.int a), .val (.ref dt), .val (.ref b79), .val (.int (nar .boolean (own_mt xs a [nar .byte z85, nar .byte z91]))), .val (.int (1 : Int32)), .val (.int (0 : Int32))]) rfl ?_
            show W K l _ n0 _ h92 2 7 214 #[.val (.long dd), .second, .val (.long qq), .second, .val (.int at'), .val (.int sh), .val (.int pk), .val (.int dl), .val (.int (2 : Int32)), .val (.int a), .val (.ref dt), .val (.ref b79), .val (.int (nar .boolean (own_mt xs a [nar .byte z85, nar .byte z91]))), .val (.int (1 : Int32)), .val (.int (0 : Int32))] []
            refine w_iload ok at_214 rfl ?_
            show W K l _ n0 _ h92 2 7 216 #[.val (.long dd), .second, .val (.long qq), .second, .val (.int at'), .val (.int sh), .val (.int pk), .val (.int dl), .val (.int (2 : Int32)), .val (.int a), .val (.ref dt), .val (.ref b79), .val (.int (nar .boolean (own_mt xs a [nar .byte z85, nar .byte z91]))), .val (.int (1 : Int32)), .val (.int (0 : Int32))] [(.int (nar .boolean (own_mt xs a [nar .byte z85, nar .byte z91])))]
            refine w_iload ok at_216 rfl ?_
            show W K l _ n0 _ h92 2 7 218 #[.val (.long dd), .second, .val (.long qq), .second, .val (.int at'), .val (.int sh), .val (.int pk), .val (.int dl), .val (.int (2 : Int32)), .val (.int a), .val (.ref dt), .val (.ref b79), .val (.int (nar .boolean (own_mt xs a [nar .byte z85, nar .byte z91]))), .val (.int (1 : Int32)), .val (.int (0 : Int32))] [(.int (0 : Int32)), (.int (nar .boolean (own_mt xs a [nar .byte z85, nar .byte z91])))]
            refine w_icmp_ne ok at_218 (pc' := 225) (by decide) (fun hc122 => False.elim (by exact hc122 (by simp only [Int32.lt_iff_toInt_lt, es, Int32.reduceToInt] at hc98 hc104; rw [own_mt, if_neg (by show ¬ (_ ∨ _ < _ + (2 : Int)); omega)]; rw [own_pre_cons (n := a.toNatClampNeg) hx0, if_pos hc114]; rw [own_pre_cons (n := a.toNatClampNeg + 1) hx1, if_neg hc120] <;> rfl))) (fun hc122 => ?_)
            show W K l _ n0 _ h92 2 7 221 #[.val (.long dd), .second, .val (.long qq), .second, .val (.int at'), .val (.int sh), .val (.int pk), .val (.int dl), .val (.int (2 : Int32)), .val (.int a), .val (.ref dt), .val (.ref b79), .val (.int (nar .boolean (own_mt xs a [nar .byte z85, nar .byte z91]))), .val (.int (1 : Int32)), .val (.int (0 : Int32))] []
            refine w_iconst ok at_221 (v := (1 : Int32)) rfl ?_
            show W K l _ n0 _ h92 2 7 222 #[.val (.long dd), .second, .val (.long qq), .second, .val (.int at'), .val (.int sh), .val (.int pk), .val (.int dl), .val (.int (2 : Int32)), .val (.int a), .val (.ref dt), .val (.ref b79), .val (.int (nar .boolean (own_mt xs a [nar .byte z85, nar .byte z91]))), .val (.int (1 : Int32)), .val (.int (0 : Int32))] [(.int (1 : Int32))]
            refine w_goto ok at_222 (pc' := 226) (by decide) ?_
            show W K l _ n0 _ h92 2 7 226 #[.val (.long dd), .second, .val (.long qq), .second, .val (.int at'), .val (.int sh), .val (.int pk), .val (.int dl), .val (.int (2 : Int32)), .val (.int a), .val (.ref dt), .val (.ref b79), .val (.int (nar .boolean (own_mt xs a [nar .byte z85, nar .byte z91]))), .val (.int (1 : Int32)), .val (.int (0 : Int32))] [(.int (1 : Int32))]
            refine w_bret ok (by simp) at_226 (by decide) (by decide) ?_
            exact rfl
          · show W K l _ n0 _ h92 2 7 187 #[.val (.long dd), .second, .val (.long qq), .second, .val (.int at'), .val (.int sh), .val (.int pk), .val (.int dl), .val (.int (2 : Int32)), .val (.int a), .val (.ref dt), .val (.ref b79), .val (.int (nar .boolean (own_mt xs a [nar .byte z85, nar .byte z91]))), .val (.int (1 : Int32)), .unset] []
            refine w_iload ok at_187 rfl ?_
            show W K l _ n0 _ h92 2 7 189 #[.val (.long dd), .second, .val (.long qq), .second, .val (.int at'), .val (.int sh), .val (.int pk), .val (.int dl), .val (.int (2 : Int32)), .val (.int a), .val (.ref dt), .val (.ref b79), .val (.int (nar .boolean (own_mt xs a [nar .byte z85, nar .byte z91]))), .val (.int (1 : Int32)), .unset] [(.int (2 : Int32))]
            refine w_iconst ok at_189 (v := (3 : Int32)) rfl ?_
            show W K l _ n0 _ h92 2 7 190 #[.val (.long dd), .second, .val (.long qq), .second, .val (.int at'), .val (.int sh), .val (.int pk), .val (.int dl), .val (.int (2 : Int32)), .val (.int a), .val (.ref dt), .val (.ref b79), .val (.int (nar .boolean (own_mt xs a [nar .byte z85, nar .byte z91]))), .val (.int (1 : Int32)), .unset] [(.int (3 : Int32)), (.int (2 : Int32))]
            refine w_icmp_lt ok at_190 (pc' := 207) (by decide) (fun hc124 => ?_) (fun hc124 => False.elim (by revert hc124; decide))
            show W K l _ n0 _ h92 2 7 207 #[.val (.long dd), .second, .val (.long qq), .second, .val (.int at'), .val (.int sh), .val (.int pk), .val (.int dl), .val (.int (2 : Int32)), .val (.int a), .val (.ref dt), .val (.ref b79), .val (.int (nar .boolean (own_mt xs a [nar .byte z85, nar .byte z91]))), .val (.int (1 : Int32)), .unset] []
            refine w_iconst ok at_207 (v := (1 : Int32)) rfl ?_
            show W K l _ n0 _ h92 2 7 208 #[.val (.long dd), .second, .val (.long qq), .second, .val (.int at'), .val (.int sh), .val (.int pk), .val (.int dl), .val (.int (2 : Int32)), .val (.int a), .val (.ref dt), .val (.ref b79), .val (.int (nar .boolean (own_mt xs a [nar .byte z85, nar .byte z91]))), .val (.int (1 : Int32)), .unset] [(.int (1 : Int32))]
            refine w_goto ok at_208 (pc' := 212) (by decide) ?_
            show W K l _ n0 _ h92 2 7 212 #[.val (.long dd), .second, .val (.long qq), .second, .val (.int at'), .val (.int sh), .val (.int pk), .val (.int dl), .val (.int (2 : Int32)), .val (.int a), .val (.ref dt), .val (.ref b79), .val (.int (nar .boolean (own_mt xs a [nar .byte z85, nar .byte z91]))), .val (.int (1 : Int32)), .unset] [(.int (1 : Int32))]
            refine w_istore ok at_212 (L' := #[.val (.long dd), .second, .val (.long qq), .second, .val (.int at'), .val (.int sh), .val (.int pk), .val (.int dl), .val (.int (2 : Int32)), .val (.int a), .val (.ref dt), .val (.ref b79), .val (.int (nar .boolean (own_mt xs a [nar .byte z85, nar .byte z91]))), .val (.int (1 : Int32)), .val (.int (1 : Int32))]) rfl ?_
            show W K l _ n0 _ h92 2 7 214 #[.val (.long dd), .second, .val (.long qq), .second, .val (.int at'), .val (.int sh), .val (.int pk), .val (.int dl), .val (.int (2 : Int32)), .val (.int a), .val (.ref dt), .val (.ref b79), .val (.int (nar .boolean (own_mt xs a [nar .byte z85, nar .byte z91]))), .val (.int (1 : Int32)), .val (.int (1 : Int32))] []
            refine w_iload ok at_214 rfl ?_
            show W K l _ n0 _ h92 2 7 216 #[.val (.long dd), .second, .val (.long qq), .second, .val (.int at'), .val (.int sh), .val (.int pk), .val (.int dl), .val (.int (2 : Int32)), .val (.int a), .val (.ref dt), .val (.ref b79), .val (.int (nar .boolean (own_mt xs a [nar .byte z85, nar .byte z91]))), .val (.int (1 : Int32)), .val (.int (1 : Int32))] [(.int (nar .boolean (own_mt xs a [nar .byte z85, nar .byte z91])))]
            refine w_iload ok at_216 rfl ?_
            show W K l _ n0 _ h92 2 7 218 #[.val (.long dd), .second, .val (.long qq), .second, .val (.int at'), .val (.int sh), .val (.int pk), .val (.int dl), .val (.int (2 : Int32)), .val (.int a), .val (.ref dt), .val (.ref b79), .val (.int (nar .boolean (own_mt xs a [nar .byte z85, nar .byte z91]))), .val (.int (1 : Int32)), .val (.int (1 : Int32))] [(.int (1 : Int32)), (.int (nar .boolean (own_mt xs a [nar .byte z85, nar .byte z91])))]
            refine w_icmp_ne ok at_218 (pc' := 225) (by decide) (fun hc126 => False.elim (by exact hc126 (by simp only [Int32.lt_iff_toInt_lt, es, Int32.reduceToInt] at hc98 hc104; rw [own_mt, if_neg (by show ¬ (_ ∨ _ < _ + (2 : Int)); omega)]; rw [own_pre_cons (n := a.toNatClampNeg) hx0, if_pos hc114]; rw [own_pre_cons (n := a.toNatClampNeg + 1) hx1, if_pos hc120]; rw [own_pre_nil] <;> rfl))) (fun hc126 => ?_)
            show W K l _ n0 _ h92 2 7 221 #[.val (.long dd), .second, .val (.long qq), .second, .val (.int at'), .val (.int sh), .val (.int pk), .val (.int dl), .val (.int (2 : Int32)), .val (.int a), .val (.ref dt), .val (.ref b79), .val (.int (nar .boolean (own_mt xs a [nar .byte z85, nar .byte z91]))), .val (.int (1 : Int32)), .val (.int (1 : Int32))] []
            refine w_iconst ok at_221 (v := (1 : Int32)) rfl ?_
            show W K l _ n0 _ h92 2 7 222 #[.val (.long dd), .second, .val (.long qq), .second, .val (.int at'), .val (.int sh), .val (.int pk), .val (.int dl), .val (.int (2 : Int32)), .val (.int a), .val (.ref dt), .val (.ref b79), .val (.int (nar .boolean (own_mt xs a [nar .byte z85, nar .byte z91]))), .val (.int (1 : Int32)), .val (.int (1 : Int32))] [(.int (1 : Int32))]
            refine w_goto ok at_222 (pc' := 226) (by decide) ?_
            show W K l _ n0 _ h92 2 7 226 #[.val (.long dd), .second, .val (.long qq), .second, .val (.int at'), .val (.int sh), .val (.int pk), .val (.int dl), .val (.int (2 : Int32)), .val (.int a), .val (.ref dt), .val (.ref b79), .val (.int (nar .boolean (own_mt xs a [nar .byte z85, nar .byte z91]))), .val (.int (1 : Int32)), .val (.int (1 : Int32))] [(.int (1 : Int32))]
            refine w_bret ok (by simp) at_226 (by decide) (by decide) ?_
            exact rfl
  · skip
    show W K l _ n0 _ h0 0 0 35 #[.val (.long dd), .second, .val (.long qq), .second, .val (.int at'), .val (.int sh), .val (.int pk), .val (.int dl), .val (.int (3 : Int32)), .val (.int a), .unset, .unset, .unset, .unset, .unset] []
    refine w_lloadN ok at_35 rfl ?_
    show W K l _ n0 _ h0 0 0 36 #[.val (.long dd), .second, .val (.long qq), .second, .val (.int at'), .val (.int sh), .val (.int pk), .val (.int dl), .val (.int (3 : Int32)), .val (.int a), .unset, .unset, .unset, .unset, .unset] [(.long dd)]
    refine w_iload ok at_36 rfl ?_
    show W K l _ n0 _ h0 0 0 38 #[.val (.long dd), .second, .val (.long qq), .second, .val (.int at'), .val (.int sh), .val (.int pk), .val (.int dl), .val (.int (3 : Int32)), .val (.int a), .unset, .unset, .unset, .unset, .unset] [(.int dl), (.long dd)]
    refine w_callS ok (y := (⟨"com/example/nakami/nakami/pdf/BytesMatchesPinLaw", "makeData", "(JI)[B"⟩ : MethodName)) (argsL := [(.long dd), (.int dl)]) (rest := []) at_38 (hw _ (List.mem_of_getElem? (i := 0) rfl)) (hw _ (List.mem_of_getElem? (i := 1) rfl)) (hw _ (List.mem_of_getElem? (i := 2) rfl)) (hw _ (List.mem_of_getElem? (i := 3) rfl)) (by decide) pd_28JI295bB rfl rfl (by decide) (Nat.le_of_ble_eq_true rfl) (by decide) (by decide) (fun z0 => rm_make l Z a0 hw [] n0 h0 z0 dd dl hdl) (fun v127 h128 qv127 => ?_)
    obtain ⟨dt, xs, rfl, sz_dt, ge_dt, K1, A_dt, hxs⟩ := qv127
    show W K l _ n0 _ h128 1 5 41 #[.val (.long dd), .second, .val (.long qq), .second, .val (.int at'), .val (.int sh), .val (.int pk), .val (.int dl), .val (.int (3 : Int32)), .val (.int a), .unset, .unset, .unset, .unset, .unset] [(.ref dt)]
    refine w_astore ok at_41 rfl (L' := #[.val (.long dd), .second, .val (.long qq), .second, .val (.int at'), .val (.int sh), .val (.int pk), .val (.int dl), .val (.int (3 : Int32)), .val (.int a), .val (.ref dt), .unset, .unset, .unset, .unset]) rfl ?_
    show W K l _ n0 _ h128 1 5 43 #[.val (.long dd), .second, .val (.long qq), .second, .val (.int at'), .val (.int sh), .val (.int pk), .val (.int dl), .val (.int (3 : Int32)), .val (.int a), .val (.ref dt), .unset, .unset, .unset, .unset] []
    refine w_iload ok at_43 rfl ?_
    show W K l _ n0 _ h128 1 5 45 #[.val (.long dd), .second, .val (.long qq), .second, .val (.int at'), .val (.int sh), .val (.int pk), .val (.int dl), .val (.int (3 : Int32)), .val (.int a), .val (.ref dt), .unset, .unset, .unset, .unset] [(.int (3 : Int32))]
    refine w_newarray ok at_45 (hw _ (List.mem_of_getElem? (i := 4) rfl)) (by decide) (cap := 3) (by decide) (by decide) (by decide) (by decide) (fun h130 b129 ea_b129 ge_b129 E_b129 A_b129 => ?_)
    have ne_dt_b129 : dt ≠ b129 := fun q => Nat.lt_irrefl _ (Nat.lt_of_lt_of_eq A_dt.lt (ea_b129.symm.trans q.symm))
    replace A_dt := A_dt.ext E_b129
    replace A_b129 : PA .byte Z h130 b129 [(.int (0 : Int32)), (.int (0 : Int32)), (.int (0 : Int32))] := A_b129
    show W K l _ n0 _ h130 2 8 47 #[.val (.long dd), .second, .val (.long qq), .second, .val (.int at'), .val (.int sh), .val (.int pk), .val (.int dl), .val (.int (3 : Int32)), .val (.int a), .val (.ref dt), .unset, .unset, .unset, .unset] [(.ref b129)]
    refine w_astore ok at_47 rfl (L' := #[.val (.long dd), .second, .val (.long qq), .second, .val (.int at'), .val (.int sh), .val (.int pk), .val (.int dl), .val (.int (3 : Int32)), .val (.int a), .val (.ref dt), .val (.ref b129), .unset, .unset, .unset]) rfl ?_
    show W K l _ n0 _ h130 2 8 49 #[.val (.long dd), .second, .val (.long qq), .second, .val (.int at'), .val (.int sh), .val (.int pk), .val (.int dl), .val (.int (3 : Int32)), .val (.int a), .val (.ref dt), .val (.ref b129), .unset, .unset, .unset] []
    refine w_iload ok at_49 rfl ?_
    show W K l _ n0 _ h130 2 8 51 #[.val (.long dd), .second, .val (.long qq), .second, .val (.int at'), .val (.int sh), .val (.int pk), .val (.int dl), .val (.int (3 : Int32)), .val (.int a), .val (.ref dt), .val (.ref b129), .unset, .unset, .unset] [(.int (3 : Int32))]
    refine w_if_le ok at_51 (pc' := 69) (by decide) (fun hc132 => False.elim (by revert hc132; decide)) (fun hc132 => ?_)
    show W K l _ n0 _ h130 2 8 54 #[.val (.long dd), .second, .val (.long qq), .second, .val (.int at'), .val (.int sh), .val (.int pk), .val (.int dl), .val (.int (3 : Int32)), .val (.int a), .val (.ref dt), .val (.ref b129), .unset, .unset, .unset] []
    refine w_aload ok at_54 rfl rfl ?_
    show W K l _ n0 _ h130 2 8 56 #[.val (.long dd), .second, .val (.long qq), .second, .val (.int at'), .val (.int sh), .val (.int pk), .val (.int dl), .val (.int (3 : Int32)), .val (.int a), .val (.ref dt), .val (.ref b129), .unset, .unset, .unset] [(.ref b129)]
    refine w_iconst ok at_56 (v := (0 : Int32)) rfl ?_
    show W K l _ n0 _ h130 2 8 57 #[.val (.long dd), .second, .val (.long qq), .second, .val (.int at'), .val (.int sh), .val (.int pk), .val (.int dl), .val (.int (3 : Int32)), .val (.int a), .val (.ref dt), .val (.ref b129), .unset, .unset, .unset] [(.int (0 : Int32)), (.ref b129)]
    refine w_aload ok at_57 rfl rfl ?_
    show W K l _ n0 _ h130 2 8 59 #[.val (.long dd), .second, .val (.long qq), .second, .val (.int at'), .val (.int sh), .val (.int pk), .val (.int dl), .val (.int (3 : Int32)), .val (.int a), .val (.ref dt), .val (.ref b129), .unset, .unset, .unset] [(.ref dt), (.int (0 : Int32)), (.ref b129)]
    refine w_iload ok at_59 rfl ?_
    show W K l _ n0 _ h130 2 8 61 #[.val (.long dd), .second, .val (.long qq), .second, .val (.int at'), .val (.int sh), .val (.int pk), .val (.int dl), .val (.int (3 : Int32)), .val (.int a), .val (.ref dt), .val (.ref b129), .unset, .unset, .unset] [(.int a), (.ref dt), (.int (0 : Int32)), (.ref b129)]
    refine w_iconst ok at_61 (v := (0 : Int32)) rfl ?_
    show W K l _ n0 _ h130 2 8 62 #[.val (.long dd), .second, .val (.long qq), .second, .val (.int at'), .val (.int sh), .val (.int pk), .val (.int dl), .val (.int (3 : Int32)), .val (.int a), .val (.ref dt), .val (.ref b129), .unset, .unset, .unset] [(.int (0 : Int32)), (.int a), (.ref dt), (.int (0 : Int32)), (.ref b129)]
    refine w_lloadN ok at_62 rfl ?_
    show W K l _ n0 _ h130 2 8 63 #[.val (.long dd), .second, .val (.long qq), .second, .val (.int at'), .val (.int sh), .val (.int pk), .val (.int dl), .val (.int (3 : Int32)), .val (.int a), .val (.ref dt), .val (.ref b129), .unset, .unset, .unset] [(.long qq), (.int (0 : Int32)), (.int a), (.ref dt), (.int (0 : Int32)), (.ref b129)]
    refine w_iload ok at_63 rfl ?_
    show W K l _ n0 _ h130 2 8 65 #[.val (.long dd), .second, .val (.long qq), .second, .val (.int at'), .val (.int sh), .val (.int pk), .val (.int dl), .val (.int (3 : Int32)), .val (.int a), .val (.ref dt), .val (.ref b129), .unset, .unset, .unset] [(.int pk), (.long qq), (.int (0 : Int32)), (.int a), (.ref dt), (.int (0 : Int32)), (.ref b129)]
    refine w_callS ok (y := (⟨"com/example/nakami/nakami/pdf/BytesMatchesPinLaw", "pat", "([BIIJI)B"⟩ : MethodName)) (argsL := [(.ref dt), (.int a), (.int (0 : Int32)), (.long qq), (.int pk)]) (rest := [(.int (0 : Int32)), (.ref b129)]) at_65 (hw _ (List.mem_of_getElem? (i := 12) rfl)) (hw _ (List.mem_of_getElem? (i := 13) rfl)) (hw _ (List.mem_of_getElem? (i := 2) rfl)) (hw _ (List.mem_of_getElem? (i := 14) rfl)) (by decide) pd_285bBIIJI29B rfl rfl (by decide) (Nat.le_of_ble_eq_true rfl) (by decide) (by decide) (fun z0 => rm_pat l Z a0 hw [] n0 h130 z0 dt xs a (0 : Int32) qq pk A_dt) (fun v133 h134 qv133 => ?_)
    obtain ⟨⟨z135, rfl⟩, rfl⟩ := qv133
    show W K l _ n0 _ h130 2 8 68 #[.val (.long dd), .second, .val (.long qq), .second, .val (.int at'), .val (.int sh), .val (.int pk), .val (.int dl), .val (.int (3 : Int32)), .val (.int a), .val (.ref dt), .val (.ref b129), .unset, .unset, .unset] [(.int z135), (.int (0 : Int32)), (.ref b129)]
    refine w_bastore ok at_68 A_b129 ge_b129 (by decide) (Nat.le_of_ble_eq_true rfl) (fun h136 W_h136 A1_h136 => ?_)
    replace A_dt := A_dt.other W_h136 ne_dt_b129
    replace A_b129 : PA .byte Z h136 b129 [(.int (nar .byte z135)), (.int (0 : Int32)), (.int (0 : Int32))] := A1_h136
    show W K l _ n0 _ h136 2 8 69 #[.val (.long dd), .second, .val (.long qq), .second, .val (.int at'), .val (.int sh), .val (.int pk), .val (.int dl), .val (.int (3 : Int32)), .val (.int a), .val (.ref dt), .val (.ref b129), .unset, .unset, .unset] []
    refine w_iload ok at_69 rfl ?_
    show W K l _ n0 _ h136 2 8 71 #[.val (.long dd), .second, .val (.long qq), .second, .val (.int at'), .val (.int sh), .val (.int pk), .val (.int dl), .val (.int (3 : Int32)), .val (.int a), .val (.ref dt), .val (.ref b129), .unset, .unset, .unset] [(.int (3 : Int32))]
    refine w_iconst ok at_71 (v := (1 : Int32)) rfl ?_
    show W K l _ n0 _ h136 2 8 72 #[.val (.long dd), .second, .val (.long qq), .second, .val (.int at'), .val (.int sh), .val (.int pk), .val (.int dl), .val (.int (3 : Int32)), .val (.int a), .val (.ref dt), .val (.ref b129), .unset, .unset, .unset] [(.int (1 : Int32)), (.int (3 : Int32))]
    refine w_icmp_le ok at_72 (pc' := 90) (by decide) (fun hc138 => False.elim (by revert hc138; decide)) (fun hc138 => ?_)
    show W K l _ n0 _ h136 2 8 75 #[.val (.long dd), .second, .val (.long qq), .second, .val (.int at'), .val (.int sh), .val (.int pk), .val (.int dl), .val (.int (3 : Int32)), .val (.int a), .val (.ref dt), .val (.ref b129), .unset, .unset, .unset] []
    refine w_aload ok at_75 rfl rfl ?_
    show W K l _ n0 _ h136 2 8 77 #[.val (.long dd), .second, .val (.long qq), .second, .val (.int at'), .val (.int sh), .val (.int pk), .val (.int dl), .val (.int (3 : Int32)), .val (.int a), .val (.ref dt), .val (.ref b129), .unset, .unset, .unset] [(.ref b129)]
    refine w_iconst ok at_77 (v := (1 : Int32)) rfl ?_
    show W K l _ n0 _ h136 2 8 78 #[.val (.long dd), .second, .val (.long qq), .second, .val (.int at'), .val (.int sh), .val (.int pk), .val (.int dl), .val (.int (3 : Int32)), .val (.int a), .val (.ref dt), .val (.ref b129), .unset, .unset, .unset] [(.int (1 : Int32)), (.ref b129)]
    refine w_aload ok at_78 rfl rfl ?_
    show W K l _ n0 _ h136 2 8 80 #[.val (.long dd), .second, .val (.long qq), .second, .val (.int at'), .val (.int sh), .val (.int pk), .val (.int dl), .val (.int (3 : Int32)), .val (.int a), .val (.ref dt), .val (.ref b129), .unset, .unset, .unset] [(.ref dt), (.int (1 : Int32)), (.ref b129)]
    refine w_iload ok at_80 rfl ?_
    show W K l _ n0 _ h136 2 8 82 #[.val (.long dd), .second, .val (.long qq), .second, .val (.int at'), .val (.int sh), .val (.int pk), .val (.int dl), .val (.int (3 : Int32)), .val (.int a), .val (.ref dt), .val (.ref b129), .unset, .unset, .unset] [(.int a), (.ref dt), (.int (1 : Int32)), (.ref b129)]
    refine w_iconst ok at_82 (v := (1 : Int32)) rfl ?_
    show W K l _ n0 _ h136 2 8 83 #[.val (.long dd), .second, .val (.long qq), .second, .val (.int at'), .val (.int sh), .val (.int pk), .val (.int dl), .val (.int (3 : Int32)), .val (.int a), .val (.ref dt), .val (.ref b129), .unset, .unset, .unset] [(.int (1 : Int32)), (.int a), (.ref dt), (.int (1 : Int32)), (.ref b129)]
    refine w_lloadN ok at_83 rfl ?_
    show W K l _ n0 _ h136 2 8 84 #[.val (.long dd), .second, .val (.long qq), .second, .val (.int at'), .val (.int sh), .val (.int pk), .val (.int dl), .val (.int (3 : Int32)), .val (.int a), .val (.ref dt), .val (.ref b129), .unset, .unset, .unset] [(.long qq), (.int (1 : Int32)), (.int a), (.ref dt), (.int (1 : Int32)), (.ref b129)]
    refine w_iload ok at_84 rfl ?_
    show W K l _ n0 _ h136 2 8 86 #[.val (.long dd), .second, .val (.long qq), .second, .val (.int at'), .val (.int sh), .val (.int pk), .val (.int dl), .val (.int (3 : Int32)), .val (.int a), .val (.ref dt), .val (.ref b129), .unset, .unset, .unset] [(.int pk), (.long qq), (.int (1 : Int32)), (.int a), (.ref dt), (.int (1 : Int32)), (.ref b129)]
    refine w_callS ok (y := (⟨"com/example/nakami/nakami/pdf/BytesMatchesPinLaw", "pat", "([BIIJI)B"⟩ : MethodName)) (argsL := [(.ref dt), (.int a), (.int (1 : Int32)), (.long qq), (.int pk)]) (rest := [(.int (1 : Int32)), (.ref b129)]) at_86 (hw _ (List.mem_of_getElem? (i := 12) rfl)) (hw _ (List.mem_of_getElem? (i := 13) rfl)) (hw _ (List.mem_of_getElem? (i := 2) rfl)) (hw _ (List.mem_of_getElem? (i := 14) rfl)) (by decide) pd_285bBIIJI29B rfl rfl (by decide) (Nat.le_of_ble_eq_true rfl) (by decide) (by decide) (fun z0 => rm_pat l Z a0 hw [] n0 h136 z0 dt xs a (1 : Int32) qq pk A_dt) (fun v139 h140 qv139 => ?_)
    obtain ⟨⟨z141, rfl⟩, rfl⟩ := qv139
    show W K l _ n0 _ h136 2 8 89 #[.val (.long dd), .second, .val (.long qq), .second, .val (.int at'), .val (.int sh), .val (.int pk), .val (.int dl), .val (.int (3 : Int32)), .val (.int a), .val (.ref dt), .val (.ref b129), .unset, .unset, .unset] [(.int z141), (.int (1 : Int32)), (.ref b129)]
    refine w_bastore ok at_89 A_b129 ge_b129 (by decide) (Nat.le_of_ble_eq_true rfl) (fun h142 W_h142 A1_h142 => ?_)
    replace A_dt := A_dt.other W_h142 ne_dt_b129
    replace A_b129 : PA .byte Z h142 b129 [(.int (nar .byte z135)), (.int (nar .byte z141)), (.int (0 : Int32))] := A1_h142
    show W K l _ n0 _ h142 2 8 90 #[.val (.long dd), .second, .val (.long qq), .second, .val (.int at'), .val (.int sh), .val (.int pk), .val (.int dl), .val (.int (3 : Int32)), .val (.int a), .val (.ref dt), .val (.ref b129), .unset, .unset, .unset] []
    refine w_iload ok at_90 rfl ?_
    show W K l _ n0 _ h142 2 8 92 #[.val (.long dd), .second, .val (.long qq), .second, .val (.int at'), .val (.int sh), .val (.int pk), .val (.int dl), .val (.int (3 : Int32)), .val (.int a), .val (.ref dt), .val (.ref b129), .unset, .unset, .unset] [(.int (3 : Int32))]
    refine w_iconst ok at_92 (v := (2 : Int32)) rfl ?_
    show W K l _ n0 _ h142 2 8 93 #[.val (.long dd), .second, .val (.long qq), .second, .val (.int at'), .val (.int sh), .val (.int pk), .val (.int dl), .val (.int (3 : Int32)), .val (.int a), .val (.ref dt), .val (.ref b129), .unset, .unset, .unset] [(.int (2 : Int32)), (.int (3 : Int32))]
    refine w_icmp_le ok at_93 (pc' := 111) (by decide) (fun hc144 => False.elim (by revert hc144; decide)) (fun hc144 => ?_)
    show W K l _ n0 _ h142 2 8 96 #[.val (.long dd), .second, .val (.long qq), .second, .val (.int at'), .val (.int sh), .val (.int pk), .val (.int dl), .val (.int (3 : Int32)), .val (.int a), .val (.ref dt), .val (.ref b129), .unset, .unset, .unset] []
    refine w_aload ok at_96 rfl rfl ?_
    show W K l _ n0 _ h142 2 8 98 #[.val (.long dd), .second, .val (.long qq), .second, .val (.int at'), .val (.int sh), .val (.int pk), .val (.int dl), .val (.int (3 : Int32)), .val (.int a), .val (.ref dt), .val (.ref b129), .unset, .unset, .unset] [(.ref b129)]
    refine w_iconst ok at_98 (v := (2 : Int32)) rfl ?_
    show W K l _ n0 _ h142 2 8 99 #[.val (.long dd), .second, .val (.long qq), .second, .val (.int at'), .val (.int sh), .val (.int pk), .val (.int dl), .val (.int (3 : Int32)), .val (.int a), .val (.ref dt), .val (.ref b129), .unset, .unset, .unset] [(.int (2 : Int32)), (.ref b129)]
    refine w_aload ok at_99 rfl rfl ?_
    show W K l _ n0 _ h142 2 8 101 #[.val (.long dd), .second, .val (.long qq), .second, .val (.int at'), .val (.int sh), .val (.int pk), .val (.int dl), .val (.int (3 : Int32)), .val (.int a), .val (.ref dt), .val (.ref b129), .unset, .unset, .unset] [(.ref dt), (.int (2 : Int32)), (.ref b129)]
    refine w_iload ok at_101 rfl ?_
    show W K l _ n0 _ h142 2 8 103 #[.val (.long dd), .second, .val (.long qq), .second, .val (.int at'), .val (.int sh), .val (.int pk), .val (.int dl), .val (.int (3 : Int32)), .val (.int a), .val (.ref dt), .val (.ref b129), .unset, .unset, .unset] [(.int a), (.ref dt), (.int (2 : Int32)), (.ref b129)]
    refine w_iconst ok at_103 (v := (2 : Int32)) rfl ?_
    show W K l _ n0 _ h142 2 8 104 #[.val (.long dd), .second, .val (.long qq), .second, .val (.int at'), .val (.int sh), .val (.int pk), .val (.int dl), .val (.int (3 : Int32)), .val (.int a), .val (.ref dt), .val (.ref b129), .unset, .unset, .unset] [(.int (2 : Int32)), (.int a), (.ref dt), (.int (2 : Int32)), (.ref b129)]
    refine w_lloadN ok at_104 rfl ?_
    show W K l _ n0 _ h142 2 8 105 #[.val (.long dd), .second, .val (.long qq), .second, .val (.int at'), .val (.int sh), .val (.int pk), .val (.int dl), .val (.int (3 : Int32)), .val (.int a), .val (.ref dt), .val (.ref b129), .unset, .unset, .unset] [(.long qq), (.int (2 : Int32)), (.int a), (.ref dt), (.int (2 : Int32)), (.ref b129)]
    refine w_iload ok at_105 rfl ?_
    show W K l _ n0 _ h142 2 8 107 #[.val (.long dd), .second, .val (.long qq), .second, .val (.int at'), .val (.int sh), .val (.int pk), .val (.int dl), .val (.int (3 : Int32)), .val (.int a), .val (.ref dt), .val (.ref b129), .unset, .unset, .unset] [(.int pk), (.long qq), (.int (2 : Int32)), (.int a), (.ref dt), (.int (2 : Int32)), (.ref b129)]
    refine w_callS ok (y := (⟨"com/example/nakami/nakami/pdf/BytesMatchesPinLaw", "pat", "([BIIJI)B"⟩ : MethodName)) (argsL := [(.ref dt), (.int a), (.int (2 : Int32)), (.long qq), (.int pk)]) (rest := [(.int (2 : Int32)), (.ref b129)]) at_107 (hw _ (List.mem_of_getElem? (i := 12) rfl)) (hw _ (List.mem_of_getElem? (i := 13) rfl)) (hw _ (List.mem_of_getElem? (i := 2) rfl)) (hw _ (List.mem_of_getElem? (i := 14) rfl)) (by decide) pd_285bBIIJI29B rfl rfl (by decide) (Nat.le_of_ble_eq_true rfl) (by decide) (by decide) (fun z0 => rm_pat l Z a0 hw [] n0 h142 z0 dt xs a (2 : Int32) qq pk A_dt) (fun v145 h146 qv145 => ?_)
    obtain ⟨⟨z147, rfl⟩, rfl⟩ := qv145
    show W K l _ n0 _ h142 2 8 110 #[.val (.long dd), .second, .val (.long qq), .second, .val (.int at'), .val (.int sh), .val (.int pk), .val (.int dl), .val (.int (3 : Int32)), .val (.int a), .val (.ref dt), .val (.ref b129), .unset, .unset, .unset] [(.int z147), (.int (2 : Int32)), (.ref b129)]
    refine w_bastore ok at_110 A_b129 ge_b129 (by decide) (Nat.le_of_ble_eq_true rfl) (fun h148 W_h148 A1_h148 => ?_)
    replace A_dt := A_dt.other W_h148 ne_dt_b129
    replace A_b129 : PA .byte Z h148 b129 [(.int (nar .byte z135)), (.int (nar .byte z141)), (.int (nar .byte z147))] := A1_h148
    show W K l _ n0 _ h148 2 8 111 #[.val (.long dd), .second, .val (.long qq), .second, .val (.int at'), .val (.int sh), .val (.int pk), .val (.int dl), .val (.int (3 : Int32)), .val (.int a), .val (.ref dt), .val (.ref b129), .unset, .unset, .unset] []
    refine w_aload ok at_111 rfl rfl ?_
    show W K l _ n0 _ h148 2 8 113 #[.val (.long dd), .second, .val (.long qq), .second, .val (.int at'), .val (.int sh), .val (.int pk), .val (.int dl), .val (.int (3 : Int32)), .val (.int a), .val (.ref dt), .val (.ref b129), .unset, .unset, .unset] [(.ref dt)]
    refine w_iload ok at_113 rfl ?_
    show W K l _ n0 _ h148 2 8 115 #[.val (.long dd), .second, .val (.long qq), .second, .val (.int at'), .val (.int sh), .val (.int pk), .val (.int dl), .val (.int (3 : Int32)), .val (.int a), .val (.ref dt), .val (.ref b129), .unset, .unset, .unset] [(.int a), (.ref dt)]
    refine w_aload ok at_115 rfl rfl ?_
    show W K l _ n0 _ h148 2 8 117 #[.val (.long dd), .second, .val (.long qq), .second, .val (.int at'), .val (.int sh), .val (.int pk), .val (.int dl), .val (.int (3 : Int32)), .val (.int a), .val (.ref dt), .val (.ref b129), .unset, .unset, .unset] [(.ref b129), (.int a), (.ref dt)]
    refine w_callS ok (y := (⟨"com/example/nakami/nakami/pdf/Bytes", "matches", "([BI[B)Z"⟩ : MethodName)) (argsL := [(.ref dt), (.int a), (.ref b129)]) (rest := []) at_117 (hw _ (List.mem_of_getElem? (i := 8) rfl)) (hw _ (List.mem_of_getElem? (i := 9) rfl)) (hw _ (List.mem_of_getElem? (i := 10) rfl)) (hw _ (List.mem_of_getElem? (i := 11) rfl)) (by decide) pd_285bBI5bB29Z rfl rfl (by decide) (Nat.le_of_ble_eq_true rfl) (by decide) (by decide) (fun z0 => rm_m l Z a0 hw [] n0 h148 z0 dt b129 xs [nar .byte z135, nar .byte z141, nar .byte z147] a A_dt A_b129 (by omega) (by show _ + (3 : Int) < _; omega)) (fun v149 h150 qv149 => ?_)
    obtain ⟨rfl, rfl⟩ := qv149
    show W K l _ n0 _ h148 2 8 120 #[.val (.long dd), .second, .val (.long qq), .second, .val (.int at'), .val (.int sh), .val (.int pk), .val (.int dl), .val (.int (3 : Int32)), .val (.int a), .val (.ref dt), .val (.ref b129), .unset, .unset, .unset] [(.int (nar .boolean (own_mt xs a [nar .byte z135, nar .byte z141, nar .byte z147])))]
    refine w_istore ok at_120 (L' := #[.val (.long dd), .second, .val (.long qq), .second, .val (.int at'), .val (.int sh), .val (.int pk), .val (.int dl), .val (.int (3 : Int32)), .val (.int a), .val (.ref dt), .val (.ref b129), .val (.int (nar .boolean (own_mt xs a [nar .byte z135, nar .byte z141, nar .byte z147]))), .unset, .unset]) rfl ?_
    show W K l _ n0 _ h148 2 8 122 #[.val (.long dd), .second, .val (.long qq), .second, .val (.int at'), .val (.int sh), .val (.int pk), .val (.int dl), .val (.int (3 : Int32)), .val (.int a), .val (.ref dt), .val (.ref b129), .val (.int (nar .boolean (own_mt xs a [nar .byte z135, nar .byte z141, nar .byte z147]))), .unset, .unset] []
    have es : (dl - (3 : Int32)).toInt = dl.toInt - 3 := by have e1 := c_isub dl 3; have e2 := rng32 (dl - 3); have e3 : (3 : Int32).toInt = 3 := rfl; omega
    refine w_iload ok at_122 rfl ?_
    show W K l _ n0 _ h148 2 8 124 #[.val (.long dd), .second, .val (.long qq), .second, .val (.int at'), .val (.int sh), .val (.int pk), .val (.int dl), .val (.int (3 : Int32)), .val (.int a), .val (.ref dt), .val (.ref b129), .val (.int (nar .boolean (own_mt xs a [nar .byte z135, nar .byte z141, nar .byte z147]))), .unset, .unset] [(.int a)]
    refine w_if_lt ok at_124 (pc' := 141) (by decide) (fun hc152 => ?_) (fun hc152 => ?_)
    · show W K l _ n0 _ h148 2 8 141 #[.val (.long dd), .second, .val (.long qq), .second, .val (.int at'), .val (.int sh), .val (.int pk), .val (.int dl), .val (.int (3 : Int32)), .val (.int a), .val (.ref dt), .val (.ref b129), .val (.int (nar .boolean (own_mt xs a [nar .byte z135, nar .byte z141, nar .byte z147]))), .unset, .unset] []
      refine w_iconst ok at_141 (v := (0 : Int32)) rfl ?_
      show W K l _ n0 _ h148 2 8 142 #[.val (.long dd), .second, .val (.long qq), .second, .val (.int at'), .val (.int sh), .val (.int pk), .val (.int dl), .val (.int (3 : Int32)), .val (.int a), .val (.ref dt), .val (.ref b129), .val (.int (nar .boolean (own_mt xs a [nar .byte z135, nar .byte z141, nar .byte z147]))), .unset, .unset] [(.int (0 : Int32))]
      refine w_istore ok at_142 (L' := #[.val (.long dd), .second, .val (.long qq), .second, .val (.int at'), .val (.int sh), .val (.int pk), .val (.int dl), .val (.int (3 : Int32)), .val (.int a), .val (.ref dt), .val (.ref b129), .val (.int (nar .boolean (own_mt xs a [nar .byte z135, nar .byte z141, nar .byte z147]))), .val (.int (0 : Int32)), .unset]) rfl ?_
      show W K l _ n0 _ h148 2 8 144 #[.val (.long dd), .second, .val (.long qq), .second, .val (.int at'), .val (.int sh), .val (.int pk), .val (.int dl), .val (.int (3 : Int32)), .val (.int a), .val (.ref dt), .val (.ref b129), .val (.int (nar .boolean (own_mt xs a [nar .byte z135, nar .byte z141, nar .byte z147]))), .val (.int (0 : Int32)), .unset] []
      refine w_iload ok at_144 rfl ?_
      show W K l _ n0 _ h148 2 8 146 #[.val (.long dd), .second, .val (.long qq), .second, .val (.int at'), .val (.int sh), .val (.int pk), .val (.int dl), .val (.int (3 : Int32)), .val (.int a), .val (.ref dt), .val (.ref b129), .val (.int (nar .boolean (own_mt xs a [nar .byte z135, nar .byte z141, nar .byte z147]))), .val (.int (0 : Int32)), .unset] [(.int (0 : Int32))]
      refine w_if_eq ok at_146 (pc' := 211) (by decide) (fun hc154 => ?_) (fun hc154 => False.elim (by revert hc154; decide))
      show W K l _ n0 _ h148 2 8 211 #[.val (.long dd), .second, .val (.long qq), .second, .val (.int at'), .val (.int sh), .val (.int pk), .val (.int dl), .val (.int (3 : Int32)), .val (.int a), .val (.ref dt), .val (.ref b129), .val (.int (nar .boolean (own_mt xs a [nar .byte z135, nar .byte z141, nar .byte z147]))), .val (.int (0 : Int32)), .unset] []
      refine w_iconst ok at_211 (v := (0 : Int32)) rfl ?_
      show W K l _ n0 _ h148 2 8 212 #[.val (.long dd), .second, .val (.long qq), .second, .val (.int at'), .val (.int sh), .val (.int pk), .val (.int dl), .val (.int (3 : Int32)), .val (.int a), .val (.ref dt), .val (.ref b129), .val (.int (nar .boolean (own_mt xs a [nar .byte z135, nar .byte z141, nar .byte z147]))), .val (.int (0 : Int32)), .unset] [(.int (0 : Int32))]
      refine w_istore ok at_212 (L' := #[.val (.long dd), .second, .val (.long qq), .second, .val (.int at'), .val (.int sh), .val (.int pk), .val (.int dl), .val (.int (3 : Int32)), .val (.int a), .val (.ref dt), .val (.ref b129), .val (.int (nar .boolean (own_mt xs a [nar .byte z135, nar .byte z141, nar .byte z147]))), .val (.int (0 : Int32)), .val (.int (0 : Int32))]) rfl ?_
      show W K l _ n0 _ h148 2 8 214 #[.val (.long dd), .second, .val (.long qq), .second, .val (.int at'), .val (.int sh), .val (.int pk), .val (.int dl), .val (.int (3 : Int32)), .val (.int a), .val (.ref dt), .val (.ref b129), .val (.int (nar .boolean (own_mt xs a [nar .byte z135, nar .byte z141, nar .byte z147]))), .val (.int (0 : Int32)), .val (.int (0 : Int32))] []
      refine w_iload ok at_214 rfl ?_
      show W K l _ n0 _ h148 2 8 216 #[.val (.long dd), .second, .val (.long qq), .second, .val (.int at'), .val (.int sh), .val (.int pk), .val (.int dl), .val (.int (3 : Int32)), .val (.int a), .val (.ref dt), .val (.ref b129), .val (.int (nar .boolean (own_mt xs a [nar .byte z135, nar .byte z141, nar .byte z147]))), .val (.int (0 : Int32)), .val (.int (0 : Int32))] [(.int (nar .boolean (own_mt xs a [nar .byte z135, nar .byte z141, nar .byte z147])))]
      refine w_iload ok at_216 rfl ?_
      show W K l _ n0 _ h148 2 8 218 #[.val (.long dd), .second, .val (.long qq), .second, .val (.int at'), .val (.int sh), .val (.int pk), .val (.int dl), .val (.int (3 : Int32)), .val (.int a), .val (.ref dt), .val (.ref b129), .val (.int (nar .boolean (own_mt xs a [nar .byte z135, nar .byte z141, nar .byte z147]))), .val (.int (0 : Int32)), .val (.int (0 : Int32))] [(.int (0 : Int32)), (.int (nar .boolean (own_mt xs a [nar .byte z135, nar .byte z141, nar .byte z147])))]
      refine w_icmp_ne ok at_218 (pc' := 225) (by decide) (fun hc156 => False.elim (by exact hc156 (by simp only [Int32.lt_iff_toInt_lt, es, Int32.reduceToInt] at hc152; rw [own_mt, if_pos (by first | (left; omega) | (right; show _ < _ + (3 : Int); omega))] <;> rfl))) (fun hc156 => ?_)
      show W K l _ n0 _ h148 2 8 221 #[.val (.long dd), .second, .val (.long qq), .second, .val (.int at'), .val (.int sh), .val (.int pk), .val (.int dl), .val (.int (3 : Int32)), .val (.int a), .val (.ref dt), .val (.ref b129), .val (.int (nar .boolean (own_mt xs a [nar .byte z135, nar .byte z141, nar .byte z147]))), .val (.int (0 : Int32)), .val (.int (0 : Int32))] []
      refine w_iconst ok at_221 (v := (1 : Int32)) rfl ?_
      show W K l _ n0 _ h148 2 8 222 #[.val (.long dd), .second, .val (.long qq), .second, .val (.int at'), .val (.int sh), .val (.int pk), .val (.int dl), .val (.int (3 : Int32)), .val (.int a), .val (.ref dt), .val (.ref b129), .val (.int (nar .boolean (own_mt xs a [nar .byte z135, nar .byte z141, nar .byte z147]))), .val (.int (0 : Int32)), .val (.int (0 : Int32))] [(.int (1 : Int32))]
      refine w_goto ok at_222 (pc' := 226) (by decide) ?_
      show W K l _ n0 _ h148 2 8 226 #[.val (.long dd), .second, .val (.long qq), .second, .val (.int at'), .val (.int sh), .val (.int pk), .val (.int dl), .val (.int (3 : Int32)), .val (.int a), .val (.ref dt), .val (.ref b129), .val (.int (nar .boolean (own_mt xs a [nar .byte z135, nar .byte z141, nar .byte z147]))), .val (.int (0 : Int32)), .val (.int (0 : Int32))] [(.int (1 : Int32))]
      refine w_bret ok (by simp) at_226 (by decide) (by decide) ?_
      exact rfl
    · show W K l _ n0 _ h148 2 8 127 #[.val (.long dd), .second, .val (.long qq), .second, .val (.int at'), .val (.int sh), .val (.int pk), .val (.int dl), .val (.int (3 : Int32)), .val (.int a), .val (.ref dt), .val (.ref b129), .val (.int (nar .boolean (own_mt xs a [nar .byte z135, nar .byte z141, nar .byte z147]))), .unset, .unset] []
      refine w_iload ok at_127 rfl ?_
      show W K l _ n0 _ h148 2 8 129 #[.val (.long dd), .second, .val (.long qq), .second, .val (.int at'), .val (.int sh), .val (.int pk), .val (.int dl), .val (.int (3 : Int32)), .val (.int a), .val (.ref dt), .val (.ref b129), .val (.int (nar .boolean (own_mt xs a [nar .byte z135, nar .byte z141, nar .byte z147]))), .unset, .unset] [(.int a)]
      refine w_iload ok at_129 rfl ?_
      show W K l _ n0 _ h148 2 8 131 #[.val (.long dd), .second, .val (.long qq), .second, .val (.int at'), .val (.int sh), .val (.int pk), .val (.int dl), .val (.int (3 : Int32)), .val (.int a), .val (.ref dt), .val (.ref b129), .val (.int (nar .boolean (own_mt xs a [nar .byte z135, nar .byte z141, nar .byte z147]))), .unset, .unset] [(.int dl), (.int a)]
      refine w_iload ok at_131 rfl ?_
      show W K l _ n0 _ h148 2 8 133 #[.val (.long dd), .second, .val (.long qq), .second, .val (.int at'), .val (.int sh), .val (.int pk), .val (.int dl), .val (.int (3 : Int32)), .val (.int a), .val (.ref dt), .val (.ref b129), .val (.int (nar .boolean (own_mt xs a [nar .byte z135, nar .byte z141, nar .byte z147]))), .unset, .unset] [(.int (3 : Int32)), (.int dl), (.int a)]
      refine w_isub ok at_133 ?_
      show W K l _ n0 _ h148 2 8 134 #[.val (.long dd), .second, .val (.long qq), .second, .val (.int at'), .val (.int sh), .val (.int pk), .val (.int dl), .val (.int (3 : Int32)), .val (.int a), .val (.ref dt), .val (.ref b129), .val (.int (nar .boolean (own_mt xs a [nar .byte z135, nar .byte z141, nar .byte z147]))), .unset, .unset] [(.int (dl - (3 : Int32))), (.int a)]
      refine w_icmp_gt ok at_134 (pc' := 141) (by decide) (fun hc158 => ?_) (fun hc158 => ?_)
      · show W K l _ n0 _ h148 2 8 141 #[.val (.long dd), .second, .val (.long qq), .second, .val (.int at'), .val (.int sh), .val (.int pk), .val (.int dl), .val (.int (3 : Int32)), .val (.int a), .val (.ref dt), .val (.ref b129), .val (.int (nar .boolean (own_mt xs a [nar .byte z135, nar .byte z141, nar .byte z147]))), .unset, .unset] []
        refine w_iconst ok at_141 (v := (0 : Int32)) rfl ?_
        show W K l _ n0 _ h148 2 8 142 #[.val (.long dd), .second, .val (.long qq), .second, .val (.int at'), .val (.int sh), .val (.int pk), .val (.int dl), .val (.int (3 : Int32)), .val (.int a), .val (.ref dt), .val (.ref b129), .val (.int (nar .boolean (own_mt xs a [nar .byte z135, nar .byte z141, nar .byte z147]))), .unset, .unset] [(.int (0 : Int32))]
        refine w_istore ok at_142 (L' := #[.val (.long dd), .second, .val (.long qq), .second, .val (.int at'), .val (.int sh), .val (.int pk), .val (.int dl), .val (.int (3 : Int32)), .val (.int a), .val (.ref dt), .val (.ref b129), .val (.int (nar .boolean (own_mt xs a [nar .byte z135, nar .byte z141, nar .byte z147]))), .val (.int (0 : Int32)), .unset]) rfl ?_
        show W K l _ n0 _ h148 2 8 144 #[.val (.long dd), .second, .val (.long qq), .second, .val (.int at'), .val (.int sh), .val (.int pk), .val (.int dl), .val (.int (3 : Int32)), .val (.int a), .val (.ref dt), .val (.ref b129), .val (.int (nar .boolean (own_mt xs a [nar .byte z135, nar .byte z141, nar .byte z147]))), .val (.int (0 : Int32)), .unset] []
        refine w_iload ok at_144 rfl ?_
        show W K l _ n0 _ h148 2 8 146 #[.val (.long dd), .second, .val (.long qq), .second, .val (.int at'), .val (.int sh), .val (.int pk), .val (.int dl), .val (.int (3 : Int32)), .val (.int a), .val (.ref dt), .val (.ref b129), .val (.int (nar .boolean (own_mt xs a [nar .byte z135, nar .byte z141, nar .byte z147]))), .val (.int (0 : Int32)), .unset] [(.int (0 : Int32))]
        refine w_if_eq ok at_146 (pc' := 211) (by decide) (fun hc160 => ?_) (fun hc160 => False.elim (by revert hc160; decide))
        show W K l _ n0 _ h148 2 8 211 #[.val (.long dd), .second, .val (.long qq), .second, .val (.int at'), .val (.int sh), .val (.int pk), .val (.int dl), .val (.int (3 : Int32)), .val (.int a), .val (.ref dt), .val (.ref b129), .val (.int (nar .boolean (own_mt xs a [nar .byte z135, nar .byte z141, nar .byte z147]))), .val (.int (0 : Int32)), .unset] []
        refine w_iconst ok at_211 (v := (0 : Int32)) rfl ?_
        show W K l _ n0 _ h148 2 8 212 #[.val (.long dd), .second, .val (.long qq), .second, .val (.int at'), .val (.int sh), .val (.int pk), .val (.int dl), .val (.int (3 : Int32)), .val (.int a), .val (.ref dt), .val (.ref b129), .val (.int (nar .boolean (own_mt xs a [nar .byte z135, nar .byte z141, nar .byte z147]))), .val (.int (0 : Int32)), .unset] [(.int (0 : Int32))]
        refine w_istore ok at_212 (L' := #[.val (.long dd), .second, .val (.long qq), .second, .val (.int at'), .val (.int sh), .val (.int pk), .val (.int dl), .val (.int (3 : Int32)), .val (.int a), .val (.ref dt), .val (.ref b129), .val (.int (nar .boolean (own_mt xs a [nar .byte z135, nar .byte z141, nar .byte z147]))), .val (.int (0 : Int32)), .val (.int (0 : Int32))]) rfl ?_
        show W K l _ n0 _ h148 2 8 214 #[.val (.long dd), .second, .val (.long qq), .second, .val (.int at'), .val (.int sh), .val (.int pk), .val (.int dl), .val (.int (3 : Int32)), .val (.int a), .val (.ref dt), .val (.ref b129), .val (.int (nar .boolean (own_mt xs a [nar .byte z135, nar .byte z141, nar .byte z147]))), .val (.int (0 : Int32)), .val (.int (0 : Int32))] []
        refine w_iload ok at_214 rfl ?_
        show W K l _ n0 _ h148 2 8 216 #[.val (.long dd), .second, .val (.long qq), .second, .val (.int at'), .val (.int sh), .val (.int pk), .val (.int dl), .val (.int (3 : Int32)), .val (.int a), .val (.ref dt), .val (.ref b129), .val (.int (nar .boolean (own_mt xs a [nar .byte z135, nar .byte z141, nar .byte z147]))), .val (.int (0 : Int32)), .val (.int (0 : Int32))] [(.int (nar .boolean (own_mt xs a [nar .byte z135, nar .byte z141, nar .byte z147])))]
        refine w_iload ok at_216 rfl ?_
        show W K l _ n0 _ h148 2 8 218 #[.val (.long dd), .second, .val (.long qq), .second, .val (.int at'), .val (.int sh), .val (.int pk), .val (.int dl), .val (.int (3 : Int32)), .val (.int a), .val (.ref dt), .val (.ref b129), .val (.int (nar .boolean (own_mt xs a [nar .byte z135, nar .byte z141, nar .byte z147]))), .val (.int (0 : Int32)), .val (.int (0 : Int32))] [(.int (0 : Int32)), (.int (nar .boolean (own_mt xs a [nar .byte z135, nar .byte z141, nar .byte z147])))]
        refine w_icmp_ne ok at_218 (pc' := 225) (by decide) (fun hc162 => False.elim (by exact hc162 (by simp only [Int32.lt_iff_toInt_lt, es, Int32.reduceToInt] at hc152 hc158; rw [own_mt, if_pos (by first | (left; omega) | (right; show _ < _ + (3 : Int); omega))] <;> rfl))) (fun hc162 => ?_)
        show W K l _ n0 _ h148 2 8 221 #[.val (.long dd), .second, .val (.long qq), .second, .val (.int at'), .val (.int sh), .val (.int pk), .val (.int dl), .val (.int (3 : Int32)), .val (.int a), .val (.ref dt), .val (.ref b129), .val (.int (nar .boolean (own_mt xs a [nar .byte z135, nar .byte z141, nar .byte z147]))), .val (.int (0 : Int32)), .val (.int (0 : Int32))] []
        refine w_iconst ok at_221 (v := (1 : Int32)) rfl ?_
        show W K l _ n0 _ h148 2 8 222 #[.val (.long dd), .second, .val (.long qq), .second, .val (.int at'), .val (.int sh), .val (.int pk), .val (.int dl), .val (.int (3 : Int32)), .val (.int a), .val (.ref dt), .val (.ref b129), .val (.int (nar .boolean (own_mt xs a [nar .byte z135, nar .byte z141, nar .byte z147]))), .val (.int (0 : Int32)), .val (.int (0 : Int32))] [(.int (1 : Int32))]
        refine w_goto ok at_222 (pc' := 226) (by decide) ?_
        show W K l _ n0 _ h148 2 8 226 #[.val (.long dd), .second, .val (.long qq), .second, .val (.int at'), .val (.int sh), .val (.int pk), .val (.int dl), .val (.int (3 : Int32)), .val (.int a), .val (.ref dt), .val (.ref b129), .val (.int (nar .boolean (own_mt xs a [nar .byte z135, nar .byte z141, nar .byte z147]))), .val (.int (0 : Int32)), .val (.int (0 : Int32))] [(.int (1 : Int32))]
        refine w_bret ok (by simp) at_226 (by decide) (by decide) ?_
        exact rfl
      · show W K l _ n0 _ h148 2 8 137 #[.val (.long dd), .second, .val (.long qq), .second, .val (.int at'), .val (.int sh), .val (.int pk), .val (.int dl), .val (.int (3 : Int32)), .val (.int a), .val (.ref dt), .val (.ref b129), .val (.int (nar .boolean (own_mt xs a [nar .byte z135, nar .byte z141, nar .byte z147]))), .unset, .unset] []
        refine w_iconst ok at_137 (v := (1 : Int32)) rfl ?_
        show W K l _ n0 _ h148 2 8 138 #[.val (.long dd), .second, .val (.long qq), .second, .val (.int at'), .val (.int sh), .val (.int pk), .val (.int dl), .val (.int (3 : Int32)), .val (.int a), .val (.ref dt), .val (.ref b129), .val (.int (nar .boolean (own_mt xs a [nar .byte z135, nar .byte z141, nar .byte z147]))), .unset, .unset] [(.int (1 : Int32))]
        refine w_goto ok at_138 (pc' := 142) (by decide) ?_
        show W K l _ n0 _ h148 2 8 142 #[.val (.long dd), .second, .val (.long qq), .second, .val (.int at'), .val (.int sh), .val (.int pk), .val (.int dl), .val (.int (3 : Int32)), .val (.int a), .val (.ref dt), .val (.ref b129), .val (.int (nar .boolean (own_mt xs a [nar .byte z135, nar .byte z141, nar .byte z147]))), .unset, .unset] [(.int (1 : Int32))]
        refine w_istore ok at_142 (L' := #[.val (.long dd), .second, .val (.long qq), .second, .val (.int at'), .val (.int sh), .val (.int pk), .val (.int dl), .val (.int (3 : Int32)), .val (.int a), .val (.ref dt), .val (.ref b129), .val (.int (nar .boolean (own_mt xs a [nar .byte z135, nar .byte z141, nar .byte z147]))), .val (.int (1 : Int32)), .unset]) rfl ?_
        show W K l _ n0 _ h148 2 8 144 #[.val (.long dd), .second, .val (.long qq), .second, .val (.int at'), .val (.int sh), .val (.int pk), .val (.int dl), .val (.int (3 : Int32)), .val (.int a), .val (.ref dt), .val (.ref b129), .val (.int (nar .boolean (own_mt xs a [nar .byte z135, nar .byte z141, nar .byte z147]))), .val (.int (1 : Int32)), .unset] []
        refine w_iload ok at_144 rfl ?_
        show W K l _ n0 _ h148 2 8 146 #[.val (.long dd), .second, .val (.long qq), .second, .val (.int at'), .val (.int sh), .val (.int pk), .val (.int dl), .val (.int (3 : Int32)), .val (.int a), .val (.ref dt), .val (.ref b129), .val (.int (nar .boolean (own_mt xs a [nar .byte z135, nar .byte z141, nar .byte z147]))), .val (.int (1 : Int32)), .unset] [(.int (1 : Int32))]
        refine w_if_eq ok at_146 (pc' := 211) (by decide) (fun hc164 => False.elim (by revert hc164; decide)) (fun hc164 => ?_)
        show W K l _ n0 _ h148 2 8 149 #[.val (.long dd), .second, .val (.long qq), .second, .val (.int at'), .val (.int sh), .val (.int pk), .val (.int dl), .val (.int (3 : Int32)), .val (.int a), .val (.ref dt), .val (.ref b129), .val (.int (nar .boolean (own_mt xs a [nar .byte z135, nar .byte z141, nar .byte z147]))), .val (.int (1 : Int32)), .unset] []
        refine w_iload ok at_149 rfl ?_
        show W K l _ n0 _ h148 2 8 151 #[.val (.long dd), .second, .val (.long qq), .second, .val (.int at'), .val (.int sh), .val (.int pk), .val (.int dl), .val (.int (3 : Int32)), .val (.int a), .val (.ref dt), .val (.ref b129), .val (.int (nar .boolean (own_mt xs a [nar .byte z135, nar .byte z141, nar .byte z147]))), .val (.int (1 : Int32)), .unset] [(.int (3 : Int32))]
        refine w_iconst ok at_151 (v := (1 : Int32)) rfl ?_
        show W K l _ n0 _ h148 2 8 152 #[.val (.long dd), .second, .val (.long qq), .second, .val (.int at'), .val (.int sh), .val (.int pk), .val (.int dl), .val (.int (3 : Int32)), .val (.int a), .val (.ref dt), .val (.ref b129), .val (.int (nar .boolean (own_mt xs a [nar .byte z135, nar .byte z141, nar .byte z147]))), .val (.int (1 : Int32)), .unset] [(.int (1 : Int32)), (.int (3 : Int32))]
        refine w_icmp_lt ok at_152 (pc' := 167) (by decide) (fun hc166 => False.elim (by revert hc166; decide)) (fun hc166 => ?_)
        show W K l _ n0 _ h148 2 8 155 #[.val (.long dd), .second, .val (.long qq), .second, .val (.int at'), .val (.int sh), .val (.int pk), .val (.int dl), .val (.int (3 : Int32)), .val (.int a), .val (.ref dt), .val (.ref b129), .val (.int (nar .boolean (own_mt xs a [nar .byte z135, nar .byte z141, nar .byte z147]))), .val (.int (1 : Int32)), .unset] []
        refine w_aload ok at_155 rfl rfl ?_
        show W K l _ n0 _ h148 2 8 157 #[.val (.long dd), .second, .val (.long qq), .second, .val (.int at'), .val (.int sh), .val (.int pk), .val (.int dl), .val (.int (3 : Int32)), .val (.int a), .val (.ref dt), .val (.ref b129), .val (.int (nar .boolean (own_mt xs a [nar .byte z135, nar .byte z141, nar .byte z147]))), .val (.int (1 : Int32)), .unset] [(.ref dt)]
        refine w_iload ok at_157 rfl ?_
        show W K l _ n0 _ h148 2 8 159 #[.val (.long dd), .second, .val (.long qq), .second, .val (.int at'), .val (.int sh), .val (.int pk), .val (.int dl), .val (.int (3 : Int32)), .val (.int a), .val (.ref dt), .val (.ref b129), .val (.int (nar .boolean (own_mt xs a [nar .byte z135, nar .byte z141, nar .byte z147]))), .val (.int (1 : Int32)), .unset] [(.int a), (.ref dt)]
        have hA : 0 ≤ a.toInt := by have q := hc152; simp only [Int32.lt_iff_toInt_lt, Int32.reduceToInt] at q; omega
        have hB : a.toInt ≤ dl.toInt - 3 := by have q := hc158; simp only [Int32.lt_iff_toInt_lt, es] at q; omega
        have ei0 : a.toInt = ((a.toNatClampNeg + 0 : Nat) : Int) := own_ix0 (by omega)
        obtain ⟨x0, hx0⟩ := own_ex (xs := xs) (i := a.toNatClampNeg + 0) (by omega)
        refine w_baload ok (v := (.int x0)) at_159 A_dt (own_nn ei0) (by rw [own_clamp ei0]; exact own_rd hx0) ?_
        show W K l _ n0 _ h148 2 8 160 #[.val (.long dd), .second, .val (.long qq), .second, .val (.int at'), .val (.int sh), .val (.int pk), .val (.int dl), .val (.int (3 : Int32)), .val (.int a), .val (.ref dt), .val (.ref b129), .val (.int (nar .boolean (own_mt xs a [nar .byte z135, nar .byte z141, nar .byte z147]))), .val (.int (1 : Int32)), .unset] [(.int x0)]
        refine w_aload ok at_160 rfl rfl ?_
        show W K l _ n0 _ h148 2 8 162 #[.val (.long dd), .second, .val (.long qq), .second, .val (.int at'), .val (.int sh), .val (.int pk), .val (.int dl), .val (.int (3 : Int32)), .val (.int a), .val (.ref dt), .val (.ref b129), .val (.int (nar .boolean (own_mt xs a [nar .byte z135, nar .byte z141, nar .byte z147]))), .val (.int (1 : Int32)), .unset] [(.ref b129), (.int x0)]
        refine w_iconst ok at_162 (v := (0 : Int32)) rfl ?_
        show W K l _ n0 _ h148 2 8 163 #[.val (.long dd), .second, .val (.long qq), .second, .val (.int at'), .val (.int sh), .val (.int pk), .val (.int dl), .val (.int (3 : Int32)), .val (.int a), .val (.ref dt), .val (.ref b129), .val (.int (nar .boolean (own_mt xs a [nar .byte z135, nar .byte z141, nar .byte z147]))), .val (.int (1 : Int32)), .unset] [(.int (0 : Int32)), (.ref b129), (.int x0)]
        refine w_baload ok (v := (.int (nar .byte z135))) at_163 A_b129 (by decide) rfl ?_
        show W K l _ n0 _ h148 2 8 164 #[.val (.long dd), .second, .val (.long qq), .second, .val (.int at'), .val (.int sh), .val (.int pk), .val (.int dl), .val (.int (3 : Int32)), .val (.int a), .val (.ref dt), .val (.ref b129), .val (.int (nar .boolean (own_mt xs a [nar .byte z135, nar .byte z141, nar .byte z147]))), .val (.int (1 : Int32)), .unset] [(.int (nar .byte z135)), (.int x0)]
        refine w_icmp_ne ok at_164 (pc' := 211) (by decide) (fun hc168 => ?_) (fun hc168 => ?_)
        · show W K l _ n0 _ h148 2 8 211 #[.val (.long dd), .second, .val (.long qq), .second, .val (.int at'), .val (.int sh), .val (.int pk), .val (.int dl), .val (.int (3 : Int32)), .val (.int a), .val (.ref dt), .val (.ref b129), .val (.int (nar .boolean (own_mt xs a [nar .byte z135, nar .byte z141, nar .byte z147]))), .val (.int (1 : Int32)), .unset] []
          refine w_iconst ok at_211 (v := (0 : Int32)) rfl ?_
          show W K l _ n0 _ h148 2 8 212 #[.val (.long dd), .second, .val (.long qq), .second, .val (.int at'), .val (.int sh), .val (.int pk), .val (.int dl), .val (.int (3 : Int32)), .val (.int a), .val (.ref dt), .val (.ref b129), .val (.int (nar .boolean (own_mt xs a [nar .byte z135, nar .byte z141, nar .byte z147]))), .val (.int (1 : Int32)), .unset] [(.int (0 : Int32))]
          refine w_istore ok at_212 (L' := #[.val (.long dd), .second, .val (.long qq), .second, .val (.int at'), .val (.int sh), .val (.int pk), .val (.int dl), .val (.int (3 : Int32)), .val (.int a), .val (.ref dt), .val (.ref b129), .val (.int (nar .boolean (own_mt xs a [nar .byte z135, nar .byte z141, nar .byte z147]))), .val (.int (1 : Int32)), .val (.int (0 : Int32))]) rfl ?_
          show W K l _ n0 _ h148 2 8 214 #[.val (.long dd), .second, .val (.long qq), .second, .val (.int at'), .val (.int sh), .val (.int pk), .val (.int dl), .val (.int (3 : Int32)), .val (.int a), .val (.ref dt), .val (.ref b129), .val (.int (nar .boolean (own_mt xs a [nar .byte z135, nar .byte z141, nar .byte z147]))), .val (.int (1 : Int32)), .val (.int (0 : Int32))] []
          refine w_iload ok at_214 rfl ?_
          show W K l _ n0 _ h148 2 8 216 #[.val (.long dd), .second, .val (.long qq), .second, .val (.int at'), .val (.int sh), .val (.int pk), .val (.int dl), .val (.int (3 : Int32)), .val (.int a), .val (.ref dt), .val (.ref b129), .val (.int (nar .boolean (own_mt xs a [nar .byte z135, nar .byte z141, nar .byte z147]))), .val (.int (1 : Int32)), .val (.int (0 : Int32))] [(.int (nar .boolean (own_mt xs a [nar .byte z135, nar .byte z141, nar .byte z147])))]
          refine w_iload ok at_216 rfl ?_
          show W K l _ n0 _ h148 2 8 218 #[.val (.long dd), .second, .val (.long qq), .second, .val (.int at'), .val (.int sh), .val (.int pk), .val (.int dl), .val (.int (3 : Int32)), .val (.int a), .val (.ref dt), .val (.ref b129), .val (.int (nar .boolean (own_mt xs a [nar .byte z135, nar .byte z141, nar .byte z147]))), .val (.int (1 : Int32)), .val (.int (0 : Int32))] [(.int (0 : Int32)), (.int (nar .boolean (own_mt xs a [nar .byte z135, nar .byte z141, nar .byte z147])))]
          refine w_icmp_ne ok at_218 (pc' := 225) (by decide) (fun hc170 => False.elim (by exact hc170 (by simp only [Int32.lt_iff_toInt_lt, es, Int32.reduceToInt] at hc152 hc158; rw [own_mt, if_neg (by show ¬ (_ ∨ _ < _ + (3 : Int)); omega)]; rw [own_pre_cons (n := a.toNatClampNeg) hx0, if_neg hc168] <;> rfl))) (fun hc170 => ?_)
          show W K l _ n0 _ h148 2 8 221 #[.val (.long dd), .second, .val (.long qq), .second, .val (.int at'), .val (.int sh), .val (.int pk), .val (.int dl), .val (.int (3 : Int32)), .val (.int a), .val (.ref dt), .val (.ref b129), .val (.int (nar .boolean (own_mt xs a [nar .byte z135, nar .byte z141, nar .byte z147]))), .val (.int (1 : Int32)), .val (.int (0 : Int32))] []
          refine w_iconst ok at_221 (v := (1 : Int32)) rfl ?_
          show W K l _ n0 _ h148 2 8 222 #[.val (.long dd), .second, .val (.long qq), .second, .val (.int at'), .val (.int sh), .val (.int pk), .val (.int dl), .val (.int (3 : Int32)), .val (.int a), .val (.ref dt), .val (.ref b129), .val (.int (nar .boolean (own_mt xs a [nar .byte z135, nar .byte z141, nar .byte z147]))), .val (.int (1 : Int32)), .val (.int (0 : Int32))] [(.int (1 : Int32))]
          refine w_goto ok at_222 (pc' := 226) (by decide) ?_
          show W K l _ n0 _ h148 2 8 226 #[.val (.long dd), .second, .val (.long qq), .second, .val (.int at'), .val (.int sh), .val (.int pk), .val (.int dl), .val (.int (3 : Int32)), .val (.int a), .val (.ref dt), .val (.ref b129), .val (.int (nar .boolean (own_mt xs a [nar .byte z135, nar .byte z141, nar .byte z147]))), .val (.int (1 : Int32)), .val (.int (0 : Int32))] [(.int (1 : Int32))]
          refine w_bret ok (by simp) at_226 (by decide) (by decide) ?_
          exact rfl
        · show W K l _ n0 _ h148 2 8 167 #[.val (.long dd), .second, .val (.long qq), .second, .val (.int at'), .val (.int sh), .val (.int pk), .val (.int dl), .val (.int (3 : Int32)), .val (.int a), .val (.ref dt), .val (.ref b129), .val (.int (nar .boolean (own_mt xs a [nar .byte z135, nar .byte z141, nar .byte z147]))), .val (.int (1 : Int32)), .unset] []
          refine w_iload ok at_167 rfl ?_
          show W K l _ n0 _ h148 2 8 169 #[.val (.long dd), .second, .val (.long qq), .second, .val (.int at'), .val (.int sh), .val (.int pk), .val (.int dl), .val (.int (3 : Int32)), .val (.int a), .val (.ref dt), .val (.ref b129), .val (.int (nar .boolean (own_mt xs a [nar .byte z135, nar .byte z141, nar .byte z147]))), .val (.int (1 : Int32)), .unset] [(.int (3 : Int32))]
          refine w_iconst ok at_169 (v := (2 : Int32)) rfl ?_
          show W K l _ n0 _ h148 2 8 170 #[.val (.long dd), .second, .val (.long qq), .second, .val (.int at'), .val (.int sh), .val (.int pk), .val (.int dl), .val (.int (3 : Int32)), .val (.int a), .val (.ref dt), .val (.ref b129), .val (.int (nar .boolean (own_mt xs a [nar .byte z135, nar .byte z141, nar .byte z147]))), .val (.int (1 : Int32)), .unset] [(.int (2 : Int32)), (.int (3 : Int32))]
          refine w_icmp_lt ok at_170 (pc' := 187) (by decide) (fun hc172 => False.elim (by revert hc172; decide)) (fun hc172 => ?_)
          show W K l _ n0 _ h148 2 8 173 #[.val (.long dd), .second, .val (.long qq), .second, .val (.int at'), .val (.int sh), .val (.int pk), .val (.int dl), .val (.int (3 : Int32)), .val (.int a), .val (.ref dt), .val (.ref b129), .val (.int (nar .boolean (own_mt xs a [nar .byte z135, nar .byte z141, nar .byte z147]))), .val (.int (1 : Int32)), .unset] []
          refine w_aload ok at_173 rfl rfl ?_
          show W K l _ n0 _ h148 2 8 175 #[.val (.long dd), .second, .val (.long qq), .second, .val (.int at'), .val (.int sh), .val (.int pk), .val (.int dl), .val (.int (3 : Int32)), .val (.int a), .val (.ref dt), .val (.ref b129), .val (.int (nar .boolean (own_mt xs a [nar .byte z135, nar .byte z141, nar .byte z147]))), .val (.int (1 : Int32)), .unset] [(.ref dt)]
          refine w_iload ok at_175 rfl ?_
          show W K l _ n0 _ h148 2 8 177 #[.val (.long dd), .second, .val (.long qq), .second, .val (.int at'), .val (.int sh), .val (.int pk), .val (.int dl), .val (.int (3 : Int32)), .val (.int a), .val (.ref dt), .val (.ref b129), .val (.int (nar .boolean (own_mt xs a [nar .byte z135, nar .byte z141, nar .byte z147]))), .val (.int (1 : Int32)), .unset] [(.int a), (.ref dt)]
          refine w_iconst ok at_177 (v := (1 : Int32)) rfl ?_
          show W K l _ n0 _ h148 2 8 178 #[.val (.long dd), .second, .val (.long qq), .second, .val (.int at'), .val (.int sh), .val (.int pk), .val (.int dl), .val (.int (3 : Int32)), .val (.int a), .val (.ref dt), .val (.ref b129), .val (.int (nar .boolean (own_mt xs a [nar .byte z135, nar .byte z141, nar .byte z147]))), .val (.int (1 : Int32)), .unset] [(.int (1 : Int32)), (.int a), (.ref dt)]
          refine w_iadd ok at_178 ?_
          show W K l _ n0 _ h148 2 8 179 #[.val (.long dd), .second, .val (.long qq), .second, .val (.int at'), .val (.int sh), .val (.int pk), .val (.int dl), .val (.int (3 : Int32)), .val (.int a), .val (.ref dt), .val (.ref b129), .val (.int (nar .boolean (own_mt xs a [nar .byte z135, nar .byte z141, nar .byte z147]))), .val (.int (1 : Int32)), .unset] [(.int (a + (1 : Int32))), (.ref dt)]
          have ei1 : (a + (1 : Int32)).toInt = ((a.toNatClampNeg + 1 : Nat) : Int) := own_ix 1 (by decide) (by omega) (by omega)
          obtain ⟨x1, hx1⟩ := own_ex (xs := xs) (i := a.toNatClampNeg + 1) (by omega)
          refine w_baload ok (v := (.int x1)) at_179 A_dt (own_nn ei1) (by rw [own_clamp ei1]; exact own_rd hx1) ?_
          show W K l _ n0 _ h148 2 8 180 #[.val (.long dd), .second, .val (.long qq), .second, .val (.int at'), .val (.int sh), .val (.int pk), .val (.int dl), .val (.int (3 : Int32)), .val (.int a), .val (.ref dt), .val (.ref b129), .val (.int (nar .boolean (own_mt xs a [nar .byte z135, nar .byte z141, nar .byte z147]))), .val (.int (1 : Int32)), .unset] [(.int x1)]
          refine w_aload ok at_180 rfl rfl ?_
          show W K l _ n0 _ h148 2 8 182 #[.val (.long dd), .second, .val (.long qq), .second, .val (.int at'), .val (.int sh), .val (.int pk), .val (.int dl), .val (.int (3 : Int32)), .val (.int a), .val (.ref dt), .val (.ref b129), .val (.int (nar .boolean (own_mt xs a [nar .byte z135, nar .byte z141, nar .byte z147]))), .val (.int (1 : Int32)), .unset] [(.ref b129), (.int x1)]
          refine w_iconst ok at_182 (v := (1 : Int32)) rfl ?_
          show W K l _ n0 _ h148 2 8 183 #[.val (.long dd), .second, .val (.long qq), .second, .val (.int at'), .val (.int sh), .val (.int pk), .val (.int dl), .val (.int (3 : Int32)), .val (.int a), .val (.ref dt), .val (.ref b129), .val (.int (nar .boolean (own_mt xs a [nar .byte z135, nar .byte z141, nar .byte z147]))), .val (.int (1 : Int32)), .unset] [(.int (1 : Int32)), (.ref b129), (.int x1)]
          refine w_baload ok (v := (.int (nar .byte z141))) at_183 A_b129 (by decide) rfl ?_
          show W K l _ n0 _ h148 2 8 184 #[.val (.long dd), .second, .val (.long qq), .second, .val (.int at'), .val (.int sh), .val (.int pk), .val (.int dl), .val (.int (3 : Int32)), .val (.int a), .val (.ref dt), .val (.ref b129), .val (.int (nar .boolean (own_mt xs a [nar .byte z135, nar .byte z141, nar .byte z147]))), .val (.int (1 : Int32)), .unset] [(.int (nar .byte z141)), (.int x1)]
          refine w_icmp_ne ok at_184 (pc' := 211) (by decide) (fun hc174 => ?_) (fun hc174 => ?_)
          · show W K l _ n0 _ h148 2 8 211 #[.val (.long dd), .second, .val (.long qq), .second, .val (.int at'), .val (.int sh), .val (.int pk), .val (.int dl), .val (.int (3 : Int32)), .val (.int a), .val (.ref dt), .val (.ref b129), .val (.int (nar .boolean (own_mt xs a [nar .byte z135, nar .byte z141, nar .byte z147]))), .val (.int (1 : Int32)), .unset] []
            refine w_iconst ok at_211 (v := (0 : Int32)) rfl ?_
            show W K l _ n0 _ h148 2 8 212 #[.val (.long dd), .second, .val (.long qq), .second, .val (.int at'), .val (.int sh), .val (.int pk), .val (.int dl), .val (.int (3 : Int32)), .val (.int a), .val (.ref dt), .val (.ref b129), .val (.int (nar .boolean (own_mt xs a [nar .byte z135, nar .byte z141, nar .byte z147]))), .val (.int (1 : Int32)), .unset] [(.int (0 : Int32))]
            refine w_istore ok at_212 (L' := #[.val (.long dd), .second, .val (.long qq), .second, .val (.int at'), .val (.int sh), .val (.int pk), .val (.int dl), .val (.int (3 : Int32)), .val (.int a), .val (.ref dt), .val (.ref b129), .val (.int (nar .boolean (own_mt xs a [nar .byte z135, nar .byte z141, nar .byte z147]))), .val (.int (1 : Int32)), .val (.int (0 : Int32))]) rfl ?_
            show W K l _ n0 _ h148 2 8 214 #[.val (.long dd), .second, .val (.long qq), .second, .val (.int at'), .val (.int sh), .val (.int pk), .val (.int dl), .val (.int (3 : Int32)), .val (.int a), .val (.ref dt), .val (.ref b129), .val (.int (nar .boolean (own_mt xs a [nar .byte z135, nar .byte z141, nar .byte z147]))), .val (.int (1 : Int32)), .val (.int (0 : Int32))] []
            refine w_iload ok at_214 rfl ?_
            show W K l _ n0 _ h148 2 8 216 #[.val (.long dd), .second, .val (.long qq), .second, .val (.int at'), .val (.int sh), .val (.int pk), .val (.int dl), .val (.int (3 : Int32)), .val (.int a), .val (.ref dt), .val (.ref b129), .val (.int (nar .boolean (own_mt xs a [nar .byte z135, nar .byte z141, nar .byte z147]))), .val (.int (1 : Int32)), .val (.int (0 : Int32))] [(.int (nar .boolean (own_mt xs a [nar .byte z135, nar .byte z141, nar .byte z147])))]
            refine w_iload ok at_216 rfl ?_
            show W K l _ n0 _ h148 2 8 218 #[.val (.long dd), .second, .val (.long qq), .second, .val (.int at'), .val (.int sh), .val (.int pk), .val (.int dl), .val (.int (3 : Int32)), .val (.int a), .val (.ref dt), .val (.ref b129), .val (.int (nar .boolean (own_mt xs a [nar .byte z135, nar .byte z141, nar .byte z147]))), .val (.int (1 : Int32)), .val (.int (0 : Int32))] [(.int (0 : Int32)), (.int (nar .boolean (own_mt xs a [nar .byte z135, nar .byte z141, nar .byte z147])))]
            refine w_icmp_ne ok at_218 (pc' := 225) (by decide) (fun hc176 => False.elim (by exact hc176 (by simp only [Int32.lt_iff_toInt_lt, es, Int32.reduceToInt] at hc152 hc158; rw [own_mt, if_neg (by show ¬ (_ ∨ _ < _ + (3 : Int)); omega)]; rw [own_pre_cons (n := a.toNatClampNeg) hx0, if_pos hc168]; rw [own_pre_cons (n := a.toNatClampNeg + 1) hx1, if_neg hc174] <;> rfl))) (fun hc176 => ?_)
            show W K l _ n0 _ h148 2 8 221 #[.val (.long dd), .second, .val (.long qq), .second, .val (.int at'), .val (.int sh), .val (.int pk), .val (.int dl), .val (.int (3 : Int32)), .val (.int a), .val (.ref dt), .val (.ref b129), .val (.int (nar .boolean (own_mt xs a [nar .byte z135, nar .byte z141, nar .byte z147]))), .val (.int (1 : Int32)), .val (.int (0 : Int32))] []
            refine w_iconst ok at_221 (v := (1 : Int32)) rfl ?_
            show W K l _ n0 _ h148 2 8 222 #[.val (.long dd), .second, .val (.long qq), .second, .val (.int at'), .val (.int sh), .val (.int pk), .val (.int dl), .val (.int (3 : Int32)), .val (.int a), .val (.ref dt), .val (.ref b129), .val (.int (nar .boolean (own_mt xs a [nar .byte z135, nar .byte z141, nar .byte z147]))), .val (.int (1 : Int32)), .val (.int (0 : Int32))] [(.int (1 : Int32))]
            refine w_goto ok at_222 (pc' := 226) (by decide) ?_
            show W K l _ n0 _ h148 2 8 226 #[.val (.long dd), .second, .val (.long qq), .second, .val (.int at'), .val (.int sh), .val (.int pk), .val (.int dl), .val (.int (3 : Int32)), .val (.int a), .val (.ref dt), .val (.ref b129), .val (.int (nar .boolean (own_mt xs a [nar .byte z135, nar .byte z141, nar .byte z147]))), .val (.int (1 : Int32)), .val (.int (0 : Int32))] [(.int (1 : Int32))]
            refine w_bret ok (by simp) at_226 (by decide) (by decide) ?_
            exact rfl
          · show W K l _ n0 _ h148 2 8 187 #[.val (.long dd), .second, .val (.long qq), .second, .val (.int at'), .val (.int sh), .val (.int pk), .val (.int dl), .val (.int (3 : Int32)), .val (.int a), .val (.ref dt), .val (.ref b129), .val (.int (nar .boolean (own_mt xs a [nar .byte z135, nar .byte z141, nar .byte z147]))), .val (.int (1 : Int32)), .unset] []
            refine w_iload ok at_187 rfl ?_
            show W K l _ n0 _ h148 2 8 189 #[.val (.long dd), .second, .val (.long qq), .second, .val (.int at'), .val (.int sh), .val (.int pk), .val (.int dl), .val (.int (3 : Int32)), .val (.int a), .val (.ref dt), .val (.ref b129), .val (.int (nar .boolean (own_mt xs a [nar .byte z135, nar .byte z141, nar .byte z147]))), .val (.int (1 : Int32)), .unset] [(.int (3 : Int32))]
            refine w_iconst ok at_189 (v := (3 : Int32)) rfl ?_
            show W K l _ n0 _ h148 2 8 190 #[.val (.long dd), .second, .val (.long qq), .second, .val (.int at'), .val (.int sh), .val (.int pk), .val (.int dl), .val (.int (3 : Int32)), .val (.int a), .val (.ref dt), .val (.ref b129), .val (.int (nar .boolean (own_mt xs a [nar .byte z135, nar .byte z141, nar .byte z147]))), .val (.int (1 : Int32)), .unset] [(.int (3 : Int32)), (.int (3 : Int32))]
            refine w_icmp_lt ok at_190 (pc' := 207) (by decide) (fun hc178 => False.elim (by revert hc178; decide)) (fun hc178 => ?_)
            show W K l _ n0 _ h148 2 8 193 #[.val (.long dd), .second, .val (.long qq), .second, .val (.int at'), .val (.int sh), .val (.int pk), .val (.int dl), .val (.int (3 : Int32)), .val (.int a), .val (.ref dt), .val (.ref b129), .val (.int (nar .boolean (own_mt xs a [nar .byte z135, nar .byte z141, nar .byte z147]))), .val (.int (1 : Int32)), .unset] []
            refine w_aload ok at_193 rfl rfl ?_
            show W K l _ n0 _ h148 2 8 195 #[.val (.long dd), .second, .val (.long qq), .second, .val (.int at'), .val (.int sh), .val (.int pk), .val (.int dl), .val (.int (3 : Int32)), .val (.int a), .val (.ref dt), .val (.ref b129), .val (.int (nar .boolean (own_mt xs a [nar .byte z135, nar .byte z141, nar .byte z147]))), .val (.int (1 : Int32)), .unset] [(.ref dt)]
            refine w_iload ok at_195 rfl ?_
            show W K l _ n0 _ h148 2 8 197 #[.val (.long dd), .second, .val (.long qq), .second, .val (.int at'), .val (.int sh), .val (.int pk), .val (.int dl), .val (.int (3 : Int32)), .val (.int a), .val (.ref dt), .val (.ref b129), .val (.int (nar .boolean (own_mt xs a [nar .byte z135, nar .byte z141, nar .byte z147]))), .val (.int (1 : Int32)), .unset] [(.int a), (.ref dt)]
            refine w_iconst ok at_197 (v := (2 : Int32)) rfl ?_
            show W K l _ n0 _ h148 2 8 198 #[.val (.long dd), .second, .val (.long qq), .second, .val (.int at'), .val (.int sh), .val (.int pk), .val (.int dl), .val (.int (3 : Int32)), .val (.int a), .val (.ref dt), .val (.ref b129), .val (.int (nar .boolean (own_mt xs a [nar .byte z135, nar .byte z141, nar .byte z147]))), .val (.int (1 : Int32)), .unset] [(.int (2 : Int32)), (.int a), (.ref dt)]
            refine w_iadd ok at_198 ?_
            show W K l _ n0 _ h148 2 8 199 #[.val (.long dd), .second, .val (.long qq), .second, .val (.int at'), .val (.int sh), .val (.int pk), .val (.int dl), .val (.int (3 : Int32)), .val (.int a), .val (.ref dt), .val (.ref b129), .val (.int (nar .boolean (own_mt xs a [nar .byte z135, nar .byte z141, nar .byte z147]))), .val (.int (1 : Int32)), .unset] [(.int (a + (2 : Int32))), (.ref dt)]
            have hA : 0 ≤ a.toInt := by have q := hc152; simp only [Int32.lt_iff_toInt_lt, Int32.reduceToInt] at q; omega
            have hB : a.toInt ≤ dl.toInt - 3 := by have q := hc158; simp only [Int32.lt_iff_toInt_lt, es] at q; omega
            have ei2 : (a + (2 : Int32)).toInt = ((a.toNatClampNeg + 2 : Nat) : Int) := own_ix 2 (by decide) (by omega) (by omega)
            obtain ⟨x2, hx2⟩ := own_ex (xs := xs) (i := a.toNatClampNeg + 2) (by omega)
            refine w_baload ok (v := (.int x2)) at_199 A_dt (own_nn ei2) (by rw [own_clamp ei2]; exact own_rd hx2) ?_
            show W K l _ n0 _ h148 2 8 200 #[.val (.long dd), .second, .val (.long qq), .second, .val (.int at'), .val (.int sh), .val (.int pk), .val (.int dl), .val (.int (3 : Int32)), .val (.int a), .val (.ref dt), .val (.ref b129), .val (.int (nar .boolean (own_mt xs a [nar .byte z135, nar .byte z141, nar .byte z147]))), .val (.int (1 : Int32)), .unset] [(.int x2)]
            refine w_aload ok at_200 rfl rfl ?_
            show W K l _ n0 _ h148 2 8 202 #[.val (.long dd), .second, .val (.long qq), .second, .val (.int at'), .val (.int sh), .val (.int pk), .val (.int dl), .val (.int (3 : Int32)), .val (.int a), .val (.ref dt), .val (.ref b129), .val (.int (nar .boolean (own_mt xs a [nar .byte z135, nar .byte z141, nar .byte z147]))), .val (.int (1 : Int32)), .unset] [(.ref b129), (.int x2)]
            refine w_iconst ok at_202 (v := (2 : Int32)) rfl ?_
            show W K l _ n0 _ h148 2 8 203 #[.val (.long dd), .second, .val (.long qq), .second, .val (.int at'), .val (.int sh), .val (.int pk), .val (.int dl), .val (.int (3 : Int32)), .val (.int a), .val (.ref dt), .val (.ref b129), .val (.int (nar .boolean (own_mt xs a [nar .byte z135, nar .byte z141, nar .byte z147]))), .val (.int (1 : Int32)), .unset] [(.int (2 : Int32)), (.ref b129), (.int x2)]
            refine w_baload ok (v := (.int (nar .byte z147))) at_203 A_b129 (by decide) rfl ?_
            show W K l _ n0 _ h148 2 8 204 #[.val (.long dd), .second, .val (.long qq), .second, .val (.int at'), .val (.int sh), .val (.int pk), .val (.int dl), .val (.int (3 : Int32)), .val (.int a), .val (.ref dt), .val (.ref b129), .val (.int (nar .boolean (own_mt xs a [nar .byte z135, nar .byte z141, nar .byte z147]))), .val (.int (1 : Int32)), .unset] [(.int (nar .byte z147)), (.int x2)]
            refine w_icmp_ne ok at_204 (pc' := 211) (by decide) (fun hc180 => ?_) (fun hc180 => ?_)
            · show W K l _ n0 _ h148 2 8 211 #[.val (.long dd), .second, .val (.long qq), .second, .val (.int at'), .val (.int sh), .val (.int pk), .val (.int dl), .val (.int (3 : Int32)), .val (.int a), .val (.ref dt), .val (.ref b129), .val (.int (nar .boolean (own_mt xs a [nar .byte z135, nar .byte z141, nar .byte z147]))), .val (.int (1 : Int32)), .unset] []
              refine w_iconst ok at_211 (v := (0 : Int32)) rfl ?_
              show W K l _ n0 _ h148 2 8 212 #[.val (.long dd), .second, .val (.long qq), .second, .val (.int at'), .val (.int sh), .val (.int pk), .val (.int dl), .val (.int (3 : Int32)), .val (.int a), .val (.ref dt), .val (.ref b129), .val (.int (nar .boolean (own_mt xs a [nar .byte z135, nar .byte z141, nar .byte z147]))), .val (.int (1 : Int32)), .unset] [(.int (0 : Int32))]
              refine w_istore ok at_212 (L' := #[.val (.long dd), .second, .val (.long qq), .second, .val (.int at'), .val (.int sh), .val (.int pk), .val (.int dl), .val (.int (3 : Int32)), .val (.int a), .val (.ref dt), .val (.ref b129), .val (.int (nar .boolean (own_mt xs a [nar .byte z135, nar .byte z141, nar .byte z147]))), .val (.int (1 : Int32)), .val (.int (0 : Int32))]) rfl ?_
              show W K l _ n0 _ h148 2 8 214 #[.val (.long dd), .second, .val (.long qq), .second, .val (.int at'), .val (.int sh), .val (.int pk), .val (.int dl), .val (.int (3 : Int32)), .val (.int a), .val (.ref dt), .val (.ref b129), .val (.int (nar .boolean (own_mt xs a [nar .byte z135, nar .byte z141, nar .byte z147]))), .val (.int (1 : Int32)), .val (.int (0 : Int32))] []
              refine w_iload ok at_214 rfl ?_
              show W K l _ n0 _ h148 2 8 216 #[.val (.long dd), .second, .val (.long qq), .second, .val (.int at'), .val (.int sh), .val (.int pk), .val (.int dl), .val (.int (3 : Int32)), .val (.int a), .val (.ref dt), .val (.ref b129), .val (.int (nar .boolean (own_mt xs a [nar .byte z135, nar .byte z141, nar .byte z147]))), .val (.int (1 : Int32)), .val (.int (0 : Int32))] [(.int (nar .boolean (own_mt xs a [nar .byte z135, nar .byte z141, nar .byte z147])))]
              refine w_iload ok at_216 rfl ?_
              show W K l _ n0 _ h148 2 8 218 #[.val (.long dd), .second, .val (.long qq), .second, .val (.int at'), .val (.int sh), .val (.int pk), .val (.int dl), .val (.int (3 : Int32)), .val (.int a), .val (.ref dt), .val (.ref b129), .val (.int (nar .boolean (own_mt xs a [nar .byte z135, nar .byte z141, nar .byte z147]))), .val (.int (1 : Int32)), .val (.int (0 : Int32))] [(.int (0 : Int32)), (.int (nar .boolean (own_mt xs a [nar .byte z135, nar .byte z141, nar .byte z147])))]
              refine w_icmp_ne ok at_218 (pc' := 225) (by decide) (fun hc182 => False.elim (by exact hc182 (by simp only [Int32.lt_iff_toInt_lt, es, Int32.reduceToInt] at hc152 hc158; rw [own_mt, if_neg (by show ¬ (_ ∨ _ < _ + (3 : Int)); omega)]; rw [own_pre_cons (n := a.toNatClampNeg) hx0, if_pos hc168]; rw [own_pre_cons (n := a.toNatClampNeg + 1) hx1, if_pos hc174]; rw [own_pre_cons (n := a.toNatClampNeg + 2) hx2, if_neg hc180] <;> rfl))) (fun hc182 => ?_)
              show W K l _ n0 _ h148 2 8 221 #[.val (.long dd), .second, .val (.long qq), .second, .val (.int at'), .val (.int sh), .val (.int pk), .val (.int dl), .val (.int (3 : Int32)), .val (.int a), .val (.ref dt), .val (.ref b129), .val (.int (nar .boolean (own_mt xs a [nar .byte z135, nar .byte z141, nar .byte z147]))), .val (.int (1 : Int32)), .val (.int (0 : Int32))] []
              refine w_iconst ok at_221 (v := (1 : Int32)) rfl ?_
              show W K l _ n0 _ h148 2 8 222 #[.val (.long dd), .second, .val (.long qq), .second, .val (.int at'), .val (.int sh), .val (.int pk), .val (.int dl), .val (.int (3 : Int32)), .val (.int a), .val (.ref dt), .val (.ref b129), .val (.int (nar .boolean (own_mt xs a [nar .byte z135, nar .byte z141, nar .byte z147]))), .val (.int (1 : Int32)), .val (.int (0 : Int32))] [(.int (1 : Int32))]
              refine w_goto ok at_222 (pc' := 226) (by decide) ?_
              show W K l _ n0 _ h148 2 8 226 #[.val (.long dd), .second, .val (.long qq), .second, .val (.int at'), .val (.int sh), .val (.int pk), .val (.int dl), .val (.int (3 : Int32)), .val (.int a), .val (.ref dt), .val (.ref b129), .val (.int (nar .boolean (own_mt xs a [nar .byte z135, nar .byte z141, nar .byte z147]))), .val (.int (1 : Int32)), .val (.int (0 : Int32))] [(.int (1 : Int32))]
              refine w_bret ok (by simp) at_226 (by decide) (by decide) ?_
              exact rfl
            · show W K l _ n0 _ h148 2 8 207 #[.val (.long dd), .second, .val (.long qq), .second, .val (.int at'), .val (.int sh), .val (.int pk), .val (.int dl), .val (.int (3 : Int32)), .val (.int a), .val (.ref dt), .val (.ref b129), .val (.int (nar .boolean (own_mt xs a [nar .byte z135, nar .byte z141, nar .byte z147]))), .val (.int (1 : Int32)), .unset] []
              refine w_iconst ok at_207 (v := (1 : Int32)) rfl ?_
              show W K l _ n0 _ h148 2 8 208 #[.val (.long dd), .second, .val (.long qq), .second, .val (.int at'), .val (.int sh), .val (.int pk), .val (.int dl), .val (.int (3 : Int32)), .val (.int a), .val (.ref dt), .val (.ref b129), .val (.int (nar .boolean (own_mt xs a [nar .byte z135, nar .byte z141, nar .byte z147]))), .val (.int (1 : Int32)), .unset] [(.int (1 : Int32))]
              refine w_goto ok at_208 (pc' := 212) (by decide) ?_
              show W K l _ n0 _ h148 2 8 212 #[.val (.long dd), .second, .val (.long qq), .second, .val (.int at'), .val (.int sh), .val (.int pk), .val (.int dl), .val (.int (3 : Int32)), .val (.int a), .val (.ref dt), .val (.ref b129), .val (.int (nar .boolean (own_mt xs a [nar .byte z135, nar .byte z141, nar .byte z147]))), .val (.int (1 : Int32)), .unset] [(.int (1 : Int32))]
              refine w_istore ok at_212 (L' := #[.val (.long dd), .second, .val (.long qq), .second, .val (.int at'), .val (.int sh), .val (.int pk), .val (.int dl), .val (.int (3 : Int32)), .val (.int a), .val (.ref dt), .val (.ref b129), .val (.int (nar .boolean (own_mt xs a [nar .byte z135, nar .byte z141, nar .byte z147]))), .val (.int (1 : Int32)), .val (.int (1 : Int32))]) rfl ?_
              show W K l _ n0 _ h148 2 8 214 #[.val (.long dd), .second, .val (.long qq), .second, .val (.int at'), .val (.int sh), .val (.int pk), .val (.int dl), .val (.int (3 : Int32)), .val (.int a), .val (.ref dt), .val (.ref b129), .val (.int (nar .boolean (own_mt xs a [nar .byte z135, nar .byte z141, nar .byte z147]))), .val (.int (1 : Int32)), .val (.int (1 : Int32))] []
              refine w_iload ok at_214 rfl ?_
              show W K l _ n0 _ h148 2 8 216 #[.val (.long dd), .second, .val (.long qq), .second, .val (.int at'), .val (.int sh), .val (.int pk), .val (.int dl), .val (.int (3 : Int32)), .val (.int a), .val (.ref dt), .val (.ref b129), .val (.int (nar .boolean (own_mt xs a [nar .byte z135, nar .byte z141, nar .byte z147]))), .val (.int (1 : Int32)), .val (.int (1 : Int32))] [(.int (nar .boolean (own_mt xs a [nar .byte z135, nar .byte z141, nar .byte z147])))]
              refine w_iload ok at_216 rfl ?_
              show W K l _ n0 _ h148 2 8 218 #[.val (.long dd), .second, .val (.long qq), .second, .val (.int at'), .val (.int sh), .val (.int pk), .val (.int dl), .val (.int (3 : Int32)), .val (.int a), .val (.ref dt), .val (.ref b129), .val (.int (nar .boolean (own_mt xs a [nar .byte z135, nar .byte z141, nar .byte z147]))), .val (.int (1 : Int32)), .val (.int (1 : Int32))] [(.int (1 : Int32)), (.int (nar .boolean (own_mt xs a [nar .byte z135, nar .byte z141, nar .byte z147])))]
              refine w_icmp_ne ok at_218 (pc' := 225) (by decide) (fun hc184 => False.elim (by exact hc184 (by simp only [Int32.lt_iff_toInt_lt, es, Int32.reduceToInt] at hc152 hc158; rw [own_mt, if_neg (by show ¬ (_ ∨ _ < _ + (3 : Int)); omega)]; rw [own_pre_cons (n := a.toNatClampNeg) hx0, if_pos hc168]; rw [own_pre_cons (n := a.toNatClampNeg + 1) hx1, if_pos hc174]; rw [own_pre_cons (n := a.toNatClampNeg + 2) hx2, if_pos hc180]; rw [own_pre_nil] <;> rfl))) (fun hc184 => ?_)
              show W K l _ n0 _ h148 2 8 221 #[.val (.long dd), .second, .val (.long qq), .second, .val (.int at'), .val (.int sh), .val (.int pk), .val (.int dl), .val (.int (3 : Int32)), .val (.int a), .val (.ref dt), .val (.ref b129), .val (.int (nar .boolean (own_mt xs a [nar .byte z135, nar .byte z141, nar .byte z147]))), .val (.int (1 : Int32)), .val (.int (1 : Int32))] []
              refine w_iconst ok at_221 (v := (1 : Int32)) rfl ?_
              show W K l _ n0 _ h148 2 8 222 #[.val (.long dd), .second, .val (.long qq), .second, .val (.int at'), .val (.int sh), .val (.int pk), .val (.int dl), .val (.int (3 : Int32)), .val (.int a), .val (.ref dt), .val (.ref b129), .val (.int (nar .boolean (own_mt xs a [nar .byte z135, nar .byte z141, nar .byte z147]))), .val (.int (1 : Int32)), .val (.int (1 : Int32))] [(.int (1 : Int32))]
              refine w_goto ok at_222 (pc' := 226) (by decide) ?_
              show W K l _ n0 _ h148 2 8 226 #[.val (.long dd), .second, .val (.long qq), .second, .val (.int at'), .val (.int sh), .val (.int pk), .val (.int dl), .val (.int (3 : Int32)), .val (.int a), .val (.ref dt), .val (.ref b129), .val (.int (nar .boolean (own_mt xs a [nar .byte z135, nar .byte z141, nar .byte z147]))), .val (.int (1 : Int32)), .val (.int (1 : Int32))] [(.int (1 : Int32))]
              refine w_bret ok (by simp) at_226 (by decide) (by decide) ?_
              exact rfl
theorem own_dl (sh : Int32) : (sh &&& 7) % 6 = 0 ∨ (sh &&& 7) % 6 = 1 ∨ (sh &&& 7) % 6 = 2 ∨ (sh &&& 7) % 6 = 3 ∨ (sh &&& 7) % 6 = 4 ∨ (sh &&& 7) % 6 = 5 := by
  have h1 := c_mask sh 7 3 (by decide) (by decide); have h2 := (c_irem (sh &&& 7) 6 6 rfl).1 (by omega)
  simp only [← Int32.toInt_inj, Int32.reduceToInt]; omega
theorem own_pl (x : Int32) : x &&& 3 = 0 ∨ x &&& 3 = 1 ∨ x &&& 3 = 2 ∨ x &&& 3 = 3 := by
  have h1 := c_mask x 3 2 (by decide) (by decide)
  simp only [← Int32.toInt_inj, Int32.reduceToInt]; omega
theorem own_a7 (x : Int32) : (x &&& 7).toInt ≤ 7 := by have h1 := c_mask x 7 3 (by decide) (by decide); omega
set_option maxRecDepth 65536 in
set_option maxHeartbeats 40000000 in
theorem rm0 (l : Launch) (Z : State) (a0 : Array Value) (hw : ∀ d ∈ tables_1, d.before a0 Z = true) (ws : List Jvm.Cond) (n0 : Nat) (h0 : Heap) (Z0 : n0 ≤ h0.size) (dd qq : Int64) (at' sh pk : Int32)  :
    Met l Z n0 x code maxLocals ret ws room_1 #[(.long dd), (.long qq), (.int at'), (.int sh), (.int pk)] h0 (fun u h => u = some (.int 1)) := by
  refine met_of Z0 (plainFor_of_name pn_com_example_nakami_nakami_pdf_BytesMatchesPinLaw) (Ls := #[.val (.long dd), .second, .val (.long qq), .second, .val (.int at'), .val (.int sh), .val (.int pk), .unset, .unset, .unset, .unset, .unset, .unset, .unset, .unset]) (fun m => by first | (simp [entryFrame, mkF, argsToLocals, Value.category, maxLocals]; done) | rfl) ?_
  intro K ok
  show W K l _ n0 _ h0 0 0 0 #[.val (.long dd), .second, .val (.long qq), .second, .val (.int at'), .val (.int sh), .val (.int pk), .unset, .unset, .unset, .unset, .unset, .unset, .unset, .unset] []
  refine w_iload ok at_0 rfl ?_
  show W K l _ n0 _ h0 0 0 2 #[.val (.long dd), .second, .val (.long qq), .second, .val (.int at'), .val (.int sh), .val (.int pk), .unset, .unset, .unset, .unset, .unset, .unset, .unset, .unset] [(.int sh)]
  refine w_bipush ok at_2 (v := (7 : Int32)) rfl ?_
  show W K l _ n0 _ h0 0 0 4 #[.val (.long dd), .second, .val (.long qq), .second, .val (.int at'), .val (.int sh), .val (.int pk), .unset, .unset, .unset, .unset, .unset, .unset, .unset, .unset] [(.int (7 : Int32)), (.int sh)]
  refine w_iand ok at_4 ?_
  show W K l _ n0 _ h0 0 0 5 #[.val (.long dd), .second, .val (.long qq), .second, .val (.int at'), .val (.int sh), .val (.int pk), .unset, .unset, .unset, .unset, .unset, .unset, .unset, .unset] [(.int (sh &&& (7 : Int32)))]
  refine w_bipush ok at_5 (v := (6 : Int32)) rfl ?_
  show W K l _ n0 _ h0 0 0 7 #[.val (.long dd), .second, .val (.long qq), .second, .val (.int at'), .val (.int sh), .val (.int pk), .unset, .unset, .unset, .unset, .unset, .unset, .unset, .unset] [(.int (6 : Int32)), (.int (sh &&& (7 : Int32)))]
  refine w_irem ok at_7 (by decide) ?_
  show W K l _ n0 _ h0 0 0 8 #[.val (.long dd), .second, .val (.long qq), .second, .val (.int at'), .val (.int sh), .val (.int pk), .unset, .unset, .unset, .unset, .unset, .unset, .unset, .unset] [(.int ((sh &&& (7 : Int32)) % (6 : Int32)))]
  refine w_istore ok at_8 (L' := #[.val (.long dd), .second, .val (.long qq), .second, .val (.int at'), .val (.int sh), .val (.int pk), .val (.int ((sh &&& (7 : Int32)) % (6 : Int32))), .unset, .unset, .unset, .unset, .unset, .unset, .unset]) rfl ?_
  show W K l _ n0 _ h0 0 0 10 #[.val (.long dd), .second, .val (.long qq), .second, .val (.int at'), .val (.int sh), .val (.int pk), .val (.int ((sh &&& (7 : Int32)) % (6 : Int32))), .unset, .unset, .unset, .unset, .unset, .unset, .unset] []
  refine w_iload ok at_10 rfl ?_
  show W K l _ n0 _ h0 0 0 12 #[.val (.long dd), .second, .val (.long qq), .second, .val (.int at'), .val (.int sh), .val (.int pk), .val (.int ((sh &&& (7 : Int32)) % (6 : Int32))), .unset, .unset, .unset, .unset, .unset, .unset, .unset] [(.int sh)]
  refine w_iconst ok at_12 (v := (3 : Int32)) rfl ?_
  show W K l _ n0 _ h0 0 0 13 #[.val (.long dd), .second, .val (.long qq), .second, .val (.int at'), .val (.int sh), .val (.int pk), .val (.int ((sh &&& (7 : Int32)) % (6 : Int32))), .unset, .unset, .unset, .unset, .unset, .unset, .unset] [(.int (3 : Int32)), (.int sh)]
  refine w_iushr ok at_13 ?_
  show W K l _ n0 _ h0 0 0 14 #[.val (.long dd), .second, .val (.long qq), .second, .val (.int at'), .val (.int sh), .val (.int pk), .val (.int ((sh &&& (7 : Int32)) % (6 : Int32))), .unset, .unset, .unset, .unset, .unset, .unset, .unset] [(.int (Jvm.Free.XT.ushr sh (3 : Int32)))]
  refine w_iconst ok at_14 (v := (3 : Int32)) rfl ?_
  show W K l _ n0 _ h0 0 0 15 #[.val (.long dd), .second, .val (.long qq), .second, .val (.int at'), .val (.int sh), .val (.int pk), .val (.int ((sh &&& (7 : Int32)) % (6 : Int32))), .unset, .unset, .unset, .unset, .unset, .unset, .unset] [(.int (3 : Int32)), (.int (Jvm.Free.XT.ushr sh (3 : Int32)))]
  refine w_iand ok at_15 ?_
  show W K l _ n0 _ h0 0 0 16 #[.val (.long dd), .second, .val (.long qq), .second, .val (.int at'), .val (.int sh), .val (.int pk), .val (.int ((sh &&& (7 : Int32)) % (6 : Int32))), .unset, .unset, .unset, .unset, .unset, .unset, .unset] [(.int ((Jvm.Free.XT.ushr sh (3 : Int32)) &&& (3 : Int32)))]
  refine w_istore ok at_16 (L' := #[.val (.long dd), .second, .val (.long qq), .second, .val (.int at'), .val (.int sh), .val (.int pk), .val (.int ((sh &&& (7 : Int32)) % (6 : Int32))), .val (.int ((Jvm.Free.XT.ushr sh (3 : Int32)) &&& (3 : Int32))), .unset, .unset, .unset, .unset, .unset, .unset]) rfl ?_
  show W K l _ n0 _ h0 0 0 18 #[.val (.long dd), .second, .val (.long qq), .second, .val (.int at'), .val (.int sh), .val (.int pk), .val (.int ((sh &&& (7 : Int32)) % (6 : Int32))), .val (.int ((Jvm.Free.XT.ushr sh (3 : Int32)) &&& (3 : Int32))), .unset, .unset, .unset, .unset, .unset, .unset] []
  refine w_iload ok at_18 rfl ?_
  show W K l _ n0 _ h0 0 0 20 #[.val (.long dd), .second, .val (.long qq), .second, .val (.int at'), .val (.int sh), .val (.int pk), .val (.int ((sh &&& (7 : Int32)) % (6 : Int32))), .val (.int ((Jvm.Free.XT.ushr sh (3 : Int32)) &&& (3 : Int32))), .unset, .unset, .unset, .unset, .unset, .unset] [(.int at')]
  refine w_if_ge ok at_20 (pc' := 28) (by decide) (fun hc1 => ?_) (fun hc1 => ?_)
  · show W K l _ n0 _ h0 0 0 28 #[.val (.long dd), .second, .val (.long qq), .second, .val (.int at'), .val (.int sh), .val (.int pk), .val (.int ((sh &&& (7 : Int32)) % (6 : Int32))), .val (.int ((Jvm.Free.XT.ushr sh (3 : Int32)) &&& (3 : Int32))), .unset, .unset, .unset, .unset, .unset, .unset] []
    refine w_iload ok at_28 rfl ?_
    show W K l _ n0 _ h0 0 0 30 #[.val (.long dd), .second, .val (.long qq), .second, .val (.int at'), .val (.int sh), .val (.int pk), .val (.int ((sh &&& (7 : Int32)) % (6 : Int32))), .val (.int ((Jvm.Free.XT.ushr sh (3 : Int32)) &&& (3 : Int32))), .unset, .unset, .unset, .unset, .unset, .unset] [(.int at')]
    refine w_bipush ok at_30 (v := (7 : Int32)) rfl ?_
    show W K l _ n0 _ h0 0 0 32 #[.val (.long dd), .second, .val (.long qq), .second, .val (.int at'), .val (.int sh), .val (.int pk), .val (.int ((sh &&& (7 : Int32)) % (6 : Int32))), .val (.int ((Jvm.Free.XT.ushr sh (3 : Int32)) &&& (3 : Int32))), .unset, .unset, .unset, .unset, .unset, .unset] [(.int (7 : Int32)), (.int at')]
    refine w_iand ok at_32 ?_
    show W K l _ n0 _ h0 0 0 33 #[.val (.long dd), .second, .val (.long qq), .second, .val (.int at'), .val (.int sh), .val (.int pk), .val (.int ((sh &&& (7 : Int32)) % (6 : Int32))), .val (.int ((Jvm.Free.XT.ushr sh (3 : Int32)) &&& (3 : Int32))), .unset, .unset, .unset, .unset, .unset, .unset] [(.int (at' &&& (7 : Int32)))]
    refine w_istore ok at_33 (L' := #[.val (.long dd), .second, .val (.long qq), .second, .val (.int at'), .val (.int sh), .val (.int pk), .val (.int ((sh &&& (7 : Int32)) % (6 : Int32))), .val (.int ((Jvm.Free.XT.ushr sh (3 : Int32)) &&& (3 : Int32))), .val (.int (at' &&& (7 : Int32))), .unset, .unset, .unset, .unset, .unset]) rfl ?_
    show W K l _ n0 _ h0 0 0 35 #[.val (.long dd), .second, .val (.long qq), .second, .val (.int at'), .val (.int sh), .val (.int pk), .val (.int ((sh &&& (7 : Int32)) % (6 : Int32))), .val (.int ((Jvm.Free.XT.ushr sh (3 : Int32)) &&& (3 : Int32))), .val (.int (at' &&& (7 : Int32))), .unset, .unset, .unset, .unset, .unset] []
    exact c35 l Z a0 hw n0 h0 K ok Z0 dd qq at' sh pk _ _ _ (own_dl _) (own_pl _) (own_a7 _)
  · show W K l _ n0 _ h0 0 0 23 #[.val (.long dd), .second, .val (.long qq), .second, .val (.int at'), .val (.int sh), .val (.int pk), .val (.int ((sh &&& (7 : Int32)) % (6 : Int32))), .val (.int ((Jvm.Free.XT.ushr sh (3 : Int32)) &&& (3 : Int32))), .unset, .unset, .unset, .unset, .unset, .unset] []
    refine w_iload ok at_23 rfl ?_
    show W K l _ n0 _ h0 0 0 25 #[.val (.long dd), .second, .val (.long qq), .second, .val (.int at'), .val (.int sh), .val (.int pk), .val (.int ((sh &&& (7 : Int32)) % (6 : Int32))), .val (.int ((Jvm.Free.XT.ushr sh (3 : Int32)) &&& (3 : Int32))), .unset, .unset, .unset, .unset, .unset, .unset] [(.int at')]
    refine w_goto ok at_25 (pc' := 33) (by decide) ?_
    show W K l _ n0 _ h0 0 0 33 #[.val (.long dd), .second, .val (.long qq), .second, .val (.int at'), .val (.int sh), .val (.int pk), .val (.int ((sh &&& (7 : Int32)) % (6 : Int32))), .val (.int ((Jvm.Free.XT.ushr sh (3 : Int32)) &&& (3 : Int32))), .unset, .unset, .unset, .unset, .unset, .unset] [(.int at')]
    refine w_istore ok at_33 (L' := #[.val (.long dd), .second, .val (.long qq), .second, .val (.int at'), .val (.int sh), .val (.int pk), .val (.int ((sh &&& (7 : Int32)) % (6 : Int32))), .val (.int ((Jvm.Free.XT.ushr sh (3 : Int32)) &&& (3 : Int32))), .val (.int at'), .unset, .unset, .unset, .unset, .unset]) rfl ?_
    show W K l _ n0 _ h0 0 0 35 #[.val (.long dd), .second, .val (.long qq), .second, .val (.int at'), .val (.int sh), .val (.int pk), .val (.int ((sh &&& (7 : Int32)) % (6 : Int32))), .val (.int ((Jvm.Free.XT.ushr sh (3 : Int32)) &&& (3 : Int32))), .val (.int at'), .unset, .unset, .unset, .unset, .unset] []
    exact c35 l Z a0 hw n0 h0 K ok Z0 dd qq at' sh pk _ _ _ (own_dl _) (own_pl _) (by simp only [Int32.lt_iff_toInt_lt, Int32.reduceToInt] at hc1; omega)
set_option maxRecDepth 65536 in
set_option maxHeartbeats 40000000 in
theorem comes_1 {Post : Tables → Env → Array Value → State → Outcome → State → Prop} (hpost : ∀ tb e args s v u, (limb_1_1.after args s (.returned v) u = true ∧ limb_1_2.after args s (.returned v) u = true) → FrameEnd s (.returned v) u (Jvm.fieldLocs frame_1_writes args s ++ Jvm.arrayLocs frame_1_arrays args s ++ Jvm.staticLocs frame_1_statics s) 16 128 → Post tb e args s (.returned v) u) :
    ArmFor flags0 classFile x code maxLocals ret World_1 tables_1 room_1 Calls_1 rest_1 Pre_1 Post := by
  intro l hfl _ _ p e ha hc hk s m args below hf hA hF happ hP
  obtain ⟨hcalls, hrest, hpre⟩ := hP
  obtain ⟨-, -, -, hnamed, -, -, -, hat⟩ := (Spec.applies_iff hf).mp happ
  obtain ⟨hg, hn⟩ := and_e (Cond.before_iff.mp (show (Jvm.Cond.and given_1 narrow_1).before args s = true from hpre))
  obtain ⟨g0, r0⟩ := and_e hg
  obtain ⟨g1, r1⟩ := and_e r0
  obtain ⟨g2, r2⟩ := and_e r1
  obtain ⟨g3, r3⟩ := and_e r2
  obtain ⟨g4, r4⟩ := and_e r3
  obtain ⟨w0, w1, w2, w3, w4, rfl⟩ : ∃ w0 w1 w2 w3 w4 : Value, args = #[w0, w1, w2, w3, w4] := by
    have hs : args.size = 5 := by simpa [Cond.value, given_1] using g0
    obtain ⟨L⟩ := args
    match L, hs with
    | [w0, w1, w2, w3, w4], _ => exact ⟨w0, w1, w2, w3, w4, rfl⟩
  have hw := fun d (hd : d ∈ tables_1) => atoms_spec (ws := Jvm.Cond.code x code maxLocals ret :: tables_1) hat d (List.mem_cons_of_mem _ hd)
  have hfit : Fit s := fun {y c} hc i hi => by
    obtain ⟨ha, rfl⟩ := Array.getElem?_eq_some_iff.mp hc
    have q := List.all_eq_true.mp ((Array.all_eq_true_iff_forall_mem.mp hF) _ (Array.getElem_mem ha)) i (List.mem_range.mpr hi)
    simpa [Array.getElem?_eq_getElem hi] using q
  obtain ⟨i0, ei0⟩ := isL_v g1
  obtain rfl : w0 = (.long i0) := Option.some.inj ei0
  obtain ⟨i1, ei1⟩ := isL_v g2
  obtain rfl : w1 = (.long i1) := Option.some.inj ei1
  obtain ⟨i2, ei2⟩ := is_v g3
  obtain rfl : w2 = (.int i2) := Option.some.inj ei2
  obtain ⟨i3, ei3⟩ := is_v g4
  obtain rfl : w3 = (.int i3) := Option.some.inj ei3
  obtain ⟨i4, ei4⟩ := is_v r4
  obtain rfl : w4 = (.int i4) := Option.some.inj ei4
  obtain ⟨n, o, h1, h2, h3, _, L, rfl, ⟨rfl, N⟩, hq⟩ := rm0 l s _ hw tables_1 s.heap.size s.heap (Nat.le_refl _) i0 i1 i2 i3 i4  p e ha hc hk s m _ below hf ((Spec.applies_iff_loose hf).mp happ).1 ⟨rfl, State.Warmed39.refl s, rfl⟩ trivial
  exact ⟨n, _, h1, h2, h3, hpost _ _ _ _ _ _ ⟨Cond.after_iff.mpr rfl, Cond.after_iff.mpr (eq_i res_at (Term.int_eval (1)) rfl)⟩ (frame_fin hq N (by decide) (by decide))⟩
theorem main_1_1 : Claimed_1_1 := comes_1 fun _ _ _ _ _ _ h hF => ⟨h.1, hF⟩
theorem main_1_2 : Claimed_1_2 := comes_1 fun _ _ _ _ _ _ h hF => ⟨h.2, hF⟩
end Jvm.Pilot.@@N@@
namespace Jvm.Pilot.@@N@@
open Jvm Jvm.ClassFile Sem Op Lib Jvm.Free Jvm.Stand Jvm.Pilot.@@N@@.Jvm.D
/-! MADE BY PROGRAM (witnessworld.py) out of the Statement's table words and the real class files: 9 classes; the members and pool entries that the words name. The judged class is class 1, her method 4. -/
namespace start1
open Jvm.ClassFile
def u (s : String) : CpInfo := .utf8 (stringToUtf16 s)
/-- a pool by its gaps: so many unusable entries, then the entry; so many at the end -/
def gap : Nat → List CpInfo → List CpInfo
  | 0, r => r
  | n + 1, r => .unusable :: gap n r
def poolList (es : List (Nat × CpInfo)) (last : Nat) : List CpInfo := es.foldr (fun e r => gap e.1 (e.2 :: r)) (gap last [])
def pool (es : List (Nat × CpInfo)) (last : Nat) : Array CpInfo := ⟨poolList es last⟩
def fileOf (pool : Array CpInfo) (this : Nat) (attrs : Array Attribute := #[]) (ms : Array MethodInfo := #[]) (fl : Nat := 33) (sup : Nat := 0) (ifs : Array Nat := #[]) (fds : Array FieldInfo := #[]) : ClassFile where
  minorVersion := 0
  majorVersion := 65
  constantPool := pool
  accessFlags := fl
  thisClass := this
  superClass := sup
  interfaces := ifs
  fields := fds
  methods := ms
  attributes := attrs
def plain (name : String) (sup : Option ClassId) : Class where
  name := name
  kind := .ordinary
  loader := none
  accessFlags := 33
  super := sup
  interfaces := #[]
  cf := none
  fields := #[]
  methods := #[]
  instanceTypes := #[]
  staticTypes := #[]
  resolved := #[]
  callSites := []
  init := .initialized
  statics := none
  mirror := none

def pool0 : Array CpInfo := pool [(5, u "<init>"), (0, u "()V"), (1, .class_ 10), (1, u "java/lang/Object")] 113

def k0m0 : Method := { name := "<init>", desc := "()V", sig := { parameters := [], returnType := none }, accessFlags := 1, code := none }
/-- java/lang/Object -/
def k0 : Class := { plain "java/lang/Object" none with
  accessFlags := 33
  interfaces := #[]
  cf := some (fileOf pool0 8 #[] #[{ accessFlags := 1, nameIndex := 5, descriptorIndex := 6, attributes := #[] }] 33 0 #[] #[])
  fields := #[]
  methods := #[k0m0]
  instanceTypes := #[]
  staticTypes := #[]
  resolved := Array.replicate 124 none
  statics := none }

def pool1 : Array CpInfo := pool [(2, .class_ 4), (1, u "java/lang/Object"), (0, u "<init>"), (0, u "()V"), (0, .methodref 8 9), (0, .class_ 10), (0, .nameAndType 11 12), (0, u "com/example/nakami/nakami/pdf/BytesMatchesPinLaw"), (0, u "b"), (0, u "(JI)B"), (0, .methodref 8 14), (0, .nameAndType 15 16), (0, u "makeData"), (0, u "(JI)[B"), (0, .methodref 8 18), (0, .nameAndType 19 20), (0, u "pat"), (0, u "([BIIJI)B"), (0, .methodref 22 23), (0, .class_ 24), (0, .nameAndType 25 26), (0, u "com/example/nakami/nakami/pdf/Bytes"), (0, u "matches"), (0, u "([BI[B)Z"), (5, u "law"), (0, u "(JJIII)Z")] 2

def k1m0 : Method := { name := "<init>", desc := "()V", sig := { parameters := [], returnType := none }, accessFlags := 2, code := none }
def k1c1 : Code := { maxStack := 4, maxLocals := 3, code := method_2_code, exceptionTable := #[], attributes := #[] }
def k1m1 : Method := { name := "b", desc := "(JI)B", sig := { parameters := [.long, .int], returnType := some .byte }, accessFlags := 10, code := some k1c1 }
def k1c2 : Code := { maxStack := 5, maxLocals := 4, code := method_3_code, exceptionTable := #[], attributes := #[] }
def k1m2 : Method := { name := "makeData", desc := "(JI)[B", sig := { parameters := [.long, .int], returnType := some (.array .byte) }, accessFlags := 10, code := some k1c2 }
def k1c3 : Code := { maxStack := 3, maxLocals := 7, code := method_4_code, exceptionTable := #[], attributes := #[] }
def k1m3 : Method := { name := "pat", desc := "([BIIJI)B", sig := { parameters := [(.array .byte), .int, .int, .long, .int], returnType := some .byte }, accessFlags := 10, code := some k1c3 }
def k1c4 : Code := { maxStack := 8, maxLocals := 15, code := code, exceptionTable := #[], attributes := #[] }
def k1m4 : Method := { name := "law", desc := "(JJIII)Z", sig := { parameters := [.long, .long, .int, .int, .int], returnType := some .boolean }, accessFlags := 9, code := some k1c4 }
/-- com/example/nakami/nakami/pdf/BytesMatchesPinLaw -/
def k1 : Class := { plain "com/example/nakami/nakami/pdf/BytesMatchesPinLaw" (some 0) with
  accessFlags := 49
  interfaces := #[]
  cf := some (fileOf pool1 8 #[] #[{ accessFlags := 2, nameIndex := 5, descriptorIndex := 6, attributes := #[] }, { accessFlags := 10, nameIndex := 11, descriptorIndex := 12, attributes := #[] }, { accessFlags := 10, nameIndex := 15, descriptorIndex := 16, attributes := #[] }, { accessFlags := 10, nameIndex := 19, descriptorIndex := 20, attributes := #[] }, { accessFlags := 9, nameIndex := 32, descriptorIndex := 33, attributes := #[] }] 49 2 #[] #[])
  fields := #[]
  methods := #[k1m0, k1m1, k1m2, k1m3, k1m4]
  instanceTypes := #[]
  staticTypes := #[]
  resolved := Array.replicate 36 none
  statics := none }

def pool2 : Array CpInfo := pool [(2, .class_ 4), (1, u "java/lang/Object"), (0, u "<init>"), (0, u "()V"), (7, .class_ 16), (1, u "com/example/nakami/nakami/pdf/Bytes"), (0, u "matches"), (0, u "([BI[B)Z")] 9

def k2m0 : Method := { name := "<init>", desc := "()V", sig := { parameters := [], returnType := none }, accessFlags := 2, code := none }
def k2c1 : Code := { maxStack := 3, maxLocals := 4, code := prog_55_method_4_code, exceptionTable := #[], attributes := #[] }
def k2m1 : Method := { name := "matches", desc := "([BI[B)Z", sig := { parameters := [(.array .byte), .int, (.array .byte)], returnType := some .boolean }, accessFlags := 8, code := some k2c1 }
/-- com/example/nakami/nakami/pdf/Bytes -/
def k2 : Class := { plain "com/example/nakami/nakami/pdf/Bytes" (some 0) with
  accessFlags := 32
  interfaces := #[]
  cf := some (fileOf pool2 14 #[] #[{ accessFlags := 2, nameIndex := 5, descriptorIndex := 6, attributes := #[] }, { accessFlags := 8, nameIndex := 17, descriptorIndex := 18, attributes := #[] }] 32 2 #[] #[])
  fields := #[]
  methods := #[k2m0, k2m1]
  instanceTypes := #[]
  staticTypes := #[]
  resolved := Array.replicate 28 none
  statics := none }

def pool3 : Array CpInfo := pool [(1, u "java/lang/Cloneable"), (0, .class_ 1), (0, u "java/lang/Object"), (0, .class_ 3)] 3

/-- java/lang/Cloneable -/
def k3 : Class := { plain "java/lang/Cloneable" (some 0) with
  accessFlags := 1537
  interfaces := #[]
  cf := some (fileOf pool3 2 #[] #[] 1537 4 #[] #[])
  fields := #[]
  methods := #[]
  instanceTypes := #[]
  staticTypes := #[]
  resolved := Array.replicate 8 none
  statics := none }

def pool4 : Array CpInfo := pool [(1, u "java/io/Serializable"), (0, .class_ 1), (0, u "java/lang/Object"), (0, .class_ 3)] 3

/-- java/io/Serializable -/
def k4 : Class := { plain "java/io/Serializable" (some 0) with
  accessFlags := 1537
  interfaces := #[]
  cf := some (fileOf pool4 2 #[] #[] 1537 4 #[] #[])
  fields := #[]
  methods := #[]
  instanceTypes := #[]
  staticTypes := #[]
  resolved := Array.replicate 8 none
  statics := none }

/-- the primitive byte -/
def k5 : Class := { plain "byte" none with kind := .primitive 'B', accessFlags := 0x411 }
/-- [B -/
def k6 : Class := { plain "[B" (some 0) with kind := .array 5 .byte, interfaces := #[3, 4], accessFlags := 1041 }

/-- the primitive int -/
def k7 : Class := { plain "int" none with kind := .primitive 'I', accessFlags := 0x411 }
/-- [I -/
def k8 : Class := { plain "[I" (some 0) with kind := .array 7 .int, interfaces := #[3, 4], accessFlags := 1041 }

def heap : Heap := #[]
def classes : Array Class := #[k0, k1, k2, k3, k4, k5, k6, k7, k8]
def interned : List (Array UInt16 × Addr) := []
def slotsUsed : Nat := 0
def theMethod : MethodId := ⟨1, 4⟩
def args0 : Array Value := #[.long 5, .long 7, .int 1, .int 13, .int 3]
def aboutOver (below : List Frame) : State where
  vm := { classes := classes, interned := interned.toArray }
  heap := heap
  slotsUsed := slotsUsed
  threads := #[{ frames := .invoking theMethod args0 :: below }]
def below0 : List Frame := [.native { method := ⟨0, 0⟩, args := #[] }]
def about1 : State := aboutOver below0
def p0 : Program := .bare "" "" ""
def e0 : Env := launch0.env 0 0 0
theorem w_frames : about1.frames = Frame.invoking theMethod args0 :: below0 := rfl
set_option maxRecDepth 65536 in
theorem w_args : argsFit about1.vm theMethod args0 = true := by decide +kernel
set_option maxRecDepth 65536 in
theorem w_heap : heapFits about1 = true := by decide +kernel
set_option maxRecDepth 65536 in
theorem w_runnable : about1.curStatus? = some .runnable := by decide +kernel
set_option maxRecDepth 65536 in
theorem w_alone : about1.alone = true := by decide +kernel
set_option maxRecDepth 65536 in
theorem w_named : about1.methodNamed? x = some theMethod := by decide +kernel
set_option maxRecDepth 65536 in
theorem w_hears : about1.hears theMethod below0 = true := by decide +kernel
set_option maxRecDepth 65536 in
theorem w_ripe : about1.ripe theMethod args0 below0 = true := by decide +kernel
theorem w_running : about1.status = .running := rfl
set_option maxRecDepth 65536 in
theorem w_room : about1.hasRoom e0.platform room_1 = true :=
  launch0.hasRoom_least _ room_1 (by decide +kernel) (by decide +kernel) (by decide +kernel) (by decide +kernel) (by decide +kernel) (by decide +kernel)
theorem allAtoms_all (ts : List Jvm.Cond) (a : Array Jvm.Value) (st : Jvm.State) : (allAtoms ts).before a st = ts.all (fun c => c.before a st) := by
  induction ts with
  | nil => rfl
  | cons c t ih =>
    show (Jvm.Cond.and c (allAtoms t)).before a st = _
    rw [Jvm.Cond.before_and, ih, List.all_cons]
def words1 : List Jvm.Cond := Jvm.Cond.code x code maxLocals ret :: tables_1
/-- a 'code' word, met by the world's own term for the bytes: nothing is compared byte by byte -/
theorem code_word {y : MethodName} {bytes : ByteArray} {mx : Nat} {rt : Option FieldType} {a : Array Value} {s : State} {m : MethodId} {meth : Method} {c : Code} (h1 : s.methodNamed? y = some m) (h2 : s.vm.method? m = some meth) (h3 : meth.code = some c) (h4 : c.code = bytes)
    (h5 : (c.maxLocals == mx && c.exceptionTable.isEmpty && decide (c.maxStack ≤ mostOperands) && decide (meth.sig.returnType = rt) && !meth.locks && decide (parseMethodDescriptor y.desc = some meth.sig)) = true) : (Jvm.Cond.code y bytes mx rt).before a s = true := by
  simp only [Bool.and_eq_true, beq_iff_eq, Bool.not_eq_true', decide_eq_true_eq] at h5
  obtain ⟨⟨⟨⟨⟨g1, g2⟩, g3⟩, g4⟩, g5⟩, g6⟩ := h5
  simp [Cond.before, Cond.holds, Cond.value, h1, h2, h3, h4, g1, g2, g3, g4, g5, g6]
def isCode : Jvm.Cond → Bool
  | .code _ _ _ _ => true
  | _ => false
theorem all_split {L : List Jvm.Cond} {P : Jvm.Cond → Bool} (h1 : L.all (fun c => isCode c || P c) = true) (h2 : ∀ c ∈ L.filter isCode, P c = true) : L.all P = true := by
  refine List.all_eq_true.mpr fun c hc => ?_
  have h := List.all_eq_true.mp h1 c hc
  rcases Bool.eq_false_or_eq_true (isCode c) with hi | hi
  · exact h2 c (List.mem_filter.mpr ⟨hc, hi⟩)
  · simpa [hi] using h
set_option maxRecDepth 65536 in
theorem w_c0 : (Jvm.Cond.code x code maxLocals ret).before args0 about1 = true := code_word (m := ⟨1, 4⟩) (meth := k1m4) (c := k1c4) (by decide +kernel) rfl rfl rfl (by decide +kernel)
set_option maxRecDepth 65536 in
theorem w_c1 : (Jvm.Cond.code ({ cls := "com/example/nakami/nakami/pdf/BytesMatchesPinLaw", name := "makeData", desc := "(JI)[B" } : Jvm.MethodName) method_3_code (4 : Nat) (Option.some (Jvm.ClassFile.FieldType.array Jvm.ClassFile.FieldType.byte))).before args0 about1 = true := code_word (m := ⟨1, 2⟩) (meth := k1m2) (c := k1c2) (by decide +kernel) rfl rfl rfl (by decide +kernel)
set_option maxRecDepth 65536 in
theorem w_c2 : (Jvm.Cond.code ({ cls := "com/example/nakami/nakami/pdf/BytesMatchesPinLaw", name := "b", desc := "(JI)B" } : Jvm.MethodName) method_2_code (3 : Nat) (Option.some Jvm.ClassFile.FieldType.byte)).before args0 about1 = true := code_word (m := ⟨1, 1⟩) (meth := k1m1) (c := k1c1) (by decide +kernel) rfl rfl rfl (by decide +kernel)
set_option maxRecDepth 65536 in
theorem w_c3 : (Jvm.Cond.code ({ cls := "com/example/nakami/nakami/pdf/Bytes", name := "matches", desc := "([BI[B)Z" } : Jvm.MethodName) prog_55_method_4_code (4 : Nat) (Option.some Jvm.ClassFile.FieldType.boolean)).before args0 about1 = true := code_word (m := ⟨2, 1⟩) (meth := k2m1) (c := k2c1) (by decide +kernel) rfl rfl rfl (by decide +kernel)
set_option maxRecDepth 65536 in
theorem w_c4 : (Jvm.Cond.code ({ cls := "com/example/nakami/nakami/pdf/BytesMatchesPinLaw", name := "pat", desc := "([BIIJI)B" } : Jvm.MethodName) method_4_code (7 : Nat) (Option.some Jvm.ClassFile.FieldType.byte)).before args0 about1 = true := code_word (m := ⟨1, 3⟩) (meth := k1m3) (c := k1c3) (by decide +kernel) rfl rfl rfl (by decide +kernel)
def codes1 : List Jvm.Cond := [Jvm.Cond.code x code maxLocals ret, Jvm.Cond.code ({ cls := "com/example/nakami/nakami/pdf/BytesMatchesPinLaw", name := "makeData", desc := "(JI)[B" } : Jvm.MethodName) method_3_code (4 : Nat) (Option.some (Jvm.ClassFile.FieldType.array Jvm.ClassFile.FieldType.byte)), Jvm.Cond.code ({ cls := "com/example/nakami/nakami/pdf/BytesMatchesPinLaw", name := "b", desc := "(JI)B" } : Jvm.MethodName) method_2_code (3 : Nat) (Option.some Jvm.ClassFile.FieldType.byte), Jvm.Cond.code ({ cls := "com/example/nakami/nakami/pdf/Bytes", name := "matches", desc := "([BI[B)Z" } : Jvm.MethodName) prog_55_method_4_code (4 : Nat) (Option.some Jvm.ClassFile.FieldType.boolean), Jvm.Cond.code ({ cls := "com/example/nakami/nakami/pdf/BytesMatchesPinLaw", name := "pat", desc := "([BIIJI)B" } : Jvm.MethodName) method_4_code (7 : Nat) (Option.some Jvm.ClassFile.FieldType.byte)]
set_option maxRecDepth 65536 in
theorem codes_eq : words1.filter isCode = codes1 := rfl
theorem w_codes : ∀ c ∈ words1.filter isCode, c.before args0 about1 = true := by
  rw [codes_eq]
  intro c hc
  simp only [codes1, List.mem_cons, List.not_mem_nil, or_false] at hc
  rcases hc with rfl | rfl | rfl | rfl | rfl
  · exact w_c0
  · exact w_c1
  · exact w_c2
  · exact w_c3
  · exact w_c4
set_option maxRecDepth 65536 in
theorem w_t1 : words1.all (fun c => isCode c || c.before args0 about1) = true := by decide +kernel
theorem w_tables : (allAtoms (Jvm.Cond.code x code maxLocals ret :: tables_1)).before args0 about1 = true := by
  rw [allAtoms_all]
  show words1.all (fun c => c.before args0 about1) = true
  refine all_split ?_ w_codes
  rw [w_t1]
set_option maxRecDepth 65536 in
theorem w_case : (Jvm.Cond.and given_1 narrow_1).before args0 about1 = true := by decide +kernel
theorem w_applies : (headSpec (Jvm.Cond.code x code maxLocals ret :: tables_1) room_1).applies x e0.platform about1 = true :=
  (Spec.applies_iff w_frames).mpr ⟨w_running, w_runnable, w_alone, w_named, w_hears, w_ripe, w_room, w_tables⟩
theorem atStart : AtStart classFile x code maxLocals ret World_1 tables_1 room_1 Calls_1 rest_1 Pre_1 launch0 p0 e0 about1 theMethod args0 below0 :=
  ⟨lists_1, trivial, launch0.admits_env _ _ _, launch0.least_env, fairChoices_fair.cas, fairChoices_fair.clock, w_frames, w_args, w_heap, w_applies, trivial, trivial, w_case⟩
end start1
theorem witness_1 : WitnessClaimed_1 := ⟨start1.p0, start1.e0, start1.about1, start1.theMethod, start1.args0, start1.below0, start1.atStart⟩
end Jvm.Pilot.@@N@@
