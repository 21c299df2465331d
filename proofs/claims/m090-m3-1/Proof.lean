import JvmDerived
import JvmDerived.Pilot.@@N@@Statement
import JvmDerived.Pilot.@@N@@Code
set_option linter.unusedVariables false
set_option linter.unusedSimpArgs false
namespace Jvm.OwnKit
open Sem ClassFile Op Lib Jvm.Stand Jvm.Free Jvm.LawKit Jvm.RoadKit Bundle
/-- the run's own things: program, environment, start state, method, arguments, frames below, its record, its code -/
abbrev Cx := Program × Env × State × MethodId × Array Value × List Frame × Method × Code
def Ok (K : Cx) (Z : State) (n0 : Nat) (own : String) (code : ByteArray) (maxL : Nat) (ret : Option FieldType) (nm : String) : Prop :=
  match K with
  | (p, _, s, m, _, _, meth, c) => p.tables.exec = Jvm.exec ∧ Z.Warmed39 s.vm ∧ s.vm.findClass own = some m.cls ∧ c.code = code ∧ c.maxLocals = maxL ∧ meth.sig.returnType = ret ∧ meth.name = nm ∧ meth.locks = false ∧ n0 ≤ s.heap.size
/-- from heap h, with k cells and n slots made, at pc with locals L and stack S, the run comes to a return that P likes -/
def W (K : Cx) (l : Launch) (R : Room) (n0 : Nat) (P : Option Value → Heap → Prop) (h : Heap) (k n pc : Nat) (L : Array Slot) (S : List Value) : Prop :=
  match K with
  | (p, e, s, m, args, below, meth, c) => ∀ T locs, Stand p l e R s m args below meth c T locs k n → T.heap = h → Fr n0 locs →
    ∃ s₂ o, Steps p.tables e below (T.setTop (mkF m pc L S)) s₂ ∧ s₂.status = .running ∧ Ended s₂ below o ∧ ∃ v L', o = .returned v ∧ (P v s₂.heap ∧ Fr n0 L') ∧ FrameEnd s o s₂ L' R.cells R.slots
/-- a method's contract: called with as' at heap h it returns what Q likes -/
abbrev Met (l : Launch) (Z : State) (n0 : Nat) (y : MethodName) (bytes : ByteArray) (mL : Nat) (rt : Option FieldType) (ws : List Cond) (rm : Room) (as' : Array Value) (h : Heap) (Q : Option Value → Heap → Prop) : Prop :=
  MetFree l y (head1 (Cond.code y bytes mL rt :: ws) rm) (fun a U => a = as' ∧ Z.Warmed39 U.vm ∧ U.heap = h) (fun _ _ _ _ _ => True) (fun _ U o U' => ∃ v L, o = .returned v ∧ (Q v U'.heap ∧ Fr n0 L) ∧ FrameEnd U o U' L rm.cells rm.slots)
theorem met_of {l : Launch} {Z : State} {n0 : Nat} {y : MethodName} {bytes : ByteArray} {mL : Nat} {rt : Option FieldType} {ws : List Cond} {rm : Room} {as' : Array Value} {h : Heap} {Q : Option Value → Heap → Prop} (Z0 : n0 ≤ h.size) (pn : plainFor y = true) {Ls : Array Slot} (ef : ∀ m, entryFrame m as' mL = mkF m 0 Ls [])
    (H : ∀ K, Ok K Z n0 y.cls bytes mL rt y.name → W K l rm n0 Q h 0 0 0 Ls []) : Met l Z n0 y bytes mL rt ws rm as' h Q := by
  refine MetFree.of_bodySF pn hisR ?_
  intro p e s m args below meth c s₁ Bd hml0 hP hK
  obtain ⟨rfl, hZ, hh⟩ := hP
  have hnm := (name_of_methodNamed Bd.named Bd.method).1
  have X0 : Stand p l e rm s m args below meth c s₁ [] 0 0 := Stand.of_body Bd
  have e0 : s₁.heap = h := by rw [← hh, Bd.state]; rfl
  obtain ⟨s₂, o, st, r⟩ := H (p, e, s, m, args, below, meth, c) ⟨Bd.exec, hZ, findClass_of_methodNamed Bd.named, Bd.bytes, hml0, Bd.returns, hnm, Bd.notSynchronized, by show n0 ≤ s.heap.size; rw [hh]; exact Z0⟩ s₁ [] X0 e0 (Fr.nil n0)
  exact ⟨s₂, o, castTop (ef m) st, r⟩
section S
variable {K : Cx} {l : Launch} {R : Room} {Z : State} {n0 : Nat} {P : Option Value → Heap → Prop} {h : Heap} {k n pc : Nat} {L : Array Slot} {S : List Value} {own : String} {code : ByteArray} {maxL : Nat} {ret : Option FieldType} {nm : String} {a0 : Array Value}
theorem W.mono {P' : Option Value → Heap → Prop} (q : ∀ v h, P v h → P' v h) (w : W K l R n0 P h k n pc L S) : W K l R n0 P' h k n pc L S := by
  obtain ⟨p, e, s, m, args, below, meth, c⟩ := K
  intro T locs X eT N
  obtain ⟨s₂, o, st, r1, r2, v, L', r3, ⟨r4, r5⟩, r6⟩ := w T locs X eT N
  exact ⟨s₂, o, st, r1, r2, v, L', r3, ⟨q _ _ r4, r5⟩, r6⟩
theorem W.more {k' n' : Nat} (w : W K l R n0 P h k' n' pc L S) (hk : k ≤ k') (hn : n ≤ n') : W K l R n0 P h k n pc L S := by
  obtain ⟨p, e, s, m, args, below, meth, c⟩ := K
  intro T locs X eT N
  exact w T locs (X.more hk hn) eT N
theorem w_iloadN (ok : Ok K Z n0 own code maxL ret nm) {i : Fin 4} {v : Int32} (hd : decode code pc = .ok (.iload_n i, 1)) (hl : L[i.val]? = some (.val (.int v))) (w : W K l R n0 P h k n (pc + 1) L (.int v :: S)) : W K l R n0 P h k n pc L (S) := by
  obtain ⟨p, e, s, m, args, below, meth, c⟩ := K
  obtain ⟨hx, hZ, hown, hby, -⟩ := ok
  intro T locs X eT N
  obtain ⟨s₂, o, st, r⟩ := w T locs X eT N
  exact ⟨s₂, o, XS.iloadN X.here hx rfl (hb hby hd) hl st, r⟩
theorem w_iload (ok : Ok K Z n0 own code maxL ret nm) {i : Nat} {v : Int32} (hd : decode code pc = .ok (.iload i, 2)) (hl : L[i]? = some (.val (.int v))) (w : W K l R n0 P h k n (pc + 2) L (.int v :: S)) : W K l R n0 P h k n pc L (S) := by
  obtain ⟨p, e, s, m, args, below, meth, c⟩ := K
  obtain ⟨hx, hZ, hown, hby, -⟩ := ok
  intro T locs X eT N
  obtain ⟨s₂, o, st, r⟩ := w T locs X eT N
  exact ⟨s₂, o, XS.iload X.here hx rfl (hb hby hd) hl st, r⟩
theorem w_istoreN (ok : Ok K Z n0 own code maxL ret nm) {i : Fin 4} {v : Int32} {L' : Array Slot} (hd : decode code pc = .ok (.istore_n i, 1)) (hl : storeLocals L i.val (.int v) = some L') (w : W K l R n0 P h k n (pc + 1) L' (S)) : W K l R n0 P h k n pc L (.int v :: S) := by
  obtain ⟨p, e, s, m, args, below, meth, c⟩ := K
  obtain ⟨hx, hZ, hown, hby, -⟩ := ok
  intro T locs X eT N
  obtain ⟨s₂, o, st, r⟩ := w T locs X eT N
  exact ⟨s₂, o, XS.istoreN X.here hx rfl (hb hby hd) rfl hl st, r⟩
theorem w_istore (ok : Ok K Z n0 own code maxL ret nm) {i : Nat} {v : Int32} {L' : Array Slot} (hd : decode code pc = .ok (.istore i, 2)) (hl : storeLocals L i (.int v) = some L') (w : W K l R n0 P h k n (pc + 2) L' (S)) : W K l R n0 P h k n pc L (.int v :: S) := by
  obtain ⟨p, e, s, m, args, below, meth, c⟩ := K
  obtain ⟨hx, hZ, hown, hby, -⟩ := ok
  intro T locs X eT N
  obtain ⟨s₂, o, st, r⟩ := w T locs X eT N
  exact ⟨s₂, o, XS.istore X.here hx rfl (hb hby hd) rfl hl st, r⟩
theorem w_lloadN (ok : Ok K Z n0 own code maxL ret nm) {i : Fin 4} {v : Int64} (hd : decode code pc = .ok (.lload_n i, 1)) (hl : L[i.val]? = some (.val (.long v))) (w : W K l R n0 P h k n (pc + 1) L (.long v :: S)) : W K l R n0 P h k n pc L (S) := by
  obtain ⟨p, e, s, m, args, below, meth, c⟩ := K
  obtain ⟨hx, hZ, hown, hby, -⟩ := ok
  intro T locs X eT N
  obtain ⟨s₂, o, st, r⟩ := w T locs X eT N
  exact ⟨s₂, o, XS.lloadN X.here hx rfl (hb hby hd) hl st, r⟩
theorem w_lload (ok : Ok K Z n0 own code maxL ret nm) {i : Nat} {v : Int64} (hd : decode code pc = .ok (.lload i, 2)) (hl : L[i]? = some (.val (.long v))) (w : W K l R n0 P h k n (pc + 2) L (.long v :: S)) : W K l R n0 P h k n pc L (S) := by
  obtain ⟨p, e, s, m, args, below, meth, c⟩ := K
  obtain ⟨hx, hZ, hown, hby, -⟩ := ok
  intro T locs X eT N
  obtain ⟨s₂, o, st, r⟩ := w T locs X eT N
  exact ⟨s₂, o, XS.lload X.here hx rfl (hb hby hd) hl st, r⟩
theorem w_lstoreN (ok : Ok K Z n0 own code maxL ret nm) {i : Fin 4} {v : Int64} {L' : Array Slot} (hd : decode code pc = .ok (.lstore_n i, 1)) (hl : storeLocals L i.val (.long v) = some L') (w : W K l R n0 P h k n (pc + 1) L' (S)) : W K l R n0 P h k n pc L (.long v :: S) := by
  obtain ⟨p, e, s, m, args, below, meth, c⟩ := K
  obtain ⟨hx, hZ, hown, hby, -⟩ := ok
  intro T locs X eT N
  obtain ⟨s₂, o, st, r⟩ := w T locs X eT N
  exact ⟨s₂, o, XS.lstoreN X.here hx rfl (hb hby hd) rfl hl st, r⟩
theorem w_lstore (ok : Ok K Z n0 own code maxL ret nm) {i : Nat} {v : Int64} {L' : Array Slot} (hd : decode code pc = .ok (.lstore i, 2)) (hl : storeLocals L i (.long v) = some L') (w : W K l R n0 P h k n (pc + 2) L' (S)) : W K l R n0 P h k n pc L (.long v :: S) := by
  obtain ⟨p, e, s, m, args, below, meth, c⟩ := K
  obtain ⟨hx, hZ, hown, hby, -⟩ := ok
  intro T locs X eT N
  obtain ⟨s₂, o, st, r⟩ := w T locs X eT N
  exact ⟨s₂, o, XS.lstore X.here hx rfl (hb hby hd) rfl hl st, r⟩
theorem w_aloadN (ok : Ok K Z n0 own code maxL ret nm) {i : Fin 4} {v : Value} (hd : decode code pc = .ok (.aload_n i, 1)) (hl : L[i.val]? = some (.val v)) (hv : v.isRef = true) (w : W K l R n0 P h k n (pc + 1) L (v :: S)) : W K l R n0 P h k n pc L (S) := by
  obtain ⟨p, e, s, m, args, below, meth, c⟩ := K
  obtain ⟨hx, hZ, hown, hby, -⟩ := ok
  intro T locs X eT N
  obtain ⟨s₂, o, st, r⟩ := w T locs X eT N
  exact ⟨s₂, o, XS.aloadN X.here hx rfl (hb hby hd) hl hv st, r⟩
theorem w_aload (ok : Ok K Z n0 own code maxL ret nm) {i : Nat} {v : Value} (hd : decode code pc = .ok (.aload i, 2)) (hl : L[i]? = some (.val v)) (hv : v.isRef = true) (w : W K l R n0 P h k n (pc + 2) L (v :: S)) : W K l R n0 P h k n pc L (S) := by
  obtain ⟨p, e, s, m, args, below, meth, c⟩ := K
  obtain ⟨hx, hZ, hown, hby, -⟩ := ok
  intro T locs X eT N
  obtain ⟨s₂, o, st, r⟩ := w T locs X eT N
  exact ⟨s₂, o, XS.aload X.here hx rfl (hb hby hd) hl hv st, r⟩
theorem w_astoreN (ok : Ok K Z n0 own code maxL ret nm) {i : Fin 4} {v : Value} {L' : Array Slot} (hd : decode code pc = .ok (.astore_n i, 1)) (hv : v.isRef = true) (hl : storeLocals L i.val v = some L') (w : W K l R n0 P h k n (pc + 1) L' (S)) : W K l R n0 P h k n pc L (v :: S) := by
  obtain ⟨p, e, s, m, args, below, meth, c⟩ := K
  obtain ⟨hx, hZ, hown, hby, -⟩ := ok
  intro T locs X eT N
  obtain ⟨s₂, o, st, r⟩ := w T locs X eT N
  exact ⟨s₂, o, XS.astoreN X.here hx rfl (hb hby hd) rfl hv hl st, r⟩
theorem w_astore (ok : Ok K Z n0 own code maxL ret nm) {i : Nat} {v : Value} {L' : Array Slot} (hd : decode code pc = .ok (.astore i, 2)) (hv : v.isRef = true) (hl : storeLocals L i v = some L') (w : W K l R n0 P h k n (pc + 2) L' (S)) : W K l R n0 P h k n pc L (v :: S) := by
  obtain ⟨p, e, s, m, args, below, meth, c⟩ := K
  obtain ⟨hx, hZ, hown, hby, -⟩ := ok
  intro T locs X eT N
  obtain ⟨s₂, o, st, r⟩ := w T locs X eT N
  exact ⟨s₂, o, XS.astore X.here hx rfl (hb hby hd) rfl hv hl st, r⟩
theorem w_iconst (ok : Ok K Z n0 own code maxL ret nm) {i : Int} {v : Int32} (hd : decode code pc = .ok (.iconst i, 1)) (hv : Int32.ofInt i = v) (w : W K l R n0 P h k n (pc + 1) L (.int v :: S)) : W K l R n0 P h k n pc L (S) := by
  obtain ⟨p, e, s, m, args, below, meth, c⟩ := K
  obtain ⟨hx, hZ, hown, hby, -⟩ := ok
  intro T locs X eT N
  obtain ⟨s₂, o, st, r⟩ := w T locs X eT N
  exact ⟨s₂, o, XS.iconst X.here hx rfl (hb hby hd) (hv ▸ st), r⟩
theorem w_bipush (ok : Ok K Z n0 own code maxL ret nm) {i : Int} {v : Int32} (hd : decode code pc = .ok (.bipush i, 2)) (hv : (Int8.ofInt i).toInt32 = v) (w : W K l R n0 P h k n (pc + 2) L (.int v :: S)) : W K l R n0 P h k n pc L (S) := by
  obtain ⟨p, e, s, m, args, below, meth, c⟩ := K
  obtain ⟨hx, hZ, hown, hby, -⟩ := ok
  intro T locs X eT N
  obtain ⟨s₂, o, st, r⟩ := w T locs X eT N
  exact ⟨s₂, o, XS.bipush X.here hx rfl (hb hby hd) (hv ▸ st), r⟩
theorem w_sipush (ok : Ok K Z n0 own code maxL ret nm) {i : Int} {v : Int32} (hd : decode code pc = .ok (.sipush i, 3)) (hv : (Int16.ofInt i).toInt32 = v) (w : W K l R n0 P h k n (pc + 3) L (.int v :: S)) : W K l R n0 P h k n pc L (S) := by
  obtain ⟨p, e, s, m, args, below, meth, c⟩ := K
  obtain ⟨hx, hZ, hown, hby, -⟩ := ok
  intro T locs X eT N
  obtain ⟨s₂, o, st, r⟩ := w T locs X eT N
  exact ⟨s₂, o, XS.sipush X.here hx rfl (hb hby hd) (hv ▸ st), r⟩
theorem w_lconst (ok : Ok K Z n0 own code maxL ret nm) {i : Fin 2} {v : Int64} (hd : decode code pc = .ok (.lconst i, 1)) (hv : Int64.ofNat i = v) (w : W K l R n0 P h k n (pc + 1) L (.long v :: S)) : W K l R n0 P h k n pc L (S) := by
  obtain ⟨p, e, s, m, args, below, meth, c⟩ := K
  obtain ⟨hx, hZ, hown, hby, -⟩ := ok
  intro T locs X eT N
  obtain ⟨s₂, o, st, r⟩ := w T locs X eT N
  exact ⟨s₂, o, XS.lconst X.here hx rfl (hb hby hd) (hv ▸ st), r⟩
theorem w_aconstNull (ok : Ok K Z n0 own code maxL ret nm)  (hd : decode code pc = .ok (.aconst_null, 1)) (w : W K l R n0 P h k n (pc + 1) L (.null :: S)) : W K l R n0 P h k n pc L (S) := by
  obtain ⟨p, e, s, m, args, below, meth, c⟩ := K
  obtain ⟨hx, hZ, hown, hby, -⟩ := ok
  intro T locs X eT N
  obtain ⟨s₂, o, st, r⟩ := w T locs X eT N
  exact ⟨s₂, o, XS.aconstNull X.here hx rfl (hb hby hd)  st, r⟩
theorem w_dup (ok : Ok K Z n0 own code maxL ret nm) {v : Value} (hd : decode code pc = .ok (.dup, 1)) (hv : v.category = 1) (w : W K l R n0 P h k n (pc + 1) L (v :: v :: S)) : W K l R n0 P h k n pc L (v :: S) := by
  obtain ⟨p, e, s, m, args, below, meth, c⟩ := K
  obtain ⟨hx, hZ, hown, hby, -⟩ := ok
  intro T locs X eT N
  obtain ⟨s₂, o, st, r⟩ := w T locs X eT N
  exact ⟨s₂, o, XS.dup X.here hx rfl (hb hby hd) rfl hv st, r⟩
theorem w_dupX1 (ok : Ok K Z n0 own code maxL ret nm) {v u : Value} (hd : decode code pc = .ok (.dup_x1, 1)) (hv : v.category = 1) (hu : u.category = 1) (w : W K l R n0 P h k n (pc + 1) L (v :: u :: v :: S)) : W K l R n0 P h k n pc L (v :: u :: S) := by
  obtain ⟨p, e, s, m, args, below, meth, c⟩ := K
  obtain ⟨hx, hZ, hown, hby, -⟩ := ok
  intro T locs X eT N
  obtain ⟨s₂, o, st, r⟩ := w T locs X eT N
  exact ⟨s₂, o, XS.dupX1 X.here hx rfl (hb hby hd) rfl hv hu st, r⟩
theorem w_pop (ok : Ok K Z n0 own code maxL ret nm) {v : Value} (hd : decode code pc = .ok (.pop, 1)) (hv : v.category = 1) (w : W K l R n0 P h k n (pc + 1) L (S)) : W K l R n0 P h k n pc L (v :: S) := by
  obtain ⟨p, e, s, m, args, below, meth, c⟩ := K
  obtain ⟨hx, hZ, hown, hby, -⟩ := ok
  intro T locs X eT N
  obtain ⟨s₂, o, st, r⟩ := w T locs X eT N
  exact ⟨s₂, o, XS.pop X.here hx rfl (hb hby hd) rfl hv st, r⟩
theorem w_dup2 (ok : Ok K Z n0 own code maxL ret nm) {v u : Value} (hd : decode code pc = .ok (.dup2, 1)) (hv : v.category = 1) (hu : u.category = 1) (w : W K l R n0 P h k n (pc + 1) L (v :: u :: v :: u :: S)) : W K l R n0 P h k n pc L (v :: u :: S) := by
  obtain ⟨p, e, s, m, args, below, meth, c⟩ := K
  obtain ⟨hx, hZ, hown, hby, -⟩ := ok
  intro T locs X eT N
  obtain ⟨s₂, o, st, r⟩ := w T locs X eT N
  exact ⟨s₂, o, XT.dup2 X.here hx rfl (hb hby hd) rfl hv hu st, r⟩
theorem w_iinc (ok : Ok K Z n0 own code maxL ret nm) {i : Nat} {c : Int} {v u : Int32} {L' : Array Slot} (hd : decode code pc = .ok (.iinc i c, 3)) (hu : Int32.ofInt c = u) (hl : L[i]? = some (.val (.int v))) (hl' : storeLocals L i (.int (v + u)) = some L') (w : W K l R n0 P h k n (pc + 3) L' (S)) : W K l R n0 P h k n pc L (S) := by
  obtain ⟨p, e, s, m, args, below, meth, c⟩ := K
  obtain ⟨hx, hZ, hown, hby, -⟩ := ok
  intro T locs X eT N
  obtain ⟨s₂, o, st, r⟩ := w T locs X eT N
  exact ⟨s₂, o, XS.iinc X.here hx rfl (hb hby hd) hl (by rw [hu]; exact hl') st, r⟩
theorem w_iadd (ok : Ok K Z n0 own code maxL ret nm) {x y : Int32} (hd : decode code pc = .ok (.iadd, 1)) (w : W K l R n0 P h k n (pc + 1) L (.int (x + y) :: S)) : W K l R n0 P h k n pc L (.int y :: .int x :: S) := by
  obtain ⟨p, e, s, m, args, below, meth, c⟩ := K
  obtain ⟨hx, hZ, hown, hby, -⟩ := ok
  intro T locs X eT N
  obtain ⟨s₂, o, st, r⟩ := w T locs X eT N
  exact ⟨s₂, o, XS.iadd X.here hx rfl (hb hby hd) rfl st, r⟩
theorem w_isub (ok : Ok K Z n0 own code maxL ret nm) {x y : Int32} (hd : decode code pc = .ok (.isub, 1)) (w : W K l R n0 P h k n (pc + 1) L (.int (x - y) :: S)) : W K l R n0 P h k n pc L (.int y :: .int x :: S) := by
  obtain ⟨p, e, s, m, args, below, meth, c⟩ := K
  obtain ⟨hx, hZ, hown, hby, -⟩ := ok
  intro T locs X eT N
  obtain ⟨s₂, o, st, r⟩ := w T locs X eT N
  exact ⟨s₂, o, XS.isub X.here hx rfl (hb hby hd) rfl st, r⟩
theorem w_imul (ok : Ok K Z n0 own code maxL ret nm) {x y : Int32} (hd : decode code pc = .ok (.imul, 1)) (w : W K l R n0 P h k n (pc + 1) L (.int (x * y) :: S)) : W K l R n0 P h k n pc L (.int y :: .int x :: S) := by
  obtain ⟨p, e, s, m, args, below, meth, c⟩ := K
  obtain ⟨hx, hZ, hown, hby, -⟩ := ok
  intro T locs X eT N
  obtain ⟨s₂, o, st, r⟩ := w T locs X eT N
  exact ⟨s₂, o, XS.imul X.here hx rfl (hb hby hd) rfl st, r⟩
theorem w_iand (ok : Ok K Z n0 own code maxL ret nm) {x y : Int32} (hd : decode code pc = .ok (.iand, 1)) (w : W K l R n0 P h k n (pc + 1) L (.int (x &&& y) :: S)) : W K l R n0 P h k n pc L (.int y :: .int x :: S) := by
  obtain ⟨p, e, s, m, args, below, meth, c⟩ := K
  obtain ⟨hx, hZ, hown, hby, -⟩ := ok
  intro T locs X eT N
  obtain ⟨s₂, o, st, r⟩ := w T locs X eT N
  exact ⟨s₂, o, XS.iand X.here hx rfl (hb hby hd) rfl st, r⟩
theorem w_ior (ok : Ok K Z n0 own code maxL ret nm) {x y : Int32} (hd : decode code pc = .ok (.ior, 1)) (w : W K l R n0 P h k n (pc + 1) L (.int (x ||| y) :: S)) : W K l R n0 P h k n pc L (.int y :: .int x :: S) := by
  obtain ⟨p, e, s, m, args, below, meth, c⟩ := K
  obtain ⟨hx, hZ, hown, hby, -⟩ := ok
  intro T locs X eT N
  obtain ⟨s₂, o, st, r⟩ := w T locs X eT N
  exact ⟨s₂, o, XS.ior X.here hx rfl (hb hby hd) rfl st, r⟩
theorem w_ixor (ok : Ok K Z n0 own code maxL ret nm) {x y : Int32} (hd : decode code pc = .ok (.ixor, 1)) (w : W K l R n0 P h k n (pc + 1) L (.int (x ^^^ y) :: S)) : W K l R n0 P h k n pc L (.int y :: .int x :: S) := by
  obtain ⟨p, e, s, m, args, below, meth, c⟩ := K
  obtain ⟨hx, hZ, hown, hby, -⟩ := ok
  intro T locs X eT N
  obtain ⟨s₂, o, st, r⟩ := w T locs X eT N
  exact ⟨s₂, o, XS.ixor X.here hx rfl (hb hby hd) rfl st, r⟩
theorem w_ishl (ok : Ok K Z n0 own code maxL ret nm) {x y : Int32} (hd : decode code pc = .ok (.ishl, 1)) (w : W K l R n0 P h k n (pc + 1) L (.int (x <<< (y &&& 31)) :: S)) : W K l R n0 P h k n pc L (.int y :: .int x :: S) := by
  obtain ⟨p, e, s, m, args, below, meth, c⟩ := K
  obtain ⟨hx, hZ, hown, hby, -⟩ := ok
  intro T locs X eT N
  obtain ⟨s₂, o, st, r⟩ := w T locs X eT N
  exact ⟨s₂, o, XS.ishl X.here hx rfl (hb hby hd) rfl st, r⟩
theorem w_ishr (ok : Ok K Z n0 own code maxL ret nm) {x y : Int32} (hd : decode code pc = .ok (.ishr, 1)) (w : W K l R n0 P h k n (pc + 1) L (.int (x >>> (y &&& 31)) :: S)) : W K l R n0 P h k n pc L (.int y :: .int x :: S) := by
  obtain ⟨p, e, s, m, args, below, meth, c⟩ := K
  obtain ⟨hx, hZ, hown, hby, -⟩ := ok
  intro T locs X eT N
  obtain ⟨s₂, o, st, r⟩ := w T locs X eT N
  exact ⟨s₂, o, XS.ishr X.here hx rfl (hb hby hd) rfl st, r⟩
theorem w_iushr (ok : Ok K Z n0 own code maxL ret nm) {x y : Int32} (hd : decode code pc = .ok (.iushr, 1)) (w : W K l R n0 P h k n (pc + 1) L (.int (XT.ushr x y) :: S)) : W K l R n0 P h k n pc L (.int y :: .int x :: S) := by
  obtain ⟨p, e, s, m, args, below, meth, c⟩ := K
  obtain ⟨hx, hZ, hown, hby, -⟩ := ok
  intro T locs X eT N
  obtain ⟨s₂, o, st, r⟩ := w T locs X eT N
  exact ⟨s₂, o, XS.iushr X.here hx rfl (hb hby hd) rfl st, r⟩
theorem w_ladd (ok : Ok K Z n0 own code maxL ret nm) {x y : Int64} (hd : decode code pc = .ok (.ladd, 1)) (w : W K l R n0 P h k n (pc + 1) L (.long (x + y) :: S)) : W K l R n0 P h k n pc L (.long y :: .long x :: S) := by
  obtain ⟨p, e, s, m, args, below, meth, c⟩ := K
  obtain ⟨hx, hZ, hown, hby, -⟩ := ok
  intro T locs X eT N
  obtain ⟨s₂, o, st, r⟩ := w T locs X eT N
  exact ⟨s₂, o, XS.ladd X.here hx rfl (hb hby hd) rfl st, r⟩
theorem w_lsub (ok : Ok K Z n0 own code maxL ret nm) {x y : Int64} (hd : decode code pc = .ok (.lsub, 1)) (w : W K l R n0 P h k n (pc + 1) L (.long (x - y) :: S)) : W K l R n0 P h k n pc L (.long y :: .long x :: S) := by
  obtain ⟨p, e, s, m, args, below, meth, c⟩ := K
  obtain ⟨hx, hZ, hown, hby, -⟩ := ok
  intro T locs X eT N
  obtain ⟨s₂, o, st, r⟩ := w T locs X eT N
  exact ⟨s₂, o, XS.lsub X.here hx rfl (hb hby hd) rfl st, r⟩
theorem w_lmul (ok : Ok K Z n0 own code maxL ret nm) {x y : Int64} (hd : decode code pc = .ok (.lmul, 1)) (w : W K l R n0 P h k n (pc + 1) L (.long (x * y) :: S)) : W K l R n0 P h k n pc L (.long y :: .long x :: S) := by
  obtain ⟨p, e, s, m, args, below, meth, c⟩ := K
  obtain ⟨hx, hZ, hown, hby, -⟩ := ok
  intro T locs X eT N
  obtain ⟨s₂, o, st, r⟩ := w T locs X eT N
  exact ⟨s₂, o, XS.lmul X.here hx rfl (hb hby hd) rfl st, r⟩
theorem w_land (ok : Ok K Z n0 own code maxL ret nm) {x y : Int64} (hd : decode code pc = .ok (.land, 1)) (w : W K l R n0 P h k n (pc + 1) L (.long (x &&& y) :: S)) : W K l R n0 P h k n pc L (.long y :: .long x :: S) := by
  obtain ⟨p, e, s, m, args, below, meth, c⟩ := K
  obtain ⟨hx, hZ, hown, hby, -⟩ := ok
  intro T locs X eT N
  obtain ⟨s₂, o, st, r⟩ := w T locs X eT N
  exact ⟨s₂, o, XS.land X.here hx rfl (hb hby hd) rfl st, r⟩
theorem w_lor (ok : Ok K Z n0 own code maxL ret nm) {x y : Int64} (hd : decode code pc = .ok (.lor, 1)) (w : W K l R n0 P h k n (pc + 1) L (.long (x ||| y) :: S)) : W K l R n0 P h k n pc L (.long y :: .long x :: S) := by
  obtain ⟨p, e, s, m, args, below, meth, c⟩ := K
  obtain ⟨hx, hZ, hown, hby, -⟩ := ok
  intro T locs X eT N
  obtain ⟨s₂, o, st, r⟩ := w T locs X eT N
  exact ⟨s₂, o, XS.lor X.here hx rfl (hb hby hd) rfl st, r⟩
theorem w_lxor (ok : Ok K Z n0 own code maxL ret nm) {x y : Int64} (hd : decode code pc = .ok (.lxor, 1)) (w : W K l R n0 P h k n (pc + 1) L (.long (x ^^^ y) :: S)) : W K l R n0 P h k n pc L (.long y :: .long x :: S) := by
  obtain ⟨p, e, s, m, args, below, meth, c⟩ := K
  obtain ⟨hx, hZ, hown, hby, -⟩ := ok
  intro T locs X eT N
  obtain ⟨s₂, o, st, r⟩ := w T locs X eT N
  exact ⟨s₂, o, XS.lxor X.here hx rfl (hb hby hd) rfl st, r⟩
theorem w_lshl (ok : Ok K Z n0 own code maxL ret nm) {x : Int64} {y : Int32} (hd : decode code pc = .ok (.lshl, 1)) (w : W K l R n0 P h k n (pc + 1) L (.long (x <<< (y &&& 0x3f).toInt64) :: S)) : W K l R n0 P h k n pc L (.int y :: .long x :: S) := by
  obtain ⟨p, e, s, m, args, below, meth, c⟩ := K
  obtain ⟨hx, hZ, hown, hby, -⟩ := ok
  intro T locs X eT N
  obtain ⟨s₂, o, st, r⟩ := w T locs X eT N
  exact ⟨s₂, o, XS.lshl X.here hx rfl (hb hby hd) rfl st, r⟩
theorem w_lshr (ok : Ok K Z n0 own code maxL ret nm) {x : Int64} {y : Int32} (hd : decode code pc = .ok (.lshr, 1)) (w : W K l R n0 P h k n (pc + 1) L (.long (x >>> (y &&& 0x3f).toInt64) :: S)) : W K l R n0 P h k n pc L (.int y :: .long x :: S) := by
  obtain ⟨p, e, s, m, args, below, meth, c⟩ := K
  obtain ⟨hx, hZ, hown, hby, -⟩ := ok
  intro T locs X eT N
  obtain ⟨s₂, o, st, r⟩ := w T locs X eT N
  exact ⟨s₂, o, XS.lshr X.here hx rfl (hb hby hd) rfl st, r⟩
theorem w_lushr (ok : Ok K Z n0 own code maxL ret nm) {x : Int64} {y : Int32} (hd : decode code pc = .ok (.lushr, 1)) (w : W K l R n0 P h k n (pc + 1) L (.long ((x.toUInt64 >>> (y &&& 0x3f).toInt64.toUInt64).toInt64) :: S)) : W K l R n0 P h k n pc L (.int y :: .long x :: S) := by
  obtain ⟨p, e, s, m, args, below, meth, c⟩ := K
  obtain ⟨hx, hZ, hown, hby, -⟩ := ok
  intro T locs X eT N
  obtain ⟨s₂, o, st, r⟩ := w T locs X eT N
  exact ⟨s₂, o, XS.lushr X.here hx rfl (hb hby hd) rfl st, r⟩
theorem w_i2l (ok : Ok K Z n0 own code maxL ret nm) {x : Int32} (hd : decode code pc = .ok (.i2l, 1)) (w : W K l R n0 P h k n (pc + 1) L (.long (x.toInt64) :: S)) : W K l R n0 P h k n pc L (.int x :: S) := by
  obtain ⟨p, e, s, m, args, below, meth, c⟩ := K
  obtain ⟨hx, hZ, hown, hby, -⟩ := ok
  intro T locs X eT N
  obtain ⟨s₂, o, st, r⟩ := w T locs X eT N
  exact ⟨s₂, o, XS.i2l X.here hx rfl (hb hby hd) rfl st, r⟩
theorem w_l2i (ok : Ok K Z n0 own code maxL ret nm) {x : Int64} (hd : decode code pc = .ok (.l2i, 1)) (w : W K l R n0 P h k n (pc + 1) L (.int (x.toInt32) :: S)) : W K l R n0 P h k n pc L (.long x :: S) := by
  obtain ⟨p, e, s, m, args, below, meth, c⟩ := K
  obtain ⟨hx, hZ, hown, hby, -⟩ := ok
  intro T locs X eT N
  obtain ⟨s₂, o, st, r⟩ := w T locs X eT N
  exact ⟨s₂, o, XS.l2i X.here hx rfl (hb hby hd) rfl st, r⟩
theorem w_i2b (ok : Ok K Z n0 own code maxL ret nm) {x : Int32} (hd : decode code pc = .ok (.i2b, 1)) (w : W K l R n0 P h k n (pc + 1) L (.int (x.toInt8.toInt32) :: S)) : W K l R n0 P h k n pc L (.int x :: S) := by
  obtain ⟨p, e, s, m, args, below, meth, c⟩ := K
  obtain ⟨hx, hZ, hown, hby, -⟩ := ok
  intro T locs X eT N
  obtain ⟨s₂, o, st, r⟩ := w T locs X eT N
  exact ⟨s₂, o, XS.i2b X.here hx rfl (hb hby hd) rfl st, r⟩
theorem w_i2c (ok : Ok K Z n0 own code maxL ret nm) {x : Int32} (hd : decode code pc = .ok (.i2c, 1)) (w : W K l R n0 P h k n (pc + 1) L (.int (x.toUInt32.toUInt16.toUInt32.toInt32) :: S)) : W K l R n0 P h k n pc L (.int x :: S) := by
  obtain ⟨p, e, s, m, args, below, meth, c⟩ := K
  obtain ⟨hx, hZ, hown, hby, -⟩ := ok
  intro T locs X eT N
  obtain ⟨s₂, o, st, r⟩ := w T locs X eT N
  exact ⟨s₂, o, XS.i2c X.here hx rfl (hb hby hd) rfl st, r⟩
theorem w_ineg (ok : Ok K Z n0 own code maxL ret nm) {x : Int32} (hd : decode code pc = .ok (.ineg, 1)) (w : W K l R n0 P h k n (pc + 1) L (.int (-x) :: S)) : W K l R n0 P h k n pc L (.int x :: S) := by
  obtain ⟨p, e, s, m, args, below, meth, c⟩ := K
  obtain ⟨hx, hZ, hown, hby, -⟩ := ok
  intro T locs X eT N
  obtain ⟨s₂, o, st, r⟩ := w T locs X eT N
  exact ⟨s₂, o, XS.ineg X.here hx rfl (hb hby hd) rfl st, r⟩
theorem w_idiv (ok : Ok K Z n0 own code maxL ret nm) {x y : Int32} (hd : decode code pc = .ok (.idiv, 1)) (hy : y ≠ 0) (w : W K l R n0 P h k n (pc + 1) L (.int (x / y) :: S)) : W K l R n0 P h k n pc L (.int y :: .int x :: S) := by
  obtain ⟨p, e, s, m, args, below, meth, c⟩ := K
  obtain ⟨hx, hZ, hown, hby, -⟩ := ok
  intro T locs X eT N
  obtain ⟨s₂, o, st, r⟩ := w T locs X eT N
  exact ⟨s₂, o, XS.idiv X.here hx rfl (hb hby hd) rfl hy st, r⟩
theorem w_irem (ok : Ok K Z n0 own code maxL ret nm) {x y : Int32} (hd : decode code pc = .ok (.irem, 1)) (hy : y ≠ 0) (w : W K l R n0 P h k n (pc + 1) L (.int (x % y) :: S)) : W K l R n0 P h k n pc L (.int y :: .int x :: S) := by
  obtain ⟨p, e, s, m, args, below, meth, c⟩ := K
  obtain ⟨hx, hZ, hown, hby, -⟩ := ok
  intro T locs X eT N
  obtain ⟨s₂, o, st, r⟩ := w T locs X eT N
  exact ⟨s₂, o, iremM X hx rfl (hb hby hd) rfl hy st, r⟩
theorem w_ldiv (ok : Ok K Z n0 own code maxL ret nm) {x y : Int64} (hd : decode code pc = .ok (.ldiv, 1)) (hy : y ≠ 0) (w : W K l R n0 P h k n (pc + 1) L (.long (x / y) :: S)) : W K l R n0 P h k n pc L (.long y :: .long x :: S) := by
  obtain ⟨p, e, s, m, args, below, meth, c⟩ := K
  obtain ⟨hx, hZ, hown, hby, -⟩ := ok
  intro T locs X eT N
  obtain ⟨s₂, o, st, r⟩ := w T locs X eT N
  exact ⟨s₂, o, XS.ldiv X.here hx rfl (hb hby hd) rfl hy st, r⟩
theorem w_lrem (ok : Ok K Z n0 own code maxL ret nm) {x y : Int64} (hd : decode code pc = .ok (.lrem, 1)) (hy : y ≠ 0) (w : W K l R n0 P h k n (pc + 1) L (.long (x % y) :: S)) : W K l R n0 P h k n pc L (.long y :: .long x :: S) := by
  obtain ⟨p, e, s, m, args, below, meth, c⟩ := K
  obtain ⟨hx, hZ, hown, hby, -⟩ := ok
  intro T locs X eT N
  obtain ⟨s₂, o, st, r⟩ := w T locs X eT N
  exact ⟨s₂, o, XS.lrem X.here hx rfl (hb hby hd) rfl hy (by rw [lrem_mod]; exact st), r⟩
theorem w_goto (ok : Ok K Z n0 own code maxL ret nm) {o : Int} {pc' : Nat} (hd : decode code pc = .ok (.goto o, 3)) (hp : (pc : Int) + o = (pc' : Int)) (w : W K l R n0 P h k n (pc') L (S)) : W K l R n0 P h k n pc L (S) := by
  obtain ⟨p, e, s, m, args, below, meth, c⟩ := K
  obtain ⟨hx, hZ, hown, hby, -⟩ := ok
  intro T locs X eT N
  obtain ⟨s₂, o, st, r⟩ := w T locs X eT N
  exact ⟨s₂, o, XS.goto X.here hx rfl (pc0 := pc) (pc' := pc') rfl (hb hby hd) (by rw [hp]; exact Int.natCast_nonneg _) (by rw [hp]; rfl) st, r⟩
theorem w_ldcI (ok : Ok K Z n0 own code maxL ret nm) {i : Nat} {v : Int32} (hd : decode code pc = .ok (.ldc i, 2)) (w1 : (Cond.constant own i v).before a0 Z = true) (w : W K l R n0 P h k n (pc + 2) L (.int v :: S)) : W K l R n0 P h k n pc L (S) := by
  obtain ⟨p, e, s, m, args, below, meth, c⟩ := K
  obtain ⟨hx, hZ, hown, hby, -⟩ := ok
  intro T locs X eT N
  obtain ⟨s₂, o, st, r⟩ := w T locs X eT N
  exact ⟨s₂, o, X.ldcInt hx hown (mvT hZ w1) (g := mkF m pc L S) rfl (hb hby hd) _ st, r⟩
theorem w_ldc2J (ok : Ok K Z n0 own code maxL ret nm) {i : Nat} {v : Int64} (hd : decode code pc = .ok (.ldc2_w i, 3)) (w1 : (Cond.constantLong own i v).before a0 Z = true) (w : W K l R n0 P h k n (pc + 3) L (.long v :: S)) : W K l R n0 P h k n pc L (S) := by
  obtain ⟨p, e, s, m, args, below, meth, c⟩ := K
  obtain ⟨hx, hZ, hown, hby, -⟩ := ok
  intro T locs X eT N
  obtain ⟨s₂, o, st, r⟩ := w T locs X eT N
  exact ⟨s₂, o, X.ldc2Long hx hown (mvT hZ w1) (g := mkF m pc L S) rfl (hb hby hd) _ st, r⟩
theorem w_icmp_eq (ok : Ok K Z n0 own code maxL ret nm) {x y : Int32} {o : Int} {pc' : Nat} (hd : decode code pc = .ok (.if_icmp .eq o, 3)) (hp : (pc : Int) + o = (pc' : Int)) (wy : x = y → W K l R n0 P h k n pc' L S) (wn : ¬ x = y → W K l R n0 P h k n (pc + 3) L S) : W K l R n0 P h k n pc L (.int y :: .int x :: S) := by
  obtain ⟨p, e, s, m, args, below, meth, c⟩ := K
  obtain ⟨hx, hZ, hown, hby, -⟩ := ok
  intro T locs X eT N
  by_cases hc : x = y
  · obtain ⟨s₂, o, st, r⟩ := wy hc T locs X eT N
    exact ⟨s₂, o, XS.icmpYes X.here hx rfl (pc0 := pc) (pc' := pc') rfl (hb hby hd) rfl (teq hc).1 (by rw [hp]; exact Int.natCast_nonneg _) (by rw [hp]; rfl) st, r⟩
  · obtain ⟨s₂, o, st, r⟩ := wn hc T locs X eT N
    exact ⟨s₂, o, XS.icmpNo X.here hx rfl (hb hby hd) rfl (feq hc).1 st, r⟩
theorem w_if_eq (ok : Ok K Z n0 own code maxL ret nm) {x : Int32} {o : Int} {pc' : Nat} (hd : decode code pc = .ok (.ifCond .eq o, 3)) (hp : (pc : Int) + o = (pc' : Int)) (wy : x = 0 → W K l R n0 P h k n pc' L S) (wn : ¬ x = 0 → W K l R n0 P h k n (pc + 3) L S) : W K l R n0 P h k n pc L (.int x :: S) := by
  obtain ⟨p, e, s, m, args, below, meth, c⟩ := K
  obtain ⟨hx, hZ, hown, hby, -⟩ := ok
  intro T locs X eT N
  by_cases hc : x = 0
  · obtain ⟨s₂, o, st, r⟩ := wy hc T locs X eT N
    exact ⟨s₂, o, XS.ifYes X.here hx rfl (pc0 := pc) (pc' := pc') rfl (hb hby hd) rfl ((if0 _ _).trans (teq hc).1) (by rw [hp]; exact Int.natCast_nonneg _) (by rw [hp]; rfl) st, r⟩
  · obtain ⟨s₂, o, st, r⟩ := wn hc T locs X eT N
    exact ⟨s₂, o, XS.ifNo X.here hx rfl (hb hby hd) rfl ((if0 _ _).trans (feq hc).1) st, r⟩
theorem w_icmp_ne (ok : Ok K Z n0 own code maxL ret nm) {x y : Int32} {o : Int} {pc' : Nat} (hd : decode code pc = .ok (.if_icmp .ne o, 3)) (hp : (pc : Int) + o = (pc' : Int)) (wy : ¬ x = y → W K l R n0 P h k n pc' L S) (wn : x = y → W K l R n0 P h k n (pc + 3) L S) : W K l R n0 P h k n pc L (.int y :: .int x :: S) := by
  obtain ⟨p, e, s, m, args, below, meth, c⟩ := K
  obtain ⟨hx, hZ, hown, hby, -⟩ := ok
  intro T locs X eT N
  by_cases hc : x = y
  · obtain ⟨s₂, o, st, r⟩ := wn hc T locs X eT N
    exact ⟨s₂, o, XS.icmpNo X.here hx rfl (hb hby hd) rfl (teq hc).2 st, r⟩
  · obtain ⟨s₂, o, st, r⟩ := wy hc T locs X eT N
    exact ⟨s₂, o, XS.icmpYes X.here hx rfl (pc0 := pc) (pc' := pc') rfl (hb hby hd) rfl (feq hc).2 (by rw [hp]; exact Int.natCast_nonneg _) (by rw [hp]; rfl) st, r⟩
theorem w_if_ne (ok : Ok K Z n0 own code maxL ret nm) {x : Int32} {o : Int} {pc' : Nat} (hd : decode code pc = .ok (.ifCond .ne o, 3)) (hp : (pc : Int) + o = (pc' : Int)) (wy : ¬ x = 0 → W K l R n0 P h k n pc' L S) (wn : x = 0 → W K l R n0 P h k n (pc + 3) L S) : W K l R n0 P h k n pc L (.int x :: S) := by
  obtain ⟨p, e, s, m, args, below, meth, c⟩ := K
  obtain ⟨hx, hZ, hown, hby, -⟩ := ok
  intro T locs X eT N
  by_cases hc : x = 0
  · obtain ⟨s₂, o, st, r⟩ := wn hc T locs X eT N
    exact ⟨s₂, o, XS.ifNo X.here hx rfl (hb hby hd) rfl ((if0 _ _).trans (teq hc).2) st, r⟩
  · obtain ⟨s₂, o, st, r⟩ := wy hc T locs X eT N
    exact ⟨s₂, o, XS.ifYes X.here hx rfl (pc0 := pc) (pc' := pc') rfl (hb hby hd) rfl ((if0 _ _).trans (feq hc).2) (by rw [hp]; exact Int.natCast_nonneg _) (by rw [hp]; rfl) st, r⟩
theorem w_icmp_lt (ok : Ok K Z n0 own code maxL ret nm) {x y : Int32} {o : Int} {pc' : Nat} (hd : decode code pc = .ok (.if_icmp .lt o, 3)) (hp : (pc : Int) + o = (pc' : Int)) (wy : x < y → W K l R n0 P h k n pc' L S) (wn : ¬ x < y → W K l R n0 P h k n (pc + 3) L S) : W K l R n0 P h k n pc L (.int y :: .int x :: S) := by
  obtain ⟨p, e, s, m, args, below, meth, c⟩ := K
  obtain ⟨hx, hZ, hown, hby, -⟩ := ok
  intro T locs X eT N
  by_cases hc : x < y
  · obtain ⟨s₂, o, st, r⟩ := wy hc T locs X eT N
    exact ⟨s₂, o, XS.icmpYes X.here hx rfl (pc0 := pc) (pc' := pc') rfl (hb hby hd) rfl (tlt hc).1 (by rw [hp]; exact Int.natCast_nonneg _) (by rw [hp]; rfl) st, r⟩
  · obtain ⟨s₂, o, st, r⟩ := wn hc T locs X eT N
    exact ⟨s₂, o, XS.icmpNo X.here hx rfl (hb hby hd) rfl (flt hc).1 st, r⟩
theorem w_if_lt (ok : Ok K Z n0 own code maxL ret nm) {x : Int32} {o : Int} {pc' : Nat} (hd : decode code pc = .ok (.ifCond .lt o, 3)) (hp : (pc : Int) + o = (pc' : Int)) (wy : x < 0 → W K l R n0 P h k n pc' L S) (wn : ¬ x < 0 → W K l R n0 P h k n (pc + 3) L S) : W K l R n0 P h k n pc L (.int x :: S) := by
  obtain ⟨p, e, s, m, args, below, meth, c⟩ := K
  obtain ⟨hx, hZ, hown, hby, -⟩ := ok
  intro T locs X eT N
  by_cases hc : x < 0
  · obtain ⟨s₂, o, st, r⟩ := wy hc T locs X eT N
    exact ⟨s₂, o, XS.ifYes X.here hx rfl (pc0 := pc) (pc' := pc') rfl (hb hby hd) rfl ((if0 _ _).trans (tlt hc).1) (by rw [hp]; exact Int.natCast_nonneg _) (by rw [hp]; rfl) st, r⟩
  · obtain ⟨s₂, o, st, r⟩ := wn hc T locs X eT N
    exact ⟨s₂, o, XS.ifNo X.here hx rfl (hb hby hd) rfl ((if0 _ _).trans (flt hc).1) st, r⟩
theorem w_icmp_ge (ok : Ok K Z n0 own code maxL ret nm) {x y : Int32} {o : Int} {pc' : Nat} (hd : decode code pc = .ok (.if_icmp .ge o, 3)) (hp : (pc : Int) + o = (pc' : Int)) (wy : ¬ x < y → W K l R n0 P h k n pc' L S) (wn : x < y → W K l R n0 P h k n (pc + 3) L S) : W K l R n0 P h k n pc L (.int y :: .int x :: S) := by
  obtain ⟨p, e, s, m, args, below, meth, c⟩ := K
  obtain ⟨hx, hZ, hown, hby, -⟩ := ok
  intro T locs X eT N
  by_cases hc : x < y
  · obtain ⟨s₂, o, st, r⟩ := wn hc T locs X eT N
    exact ⟨s₂, o, XS.icmpNo X.here hx rfl (hb hby hd) rfl (tlt hc).2.1 st, r⟩
  · obtain ⟨s₂, o, st, r⟩ := wy hc T locs X eT N
    exact ⟨s₂, o, XS.icmpYes X.here hx rfl (pc0 := pc) (pc' := pc') rfl (hb hby hd) rfl (flt hc).2.1 (by rw [hp]; exact Int.natCast_nonneg _) (by rw [hp]; rfl) st, r⟩
theorem w_if_ge (ok : Ok K Z n0 own code maxL ret nm) {x : Int32} {o : Int} {pc' : Nat} (hd : decode code pc = .ok (.ifCond .ge o, 3)) (hp : (pc : Int) + o = (pc' : Int)) (wy : ¬ x < 0 → W K l R n0 P h k n pc' L S) (wn : x < 0 → W K l R n0 P h k n (pc + 3) L S) : W K l R n0 P h k n pc L (.int x :: S) := by
  obtain ⟨p, e, s, m, args, below, meth, c⟩ := K
  obtain ⟨hx, hZ, hown, hby, -⟩ := ok
  intro T locs X eT N
  by_cases hc : x < 0
  · obtain ⟨s₂, o, st, r⟩ := wn hc T locs X eT N
    exact ⟨s₂, o, XS.ifNo X.here hx rfl (hb hby hd) rfl ((if0 _ _).trans (tlt hc).2.1) st, r⟩
  · obtain ⟨s₂, o, st, r⟩ := wy hc T locs X eT N
    exact ⟨s₂, o, XS.ifYes X.here hx rfl (pc0 := pc) (pc' := pc') rfl (hb hby hd) rfl ((if0 _ _).trans (flt hc).2.1) (by rw [hp]; exact Int.natCast_nonneg _) (by rw [hp]; rfl) st, r⟩
theorem w_icmp_gt (ok : Ok K Z n0 own code maxL ret nm) {x y : Int32} {o : Int} {pc' : Nat} (hd : decode code pc = .ok (.if_icmp .gt o, 3)) (hp : (pc : Int) + o = (pc' : Int)) (wy : y < x → W K l R n0 P h k n pc' L S) (wn : ¬ y < x → W K l R n0 P h k n (pc + 3) L S) : W K l R n0 P h k n pc L (.int y :: .int x :: S) := by
  obtain ⟨p, e, s, m, args, below, meth, c⟩ := K
  obtain ⟨hx, hZ, hown, hby, -⟩ := ok
  intro T locs X eT N
  by_cases hc : y < x
  · obtain ⟨s₂, o, st, r⟩ := wy hc T locs X eT N
    exact ⟨s₂, o, XS.icmpYes X.here hx rfl (pc0 := pc) (pc' := pc') rfl (hb hby hd) rfl (tlt hc).2.2.1 (by rw [hp]; exact Int.natCast_nonneg _) (by rw [hp]; rfl) st, r⟩
  · obtain ⟨s₂, o, st, r⟩ := wn hc T locs X eT N
    exact ⟨s₂, o, XS.icmpNo X.here hx rfl (hb hby hd) rfl (flt hc).2.2.1 st, r⟩
theorem w_if_gt (ok : Ok K Z n0 own code maxL ret nm) {x : Int32} {o : Int} {pc' : Nat} (hd : decode code pc = .ok (.ifCond .gt o, 3)) (hp : (pc : Int) + o = (pc' : Int)) (wy : 0 < x → W K l R n0 P h k n pc' L S) (wn : ¬ 0 < x → W K l R n0 P h k n (pc + 3) L S) : W K l R n0 P h k n pc L (.int x :: S) := by
  obtain ⟨p, e, s, m, args, below, meth, c⟩ := K
  obtain ⟨hx, hZ, hown, hby, -⟩ := ok
  intro T locs X eT N
  by_cases hc : 0 < x
  · obtain ⟨s₂, o, st, r⟩ := wy hc T locs X eT N
    exact ⟨s₂, o, XS.ifYes X.here hx rfl (pc0 := pc) (pc' := pc') rfl (hb hby hd) rfl ((if0 _ _).trans (tlt hc).2.2.1) (by rw [hp]; exact Int.natCast_nonneg _) (by rw [hp]; rfl) st, r⟩
  · obtain ⟨s₂, o, st, r⟩ := wn hc T locs X eT N
    exact ⟨s₂, o, XS.ifNo X.here hx rfl (hb hby hd) rfl ((if0 _ _).trans (flt hc).2.2.1) st, r⟩
theorem w_icmp_le (ok : Ok K Z n0 own code maxL ret nm) {x y : Int32} {o : Int} {pc' : Nat} (hd : decode code pc = .ok (.if_icmp .le o, 3)) (hp : (pc : Int) + o = (pc' : Int)) (wy : ¬ y < x → W K l R n0 P h k n pc' L S) (wn : y < x → W K l R n0 P h k n (pc + 3) L S) : W K l R n0 P h k n pc L (.int y :: .int x :: S) := by
  obtain ⟨p, e, s, m, args, below, meth, c⟩ := K
  obtain ⟨hx, hZ, hown, hby, -⟩ := ok
  intro T locs X eT N
  by_cases hc : y < x
  · obtain ⟨s₂, o, st, r⟩ := wn hc T locs X eT N
    exact ⟨s₂, o, XS.icmpNo X.here hx rfl (hb hby hd) rfl (tlt hc).2.2.2 st, r⟩
  · obtain ⟨s₂, o, st, r⟩ := wy hc T locs X eT N
    exact ⟨s₂, o, XS.icmpYes X.here hx rfl (pc0 := pc) (pc' := pc') rfl (hb hby hd) rfl (flt hc).2.2.2 (by rw [hp]; exact Int.natCast_nonneg _) (by rw [hp]; rfl) st, r⟩
theorem w_if_le (ok : Ok K Z n0 own code maxL ret nm) {x : Int32} {o : Int} {pc' : Nat} (hd : decode code pc = .ok (.ifCond .le o, 3)) (hp : (pc : Int) + o = (pc' : Int)) (wy : ¬ 0 < x → W K l R n0 P h k n pc' L S) (wn : 0 < x → W K l R n0 P h k n (pc + 3) L S) : W K l R n0 P h k n pc L (.int x :: S) := by
  obtain ⟨p, e, s, m, args, below, meth, c⟩ := K
  obtain ⟨hx, hZ, hown, hby, -⟩ := ok
  intro T locs X eT N
  by_cases hc : 0 < x
  · obtain ⟨s₂, o, st, r⟩ := wn hc T locs X eT N
    exact ⟨s₂, o, XS.ifNo X.here hx rfl (hb hby hd) rfl ((if0 _ _).trans (tlt hc).2.2.2) st, r⟩
  · obtain ⟨s₂, o, st, r⟩ := wy hc T locs X eT N
    exact ⟨s₂, o, XS.ifYes X.here hx rfl (pc0 := pc) (pc' := pc') rfl (hb hby hd) rfl ((if0 _ _).trans (flt hc).2.2.2) (by rw [hp]; exact Int.natCast_nonneg _) (by rw [hp]; rfl) st, r⟩
theorem w_lcmp (ok : Ok K Z n0 own code maxL ret nm) {x y : Int64} (hd : decode code pc = .ok (.lcmp, 1)) (w : W K l R n0 P h k n (pc + 1) L (.int (lcmpW x y) :: S)) : W K l R n0 P h k n pc L (.long y :: .long x :: S) := by
  obtain ⟨p, e, s, m, args, below, meth, c⟩ := K
  obtain ⟨hx, hZ, hown, hby, -⟩ := ok
  intro T locs X eT N
  obtain ⟨s₂, o, st, r⟩ := w T locs X eT N
  exact ⟨s₂, o, XS.lcmp X.here hx rfl (hb hby hd) rfl st, r⟩
theorem w_lcmp_eq (ok : Ok K Z n0 own code maxL ret nm) {x y : Int64} {o : Int} {pc' : Nat} (hd : decode code pc = .ok (.lcmp, 1)) (hd2 : decode code (pc + 1) = .ok (.ifCond .eq o, 3)) (hp : ((pc + 1 : Nat) : Int) + o = (pc' : Int)) (wy : x = y → W K l R n0 P h k n pc' L S) (wn : ¬ x = y → W K l R n0 P h k n (pc + 4) L S) : W K l R n0 P h k n pc L (.long y :: .long x :: S) :=
  w_lcmp ok hd (w_if_eq ok hd2 hp (fun hc => wy ((lw_eq x y).mp hc)) (fun hc => wn (fun q => hc ((lw_eq x y).mpr q))))
theorem w_lcmp_ne (ok : Ok K Z n0 own code maxL ret nm) {x y : Int64} {o : Int} {pc' : Nat} (hd : decode code pc = .ok (.lcmp, 1)) (hd2 : decode code (pc + 1) = .ok (.ifCond .ne o, 3)) (hp : ((pc + 1 : Nat) : Int) + o = (pc' : Int)) (wy : ¬ x = y → W K l R n0 P h k n pc' L S) (wn : x = y → W K l R n0 P h k n (pc + 4) L S) : W K l R n0 P h k n pc L (.long y :: .long x :: S) :=
  w_lcmp ok hd (w_if_ne ok hd2 hp (fun hc => wy (fun q => hc ((lw_eq x y).mpr q))) (fun hc => wn ((lw_eq x y).mp hc)))
theorem w_lcmp_lt (ok : Ok K Z n0 own code maxL ret nm) {x y : Int64} {o : Int} {pc' : Nat} (hd : decode code pc = .ok (.lcmp, 1)) (hd2 : decode code (pc + 1) = .ok (.ifCond .lt o, 3)) (hp : ((pc + 1 : Nat) : Int) + o = (pc' : Int)) (wy : x < y → W K l R n0 P h k n pc' L S) (wn : ¬ x < y → W K l R n0 P h k n (pc + 4) L S) : W K l R n0 P h k n pc L (.long y :: .long x :: S) :=
  w_lcmp ok hd (w_if_lt ok hd2 hp (fun hc => wy ((lw_lt x y).mp hc)) (fun hc => wn (fun q => hc ((lw_lt x y).mpr q))))
theorem w_lcmp_ge (ok : Ok K Z n0 own code maxL ret nm) {x y : Int64} {o : Int} {pc' : Nat} (hd : decode code pc = .ok (.lcmp, 1)) (hd2 : decode code (pc + 1) = .ok (.ifCond .ge o, 3)) (hp : ((pc + 1 : Nat) : Int) + o = (pc' : Int)) (wy : ¬ x < y → W K l R n0 P h k n pc' L S) (wn : x < y → W K l R n0 P h k n (pc + 4) L S) : W K l R n0 P h k n pc L (.long y :: .long x :: S) :=
  w_lcmp ok hd (w_if_ge ok hd2 hp (fun hc => wy (fun q => hc ((lw_lt x y).mpr q))) (fun hc => wn ((lw_lt x y).mp hc)))
theorem w_lcmp_gt (ok : Ok K Z n0 own code maxL ret nm) {x y : Int64} {o : Int} {pc' : Nat} (hd : decode code pc = .ok (.lcmp, 1)) (hd2 : decode code (pc + 1) = .ok (.ifCond .gt o, 3)) (hp : ((pc + 1 : Nat) : Int) + o = (pc' : Int)) (wy : y < x → W K l R n0 P h k n pc' L S) (wn : ¬ y < x → W K l R n0 P h k n (pc + 4) L S) : W K l R n0 P h k n pc L (.long y :: .long x :: S) :=
  w_lcmp ok hd (w_if_gt ok hd2 hp (fun hc => wy ((lw_gt x y).mp hc)) (fun hc => wn (fun q => hc ((lw_gt x y).mpr q))))
theorem w_lcmp_le (ok : Ok K Z n0 own code maxL ret nm) {x y : Int64} {o : Int} {pc' : Nat} (hd : decode code pc = .ok (.lcmp, 1)) (hd2 : decode code (pc + 1) = .ok (.ifCond .le o, 3)) (hp : ((pc + 1 : Nat) : Int) + o = (pc' : Int)) (wy : ¬ y < x → W K l R n0 P h k n pc' L S) (wn : y < x → W K l R n0 P h k n (pc + 4) L S) : W K l R n0 P h k n pc L (.long y :: .long x :: S) :=
  w_lcmp ok hd (w_if_le ok hd2 hp (fun hc => wy (fun q => hc ((lw_gt x y).mpr q))) (fun hc => wn ((lw_gt x y).mp hc)))
theorem w_out {t : FieldType} {i : Instr} {w : Value} (ok : Ok K Z n0 own code maxL (some t) nm) (hn : narrow t w = w) (hi : (i = .ireturn ∧ (t = .int ∨ t = .boolean ∨ t = .byte ∨ t = .char ∨ t = .short) ∧ ∃ z, w = .int z) ∨ (i = .lreturn ∧ t = .long ∧ ∃ z, w = .long z) ∨ (i = .dreturn ∧ t = .double ∧ ∃ z, w = .double z) ∨ (i = .freturn ∧ t = .float ∧ ∃ z, w = .float z) ∨ (i = .areturn ∧ t.isReference = true ∧ w.isRef = true))
    (hd : decode code pc = .ok (i, 1)) (hk : k ≤ R.cells) (hs : n ≤ R.slots) (hP : P (some w) h) : W K l R n0 P h k n pc L (w :: S) := by
  obtain ⟨p, e, s, m, args, below, meth, c⟩ := K
  obtain ⟨hx, hZ, hown, hby, hml, hret, hnm, hlk, hn0⟩ := ok
  intro T locs X eT N
  obtain ⟨fs, hr, hrun, hended, hW, hsame⟩ := X.leave (v := some w) (fun q => by rw [hret] at q; cases q)
  exact ⟨_, _, retOut X hx hret hn hi (hb hby hd) hr, hrun, hended, _, _, rfl, ⟨by show P (some w) T.heap; rw [eT]; exact hP, N⟩, ⟨_, rfl⟩, hW, hsame.mono hk hs⟩
theorem w_iret {z : Int32} (ok : Ok K Z n0 own code maxL (some .int) nm) (hd : decode code pc = .ok (.ireturn, 1)) (hk : k ≤ R.cells) (hs : n ≤ R.slots) (hP : P (some (.int z)) h) : W K l R n0 P h k n pc L (.int z :: S) :=
  w_out ok rfl (Or.inl ⟨rfl, by simp, z, rfl⟩) hd hk hs hP
theorem w_lret {z : Int64} (ok : Ok K Z n0 own code maxL (some .long) nm) (hd : decode code pc = .ok (.lreturn, 1)) (hk : k ≤ R.cells) (hs : n ≤ R.slots) (hP : P (some (.long z)) h) : W K l R n0 P h k n pc L (.long z :: S) :=
  w_out ok rfl (Or.inr (Or.inl ⟨rfl, rfl, z, rfl⟩)) hd hk hs hP
theorem w_aret {w : Value} {t : FieldType} (ok : Ok K Z n0 own code maxL (some t) nm) (ht : t.isReference = true) (hw : w.isRef = true) (hd : decode code pc = .ok (.areturn, 1)) (hk : k ≤ R.cells) (hs : n ≤ R.slots) (hP : P (some w) h) : W K l R n0 P h k n pc L (w :: S) :=
  w_out ok (by rcases ref_cases hw with rfl | ⟨_, rfl⟩ <;> cases t <;> first | rfl | cases ht) (Or.inr (Or.inr (Or.inr (Or.inr ⟨rfl, ht, hw⟩)))) hd hk hs hP
theorem w_bret {z : Int32} {t : FieldType} (ok : Ok K Z n0 own code maxL (some t) nm) (ht : t = .boolean ∨ t = .byte ∨ t = .char ∨ t = .short) (hd : decode code pc = .ok (.ireturn, 1)) (hk : k ≤ R.cells) (hs : n ≤ R.slots) (hP : P (some (.int (nar t z))) h) : W K l R n0 P h k n pc L (.int z :: S) := by
  obtain ⟨p, e, s, m, args, below, meth, c⟩ := K
  obtain ⟨hx, hZ, hown, hby, hml, hret, hnm, hlk, hn0⟩ := ok
  intro T locs X eT N
  obtain ⟨fs, hr, hrun, hended, hW, hsame⟩ := X.leave (v := some (.int (nar t z))) (fun q => by rw [hret] at q; cases q)
  exact ⟨_, _, retN X hx hret ht (hb hby hd) hr, hrun, hended, _, _, rfl, ⟨by show P (some (.int (nar t z))) T.heap; rw [eT]; exact hP, N⟩, ⟨_, rfl⟩, hW, hsame.mono hk hs⟩
theorem w_ret (ok : Ok K Z n0 own code maxL none nm) (hd : decode code pc = .ok (.return_, 1)) (hk : k ≤ R.cells) (hs : n ≤ R.slots) (hP : P none h) : W K l R n0 P h k n pc L [] := by
  obtain ⟨p, e, s, m, args, below, meth, c⟩ := K
  obtain ⟨hx, hZ, hown, hby, hml, hret, hnm, hlk, hn0⟩ := ok
  intro T locs X eT N
  obtain ⟨fs, hr, hrun, hended, hW, hsame⟩ := X.leave (v := none) (fun _ => rfl)
  exact ⟨_, _, X.returnOut hx hret (hb hby hd) hr, hrun, hended, _, _, rfl, ⟨by show P none T.heap; rw [eT]; exact hP, N⟩, ⟨_, rfl⟩, hW, hsame.mono hk hs⟩
abbrev notHandle (y : MethodName) : Prop := y.cls ≠ "java/lang/invoke/MethodHandle" ∧ y.cls ≠ "java/lang/invoke/VarHandle"
theorem w_callS (ok : Ok K Z n0 own code maxL ret nm) {index : Nat} {y : MethodName} {bytes : ByteArray} {mL : Nat} {rt : Option FieldType} {rm : Room} {argsL rest : List Value} {Q : Option Value → Heap → Prop} {ps : List FieldType} {r : Option FieldType}
    (hd : decode code pc = .ok (.invokestatic index, 3)) (w1 : (Cond.methodLink own index y).before a0 Z = true) (w2 : (Cond.static y).before a0 Z = true) (w3 : (Cond.initialized y.cls).before a0 Z = true) (w4 : (Cond.code y bytes mL rt).before a0 Z = true) (hy : notHandle y)
    (pd : parseMethodDescriptor y.desc = some ⟨ps, r⟩) (hlen : argsL.length = ps.length) (hL : L.size = maxL) (hf : rm.frames + 1 ≤ R.frames) (hl : (rest.map fun v => v.category).sum + (mL + 11) + rm.locals ≤ R.locals) (hc : k + rm.cells ≤ R.cells) (hs : n + rm.slots ≤ R.slots)
    (hM : n0 ≤ h.size → Met l Z n0 y bytes mL rt [] rm argsL.toArray h Q) (w : ∀ v h', Q v h' → W K l R n0 P h' (k + rm.cells) (n + rm.slots) (pc + 3) L (v.toList ++ rest)) : W K l R n0 P h k n pc L (argsL.reverse ++ rest) := by
  obtain ⟨p, e, s, m, args, below, meth, c⟩ := K
  obtain ⟨hx, hZ, hown, hby, hml, hret, hnm, hlk, hn0⟩ := ok
  intro T locs X eT N
  have hM := hM (by rw [← eT]; exact Nat.le_trans hn0 X.same.2.1)
  obtain ⟨v, _, ⟨T1, L1, k1, n1⟩, -, X1, ⟨Lc, ⟨hQ, N1⟩, l1, y1, z1⟩, st⟩ := Jvm.LawKit.callS X hx (y := y) hown (mvT hZ w1) (mvT hZ w2) (mvT hZ w3) (mvT hZ w4) hy (backOf (W := (rest.map fun v => v.category).sum) (Q := fun v h L => Q v h ∧ Fr n0 L) hM hZ w4 w3 hf hl) (g := mkF m pc L (argsL.reverse ++ rest)) rfl (hL.trans hml.symm) (argsL := argsL) (rest := rest) (lenOf pd hlen) rfl (by show 2 * 0 + _ ≤ _; omega) (hb hby hd) (fun _ _ => ⟨rfl, eT, hc, hs⟩)
  dsimp only [Pt.U, Pt.locs, Pt.cells, Pt.slots] at X1 l1 y1 z1 st hQ
  subst l1 y1 z1
  obtain ⟨s₂, o, st2, r2⟩ := w v _ hQ T1 _ X1 rfl (Fr.app N N1)
  exact ⟨s₂, o, st _ st2, r2⟩
theorem pa_z {N : Nat} (q : N < 2 ^ 31) : ∃ z : Int32, N = z.toNatClampNeg ∧ ¬ z < 0 := by
  have e : (Int32.ofNat N).toInt = N := Int32.toInt_ofNat_of_lt q
  refine ⟨Int32.ofNat N, ?_, ?_⟩
  · simp [Int32.toNatClampNeg, e]
  · rw [Int32.lt_iff_toInt_lt, e]; simp
def PA (ty : FieldType) (Z : State) (h : Heap) (a : Addr) (vs : List Value) : Prop := ∃ c : Cell, Arr Z h a c ty ∧ vs.length < 2 ^ 31 ∧ c.slots = vs.toArray ∧ ∀ v ∈ vs, fits ty v = true
theorem pa_in {c : Cell} {vs : List Value} {j : Int32} (q : c.slots = vs.toArray) (h0 : ¬ j < 0) (hj : j.toNatClampNeg < vs.length) : ¬ (j < 0 ∨ c.slots.size ≤ j.toNatClampNeg) := by
  rw [q]; rintro (y | y)
  · exact h0 y
  · simp at y; omega
section PAs
variable {ty : FieldType} {h' : Heap} {a b : Addr} {vs : List Value} {v : Value} {sl : Nat} {ws : List Addr}
theorem PA.lt (A : PA ty Z h a vs) : a < h.size := by obtain ⟨c, A, -⟩ := A; exact A.lt
theorem PA.len (A : PA ty Z h a vs) : vs.length < 2 ^ 31 := by obtain ⟨c, A, q, -⟩ := A; exact q
theorem PA.ext (A : PA ty Z h a vs) (E : Ext h h') : PA ty Z h' a vs := by obtain ⟨c, A, r⟩ := A; exact ⟨c, A.ext E, r⟩
theorem PA.other (A : PA ty Z h b vs) (W1 : Wr h h' a sl v) (ne : b ≠ a) : PA ty Z h' b vs := by obtain ⟨c, A, r⟩ := A; exact ⟨c, A.other W1 ne, r⟩
theorem PA.keep (A : PA ty Z h a vs) (K1 : Keep h h' ws) (q : a ∉ ws) : PA ty Z h' a vs := by obtain ⟨c, A, r⟩ := A; exact ⟨c, ⟨K1.2.1 a c A.1 q, A.2⟩, r⟩
theorem PA.set (A : PA ty Z h a vs) (W1 : Wr h h' a sl v) (hv : fits ty v = true) : PA ty Z h' a (vs.set sl v) := by
  obtain ⟨c, A, hl, hs, hf⟩ := A
  refine ⟨c.setSlot sl v, A.same W1, by rw [List.length_set]; exact hl, ?_, ?_⟩
  · show c.slots.setIfInBounds sl v = _
    rw [hs]; simp
  · intro u hu
    rcases List.mem_or_eq_of_mem_set hu with q | rfl
    · exact hf _ q
    · exact hv
theorem PA.arv (A : PA ty Z h a vs) {z : Int32} (hz : vs.length = z.toNatClampNeg) (hz0 : ¬ z < 0) (d : Value) : ∃ k, Arv Z h a k ty z vs d := by
  obtain ⟨c, A, hl, hs, hf⟩ := A
  refine ⟨c.cls, c, A, rfl, by rw [hs]; simpa using hz, hz0, fun i hi => ?_, fun i hi => ?_⟩
  · rw [hs] at hi ⊢
    simp at hi
    simp [List.getD_eq_getElem?_getD, List.getElem?_eq_getElem hi]
  · rw [hs] at hi
    simp at hi
    rw [List.getD_eq_getElem?_getD, List.getElem?_eq_getElem hi]
    exact hf _ (List.getElem_mem hi)
theorem PA.of_arv {k : ClassId} {z : Int32} {d : Value} (B : Arv Z h a k ty z vs d) (hl : vs.length = z.toNatClampNeg) : PA ty Z h a vs := by
  obtain ⟨c, A, -, S1, N1, H, G⟩ := B
  have e : c.slots = vs.toArray := by
    apply Array.ext_getElem?
    intro i
    by_cases q : i < c.slots.size
    · rw [H i q]
      have q2 : i < vs.length := by omega
      simp [List.getD_eq_getElem?_getD, List.getElem?_eq_getElem q2]
    · rw [Array.getElem?_eq_none (by omega)]
      simp; omega
  refine ⟨c, A, by have := (back32 N1).2; omega, e, fun v hv => ?_⟩
  obtain ⟨i, hi, rfl⟩ := List.getElem_of_mem hv
  have q := G i (by omega)
  rw [List.getD_eq_getElem?_getD, List.getElem?_eq_getElem hi] at q
  exact q
end PAs
theorem w_arraylength (ok : Ok K Z n0 own code maxL ret nm) {ty : FieldType} {a : Addr} {vs : List Value} {z : Int32} (hd : decode code pc = .ok (.arraylength, 1)) (A : PA ty Z h a vs) (hz : vs.length = z.toNatClampNeg) (hz0 : ¬ z < 0) (w : W K l R n0 P h k n (pc + 1) L (.int z :: S)) : W K l R n0 P h k n pc L (.ref a :: S) := by
  obtain ⟨p, e, s, m, args, below, meth, c⟩ := K
  obtain ⟨hx, hZ, hown, hby, -⟩ := ok
  intro T locs X eT N
  obtain ⟨s₂, o, st, r⟩ := w T locs X eT N
  obtain ⟨cl, A, q1, q2, q3⟩ := A
  have e1 : cl.slots.size.toInt32 = z := len_of (by rw [q2]; simpa using hz) hz0
  exact ⟨s₂, o, X.arraylength hx (by rw [eT]; exact A.1) (State.isArrayOf_alike hZ.alike A.2.1) (g := mkF m pc L (.ref a :: S)) rfl rfl (hb hby hd) _ (by rw [e1]; exact st), r⟩
theorem w_newarray (ok : Ok K Z n0 own code maxL ret nm) {aty : ArrayType} {z : Int32} (hd : decode code pc = .ok (.newarray aty, 2)) (w1 : (Cond.arrayClass (newarray.typeOf aty)).before a0 Z = true) (hz : ¬ z < 0) {cap : Nat} (hcap : z.toNatClampNeg ≤ cap) (hb1 : cap * 8 ≤ 536870912) (hc : k + 1 ≤ R.cells) (hl : n + cap ≤ R.slots)
    (w : ∀ h' a, a = h.size → n0 ≤ a → Ext h h' → PA (newarray.typeOf aty) Z h' a (List.replicate z.toNatClampNeg (defaultValue (newarray.typeOf aty))) → W K l R n0 P h' (k + 1) (n + cap) (pc + 2) L (.ref a :: S)) : W K l R n0 P h k n pc L (.int z :: S) := by
  obtain ⟨p, e, s, m, args, below, meth, c⟩ := K
  obtain ⟨hx, hZ, hown, hby, hml, hret, hnm, hlk, hn0⟩ := ok
  intro T locs X eT N
  obtain ⟨T1, h1, cA, X1, e1, E1, A1, st⟩ := newP X hx hZ w1 eT (g := mkF m pc L (.int z :: S)) rfl (hb hby hd) rfl hz hcap hb1 hc hl
  have A2 : PA (newarray.typeOf aty) Z h1 h.size (List.replicate z.toNatClampNeg (defaultValue (newarray.typeOf aty))) := by
    refine ⟨_, A1, by simpa using (back32 hz).2, by simp [newA], fun v hv => ?_⟩
    rw [List.eq_of_mem_replicate hv]
    cases aty <;> rfl
  obtain ⟨s₂, o, st2, r⟩ := w h1 h.size rfl (by rw [← eT]; exact Nat.le_trans hn0 X.same.2.1) E1 A2 T1 _ X1 e1 N
  exact ⟨s₂, o, st _ st2, r⟩
theorem w_arraycopy (ok : Ok K Z n0 own code maxL ret nm) {index : Nat} {ty : FieldType} {a b : Addr} {vs vd : List Value} {sp dp nn : Int32} {sp' dp' nn' : Nat} (hd : decode code pc = .ok (.invokestatic index, 3)) (w1 : (Cond.methodLink own index Jvm.Stand.acN).before a0 Z = true) (w2 : (Cond.native Jvm.Stand.acN).before a0 Z = true) (w3 : (Cond.static Jvm.Stand.acN).before a0 Z = true) (w4 : (Cond.initialized "java/lang/System").before a0 Z = true)
    (A : PA ty Z h a vs) (B : PA ty Z h b vd) (hty : refKind ty = false) (ge : n0 ≤ b) (h1 : ¬ sp < 0) (h2 : ¬ dp < 0) (h3 : ¬ nn < 0) (es : sp.toNatClampNeg = sp') (ed : dp.toNatClampNeg = dp') (en : nn.toNatClampNeg = nn') (h4 : sp' + nn' ≤ vs.length) (h5 : dp' + nn' ≤ vd.length) (hL : L.size = maxL) (hf : 1 ≤ R.frames) (hlo : (S.map fun v => v.category).sum + (nativeFrameWords "java/lang/System" "arraycopy" 5 + 11) ≤ R.locals)
    (w : ∀ h', Keep h h' [b] → PA ty Z h' b (vd.take dp' ++ (vs.drop sp').take nn' ++ vd.drop (dp' + nn')) → W K l R n0 P h' k n (pc + 3) L S) : W K l R n0 P h k n pc L (.int nn :: .int dp :: .ref b :: .int sp :: .ref a :: S) := by
  obtain ⟨p, e, s, m, args, below, meth, c⟩ := K
  obtain ⟨hx, hZ, hown, hby, hml, hret, hnm, hlk, hn0⟩ := ok
  intro T locs X eT N
  subst es ed en
  obtain ⟨z1, hz1, hz2⟩ : ∃ z : Int32, vs.length = z.toNatClampNeg ∧ ¬ z < 0 := pa_z A.len
  obtain ⟨z3, hz3, hz4⟩ : ∃ z : Int32, vd.length = z.toNatClampNeg ∧ ¬ z < 0 := pa_z B.len
  obtain ⟨k1, A1⟩ := A.arv hz1 hz2 .null
  obtain ⟨k2, B1⟩ := B.arv hz3 hz4 .null
  obtain ⟨T1, h1', L1, X1, e1, N1, K1, B2, st⟩ := cpA X hx hZ hown w1 w2 w3 w4 eT A1 B1 (Or.inl ⟨rfl, hty⟩) h1 h2 h3 (by omega) (by omega) rfl h5 N ge (g := mkF m pc L (.int nn :: .int dp :: .ref b :: .int sp :: .ref a :: S)) rfl (hL.trans hml.symm) rfl (hb hby hd) hf (W := (S.map fun v => v.category).sum) (by show 2 * 0 + _ ≤ _; omega) hlo
  have e2 : ((List.range nn.toNatClampNeg).map fun i => vs.getD (sp.toNatClampNeg + i) Value.null) = (vs.drop sp.toNatClampNeg).take nn.toNatClampNeg := by
    apply List.ext_getElem
    · simp; omega
    · intro i q1 q2
      simp at q1
      simp [List.getD_eq_getElem?_getD, List.getElem?_eq_getElem (show sp.toNatClampNeg + i < vs.length by omega)]
  rw [e2] at B2
  obtain ⟨s₂, o, st2, r⟩ := w h1' K1 (PA.of_arv B2 (by simp; omega)) T1 _ X1 e1 N1
  exact ⟨s₂, o, st _ st2, r⟩
theorem w_iaload (ok : Ok K Z n0 own code maxL ret nm) {a : Addr} {vs : List Value} {j : Int32} {v : Value} (hd : decode code pc = .ok (.iaload, 1)) (A : PA .int Z h a vs) (h0 : ¬ j < 0) (hj : vs[j.toNatClampNeg]? = some v) (w : W K l R n0 P h k n (pc + 1) L (v :: S)) : W K l R n0 P h k n pc L (.int j :: .ref a :: S) := by
  obtain ⟨p, e, s, m, args, below, meth, c⟩ := K
  obtain ⟨hx, hZ, hown, hby, -⟩ := ok
  intro T locs X eT N
  obtain ⟨s₂, o, st, r⟩ := w T locs X eT N
  obtain ⟨cl, A, q1, q2, q3⟩ := A
  exact ⟨s₂, o, X.iaload hx (j := j) (v := v) (by rw [eT]; exact A.1) (State.isArrayOf_alike hZ.alike A.2.1) A.2.2 (pa_in q2 h0 (List.getElem?_eq_some_iff.mp hj).1) (by rw [q2]; simpa using hj) (g := mkF m pc L (.int j :: .ref a :: S)) rfl rfl (hb hby hd) _ st, r⟩
theorem w_laload (ok : Ok K Z n0 own code maxL ret nm) {a : Addr} {vs : List Value} {j : Int32} {v : Value} (hd : decode code pc = .ok (.laload, 1)) (A : PA .long Z h a vs) (h0 : ¬ j < 0) (hj : vs[j.toNatClampNeg]? = some v) (w : W K l R n0 P h k n (pc + 1) L (v :: S)) : W K l R n0 P h k n pc L (.int j :: .ref a :: S) := by
  obtain ⟨p, e, s, m, args, below, meth, c⟩ := K
  obtain ⟨hx, hZ, hown, hby, -⟩ := ok
  intro T locs X eT N
  obtain ⟨s₂, o, st, r⟩ := w T locs X eT N
  obtain ⟨cl, A, q1, q2, q3⟩ := A
  exact ⟨s₂, o, X.laload hx (j := j) (v := v) (by rw [eT]; exact A.1) (State.isArrayOf_alike hZ.alike A.2.1) A.2.2 (pa_in q2 h0 (List.getElem?_eq_some_iff.mp hj).1) (by rw [q2]; simpa using hj) (g := mkF m pc L (.int j :: .ref a :: S)) rfl rfl (hb hby hd) _ st, r⟩
theorem w_caload (ok : Ok K Z n0 own code maxL ret nm) {a : Addr} {vs : List Value} {j : Int32} {v : Value} (hd : decode code pc = .ok (.caload, 1)) (A : PA .char Z h a vs) (h0 : ¬ j < 0) (hj : vs[j.toNatClampNeg]? = some v) (w : W K l R n0 P h k n (pc + 1) L (v :: S)) : W K l R n0 P h k n pc L (.int j :: .ref a :: S) := by
  obtain ⟨p, e, s, m, args, below, meth, c⟩ := K
  obtain ⟨hx, hZ, hown, hby, -⟩ := ok
  intro T locs X eT N
  obtain ⟨s₂, o, st, r⟩ := w T locs X eT N
  obtain ⟨cl, A, q1, q2, q3⟩ := A
  exact ⟨s₂, o, X.caload hx (j := j) (v := v) (by rw [eT]; exact A.1) (State.isArrayOf_alike hZ.alike A.2.1) A.2.2 (pa_in q2 h0 (List.getElem?_eq_some_iff.mp hj).1) (by rw [q2]; simpa using hj) (g := mkF m pc L (.int j :: .ref a :: S)) rfl rfl (hb hby hd) _ st, r⟩
theorem w_baload (ok : Ok K Z n0 own code maxL ret nm) {a : Addr} {vs : List Value} {j : Int32} {v : Value} (hd : decode code pc = .ok (.baload, 1)) (A : PA .byte Z h a vs) (h0 : ¬ j < 0) (hj : vs[j.toNatClampNeg]? = some v) (w : W K l R n0 P h k n (pc + 1) L (v :: S)) : W K l R n0 P h k n pc L (.int j :: .ref a :: S) := by
  obtain ⟨p, e, s, m, args, below, meth, c⟩ := K
  obtain ⟨hx, hZ, hown, hby, -⟩ := ok
  intro T locs X eT N
  obtain ⟨s₂, o, st, r⟩ := w T locs X eT N
  obtain ⟨cl, A, q1, q2, q3⟩ := A
  exact ⟨s₂, o, X.baloadBytes hx (j := j) (v := v) (by rw [eT]; exact A.1) (State.isArrayOf_alike hZ.alike A.2.1) A.2.2 (pa_in q2 h0 (List.getElem?_eq_some_iff.mp hj).1) (by rw [q2]; simpa using hj) (g := mkF m pc L (.int j :: .ref a :: S)) rfl rfl (hb hby hd) _ st, r⟩
theorem w_zaload (ok : Ok K Z n0 own code maxL ret nm) {a : Addr} {vs : List Value} {j : Int32} {v : Value} (hd : decode code pc = .ok (.baload, 1)) (A : PA .boolean Z h a vs) (h0 : ¬ j < 0) (hj : vs[j.toNatClampNeg]? = some v) (w : W K l R n0 P h k n (pc + 1) L (v :: S)) : W K l R n0 P h k n pc L (.int j :: .ref a :: S) := by
  obtain ⟨p, e, s, m, args, below, meth, c⟩ := K
  obtain ⟨hx, hZ, hown, hby, -⟩ := ok
  intro T locs X eT N
  obtain ⟨s₂, o, st, r⟩ := w T locs X eT N
  obtain ⟨cl, A, q1, q2, q3⟩ := A
  exact ⟨s₂, o, X.baloadBooleans hx (j := j) (v := v) (by rw [eT]; exact A.1) (State.isArrayOf_alike hZ.alike A.2.1) A.2.2 (pa_in q2 h0 (List.getElem?_eq_some_iff.mp hj).1) (by rw [q2]; simpa using hj) (g := mkF m pc L (.int j :: .ref a :: S)) rfl rfl (hb hby hd) _ st, r⟩
theorem w_aaload (ok : Ok K Z n0 own code maxL ret nm) {ty : FieldType} {a : Addr} {vs : List Value} {j : Int32} {v : Value} (hd : decode code pc = .ok (.aaload, 1)) (A : PA ty Z h a vs) (ht : ty.isReference = true) (h0 : ¬ j < 0) (hj : vs[j.toNatClampNeg]? = some v) (w : W K l R n0 P h k n (pc + 1) L (v :: S)) : W K l R n0 P h k n pc L (.int j :: .ref a :: S) := by
  obtain ⟨p, e, s, m, args, below, meth, c⟩ := K
  obtain ⟨hx, hZ, hown, hby, -⟩ := ok
  intro T locs X eT N
  obtain ⟨s₂, o, st, r⟩ := w T locs X eT N
  obtain ⟨cl, A, q1, q2, q3⟩ := A
  exact ⟨s₂, o, X.aaload hx (j := j) (v := v) (by rw [eT]; exact A.1) (State.isArrayOf_alike hZ.alike A.2.1) ht A.2.2 (pa_in q2 h0 (List.getElem?_eq_some_iff.mp hj).1) (by rw [q2]; simpa using hj) (g := mkF m pc L (.int j :: .ref a :: S)) rfl rfl (hb hby hd) _ st, r⟩
theorem w_iastore (ok : Ok K Z n0 own code maxL ret nm) {a : Addr} {vs : List Value} {j : Int32} {x : Int32} (hd : decode code pc = .ok (.iastore, 1)) (A : PA .int Z h a vs) (ge : n0 ≤ a) (h0 : ¬ j < 0) (hj : j.toNatClampNeg < vs.length) (w : ∀ h', Wr h h' a j.toNatClampNeg (.int x) → PA .int Z h' a (vs.set j.toNatClampNeg (.int x)) → W K l R n0 P h' k n (pc + 1) L S) : W K l R n0 P h k n pc L (.int x :: .int j :: .ref a :: S) := by
  obtain ⟨p, e, s, m, args, below, meth, c⟩ := K
  obtain ⟨hx, hZ, hown, hby, -⟩ := ok
  intro T locs X eT N
  have A0 := A
  obtain ⟨cl, A, q1, q2, q3⟩ := A
  obtain ⟨T1, h1, X1, e1, W1, st⟩ := stI X hx hZ eT A (j := j) (pa_in q2 h0 hj) (g := mkF m pc L (.int x :: .int j :: .ref a :: S)) rfl rfl (hb hby hd)
  obtain ⟨s₂, o, st2, r⟩ := w h1 W1 (A0.set W1 rfl) T1 _ X1 e1 (Fr.snoc X1 N ge)
  exact ⟨s₂, o, st _ st2, r⟩
theorem w_lastore (ok : Ok K Z n0 own code maxL ret nm) {a : Addr} {vs : List Value} {j : Int32} {x : Int64} (hd : decode code pc = .ok (.lastore, 1)) (A : PA .long Z h a vs) (ge : n0 ≤ a) (h0 : ¬ j < 0) (hj : j.toNatClampNeg < vs.length) (w : ∀ h', Wr h h' a j.toNatClampNeg (.long x) → PA .long Z h' a (vs.set j.toNatClampNeg (.long x)) → W K l R n0 P h' k n (pc + 1) L S) : W K l R n0 P h k n pc L (.long x :: .int j :: .ref a :: S) := by
  obtain ⟨p, e, s, m, args, below, meth, c⟩ := K
  obtain ⟨hx, hZ, hown, hby, -⟩ := ok
  intro T locs X eT N
  have A0 := A
  obtain ⟨cl, A, q1, q2, q3⟩ := A
  obtain ⟨T1, h1, X1, e1, W1, st⟩ := stJ X hx hZ eT A (j := j) (pa_in q2 h0 hj) (g := mkF m pc L (.long x :: .int j :: .ref a :: S)) rfl rfl (hb hby hd)
  obtain ⟨s₂, o, st2, r⟩ := w h1 W1 (A0.set W1 rfl) T1 _ X1 e1 (Fr.snoc X1 N ge)
  exact ⟨s₂, o, st _ st2, r⟩
theorem w_castore (ok : Ok K Z n0 own code maxL ret nm) {a : Addr} {vs : List Value} {j : Int32} {x : Int32} (hd : decode code pc = .ok (.castore, 1)) (A : PA .char Z h a vs) (ge : n0 ≤ a) (h0 : ¬ j < 0) (hj : j.toNatClampNeg < vs.length) (w : ∀ h', Wr h h' a j.toNatClampNeg (.int (nar .char x)) → PA .char Z h' a (vs.set j.toNatClampNeg (.int (nar .char x))) → W K l R n0 P h' k n (pc + 1) L S) : W K l R n0 P h k n pc L (.int x :: .int j :: .ref a :: S) := by
  obtain ⟨p, e, s, m, args, below, meth, c⟩ := K
  obtain ⟨hx, hZ, hown, hby, -⟩ := ok
  intro T locs X eT N
  have A0 := A
  obtain ⟨cl, A, q1, q2, q3⟩ := A
  obtain ⟨T1, h1, X1, e1, W1, st⟩ := stC X hx hZ eT A (j := j) (pa_in q2 h0 hj) (g := mkF m pc L (.int x :: .int j :: .ref a :: S)) rfl rfl (hb hby hd)
  obtain ⟨s₂, o, st2, r⟩ := w h1 W1 (A0.set W1 (fits_nar_char x)) T1 _ X1 e1 (Fr.snoc X1 N ge)
  exact ⟨s₂, o, st _ st2, r⟩
theorem w_bastore (ok : Ok K Z n0 own code maxL ret nm) {a : Addr} {vs : List Value} {j : Int32} {x : Int32} (hd : decode code pc = .ok (.bastore, 1)) (A : PA .byte Z h a vs) (ge : n0 ≤ a) (h0 : ¬ j < 0) (hj : j.toNatClampNeg < vs.length) (w : ∀ h', Wr h h' a j.toNatClampNeg (.int (nar .byte x)) → PA .byte Z h' a (vs.set j.toNatClampNeg (.int (nar .byte x))) → W K l R n0 P h' k n (pc + 1) L S) : W K l R n0 P h k n pc L (.int x :: .int j :: .ref a :: S) := by
  obtain ⟨p, e, s, m, args, below, meth, c⟩ := K
  obtain ⟨hx, hZ, hown, hby, -⟩ := ok
  intro T locs X eT N
  have A0 := A
  obtain ⟨cl, A, q1, q2, q3⟩ := A
  obtain ⟨T1, h1, X1, e1, W1, st⟩ := stB X hx hZ eT A (j := j) (pa_in q2 h0 hj) (g := mkF m pc L (.int x :: .int j :: .ref a :: S)) rfl rfl (hb hby hd)
  obtain ⟨s₂, o, st2, r⟩ := w h1 W1 (A0.set W1 (fits_nar_byte x)) T1 _ X1 e1 (Fr.snoc X1 N ge)
  exact ⟨s₂, o, st _ st2, r⟩
theorem w_zastore (ok : Ok K Z n0 own code maxL ret nm) {a : Addr} {vs : List Value} {j : Int32} {x : Int32} (hd : decode code pc = .ok (.bastore, 1)) (A : PA .boolean Z h a vs) (ge : n0 ≤ a) (h0 : ¬ j < 0) (hj : j.toNatClampNeg < vs.length) (w : ∀ h', Wr h h' a j.toNatClampNeg (.int (nar .boolean x)) → PA .boolean Z h' a (vs.set j.toNatClampNeg (.int (nar .boolean x))) → W K l R n0 P h' k n (pc + 1) L S) : W K l R n0 P h k n pc L (.int x :: .int j :: .ref a :: S) := by
  obtain ⟨p, e, s, m, args, below, meth, c⟩ := K
  obtain ⟨hx, hZ, hown, hby, -⟩ := ok
  intro T locs X eT N
  have A0 := A
  obtain ⟨cl, A, q1, q2, q3⟩ := A
  obtain ⟨T1, h1, X1, e1, W1, st⟩ := stZ X hx hZ eT A (j := j) (pa_in q2 h0 hj) (g := mkF m pc L (.int x :: .int j :: .ref a :: S)) rfl rfl (hb hby hd)
  obtain ⟨s₂, o, st2, r⟩ := w h1 W1 (A0.set W1 (fits_nar_bool x)) T1 _ X1 e1 (Fr.snoc X1 N ge)
  exact ⟨s₂, o, st _ st2, r⟩
/-! objects -/
abbrev Fl := List (String × String × String × FieldType)
def Ob (Z : State) (h : Heap) (a : Addr) (C : String) (fl : Fl) (vals : List Value) : Prop := Exa Z h a C ∧ ∀ (i : Nat) f v, fl[i]? = some f → vals[i]? = some v → Fld Z h a f.1 f.2.1 f.2.2.1 v
def LA (Z : State) (a0 : Array Value) (C : String) (fl : Fl) : Prop := (∀ f ∈ fl, Laid Z a0 C f.1 f.2.1 f.2.2.1 ∧ parseFieldDescriptor f.2.2.1 = some f.2.2.2) ∧ (fl.map (·.2.1)).Nodup
section Obs
variable {h' : Heap} {a b : Addr} {C : String} {fl : Fl} {vals : List Value} {v : Value} {sl : Nat} {ws : List Addr}
theorem Ob.lt (O : Ob Z h a C fl vals) : a < h.size := O.1.lt
theorem Ob.ext (O : Ob Z h a C fl vals) (E : Ext h h') : Ob Z h' a C fl vals := ⟨O.1.ext E, fun i f v q r => (O.2 i f v q r).ext E⟩
theorem Ob.other (O : Ob Z h b C fl vals) (W1 : Wr h h' a sl v) (ne : b ≠ a) : Ob Z h' b C fl vals := ⟨O.1.wr W1, fun i f v q r => (O.2 i f v q r).other W1 (Or.inl ne)⟩
theorem Ob.keep (O : Ob Z h a C fl vals) (K1 : Keep h h' ws) (q : a ∉ ws) : Ob Z h' a C fl vals := ⟨O.1.keep K1, fun i f v r r' => (O.2 i f v r r').keep K1 q⟩
theorem Ob.put (O : Ob Z h a C fl vals) (LAs : LA Z a0 C fl) {i : Nat} {f : String × String × String × FieldType} {u : Value} (hf : fl[i]? = some f) (hv : vals[i]? = some u) (W1 : Wr h h' a (Jvm.RoadKit.slotOf Z f.1 f.2.1 f.2.2.1) v) : Ob Z h' a C fl (vals.set i v) := by
  refine ⟨O.1.wr W1, fun j g w hg hw => ?_⟩
  by_cases e : i = j
  · subst e
    cases hf.symm.trans hg
    rw [List.getElem?_set_self (List.getElem?_eq_some_iff.mp hv).1] at hw
    cases hw
    exact (O.2 i f u hf hv).same W1
  · rw [List.getElem?_set_ne e] at hw
    refine (O.2 j g w hg hw).other W1 (Or.inr ?_)
    have m1 := LAs.1 f (List.mem_of_getElem? hf)
    have m2 := LAs.1 g (List.mem_of_getElem? hg)
    refine slot_ne m2.1 m1.1 (fun q => e ?_) m2.2 m1.2
    have hi := (List.getElem?_eq_some_iff.mp hf)
    have hj := (List.getElem?_eq_some_iff.mp hg)
    have nd := LAs.2
    have q1 : (fl.map (·.2.1))[i]? = some f.2.1 := by simp [hf]
    have q2 : (fl.map (·.2.1))[j]? = some f.2.1 := by simp [hg, q]
    exact (List.getElem?_inj (by simpa using hi.1) nd).mp (q1.trans q2.symm)
end Obs
theorem w_getfield (ok : Ok K Z n0 own code maxL ret nm) {index : Nat} {a : Addr} {C R0 host : String} {fl : Fl} {vals : List Value} {v : Value} {f : String × String × String × FieldType} (i : Nat) (hd : decode code pc = .ok (.getfield index, 3)) (w1 : (Cond.fieldLink own index R0 f.2.1 f.2.2.1).before a0 Z = true ∨ (Cond.fieldLinkNest own index R0 f.2.1 f.2.2.1 host).before a0 Z = true) (via : Via Z R0 f.1 f.2.1 f.2.2.1) (O : Ob Z h a C fl vals) (hf : fl[i]? = some f) (hv : vals[i]? = some v)
    (w : W K l R n0 P h k n (pc + 3) L (v :: S)) : W K l R n0 P h k n pc L (.ref a :: S) := by
  obtain ⟨p, e, s, m, args, below, meth, c⟩ := K
  obtain ⟨hx, hZ, hown, hby, -⟩ := ok
  intro T locs X eT N
  obtain ⟨T1, X1, e1, st⟩ := getF X hx hZ hown w1 via eT (O.2 i f v hf hv) (g := mkF m pc L (.ref a :: S)) rfl rfl (hb hby hd)
  obtain ⟨s₂, o, st2, r⟩ := w T1 locs X1 e1 N
  exact ⟨s₂, o, st _ st2, r⟩
theorem w_putfield (ok : Ok K Z n0 own code maxL ret nm) {index kk : Nat} {a : Addr} {C R0 host : String} {fl : Fl} {vals : List Value} {v u : Value} {f : String × String × String × FieldType} (i : Nat) (hd : decode code pc = .ok (.putfield index, 3)) (w1 : (Cond.fieldLink own index R0 f.2.1 f.2.2.1).before a0 Z = true ∨ (Cond.fieldLinkNest own index R0 f.2.1 f.2.2.1 host).before a0 Z = true) (via : Via Z R0 f.1 f.2.1 f.2.2.1) (O : Ob Z h a C fl vals) (LAs : LA Z a0 C fl) (hf : fl[i]? = some f) (hv : vals[i]? = some u)
    (w2 : (Cond.lays C f.1 f.2.1 f.2.2.1).before a0 Z = true ∨ ((Cond.laysFinal C f.1 f.2.1 f.2.2.1).before a0 Z = true ∧ own = f.1 ∧ nm = "<init>")) (w3 : (Cond.instantiable C kk).before a0 Z = true) (hn : narrow f.2.2.2 v = v) (hfit : fits f.2.2.2 v = true) (ge : n0 ≤ a)
    (w : ∀ h', Wr h h' a (Jvm.RoadKit.slotOf Z f.1 f.2.1 f.2.2.1) v → Ob Z h' a C fl (vals.set i v) → W K l R n0 P h' k n (pc + 3) L S) : W K l R n0 P h k n pc L (v :: .ref a :: S) := by
  obtain ⟨p, e, s, m, args, below, meth, c⟩ := K
  obtain ⟨hx, hZ, hown, hby, hml, hret, hnm, hlk, hn0⟩ := ok
  intro T locs X eT N
  obtain ⟨T1, h1, X1, e1, W1, st⟩ := putF X hx hZ hown w1 via eT (O.2 i f u hf hv) O.1 (w2.imp id fun q => ⟨q.1, q.2.1, hnm.trans q.2.2⟩) w3 (LAs.1 f (List.mem_of_getElem? hf)).2 hn hfit (g := mkF m pc L (v :: .ref a :: S)) rfl rfl (hb hby hd)
  obtain ⟨s₂, o, st2, r⟩ := w h1 W1 (O.put LAs hf hv W1) T1 _ X1 e1 (Fr.snoc X1 N ge)
  exact ⟨s₂, o, st _ st2, r⟩
theorem w_new (ok : Ok K Z n0 own code maxL ret nm) {index kk : Nat} {C : String} {fl : Fl} (hd : decode code pc = .ok (.new index, 3)) (w1 : (Cond.classLink own index C).before a0 Z = true) (w2 : (Cond.instantiable C kk).before a0 Z = true) (w3 : (Cond.initialized C).before a0 Z = true) (LAs : LA Z a0 C fl) (hc : k + 1 ≤ R.cells) (hl : n + kk ≤ R.slots)
    (w : ∀ h' a, a = h.size → n0 ≤ a → Ext h h' → Ob Z h' a C fl (fl.map fun f => defaultValue f.2.2.2) → W K l R n0 P h' (k + 1) (n + kk) (pc + 3) L (.ref a :: S)) : W K l R n0 P h k n pc L S := by
  obtain ⟨p, e, s, m, args, below, meth, c⟩ := K
  obtain ⟨hx, hZ, hown, hby, hml, hret, hnm, hlk, hn0⟩ := ok
  intro T locs X eT N
  obtain ⟨T1, h1, X1, e1, E1, A1, D1, -, st⟩ := newO X hx hZ hown w1 w2 w3 eT (g := mkF m pc L S) rfl (hb hby hd) hc hl
  obtain ⟨s₂, o, st2, r⟩ := w h1 h.size rfl (by rw [← eT]; exact Nat.le_trans hn0 X.same.2.1) E1 ⟨A1, fun i f v hf hv => by
    simp [hf] at hv; subst hv
    exact D1 (LAs.1 f (List.mem_of_getElem? hf)).1 (LAs.1 f (List.mem_of_getElem? hf)).2⟩ T1 _ X1 e1 N
  exact ⟨s₂, o, st _ st2, r⟩
theorem w_initO (ok : Ok K Z n0 own code maxL ret nm) {index : Nat} {a : Addr} (hd : decode code pc = .ok (.invokespecial index, 3)) (w1 : (Cond.methodLink own index Lib.objectInit).before a0 Z = true) (w2 : (Cond.instanceMethod Lib.objectInit).before a0 Z = true) (w3 : (Cond.code Lib.objectInit ⟨#[0xb1]⟩ 1 none).before a0 Z = true) (hL : L.size = maxL) (hf : 1 ≤ R.frames) (hl : (S.map fun v => v.category).sum + 12 ≤ R.locals)
    (w : W K l R n0 P h k n (pc + 3) L S) : W K l R n0 P h k n pc L (.ref a :: S) := by
  obtain ⟨p, e, s, m, args, below, meth, c⟩ := K
  obtain ⟨hx, hZ, hown, hby, hml, hret, hnm, hlk, hn0⟩ := ok
  intro T locs X eT N
  obtain ⟨T1, X1, e1, st⟩ := initO X hx hZ hown w1 w2 w3 eT (g := mkF m pc L (.ref a :: S)) rfl (hL.trans hml.symm) rfl (hb hby hd) hf (W := (S.map fun v => v.category).sum) (by show 2 * 0 + _ ≤ _; omega) hl
  obtain ⟨s₂, o, st2, r⟩ := w T1 locs X1 e1 N
  exact ⟨s₂, o, st _ st2, r⟩
theorem w_callI (ok : Ok K Z n0 own code maxL ret nm) {index : Nat} {y : MethodName} {bytes : ByteArray} {mL : Nat} {rm : Room} {a : Addr} {argsL rest : List Value} {Q : Option Value → Heap → Prop} {ps : List FieldType} {r : Option FieldType}
    (hd : decode code pc = .ok (.invokespecial index, 3)) (hy1 : y.name = "<init>") (w1 : (Cond.methodLink own index y).before a0 Z = true) (w2 : (Cond.instanceMethod y).before a0 Z = true) (w3 : (Cond.initialized y.cls).before a0 Z = true) (w4 : (Cond.code y bytes mL none).before a0 Z = true) (hy : notHandle y)
    (pd : parseMethodDescriptor y.desc = some ⟨ps, r⟩) (hlen : argsL.length = ps.length) (hL : L.size = maxL) (hf : rm.frames + 1 ≤ R.frames) (hl : (rest.map fun v => v.category).sum + (mL + 11) + rm.locals ≤ R.locals) (hc : k + rm.cells ≤ R.cells) (hs : n + rm.slots ≤ R.slots)
    (hM : n0 ≤ h.size → Met l Z n0 y bytes mL none [] rm (.ref a :: argsL).toArray h Q) (w : ∀ v h', Q v h' → W K l R n0 P h' (k + rm.cells) (n + rm.slots) (pc + 3) L (v.toList ++ rest)) : W K l R n0 P h k n pc L (argsL.reverse ++ .ref a :: rest) := by
  obtain ⟨p, e, s, m, args, below, meth, c⟩ := K
  obtain ⟨hx, hZ, hown, hby, hml, hret, hnm, hlk, hn0⟩ := ok
  intro T locs X eT N
  have hM := hM (by rw [← eT]; exact Nat.le_trans hn0 X.same.2.1)
  obtain ⟨v, _, ⟨T1, L1, k1, n1⟩, -, X1, ⟨Lc, ⟨hQ, N1⟩, l1, y1, z1⟩, st⟩ := X.specialBack hx (y := y) hy1 hown (mvT hZ w1) (mvT hZ w2) (mvT hZ w4) hy (backOf (W := (rest.map fun v => v.category).sum) (Q := fun v h L => Q v h ∧ Fr n0 L) hM hZ w4 w3 hf hl) (g := mkF m pc L (argsL.reverse ++ .ref a :: rest)) rfl (hL.trans hml.symm) (Steps.refl _) (a := a) (argsL := argsL) (rest := rest) (lenOf pd hlen) rfl (by show 2 * 0 + _ ≤ _; omega) (hb hby hd) (fun _ _ => ⟨rfl, eT, hc, hs⟩)
  dsimp only [Pt.U, Pt.locs, Pt.cells, Pt.slots] at X1 l1 y1 z1 st hQ
  subst l1 y1 z1
  obtain ⟨s₂, o, st2, r2⟩ := w v _ hQ T1 _ X1 rfl (Fr.app N N1)
  exact ⟨s₂, o, st.trans st2, r2⟩
theorem w_callV (ok : Ok K Z n0 own code maxL ret nm) {index : Nat} {C : String} {y : MethodName} {bytes : ByteArray} {mL : Nat} {rt : Option FieldType} {rm : Room} {a : Addr} {argsL rest : List Value} {Q : Option Value → Heap → Prop} {ps : List FieldType} {r : Option FieldType}
    (hd : decode code pc = .ok (.invokevirtual index, 3)) (w1 : (Cond.methodLink own index y).before a0 Z = true) (w2 : (Cond.declares y).before a0 Z = true) (w3 : (Cond.selects C y y).before a0 Z = true) (w4 : (Cond.instanceMethod y).before a0 Z = true) (w5 : (Cond.initialized y.cls).before a0 Z = true) (w6 : (Cond.code y bytes mL rt).before a0 Z = true) (hy : notHandle y)
    (E : Exa Z h a C) (pd : parseMethodDescriptor y.desc = some ⟨ps, r⟩) (hlen : argsL.length = ps.length) (hL : L.size = maxL) (hf : rm.frames + 1 ≤ R.frames) (hl : (rest.map fun v => v.category).sum + (mL + 11) + rm.locals ≤ R.locals) (hc : k + rm.cells ≤ R.cells) (hs : n + rm.slots ≤ R.slots)
    (hM : n0 ≤ h.size → Met l Z n0 y bytes mL rt [] rm (.ref a :: argsL).toArray h Q) (w : ∀ v h', Q v h' → W K l R n0 P h' (k + rm.cells) (n + rm.slots) (pc + 3) L (v.toList ++ rest)) : W K l R n0 P h k n pc L (argsL.reverse ++ .ref a :: rest) := by
  obtain ⟨p, e, s, m, args, below, meth, c⟩ := K
  obtain ⟨hx, hZ, hown, hby, hml, hret, hnm, hlk, hn0⟩ := ok
  intro T locs X eT N
  have hM := hM (by rw [← eT]; exact Nat.le_trans hn0 X.same.2.1)
  obtain ⟨cq, kq, qa, qb, qc⟩ := isOf hZ eT E
  obtain ⟨v, _, ⟨T1, L1, k1, n1⟩, -, X1, ⟨Lc, ⟨hQ, N1⟩, l1, y1, z1⟩, st⟩ := X.virtualBack hx (y := y) (z := y) hown (mvT hZ w1) (mvT hZ w2) (notFace_of_selects (args := #[]) (mvT hZ w3)) (mvT hZ w3) (mvT hZ w4) hy (backOf (W := (rest.map fun v => v.category).sum) (Q := fun v h L => Q v h ∧ Fr n0 L) hM hZ w6 w5 hf hl) qa qc (g := mkF m pc L (argsL.reverse ++ .ref a :: rest)) rfl (hL.trans hml.symm) (Steps.refl _) (argsL := argsL) (rest := rest) (lenOf pd hlen) rfl (by show 2 * 0 + _ ≤ _; omega) (hb hby hd) (fun _ _ => ⟨rfl, eT, hc, hs⟩)
  dsimp only [Pt.U, Pt.locs, Pt.cells, Pt.slots] at X1 l1 y1 z1 st hQ
  subst l1 y1 z1
  obtain ⟨s₂, o, st2, r2⟩ := w v _ hQ T1 _ X1 rfl (Fr.app N N1)
  exact ⟨s₂, o, st.trans st2, r2⟩
theorem w_callP (ok : Ok K Z n0 own code maxL ret nm) {index kk : Nat} {y : MethodName} {bytes : ByteArray} {mL : Nat} {rt : Option FieldType} {rm : Room} {a : Addr} {argsL rest : List Value} {Q : Option Value → Heap → Prop} {ps : List FieldType} {r : Option FieldType}
    (hd : decode code pc = .ok (.invokevirtual index, 3)) (w1 : (Cond.methodLink own index y).before a0 Z = true) (w2 : (Cond.instanceMethod y).before a0 Z = true) (w3 : (Cond.privateMethod y).before a0 Z = true) (w4 : (Cond.instantiable y.cls kk).before a0 Z = true) (w5 : (Cond.initialized y.cls).before a0 Z = true) (w6 : (Cond.code y bytes mL rt).before a0 Z = true) (hy : notHandle y)
    (E : Exa Z h a y.cls) (pd : parseMethodDescriptor y.desc = some ⟨ps, r⟩) (hlen : argsL.length = ps.length) (hL : L.size = maxL) (hf : rm.frames + 1 ≤ R.frames) (hl : (rest.map fun v => v.category).sum + (mL + 11) + rm.locals ≤ R.locals) (hc : k + rm.cells ≤ R.cells) (hs : n + rm.slots ≤ R.slots)
    (hM : n0 ≤ h.size → Met l Z n0 y bytes mL rt [] rm (.ref a :: argsL).toArray h Q) (w : ∀ v h', Q v h' → W K l R n0 P h' (k + rm.cells) (n + rm.slots) (pc + 3) L (v.toList ++ rest)) : W K l R n0 P h k n pc L (argsL.reverse ++ .ref a :: rest) := by
  obtain ⟨p, e, s, m, args, below, meth, c⟩ := K
  obtain ⟨hx, hZ, hown, hby, hml, hret, hnm, hlk, hn0⟩ := ok
  intro T locs X eT N
  have hM := hM (by rw [← eT]; exact Nat.le_trans hn0 X.same.2.1)
  have hP : s.PrivateAt y := Cond.privateMethod_at (mvP hZ w3 (args := #[]))
  obtain ⟨ci, ki, i1, i2, i3, i4, -⟩ := Cond.instantiable_spec (mvT (args := args) hZ w4)
  have hni : ki.isInterface = false := by
    cases q : ki.isInterface
    · rfl
    · rw [q] at i4; cases i4
  have hsel := selects_self_of_private (args := args) i1 i2 hni hP (mvT hZ w2) hy
  obtain ⟨cell, hcell, hobj⟩ := E.cell
  obtain ⟨v, _, ⟨T1, L1, k1, n1⟩, -, X1, ⟨Lc, ⟨hQ, N1⟩, l1, y1, z1⟩, st⟩ := X.privateBack hx (y := y) hown (mvT hZ w1) (mvT hZ w2) hsel hP (mvT hZ w6) hy (backOf (W := (rest.map fun v => v.category).sum) (Q := fun v h L => Q v h ∧ Fr n0 L) hM hZ w6 w5 hf hl) (g := mkF m pc L (argsL.reverse ++ .ref a :: rest)) rfl (hL.trans hml.symm) (Steps.refl _) (a := a) (by rw [eT]; exact hcell) hobj (argsL := argsL) (rest := rest) (lenOf pd hlen) rfl (by show 2 * 0 + _ ≤ _; omega) (hb hby hd) (fun _ _ => ⟨rfl, eT, hc, hs⟩)
  dsimp only [Pt.U, Pt.locs, Pt.cells, Pt.slots] at X1 l1 y1 z1 st hQ
  subst l1 y1 z1
  obtain ⟨s₂, o, st2, r2⟩ := w v _ hQ T1 _ X1 rfl (Fr.app N N1)
  exact ⟨s₂, o, st.trans st2, r2⟩
theorem frame_fin {s u : State} {L L' : List Loc} {v : Option Value} {c c' n n' : Nat} (hq : FrameEnd s (.returned v) u L c n) (N : Fr s.heap.size L) (h1 : c ≤ c') (h2 : n ≤ n') : FrameEnd s (.returned v) u L' c' n' :=
  ⟨hq.1, hq.2.1, (hq.2.2.sift fun y hy => Or.inr (N y hy)).mono h1 h2⟩
end S
end Jvm.OwnKit
namespace Jvm.Pilot.@@N@@
open Jvm Jvm.ClassFile Sem Op Lib Jvm.Free Jvm.Stand Jvm.LawKit Jvm.RoadKit Bundle Jvm.OwnKit Jvm.Pilot.@@N@@.Jvm.D
abbrev bys (xs : List Int32) : List Value := xs.map Value.int
theorem own_ofNat {j : Nat} (h : j < 2147483648) : (Int32.ofNat j).toInt = j := Int32.toInt_ofNat_of_lt h
theorem own_succ {j : Nat} (h : j + 1 < 2147483648) : Int32.ofNat j + 1 = Int32.ofNat (j + 1) := by
  apply Int32.toInt_inj.mp
  have e := c_iadd (Int32.ofNat j) 1; have r := rng32 (Int32.ofNat j + 1); have e1 : (1 : Int32).toInt = 1 := rfl
  rw [own_ofNat (show j < 2147483648 by omega)] at e
  rw [own_ofNat h]; omega
theorem own_clamp {z : Int32} {n : Nat} (h : z.toInt = n) : z.toNatClampNeg = n := by rw [Int32.toNatClampNeg, h]; rfl
theorem own_nn {z : Int32} {n : Nat} (h : z.toInt = n) : ¬ z < 0 := by rw [Int32.lt_iff_toInt_lt, h]; show ¬ (n : Int) < 0; omega
theorem own_bys {xs : List Int32} {i : Nat} (h : i < xs.length) : (bys xs)[i]? = some (.int xs[i]) := by simp [bys, h]
theorem own_rd {xs : List Int32} {i : Nat} {x : Int32} (h : xs[i]? = some x) : (bys xs)[i]? = some (.int x) := by simp [bys, h]
theorem own_nb {z : Int32} (h1 : -128 ≤ z.toInt) (h2 : z.toInt < 128) : nar .byte z = z := by
  apply Int32.toInt_inj.mp
  have := c_i2b z
  show (z.toInt8.toInt32).toInt = z.toInt
  omega
theorem own_nbr (z : Int32) : -128 ≤ (nar .byte z).toInt ∧ (nar .byte z).toInt < 128 := by
  have := c_i2b z
  show -128 ≤ (z.toInt8.toInt32).toInt ∧ (z.toInt8.toInt32).toInt < 128
  omega
def own_fold (s : Int32) : Int32 := if 97 ≤ s.toInt ∧ s.toInt ≤ 122 then s - 32 else s
def own_isl : List Int32 → List Int32 → Int32
  | [], [] => 1
  | x :: xs, y :: ys => if own_fold x = y then own_isl xs ys else 0
  | _, _ => 0
theorem own_isl_len : ∀ {xs ys : List Int32}, xs.length ≠ ys.length → own_isl xs ys = 0
  | [], [], h => absurd rfl h
  | [], _ :: _, _ => rfl
  | _ :: _, [], _ => rfl
  | x :: xs, y :: ys, h => by
    have h' : xs.length ≠ ys.length := fun e => h (by simp [e])
    rw [own_isl, own_isl_len h']; split <;> rfl
def own_ok (s n : Int32) : Int32 := if s.toInt = n.toInt ∨ (65 ≤ n.toInt ∧ n.toInt ≤ 90 ∧ s.toInt = n.toInt + 32) then 1 else 0
theorem own_fold_eq {s n : Int32} (h1 : -128 ≤ s.toInt) (h2 : s.toInt < 128) (hn : ¬ (97 ≤ n.toInt ∧ n.toInt ≤ 122)) (hn1 : -128 ≤ n.toInt) (hn2 : n.toInt < 128) : own_fold s = n ↔ (s.toInt = n.toInt ∨ (65 ≤ n.toInt ∧ n.toInt ≤ 90 ∧ s.toInt = n.toInt + 32)) := by
  have e := c_isub s 32; have r := rng32 (s - 32); have e2 : (32 : Int32).toInt = 32 := rfl
  unfold own_fold
  split
  · rw [← Int32.toInt_inj]; omega
  · rw [← Int32.toInt_inj]; omega
theorem own_t {s n : Int32} (hs : -128 ≤ s.toInt ∧ s.toInt < 128) (hn : (-128 ≤ n.toInt ∧ n.toInt < 128) ∧ ¬ (97 ≤ n.toInt ∧ n.toInt ≤ 122)) (h : ¬ own_ok s n = 0) : own_fold s = n := by
  rw [own_fold_eq hs.1 hs.2 hn.2 hn.1.1 hn.1.2]
  unfold own_ok at h; split at h
  · assumption
  · exact absurd rfl h
theorem own_f {s n : Int32} (hs : -128 ≤ s.toInt ∧ s.toInt < 128) (hn : (-128 ≤ n.toInt ∧ n.toInt < 128) ∧ ¬ (97 ≤ n.toInt ∧ n.toInt ≤ 122)) (h : own_ok s n = 0) : ¬ own_fold s = n := by
  rw [own_fold_eq hs.1 hs.2 hn.2 hn.1.1 hn.1.2]
  unfold own_ok at h; split at h
  · exact absurd h (by decide)
  · assumption
theorem d4_0 : decode prog_71_method_49_code 0 = .ok (.aload_n 0, 1) := by decide +kernel
theorem d4_1 : decode prog_71_method_49_code 1 = .ok (.arraylength, 1) := by decide +kernel
theorem d4_2 : decode prog_71_method_49_code 2 = .ok (.aload_n 1, 1) := by decide +kernel
theorem d4_3 : decode prog_71_method_49_code 3 = .ok (.arraylength, 1) := by decide +kernel
theorem d4_4 : decode prog_71_method_49_code 4 = .ok (.if_icmp .eq 5, 3) := by decide +kernel
theorem d4_7 : decode prog_71_method_49_code 7 = .ok (.iconst 0, 1) := by decide +kernel
theorem d4_8 : decode prog_71_method_49_code 8 = .ok (.ireturn, 1) := by decide +kernel
theorem d4_9 : decode prog_71_method_49_code 9 = .ok (.iconst 0, 1) := by decide +kernel
theorem d4_10 : decode prog_71_method_49_code 10 = .ok (.istore_n 2, 1) := by decide +kernel
theorem d4_11 : decode prog_71_method_49_code 11 = .ok (.iload_n 2, 1) := by decide +kernel
theorem d4_12 : decode prog_71_method_49_code 12 = .ok (.aload_n 0, 1) := by decide +kernel
theorem d4_13 : decode prog_71_method_49_code 13 = .ok (.arraylength, 1) := by decide +kernel
theorem d4_14 : decode prog_71_method_49_code 14 = .ok (.if_icmp .ge 47, 3) := by decide +kernel
theorem d4_17 : decode prog_71_method_49_code 17 = .ok (.aload_n 0, 1) := by decide +kernel
theorem d4_18 : decode prog_71_method_49_code 18 = .ok (.iload_n 2, 1) := by decide +kernel
theorem d4_19 : decode prog_71_method_49_code 19 = .ok (.baload, 1) := by decide +kernel
theorem d4_20 : decode prog_71_method_49_code 20 = .ok (.bipush 97, 2) := by decide +kernel
theorem d4_22 : decode prog_71_method_49_code 22 = .ok (.if_icmp .lt 20, 3) := by decide +kernel
theorem d4_25 : decode prog_71_method_49_code 25 = .ok (.aload_n 0, 1) := by decide +kernel
theorem d4_26 : decode prog_71_method_49_code 26 = .ok (.iload_n 2, 1) := by decide +kernel
theorem d4_27 : decode prog_71_method_49_code 27 = .ok (.baload, 1) := by decide +kernel
theorem d4_28 : decode prog_71_method_49_code 28 = .ok (.bipush 122, 2) := by decide +kernel
theorem d4_30 : decode prog_71_method_49_code 30 = .ok (.if_icmp .gt 12, 3) := by decide +kernel
theorem d4_33 : decode prog_71_method_49_code 33 = .ok (.aload_n 0, 1) := by decide +kernel
theorem d4_34 : decode prog_71_method_49_code 34 = .ok (.iload_n 2, 1) := by decide +kernel
theorem d4_35 : decode prog_71_method_49_code 35 = .ok (.baload, 1) := by decide +kernel
theorem d4_36 : decode prog_71_method_49_code 36 = .ok (.bipush 32, 2) := by decide +kernel
theorem d4_38 : decode prog_71_method_49_code 38 = .ok (.isub, 1) := by decide +kernel
theorem d4_39 : decode prog_71_method_49_code 39 = .ok (.goto 6, 3) := by decide +kernel
theorem d4_42 : decode prog_71_method_49_code 42 = .ok (.aload_n 0, 1) := by decide +kernel
theorem d4_43 : decode prog_71_method_49_code 43 = .ok (.iload_n 2, 1) := by decide +kernel
theorem d4_44 : decode prog_71_method_49_code 44 = .ok (.baload, 1) := by decide +kernel
theorem d4_45 : decode prog_71_method_49_code 45 = .ok (.istore_n 3, 1) := by decide +kernel
theorem d4_46 : decode prog_71_method_49_code 46 = .ok (.iload_n 3, 1) := by decide +kernel
theorem d4_47 : decode prog_71_method_49_code 47 = .ok (.aload_n 1, 1) := by decide +kernel
theorem d4_48 : decode prog_71_method_49_code 48 = .ok (.iload_n 2, 1) := by decide +kernel
theorem d4_49 : decode prog_71_method_49_code 49 = .ok (.baload, 1) := by decide +kernel
theorem d4_50 : decode prog_71_method_49_code 50 = .ok (.if_icmp .eq 5, 3) := by decide +kernel
theorem d4_53 : decode prog_71_method_49_code 53 = .ok (.iconst 0, 1) := by decide +kernel
theorem d4_54 : decode prog_71_method_49_code 54 = .ok (.ireturn, 1) := by decide +kernel
theorem d4_55 : decode prog_71_method_49_code 55 = .ok (.iinc 2 1, 3) := by decide +kernel
theorem d4_58 : decode prog_71_method_49_code 58 = .ok (.goto (-47), 3) := by decide +kernel
theorem d4_61 : decode prog_71_method_49_code 61 = .ok (.iconst 1, 1) := by decide +kernel
theorem d4_62 : decode prog_71_method_49_code 62 = .ok (.ireturn, 1) := by decide +kernel
theorem pn_com_example_turnstile_turnstile_server_Commands : plainName "com/example/turnstile/turnstile/server/Commands" = true := by first | (simp [plainName, overriddenIn]; done) | decide +kernel
set_option maxRecDepth 65536 in
set_option maxHeartbeats 40000000 in
theorem lp (l : Launch) (Z : State) (a0 : Array Value) (hw : ∀ d ∈ tables_1, d.before a0 Z = true) (n0 : Nat) (h0 : Heap) (K : Cx) (ok : Ok K Z n0 "com/example/turnstile/turnstile/server/Commands" prog_71_method_49_code 4 (some .boolean) "is") (d p : Addr) (xs ys : List Int32) (r : Int32) (A_d : PA .byte Z h0 d (bys xs)) (A_p : PA .byte Z h0 p (bys ys)) (hl : xs.length = ys.length) :
    ∀ (c j : Nat) (s3 : Slot), One s3 → j + c = xs.length → own_isl (xs.drop j) (ys.drop j) = r → W K l ({ frames := 0, cells := 0, slots := 0, locals := 0 } : Room) n0 (fun u h => u = some (.int (nar .boolean r)) ∧ h0 = h) h0 0 0 11 #[.val (.ref d), .val (.ref p), .val (.int (Int32.ofNat j)), s3] [] := by
  obtain ⟨q, hq, hq0⟩ := pa_z A_d.len
  have eq := nat_of hq0
  have m1 : (bys xs).length = xs.length := by simp
  have ml := A_d.len
  intro c
  induction c with
  | zero =>
    intro j s3 o3 hj hr
    have ej : (Int32.ofNat j).toInt = j := own_ofNat (by omega)
    show W K l _ n0 _ h0 0 0 11 #[.val (.ref d), .val (.ref p), .val (.int (Int32.ofNat j)), s3] []
    refine w_iloadN ok d4_11 rfl ?_
    show W K l _ n0 _ h0 0 0 12 #[.val (.ref d), .val (.ref p), .val (.int (Int32.ofNat j)), s3] [(.int (Int32.ofNat j))]
    refine w_aloadN ok d4_12 rfl rfl ?_
    show W K l _ n0 _ h0 0 0 13 #[.val (.ref d), .val (.ref p), .val (.int (Int32.ofNat j)), s3] [(.ref d), (.int (Int32.ofNat j))]
    refine w_arraylength ok (z := q) d4_13 A_d hq hq0 ?_
    show W K l _ n0 _ h0 0 0 14 #[.val (.ref d), .val (.ref p), .val (.int (Int32.ofNat j)), s3] [(.int q), (.int (Int32.ofNat j))]
    refine w_icmp_ge ok d4_14 (pc' := 61) (by decide) (fun hc1 => ?_) (fun hc1 => False.elim (by rw [Int32.lt_iff_toInt_lt] at hc1; omega))
    show W K l _ n0 _ h0 0 0 61 #[.val (.ref d), .val (.ref p), .val (.int (Int32.ofNat j)), s3] []
    refine w_iconst ok d4_61 (v := (1 : Int32)) rfl ?_
    show W K l _ n0 _ h0 0 0 62 #[.val (.ref d), .val (.ref p), .val (.int (Int32.ofNat j)), s3] [(.int (1 : Int32))]
    refine w_bret ok (by simp) d4_62 (by decide) (by decide) ?_
    refine ⟨?_, rfl⟩
    rw [← hr, List.drop_of_length_le (by omega : xs.length ≤ j), List.drop_of_length_le (by omega : ys.length ≤ j)] <;> rfl
  | succ c ih =>
    intro j s3 o3 hj hr
    have ej : (Int32.ofNat j).toInt = j := own_ofNat (by omega)
    have hx2 : j < xs.length := by omega
    have hy2 : j < ys.length := by omega
    rw [List.drop_eq_getElem_cons hx2, List.drop_eq_getElem_cons hy2, own_isl] at hr
    generalize hX : xs[j] = X at hr
    generalize hY : ys[j] = Y at hr
    show W K l _ n0 _ h0 0 0 11 #[.val (.ref d), .val (.ref p), .val (.int (Int32.ofNat j)), s3] []
    refine w_iloadN ok d4_11 rfl ?_
    show W K l _ n0 _ h0 0 0 12 #[.val (.ref d), .val (.ref p), .val (.int (Int32.ofNat j)), s3] [(.int (Int32.ofNat j))]
    refine w_aloadN ok d4_12 rfl rfl ?_
    show W K l _ n0 _ h0 0 0 13 #[.val (.ref d), .val (.ref p), .val (.int (Int32.ofNat j)), s3] [(.ref d), (.int (Int32.ofNat j))]
    refine w_arraylength ok (z := q) d4_13 A_d hq hq0 ?_
    show W K l _ n0 _ h0 0 0 14 #[.val (.ref d), .val (.ref p), .val (.int (Int32.ofNat j)), s3] [(.int q), (.int (Int32.ofNat j))]
    refine w_icmp_ge ok d4_14 (pc' := 61) (by decide) (fun hc3 => False.elim (by rw [Int32.lt_iff_toInt_lt] at hc3; omega)) (fun hc3 => ?_)
    show W K l _ n0 _ h0 0 0 17 #[.val (.ref d), .val (.ref p), .val (.int (Int32.ofNat j)), s3] []
    refine w_aloadN ok d4_17 rfl rfl ?_
    show W K l _ n0 _ h0 0 0 18 #[.val (.ref d), .val (.ref p), .val (.int (Int32.ofNat j)), s3] [(.ref d)]
    refine w_iloadN ok d4_18 rfl ?_
    show W K l _ n0 _ h0 0 0 19 #[.val (.ref d), .val (.ref p), .val (.int (Int32.ofNat j)), s3] [(.int (Int32.ofNat j)), (.ref d)]
    refine w_baload ok (v := (.int X)) d4_19 A_d (own_nn ej) (by rw [own_clamp ej, own_bys hx2, hX]) ?_
    show W K l _ n0 _ h0 0 0 20 #[.val (.ref d), .val (.ref p), .val (.int (Int32.ofNat j)), s3] [(.int X)]
    refine w_bipush ok d4_20 (v := (97 : Int32)) rfl ?_
    show W K l _ n0 _ h0 0 0 22 #[.val (.ref d), .val (.ref p), .val (.int (Int32.ofNat j)), s3] [(.int (97 : Int32)), (.int X)]
    refine w_icmp_lt ok d4_22 (pc' := 42) (by decide) (fun hc5 => ?_) (fun hc5 => ?_)
    · show W K l _ n0 _ h0 0 0 42 #[.val (.ref d), .val (.ref p), .val (.int (Int32.ofNat j)), s3] []
      refine w_aloadN ok d4_42 rfl rfl ?_
      show W K l _ n0 _ h0 0 0 43 #[.val (.ref d), .val (.ref p), .val (.int (Int32.ofNat j)), s3] [(.ref d)]
      refine w_iloadN ok d4_43 rfl ?_
      show W K l _ n0 _ h0 0 0 44 #[.val (.ref d), .val (.ref p), .val (.int (Int32.ofNat j)), s3] [(.int (Int32.ofNat j)), (.ref d)]
      refine w_baload ok (v := (.int X)) d4_44 A_d (own_nn ej) (by rw [own_clamp ej, own_bys hx2, hX]) ?_
      show W K l _ n0 _ h0 0 0 45 #[.val (.ref d), .val (.ref p), .val (.int (Int32.ofNat j)), s3] [(.int X)]
      have hf : X = own_fold X := by simp only [Int32.lt_iff_toInt_lt, Int32.reduceToInt] at hc5; rw [own_fold, if_neg (by omega)]
      rw [show (Value.int X :: ([] : List Value)) = [Value.int (own_fold X)] by rw [← hf]]
      show W K l _ n0 _ h0 0 0 45 #[.val (.ref d), .val (.ref p), .val (.int (Int32.ofNat j)), s3] [(.int (own_fold X))]
      refine w_istoreN ok d4_45 (L' := #[.val (.ref d), .val (.ref p), .val (.int (Int32.ofNat j)), .val (.int (own_fold X))]) (by exact XS.store1 (o := s3) rfl o3 rfl) ?_
      show W K l _ n0 _ h0 0 0 46 #[.val (.ref d), .val (.ref p), .val (.int (Int32.ofNat j)), .val (.int (own_fold X))] []
      refine w_iloadN ok d4_46 rfl ?_
      show W K l _ n0 _ h0 0 0 47 #[.val (.ref d), .val (.ref p), .val (.int (Int32.ofNat j)), .val (.int (own_fold X))] [(.int (own_fold X))]
      refine w_aloadN ok d4_47 rfl rfl ?_
      show W K l _ n0 _ h0 0 0 48 #[.val (.ref d), .val (.ref p), .val (.int (Int32.ofNat j)), .val (.int (own_fold X))] [(.ref p), (.int (own_fold X))]
      refine w_iloadN ok d4_48 rfl ?_
      show W K l _ n0 _ h0 0 0 49 #[.val (.ref d), .val (.ref p), .val (.int (Int32.ofNat j)), .val (.int (own_fold X))] [(.int (Int32.ofNat j)), (.ref p), (.int (own_fold X))]
      refine w_baload ok (v := (.int Y)) d4_49 A_p (own_nn ej) (by rw [own_clamp ej, own_bys hy2, hY]) ?_
      show W K l _ n0 _ h0 0 0 50 #[.val (.ref d), .val (.ref p), .val (.int (Int32.ofNat j)), .val (.int (own_fold X))] [(.int Y), (.int (own_fold X))]
      refine w_icmp_eq ok d4_50 (pc' := 55) (by decide) (fun hc7 => ?_) (fun hc7 => ?_)
      · show W K l _ n0 _ h0 0 0 55 #[.val (.ref d), .val (.ref p), .val (.int (Int32.ofNat j)), .val (.int (own_fold X))] []
        refine w_iinc ok d4_55 (u := (1 : Int32)) rfl rfl (L' := #[.val (.ref d), .val (.ref p), .val (.int ((Int32.ofNat j) + (1 : Int32))), .val (.int (own_fold X))]) rfl ?_
        show W K l _ n0 _ h0 0 0 58 #[.val (.ref d), .val (.ref p), .val (.int ((Int32.ofNat j) + (1 : Int32))), .val (.int (own_fold X))] []
        refine w_goto ok d4_58 (pc' := 11) (by decide) ?_
        show W K l _ n0 _ h0 0 0 11 #[.val (.ref d), .val (.ref p), .val (.int ((Int32.ofNat j) + (1 : Int32))), .val (.int (own_fold X))] []
        rw [own_succ (by omega)]
        exact ih (j + 1) _ (One.val rfl) (by omega) (by rw [if_pos hc7] at hr; exact hr)
      · show W K l _ n0 _ h0 0 0 53 #[.val (.ref d), .val (.ref p), .val (.int (Int32.ofNat j)), .val (.int (own_fold X))] []
        refine w_iconst ok d4_53 (v := (0 : Int32)) rfl ?_
        show W K l _ n0 _ h0 0 0 54 #[.val (.ref d), .val (.ref p), .val (.int (Int32.ofNat j)), .val (.int (own_fold X))] [(.int (0 : Int32))]
        refine w_bret ok (by simp) d4_54 (by decide) (by decide) ?_
        refine ⟨?_, rfl⟩
        rw [if_neg hc7] at hr; rw [← hr] <;> rfl
    · show W K l _ n0 _ h0 0 0 25 #[.val (.ref d), .val (.ref p), .val (.int (Int32.ofNat j)), s3] []
      refine w_aloadN ok d4_25 rfl rfl ?_
      show W K l _ n0 _ h0 0 0 26 #[.val (.ref d), .val (.ref p), .val (.int (Int32.ofNat j)), s3] [(.ref d)]
      refine w_iloadN ok d4_26 rfl ?_
      show W K l _ n0 _ h0 0 0 27 #[.val (.ref d), .val (.ref p), .val (.int (Int32.ofNat j)), s3] [(.int (Int32.ofNat j)), (.ref d)]
      refine w_baload ok (v := (.int X)) d4_27 A_d (own_nn ej) (by rw [own_clamp ej, own_bys hx2, hX]) ?_
      show W K l _ n0 _ h0 0 0 28 #[.val (.ref d), .val (.ref p), .val (.int (Int32.ofNat j)), s3] [(.int X)]
      refine w_bipush ok d4_28 (v := (122 : Int32)) rfl ?_
      show W K l _ n0 _ h0 0 0 30 #[.val (.ref d), .val (.ref p), .val (.int (Int32.ofNat j)), s3] [(.int (122 : Int32)), (.int X)]
      refine w_icmp_gt ok d4_30 (pc' := 42) (by decide) (fun hc9 => ?_) (fun hc9 => ?_)
      · show W K l _ n0 _ h0 0 0 42 #[.val (.ref d), .val (.ref p), .val (.int (Int32.ofNat j)), s3] []
        refine w_aloadN ok d4_42 rfl rfl ?_
        show W K l _ n0 _ h0 0 0 43 #[.val (.ref d), .val (.ref p), .val (.int (Int32.ofNat j)), s3] [(.ref d)]
        refine w_iloadN ok d4_43 rfl ?_
        show W K l _ n0 _ h0 0 0 44 #[.val (.ref d), .val (.ref p), .val (.int (Int32.ofNat j)), s3] [(.int (Int32.ofNat j)), (.ref d)]
        refine w_baload ok (v := (.int X)) d4_44 A_d (own_nn ej) (by rw [own_clamp ej, own_bys hx2, hX]) ?_
        show W K l _ n0 _ h0 0 0 45 #[.val (.ref d), .val (.ref p), .val (.int (Int32.ofNat j)), s3] [(.int X)]
        have hf : X = own_fold X := by simp only [Int32.lt_iff_toInt_lt, Int32.reduceToInt] at hc5 hc9; rw [own_fold, if_neg (by omega)]
        rw [show (Value.int X :: ([] : List Value)) = [Value.int (own_fold X)] by rw [← hf]]
        show W K l _ n0 _ h0 0 0 45 #[.val (.ref d), .val (.ref p), .val (.int (Int32.ofNat j)), s3] [(.int (own_fold X))]
        refine w_istoreN ok d4_45 (L' := #[.val (.ref d), .val (.ref p), .val (.int (Int32.ofNat j)), .val (.int (own_fold X))]) (by exact XS.store1 (o := s3) rfl o3 rfl) ?_
        show W K l _ n0 _ h0 0 0 46 #[.val (.ref d), .val (.ref p), .val (.int (Int32.ofNat j)), .val (.int (own_fold X))] []
        refine w_iloadN ok d4_46 rfl ?_
        show W K l _ n0 _ h0 0 0 47 #[.val (.ref d), .val (.ref p), .val (.int (Int32.ofNat j)), .val (.int (own_fold X))] [(.int (own_fold X))]
        refine w_aloadN ok d4_47 rfl rfl ?_
        show W K l _ n0 _ h0 0 0 48 #[.val (.ref d), .val (.ref p), .val (.int (Int32.ofNat j)), .val (.int (own_fold X))] [(.ref p), (.int (own_fold X))]
        refine w_iloadN ok d4_48 rfl ?_
        show W K l _ n0 _ h0 0 0 49 #[.val (.ref d), .val (.ref p), .val (.int (Int32.ofNat j)), .val (.int (own_fold X))] [(.int (Int32.ofNat j)), (.ref p), (.int (own_fold X))]
        refine w_baload ok (v := (.int Y)) d4_49 A_p (own_nn ej) (by rw [own_clamp ej, own_bys hy2, hY]) ?_
        show W K l _ n0 _ h0 0 0 50 #[.val (.ref d), .val (.ref p), .val (.int (Int32.ofNat j)), .val (.int (own_fold X))] [(.int Y), (.int (own_fold X))]
        refine w_icmp_eq ok d4_50 (pc' := 55) (by decide) (fun hc11 => ?_) (fun hc11 => ?_)
        · show W K l _ n0 _ h0 0 0 55 #[.val (.ref d), .val (.ref p), .val (.int (Int32.ofNat j)), .val (.int (own_fold X))] []
          refine w_iinc ok d4_55 (u := (1 : Int32)) rfl rfl (L' := #[.val (.ref d), .val (.ref p), .val (.int ((Int32.ofNat j) + (1 : Int32))), .val (.int (own_fold X))]) rfl ?_
          show W K l _ n0 _ h0 0 0 58 #[.val (.ref d), .val (.ref p), .val (.int ((Int32.ofNat j) + (1 : Int32))), .val (.int (own_fold X))] []
          refine w_goto ok d4_58 (pc' := 11) (by decide) ?_
          show W K l _ n0 _ h0 0 0 11 #[.val (.ref d), .val (.ref p), .val (.int ((Int32.ofNat j) + (1 : Int32))), .val (.int (own_fold X))] []
          rw [own_succ (by omega)]
          exact ih (j + 1) _ (One.val rfl) (by omega) (by rw [if_pos hc11] at hr; exact hr)
        · show W K l _ n0 _ h0 0 0 53 #[.val (.ref d), .val (.ref p), .val (.int (Int32.ofNat j)), .val (.int (own_fold X))] []
          refine w_iconst ok d4_53 (v := (0 : Int32)) rfl ?_
          show W K l _ n0 _ h0 0 0 54 #[.val (.ref d), .val (.ref p), .val (.int (Int32.ofNat j)), .val (.int (own_fold X))] [(.int (0 : Int32))]
          refine w_bret ok (by simp) d4_54 (by decide) (by decide) ?_
          refine ⟨?_, rfl⟩
          rw [if_neg hc11] at hr; rw [← hr] <;> rfl
      · show W K l _ n0 _ h0 0 0 33 #[.val (.ref d), .val (.ref p), .val (.int (Int32.ofNat j)), s3] []
        refine w_aloadN ok d4_33 rfl rfl ?_
        show W K l _ n0 _ h0 0 0 34 #[.val (.ref d), .val (.ref p), .val (.int (Int32.ofNat j)), s3] [(.ref d)]
        refine w_iloadN ok d4_34 rfl ?_
        show W K l _ n0 _ h0 0 0 35 #[.val (.ref d), .val (.ref p), .val (.int (Int32.ofNat j)), s3] [(.int (Int32.ofNat j)), (.ref d)]
        refine w_baload ok (v := (.int X)) d4_35 A_d (own_nn ej) (by rw [own_clamp ej, own_bys hx2, hX]) ?_
        show W K l _ n0 _ h0 0 0 36 #[.val (.ref d), .val (.ref p), .val (.int (Int32.ofNat j)), s3] [(.int X)]
        refine w_bipush ok d4_36 (v := (32 : Int32)) rfl ?_
        show W K l _ n0 _ h0 0 0 38 #[.val (.ref d), .val (.ref p), .val (.int (Int32.ofNat j)), s3] [(.int (32 : Int32)), (.int X)]
        refine w_isub ok d4_38 ?_
        show W K l _ n0 _ h0 0 0 39 #[.val (.ref d), .val (.ref p), .val (.int (Int32.ofNat j)), s3] [(.int (X - (32 : Int32)))]
        refine w_goto ok d4_39 (pc' := 45) (by decide) ?_
        show W K l _ n0 _ h0 0 0 45 #[.val (.ref d), .val (.ref p), .val (.int (Int32.ofNat j)), s3] [(.int (X - (32 : Int32)))]
        have hf : X - (32 : Int32) = own_fold X := by simp only [Int32.lt_iff_toInt_lt, Int32.reduceToInt] at hc5 hc9; rw [own_fold, if_pos (by omega)]
        rw [hf]
        show W K l _ n0 _ h0 0 0 45 #[.val (.ref d), .val (.ref p), .val (.int (Int32.ofNat j)), s3] [(.int (own_fold X))]
        refine w_istoreN ok d4_45 (L' := #[.val (.ref d), .val (.ref p), .val (.int (Int32.ofNat j)), .val (.int (own_fold X))]) (by exact XS.store1 (o := s3) rfl o3 rfl) ?_
        show W K l _ n0 _ h0 0 0 46 #[.val (.ref d), .val (.ref p), .val (.int (Int32.ofNat j)), .val (.int (own_fold X))] []
        refine w_iloadN ok d4_46 rfl ?_
        show W K l _ n0 _ h0 0 0 47 #[.val (.ref d), .val (.ref p), .val (.int (Int32.ofNat j)), .val (.int (own_fold X))] [(.int (own_fold X))]
        refine w_aloadN ok d4_47 rfl rfl ?_
        show W K l _ n0 _ h0 0 0 48 #[.val (.ref d), .val (.ref p), .val (.int (Int32.ofNat j)), .val (.int (own_fold X))] [(.ref p), (.int (own_fold X))]
        refine w_iloadN ok d4_48 rfl ?_
        show W K l _ n0 _ h0 0 0 49 #[.val (.ref d), .val (.ref p), .val (.int (Int32.ofNat j)), .val (.int (own_fold X))] [(.int (Int32.ofNat j)), (.ref p), (.int (own_fold X))]
        refine w_baload ok (v := (.int Y)) d4_49 A_p (own_nn ej) (by rw [own_clamp ej, own_bys hy2, hY]) ?_
        show W K l _ n0 _ h0 0 0 50 #[.val (.ref d), .val (.ref p), .val (.int (Int32.ofNat j)), .val (.int (own_fold X))] [(.int Y), (.int (own_fold X))]
        refine w_icmp_eq ok d4_50 (pc' := 55) (by decide) (fun hc13 => ?_) (fun hc13 => ?_)
        · show W K l _ n0 _ h0 0 0 55 #[.val (.ref d), .val (.ref p), .val (.int (Int32.ofNat j)), .val (.int (own_fold X))] []
          refine w_iinc ok d4_55 (u := (1 : Int32)) rfl rfl (L' := #[.val (.ref d), .val (.ref p), .val (.int ((Int32.ofNat j) + (1 : Int32))), .val (.int (own_fold X))]) rfl ?_
          show W K l _ n0 _ h0 0 0 58 #[.val (.ref d), .val (.ref p), .val (.int ((Int32.ofNat j) + (1 : Int32))), .val (.int (own_fold X))] []
          refine w_goto ok d4_58 (pc' := 11) (by decide) ?_
          show W K l _ n0 _ h0 0 0 11 #[.val (.ref d), .val (.ref p), .val (.int ((Int32.ofNat j) + (1 : Int32))), .val (.int (own_fold X))] []
          rw [own_succ (by omega)]
          exact ih (j + 1) _ (One.val rfl) (by omega) (by rw [if_pos hc13] at hr; exact hr)
        · show W K l _ n0 _ h0 0 0 53 #[.val (.ref d), .val (.ref p), .val (.int (Int32.ofNat j)), .val (.int (own_fold X))] []
          refine w_iconst ok d4_53 (v := (0 : Int32)) rfl ?_
          show W K l _ n0 _ h0 0 0 54 #[.val (.ref d), .val (.ref p), .val (.int (Int32.ofNat j)), .val (.int (own_fold X))] [(.int (0 : Int32))]
          refine w_bret ok (by simp) d4_54 (by decide) (by decide) ?_
          refine ⟨?_, rfl⟩
          rw [if_neg hc13] at hr; rw [← hr] <;> rfl
set_option maxRecDepth 65536 in
set_option maxHeartbeats 40000000 in
theorem rm_is (l : Launch) (Z : State) (a0 : Array Value) (hw : ∀ d ∈ tables_1, d.before a0 Z = true) (ws : List Jvm.Cond) (n0 : Nat) (h0 : Heap) (Z0 : n0 ≤ h0.size) (d p : Addr) (xs ys : List Int32) (A_d : PA .byte Z h0 d (bys xs)) (A_p : PA .byte Z h0 p (bys ys))  :
    Met l Z n0 (⟨"com/example/turnstile/turnstile/server/Commands", "is", "([B[B)Z"⟩ : MethodName) prog_71_method_49_code 4 (some .boolean) ws ({ frames := 0, cells := 0, slots := 0, locals := 0 } : Room) #[(.ref d), (.ref p)] h0 (fun u h => u = some (.int (nar .boolean (own_isl xs ys))) ∧ h0 = h) := by
  refine met_of Z0 (plainFor_of_name pn_com_example_turnstile_turnstile_server_Commands) (Ls := #[.val (.ref d), .val (.ref p), .unset, .unset]) (fun m => by first | (simp [entryFrame, mkF, argsToLocals, Value.category]; done) | rfl) ?_
  intro K ok
  obtain ⟨q, hq, hq0⟩ := pa_z A_p.len
  obtain ⟨q2, hq2, hq20⟩ := pa_z A_d.len
  have eq := nat_of hq0
  have eq2 := nat_of hq20
  have m1 : (bys ys).length = ys.length := by simp
  have m2 : (bys xs).length = xs.length := by simp
  show W K l _ n0 _ h0 0 0 0 #[.val (.ref d), .val (.ref p), .unset, .unset] []
  refine w_aloadN ok d4_0 rfl rfl ?_
  show W K l _ n0 _ h0 0 0 1 #[.val (.ref d), .val (.ref p), .unset, .unset] [(.ref d)]
  refine w_arraylength ok (z := q2) d4_1 A_d hq2 hq20 ?_
  show W K l _ n0 _ h0 0 0 2 #[.val (.ref d), .val (.ref p), .unset, .unset] [(.int q2)]
  refine w_aloadN ok d4_2 rfl rfl ?_
  show W K l _ n0 _ h0 0 0 3 #[.val (.ref d), .val (.ref p), .unset, .unset] [(.ref p), (.int q2)]
  refine w_arraylength ok (z := q) d4_3 A_p hq hq0 ?_
  show W K l _ n0 _ h0 0 0 4 #[.val (.ref d), .val (.ref p), .unset, .unset] [(.int q), (.int q2)]
  refine w_icmp_eq ok d4_4 (pc' := 9) (by decide) (fun hc1 => ?_) (fun hc1 => ?_)
  · show W K l _ n0 _ h0 0 0 9 #[.val (.ref d), .val (.ref p), .unset, .unset] []
    refine w_iconst ok d4_9 (v := (0 : Int32)) rfl ?_
    show W K l _ n0 _ h0 0 0 10 #[.val (.ref d), .val (.ref p), .unset, .unset] [(.int (0 : Int32))]
    refine w_istoreN ok d4_10 (L' := #[.val (.ref d), .val (.ref p), .val (.int (0 : Int32)), .unset]) rfl ?_
    show W K l _ n0 _ h0 0 0 11 #[.val (.ref d), .val (.ref p), .val (.int (0 : Int32)), .unset] []
    exact lp l Z a0 hw n0 h0 K ok d p xs ys _ A_d A_p (by rw [← Int32.toInt_inj] at hc1; omega) xs.length 0 _ One.u (Nat.zero_add _) rfl
  · show W K l _ n0 _ h0 0 0 7 #[.val (.ref d), .val (.ref p), .unset, .unset] []
    refine w_iconst ok d4_7 (v := (0 : Int32)) rfl ?_
    show W K l _ n0 _ h0 0 0 8 #[.val (.ref d), .val (.ref p), .unset, .unset] [(.int (0 : Int32))]
    refine w_bret ok (by simp) d4_8 (by decide) (by decide) ?_
    refine ⟨?_, rfl⟩
    rw [own_isl_len (by rw [← Int32.toInt_inj] at hc1; omega)] <;> rfl
theorem d1_0 : decode method_3_code 0 = .ok (.iload_n 0, 1) := by decide +kernel
theorem d1_1 : decode method_3_code 1 = .ok (.i2b, 1) := by decide +kernel
theorem d1_2 : decode method_3_code 2 = .ok (.istore_n 1, 1) := by decide +kernel
theorem d1_3 : decode method_3_code 3 = .ok (.iload_n 1, 1) := by decide +kernel
theorem d1_4 : decode method_3_code 4 = .ok (.bipush 97, 2) := by decide +kernel
theorem d1_6 : decode method_3_code 6 = .ok (.if_icmp .lt 15, 3) := by decide +kernel
theorem d1_9 : decode method_3_code 9 = .ok (.iload_n 1, 1) := by decide +kernel
theorem d1_10 : decode method_3_code 10 = .ok (.bipush 122, 2) := by decide +kernel
theorem d1_12 : decode method_3_code 12 = .ok (.if_icmp .gt 9, 3) := by decide +kernel
theorem d1_15 : decode method_3_code 15 = .ok (.iload_n 1, 1) := by decide +kernel
theorem d1_16 : decode method_3_code 16 = .ok (.bipush 32, 2) := by decide +kernel
theorem d1_18 : decode method_3_code 18 = .ok (.isub, 1) := by decide +kernel
theorem d1_19 : decode method_3_code 19 = .ok (.i2b, 1) := by decide +kernel
theorem d1_20 : decode method_3_code 20 = .ok (.ireturn, 1) := by decide +kernel
theorem d1_21 : decode method_3_code 21 = .ok (.iload_n 1, 1) := by decide +kernel
theorem d1_22 : decode method_3_code 22 = .ok (.ireturn, 1) := by decide +kernel
theorem pn_com_example_turnstile_turnstile_server_CommandsIsPinLaw : plainName "com/example/turnstile/turnstile/server/CommandsIsPinLaw" = true := by first | (simp [plainName, overriddenIn]; done) | decide +kernel
set_option maxRecDepth 65536 in
set_option maxHeartbeats 40000000 in
theorem rm_nb (l : Launch) (Z : State) (a0 : Array Value) (hw : ∀ d ∈ tables_1, d.before a0 Z = true) (ws : List Jvm.Cond) (n0 : Nat) (h0 : Heap) (Z0 : n0 ≤ h0.size) (v : Int32)  :
    Met l Z n0 (⟨"com/example/turnstile/turnstile/server/CommandsIsPinLaw", "nameByte", "(I)B"⟩ : MethodName) method_3_code 2 (some .byte) ws ({ frames := 0, cells := 0, slots := 0, locals := 0 } : Room) #[(.int v)] h0 (fun u h => ∃ z : Int32, u = some (.int z) ∧ (-128 ≤ z.toInt ∧ z.toInt < 128) ∧ ¬ (97 ≤ z.toInt ∧ z.toInt ≤ 122) ∧ h0 = h) := by
  refine met_of Z0 (plainFor_of_name pn_com_example_turnstile_turnstile_server_CommandsIsPinLaw) (Ls := #[.val (.int v), .unset]) (fun m => by first | (simp [entryFrame, mkF, argsToLocals, Value.category]; done) | rfl) ?_
  intro K ok
  show W K l _ n0 _ h0 0 0 0 #[.val (.int v), .unset] []
  refine w_iloadN ok d1_0 rfl ?_
  show W K l _ n0 _ h0 0 0 1 #[.val (.int v), .unset] [(.int v)]
  refine w_i2b ok d1_1 ?_
  show W K l _ n0 _ h0 0 0 2 #[.val (.int v), .unset] [(.int v.toInt8.toInt32)]
  refine w_istoreN ok d1_2 (L' := #[.val (.int v), .val (.int v.toInt8.toInt32)]) rfl ?_
  show W K l _ n0 _ h0 0 0 3 #[.val (.int v), .val (.int v.toInt8.toInt32)] []
  refine w_iloadN ok d1_3 rfl ?_
  show W K l _ n0 _ h0 0 0 4 #[.val (.int v), .val (.int v.toInt8.toInt32)] [(.int v.toInt8.toInt32)]
  refine w_bipush ok d1_4 (v := (97 : Int32)) rfl ?_
  show W K l _ n0 _ h0 0 0 6 #[.val (.int v), .val (.int v.toInt8.toInt32)] [(.int (97 : Int32)), (.int v.toInt8.toInt32)]
  refine w_icmp_lt ok d1_6 (pc' := 21) (by decide) (fun hc1 => ?_) (fun hc1 => ?_)
  · show W K l _ n0 _ h0 0 0 21 #[.val (.int v), .val (.int v.toInt8.toInt32)] []
    refine w_iloadN ok d1_21 rfl ?_
    show W K l _ n0 _ h0 0 0 22 #[.val (.int v), .val (.int v.toInt8.toInt32)] [(.int v.toInt8.toInt32)]
    refine w_bret ok (by simp) d1_22 (by decide) (by decide) ?_
    refine ⟨_, rfl, own_nbr _, ?_, rfl⟩
    have b0 := c_i2b v; have r0 := c_isub v.toInt8.toInt32 32; have r1 := rng32 (v.toInt8.toInt32 - 32); have e2 : (32 : Int32).toInt = 32 := rfl
    have b1 := c_i2b (v.toInt8.toInt32 - 32)
    simp only [Int32.lt_iff_toInt_lt, Int32.reduceToInt] at *
    rw [own_nb (by omega) (by omega)]
    omega
  · show W K l _ n0 _ h0 0 0 9 #[.val (.int v), .val (.int v.toInt8.toInt32)] []
    refine w_iloadN ok d1_9 rfl ?_
    show W K l _ n0 _ h0 0 0 10 #[.val (.int v), .val (.int v.toInt8.toInt32)] [(.int v.toInt8.toInt32)]
    refine w_bipush ok d1_10 (v := (122 : Int32)) rfl ?_
    show W K l _ n0 _ h0 0 0 12 #[.val (.int v), .val (.int v.toInt8.toInt32)] [(.int (122 : Int32)), (.int v.toInt8.toInt32)]
    refine w_icmp_gt ok d1_12 (pc' := 21) (by decide) (fun hc3 => ?_) (fun hc3 => ?_)
    · show W K l _ n0 _ h0 0 0 21 #[.val (.int v), .val (.int v.toInt8.toInt32)] []
      refine w_iloadN ok d1_21 rfl ?_
      show W K l _ n0 _ h0 0 0 22 #[.val (.int v), .val (.int v.toInt8.toInt32)] [(.int v.toInt8.toInt32)]
      refine w_bret ok (by simp) d1_22 (by decide) (by decide) ?_
      refine ⟨_, rfl, own_nbr _, ?_, rfl⟩
      have b0 := c_i2b v; have r0 := c_isub v.toInt8.toInt32 32; have r1 := rng32 (v.toInt8.toInt32 - 32); have e2 : (32 : Int32).toInt = 32 := rfl
      have b1 := c_i2b (v.toInt8.toInt32 - 32)
      simp only [Int32.lt_iff_toInt_lt, Int32.reduceToInt] at *
      rw [own_nb (by omega) (by omega)]
      omega
    · show W K l _ n0 _ h0 0 0 15 #[.val (.int v), .val (.int v.toInt8.toInt32)] []
      refine w_iloadN ok d1_15 rfl ?_
      show W K l _ n0 _ h0 0 0 16 #[.val (.int v), .val (.int v.toInt8.toInt32)] [(.int v.toInt8.toInt32)]
      refine w_bipush ok d1_16 (v := (32 : Int32)) rfl ?_
      show W K l _ n0 _ h0 0 0 18 #[.val (.int v), .val (.int v.toInt8.toInt32)] [(.int (32 : Int32)), (.int v.toInt8.toInt32)]
      refine w_isub ok d1_18 ?_
      show W K l _ n0 _ h0 0 0 19 #[.val (.int v), .val (.int v.toInt8.toInt32)] [(.int (v.toInt8.toInt32 - (32 : Int32)))]
      refine w_i2b ok d1_19 ?_
      show W K l _ n0 _ h0 0 0 20 #[.val (.int v), .val (.int v.toInt8.toInt32)] [(.int ((v.toInt8.toInt32 - (32 : Int32)).toInt8.toInt32))]
      refine w_bret ok (by simp) d1_20 (by decide) (by decide) ?_
      refine ⟨_, rfl, own_nbr _, ?_, rfl⟩
      have b0 := c_i2b v; have r0 := c_isub v.toInt8.toInt32 32; have r1 := rng32 (v.toInt8.toInt32 - 32); have e2 : (32 : Int32).toInt = 32 := rfl
      have b1 := c_i2b (v.toInt8.toInt32 - 32)
      simp only [Int32.lt_iff_toInt_lt, Int32.reduceToInt] at *
      rw [own_nb (by omega) (by omega)]
      omega
theorem d2_0 : decode method_4_code 0 = .ok (.iload_n 0, 1) := by decide +kernel
theorem d2_1 : decode method_4_code 1 = .ok (.iconst 3, 1) := by decide +kernel
theorem d2_2 : decode method_4_code 2 = .ok (.iand, 1) := by decide +kernel
theorem d2_3 : decode method_4_code 3 = .ok (.istore 4, 2) := by decide +kernel
theorem d2_5 : decode method_4_code 5 = .ok (.iload_n 3, 1) := by decide +kernel
theorem d2_6 : decode method_4_code 6 = .ok (.ifCond .eq 10, 3) := by decide +kernel
theorem d2_9 : decode method_4_code 9 = .ok (.iload 4, 2) := by decide +kernel
theorem d2_11 : decode method_4_code 11 = .ok (.ifCond .ne 5, 3) := by decide +kernel
theorem d2_14 : decode method_4_code 14 = .ok (.iload_n 2, 1) := by decide +kernel
theorem d2_15 : decode method_4_code 15 = .ok (.ireturn, 1) := by decide +kernel
theorem d2_16 : decode method_4_code 16 = .ok (.iload_n 3, 1) := by decide +kernel
theorem d2_17 : decode method_4_code 17 = .ok (.ifCond .eq 15, 3) := by decide +kernel
theorem d2_20 : decode method_4_code 20 = .ok (.iload 4, 2) := by decide +kernel
theorem d2_22 : decode method_4_code 22 = .ok (.iconst 1, 1) := by decide +kernel
theorem d2_23 : decode method_4_code 23 = .ok (.if_icmp .ne 9, 3) := by decide +kernel
theorem d2_26 : decode method_4_code 26 = .ok (.iload_n 2, 1) := by decide +kernel
theorem d2_27 : decode method_4_code 27 = .ok (.bipush 32, 2) := by decide +kernel
theorem d2_29 : decode method_4_code 29 = .ok (.ixor, 1) := by decide +kernel
theorem d2_30 : decode method_4_code 30 = .ok (.i2b, 1) := by decide +kernel
theorem d2_31 : decode method_4_code 31 = .ok (.ireturn, 1) := by decide +kernel
theorem d2_32 : decode method_4_code 32 = .ok (.iload_n 1, 1) := by decide +kernel
theorem d2_33 : decode method_4_code 33 = .ok (.i2b, 1) := by decide +kernel
theorem d2_34 : decode method_4_code 34 = .ok (.ireturn, 1) := by decide +kernel
set_option maxRecDepth 65536 in
set_option maxHeartbeats 40000000 in
theorem rm_sb (l : Launch) (Z : State) (a0 : Array Value) (hw : ∀ d ∈ tables_1, d.before a0 Z = true) (ws : List Jvm.Cond) (n0 : Nat) (h0 : Heap) (Z0 : n0 ≤ h0.size) (hw' raw nm f : Int32)  :
    Met l Z n0 (⟨"com/example/turnstile/turnstile/server/CommandsIsPinLaw", "sentByte", "(IIBZ)B"⟩ : MethodName) method_4_code 5 (some .byte) ws ({ frames := 0, cells := 0, slots := 0, locals := 0 } : Room) #[(.int hw'), (.int raw), (.int nm), (.int f)] h0 (fun u h => ∃ z : Int32, u = some (.int z) ∧ (-128 ≤ z.toInt ∧ z.toInt < 128) ∧ h0 = h) := by
  refine met_of Z0 (plainFor_of_name pn_com_example_turnstile_turnstile_server_CommandsIsPinLaw) (Ls := #[.val (.int hw'), .val (.int raw), .val (.int nm), .val (.int f), .unset]) (fun m => by first | (simp [entryFrame, mkF, argsToLocals, Value.category]; done) | rfl) ?_
  intro K ok
  show W K l _ n0 _ h0 0 0 0 #[.val (.int hw'), .val (.int raw), .val (.int nm), .val (.int f), .unset] []
  refine w_iloadN ok d2_0 rfl ?_
  show W K l _ n0 _ h0 0 0 1 #[.val (.int hw'), .val (.int raw), .val (.int nm), .val (.int f), .unset] [(.int hw')]
  refine w_iconst ok d2_1 (v := (3 : Int32)) rfl ?_
  show W K l _ n0 _ h0 0 0 2 #[.val (.int hw'), .val (.int raw), .val (.int nm), .val (.int f), .unset] [(.int (3 : Int32)), (.int hw')]
  refine w_iand ok d2_2 ?_
  show W K l _ n0 _ h0 0 0 3 #[.val (.int hw'), .val (.int raw), .val (.int nm), .val (.int f), .unset] [(.int (hw' &&& (3 : Int32)))]
  refine w_istore ok d2_3 (L' := #[.val (.int hw'), .val (.int raw), .val (.int nm), .val (.int f), .val (.int (hw' &&& (3 : Int32)))]) rfl ?_
  show W K l _ n0 _ h0 0 0 5 #[.val (.int hw'), .val (.int raw), .val (.int nm), .val (.int f), .val (.int (hw' &&& (3 : Int32)))] []
  refine w_iloadN ok d2_5 rfl ?_
  show W K l _ n0 _ h0 0 0 6 #[.val (.int hw'), .val (.int raw), .val (.int nm), .val (.int f), .val (.int (hw' &&& (3 : Int32)))] [(.int f)]
  refine w_if_eq ok d2_6 (pc' := 16) (by decide) (fun hc1 => ?_) (fun hc1 => ?_)
  · show W K l _ n0 _ h0 0 0 16 #[.val (.int hw'), .val (.int raw), .val (.int nm), .val (.int f), .val (.int (hw' &&& (3 : Int32)))] []
    refine w_iloadN ok d2_16 rfl ?_
    show W K l _ n0 _ h0 0 0 17 #[.val (.int hw'), .val (.int raw), .val (.int nm), .val (.int f), .val (.int (hw' &&& (3 : Int32)))] [(.int f)]
    refine w_if_eq ok d2_17 (pc' := 32) (by decide) (fun hc3 => ?_) (fun hc3 => ?_)
    · show W K l _ n0 _ h0 0 0 32 #[.val (.int hw'), .val (.int raw), .val (.int nm), .val (.int f), .val (.int (hw' &&& (3 : Int32)))] []
      refine w_iloadN ok d2_32 rfl ?_
      show W K l _ n0 _ h0 0 0 33 #[.val (.int hw'), .val (.int raw), .val (.int nm), .val (.int f), .val (.int (hw' &&& (3 : Int32)))] [(.int raw)]
      refine w_i2b ok d2_33 ?_
      show W K l _ n0 _ h0 0 0 34 #[.val (.int hw'), .val (.int raw), .val (.int nm), .val (.int f), .val (.int (hw' &&& (3 : Int32)))] [(.int raw.toInt8.toInt32)]
      refine w_bret ok (by simp) d2_34 (by decide) (by decide) ?_
      exact ⟨_, rfl, own_nbr _, rfl⟩
    · show W K l _ n0 _ h0 0 0 20 #[.val (.int hw'), .val (.int raw), .val (.int nm), .val (.int f), .val (.int (hw' &&& (3 : Int32)))] []
      refine w_iload ok d2_20 rfl ?_
      show W K l _ n0 _ h0 0 0 22 #[.val (.int hw'), .val (.int raw), .val (.int nm), .val (.int f), .val (.int (hw' &&& (3 : Int32)))] [(.int (hw' &&& (3 : Int32)))]
      refine w_iconst ok d2_22 (v := (1 : Int32)) rfl ?_
      show W K l _ n0 _ h0 0 0 23 #[.val (.int hw'), .val (.int raw), .val (.int nm), .val (.int f), .val (.int (hw' &&& (3 : Int32)))] [(.int (1 : Int32)), (.int (hw' &&& (3 : Int32)))]
      refine w_icmp_ne ok d2_23 (pc' := 32) (by decide) (fun hc5 => ?_) (fun hc5 => ?_)
      · show W K l _ n0 _ h0 0 0 32 #[.val (.int hw'), .val (.int raw), .val (.int nm), .val (.int f), .val (.int (hw' &&& (3 : Int32)))] []
        refine w_iloadN ok d2_32 rfl ?_
        show W K l _ n0 _ h0 0 0 33 #[.val (.int hw'), .val (.int raw), .val (.int nm), .val (.int f), .val (.int (hw' &&& (3 : Int32)))] [(.int raw)]
        refine w_i2b ok d2_33 ?_
        show W K l _ n0 _ h0 0 0 34 #[.val (.int hw'), .val (.int raw), .val (.int nm), .val (.int f), .val (.int (hw' &&& (3 : Int32)))] [(.int raw.toInt8.toInt32)]
        refine w_bret ok (by simp) d2_34 (by decide) (by decide) ?_
        exact ⟨_, rfl, own_nbr _, rfl⟩
      · show W K l _ n0 _ h0 0 0 26 #[.val (.int hw'), .val (.int raw), .val (.int nm), .val (.int f), .val (.int (hw' &&& (3 : Int32)))] []
        refine w_iloadN ok d2_26 rfl ?_
        show W K l _ n0 _ h0 0 0 27 #[.val (.int hw'), .val (.int raw), .val (.int nm), .val (.int f), .val (.int (hw' &&& (3 : Int32)))] [(.int nm)]
        refine w_bipush ok d2_27 (v := (32 : Int32)) rfl ?_
        show W K l _ n0 _ h0 0 0 29 #[.val (.int hw'), .val (.int raw), .val (.int nm), .val (.int f), .val (.int (hw' &&& (3 : Int32)))] [(.int (32 : Int32)), (.int nm)]
        refine w_ixor ok d2_29 ?_
        show W K l _ n0 _ h0 0 0 30 #[.val (.int hw'), .val (.int raw), .val (.int nm), .val (.int f), .val (.int (hw' &&& (3 : Int32)))] [(.int (nm ^^^ (32 : Int32)))]
        refine w_i2b ok d2_30 ?_
        show W K l _ n0 _ h0 0 0 31 #[.val (.int hw'), .val (.int raw), .val (.int nm), .val (.int f), .val (.int (hw' &&& (3 : Int32)))] [(.int ((nm ^^^ (32 : Int32)).toInt8.toInt32))]
        refine w_bret ok (by simp) d2_31 (by decide) (by decide) ?_
        exact ⟨_, rfl, own_nbr _, rfl⟩
  · show W K l _ n0 _ h0 0 0 9 #[.val (.int hw'), .val (.int raw), .val (.int nm), .val (.int f), .val (.int (hw' &&& (3 : Int32)))] []
    refine w_iload ok d2_9 rfl ?_
    show W K l _ n0 _ h0 0 0 11 #[.val (.int hw'), .val (.int raw), .val (.int nm), .val (.int f), .val (.int (hw' &&& (3 : Int32)))] [(.int (hw' &&& (3 : Int32)))]
    refine w_if_ne ok d2_11 (pc' := 16) (by decide) (fun hc7 => ?_) (fun hc7 => ?_)
    · show W K l _ n0 _ h0 0 0 16 #[.val (.int hw'), .val (.int raw), .val (.int nm), .val (.int f), .val (.int (hw' &&& (3 : Int32)))] []
      refine w_iloadN ok d2_16 rfl ?_
      show W K l _ n0 _ h0 0 0 17 #[.val (.int hw'), .val (.int raw), .val (.int nm), .val (.int f), .val (.int (hw' &&& (3 : Int32)))] [(.int f)]
      refine w_if_eq ok d2_17 (pc' := 32) (by decide) (fun hc9 => ?_) (fun hc9 => ?_)
      · show W K l _ n0 _ h0 0 0 32 #[.val (.int hw'), .val (.int raw), .val (.int nm), .val (.int f), .val (.int (hw' &&& (3 : Int32)))] []
        refine w_iloadN ok d2_32 rfl ?_
        show W K l _ n0 _ h0 0 0 33 #[.val (.int hw'), .val (.int raw), .val (.int nm), .val (.int f), .val (.int (hw' &&& (3 : Int32)))] [(.int raw)]
        refine w_i2b ok d2_33 ?_
        show W K l _ n0 _ h0 0 0 34 #[.val (.int hw'), .val (.int raw), .val (.int nm), .val (.int f), .val (.int (hw' &&& (3 : Int32)))] [(.int raw.toInt8.toInt32)]
        refine w_bret ok (by simp) d2_34 (by decide) (by decide) ?_
        exact ⟨_, rfl, own_nbr _, rfl⟩
      · show W K l _ n0 _ h0 0 0 20 #[.val (.int hw'), .val (.int raw), .val (.int nm), .val (.int f), .val (.int (hw' &&& (3 : Int32)))] []
        refine w_iload ok d2_20 rfl ?_
        show W K l _ n0 _ h0 0 0 22 #[.val (.int hw'), .val (.int raw), .val (.int nm), .val (.int f), .val (.int (hw' &&& (3 : Int32)))] [(.int (hw' &&& (3 : Int32)))]
        refine w_iconst ok d2_22 (v := (1 : Int32)) rfl ?_
        show W K l _ n0 _ h0 0 0 23 #[.val (.int hw'), .val (.int raw), .val (.int nm), .val (.int f), .val (.int (hw' &&& (3 : Int32)))] [(.int (1 : Int32)), (.int (hw' &&& (3 : Int32)))]
        refine w_icmp_ne ok d2_23 (pc' := 32) (by decide) (fun hc11 => ?_) (fun hc11 => ?_)
        · show W K l _ n0 _ h0 0 0 32 #[.val (.int hw'), .val (.int raw), .val (.int nm), .val (.int f), .val (.int (hw' &&& (3 : Int32)))] []
          refine w_iloadN ok d2_32 rfl ?_
          show W K l _ n0 _ h0 0 0 33 #[.val (.int hw'), .val (.int raw), .val (.int nm), .val (.int f), .val (.int (hw' &&& (3 : Int32)))] [(.int raw)]
          refine w_i2b ok d2_33 ?_
          show W K l _ n0 _ h0 0 0 34 #[.val (.int hw'), .val (.int raw), .val (.int nm), .val (.int f), .val (.int (hw' &&& (3 : Int32)))] [(.int raw.toInt8.toInt32)]
          refine w_bret ok (by simp) d2_34 (by decide) (by decide) ?_
          exact ⟨_, rfl, own_nbr _, rfl⟩
        · show W K l _ n0 _ h0 0 0 26 #[.val (.int hw'), .val (.int raw), .val (.int nm), .val (.int f), .val (.int (hw' &&& (3 : Int32)))] []
          refine w_iloadN ok d2_26 rfl ?_
          show W K l _ n0 _ h0 0 0 27 #[.val (.int hw'), .val (.int raw), .val (.int nm), .val (.int f), .val (.int (hw' &&& (3 : Int32)))] [(.int nm)]
          refine w_bipush ok d2_27 (v := (32 : Int32)) rfl ?_
          show W K l _ n0 _ h0 0 0 29 #[.val (.int hw'), .val (.int raw), .val (.int nm), .val (.int f), .val (.int (hw' &&& (3 : Int32)))] [(.int (32 : Int32)), (.int nm)]
          refine w_ixor ok d2_29 ?_
          show W K l _ n0 _ h0 0 0 30 #[.val (.int hw'), .val (.int raw), .val (.int nm), .val (.int f), .val (.int (hw' &&& (3 : Int32)))] [(.int (nm ^^^ (32 : Int32)))]
          refine w_i2b ok d2_30 ?_
          show W K l _ n0 _ h0 0 0 31 #[.val (.int hw'), .val (.int raw), .val (.int nm), .val (.int f), .val (.int (hw' &&& (3 : Int32)))] [(.int ((nm ^^^ (32 : Int32)).toInt8.toInt32))]
          refine w_bret ok (by simp) d2_31 (by decide) (by decide) ?_
          exact ⟨_, rfl, own_nbr _, rfl⟩
    · show W K l _ n0 _ h0 0 0 14 #[.val (.int hw'), .val (.int raw), .val (.int nm), .val (.int f), .val (.int (hw' &&& (3 : Int32)))] []
      refine w_iloadN ok d2_14 rfl ?_
      show W K l _ n0 _ h0 0 0 15 #[.val (.int hw'), .val (.int raw), .val (.int nm), .val (.int f), .val (.int (hw' &&& (3 : Int32)))] [(.int nm)]
      refine w_bret ok (by simp) d2_15 (by decide) (by decide) ?_
      exact ⟨_, rfl, own_nbr _, rfl⟩
theorem d5_0 : decode method_6_code 0 = .ok (.iload_n 0, 1) := by decide +kernel
theorem d5_1 : decode method_6_code 1 = .ok (.iload_n 1, 1) := by decide +kernel
theorem d5_2 : decode method_6_code 2 = .ok (.if_icmp .eq 23, 3) := by decide +kernel
theorem d5_5 : decode method_6_code 5 = .ok (.iload_n 1, 1) := by decide +kernel
theorem d5_6 : decode method_6_code 6 = .ok (.bipush 65, 2) := by decide +kernel
theorem d5_8 : decode method_6_code 8 = .ok (.if_icmp .lt 21, 3) := by decide +kernel
theorem d5_11 : decode method_6_code 11 = .ok (.iload_n 1, 1) := by decide +kernel
theorem d5_12 : decode method_6_code 12 = .ok (.bipush 90, 2) := by decide +kernel
theorem d5_14 : decode method_6_code 14 = .ok (.if_icmp .gt 15, 3) := by decide +kernel
theorem d5_17 : decode method_6_code 17 = .ok (.iload_n 0, 1) := by decide +kernel
theorem d5_18 : decode method_6_code 18 = .ok (.iload_n 1, 1) := by decide +kernel
theorem d5_19 : decode method_6_code 19 = .ok (.bipush 32, 2) := by decide +kernel
theorem d5_21 : decode method_6_code 21 = .ok (.iadd, 1) := by decide +kernel
theorem d5_22 : decode method_6_code 22 = .ok (.if_icmp .ne 7, 3) := by decide +kernel
theorem d5_25 : decode method_6_code 25 = .ok (.iconst 1, 1) := by decide +kernel
theorem d5_26 : decode method_6_code 26 = .ok (.goto 4, 3) := by decide +kernel
theorem d5_29 : decode method_6_code 29 = .ok (.iconst 0, 1) := by decide +kernel
theorem d5_30 : decode method_6_code 30 = .ok (.ireturn, 1) := by decide +kernel
set_option maxRecDepth 65536 in
set_option maxHeartbeats 40000000 in
theorem rm_ok (l : Launch) (Z : State) (a0 : Array Value) (hw : ∀ d ∈ tables_1, d.before a0 Z = true) (ws : List Jvm.Cond) (n0 : Nat) (h0 : Heap) (Z0 : n0 ≤ h0.size) (s n : Int32) (hn : -128 ≤ n.toInt ∧ n.toInt < 128)  :
    Met l Z n0 (⟨"com/example/turnstile/turnstile/server/CommandsIsPinLaw", "ok", "(BB)Z"⟩ : MethodName) method_6_code 2 (some .boolean) ws ({ frames := 0, cells := 0, slots := 0, locals := 0 } : Room) #[(.int s), (.int n)] h0 (fun u h => u = some (.int (own_ok s n)) ∧ h0 = h) := by
  refine met_of Z0 (plainFor_of_name pn_com_example_turnstile_turnstile_server_CommandsIsPinLaw) (Ls := #[.val (.int s), .val (.int n)]) (fun m => by first | (simp [entryFrame, mkF, argsToLocals, Value.category]; done) | rfl) ?_
  intro K ok
  show W K l _ n0 _ h0 0 0 0 #[.val (.int s), .val (.int n)] []
  refine w_iloadN ok d5_0 rfl ?_
  show W K l _ n0 _ h0 0 0 1 #[.val (.int s), .val (.int n)] [(.int s)]
  refine w_iloadN ok d5_1 rfl ?_
  show W K l _ n0 _ h0 0 0 2 #[.val (.int s), .val (.int n)] [(.int n), (.int s)]
  refine w_icmp_eq ok d5_2 (pc' := 25) (by decide) (fun hc1 => ?_) (fun hc1 => ?_)
  · show W K l _ n0 _ h0 0 0 25 #[.val (.int s), .val (.int n)] []
    refine w_iconst ok d5_25 (v := (1 : Int32)) rfl ?_
    show W K l _ n0 _ h0 0 0 26 #[.val (.int s), .val (.int n)] [(.int (1 : Int32))]
    refine w_goto ok d5_26 (pc' := 30) (by decide) ?_
    show W K l _ n0 _ h0 0 0 30 #[.val (.int s), .val (.int n)] [(.int (1 : Int32))]
    refine w_bret ok (by simp) d5_30 (by decide) (by decide) ?_
    refine ⟨?_, rfl⟩
    have e := c_iadd n 32; have r := rng32 (n + 32); have e2 : (32 : Int32).toInt = 32 := rfl
    simp only [Int32.lt_iff_toInt_lt, ← Int32.toInt_inj, Int32.reduceToInt] at *
    rw [own_ok, if_pos (by omega)] <;> rfl
  · show W K l _ n0 _ h0 0 0 5 #[.val (.int s), .val (.int n)] []
    refine w_iloadN ok d5_5 rfl ?_
    show W K l _ n0 _ h0 0 0 6 #[.val (.int s), .val (.int n)] [(.int n)]
    refine w_bipush ok d5_6 (v := (65 : Int32)) rfl ?_
    show W K l _ n0 _ h0 0 0 8 #[.val (.int s), .val (.int n)] [(.int (65 : Int32)), (.int n)]
    refine w_icmp_lt ok d5_8 (pc' := 29) (by decide) (fun hc3 => ?_) (fun hc3 => ?_)
    · show W K l _ n0 _ h0 0 0 29 #[.val (.int s), .val (.int n)] []
      refine w_iconst ok d5_29 (v := (0 : Int32)) rfl ?_
      show W K l _ n0 _ h0 0 0 30 #[.val (.int s), .val (.int n)] [(.int (0 : Int32))]
      refine w_bret ok (by simp) d5_30 (by decide) (by decide) ?_
      refine ⟨?_, rfl⟩
      have e := c_iadd n 32; have r := rng32 (n + 32); have e2 : (32 : Int32).toInt = 32 := rfl
      simp only [Int32.lt_iff_toInt_lt, ← Int32.toInt_inj, Int32.reduceToInt] at *
      rw [own_ok, if_neg (by omega)] <;> rfl
    · show W K l _ n0 _ h0 0 0 11 #[.val (.int s), .val (.int n)] []
      refine w_iloadN ok d5_11 rfl ?_
      show W K l _ n0 _ h0 0 0 12 #[.val (.int s), .val (.int n)] [(.int n)]
      refine w_bipush ok d5_12 (v := (90 : Int32)) rfl ?_
      show W K l _ n0 _ h0 0 0 14 #[.val (.int s), .val (.int n)] [(.int (90 : Int32)), (.int n)]
      refine w_icmp_gt ok d5_14 (pc' := 29) (by decide) (fun hc5 => ?_) (fun hc5 => ?_)
      · show W K l _ n0 _ h0 0 0 29 #[.val (.int s), .val (.int n)] []
        refine w_iconst ok d5_29 (v := (0 : Int32)) rfl ?_
        show W K l _ n0 _ h0 0 0 30 #[.val (.int s), .val (.int n)] [(.int (0 : Int32))]
        refine w_bret ok (by simp) d5_30 (by decide) (by decide) ?_
        refine ⟨?_, rfl⟩
        have e := c_iadd n 32; have r := rng32 (n + 32); have e2 : (32 : Int32).toInt = 32 := rfl
        simp only [Int32.lt_iff_toInt_lt, ← Int32.toInt_inj, Int32.reduceToInt] at *
        rw [own_ok, if_neg (by omega)] <;> rfl
      · show W K l _ n0 _ h0 0 0 17 #[.val (.int s), .val (.int n)] []
        refine w_iloadN ok d5_17 rfl ?_
        show W K l _ n0 _ h0 0 0 18 #[.val (.int s), .val (.int n)] [(.int s)]
        refine w_iloadN ok d5_18 rfl ?_
        show W K l _ n0 _ h0 0 0 19 #[.val (.int s), .val (.int n)] [(.int n), (.int s)]
        refine w_bipush ok d5_19 (v := (32 : Int32)) rfl ?_
        show W K l _ n0 _ h0 0 0 21 #[.val (.int s), .val (.int n)] [(.int (32 : Int32)), (.int n), (.int s)]
        refine w_iadd ok d5_21 ?_
        show W K l _ n0 _ h0 0 0 22 #[.val (.int s), .val (.int n)] [(.int (n + (32 : Int32))), (.int s)]
        refine w_icmp_ne ok d5_22 (pc' := 29) (by decide) (fun hc7 => ?_) (fun hc7 => ?_)
        · show W K l _ n0 _ h0 0 0 29 #[.val (.int s), .val (.int n)] []
          refine w_iconst ok d5_29 (v := (0 : Int32)) rfl ?_
          show W K l _ n0 _ h0 0 0 30 #[.val (.int s), .val (.int n)] [(.int (0 : Int32))]
          refine w_bret ok (by simp) d5_30 (by decide) (by decide) ?_
          refine ⟨?_, rfl⟩
          have e := c_iadd n 32; have r := rng32 (n + 32); have e2 : (32 : Int32).toInt = 32 := rfl
          simp only [Int32.lt_iff_toInt_lt, ← Int32.toInt_inj, Int32.reduceToInt] at *
          rw [own_ok, if_neg (by omega)] <;> rfl
        · show W K l _ n0 _ h0 0 0 25 #[.val (.int s), .val (.int n)] []
          refine w_iconst ok d5_25 (v := (1 : Int32)) rfl ?_
          show W K l _ n0 _ h0 0 0 26 #[.val (.int s), .val (.int n)] [(.int (1 : Int32))]
          refine w_goto ok d5_26 (pc' := 30) (by decide) ?_
          show W K l _ n0 _ h0 0 0 30 #[.val (.int s), .val (.int n)] [(.int (1 : Int32))]
          refine w_bret ok (by simp) d5_30 (by decide) (by decide) ?_
          refine ⟨?_, rfl⟩
          have e := c_iadd n 32; have r := rng32 (n + 32); have e2 : (32 : Int32).toInt = 32 := rfl
          simp only [Int32.lt_iff_toInt_lt, ← Int32.toInt_inj, Int32.reduceToInt] at *
          rw [own_ok, if_pos (by omega)] <;> rfl
theorem d3_0 : decode method_5_code 0 = .ok (.iload_n 0, 1) := by decide +kernel
theorem d3_1 : decode method_5_code 1 = .ok (.ifCond .ne 7, 3) := by decide +kernel
theorem d3_4 : decode method_5_code 4 = .ok (.iconst 0, 1) := by decide +kernel
theorem d3_5 : decode method_5_code 5 = .ok (.newarray .byte, 2) := by decide +kernel
theorem d3_7 : decode method_5_code 7 = .ok (.areturn, 1) := by decide +kernel
theorem d3_8 : decode method_5_code 8 = .ok (.iload_n 0, 1) := by decide +kernel
theorem d3_9 : decode method_5_code 9 = .ok (.iconst 1, 1) := by decide +kernel
theorem d3_10 : decode method_5_code 10 = .ok (.if_icmp .ne 11, 3) := by decide +kernel
theorem d3_13 : decode method_5_code 13 = .ok (.iconst 1, 1) := by decide +kernel
theorem d3_14 : decode method_5_code 14 = .ok (.newarray .byte, 2) := by decide +kernel
theorem d3_16 : decode method_5_code 16 = .ok (.dup, 1) := by decide +kernel
theorem d3_17 : decode method_5_code 17 = .ok (.iconst 0, 1) := by decide +kernel
theorem d3_18 : decode method_5_code 18 = .ok (.iload_n 1, 1) := by decide +kernel
theorem d3_19 : decode method_5_code 19 = .ok (.bastore, 1) := by decide +kernel
theorem d3_20 : decode method_5_code 20 = .ok (.areturn, 1) := by decide +kernel
theorem d3_21 : decode method_5_code 21 = .ok (.iload_n 0, 1) := by decide +kernel
theorem d3_22 : decode method_5_code 22 = .ok (.iconst 2, 1) := by decide +kernel
theorem d3_23 : decode method_5_code 23 = .ok (.if_icmp .ne 15, 3) := by decide +kernel
theorem d3_26 : decode method_5_code 26 = .ok (.iconst 2, 1) := by decide +kernel
theorem d3_27 : decode method_5_code 27 = .ok (.newarray .byte, 2) := by decide +kernel
theorem d3_29 : decode method_5_code 29 = .ok (.dup, 1) := by decide +kernel
theorem d3_30 : decode method_5_code 30 = .ok (.iconst 0, 1) := by decide +kernel
theorem d3_31 : decode method_5_code 31 = .ok (.iload_n 1, 1) := by decide +kernel
theorem d3_32 : decode method_5_code 32 = .ok (.bastore, 1) := by decide +kernel
theorem d3_33 : decode method_5_code 33 = .ok (.dup, 1) := by decide +kernel
theorem d3_34 : decode method_5_code 34 = .ok (.iconst 1, 1) := by decide +kernel
theorem d3_35 : decode method_5_code 35 = .ok (.iload_n 2, 1) := by decide +kernel
theorem d3_36 : decode method_5_code 36 = .ok (.bastore, 1) := by decide +kernel
theorem d3_37 : decode method_5_code 37 = .ok (.areturn, 1) := by decide +kernel
theorem d3_38 : decode method_5_code 38 = .ok (.iconst 3, 1) := by decide +kernel
theorem d3_39 : decode method_5_code 39 = .ok (.newarray .byte, 2) := by decide +kernel
theorem d3_41 : decode method_5_code 41 = .ok (.dup, 1) := by decide +kernel
theorem d3_42 : decode method_5_code 42 = .ok (.iconst 0, 1) := by decide +kernel
theorem d3_43 : decode method_5_code 43 = .ok (.iload_n 1, 1) := by decide +kernel
theorem d3_44 : decode method_5_code 44 = .ok (.bastore, 1) := by decide +kernel
theorem d3_45 : decode method_5_code 45 = .ok (.dup, 1) := by decide +kernel
theorem d3_46 : decode method_5_code 46 = .ok (.iconst 1, 1) := by decide +kernel
theorem d3_47 : decode method_5_code 47 = .ok (.iload_n 2, 1) := by decide +kernel
theorem d3_48 : decode method_5_code 48 = .ok (.bastore, 1) := by decide +kernel
theorem d3_49 : decode method_5_code 49 = .ok (.dup, 1) := by decide +kernel
theorem d3_50 : decode method_5_code 50 = .ok (.iconst 2, 1) := by decide +kernel
theorem d3_51 : decode method_5_code 51 = .ok (.iload_n 3, 1) := by decide +kernel
theorem d3_52 : decode method_5_code 52 = .ok (.bastore, 1) := by decide +kernel
theorem d3_53 : decode method_5_code 53 = .ok (.areturn, 1) := by decide +kernel
set_option maxRecDepth 65536 in
set_option maxHeartbeats 40000000 in
theorem rm_mk0 (l : Launch) (Z : State) (a0 : Array Value) (hw : ∀ d ∈ tables_1, d.before a0 Z = true) (ws : List Jvm.Cond) (n0 : Nat) (h0 : Heap) (Z0 : n0 ≤ h0.size) (y0 y1 y2 : Int32) :
    Met l Z n0 (⟨"com/example/turnstile/turnstile/server/CommandsIsPinLaw", "make", "(IBBB)[B"⟩ : MethodName) method_5_code 4 (some (.array .byte)) ws ({ frames := 0, cells := 1, slots := 0, locals := 0 } : Room) #[.int (0 : Int32), .int y0, .int y1, .int y2] h0 (fun u h => ∃ b, u = some (.ref b) ∧ h0.size ≤ b ∧ n0 ≤ b ∧ Keep h0 h [] ∧ PA .byte Z h b (bys [])) := by
  refine met_of Z0 (plainFor_of_name pn_com_example_turnstile_turnstile_server_CommandsIsPinLaw) (Ls := #[.val (.int (0 : Int32)), .val (.int y0), .val (.int y1), .val (.int y2)]) (fun m => by first | (simp [entryFrame, mkF, argsToLocals, Value.category]; done) | rfl) ?_
  intro K ok
  have Kp : Keep h0 h0 [] := Keep.refl _ _
  show W K l _ n0 _ h0 0 0 0 #[.val (.int (0 : Int32)), .val (.int y0), .val (.int y1), .val (.int y2)] []
  refine w_iloadN ok d3_0 rfl ?_
  show W K l _ n0 _ h0 0 0 1 #[.val (.int (0 : Int32)), .val (.int y0), .val (.int y1), .val (.int y2)] [(.int (0 : Int32))]
  refine w_if_ne ok d3_1 (pc' := 8) (by decide) (fun hc1 => False.elim (by revert hc1; decide)) (fun hc1 => ?_)
  show W K l _ n0 _ h0 0 0 4 #[.val (.int (0 : Int32)), .val (.int y0), .val (.int y1), .val (.int y2)] []
  refine w_iconst ok d3_4 (v := (0 : Int32)) rfl ?_
  show W K l _ n0 _ h0 0 0 5 #[.val (.int (0 : Int32)), .val (.int y0), .val (.int y1), .val (.int y2)] [(.int (0 : Int32))]
  refine w_newarray ok d3_5 (hw _ (List.mem_of_getElem? (i := 10) rfl)) (by decide) (cap := 0) (by decide) (by decide) (by decide) (by decide) (fun h3 b2 ea_b2 ge_b2 E_b2 A_b2 => ?_)
  have sz_b2 : h0.size ≤ b2 := Nat.le_trans Kp.1 (Nat.le_of_eq ea_b2.symm)
  replace Kp := Kp.ext E_b2
  replace A_b2 : PA .byte Z h3 b2 [] := A_b2
  show W K l _ n0 _ h3 1 0 7 #[.val (.int (0 : Int32)), .val (.int y0), .val (.int y1), .val (.int y2)] [(.ref b2)]
  refine w_aret ok rfl rfl d3_7 (by decide) (by decide) ?_
  exact ⟨b2, rfl, sz_b2, ge_b2, Kp, A_b2⟩
set_option maxRecDepth 65536 in
set_option maxHeartbeats 40000000 in
theorem rm_mk1 (l : Launch) (Z : State) (a0 : Array Value) (hw : ∀ d ∈ tables_1, d.before a0 Z = true) (ws : List Jvm.Cond) (n0 : Nat) (h0 : Heap) (Z0 : n0 ≤ h0.size) (y0 y1 y2 : Int32) :
    Met l Z n0 (⟨"com/example/turnstile/turnstile/server/CommandsIsPinLaw", "make", "(IBBB)[B"⟩ : MethodName) method_5_code 4 (some (.array .byte)) ws ({ frames := 0, cells := 1, slots := 1, locals := 0 } : Room) #[.int (1 : Int32), .int y0, .int y1, .int y2] h0 (fun u h => ∃ b, u = some (.ref b) ∧ h0.size ≤ b ∧ n0 ≤ b ∧ Keep h0 h [] ∧ PA .byte Z h b (bys [nar .byte y0])) := by
  refine met_of Z0 (plainFor_of_name pn_com_example_turnstile_turnstile_server_CommandsIsPinLaw) (Ls := #[.val (.int (1 : Int32)), .val (.int y0), .val (.int y1), .val (.int y2)]) (fun m => by first | (simp [entryFrame, mkF, argsToLocals, Value.category]; done) | rfl) ?_
  intro K ok
  have Kp : Keep h0 h0 [] := Keep.refl _ _
  show W K l _ n0 _ h0 0 0 0 #[.val (.int (1 : Int32)), .val (.int y0), .val (.int y1), .val (.int y2)] []
  refine w_iloadN ok d3_0 rfl ?_
  show W K l _ n0 _ h0 0 0 1 #[.val (.int (1 : Int32)), .val (.int y0), .val (.int y1), .val (.int y2)] [(.int (1 : Int32))]
  refine w_if_ne ok d3_1 (pc' := 8) (by decide) (fun hc1 => ?_) (fun hc1 => False.elim (by revert hc1; decide))
  show W K l _ n0 _ h0 0 0 8 #[.val (.int (1 : Int32)), .val (.int y0), .val (.int y1), .val (.int y2)] []
  refine w_iloadN ok d3_8 rfl ?_
  show W K l _ n0 _ h0 0 0 9 #[.val (.int (1 : Int32)), .val (.int y0), .val (.int y1), .val (.int y2)] [(.int (1 : Int32))]
  refine w_iconst ok d3_9 (v := (1 : Int32)) rfl ?_
  show W K l _ n0 _ h0 0 0 10 #[.val (.int (1 : Int32)), .val (.int y0), .val (.int y1), .val (.int y2)] [(.int (1 : Int32)), (.int (1 : Int32))]
  refine w_icmp_ne ok d3_10 (pc' := 21) (by decide) (fun hc3 => False.elim (by revert hc3; decide)) (fun hc3 => ?_)
  show W K l _ n0 _ h0 0 0 13 #[.val (.int (1 : Int32)), .val (.int y0), .val (.int y1), .val (.int y2)] []
  refine w_iconst ok d3_13 (v := (1 : Int32)) rfl ?_
  show W K l _ n0 _ h0 0 0 14 #[.val (.int (1 : Int32)), .val (.int y0), .val (.int y1), .val (.int y2)] [(.int (1 : Int32))]
  refine w_newarray ok d3_14 (hw _ (List.mem_of_getElem? (i := 10) rfl)) (by decide) (cap := 1) (by decide) (by decide) (by decide) (by decide) (fun h5 b4 ea_b4 ge_b4 E_b4 A_b4 => ?_)
  have sz_b4 : h0.size ≤ b4 := Nat.le_trans Kp.1 (Nat.le_of_eq ea_b4.symm)
  replace Kp := Kp.ext E_b4
  replace A_b4 : PA .byte Z h5 b4 [(.int (0 : Int32))] := A_b4
  show W K l _ n0 _ h5 1 1 16 #[.val (.int (1 : Int32)), .val (.int y0), .val (.int y1), .val (.int y2)] [(.ref b4)]
  refine w_dup ok d3_16 rfl ?_
  show W K l _ n0 _ h5 1 1 17 #[.val (.int (1 : Int32)), .val (.int y0), .val (.int y1), .val (.int y2)] [(.ref b4), (.ref b4)]
  refine w_iconst ok d3_17 (v := (0 : Int32)) rfl ?_
  show W K l _ n0 _ h5 1 1 18 #[.val (.int (1 : Int32)), .val (.int y0), .val (.int y1), .val (.int y2)] [(.int (0 : Int32)), (.ref b4), (.ref b4)]
  refine w_iloadN ok d3_18 rfl ?_
  show W K l _ n0 _ h5 1 1 19 #[.val (.int (1 : Int32)), .val (.int y0), .val (.int y1), .val (.int y2)] [(.int y0), (.int (0 : Int32)), (.ref b4), (.ref b4)]
  refine w_bastore ok d3_19 A_b4 ge_b4 (by decide) (Nat.le_of_ble_eq_true rfl) (fun h6 W_h6 A1_h6 => ?_)
  replace Kp := Kp.wr W_h6 (Or.inr sz_b4)
  replace A_b4 : PA .byte Z h6 b4 [(.int (nar .byte y0))] := A1_h6
  show W K l _ n0 _ h6 1 1 20 #[.val (.int (1 : Int32)), .val (.int y0), .val (.int y1), .val (.int y2)] [(.ref b4)]
  refine w_aret ok rfl rfl d3_20 (by decide) (by decide) ?_
  exact ⟨b4, rfl, sz_b4, ge_b4, Kp, A_b4⟩
set_option maxRecDepth 65536 in
set_option maxHeartbeats 40000000 in
theorem rm_mk2 (l : Launch) (Z : State) (a0 : Array Value) (hw : ∀ d ∈ tables_1, d.before a0 Z = true) (ws : List Jvm.Cond) (n0 : Nat) (h0 : Heap) (Z0 : n0 ≤ h0.size) (y0 y1 y2 : Int32) :
    Met l Z n0 (⟨"com/example/turnstile/turnstile/server/CommandsIsPinLaw", "make", "(IBBB)[B"⟩ : MethodName) method_5_code 4 (some (.array .byte)) ws ({ frames := 0, cells := 1, slots := 2, locals := 0 } : Room) #[.int (2 : Int32), .int y0, .int y1, .int y2] h0 (fun u h => ∃ b, u = some (.ref b) ∧ h0.size ≤ b ∧ n0 ≤ b ∧ Keep h0 h [] ∧ PA .byte Z h b (bys [nar .byte y0, nar .byte y1])) := by
  refine met_of Z0 (plainFor_of_name pn_com_example_turnstile_turnstile_server_CommandsIsPinLaw) (Ls := #[.val (.int (2 : Int32)), .val (.int y0), .val (.int y1), .val (.int y2)]) (fun m => by first | (simp [entryFrame, mkF, argsToLocals, Value.category]; done) | rfl) ?_
  intro K ok
  have Kp : Keep h0 h0 [] := Keep.refl _ _
  show W K l _ n0 _ h0 0 0 0 #[.val (.int (2 : Int32)), .val (.int y0), .val (.int y1), .val (.int y2)] []
  refine w_iloadN ok d3_0 rfl ?_
  show W K l _ n0 _ h0 0 0 1 #[.val (.int (2 : Int32)), .val (.int y0), .val (.int y1), .val (.int y2)] [(.int (2 : Int32))]
  refine w_if_ne ok d3_1 (pc' := 8) (by decide) (fun hc1 => ?_) (fun hc1 => False.elim (by revert hc1; decide))
  show W K l _ n0 _ h0 0 0 8 #[.val (.int (2 : Int32)), .val (.int y0), .val (.int y1), .val (.int y2)] []
  refine w_iloadN ok d3_8 rfl ?_
  show W K l _ n0 _ h0 0 0 9 #[.val (.int (2 : Int32)), .val (.int y0), .val (.int y1), .val (.int y2)] [(.int (2 : Int32))]
  refine w_iconst ok d3_9 (v := (1 : Int32)) rfl ?_
  show W K l _ n0 _ h0 0 0 10 #[.val (.int (2 : Int32)), .val (.int y0), .val (.int y1), .val (.int y2)] [(.int (1 : Int32)), (.int (2 : Int32))]
  refine w_icmp_ne ok d3_10 (pc' := 21) (by decide) (fun hc3 => ?_) (fun hc3 => False.elim (by revert hc3; decide))
  show W K l _ n0 _ h0 0 0 21 #[.val (.int (2 : Int32)), .val (.int y0), .val (.int y1), .val (.int y2)] []
  refine w_iloadN ok d3_21 rfl ?_
  show W K l _ n0 _ h0 0 0 22 #[.val (.int (2 : Int32)), .val (.int y0), .val (.int y1), .val (.int y2)] [(.int (2 : Int32))]
  refine w_iconst ok d3_22 (v := (2 : Int32)) rfl ?_
  show W K l _ n0 _ h0 0 0 23 #[.val (.int (2 : Int32)), .val (.int y0), .val (.int y1), .val (.int y2)] [(.int (2 : Int32)), (.int (2 : Int32))]
  refine w_icmp_ne ok d3_23 (pc' := 38) (by decide) (fun hc5 => False.elim (by revert hc5; decide)) (fun hc5 => ?_)
  show W K l _ n0 _ h0 0 0 26 #[.val (.int (2 : Int32)), .val (.int y0), .val (.int y1), .val (.int y2)] []
  refine w_iconst ok d3_26 (v := (2 : Int32)) rfl ?_
  show W K l _ n0 _ h0 0 0 27 #[.val (.int (2 : Int32)), .val (.int y0), .val (.int y1), .val (.int y2)] [(.int (2 : Int32))]
  refine w_newarray ok d3_27 (hw _ (List.mem_of_getElem? (i := 10) rfl)) (by decide) (cap := 2) (by decide) (by decide) (by decide) (by decide) (fun h7 b6 ea_b6 ge_b6 E_b6 A_b6 => ?_)
  have sz_b6 : h0.size ≤ b6 := Nat.le_trans Kp.1 (Nat.le_of_eq ea_b6.symm)
  replace Kp := Kp.ext E_b6
  replace A_b6 : PA .byte Z h7 b6 [(.int (0 : Int32)), (.int (0 : Int32))] := A_b6
  show W K l _ n0 _ h7 1 2 29 #[.val (.int (2 : Int32)), .val (.int y0), .val (.int y1), .val (.int y2)] [(.ref b6)]
  refine w_dup ok d3_29 rfl ?_
  show W K l _ n0 _ h7 1 2 30 #[.val (.int (2 : Int32)), .val (.int y0), .val (.int y1), .val (.int y2)] [(.ref b6), (.ref b6)]
  refine w_iconst ok d3_30 (v := (0 : Int32)) rfl ?_
  show W K l _ n0 _ h7 1 2 31 #[.val (.int (2 : Int32)), .val (.int y0), .val (.int y1), .val (.int y2)] [(.int (0 : Int32)), (.ref b6), (.ref b6)]
  refine w_iloadN ok d3_31 rfl ?_
  show W K l _ n0 _ h7 1 2 32 #[.val (.int (2 : Int32)), .val (.int y0), .val (.int y1), .val (.int y2)] [(.int y0), (.int (0 : Int32)), (.ref b6), (.ref b6)]
  refine w_bastore ok d3_32 A_b6 ge_b6 (by decide) (Nat.le_of_ble_eq_true rfl) (fun h8 W_h8 A1_h8 => ?_)
  replace Kp := Kp.wr W_h8 (Or.inr sz_b6)
  replace A_b6 : PA .byte Z h8 b6 [(.int (nar .byte y0)), (.int (0 : Int32))] := A1_h8
  show W K l _ n0 _ h8 1 2 33 #[.val (.int (2 : Int32)), .val (.int y0), .val (.int y1), .val (.int y2)] [(.ref b6)]
  refine w_dup ok d3_33 rfl ?_
  show W K l _ n0 _ h8 1 2 34 #[.val (.int (2 : Int32)), .val (.int y0), .val (.int y1), .val (.int y2)] [(.ref b6), (.ref b6)]
  refine w_iconst ok d3_34 (v := (1 : Int32)) rfl ?_
  show W K l _ n0 _ h8 1 2 35 #[.val (.int (2 : Int32)), .val (.int y0), .val (.int y1), .val (.int y2)] [(.int (1 : Int32)), (.ref b6), (.ref b6)]
  refine w_iloadN ok d3_35 rfl ?_
  show W K l _ n0 _ h8 1 2 36 #[.val (.int (2 : Int32)), .val (.int y0), .val (.int y1), .val (.int y2)] [(.int y1), (.int (1 : Int32)), (.ref b6), (.ref b6)]
  refine w_bastore ok d3_36 A_b6 ge_b6 (by decide) (Nat.le_of_ble_eq_true rfl) (fun h9 W_h9 A1_h9 => ?_)
  replace Kp := Kp.wr W_h9 (Or.inr sz_b6)
  replace A_b6 : PA .byte Z h9 b6 [(.int (nar .byte y0)), (.int (nar .byte y1))] := A1_h9
  show W K l _ n0 _ h9 1 2 37 #[.val (.int (2 : Int32)), .val (.int y0), .val (.int y1), .val (.int y2)] [(.ref b6)]
  refine w_aret ok rfl rfl d3_37 (by decide) (by decide) ?_
  exact ⟨b6, rfl, sz_b6, ge_b6, Kp, A_b6⟩
set_option maxRecDepth 65536 in
set_option maxHeartbeats 40000000 in
theorem rm_mk3 (l : Launch) (Z : State) (a0 : Array Value) (hw : ∀ d ∈ tables_1, d.before a0 Z = true) (ws : List Jvm.Cond) (n0 : Nat) (h0 : Heap) (Z0 : n0 ≤ h0.size) (y0 y1 y2 : Int32) :
    Met l Z n0 (⟨"com/example/turnstile/turnstile/server/CommandsIsPinLaw", "make", "(IBBB)[B"⟩ : MethodName) method_5_code 4 (some (.array .byte)) ws ({ frames := 0, cells := 1, slots := 3, locals := 0 } : Room) #[.int (3 : Int32), .int y0, .int y1, .int y2] h0 (fun u h => ∃ b, u = some (.ref b) ∧ h0.size ≤ b ∧ n0 ≤ b ∧ Keep h0 h [] ∧ PA .byte Z h b (bys [nar .byte y0, nar .byte y1, nar .byte y2])) := by
  refine met_of Z0 (plainFor_of_name pn_com_example_turnstile_turnstile_server_CommandsIsPinLaw) (Ls := #[.val (.int (3 : Int32)), .val (.int y0), .val (.int y1), .val (.int y2)]) (fun m => by first | (simp [entryFrame, mkF, argsToLocals, Value.category]; done) | rfl) ?_
  intro K ok
  have Kp : Keep h0 h0 [] := Keep.refl _ _
  show W K l _ n0 _ h0 0 0 0 #[.val (.int (3 : Int32)), .val (.int y0), .val (.int y1), .val (.int y2)] []
  refine w_iloadN ok d3_0 rfl ?_
  show W K l _ n0 _ h0 0 0 1 #[.val (.int (3 : Int32)), .val (.int y0), .val (.int y1), .val (.int y2)] [(.int (3 : Int32))]
  refine w_if_ne ok d3_1 (pc' := 8) (by decide) (fun hc1 => ?_) (fun hc1 => False.elim (by revert hc1; decide))
  show W K l _ n0 _ h0 0 0 8 #[.val (.int (3 : Int32)), .val (.int y0), .val (.int y1), .val (.int y2)] []
  refine w_iloadN ok d3_8 rfl ?_
  show W K l _ n0 _ h0 0 0 9 #[.val (.int (3 : Int32)), .val (.int y0), .val (.int y1), .val (.int y2)] [(.int (3 : Int32))]
  refine w_iconst ok d3_9 (v := (1 : Int32)) rfl ?_
  show W K l _ n0 _ h0 0 0 10 #[.val (.int (3 : Int32)), .val (.int y0), .val (.int y1), .val (.int y2)] [(.int (1 : Int32)), (.int (3 : Int32))]
  refine w_icmp_ne ok d3_10 (pc' := 21) (by decide) (fun hc3 => ?_) (fun hc3 => False.elim (by revert hc3; decide))
  show W K l _ n0 _ h0 0 0 21 #[.val (.int (3 : Int32)), .val (.int y0), .val (.int y1), .val (.int y2)] []
  refine w_iloadN ok d3_21 rfl ?_
  show W K l _ n0 _ h0 0 0 22 #[.val (.int (3 : Int32)), .val (.int y0), .val (.int y1), .val (.int y2)] [(.int (3 : Int32))]
  refine w_iconst ok d3_22 (v := (2 : Int32)) rfl ?_
  show W K l _ n0 _ h0 0 0 23 #[.val (.int (3 : Int32)), .val (.int y0), .val (.int y1), .val (.int y2)] [(.int (2 : Int32)), (.int (3 : Int32))]
  refine w_icmp_ne ok d3_23 (pc' := 38) (by decide) (fun hc5 => ?_) (fun hc5 => False.elim (by revert hc5; decide))
  show W K l _ n0 _ h0 0 0 38 #[.val (.int (3 : Int32)), .val (.int y0), .val (.int y1), .val (.int y2)] []
  refine w_iconst ok d3_38 (v := (3 : Int32)) rfl ?_
  show W K l _ n0 _ h0 0 0 39 #[.val (.int (3 : Int32)), .val (.int y0), .val (.int y1), .val (.int y2)] [(.int (3 : Int32))]
  refine w_newarray ok d3_39 (hw _ (List.mem_of_getElem? (i := 10) rfl)) (by decide) (cap := 3) (by decide) (by decide) (by decide) (by decide) (fun h7 b6 ea_b6 ge_b6 E_b6 A_b6 => ?_)
  have sz_b6 : h0.size ≤ b6 := Nat.le_trans Kp.1 (Nat.le_of_eq ea_b6.symm)
  replace Kp := Kp.ext E_b6
  replace A_b6 : PA .byte Z h7 b6 [(.int (0 : Int32)), (.int (0 : Int32)), (.int (0 : Int32))] := A_b6
  show W K l _ n0 _ h7 1 3 41 #[.val (.int (3 : Int32)), .val (.int y0), .val (.int y1), .val (.int y2)] [(.ref b6)]
  refine w_dup ok d3_41 rfl ?_
  show W K l _ n0 _ h7 1 3 42 #[.val (.int (3 : Int32)), .val (.int y0), .val (.int y1), .val (.int y2)] [(.ref b6), (.ref b6)]
  refine w_iconst ok d3_42 (v := (0 : Int32)) rfl ?_
  show W K l _ n0 _ h7 1 3 43 #[.val (.int (3 : Int32)), .val (.int y0), .val (.int y1), .val (.int y2)] [(.int (0 : Int32)), (.ref b6), (.ref b6)]
  refine w_iloadN ok d3_43 rfl ?_
  show W K l _ n0 _ h7 1 3 44 #[.val (.int (3 : Int32)), .val (.int y0), .val (.int y1), .val (.int y2)] [(.int y0), (.int (0 : Int32)), (.ref b6), (.ref b6)]
  refine w_bastore ok d3_44 A_b6 ge_b6 (by decide) (Nat.le_of_ble_eq_true rfl) (fun h8 W_h8 A1_h8 => ?_)
  replace Kp := Kp.wr W_h8 (Or.inr sz_b6)
  replace A_b6 : PA .byte Z h8 b6 [(.int (nar .byte y0)), (.int (0 : Int32)), (.int (0 : Int32))] := A1_h8
  show W K l _ n0 _ h8 1 3 45 #[.val (.int (3 : Int32)), .val (.int y0), .val (.int y1), .val (.int y2)] [(.ref b6)]
  refine w_dup ok d3_45 rfl ?_
  show W K l _ n0 _ h8 1 3 46 #[.val (.int (3 : Int32)), .val (.int y0), .val (.int y1), .val (.int y2)] [(.ref b6), (.ref b6)]
  refine w_iconst ok d3_46 (v := (1 : Int32)) rfl ?_
  show W K l _ n0 _ h8 1 3 47 #[.val (.int (3 : Int32)), .val (.int y0), .val (.int y1), .val (.int y2)] [(.int (1 : Int32)), (.ref b6), (.ref b6)]
  refine w_iloadN ok d3_47 rfl ?_
  show W K l _ n0 _ h8 1 3 48 #[.val (.int (3 : Int32)), .val (.int y0), .val (.int y1), .val (.int y2)] [(.int y1), (.int (1 : Int32)), (.ref b6), (.ref b6)]
  refine w_bastore ok d3_48 A_b6 ge_b6 (by decide) (Nat.le_of_ble_eq_true rfl) (fun h9 W_h9 A1_h9 => ?_)
  replace Kp := Kp.wr W_h9 (Or.inr sz_b6)
  replace A_b6 : PA .byte Z h9 b6 [(.int (nar .byte y0)), (.int (nar .byte y1)), (.int (0 : Int32))] := A1_h9
  show W K l _ n0 _ h9 1 3 49 #[.val (.int (3 : Int32)), .val (.int y0), .val (.int y1), .val (.int y2)] [(.ref b6)]
  refine w_dup ok d3_49 rfl ?_
  show W K l _ n0 _ h9 1 3 50 #[.val (.int (3 : Int32)), .val (.int y0), .val (.int y1), .val (.int y2)] [(.ref b6), (.ref b6)]
  refine w_iconst ok d3_50 (v := (2 : Int32)) rfl ?_
  show W K l _ n0 _ h9 1 3 51 #[.val (.int (3 : Int32)), .val (.int y0), .val (.int y1), .val (.int y2)] [(.int (2 : Int32)), (.ref b6), (.ref b6)]
  refine w_iloadN ok d3_51 rfl ?_
  show W K l _ n0 _ h9 1 3 52 #[.val (.int (3 : Int32)), .val (.int y0), .val (.int y1), .val (.int y2)] [(.int y2), (.int (2 : Int32)), (.ref b6), (.ref b6)]
  refine w_bastore ok d3_52 A_b6 ge_b6 (by decide) (Nat.le_of_ble_eq_true rfl) (fun h10 W_h10 A1_h10 => ?_)
  replace Kp := Kp.wr W_h10 (Or.inr sz_b6)
  replace A_b6 : PA .byte Z h10 b6 [(.int (nar .byte y0)), (.int (nar .byte y1)), (.int (nar .byte y2))] := A1_h10
  show W K l _ n0 _ h10 1 3 53 #[.val (.int (3 : Int32)), .val (.int y0), .val (.int y1), .val (.int y2)] [(.ref b6)]
  refine w_aret ok rfl rfl d3_53 (by decide) (by decide) ?_
  exact ⟨b6, rfl, sz_b6, ge_b6, Kp, A_b6⟩
theorem pd_28I29B : parseMethodDescriptor "(I)B" = some ⟨[.int], some .byte⟩ := by decide +kernel
theorem pd_28IIBZ29B : parseMethodDescriptor "(IIBZ)B" = some ⟨[.int, .int, .byte, .boolean], some .byte⟩ := by decide +kernel
theorem pd_28IBBB295bB : parseMethodDescriptor "(IBBB)[B" = some ⟨[.int, .byte, .byte, .byte], some (.array .byte)⟩ := by decide +kernel
theorem pd_285bB5bB29Z : parseMethodDescriptor "([B[B)Z" = some ⟨[(.array .byte), (.array .byte)], some .boolean⟩ := by decide +kernel
theorem pd_28BB29Z : parseMethodDescriptor "(BB)Z" = some ⟨[.byte, .byte], some .boolean⟩ := by decide +kernel
set_option maxRecDepth 65536 in
set_option maxHeartbeats 40000000 in
theorem c25 (l : Launch) (Z : State) (a0 : Array Value) (hw : ∀ d ∈ tables_1, d.before a0 Z = true) (n0 : Nat) (h0 : Heap) (K : Cx) (ok : Ok K Z n0 x.cls code maxLocals ret x.name) (Z0 : n0 ≤ h0.size) (ln nbs sbs how sl nl : Int32) (hsl : sl = 0 ∨ sl = 1 ∨ sl = 2 ∨ sl = 3) (hnl : nl = 0 ∨ nl = 1 ∨ nl = 2 ∨ nl = 3) :
    W K l room_1 n0 (fun u h => u = some (.int 1)) h0 0 0 25 #[.val (.int ln), .val (.int nbs), .val (.int sbs), .val (.int how), .val (.int sl), .val (.int nl), .unset, .unset, .unset, .unset, .unset, .unset, .unset, .unset, .unset] [] := by
  rcases hsl with rfl | rfl | rfl | rfl <;> rcases hnl with rfl | rfl | rfl | rfl
  · skip
    show W K l _ n0 _ h0 0 0 25 #[.val (.int ln), .val (.int nbs), .val (.int sbs), .val (.int how), .val (.int (0 : Int32)), .val (.int (0 : Int32)), .unset, .unset, .unset, .unset, .unset, .unset, .unset, .unset, .unset] []
    refine w_iloadN ok at_25 rfl ?_
    show W K l _ n0 _ h0 0 0 26 #[.val (.int ln), .val (.int nbs), .val (.int sbs), .val (.int how), .val (.int (0 : Int32)), .val (.int (0 : Int32)), .unset, .unset, .unset, .unset, .unset, .unset, .unset, .unset, .unset] [(.int nbs)]
    refine w_callS ok (y := (⟨"com/example/turnstile/turnstile/server/CommandsIsPinLaw", "nameByte", "(I)B"⟩ : MethodName)) (argsL := [(.int nbs)]) (rest := []) at_26 (hw _ (List.mem_of_getElem? (i := 0) rfl)) (hw _ (List.mem_of_getElem? (i := 1) rfl)) (hw _ (List.mem_of_getElem? (i := 2) rfl)) (hw _ (List.mem_of_getElem? (i := 3) rfl)) (by decide) pd_28I29B rfl rfl (by decide) (Nat.le_of_ble_eq_true rfl) (by decide) (by decide) (fun z0 => rm_nb l Z a0 hw [] n0 h0 z0 nbs) (fun v1 h2 qv1 => ?_)
    obtain ⟨n3, rfl, h1_n3, h2_n3, rfl⟩ := qv1
    show W K l _ n0 _ h0 0 0 29 #[.val (.int ln), .val (.int nbs), .val (.int sbs), .val (.int how), .val (.int (0 : Int32)), .val (.int (0 : Int32)), .unset, .unset, .unset, .unset, .unset, .unset, .unset, .unset, .unset] [(.int n3)]
    refine w_istore ok at_29 (L' := #[.val (.int ln), .val (.int nbs), .val (.int sbs), .val (.int how), .val (.int (0 : Int32)), .val (.int (0 : Int32)), .val (.int n3), .unset, .unset, .unset, .unset, .unset, .unset, .unset, .unset]) rfl ?_
    show W K l _ n0 _ h0 0 0 31 #[.val (.int ln), .val (.int nbs), .val (.int sbs), .val (.int how), .val (.int (0 : Int32)), .val (.int (0 : Int32)), .val (.int n3), .unset, .unset, .unset, .unset, .unset, .unset, .unset, .unset] []
    refine w_iloadN ok at_31 rfl ?_
    show W K l _ n0 _ h0 0 0 32 #[.val (.int ln), .val (.int nbs), .val (.int sbs), .val (.int how), .val (.int (0 : Int32)), .val (.int (0 : Int32)), .val (.int n3), .unset, .unset, .unset, .unset, .unset, .unset, .unset, .unset] [(.int nbs)]
    refine w_bipush ok at_32 (v := (8 : Int32)) rfl ?_
    show W K l _ n0 _ h0 0 0 34 #[.val (.int ln), .val (.int nbs), .val (.int sbs), .val (.int how), .val (.int (0 : Int32)), .val (.int (0 : Int32)), .val (.int n3), .unset, .unset, .unset, .unset, .unset, .unset, .unset, .unset] [(.int (8 : Int32)), (.int nbs)]
    refine w_ishr ok at_34 ?_
    show W K l _ n0 _ h0 0 0 35 #[.val (.int ln), .val (.int nbs), .val (.int sbs), .val (.int how), .val (.int (0 : Int32)), .val (.int (0 : Int32)), .val (.int n3), .unset, .unset, .unset, .unset, .unset, .unset, .unset, .unset] [(.int (nbs >>> ((8 : Int32) &&& 31)))]
    refine w_callS ok (y := (⟨"com/example/turnstile/turnstile/server/CommandsIsPinLaw", "nameByte", "(I)B"⟩ : MethodName)) (argsL := [(.int (nbs >>> ((8 : Int32) &&& 31)))]) (rest := []) at_35 (hw _ (List.mem_of_getElem? (i := 0) rfl)) (hw _ (List.mem_of_getElem? (i := 1) rfl)) (hw _ (List.mem_of_getElem? (i := 2) rfl)) (hw _ (List.mem_of_getElem? (i := 3) rfl)) (by decide) pd_28I29B rfl rfl (by decide) (Nat.le_of_ble_eq_true rfl) (by decide) (by decide) (fun z0 => rm_nb l Z a0 hw [] n0 h0 z0 (nbs >>> ((8 : Int32) &&& 31))) (fun v4 h5 qv4 => ?_)
    obtain ⟨n6, rfl, h1_n6, h2_n6, rfl⟩ := qv4
    show W K l _ n0 _ h0 0 0 38 #[.val (.int ln), .val (.int nbs), .val (.int sbs), .val (.int how), .val (.int (0 : Int32)), .val (.int (0 : Int32)), .val (.int n3), .unset, .unset, .unset, .unset, .unset, .unset, .unset, .unset] [(.int n6)]
    refine w_istore ok at_38 (L' := #[.val (.int ln), .val (.int nbs), .val (.int sbs), .val (.int how), .val (.int (0 : Int32)), .val (.int (0 : Int32)), .val (.int n3), .val (.int n6), .unset, .unset, .unset, .unset, .unset, .unset, .unset]) rfl ?_
    show W K l _ n0 _ h0 0 0 40 #[.val (.int ln), .val (.int nbs), .val (.int sbs), .val (.int how), .val (.int (0 : Int32)), .val (.int (0 : Int32)), .val (.int n3), .val (.int n6), .unset, .unset, .unset, .unset, .unset, .unset, .unset] []
    refine w_iloadN ok at_40 rfl ?_
    show W K l _ n0 _ h0 0 0 41 #[.val (.int ln), .val (.int nbs), .val (.int sbs), .val (.int how), .val (.int (0 : Int32)), .val (.int (0 : Int32)), .val (.int n3), .val (.int n6), .unset, .unset, .unset, .unset, .unset, .unset, .unset] [(.int nbs)]
    refine w_bipush ok at_41 (v := (16 : Int32)) rfl ?_
    show W K l _ n0 _ h0 0 0 43 #[.val (.int ln), .val (.int nbs), .val (.int sbs), .val (.int how), .val (.int (0 : Int32)), .val (.int (0 : Int32)), .val (.int n3), .val (.int n6), .unset, .unset, .unset, .unset, .unset, .unset, .unset] [(.int (16 : Int32)), (.int nbs)]
    refine w_ishr ok at_43 ?_
    show W K l _ n0 _ h0 0 0 44 #[.val (.int ln), .val (.int nbs), .val (.int sbs), .val (.int how), .val (.int (0 : Int32)), .val (.int (0 : Int32)), .val (.int n3), .val (.int n6), .unset, .unset, .unset, .unset, .unset, .unset, .unset] [(.int (nbs >>> ((16 : Int32) &&& 31)))]
    refine w_callS ok (y := (⟨"com/example/turnstile/turnstile/server/CommandsIsPinLaw", "nameByte", "(I)B"⟩ : MethodName)) (argsL := [(.int (nbs >>> ((16 : Int32) &&& 31)))]) (rest := []) at_44 (hw _ (List.mem_of_getElem? (i := 0) rfl)) (hw _ (List.mem_of_getElem? (i := 1) rfl)) (hw _ (List.mem_of_getElem? (i := 2) rfl)) (hw _ (List.mem_of_getElem? (i := 3) rfl)) (by decide) pd_28I29B rfl rfl (by decide) (Nat.le_of_ble_eq_true rfl) (by decide) (by decide) (fun z0 => rm_nb l Z a0 hw [] n0 h0 z0 (nbs >>> ((16 : Int32) &&& 31))) (fun v7 h8 qv7 => ?_)
    obtain ⟨n9, rfl, h1_n9, h2_n9, rfl⟩ := qv7
    show W K l _ n0 _ h0 0 0 47 #[.val (.int ln), .val (.int nbs), .val (.int sbs), .val (.int how), .val (.int (0 : Int32)), .val (.int (0 : Int32)), .val (.int n3), .val (.int n6), .unset, .unset, .unset, .unset, .unset, .unset, .unset] [(.int n9)]
    refine w_istore ok at_47 (L' := #[.val (.int ln), .val (.int nbs), .val (.int sbs), .val (.int how), .val (.int (0 : Int32)), .val (.int (0 : Int32)), .val (.int n3), .val (.int n6), .val (.int n9), .unset, .unset, .unset, .unset, .unset, .unset]) rfl ?_
    show W K l _ n0 _ h0 0 0 49 #[.val (.int ln), .val (.int nbs), .val (.int sbs), .val (.int how), .val (.int (0 : Int32)), .val (.int (0 : Int32)), .val (.int n3), .val (.int n6), .val (.int n9), .unset, .unset, .unset, .unset, .unset, .unset] []
    refine w_iloadN ok at_49 rfl ?_
    show W K l _ n0 _ h0 0 0 50 #[.val (.int ln), .val (.int nbs), .val (.int sbs), .val (.int how), .val (.int (0 : Int32)), .val (.int (0 : Int32)), .val (.int n3), .val (.int n6), .val (.int n9), .unset, .unset, .unset, .unset, .unset, .unset] [(.int how)]
    refine w_iloadN ok at_50 rfl ?_
    show W K l _ n0 _ h0 0 0 51 #[.val (.int ln), .val (.int nbs), .val (.int sbs), .val (.int how), .val (.int (0 : Int32)), .val (.int (0 : Int32)), .val (.int n3), .val (.int n6), .val (.int n9), .unset, .unset, .unset, .unset, .unset, .unset] [(.int sbs), (.int how)]
    refine w_iload ok at_51 rfl ?_
    show W K l _ n0 _ h0 0 0 53 #[.val (.int ln), .val (.int nbs), .val (.int sbs), .val (.int how), .val (.int (0 : Int32)), .val (.int (0 : Int32)), .val (.int n3), .val (.int n6), .val (.int n9), .unset, .unset, .unset, .unset, .unset, .unset] [(.int n3), (.int sbs), (.int how)]
    refine w_iload ok at_53 rfl ?_
    show W K l _ n0 _ h0 0 0 55 #[.val (.int ln), .val (.int nbs), .val (.int sbs), .val (.int how), .val (.int (0 : Int32)), .val (.int (0 : Int32)), .val (.int n3), .val (.int n6), .val (.int n9), .unset, .unset, .unset, .unset, .unset, .unset] [(.int (0 : Int32)), (.int n3), (.int sbs), (.int how)]
    refine w_if_le ok at_55 (pc' := 62) (by decide) (fun hc11 => ?_) (fun hc11 => False.elim (by revert hc11; decide))
    show W K l _ n0 _ h0 0 0 62 #[.val (.int ln), .val (.int nbs), .val (.int sbs), .val (.int how), .val (.int (0 : Int32)), .val (.int (0 : Int32)), .val (.int n3), .val (.int n6), .val (.int n9), .unset, .unset, .unset, .unset, .unset, .unset] [(.int n3), (.int sbs), (.int how)]
    refine w_iconst ok at_62 (v := (0 : Int32)) rfl ?_
    show W K l _ n0 _ h0 0 0 63 #[.val (.int ln), .val (.int nbs), .val (.int sbs), .val (.int how), .val (.int (0 : Int32)), .val (.int (0 : Int32)), .val (.int n3), .val (.int n6), .val (.int n9), .unset, .unset, .unset, .unset, .unset, .unset] [(.int (0 : Int32)), (.int n3), (.int sbs), (.int how)]
    refine w_callS ok (y := (⟨"com/example/turnstile/turnstile/server/CommandsIsPinLaw", "sentByte", "(IIBZ)B"⟩ : MethodName)) (argsL := [(.int how), (.int sbs), (.int n3), (.int (0 : Int32))]) (rest := []) at_63 (hw _ (List.mem_of_getElem? (i := 4) rfl)) (hw _ (List.mem_of_getElem? (i := 5) rfl)) (hw _ (List.mem_of_getElem? (i := 2) rfl)) (hw _ (List.mem_of_getElem? (i := 6) rfl)) (by decide) pd_28IIBZ29B rfl rfl (by decide) (Nat.le_of_ble_eq_true rfl) (by decide) (by decide) (fun z0 => rm_sb l Z a0 hw [] n0 h0 z0 how sbs n3 (0 : Int32)) (fun v12 h13 qv12 => ?_)
    obtain ⟨s14, rfl, h1_s14, rfl⟩ := qv12
    show W K l _ n0 _ h0 0 0 66 #[.val (.int ln), .val (.int nbs), .val (.int sbs), .val (.int how), .val (.int (0 : Int32)), .val (.int (0 : Int32)), .val (.int n3), .val (.int n6), .val (.int n9), .unset, .unset, .unset, .unset, .unset, .unset] [(.int s14)]
    refine w_istore ok at_66 (L' := #[.val (.int ln), .val (.int nbs), .val (.int sbs), .val (.int how), .val (.int (0 : Int32)), .val (.int (0 : Int32)), .val (.int n3), .val (.int n6), .val (.int n9), .val (.int s14), .unset, .unset, .unset, .unset, .unset]) rfl ?_
    show W K l _ n0 _ h0 0 0 68 #[.val (.int ln), .val (.int nbs), .val (.int sbs), .val (.int how), .val (.int (0 : Int32)), .val (.int (0 : Int32)), .val (.int n3), .val (.int n6), .val (.int n9), .val (.int s14), .unset, .unset, .unset, .unset, .unset] []
    refine w_iloadN ok at_68 rfl ?_
    show W K l _ n0 _ h0 0 0 69 #[.val (.int ln), .val (.int nbs), .val (.int sbs), .val (.int how), .val (.int (0 : Int32)), .val (.int (0 : Int32)), .val (.int n3), .val (.int n6), .val (.int n9), .val (.int s14), .unset, .unset, .unset, .unset, .unset] [(.int how)]
    refine w_iconst ok at_69 (v := (2 : Int32)) rfl ?_
    show W K l _ n0 _ h0 0 0 70 #[.val (.int ln), .val (.int nbs), .val (.int sbs), .val (.int how), .val (.int (0 : Int32)), .val (.int (0 : Int32)), .val (.int n3), .val (.int n6), .val (.int n9), .val (.int s14), .unset, .unset, .unset, .unset, .unset] [(.int (2 : Int32)), (.int how)]
    refine w_ishr ok at_70 ?_
    show W K l _ n0 _ h0 0 0 71 #[.val (.int ln), .val (.int nbs), .val (.int sbs), .val (.int how), .val (.int (0 : Int32)), .val (.int (0 : Int32)), .val (.int n3), .val (.int n6), .val (.int n9), .val (.int s14), .unset, .unset, .unset, .unset, .unset] [(.int (how >>> ((2 : Int32) &&& 31)))]
    refine w_iloadN ok at_71 rfl ?_
    show W K l _ n0 _ h0 0 0 72 #[.val (.int ln), .val (.int nbs), .val (.int sbs), .val (.int how), .val (.int (0 : Int32)), .val (.int (0 : Int32)), .val (.int n3), .val (.int n6), .val (.int n9), .val (.int s14), .unset, .unset, .unset, .unset, .unset] [(.int sbs), (.int (how >>> ((2 : Int32) &&& 31)))]
    refine w_bipush ok at_72 (v := (8 : Int32)) rfl ?_
    show W K l _ n0 _ h0 0 0 74 #[.val (.int ln), .val (.int nbs), .val (.int sbs), .val (.int how), .val (.int (0 : Int32)), .val (.int (0 : Int32)), .val (.int n3), .val (.int n6), .val (.int n9), .val (.int s14), .unset, .unset, .unset, .unset, .unset] [(.int (8 : Int32)), (.int sbs), (.int (how >>> ((2 : Int32) &&& 31)))]
    refine w_ishr ok at_74 ?_
    show W K l _ n0 _ h0 0 0 75 #[.val (.int ln), .val (.int nbs), .val (.int sbs), .val (.int how), .val (.int (0 : Int32)), .val (.int (0 : Int32)), .val (.int n3), .val (.int n6), .val (.int n9), .val (.int s14), .unset, .unset, .unset, .unset, .unset] [(.int (sbs >>> ((8 : Int32) &&& 31))), (.int (how >>> ((2 : Int32) &&& 31)))]
    refine w_iload ok at_75 rfl ?_
    show W K l _ n0 _ h0 0 0 77 #[.val (.int ln), .val (.int nbs), .val (.int sbs), .val (.int how), .val (.int (0 : Int32)), .val (.int (0 : Int32)), .val (.int n3), .val (.int n6), .val (.int n9), .val (.int s14), .unset, .unset, .unset, .unset, .unset] [(.int n6), (.int (sbs >>> ((8 : Int32) &&& 31))), (.int (how >>> ((2 : Int32) &&& 31)))]
    refine w_iload ok at_77 rfl ?_
    show W K l _ n0 _ h0 0 0 79 #[.val (.int ln), .val (.int nbs), .val (.int sbs), .val (.int how), .val (.int (0 : Int32)), .val (.int (0 : Int32)), .val (.int n3), .val (.int n6), .val (.int n9), .val (.int s14), .unset, .unset, .unset, .unset, .unset] [(.int (0 : Int32)), (.int n6), (.int (sbs >>> ((8 : Int32) &&& 31))), (.int (how >>> ((2 : Int32) &&& 31)))]
    refine w_iconst ok at_79 (v := (1 : Int32)) rfl ?_
    show W K l _ n0 _ h0 0 0 80 #[.val (.int ln), .val (.int nbs), .val (.int sbs), .val (.int how), .val (.int (0 : Int32)), .val (.int (0 : Int32)), .val (.int n3), .val (.int n6), .val (.int n9), .val (.int s14), .unset, .unset, .unset, .unset, .unset] [(.int (1 : Int32)), (.int (0 : Int32)), (.int n6), (.int (sbs >>> ((8 : Int32) &&& 31))), (.int (how >>> ((2 : Int32) &&& 31)))]
    refine w_icmp_le ok at_80 (pc' := 87) (by decide) (fun hc16 => ?_) (fun hc16 => False.elim (by revert hc16; decide))
    show W K l _ n0 _ h0 0 0 87 #[.val (.int ln), .val (.int nbs), .val (.int sbs), .val (.int how), .val (.int (0 : Int32)), .val (.int (0 : Int32)), .val (.int n3), .val (.int n6), .val (.int n9), .val (.int s14), .unset, .unset, .unset, .unset, .unset] [(.int n6), (.int (sbs >>> ((8 : Int32) &&& 31))), (.int (how >>> ((2 : Int32) &&& 31)))]
    refine w_iconst ok at_87 (v := (0 : Int32)) rfl ?_
    show W K l _ n0 _ h0 0 0 88 #[.val (.int ln), .val (.int nbs), .val (.int sbs), .val (.int how), .val (.int (0 : Int32)), .val (.int (0 : Int32)), .val (.int n3), .val (.int n6), .val (.int n9), .val (.int s14), .unset, .unset, .unset, .unset, .unset] [(.int (0 : Int32)), (.int n6), (.int (sbs >>> ((8 : Int32) &&& 31))), (.int (how >>> ((2 : Int32) &&& 31)))]
    refine w_callS ok (y := (⟨"com/example/turnstile/turnstile/server/CommandsIsPinLaw", "sentByte", "(IIBZ)B"⟩ : MethodName)) (argsL := [(.int (how >>> ((2 : Int32) &&& 31))), (.int (sbs >>> ((8 : Int32) &&& 31))), (.int n6), (.int (0 : Int32))]) (rest := []) at_88 (hw _ (List.mem_of_getElem? (i := 4) rfl)) (hw _ (List.mem_of_getElem? (i := 5) rfl)) (hw _ (List.mem_of_getElem? (i := 2) rfl)) (hw _ (List.mem_of_getElem? (i := 6) rfl)) (by decide) pd_28IIBZ29B rfl rfl (by decide) (Nat.le_of_ble_eq_true rfl) (by decide) (by decide) (fun z0 => rm_sb l Z a0 hw [] n0 h0 z0 (how >>> ((2 : Int32) &&& 31)) (sbs >>> ((8 : Int32) &&& 31)) n6 (0 : Int32)) (fun v17 h18 qv17 => ?_)
    obtain ⟨s19, rfl, h1_s19, rfl⟩ := qv17
    show W K l _ n0 _ h0 0 0 91 #[.val (.int ln), .val (.int nbs), .val (.int sbs), .val (.int how), .val (.int (0 : Int32)), .val (.int (0 : Int32)), .val (.int n3), .val (.int n6), .val (.int n9), .val (.int s14), .unset, .unset, .unset, .unset, .unset] [(.int s19)]
    refine w_istore ok at_91 (L' := #[.val (.int ln), .val (.int nbs), .val (.int sbs), .val (.int how), .val (.int (0 : Int32)), .val (.int (0 : Int32)), .val (.int n3), .val (.int n6), .val (.int n9), .val (.int s14), .val (.int s19), .unset, .unset, .unset, .unset]) rfl ?_
    show W K l _ n0 _ h0 0 0 93 #[.val (.int ln), .val (.int nbs), .val (.int sbs), .val (.int how), .val (.int (0 : Int32)), .val (.int (0 : Int32)), .val (.int n3), .val (.int n6), .val (.int n9), .val (.int s14), .val (.int s19), .unset, .unset, .unset, .unset] []
    refine w_iloadN ok at_93 rfl ?_
    show W K l _ n0 _ h0 0 0 94 #[.val (.int ln), .val (.int nbs), .val (.int sbs), .val (.int how), .val (.int (0 : Int32)), .val (.int (0 : Int32)), .val (.int n3), .val (.int n6), .val (.int n9), .val (.int s14), .val (.int s19), .unset, .unset, .unset, .unset] [(.int how)]
    refine w_iconst ok at_94 (v := (4 : Int32)) rfl ?_
    show W K l _ n0 _ h0 0 0 95 #[.val (.int ln), .val (.int nbs), .val (.int sbs), .val (.int how), .val (.int (0 : Int32)), .val (.int (0 : Int32)), .val (.int n3), .val (.int n6), .val (.int n9), .val (.int s14), .val (.int s19), .unset, .unset, .unset, .unset] [(.int (4 : Int32)), (.int how)]
    refine w_ishr ok at_95 ?_
    show W K l _ n0 _ h0 0 0 96 #[.val (.int ln), .val (.int nbs), .val (.int sbs), .val (.int how), .val (.int (0 : Int32)), .val (.int (0 : Int32)), .val (.int n3), .val (.int n6), .val (.int n9), .val (.int s14), .val (.int s19), .unset, .unset, .unset, .unset] [(.int (how >>> ((4 : Int32) &&& 31)))]
    refine w_iloadN ok at_96 rfl ?_
    show W K l _ n0 _ h0 0 0 97 #[.val (.int ln), .val (.int nbs), .val (.int sbs), .val (.int how), .val (.int (0 : Int32)), .val (.int (0 : Int32)), .val (.int n3), .val (.int n6), .val (.int n9), .val (.int s14), .val (.int s19), .unset, .unset, .unset, .unset] [(.int sbs), (.int (how >>> ((4 : Int32) &&& 31)))]
    refine w_bipush ok at_97 (v := (16 : Int32)) rfl ?_
    show W K l _ n0 _ h0 0 0 99 #[.val (.int ln), .val (.int nbs), .val (.int sbs), .val (.int how), .val (.int (0 : Int32)), .val (.int (0 : Int32)), .val (.int n3), .val (.int n6), .val (.int n9), .val (.int s14), .val (.int s19), .unset, .unset, .unset, .unset] [(.int (16 : Int32)), (.int sbs), (.int (how >>> ((4 : Int32) &&& 31)))]
    refine w_ishr ok at_99 ?_
    show W K l _ n0 _ h0 0 0 100 #[.val (.int ln), .val (.int nbs), .val (.int sbs), .val (.int how), .val (.int (0 : Int32)), .val (.int (0 : Int32)), .val (.int n3), .val (.int n6), .val (.int n9), .val (.int s14), .val (.int s19), .unset, .unset, .unset, .unset] [(.int (sbs >>> ((16 : Int32) &&& 31))), (.int (how >>> ((4 : Int32) &&& 31)))]
    refine w_iload ok at_100 rfl ?_
    show W K l _ n0 _ h0 0 0 102 #[.val (.int ln), .val (.int nbs), .val (.int sbs), .val (.int how), .val (.int (0 : Int32)), .val (.int (0 : Int32)), .val (.int n3), .val (.int n6), .val (.int n9), .val (.int s14), .val (.int s19), .unset, .unset, .unset, .unset] [(.int n9), (.int (sbs >>> ((16 : Int32) &&& 31))), (.int (how >>> ((4 : Int32) &&& 31)))]
    refine w_iload ok at_102 rfl ?_
    show W K l _ n0 _ h0 0 0 104 #[.val (.int ln), .val (.int nbs), .val (.int sbs), .val (.int how), .val (.int (0 : Int32)), .val (.int (0 : Int32)), .val (.int n3), .val (.int n6), .val (.int n9), .val (.int s14), .val (.int s19), .unset, .unset, .unset, .unset] [(.int (0 : Int32)), (.int n9), (.int (sbs >>> ((16 : Int32) &&& 31))), (.int (how >>> ((4 : Int32) &&& 31)))]
    refine w_iconst ok at_104 (v := (2 : Int32)) rfl ?_
    show W K l _ n0 _ h0 0 0 105 #[.val (.int ln), .val (.int nbs), .val (.int sbs), .val (.int how), .val (.int (0 : Int32)), .val (.int (0 : Int32)), .val (.int n3), .val (.int n6), .val (.int n9), .val (.int s14), .val (.int s19), .unset, .unset, .unset, .unset] [(.int (2 : Int32)), (.int (0 : Int32)), (.int n9), (.int (sbs >>> ((16 : Int32) &&& 31))), (.int (how >>> ((4 : Int32) &&& 31)))]
    refine w_icmp_le ok at_105 (pc' := 112) (by decide) (fun hc21 => ?_) (fun hc21 => False.elim (by revert hc21; decide))
    show W K l _ n0 _ h0 0 0 112 #[.val (.int ln), .val (.int nbs), .val (.int sbs), .val (.int how), .val (.int (0 : Int32)), .val (.int (0 : Int32)), .val (.int n3), .val (.int n6), .val (.int n9), .val (.int s14), .val (.int s19), .unset, .unset, .unset, .unset] [(.int n9), (.int (sbs >>> ((16 : Int32) &&& 31))), (.int (how >>> ((4 : Int32) &&& 31)))]
    refine w_iconst ok at_112 (v := (0 : Int32)) rfl ?_
    show W K l _ n0 _ h0 0 0 113 #[.val (.int ln), .val (.int nbs), .val (.int sbs), .val (.int how), .val (.int (0 : Int32)), .val (.int (0 : Int32)), .val (.int n3), .val (.int n6), .val (.int n9), .val (.int s14), .val (.int s19), .unset, .unset, .unset, .unset] [(.int (0 : Int32)), (.int n9), (.int (sbs >>> ((16 : Int32) &&& 31))), (.int (how >>> ((4 : Int32) &&& 31)))]
    refine w_callS ok (y := (⟨"com/example/turnstile/turnstile/server/CommandsIsPinLaw", "sentByte", "(IIBZ)B"⟩ : MethodName)) (argsL := [(.int (how >>> ((4 : Int32) &&& 31))), (.int (sbs >>> ((16 : Int32) &&& 31))), (.int n9), (.int (0 : Int32))]) (rest := []) at_113 (hw _ (List.mem_of_getElem? (i := 4) rfl)) (hw _ (List.mem_of_getElem? (i := 5) rfl)) (hw _ (List.mem_of_getElem? (i := 2) rfl)) (hw _ (List.mem_of_getElem? (i := 6) rfl)) (by decide) pd_28IIBZ29B rfl rfl (by decide) (Nat.le_of_ble_eq_true rfl) (by decide) (by decide) (fun z0 => rm_sb l Z a0 hw [] n0 h0 z0 (how >>> ((4 : Int32) &&& 31)) (sbs >>> ((16 : Int32) &&& 31)) n9 (0 : Int32)) (fun v22 h23 qv22 => ?_)
    obtain ⟨s24, rfl, h1_s24, rfl⟩ := qv22
    show W K l _ n0 _ h0 0 0 116 #[.val (.int ln), .val (.int nbs), .val (.int sbs), .val (.int how), .val (.int (0 : Int32)), .val (.int (0 : Int32)), .val (.int n3), .val (.int n6), .val (.int n9), .val (.int s14), .val (.int s19), .unset, .unset, .unset, .unset] [(.int s24)]
    refine w_istore ok at_116 (L' := #[.val (.int ln), .val (.int nbs), .val (.int sbs), .val (.int how), .val (.int (0 : Int32)), .val (.int (0 : Int32)), .val (.int n3), .val (.int n6), .val (.int n9), .val (.int s14), .val (.int s19), .val (.int s24), .unset, .unset, .unset]) rfl ?_
    show W K l _ n0 _ h0 0 0 118 #[.val (.int ln), .val (.int nbs), .val (.int sbs), .val (.int how), .val (.int (0 : Int32)), .val (.int (0 : Int32)), .val (.int n3), .val (.int n6), .val (.int n9), .val (.int s14), .val (.int s19), .val (.int s24), .unset, .unset, .unset] []
    refine w_iload ok at_118 rfl ?_
    show W K l _ n0 _ h0 0 0 120 #[.val (.int ln), .val (.int nbs), .val (.int sbs), .val (.int how), .val (.int (0 : Int32)), .val (.int (0 : Int32)), .val (.int n3), .val (.int n6), .val (.int n9), .val (.int s14), .val (.int s19), .val (.int s24), .unset, .unset, .unset] [(.int (0 : Int32))]
    refine w_iload ok at_120 rfl ?_
    show W K l _ n0 _ h0 0 0 122 #[.val (.int ln), .val (.int nbs), .val (.int sbs), .val (.int how), .val (.int (0 : Int32)), .val (.int (0 : Int32)), .val (.int n3), .val (.int n6), .val (.int n9), .val (.int s14), .val (.int s19), .val (.int s24), .unset, .unset, .unset] [(.int s14), (.int (0 : Int32))]
    refine w_iload ok at_122 rfl ?_
    show W K l _ n0 _ h0 0 0 124 #[.val (.int ln), .val (.int nbs), .val (.int sbs), .val (.int how), .val (.int (0 : Int32)), .val (.int (0 : Int32)), .val (.int n3), .val (.int n6), .val (.int n9), .val (.int s14), .val (.int s19), .val (.int s24), .unset, .unset, .unset] [(.int s19), (.int s14), (.int (0 : Int32))]
    refine w_iload ok at_124 rfl ?_
    show W K l _ n0 _ h0 0 0 126 #[.val (.int ln), .val (.int nbs), .val (.int sbs), .val (.int how), .val (.int (0 : Int32)), .val (.int (0 : Int32)), .val (.int n3), .val (.int n6), .val (.int n9), .val (.int s14), .val (.int s19), .val (.int s24), .unset, .unset, .unset] [(.int s24), (.int s19), (.int s14), (.int (0 : Int32))]
    refine w_callS ok (y := (⟨"com/example/turnstile/turnstile/server/CommandsIsPinLaw", "make", "(IBBB)[B"⟩ : MethodName)) (argsL := [(.int (0 : Int32)), (.int s14), (.int s19), (.int s24)]) (rest := []) at_126 (hw _ (List.mem_of_getElem? (i := 7) rfl)) (hw _ (List.mem_of_getElem? (i := 8) rfl)) (hw _ (List.mem_of_getElem? (i := 2) rfl)) (hw _ (List.mem_of_getElem? (i := 9) rfl)) (by decide) pd_28IBBB295bB rfl rfl (by decide) (Nat.le_of_ble_eq_true rfl) (by decide) (by decide) (fun z0 => rm_mk0 l Z a0 hw [] n0 h0 z0 s14 s19 s24) (fun v25 h26 qv25 => ?_)
    obtain ⟨r27, rfl, sz_r27, ge_r27, K1, A_r27⟩ := qv25
    show W K l _ n0 _ h26 1 0 129 #[.val (.int ln), .val (.int nbs), .val (.int sbs), .val (.int how), .val (.int (0 : Int32)), .val (.int (0 : Int32)), .val (.int n3), .val (.int n6), .val (.int n9), .val (.int s14), .val (.int s19), .val (.int s24), .unset, .unset, .unset] [(.ref r27)]
    refine w_astore ok at_129 rfl (L' := #[.val (.int ln), .val (.int nbs), .val (.int sbs), .val (.int how), .val (.int (0 : Int32)), .val (.int (0 : Int32)), .val (.int n3), .val (.int n6), .val (.int n9), .val (.int s14), .val (.int s19), .val (.int s24), .val (.ref r27), .unset, .unset]) rfl ?_
    show W K l _ n0 _ h26 1 0 131 #[.val (.int ln), .val (.int nbs), .val (.int sbs), .val (.int how), .val (.int (0 : Int32)), .val (.int (0 : Int32)), .val (.int n3), .val (.int n6), .val (.int n9), .val (.int s14), .val (.int s19), .val (.int s24), .val (.ref r27), .unset, .unset] []
    refine w_iload ok at_131 rfl ?_
    show W K l _ n0 _ h26 1 0 133 #[.val (.int ln), .val (.int nbs), .val (.int sbs), .val (.int how), .val (.int (0 : Int32)), .val (.int (0 : Int32)), .val (.int n3), .val (.int n6), .val (.int n9), .val (.int s14), .val (.int s19), .val (.int s24), .val (.ref r27), .unset, .unset] [(.int (0 : Int32))]
    refine w_iload ok at_133 rfl ?_
    show W K l _ n0 _ h26 1 0 135 #[.val (.int ln), .val (.int nbs), .val (.int sbs), .val (.int how), .val (.int (0 : Int32)), .val (.int (0 : Int32)), .val (.int n3), .val (.int n6), .val (.int n9), .val (.int s14), .val (.int s19), .val (.int s24), .val (.ref r27), .unset, .unset] [(.int n3), (.int (0 : Int32))]
    refine w_iload ok at_135 rfl ?_
    show W K l _ n0 _ h26 1 0 137 #[.val (.int ln), .val (.int nbs), .val (.int sbs), .val (.int how), .val (.int (0 : Int32)), .val (.int (0 : Int32)), .val (.int n3), .val (.int n6), .val (.int n9), .val (.int s14), .val (.int s19), .val (.int s24), .val (.ref r27), .unset, .unset] [(.int n6), (.int n3), (.int (0 : Int32))]
    refine w_iload ok at_137 rfl ?_
    show W K l _ n0 _ h26 1 0 139 #[.val (.int ln), .val (.int nbs), .val (.int sbs), .val (.int how), .val (.int (0 : Int32)), .val (.int (0 : Int32)), .val (.int n3), .val (.int n6), .val (.int n9), .val (.int s14), .val (.int s19), .val (.int s24), .val (.ref r27), .unset, .unset] [(.int n9), (.int n6), (.int n3), (.int (0 : Int32))]
    refine w_callS ok (y := (⟨"com/example/turnstile/turnstile/server/CommandsIsPinLaw", "make", "(IBBB)[B"⟩ : MethodName)) (argsL := [(.int (0 : Int32)), (.int n3), (.int n6), (.int n9)]) (rest := []) at_139 (hw _ (List.mem_of_getElem? (i := 7) rfl)) (hw _ (List.mem_of_getElem? (i := 8) rfl)) (hw _ (List.mem_of_getElem? (i := 2) rfl)) (hw _ (List.mem_of_getElem? (i := 9) rfl)) (by decide) pd_28IBBB295bB rfl rfl (by decide) (Nat.le_of_ble_eq_true rfl) (by decide) (by decide) (fun z0 => rm_mk0 l Z a0 hw [] n0 h26 z0 n3 n6 n9) (fun v28 h29 qv28 => ?_)
    obtain ⟨r30, rfl, sz_r30, ge_r30, K1, A_r30⟩ := qv28
    have ne_r27_r30 : r27 ≠ r30 := Nat.ne_of_lt (Nat.lt_of_lt_of_le A_r27.lt sz_r30)
    replace A_r27 := A_r27.keep K1 nin0
    show W K l _ n0 _ h29 2 0 142 #[.val (.int ln), .val (.int nbs), .val (.int sbs), .val (.int how), .val (.int (0 : Int32)), .val (.int (0 : Int32)), .val (.int n3), .val (.int n6), .val (.int n9), .val (.int s14), .val (.int s19), .val (.int s24), .val (.ref r27), .unset, .unset] [(.ref r30)]
    refine w_astore ok at_142 rfl (L' := #[.val (.int ln), .val (.int nbs), .val (.int sbs), .val (.int how), .val (.int (0 : Int32)), .val (.int (0 : Int32)), .val (.int n3), .val (.int n6), .val (.int n9), .val (.int s14), .val (.int s19), .val (.int s24), .val (.ref r27), .val (.ref r30), .unset]) rfl ?_
    show W K l _ n0 _ h29 2 0 144 #[.val (.int ln), .val (.int nbs), .val (.int sbs), .val (.int how), .val (.int (0 : Int32)), .val (.int (0 : Int32)), .val (.int n3), .val (.int n6), .val (.int n9), .val (.int s14), .val (.int s19), .val (.int s24), .val (.ref r27), .val (.ref r30), .unset] []
    refine w_iload ok at_144 rfl ?_
    show W K l _ n0 _ h29 2 0 146 #[.val (.int ln), .val (.int nbs), .val (.int sbs), .val (.int how), .val (.int (0 : Int32)), .val (.int (0 : Int32)), .val (.int n3), .val (.int n6), .val (.int n9), .val (.int s14), .val (.int s19), .val (.int s24), .val (.ref r27), .val (.ref r30), .unset] [(.int (0 : Int32))]
    refine w_iload ok at_146 rfl ?_
    show W K l _ n0 _ h29 2 0 148 #[.val (.int ln), .val (.int nbs), .val (.int sbs), .val (.int how), .val (.int (0 : Int32)), .val (.int (0 : Int32)), .val (.int n3), .val (.int n6), .val (.int n9), .val (.int s14), .val (.int s19), .val (.int s24), .val (.ref r27), .val (.ref r30), .unset] [(.int (0 : Int32)), (.int (0 : Int32))]
    refine w_icmp_ne ok at_148 (pc' := 203) (by decide) (fun hc32 => False.elim (by revert hc32; decide)) (fun hc32 => ?_)
    show W K l _ n0 _ h29 2 0 151 #[.val (.int ln), .val (.int nbs), .val (.int sbs), .val (.int how), .val (.int (0 : Int32)), .val (.int (0 : Int32)), .val (.int n3), .val (.int n6), .val (.int n9), .val (.int s14), .val (.int s19), .val (.int s24), .val (.ref r27), .val (.ref r30), .unset] []
    refine w_iload ok at_151 rfl ?_
    show W K l _ n0 _ h29 2 0 153 #[.val (.int ln), .val (.int nbs), .val (.int sbs), .val (.int how), .val (.int (0 : Int32)), .val (.int (0 : Int32)), .val (.int n3), .val (.int n6), .val (.int n9), .val (.int s14), .val (.int s19), .val (.int s24), .val (.ref r27), .val (.ref r30), .unset] [(.int (0 : Int32))]
    refine w_iconst ok at_153 (v := (1 : Int32)) rfl ?_
    show W K l _ n0 _ h29 2 0 154 #[.val (.int ln), .val (.int nbs), .val (.int sbs), .val (.int how), .val (.int (0 : Int32)), .val (.int (0 : Int32)), .val (.int n3), .val (.int n6), .val (.int n9), .val (.int s14), .val (.int s19), .val (.int s24), .val (.ref r27), .val (.ref r30), .unset] [(.int (1 : Int32)), (.int (0 : Int32))]
    refine w_icmp_lt ok at_154 (pc' := 167) (by decide) (fun hc34 => ?_) (fun hc34 => False.elim (by revert hc34; decide))
    show W K l _ n0 _ h29 2 0 167 #[.val (.int ln), .val (.int nbs), .val (.int sbs), .val (.int how), .val (.int (0 : Int32)), .val (.int (0 : Int32)), .val (.int n3), .val (.int n6), .val (.int n9), .val (.int s14), .val (.int s19), .val (.int s24), .val (.ref r27), .val (.ref r30), .unset] []
    refine w_iload ok at_167 rfl ?_
    show W K l _ n0 _ h29 2 0 169 #[.val (.int ln), .val (.int nbs), .val (.int sbs), .val (.int how), .val (.int (0 : Int32)), .val (.int (0 : Int32)), .val (.int n3), .val (.int n6), .val (.int n9), .val (.int s14), .val (.int s19), .val (.int s24), .val (.ref r27), .val (.ref r30), .unset] [(.int (0 : Int32))]
    refine w_iconst ok at_169 (v := (2 : Int32)) rfl ?_
    show W K l _ n0 _ h29 2 0 170 #[.val (.int ln), .val (.int nbs), .val (.int sbs), .val (.int how), .val (.int (0 : Int32)), .val (.int (0 : Int32)), .val (.int n3), .val (.int n6), .val (.int n9), .val (.int s14), .val (.int s19), .val (.int s24), .val (.ref r27), .val (.ref r30), .unset] [(.int (2 : Int32)), (.int (0 : Int32))]
    refine w_icmp_lt ok at_170 (pc' := 183) (by decide) (fun hc36 => ?_) (fun hc36 => False.elim (by revert hc36; decide))
    show W K l _ n0 _ h29 2 0 183 #[.val (.int ln), .val (.int nbs), .val (.int sbs), .val (.int how), .val (.int (0 : Int32)), .val (.int (0 : Int32)), .val (.int n3), .val (.int n6), .val (.int n9), .val (.int s14), .val (.int s19), .val (.int s24), .val (.ref r27), .val (.ref r30), .unset] []
    refine w_iload ok at_183 rfl ?_
    show W K l _ n0 _ h29 2 0 185 #[.val (.int ln), .val (.int nbs), .val (.int sbs), .val (.int how), .val (.int (0 : Int32)), .val (.int (0 : Int32)), .val (.int n3), .val (.int n6), .val (.int n9), .val (.int s14), .val (.int s19), .val (.int s24), .val (.ref r27), .val (.ref r30), .unset] [(.int (0 : Int32))]
    refine w_iconst ok at_185 (v := (3 : Int32)) rfl ?_
    show W K l _ n0 _ h29 2 0 186 #[.val (.int ln), .val (.int nbs), .val (.int sbs), .val (.int how), .val (.int (0 : Int32)), .val (.int (0 : Int32)), .val (.int n3), .val (.int n6), .val (.int n9), .val (.int s14), .val (.int s19), .val (.int s24), .val (.ref r27), .val (.ref r30), .unset] [(.int (3 : Int32)), (.int (0 : Int32))]
    refine w_icmp_lt ok at_186 (pc' := 199) (by decide) (fun hc38 => ?_) (fun hc38 => False.elim (by revert hc38; decide))
    show W K l _ n0 _ h29 2 0 199 #[.val (.int ln), .val (.int nbs), .val (.int sbs), .val (.int how), .val (.int (0 : Int32)), .val (.int (0 : Int32)), .val (.int n3), .val (.int n6), .val (.int n9), .val (.int s14), .val (.int s19), .val (.int s24), .val (.ref r27), .val (.ref r30), .unset] []
    refine w_iconst ok at_199 (v := (1 : Int32)) rfl ?_
    show W K l _ n0 _ h29 2 0 200 #[.val (.int ln), .val (.int nbs), .val (.int sbs), .val (.int how), .val (.int (0 : Int32)), .val (.int (0 : Int32)), .val (.int n3), .val (.int n6), .val (.int n9), .val (.int s14), .val (.int s19), .val (.int s24), .val (.ref r27), .val (.ref r30), .unset] [(.int (1 : Int32))]
    refine w_goto ok at_200 (pc' := 204) (by decide) ?_
    show W K l _ n0 _ h29 2 0 204 #[.val (.int ln), .val (.int nbs), .val (.int sbs), .val (.int how), .val (.int (0 : Int32)), .val (.int (0 : Int32)), .val (.int n3), .val (.int n6), .val (.int n9), .val (.int s14), .val (.int s19), .val (.int s24), .val (.ref r27), .val (.ref r30), .unset] [(.int (1 : Int32))]
    refine w_istore ok at_204 (L' := #[.val (.int ln), .val (.int nbs), .val (.int sbs), .val (.int how), .val (.int (0 : Int32)), .val (.int (0 : Int32)), .val (.int n3), .val (.int n6), .val (.int n9), .val (.int s14), .val (.int s19), .val (.int s24), .val (.ref r27), .val (.ref r30), .val (.int (1 : Int32))]) rfl ?_
    show W K l _ n0 _ h29 2 0 206 #[.val (.int ln), .val (.int nbs), .val (.int sbs), .val (.int how), .val (.int (0 : Int32)), .val (.int (0 : Int32)), .val (.int n3), .val (.int n6), .val (.int n9), .val (.int s14), .val (.int s19), .val (.int s24), .val (.ref r27), .val (.ref r30), .val (.int (1 : Int32))] []
    refine w_aload ok at_206 rfl rfl ?_
    show W K l _ n0 _ h29 2 0 208 #[.val (.int ln), .val (.int nbs), .val (.int sbs), .val (.int how), .val (.int (0 : Int32)), .val (.int (0 : Int32)), .val (.int n3), .val (.int n6), .val (.int n9), .val (.int s14), .val (.int s19), .val (.int s24), .val (.ref r27), .val (.ref r30), .val (.int (1 : Int32))] [(.ref r27)]
    refine w_aload ok at_208 rfl rfl ?_
    show W K l _ n0 _ h29 2 0 210 #[.val (.int ln), .val (.int nbs), .val (.int sbs), .val (.int how), .val (.int (0 : Int32)), .val (.int (0 : Int32)), .val (.int n3), .val (.int n6), .val (.int n9), .val (.int s14), .val (.int s19), .val (.int s24), .val (.ref r27), .val (.ref r30), .val (.int (1 : Int32))] [(.ref r30), (.ref r27)]
    refine w_callS ok (y := (⟨"com/example/turnstile/turnstile/server/Commands", "is", "([B[B)Z"⟩ : MethodName)) (argsL := [(.ref r27), (.ref r30)]) (rest := []) at_210 (hw _ (List.mem_of_getElem? (i := 11) rfl)) (hw _ (List.mem_of_getElem? (i := 12) rfl)) (hw _ (List.mem_of_getElem? (i := 13) rfl)) (hw _ (List.mem_of_getElem? (i := 14) rfl)) (by decide) pd_285bB5bB29Z rfl rfl (by decide) (Nat.le_of_ble_eq_true rfl) (by decide) (by decide) (fun z0 => rm_is l Z a0 hw [] n0 h29 z0 r27 r30 [] [] A_r27 A_r30) (fun v39 h40 qv39 => ?_)
    obtain ⟨rfl, rfl⟩ := qv39
    show W K l _ n0 _ h29 2 0 213 #[.val (.int ln), .val (.int nbs), .val (.int sbs), .val (.int how), .val (.int (0 : Int32)), .val (.int (0 : Int32)), .val (.int n3), .val (.int n6), .val (.int n9), .val (.int s14), .val (.int s19), .val (.int s24), .val (.ref r27), .val (.ref r30), .val (.int (1 : Int32))] [(.int (nar .boolean (own_isl [] [])))]
    refine w_iload ok at_213 rfl ?_
    show W K l _ n0 _ h29 2 0 215 #[.val (.int ln), .val (.int nbs), .val (.int sbs), .val (.int how), .val (.int (0 : Int32)), .val (.int (0 : Int32)), .val (.int n3), .val (.int n6), .val (.int n9), .val (.int s14), .val (.int s19), .val (.int s24), .val (.ref r27), .val (.ref r30), .val (.int (1 : Int32))] [(.int (1 : Int32)), (.int (nar .boolean (own_isl [] [])))]
    refine w_icmp_ne ok at_215 (pc' := 222) (by decide) (fun hc42 => False.elim (by exact hc42 (by skip <;> rfl))) (fun hc42 => ?_)
    show W K l _ n0 _ h29 2 0 218 #[.val (.int ln), .val (.int nbs), .val (.int sbs), .val (.int how), .val (.int (0 : Int32)), .val (.int (0 : Int32)), .val (.int n3), .val (.int n6), .val (.int n9), .val (.int s14), .val (.int s19), .val (.int s24), .val (.ref r27), .val (.ref r30), .val (.int (1 : Int32))] []
    refine w_iconst ok at_218 (v := (1 : Int32)) rfl ?_
    show W K l _ n0 _ h29 2 0 219 #[.val (.int ln), .val (.int nbs), .val (.int sbs), .val (.int how), .val (.int (0 : Int32)), .val (.int (0 : Int32)), .val (.int n3), .val (.int n6), .val (.int n9), .val (.int s14), .val (.int s19), .val (.int s24), .val (.ref r27), .val (.ref r30), .val (.int (1 : Int32))] [(.int (1 : Int32))]
    refine w_goto ok at_219 (pc' := 223) (by decide) ?_
    show W K l _ n0 _ h29 2 0 223 #[.val (.int ln), .val (.int nbs), .val (.int sbs), .val (.int how), .val (.int (0 : Int32)), .val (.int (0 : Int32)), .val (.int n3), .val (.int n6), .val (.int n9), .val (.int s14), .val (.int s19), .val (.int s24), .val (.ref r27), .val (.ref r30), .val (.int (1 : Int32))] [(.int (1 : Int32))]
    refine w_bret ok (by simp) at_223 (by decide) (by decide) ?_
    exact rfl
  · skip
    show W K l _ n0 _ h0 0 0 25 #[.val (.int ln), .val (.int nbs), .val (.int sbs), .val (.int how), .val (.int (0 : Int32)), .val (.int (1 : Int32)), .unset, .unset, .unset, .unset, .unset, .unset, .unset, .unset, .unset] []
    refine w_iloadN ok at_25 rfl ?_
    show W K l _ n0 _ h0 0 0 26 #[.val (.int ln), .val (.int nbs), .val (.int sbs), .val (.int how), .val (.int (0 : Int32)), .val (.int (1 : Int32)), .unset, .unset, .unset, .unset, .unset, .unset, .unset, .unset, .unset] [(.int nbs)]
    refine w_callS ok (y := (⟨"com/example/turnstile/turnstile/server/CommandsIsPinLaw", "nameByte", "(I)B"⟩ : MethodName)) (argsL := [(.int nbs)]) (rest := []) at_26 (hw _ (List.mem_of_getElem? (i := 0) rfl)) (hw _ (List.mem_of_getElem? (i := 1) rfl)) (hw _ (List.mem_of_getElem? (i := 2) rfl)) (hw _ (List.mem_of_getElem? (i := 3) rfl)) (by decide) pd_28I29B rfl rfl (by decide) (Nat.le_of_ble_eq_true rfl) (by decide) (by decide) (fun z0 => rm_nb l Z a0 hw [] n0 h0 z0 nbs) (fun v43 h44 qv43 => ?_)
    obtain ⟨n45, rfl, h1_n45, h2_n45, rfl⟩ := qv43
    show W K l _ n0 _ h0 0 0 29 #[.val (.int ln), .val (.int nbs), .val (.int sbs), .val (.int how), .val (.int (0 : Int32)), .val (.int (1 : Int32)), .unset, .unset, .unset, .unset, .unset, .unset, .unset, .unset, .unset] [(.int n45)]
    refine w_istore ok at_29 (L' := #[.val (.int ln), .val (.int nbs), .val (.int sbs), .val (.int how), .val (.int (0 : Int32)), .val (.int (1 : Int32)), .val (.int n45), .unset, .unset, .unset, .unset, .unset, .unset, .unset, .unset]) rfl ?_
    show W K l _ n0 _ h0 0 0 31 #[.val (.int ln), .val (.int nbs), .val (.int sbs), .val (.int how), .val (.int (0 : Int32)), .val (.int (1 : Int32)), .val (.int n45), .unset, .unset, .unset, .unset, .unset, .unset, .unset, .unset] []
    refine w_iloadN ok at_31 rfl ?_
    show W K l _ n0 _ h0 0 0 32 #[.val (.int ln), .val (.int nbs), .val (.int sbs), .val (.int how), .val (.int (0 : Int32)), .val (.int (1 : Int32)), .val (.int n45), .unset, .unset, .unset, .unset, .unset, .unset, .unset, .unset] [(.int nbs)]
    refine w_bipush ok at_32 (v := (8 : Int32)) rfl ?_
    show W K l _ n0 _ h0 0 0 34 #[.val (.int ln), .val (.int nbs), .val (.int sbs), .val (.int how), .val (.int (0 : Int32)), .val (.int (1 : Int32)), .val (.int n45), .unset, .unset, .unset, .unset, .unset, .unset, .unset, .unset] [(.int (8 : Int32)), (.int nbs)]
    refine w_ishr ok at_34 ?_
    show W K l _ n0 _ h0 0 0 35 #[.val (.int ln), .val (.int nbs), .val (.int sbs), .val (.int how), .val (.int (0 : Int32)), .val (.int (1 : Int32)), .val (.int n45), .unset, .unset, .unset, .unset, .unset, .unset, .unset, .unset] [(.int (nbs >>> ((8 : Int32) &&& 31)))]
    refine w_callS ok (y := (⟨"com/example/turnstile/turnstile/server/CommandsIsPinLaw", "nameByte", "(I)B"⟩ : MethodName)) (argsL := [(.int (nbs >>> ((8 : Int32) &&& 31)))]) (rest := []) at_35 (hw _ (List.mem_of_getElem? (i := 0) rfl)) (hw _ (List.mem_of_getElem? (i := 1) rfl)) (hw _ (List.mem_of_getElem? (i := 2) rfl)) (hw _ (List.mem_of_getElem? (i := 3) rfl)) (by decide) pd_28I29B rfl rfl (by decide) (Nat.le_of_ble_eq_true rfl) (by decide) (by decide) (fun z0 => rm_nb l Z a0 hw [] n0 h0 z0 (nbs >>> ((8 : Int32) &&& 31))) (fun v46 h47 qv46 => ?_)
    obtain ⟨n48, rfl, h1_n48, h2_n48, rfl⟩ := qv46
    show W K l _ n0 _ h0 0 0 38 #[.val (.int ln), .val (.int nbs), .val (.int sbs), .val (.int how), .val (.int (0 : Int32)), .val (.int (1 : Int32)), .val (.int n45), .unset, .unset, .unset, .unset, .unset, .unset, .unset, .unset] [(.int n48)]
    refine w_istore ok at_38 (L' := #[.val (.int ln), .val (.int nbs), .val (.int sbs), .val (.int how), .val (.int (0 : Int32)), .val (.int (1 : Int32)), .val (.int n45), .val (.int n48), .unset, .unset, .unset, .unset, .unset, .unset, .unset]) rfl ?_
    show W K l _ n0 _ h0 0 0 40 #[.val (.int ln), .val (.int nbs), .val (.int sbs), .val (.int how), .val (.int (0 : Int32)), .val (.int (1 : Int32)), .val (.int n45), .val (.int n48), .unset, .unset, .unset, .unset, .unset, .unset, .unset] []
    refine w_iloadN ok at_40 rfl ?_
    show W K l _ n0 _ h0 0 0 41 #[.val (.int ln), .val (.int nbs), .val (.int sbs), .val (.int how), .val (.int (0 : Int32)), .val (.int (1 : Int32)), .val (.int n45), .val (.int n48), .unset, .unset, .unset, .unset, .unset, .unset, .unset] [(.int nbs)]
    refine w_bipush ok at_41 (v := (16 : Int32)) rfl ?_
    show W K l _ n0 _ h0 0 0 43 #[.val (.int ln), .val (.int nbs), .val (.int sbs), .val (.int how), .val (.int (0 : Int32)), .val (.int (1 : Int32)), .val (.int n45), .val (.int n48), .unset, .unset, .unset, .unset, .unset, .unset, .unset] [(.int (16 : Int32)), (.int nbs)]
    refine w_ishr ok at_43 ?_
    show W K l _ n0 _ h0 0 0 44 #[.val (.int ln), .val (.int nbs), .val (.int sbs), .val (.int how), .val (.int (0 : Int32)), .val (.int (1 : Int32)), .val (.int n45), .val (.int n48), .unset, .unset, .unset, .unset, .unset, .unset, .unset] [(.int (nbs >>> ((16 : Int32) &&& 31)))]
    refine w_callS ok (y := (⟨"com/example/turnstile/turnstile/server/CommandsIsPinLaw", "nameByte", "(I)B"⟩ : MethodName)) (argsL := [(.int (nbs >>> ((16 : Int32) &&& 31)))]) (rest := []) at_44 (hw _ (List.mem_of_getElem? (i := 0) rfl)) (hw _ (List.mem_of_getElem? (i := 1) rfl)) (hw _ (List.mem_of_getElem? (i := 2) rfl)) (hw _ (List.mem_of_getElem? (i := 3) rfl)) (by decide) pd_28I29B rfl rfl (by decide) (Nat.le_of_ble_eq_true rfl) (by decide) (by decide) (fun z0 => rm_nb l Z a0 hw [] n0 h0 z0 (nbs >>> ((16 : Int32) &&& 31))) (fun v49 h50 qv49 => ?_)
    obtain ⟨n51, rfl, h1_n51, h2_n51, rfl⟩ := qv49
    show W K l _ n0 _ h0 0 0 47 #[.val (.int ln), .val (.int nbs), .val (.int sbs), .val (.int how), .val (.int (0 : Int32)), .val (.int (1 : Int32)), .val (.int n45), .val (.int n48), .unset, .unset, .unset, .unset, .unset, .unset, .unset] [(.int n51)]
    refine w_istore ok at_47 (L' := #[.val (.int ln), .val (.int nbs), .val (.int sbs), .val (.int how), .val (.int (0 : Int32)), .val (.int (1 : Int32)), .val (.int n45), .val (.int n48), .val (.int n51), .unset, .unset, .unset, .unset, .unset, .unset]) rfl ?_
    show W K l _ n0 _ h0 0 0 49 #[.val (.int ln), .val (.int nbs), .val (.int sbs), .val (.int how), .val (.int (0 : Int32)), .val (.int (1 : Int32)), .val (.int n45), .val (.int n48), .val (.int n51), .unset, .unset, .unset, .unset, .unset, .unset] []
    refine w_iloadN ok at_49 rfl ?_
    show W K l _ n0 _ h0 0 0 50 #[.val (.int ln), .val (.int nbs), .val (.int sbs), .val (.int how), .val (.int (0 : Int32)), .val (.int (1 : Int32)), .val (.int n45), .val (.int n48), .val (.int n51), .unset, .unset, .unset, .unset, .unset, .unset] [(.int how)]
    refine w_iloadN ok at_50 rfl ?_
    show W K l _ n0 _ h0 0 0 51 #[.val (.int ln), .val (.int nbs), .val (.int sbs), .val (.int how), .val (.int (0 : Int32)), .val (.int (1 : Int32)), .val (.int n45), .val (.int n48), .val (.int n51), .unset, .unset, .unset, .unset, .unset, .unset] [(.int sbs), (.int how)]
    refine w_iload ok at_51 rfl ?_
    show W K l _ n0 _ h0 0 0 53 #[.val (.int ln), .val (.int nbs), .val (.int sbs), .val (.int how), .val (.int (0 : Int32)), .val (.int (1 : Int32)), .val (.int n45), .val (.int n48), .val (.int n51), .unset, .unset, .unset, .unset, .unset, .unset] [(.int n45), (.int sbs), (.int how)]
    refine w_iload ok at_53 rfl ?_
    show W K l _ n0 _ h0 0 0 55 #[.val (.int ln), .val (.int nbs), .val (.int sbs), .val (.int how), .val (.int (0 : Int32)), .val (.int (1 : Int32)), .val (.int n45), .val (.int n48), .val (.int n51), .unset, .unset, .unset, .unset, .unset, .unset] [(.int (1 : Int32)), (.int n45), (.int sbs), (.int how)]
    refine w_if_le ok at_55 (pc' := 62) (by decide) (fun hc53 => False.elim (by revert hc53; decide)) (fun hc53 => ?_)
    show W K l _ n0 _ h0 0 0 58 #[.val (.int ln), .val (.int nbs), .val (.int sbs), .val (.int how), .val (.int (0 : Int32)), .val (.int (1 : Int32)), .val (.int n45), .val (.int n48), .val (.int n51), .unset, .unset, .unset, .unset, .unset, .unset] [(.int n45), (.int sbs), (.int how)]
    refine w_iconst ok at_58 (v := (1 : Int32)) rfl ?_
    show W K l _ n0 _ h0 0 0 59 #[.val (.int ln), .val (.int nbs), .val (.int sbs), .val (.int how), .val (.int (0 : Int32)), .val (.int (1 : Int32)), .val (.int n45), .val (.int n48), .val (.int n51), .unset, .unset, .unset, .unset, .unset, .unset] [(.int (1 : Int32)), (.int n45), (.int sbs), (.int how)]
    refine w_goto ok at_59 (pc' := 63) (by decide) ?_
    show W K l _ n0 _ h0 0 0 63 #[.val (.int ln), .val (.int nbs), .val (.int sbs), .val (.int how), .val (.int (0 : Int32)), .val (.int (1 : Int32)), .val (.int n45), .val (.int n48), .val (.int n51), .unset, .unset, .unset, .unset, .unset, .unset] [(.int (1 : Int32)), (.int n45), (.int sbs), (.int how)]
    refine w_callS ok (y := (⟨"com/example/turnstile/turnstile/server/CommandsIsPinLaw", "sentByte", "(IIBZ)B"⟩ : MethodName)) (argsL := [(.int how), (.int sbs), (.int n45), (.int (1 : Int32))]) (rest := []) at_63 (hw _ (List.mem_of_getElem? (i := 4) rfl)) (hw _ (List.mem_of_getElem? (i := 5) rfl)) (hw _ (List.mem_of_getElem? (i := 2) rfl)) (hw _ (List.mem_of_getElem? (i := 6) rfl)) (by decide) pd_28IIBZ29B rfl rfl (by decide) (Nat.le_of_ble_eq_true rfl) (by decide) (by decide) (fun z0 => rm_sb l Z a0 hw [] n0 h0 z0 how sbs n45 (1 : Int32)) (fun v54 h55 qv54 => ?_)
    obtain ⟨s56, rfl, h1_s56, rfl⟩ := qv54
    show W K l _ n0 _ h0 0 0 66 #[.val (.int ln), .val (.int nbs), .val (.int sbs), .val (.int how), .val (.int (0 : Int32)), .val (.int (1 : Int32)), .val (.int n45), .val (.int n48), .val (.int n51), .unset, .unset, .unset, .unset, .unset, .unset] [(.int s56)]
    refine w_istore ok at_66 (L' := #[.val (.int ln), .val (.int nbs), .val (.int sbs), .val (.int how), .val (.int (0 : Int32)), .val (.int (1 : Int32)), .val (.int n45), .val (.int n48), .val (.int n51), .val (.int s56), .unset, .unset, .unset, .unset, .unset]) rfl ?_
    show W K l _ n0 _ h0 0 0 68 #[.val (.int ln), .val (.int nbs), .val (.int sbs), .val (.int how), .val (.int (0 : Int32)), .val (.int (1 : Int32)), .val (.int n45), .val (.int n48), .val (.int n51), .val (.int s56), .unset, .unset, .unset, .unset, .unset] []
    refine w_iloadN ok at_68 rfl ?_
    show W K l _ n0 _ h0 0 0 69 #[.val (.int ln), .val (.int nbs), .val (.int sbs), .val (.int how), .val (.int (0 : Int32)), .val (.int (1 : Int32)), .val (.int n45), .val (.int n48), .val (.int n51), .val (.int s56), .unset, .unset, .unset, .unset, .unset] [(.int how)]
    refine w_iconst ok at_69 (v := (2 : Int32)) rfl ?_
    show W K l _ n0 _ h0 0 0 70 #[.val (.int ln), .val (.int nbs), .val (.int sbs), .val (.int how), .val (.int (0 : Int32)), .val (.int (1 : Int32)), .val (.int n45), .val (.int n48), .val (.int n51), .val (.int s56), .unset, .unset, .unset, .unset, .unset] [(.int (2 : Int32)), (.int how)]
    refine w_ishr ok at_70 ?_
    show W K l _ n0 _ h0 0 0 71 #[.val (.int ln), .val (.int nbs), .val (.int sbs), .val (.int how), .val (.int (0 : Int32)), .val (.int (1 : Int32)), .val (.int n45), .val (.int n48), .val (.int n51), .val (.int s56), .unset, .unset, .unset, .unset, .unset] [(.int (how >>> ((2 : Int32) &&& 31)))]
    refine w_iloadN ok at_71 rfl ?_
    show W K l _ n0 _ h0 0 0 72 #[.val (.int ln), .val (.int nbs), .val (.int sbs), .val (.int how), .val (.int (0 : Int32)), .val (.int (1 : Int32)), .val (.int n45), .val (.int n48), .val (.int n51), .val (.int s56), .unset, .unset, .unset, .unset, .unset] [(.int sbs), (.int (how >>> ((2 : Int32) &&& 31)))]
    refine w_bipush ok at_72 (v := (8 : Int32)) rfl ?_
    show W K l _ n0 _ h0 0 0 74 #[.val (.int ln), .val (.int nbs), .val (.int sbs), .val (.int how), .val (.int (0 : Int32)), .val (.int (1 : Int32)), .val (.int n45), .val (.int n48), .val (.int n51), .val (.int s56), .unset, .unset, .unset, .unset, .unset] [(.int (8 : Int32)), (.int sbs), (.int (how >>> ((2 : Int32) &&& 31)))]
    refine w_ishr ok at_74 ?_
    show W K l _ n0 _ h0 0 0 75 #[.val (.int ln), .val (.int nbs), .val (.int sbs), .val (.int how), .val (.int (0 : Int32)), .val (.int (1 : Int32)), .val (.int n45), .val (.int n48), .val (.int n51), .val (.int s56), .unset, .unset, .unset, .unset, .unset] [(.int (sbs >>> ((8 : Int32) &&& 31))), (.int (how >>> ((2 : Int32) &&& 31)))]
    refine w_iload ok at_75 rfl ?_
    show W K l _ n0 _ h0 0 0 77 #[.val (.int ln), .val (.int nbs), .val (.int sbs), .val (.int how), .val (.int (0 : Int32)), .val (.int (1 : Int32)), .val (.int n45), .val (.int n48), .val (.int n51), .val (.int s56), .unset, .unset, .unset, .unset, .unset] [(.int n48), (.int (sbs >>> ((8 : Int32) &&& 31))), (.int (how >>> ((2 : Int32) &&& 31)))]
    refine w_iload ok at_77 rfl ?_
    show W K l _ n0 _ h0 0 0 79 #[.val (.int ln), .val (.int nbs), .val (.int sbs), .val (.int how), .val (.int (0 : Int32)), .val (.int (1 : Int32)), .val (.int n45), .val (.int n48), .val (.int n51), .val (.int s56), .unset, .unset, .unset, .unset, .unset] [(.int (1 : Int32)), (.int n48), (.int (sbs >>> ((8 : Int32) &&& 31))), (.int (how >>> ((2 : Int32) &&& 31)))]
    refine w_iconst ok at_79 (v := (1 : Int32)) rfl ?_
    show W K l _ n0 _ h0 0 0 80 #[.val (.int ln), .val (.int nbs), .val (.int sbs), .val (.int how), .val (.int (0 : Int32)), .val (.int (1 : Int32)), .val (.int n45), .val (.int n48), .val (.int n51), .val (.int s56), .unset, .unset, .unset, .unset, .unset] [(.int (1 : Int32)), (.int (1 : Int32)), (.int n48), (.int (sbs >>> ((8 : Int32) &&& 31))), (.int (how >>> ((2 : Int32) &&& 31)))]
    refine w_icmp_le ok at_80 (pc' := 87) (by decide) (fun hc58 => ?_) (fun hc58 => False.elim (by revert hc58; decide))
    show W K l _ n0 _ h0 0 0 87 #[.val (.int ln), .val (.int nbs), .val (.int sbs), .val (.int how), .val (.int (0 : Int32)), .val (.int (1 : Int32)), .val (.int n45), .val (.int n48), .val (.int n51), .val (.int s56), .unset, .unset, .unset, .unset, .unset] [(.int n48), (.int (sbs >>> ((8 : Int32) &&& 31))), (.int (how >>> ((2 : Int32) &&& 31)))]
    refine w_iconst ok at_87 (v := (0 : Int32)) rfl ?_
    show W K l _ n0 _ h0 0 0 88 #[.val (.int ln), .val (.int nbs), .val (.int sbs), .val (.int how), .val (.int (0 : Int32)), .val (.int (1 : Int32)), .val (.int n45), .val (.int n48), .val (.int n51), .val (.int s56), .unset, .unset, .unset, .unset, .unset] [(.int (0 : Int32)), (.int n48), (.int (sbs >>> ((8 : Int32) &&& 31))), (.int (how >>> ((2 : Int32) &&& 31)))]
    refine w_callS ok (y := (⟨"com/example/turnstile/turnstile/server/CommandsIsPinLaw", "sentByte", "(IIBZ)B"⟩ : MethodName)) (argsL := [(.int (how >>> ((2 : Int32) &&& 31))), (.int (sbs >>> ((8 : Int32) &&& 31))), (.int n48), (.int (0 : Int32))]) (rest := []) at_88 (hw _ (List.mem_of_getElem? (i := 4) rfl)) (hw _ (List.mem_of_getElem? (i := 5) rfl)) (hw _ (List.mem_of_getElem? (i := 2) rfl)) (hw _ (List.mem_of_getElem? (i := 6) rfl)) (by decide) pd_28IIBZ29B rfl rfl (by decide) (Nat.le_of_ble_eq_true rfl) (by decide) (by decide) (fun z0 => rm_sb l Z a0 hw [] n0 h0 z0 (how >>> ((2 : Int32) &&& 31)) (sbs >>> ((8 : Int32) &&& 31)) n48 (0 : Int32)) (fun v59 h60 qv59 => ?_)
    obtain ⟨s61, rfl, h1_s61, rfl⟩ := qv59
    show W K l _ n0 _ h0 0 0 91 #[.val (.int ln), .val (.int nbs), .val (.int sbs), .val (.int how), .val (.int (0 : Int32)), .val (.int (1 : Int32)), .val (.int n45), .val (.int n48), .val (.int n51), .val (.int s56), .unset, .unset, .unset, .unset, .unset] [(.int s61)]
    refine w_istore ok at_91 (L' := #[.val (.int ln), .val (.int nbs), .val (.int sbs), .val (.int how), .val (.int (0 : Int32)), .val (.int (1 : Int32)), .val (.int n45), .val (.int n48), .val (.int n51), .val (.int s56), .val (.int s61), .unset, .unset, .unset, .unset]) rfl ?_
    show W K l _ n0 _ h0 0 0 93 #[.val (.int ln), .val (.int nbs), .val (.int sbs), .val (.int how), .val (.int (0 : Int32)), .val (.int (1 : Int32)), .val (.int n45), .val (.int n48), .val (.int n51), .val (.int s56), .val (.int s61), .unset, .unset, .unset, .unset] []
    refine w_iloadN ok at_93 rfl ?_
    show W K l _ n0 _ h0 0 0 94 #[.val (.int ln), .val (.int nbs), .val (.int sbs), .val (.int how), .val (.int (0 : Int32)), .val (.int (1 : Int32)), .val (.int n45), .val (.int n48), .val (.int n51), .val (.int s56), .val (.int s61), .unset, .unset, .unset, .unset] [(.int how)]
    refine w_iconst ok at_94 (v := (4 : Int32)) rfl ?_
    show W K l _ n0 _ h0 0 0 95 #[.val (.int ln), .val (.int nbs), .val (.int sbs), .val (.int how), .val (.int (0 : Int32)), .val (.int (1 : Int32)), .val (.int n45), .val (.int n48), .val (.int n51), .val (.int s56), .val (.int s61), .unset, .unset, .unset, .unset] [(.int (4 : Int32)), (.int how)]
    refine w_ishr ok at_95 ?_
    show W K l _ n0 _ h0 0 0 96 #[.val (.int ln), .val (.int nbs), .val (.int sbs), .val (.int how), .val (.int (0 : Int32)), .val (.int (1 : Int32)), .val (.int n45), .val (.int n48), .val (.int n51), .val (.int s56), .val (.int s61), .unset, .unset, .unset, .unset] [(.int (how >>> ((4 : Int32) &&& 31)))]
    refine w_iloadN ok at_96 rfl ?_
    show W K l _ n0 _ h0 0 0 97 #[.val (.int ln), .val (.int nbs), .val (.int sbs), .val (.int how), .val (.int (0 : Int32)), .val (.int (1 : Int32)), .val (.int n45), .val (.int n48), .val (.int n51), .val (.int s56), .val (.int s61), .unset, .unset, .unset, .unset] [(.int sbs), (.int (how >>> ((4 : Int32) &&& 31)))]
    refine w_bipush ok at_97 (v := (16 : Int32)) rfl ?_
    show W K l _ n0 _ h0 0 0 99 #[.val (.int ln), .val (.int nbs), .val (.int sbs), .val (.int how), .val (.int (0 : Int32)), .val (.int (1 : Int32)), .val (.int n45), .val (.int n48), .val (.int n51), .val (.int s56), .val (.int s61), .unset, .unset, .unset, .unset] [(.int (16 : Int32)), (.int sbs), (.int (how >>> ((4 : Int32) &&& 31)))]
    refine w_ishr ok at_99 ?_
    show W K l _ n0 _ h0 0 0 100 #[.val (.int ln), .val (.int nbs), .val (.int sbs), .val (.int how), .val (.int (0 : Int32)), .val (.int (1 : Int32)), .val (.int n45), .val (.int n48), .val (.int n51), .val (.int s56), .val (.int s61), .unset, .unset, .unset, .unset] [(.int (sbs >>> ((16 : Int32) &&& 31))), (.int (how >>> ((4 : Int32) &&& 31)))]
    refine w_iload ok at_100 rfl ?_
    show W K l _ n0 _ h0 0 0 102 #[.val (.int ln), .val (.int nbs), .val (.int sbs), .val (.int how), .val (.int (0 : Int32)), .val (.int (1 : Int32)), .val (.int n45), .val (.int n48), .val (.int n51), .val (.int s56), .val (.int s61), .unset, .unset, .unset, .unset] [(.int n51), (.int (sbs >>> ((16 : Int32) &&& 31))), (.int (how >>> ((4 : Int32) &&& 31)))]
    refine w_iload ok at_102 rfl ?_
    show W K l _ n0 _ h0 0 0 104 #[.val (.int ln), .val (.int nbs), .val (.int sbs), .val (.int how), .val (.int (0 : Int32)), .val (.int (1 : Int32)), .val (.int n45), .val (.int n48), .val (.int n51), .val (.int s56), .val (.int s61), .unset, .unset, .unset, .unset] [(.int (1 : Int32)), (.int n51), (.int (sbs >>> ((16 : Int32) &&& 31))), (.int (how >>> ((4 : Int32) &&& 31)))]
    refine w_iconst ok at_104 (v := (2 : Int32)) rfl ?_
    show W K l _ n0 _ h0 0 0 105 #[.val (.int ln), .val (.int nbs), .val (.int sbs), .val (.int how), .val (.int (0 : Int32)), .val (.int (1 : Int32)), .val (.int n45), .val (.int n48), .val (.int n51), .val (.int s56), .val (.int s61), .unset, .unset, .unset, .unset] [(.int (2 : Int32)), (.int (1 : Int32)), (.int n51), (.int (sbs >>> ((16 : Int32) &&& 31))), (.int (how >>> ((4 : Int32) &&& 31)))]
    refine w_icmp_le ok at_105 (pc' := 112) (by decide) (fun hc63 => ?_) (fun hc63 => False.elim (by revert hc63; decide))
    show W K l _ n0 _ h0 0 0 112 #[.val (.int ln), .val (.int nbs), .val (.int sbs), .val (.int how), .val (.int (0 : Int32)), .val (.int (1 : Int32)), .val (.int n45), .val (.int n48), .val (.int n51), .val (.int s56), .val (.int s61), .unset, .unset, .unset, .unset] [(.int n51), (.int (sbs >>> ((16 : Int32) &&& 31))), (.int (how >>> ((4 : Int32) &&& 31)))]
    refine w_iconst ok at_112 (v := (0 : Int32)) rfl ?_
    show W K l _ n0 _ h0 0 0 113 #[.val (.int ln), .val (.int nbs), .val (.int sbs), .val (.int how), .val (.int (0 : Int32)), .val (.int (1 : Int32)), .val (.int n45), .val (.int n48), .val (.int n51), .val (.int s56), .val (.int s61), .unset, .unset, .unset, .unset] [(.int (0 : Int32)), (.int n51), (.int (sbs >>> ((16 : Int32) &&& 31))), (.int (how >>> ((4 : Int32) &&& 31)))]
    refine w_callS ok (y := (⟨"com/example/turnstile/turnstile/server/CommandsIsPinLaw", "sentByte", "(IIBZ)B"⟩ : MethodName)) (argsL := [(.int (how >>> ((4 : Int32) &&& 31))), (.int (sbs >>> ((16 : Int32) &&& 31))), (.int n51), (.int (0 : Int32))]) (rest := []) at_113 (hw _ (List.mem_of_getElem? (i := 4) rfl)) (hw _ (List.mem_of_getElem? (i := 5) rfl)) (hw _ (List.mem_of_getElem? (i := 2) rfl)) (hw _ (List.mem_of_getElem? (i := 6) rfl)) (by decide) pd_28IIBZ29B rfl rfl (by decide) (Nat.le_of_ble_eq_true rfl) (by decide) (by decide) (fun z0 => rm_sb l Z a0 hw [] n0 h0 z0 (how >>> ((4 : Int32) &&& 31)) (sbs >>> ((16 : Int32) &&& 31)) n51 (0 : Int32)) (fun v64 h65 qv64 => ?_)
    obtain ⟨s66, rfl, h1_s66, rfl⟩ := qv64
    show W K l _ n0 _ h0 0 0 116 #[.val (.int ln), .val (.int nbs), .val (.int sbs), .val (.int how), .val (.int (0 : Int32)), .val (.int (1 : Int32)), .val (.int n45), .val (.int n48), .val (.int n51), .val (.int s56), .val (.int s61), .unset, .unset, .unset, .unset] [(.int s66)]
    refine w_istore ok at_116 (L' := #[.val (.int ln), .val (.int nbs), .val (.int sbs), .val (.int how), .val (.int (0 : Int32)), .val (.int (1 : Int32)), .val (.int n45), .val (.int n48), .val (.int n51), .val (.int s56), .val (.int s61), .val (.int s66), .unset, .unset, .unset]) rfl ?_
    show W K l _ n0 _ h0 0 0 118 #[.val (.int ln), .val (.int nbs), .val (.int sbs), .val (.int how), .val (.int (0 : Int32)), .val (.int (1 : Int32)), .val (.int n45), .val (.int n48), .val (.int n51), .val (.int s56), .val (.int s61), .val (.int s66), .unset, .unset, .unset] []
    refine w_iload ok at_118 rfl ?_
    show W K l _ n0 _ h0 0 0 120 #[.val (.int ln), .val (.int nbs), .val (.int sbs), .val (.int how), .val (.int (0 : Int32)), .val (.int (1 : Int32)), .val (.int n45), .val (.int n48), .val (.int n51), .val (.int s56), .val (.int s61), .val (.int s66), .unset, .unset, .unset] [(.int (0 : Int32))]
    refine w_iload ok at_120 rfl ?_
    show W K l _ n0 _ h0 0 0 122 #[.val (.int ln), .val (.int nbs), .val (.int sbs), .val (.int how), .val (.int (0 : Int32)), .val (.int (1 : Int32)), .val (.int n45), .val (.int n48), .val (.int n51), .val (.int s56), .val (.int s61), .val (.int s66), .unset, .unset, .unset] [(.int s56), (.int (0 : Int32))]
    refine w_iload ok at_122 rfl ?_
    show W K l _ n0 _ h0 0 0 124 #[.val (.int ln), .val (.int nbs), .val (.int sbs), .val (.int how), .val (.int (0 : Int32)), .val (.int (1 : Int32)), .val (.int n45), .val (.int n48), .val (.int n51), .val (.int s56), .val (.int s61), .val (.int s66), .unset, .unset, .unset] [(.int s61), (.int s56), (.int (0 : Int32))]
    refine w_iload ok at_124 rfl ?_
    show W K l _ n0 _ h0 0 0 126 #[.val (.int ln), .val (.int nbs), .val (.int sbs), .val (.int how), .val (.int (0 : Int32)), .val (.int (1 : Int32)), .val (.int n45), .val (.int n48), .val (.int n51), .val (.int s56), .val (.int s61), .val (.int s66), .unset, .unset, .unset] [(.int s66), (.int s61), (.int s56), (.int (0 : Int32))]
    refine w_callS ok (y := (⟨"com/example/turnstile/turnstile/server/CommandsIsPinLaw", "make", "(IBBB)[B"⟩ : MethodName)) (argsL := [(.int (0 : Int32)), (.int s56), (.int s61), (.int s66)]) (rest := []) at_126 (hw _ (List.mem_of_getElem? (i := 7) rfl)) (hw _ (List.mem_of_getElem? (i := 8) rfl)) (hw _ (List.mem_of_getElem? (i := 2) rfl)) (hw _ (List.mem_of_getElem? (i := 9) rfl)) (by decide) pd_28IBBB295bB rfl rfl (by decide) (Nat.le_of_ble_eq_true rfl) (by decide) (by decide) (fun z0 => rm_mk0 l Z a0 hw [] n0 h0 z0 s56 s61 s66) (fun v67 h68 qv67 => ?_)
    obtain ⟨r69, rfl, sz_r69, ge_r69, K1, A_r69⟩ := qv67
    show W K l _ n0 _ h68 1 0 129 #[.val (.int ln), .val (.int nbs), .val (.int sbs), .val (.int how), .val (.int (0 : Int32)), .val (.int (1 : Int32)), .val (.int n45), .val (.int n48), .val (.int n51), .val (.int s56), .val (.int s61), .val (.int s66), .unset, .unset, .unset] [(.ref r69)]
    refine w_astore ok at_129 rfl (L' := #[.val (.int ln), .val (.int nbs), .val (.int sbs), .val (.int how), .val (.int (0 : Int32)), .val (.int (1 : Int32)), .val (.int n45), .val (.int n48), .val (.int n51), .val (.int s56), .val (.int s61), .val (.int s66), .val (.ref r69), .unset, .unset]) rfl ?_
    show W K l _ n0 _ h68 1 0 131 #[.val (.int ln), .val (.int nbs), .val (.int sbs), .val (.int how), .val (.int (0 : Int32)), .val (.int (1 : Int32)), .val (.int n45), .val (.int n48), .val (.int n51), .val (.int s56), .val (.int s61), .val (.int s66), .val (.ref r69), .unset, .unset] []
    refine w_iload ok at_131 rfl ?_
    show W K l _ n0 _ h68 1 0 133 #[.val (.int ln), .val (.int nbs), .val (.int sbs), .val (.int how), .val (.int (0 : Int32)), .val (.int (1 : Int32)), .val (.int n45), .val (.int n48), .val (.int n51), .val (.int s56), .val (.int s61), .val (.int s66), .val (.ref r69), .unset, .unset] [(.int (1 : Int32))]
    refine w_iload ok at_133 rfl ?_
    show W K l _ n0 _ h68 1 0 135 #[.val (.int ln), .val (.int nbs), .val (.int sbs), .val (.int how), .val (.int (0 : Int32)), .val (.int (1 : Int32)), .val (.int n45), .val (.int n48), .val (.int n51), .val (.int s56), .val (.int s61), .val (.int s66), .val (.ref r69), .unset, .unset] [(.int n45), (.int (1 : Int32))]
    refine w_iload ok at_135 rfl ?_
    show W K l _ n0 _ h68 1 0 137 #[.val (.int ln), .val (.int nbs), .val (.int sbs), .val (.int how), .val (.int (0 : Int32)), .val (.int (1 : Int32)), .val (.int n45), .val (.int n48), .val (.int n51), .val (.int s56), .val (.int s61), .val (.int s66), .val (.ref r69), .unset, .unset] [(.int n48), (.int n45), (.int (1 : Int32))]
    refine w_iload ok at_137 rfl ?_
    show W K l _ n0 _ h68 1 0 139 #[.val (.int ln), .val (.int nbs), .val (.int sbs), .val (.int how), .val (.int (0 : Int32)), .val (.int (1 : Int32)), .val (.int n45), .val (.int n48), .val (.int n51), .val (.int s56), .val (.int s61), .val (.int s66), .val (.ref r69), .unset, .unset] [(.int n51), (.int n48), (.int n45), (.int (1 : Int32))]
    refine w_callS ok (y := (⟨"com/example/turnstile/turnstile/server/CommandsIsPinLaw", "make", "(IBBB)[B"⟩ : MethodName)) (argsL := [(.int (1 : Int32)), (.int n45), (.int n48), (.int n51)]) (rest := []) at_139 (hw _ (List.mem_of_getElem? (i := 7) rfl)) (hw _ (List.mem_of_getElem? (i := 8) rfl)) (hw _ (List.mem_of_getElem? (i := 2) rfl)) (hw _ (List.mem_of_getElem? (i := 9) rfl)) (by decide) pd_28IBBB295bB rfl rfl (by decide) (Nat.le_of_ble_eq_true rfl) (by decide) (by decide) (fun z0 => rm_mk1 l Z a0 hw [] n0 h68 z0 n45 n48 n51) (fun v70 h71 qv70 => ?_)
    obtain ⟨r72, rfl, sz_r72, ge_r72, K1, A_r72⟩ := qv70
    have ne_r69_r72 : r69 ≠ r72 := Nat.ne_of_lt (Nat.lt_of_lt_of_le A_r69.lt sz_r72)
    replace A_r69 := A_r69.keep K1 nin0
    show W K l _ n0 _ h71 2 1 142 #[.val (.int ln), .val (.int nbs), .val (.int sbs), .val (.int how), .val (.int (0 : Int32)), .val (.int (1 : Int32)), .val (.int n45), .val (.int n48), .val (.int n51), .val (.int s56), .val (.int s61), .val (.int s66), .val (.ref r69), .unset, .unset] [(.ref r72)]
    refine w_astore ok at_142 rfl (L' := #[.val (.int ln), .val (.int nbs), .val (.int sbs), .val (.int how), .val (.int (0 : Int32)), .val (.int (1 : Int32)), .val (.int n45), .val (.int n48), .val (.int n51), .val (.int s56), .val (.int s61), .val (.int s66), .val (.ref r69), .val (.ref r72), .unset]) rfl ?_
    show W K l _ n0 _ h71 2 1 144 #[.val (.int ln), .val (.int nbs), .val (.int sbs), .val (.int how), .val (.int (0 : Int32)), .val (.int (1 : Int32)), .val (.int n45), .val (.int n48), .val (.int n51), .val (.int s56), .val (.int s61), .val (.int s66), .val (.ref r69), .val (.ref r72), .unset] []
    refine w_iload ok at_144 rfl ?_
    show W K l _ n0 _ h71 2 1 146 #[.val (.int ln), .val (.int nbs), .val (.int sbs), .val (.int how), .val (.int (0 : Int32)), .val (.int (1 : Int32)), .val (.int n45), .val (.int n48), .val (.int n51), .val (.int s56), .val (.int s61), .val (.int s66), .val (.ref r69), .val (.ref r72), .unset] [(.int (0 : Int32))]
    refine w_iload ok at_146 rfl ?_
    show W K l _ n0 _ h71 2 1 148 #[.val (.int ln), .val (.int nbs), .val (.int sbs), .val (.int how), .val (.int (0 : Int32)), .val (.int (1 : Int32)), .val (.int n45), .val (.int n48), .val (.int n51), .val (.int s56), .val (.int s61), .val (.int s66), .val (.ref r69), .val (.ref r72), .unset] [(.int (1 : Int32)), (.int (0 : Int32))]
    refine w_icmp_ne ok at_148 (pc' := 203) (by decide) (fun hc74 => ?_) (fun hc74 => False.elim (by revert hc74; decide))
    show W K l _ n0 _ h71 2 1 203 #[.val (.int ln), .val (.int nbs), .val (.int sbs), .val (.int how), .val (.int (0 : Int32)), .val (.int (1 : Int32)), .val (.int n45), .val (.int n48), .val (.int n51), .val (.int s56), .val (.int s61), .val (.int s66), .val (.ref r69), .val (.ref r72), .unset] []
    refine w_iconst ok at_203 (v := (0 : Int32)) rfl ?_
    show W K l _ n0 _ h71 2 1 204 #[.val (.int ln), .val (.int nbs), .val (.int sbs), .val (.int how), .val (.int (0 : Int32)), .val (.int (1 : Int32)), .val (.int n45), .val (.int n48), .val (.int n51), .val (.int s56), .val (.int s61), .val (.int s66), .val (.ref r69), .val (.ref r72), .unset] [(.int (0 : Int32))]
    refine w_istore ok at_204 (L' := #[.val (.int ln), .val (.int nbs), .val (.int sbs), .val (.int how), .val (.int (0 : Int32)), .val (.int (1 : Int32)), .val (.int n45), .val (.int n48), .val (.int n51), .val (.int s56), .val (.int s61), .val (.int s66), .val (.ref r69), .val (.ref r72), .val (.int (0 : Int32))]) rfl ?_
    show W K l _ n0 _ h71 2 1 206 #[.val (.int ln), .val (.int nbs), .val (.int sbs), .val (.int how), .val (.int (0 : Int32)), .val (.int (1 : Int32)), .val (.int n45), .val (.int n48), .val (.int n51), .val (.int s56), .val (.int s61), .val (.int s66), .val (.ref r69), .val (.ref r72), .val (.int (0 : Int32))] []
    refine w_aload ok at_206 rfl rfl ?_
    show W K l _ n0 _ h71 2 1 208 #[.val (.int ln), .val (.int nbs), .val (.int sbs), .val (.int how), .val (.int (0 : Int32)), .val (.int (1 : Int32)), .val (.int n45), .val (.int n48), .val (.int n51), .val (.int s56), .val (.int s61), .val (.int s66), .val (.ref r69), .val (.ref r72), .val (.int (0 : Int32))] [(.ref r69)]
    refine w_aload ok at_208 rfl rfl ?_
    show W K l _ n0 _ h71 2 1 210 #[.val (.int ln), .val (.int nbs), .val (.int sbs), .val (.int how), .val (.int (0 : Int32)), .val (.int (1 : Int32)), .val (.int n45), .val (.int n48), .val (.int n51), .val (.int s56), .val (.int s61), .val (.int s66), .val (.ref r69), .val (.ref r72), .val (.int (0 : Int32))] [(.ref r72), (.ref r69)]
    refine w_callS ok (y := (⟨"com/example/turnstile/turnstile/server/Commands", "is", "([B[B)Z"⟩ : MethodName)) (argsL := [(.ref r69), (.ref r72)]) (rest := []) at_210 (hw _ (List.mem_of_getElem? (i := 11) rfl)) (hw _ (List.mem_of_getElem? (i := 12) rfl)) (hw _ (List.mem_of_getElem? (i := 13) rfl)) (hw _ (List.mem_of_getElem? (i := 14) rfl)) (by decide) pd_285bB5bB29Z rfl rfl (by decide) (Nat.le_of_ble_eq_true rfl) (by decide) (by decide) (fun z0 => rm_is l Z a0 hw [] n0 h71 z0 r69 r72 [] [nar .byte n45] A_r69 A_r72) (fun v75 h76 qv75 => ?_)
    obtain ⟨rfl, rfl⟩ := qv75
    show W K l _ n0 _ h71 2 1 213 #[.val (.int ln), .val (.int nbs), .val (.int sbs), .val (.int how), .val (.int (0 : Int32)), .val (.int (1 : Int32)), .val (.int n45), .val (.int n48), .val (.int n51), .val (.int s56), .val (.int s61), .val (.int s66), .val (.ref r69), .val (.ref r72), .val (.int (0 : Int32))] [(.int (nar .boolean (own_isl [] [nar .byte n45])))]
    refine w_iload ok at_213 rfl ?_
    show W K l _ n0 _ h71 2 1 215 #[.val (.int ln), .val (.int nbs), .val (.int sbs), .val (.int how), .val (.int (0 : Int32)), .val (.int (1 : Int32)), .val (.int n45), .val (.int n48), .val (.int n51), .val (.int s56), .val (.int s61), .val (.int s66), .val (.ref r69), .val (.ref r72), .val (.int (0 : Int32))] [(.int (0 : Int32)), (.int (nar .boolean (own_isl [] [nar .byte n45])))]
    refine w_icmp_ne ok at_215 (pc' := 222) (by decide) (fun hc78 => False.elim (by exact hc78 (by rw [own_isl_len (by simp)] <;> rfl))) (fun hc78 => ?_)
    show W K l _ n0 _ h71 2 1 218 #[.val (.int ln), .val (.int nbs), .val (.int sbs), .val (.int how), .val (.int (0 : Int32)), .val (.int (1 : Int32)), .val (.int n45), .val (.int n48), .val (.int n51), .val (.int s56), .val (.int s61), .val (.int s66), .val (.ref r69), .val (.ref r72), .val (.int (0 : Int32))] []
    refine w_iconst ok at_218 (v := (1 : Int32)) rfl ?_
    show W K l _ n0 _ h71 2 1 219 #[.val (.int ln), .val (.int nbs), .val (.int sbs), .val (.int how), .val (.int (0 : Int32)), .val (.int (1 : Int32)), .val (.int n45), .val (.int n48), .val (.int n51), .val (.int s56), .val (.int s61), .val (.int s66), .val (.ref r69), .val (.ref r72), .val (.int (0 : Int32))] [(.int (1 : Int32))]
    refine w_goto ok at_219 (pc' := 223) (by decide) ?_
    show W K l _ n0 _ h71 2 1 223 #[.val (.int ln), .val (.int nbs), .val (.int sbs), .val (.int how), .val (.int (0 : Int32)), .val (.int (1 : Int32)), .val (.int n45), .val (.int n48), .val (.int n51), .val (.int s56), .val (.int s61), .val (.int s66), .val (.ref r69), .val (.ref r72), .val (.int (0 : Int32))] [(.int (1 : Int32))]
    refine w_bret ok (by simp) at_223 (by decide) (by decide) ?_
    exact rfl
  · skip
    show W K l _ n0 _ h0 0 0 25 #[.val (.int ln), .val (.int nbs), .val (.int sbs), .val (.int how), .val (.int (0 : Int32)), .val (.int (2 : Int32)), .unset, .unset, .unset, .unset, .unset, .unset, .unset, .unset, .unset] []
    refine w_iloadN ok at_25 rfl ?_
    show W K l _ n0 _ h0 0 0 26 #[.val (.int ln), .val (.int nbs), .val (.int sbs), .val (.int how), .val (.int (0 : Int32)), .val (.int (2 : Int32)), .unset, .unset, .unset, .unset, .unset, .unset, .unset, .unset, .unset] [(.int nbs)]
    refine w_callS ok (y := (⟨"com/example/turnstile/turnstile/server/CommandsIsPinLaw", "nameByte", "(I)B"⟩ : MethodName)) (argsL := [(.int nbs)]) (rest := []) at_26 (hw _ (List.mem_of_getElem? (i := 0) rfl)) (hw _ (List.mem_of_getElem? (i := 1) rfl)) (hw _ (List.mem_of_getElem? (i := 2) rfl)) (hw _ (List.mem_of_getElem? (i := 3) rfl)) (by decide) pd_28I29B rfl rfl (by decide) (Nat.le_of_ble_eq_true rfl) (by decide) (by decide) (fun z0 => rm_nb l Z a0 hw [] n0 h0 z0 nbs) (fun v79 h80 qv79 => ?_)
    obtain ⟨n81, rfl, h1_n81, h2_n81, rfl⟩ := qv79
    show W K l _ n0 _ h0 0 0 29 #[.val (.int ln), .val (.int nbs), .val (.int sbs), .val (.int how), .val (.int (0 : Int32)), .val (.int (2 : Int32)), .unset, .unset, .unset, .unset, .unset, .unset, .unset, .unset, .unset] [(.int n81)]
    refine w_istore ok at_29 (L' := #[.val (.int ln), .val (.int nbs), .val (.int sbs), .val (.int how), .val (.int (0 : Int32)), .val (.int (2 : Int32)), .val (.int n81), .unset, .unset, .unset, .unset, .unset, .unset, .unset, .unset]) rfl ?_
    show W K l _ n0 _ h0 0 0 31 #[.val (.int ln), .val (.int nbs), .val (.int sbs), .val (.int how), .val (.int (0 : Int32)), .val (.int (2 : Int32)), .val (.int n81), .unset, .unset, .unset, .unset, .unset, .unset, .unset, .unset] []
    refine w_iloadN ok at_31 rfl ?_
    show W K l _ n0 _ h0 0 0 32 #[.val (.int ln), .val (.int nbs), .val (.int sbs), .val (.int how), .val (.int (0 : Int32)), .val (.int (2 : Int32)), .val (.int n81), .unset, .unset, .unset, .unset, .unset, .unset, .unset, .unset] [(.int nbs)]
    refine w_bipush ok at_32 (v := (8 : Int32)) rfl ?_
    show W K l _ n0 _ h0 0 0 34 #[.val (.int ln), .val (.int nbs), .val (.int sbs), .val (.int how), .val (.int (0 : Int32)), .val (.int (2 : Int32)), .val (.int n81), .unset, .unset, .unset, .unset, .unset, .unset, .unset, .unset] [(.int (8 : Int32)), (.int nbs)]
    refine w_ishr ok at_34 ?_
    show W K l _ n0 _ h0 0 0 35 #[.val (.int ln), .val (.int nbs), .val (.int sbs), .val (.int how), .val (.int (0 : Int32)), .val (.int (2 : Int32)), .val (.int n81), .unset, .unset, .unset, .unset, .unset, .unset, .unset, .unset] [(.int (nbs >>> ((8 : Int32) &&& 31)))]
    refine w_callS ok (y := (⟨"com/example/turnstile/turnstile/server/CommandsIsPinLaw", "nameByte", "(I)B"⟩ : MethodName)) (argsL := [(.int (nbs >>> ((8 : Int32) &&& 31)))]) (rest := []) at_35 (hw _ (List.mem_of_getElem? (i := 0) rfl)) (hw _ (List.mem_of_getElem? (i := 1) rfl)) (hw _ (List.mem_of_getElem? (i := 2) rfl)) (hw _ (List.mem_of_getElem? (i := 3) rfl)) (by decide) pd_28I29B rfl rfl (by decide) (Nat.le_of_ble_eq_true rfl) (by decide) (by decide) (fun z0 => rm_nb l Z a0 hw [] n0 h0 z0 (nbs >>> ((8 : Int32) &&& 31))) (fun v82 h83 qv82 => ?_)
    obtain ⟨n84, rfl, h1_n84, h2_n84, rfl⟩ := qv82
    show W K l _ n0 _ h0 0 0 38 #[.val (.int ln), .val (.int nbs), .val (.int sbs), .val (.int how), .val (.int (0 : Int32)), .val (.int (2 : Int32)), .val (.int n81), .unset, .unset, .unset, .unset, .unset, .unset, .unset, .unset] [(.int n84)]
    refine w_istore ok at_38 (L' := #[.val (.int ln), .val (.int nbs), .val (.int sbs), .val (.int how), .val (.int (0 : Int32)), .val (.int (2 : Int32)), .val (.int n81), .val (.int n84), .unset, .unset, .unset, .unset, .unset, .unset, .unset]) rfl ?_
    show W K l _ n0 _ h0 0 0 40 #[.val (.int ln), .val (.int nbs), .val (.int sbs), .val (.int how), .val (.int (0 : Int32)), .val (.int (2 : Int32)), .val (.int n81), .val (.int n84), .unset, .unset, .unset, .unset, .unset, .unset, .unset] []
    refine w_iloadN ok at_40 rfl ?_
    show W K l _ n0 _ h0 0 0 41 #[.val (.int ln), .val (.int nbs), .val (.int sbs), .val (.int how), .val (.int (0 : Int32)), .val (.int (2 : Int32)), .val (.int n81), .val (.int n84), .unset, .unset, .unset, .unset, .unset, .unset, .unset] [(.int nbs)]
    refine w_bipush ok at_41 (v := (16 : Int32)) rfl ?_
    show W K l _ n0 _ h0 0 0 43 #[.val (.int ln), .val (.int nbs), .val (.int sbs), .val (.int how), .val (.int (0 : Int32)), .val (.int (2 : Int32)), .val (.int n81), .val (.int n84), .unset, .unset, .unset, .unset, .unset, .unset, .unset] [(.int (16 : Int32)), (.int nbs)]
    refine w_ishr ok at_43 ?_
    show W K l _ n0 _ h0 0 0 44 #[.val (.int ln), .val (.int nbs), .val (.int sbs), .val (.int how), .val (.int (0 : Int32)), .val (.int (2 : Int32)), .val (.int n81), .val (.int n84), .unset, .unset, .unset, .unset, .unset, .unset, .unset] [(.int (nbs >>> ((16 : Int32) &&& 31)))]
    refine w_callS ok (y := (⟨"com/example/turnstile/turnstile/server/CommandsIsPinLaw", "nameByte", "(I)B"⟩ : MethodName)) (argsL := [(.int (nbs >>> ((16 : Int32) &&& 31)))]) (rest := []) at_44 (hw _ (List.mem_of_getElem? (i := 0) rfl)) (hw _ (List.mem_of_getElem? (i := 1) rfl)) (hw _ (List.mem_of_getElem? (i := 2) rfl)) (hw _ (List.mem_of_getElem? (i := 3) rfl)) (by decide) pd_28I29B rfl rfl (by decide) (Nat.le_of_ble_eq_true rfl) (by decide) (by decide) (fun z0 => rm_nb l Z a0 hw [] n0 h0 z0 (nbs >>> ((16 : Int32) &&& 31))) (fun v85 h86 qv85 => ?_)
    obtain ⟨n87, rfl, h1_n87, h2_n87, rfl⟩ := qv85
    show W K l _ n0 _ h0 0 0 47 #[.val (.int ln), .val (.int nbs), .val (.int sbs), .val (.int how), .val (.int (0 : Int32)), .val (.int (2 : Int32)), .val (.int n81), .val (.int n84), .unset, .unset, .unset, .unset, .unset, .unset, .unset] [(.int n87)]
    refine w_istore ok at_47 (L' := #[.val (.int ln), .val (.int nbs), .val (.int sbs), .val (.int how), .val (.int (0 : Int32)), .val (.int (2 : Int32)), .val (.int n81), .val (.int n84), .val (.int n87), .unset, .unset, .unset, .unset, .unset, .unset]) rfl ?_
    show W K l _ n0 _ h0 0 0 49 #[.val (.int ln), .val (.int nbs), .val (.int sbs), .val (.int how), .val (.int (0 : Int32)), .val (.int (2 : Int32)), .val (.int n81), .val (.int n84), .val (.int n87), .unset, .unset, .unset, .unset, .unset, .unset] []
    refine w_iloadN ok at_49 rfl ?_
    show W K l _ n0 _ h0 0 0 50 #[.val (.int ln), .val (.int nbs), .val (.int sbs), .val (.int how), .val (.int (0 : Int32)), .val (.int (2 : Int32)), .val (.int n81), .val (.int n84), .val (.int n87), .unset, .unset, .unset, .unset, .unset, .unset] [(.int how)]
    refine w_iloadN ok at_50 rfl ?_
    show W K l _ n0 _ h0 0 0 51 #[.val (.int ln), .val (.int nbs), .val (.int sbs), .val (.int how), .val (.int (0 : Int32)), .val (.int (2 : Int32)), .val (.int n81), .val (.int n84), .val (.int n87), .unset, .unset, .unset, .unset, .unset, .unset] [(.int sbs), (.int how)]
    refine w_iload ok at_51 rfl ?_
    show W K l _ n0 _ h0 0 0 53 #[.val (.int ln), .val (.int nbs), .val (.int sbs), .val (.int how), .val (.int (0 : Int32)), .val (.int (2 : Int32)), .val (.int n81), .val (.int n84), .val (.int n87), .unset, .unset, .unset, .unset, .unset, .unset] [(.int n81), (.int sbs), (.int how)]
    refine w_iload ok at_53 rfl ?_
    show W K l _ n0 _ h0 0 0 55 #[.val (.int ln), .val (.int nbs), .val (.int sbs), .val (.int how), .val (.int (0 : Int32)), .val (.int (2 : Int32)), .val (.int n81), .val (.int n84), .val (.int n87), .unset, .unset, .unset, .unset, .unset, .unset] [(.int (2 : Int32)), (.int n81), (.int sbs), (.int how)]
    refine w_if_le ok at_55 (pc' := 62) (by decide) (fun hc89 => False.elim (by revert hc89; decide)) (fun hc89 => ?_)
    show W K l _ n0 _ h0 0 0 58 #[.val (.int ln), .val (.int nbs), .val (.int sbs), .val (.int how), .val (.int (0 : Int32)), .val (.int (2 : Int32)), .val (.int n81), .val (.int n84), .val (.int n87), .unset, .unset, .unset, .unset, .unset, .unset] [(.int n81), (.int sbs), (.int how)]
    refine w_iconst ok at_58 (v := (1 : Int32)) rfl ?_
    show W K l _ n0 _ h0 0 0 59 #[.val (.int ln), .val (.int nbs), .val (.int sbs), .val (.int how), .val (.int (0 : Int32)), .val (.int (2 : Int32)), .val (.int n81), .val (.int n84), .val (.int n87), .unset, .unset, .unset, .unset, .unset, .unset] [(.int (1 : Int32)), (.int n81), (.int sbs), (.int how)]
    refine w_goto ok at_59 (pc' := 63) (by decide) ?_
    show W K l _ n0 _ h0 0 0 63 #[.val (.int ln), .val (.int nbs), .val (.int sbs), .val (.int how), .val (.int (0 : Int32)), .val (.int (2 : Int32)), .val (.int n81), .val (.int n84), .val (.int n87), .unset, .unset, .unset, .unset, .unset, .unset] [(.int (1 : Int32)), (.int n81), (.int sbs), (.int how)]
    refine w_callS ok (y := (⟨"com/example/turnstile/turnstile/server/CommandsIsPinLaw", "sentByte", "(IIBZ)B"⟩ : MethodName)) (argsL := [(.int how), (.int sbs), (.int n81), (.int (1 : Int32))]) (rest := []) at_63 (hw _ (List.mem_of_getElem? (i := 4) rfl)) (hw _ (List.mem_of_getElem? (i := 5) rfl)) (hw _ (List.mem_of_getElem? (i := 2) rfl)) (hw _ (List.mem_of_getElem? (i := 6) rfl)) (by decide) pd_28IIBZ29B rfl rfl (by decide) (Nat.le_of_ble_eq_true rfl) (by decide) (by decide) (fun z0 => rm_sb l Z a0 hw [] n0 h0 z0 how sbs n81 (1 : Int32)) (fun v90 h91 qv90 => ?_)
    obtain ⟨s92, rfl, h1_s92, rfl⟩ := qv90
    show W K l _ n0 _ h0 0 0 66 #[.val (.int ln), .val (.int nbs), .val (.int sbs), .val (.int how), .val (.int (0 : Int32)), .val (.int (2 : Int32)), .val (.int n81), .val (.int n84), .val (.int n87), .unset, .unset, .unset, .unset, .unset, .unset] [(.int s92)]
    refine w_istore ok at_66 (L' := #[.val (.int ln), .val (.int nbs), .val (.int sbs), .val (.int how), .val (.int (0 : Int32)), .val (.int (2 : Int32)), .val (.int n81), .val (.int n84), .val (.int n87), .val (.int s92), .unset, .unset, .unset, .unset, .unset]) rfl ?_
    show W K l _ n0 _ h0 0 0 68 #[.val (.int ln), .val (.int nbs), .val (.int sbs), .val (.int how), .val (.int (0 : Int32)), .val (.int (2 : Int32)), .val (.int n81), .val (.int n84), .val (.int n87), .val (.int s92), .unset, .unset, .unset, .unset, .unset] []
    refine w_iloadN ok at_68 rfl ?_
    show W K l _ n0 _ h0 0 0 69 #[.val (.int ln), .val (.int nbs), .val (.int sbs), .val (.int how), .val (.int (0 : Int32)), .val (.int (2 : Int32)), .val (.int n81), .val (.int n84), .val (.int n87), .val (.int s92), .unset, .unset, .unset, .unset, .unset] [(.int how)]
    refine w_iconst ok at_69 (v := (2 : Int32)) rfl ?_
    show W K l _ n0 _ h0 0 0 70 #[.val (.int ln), .val (.int nbs), .val (.int sbs), .val (.int how), .val (.int (0 : Int32)), .val (.int (2 : Int32)), .val (.int n81), .val (.int n84), .val (.int n87), .val (.int s92), .unset, .unset, .unset, .unset, .unset] [(.int (2 : Int32)), (.int how)]
    refine w_ishr ok at_70 ?_
    show W K l _ n0 _ h0 0 0 71 #[.val (.int ln), .val (.int nbs), .val (.int sbs), .val (.int how), .val (.int (0 : Int32)), .val (.int (2 : Int32)), .val (.int n81), .val (.int n84), .val (.int n87), .val (.int s92), .unset, .unset, .unset, .unset, .unset] [(.int (how >>> ((2 : Int32) &&& 31)))]
    refine w_iloadN ok at_71 rfl ?_
    show W K l _ n0 _ h0 0 0 72 #[.val (.int ln), .val (.int nbs), .val (.int sbs), .val (.int how), .val (.int (0 : Int32)), .val (.int (2 : Int32)), .val (.int n81), .val (.int n84), .val (.int n87), .val (.int s92), .unset, .unset, .unset, .unset, .unset] [(.int sbs), (.int (how >>> ((2 : Int32) &&& 31)))]
    refine w_bipush ok at_72 (v := (8 : Int32)) rfl ?_
    show W K l _ n0 _ h0 0 0 74 #[.val (.int ln), .val (.int nbs), .val (.int sbs), .val (.int how), .val (.int (0 : Int32)), .val (.int (2 : Int32)), .val (.int n81), .val (.int n84), .val (.int n87), .val (.int s92), .unset, .unset, .unset, .unset, .unset] [(.int (8 : Int32)), (.int sbs), (.int (how >>> ((2 : Int32) &&& 31)))]
    refine w_ishr ok at_74 ?_
    show W K l _ n0 _ h0 0 0 75 #[.val (.int ln), .val (.int nbs), .val (.int sbs), .val (.int how), .val (.int (0 : Int32)), .val (.int (2 : Int32)), .val (.int n81), .val (.int n84), .val (.int n87), .val (.int s92), .unset, .unset, .unset, .unset, .unset] [(.int (sbs >>> ((8 : Int32) &&& 31))), (.int (how >>> ((2 : Int32) &&& 31)))]
    refine w_iload ok at_75 rfl ?_
    show W K l _ n0 _ h0 0 0 77 #[.val (.int ln), .val (.int nbs), .val (.int sbs), .val (.int how), .val (.int (0 : Int32)), .val (.int (2 : Int32)), .val (.int n81), .val (.int n84), .val (.int n87), .val (.int s92), .unset, .unset, .unset, .unset, .unset] [(.int n84), (.int (sbs >>> ((8 : Int32) &&& 31))), (.int (how >>> ((2 : Int32) &&& 31)))]
    refine w_iload ok at_77 rfl ?_
    show W K l _ n0 _ h0 0 0 79 #[.val (.int ln), .val (.int nbs), .val (.int sbs), .val (.int how), .val (.int (0 : Int32)), .val (.int (2 : Int32)), .val (.int n81), .val (.int n84), .val (.int n87), .val (.int s92), .unset, .unset, .unset, .unset, .unset] [(.int (2 : Int32)), (.int n84), (.int (sbs >>> ((8 : Int32) &&& 31))), (.int (how >>> ((2 : Int32) &&& 31)))]
    refine w_iconst ok at_79 (v := (1 : Int32)) rfl ?_
    show W K l _ n0 _ h0 0 0 80 #[.val (.int ln), .val (.int nbs), .val (.int sbs), .val (.int how), .val (.int (0 : Int32)), .val (.int (2 : Int32)), .val (.int n81), .val (.int n84), .val (.int n87), .val (.int s92), .unset, .unset, .unset, .unset, .unset] [(.int (1 : Int32)), (.int (2 : Int32)), (.int n84), (.int (sbs >>> ((8 : Int32) &&& 31))), (.int (how >>> ((2 : Int32) &&& 31)))]
    refine w_icmp_le ok at_80 (pc' := 87) (by decide) (fun hc94 => False.elim (by revert hc94; decide)) (fun hc94 => ?_)
    show W K l _ n0 _ h0 0 0 83 #[.val (.int ln), .val (.int nbs), .val (.int sbs), .val (.int how), .val (.int (0 : Int32)), .val (.int (2 : Int32)), .val (.int n81), .val (.int n84), .val (.int n87), .val (.int s92), .unset, .unset, .unset, .unset, .unset] [(.int n84), (.int (sbs >>> ((8 : Int32) &&& 31))), (.int (how >>> ((2 : Int32) &&& 31)))]
    refine w_iconst ok at_83 (v := (1 : Int32)) rfl ?_
    show W K l _ n0 _ h0 0 0 84 #[.val (.int ln), .val (.int nbs), .val (.int sbs), .val (.int how), .val (.int (0 : Int32)), .val (.int (2 : Int32)), .val (.int n81), .val (.int n84), .val (.int n87), .val (.int s92), .unset, .unset, .unset, .unset, .unset] [(.int (1 : Int32)), (.int n84), (.int (sbs >>> ((8 : Int32) &&& 31))), (.int (how >>> ((2 : Int32) &&& 31)))]
    refine w_goto ok at_84 (pc' := 88) (by decide) ?_
    show W K l _ n0 _ h0 0 0 88 #[.val (.int ln), .val (.int nbs), .val (.int sbs), .val (.int how), .val (.int (0 : Int32)), .val (.int (2 : Int32)), .val (.int n81), .val (.int n84), .val (.int n87), .val (.int s92), .unset, .unset, .unset, .unset, .unset] [(.int (1 : Int32)), (.int n84), (.int (sbs >>> ((8 : Int32) &&& 31))), (.int (how >>> ((2 : Int32) &&& 31)))]
    refine w_callS ok (y := (⟨"com/example/turnstile/turnstile/server/CommandsIsPinLaw", "sentByte", "(IIBZ)B"⟩ : MethodName)) (argsL := [(.int (how >>> ((2 : Int32) &&& 31))), (.int (sbs >>> ((8 : Int32) &&& 31))), (.int n84), (.int (1 : Int32))]) (rest := []) at_88 (hw _ (List.mem_of_getElem? (i := 4) rfl)) (hw _ (List.mem_of_getElem? (i := 5) rfl)) (hw _ (List.mem_of_getElem? (i := 2) rfl)) (hw _ (List.mem_of_getElem? (i := 6) rfl)) (by decide) pd_28IIBZ29B rfl rfl (by decide) (Nat.le_of_ble_eq_true rfl) (by decide) (by decide) (fun z0 => rm_sb l Z a0 hw [] n0 h0 z0 (how >>> ((2 : Int32) &&& 31)) (sbs >>> ((8 : Int32) &&& 31)) n84 (1 : Int32)) (fun v95 h96 qv95 => ?_)
    obtain ⟨s97, rfl, h1_s97, rfl⟩ := qv95
    show W K l _ n0 _ h0 0 0 91 #[.val (.int ln), .val (.int nbs), .val (.int sbs), .val (.int how), .val (.int (0 : Int32)), .val (.int (2 : Int32)), .val (.int n81), .val (.int n84), .val (.int n87), .val (.int s92), .unset, .unset, .unset, .unset, .unset] [(.int s97)]
    refine w_istore ok at_91 (L' := #[.val (.int ln), .val (.int nbs), .val (.int sbs), .val (.int how), .val (.int (0 : Int32)), .val (.int (2 : Int32)), .val (.int n81), .val (.int n84), .val (.int n87), .val (.int s92), .val (.int s97), .unset, .unset, .unset, .unset]) rfl ?_
    show W K l _ n0 _ h0 0 0 93 #[.val (.int ln), .val (.int nbs), .val (.int sbs), .val (.int how), .val (.int (0 : Int32)), .val (.int (2 : Int32)), .val (.int n81), .val (.int n84), .val (.int n87), .val (.int s92), .val (.int s97), .unset, .unset, .unset, .unset] []
    refine w_iloadN ok at_93 rfl ?_
    show W K l _ n0 _ h0 0 0 94 #[.val (.int ln), .val (.int nbs), .val (.int sbs), .val (.int how), .val (.int (0 : Int32)), .val (.int (2 : Int32)), .val (.int n81), .val (.int n84), .val (.int n87), .val (.int s92), .val (.int s97), .unset, .unset, .unset, .unset] [(.int how)]
    refine w_iconst ok at_94 (v := (4 : Int32)) rfl ?_
    show W K l _ n0 _ h0 0 0 95 #[.val (.int ln), .val (.int nbs), .val (.int sbs), .val (.int how), .val (.int (0 : Int32)), .val (.int (2 : Int32)), .val (.int n81), .val (.int n84), .val (.int n87), .val (.int s92), .val (.int s97), .unset, .unset, .unset, .unset] [(.int (4 : Int32)), (.int how)]
    refine w_ishr ok at_95 ?_
    show W K l _ n0 _ h0 0 0 96 #[.val (.int ln), .val (.int nbs), .val (.int sbs), .val (.int how), .val (.int (0 : Int32)), .val (.int (2 : Int32)), .val (.int n81), .val (.int n84), .val (.int n87), .val (.int s92), .val (.int s97), .unset, .unset, .unset, .unset] [(.int (how >>> ((4 : Int32) &&& 31)))]
    refine w_iloadN ok at_96 rfl ?_
    show W K l _ n0 _ h0 0 0 97 #[.val (.int ln), .val (.int nbs), .val (.int sbs), .val (.int how), .val (.int (0 : Int32)), .val (.int (2 : Int32)), .val (.int n81), .val (.int n84), .val (.int n87), .val (.int s92), .val (.int s97), .unset, .unset, .unset, .unset] [(.int sbs), (.int (how >>> ((4 : Int32) &&& 31)))]
    refine w_bipush ok at_97 (v := (16 : Int32)) rfl ?_
    show W K l _ n0 _ h0 0 0 99 #[.val (.int ln), .val (.int nbs), .val (.int sbs), .val (.int how), .val (.int (0 : Int32)), .val (.int (2 : Int32)), .val (.int n81), .val (.int n84), .val (.int n87), .val (.int s92), .val (.int s97), .unset, .unset, .unset, .unset] [(.int (16 : Int32)), (.int sbs), (.int (how >>> ((4 : Int32) &&& 31)))]
    refine w_ishr ok at_99 ?_
    show W K l _ n0 _ h0 0 0 100 #[.val (.int ln), .val (.int nbs), .val (.int sbs), .val (.int how), .val (.int (0 : Int32)), .val (.int (2 : Int32)), .val (.int n81), .val (.int n84), .val (.int n87), .val (.int s92), .val (.int s97), .unset, .unset, .unset, .unset] [(.int (sbs >>> ((16 : Int32) &&& 31))), (.int (how >>> ((4 : Int32) &&& 31)))]
    refine w_iload ok at_100 rfl ?_
    show W K l _ n0 _ h0 0 0 102 #[.val (.int ln), .val (.int nbs), .val (.int sbs), .val (.int how), .val (.int (0 : Int32)), .val (.int (2 : Int32)), .val (.int n81), .val (.int n84), .val (.int n87), .val (.int s92), .val (.int s97), .unset, .unset, .unset, .unset] [(.int n87), (.int (sbs >>> ((16 : Int32) &&& 31))), (.int (how >>> ((4 : Int32) &&& 31)))]
    refine w_iload ok at_102 rfl ?_
    show W K l _ n0 _ h0 0 0 104 #[.val (.int ln), .val (.int nbs), .val (.int sbs), .val (.int how), .val (.int (0 : Int32)), .val (.int (2 : Int32)), .val (.int n81), .val (.int n84), .val (.int n87), .val (.int s92), .val (.int s97), .unset, .unset, .unset, .unset] [(.int (2 : Int32)), (.int n87), (.int (sbs >>> ((16 : Int32) &&& 31))), (.int (how >>> ((4 : Int32) &&& 31)))]
    refine w_iconst ok at_104 (v := (2 : Int32)) rfl ?_
    show W K l _ n0 _ h0 0 0 105 #[.val (.int ln), .val (.int nbs), .val (.int sbs), .val (.int how), .val (.int (0 : Int32)), .val (.int (2 : Int32)), .val (.int n81), .val (.int n84), .val (.int n87), .val (.int s92), .val (.int s97), .unset, .unset, .unset, .unset] [(.int (2 : Int32)), (.int (2 : Int32)), (.int n87), (.int (sbs >>> ((16 : Int32) &&& 31))), (.int (how >>> ((4 : Int32) &&& 31)))]
    refine w_icmp_le ok at_105 (pc' := 112) (by decide) (fun hc99 => ?_) (fun hc99 => False.elim (by revert hc99; decide))
    show W K l _ n0 _ h0 0 0 112 #[.val (.int ln), .val (.int nbs), .val (.int sbs), .val (.int how), .val (.int (0 : Int32)), .val (.int (2 : Int32)), .val (.int n81), .val (.int n84), .val (.int n87), .val (.int s92), .val (.int s97), .unset, .unset, .unset, .unset] [(.int n87), (.int (sbs >>> ((16 : Int32) &&& 31))), (.int (how >>> ((4 : Int32) &&& 31)))]
    refine w_iconst ok at_112 (v := (0 : Int32)) rfl ?_
    show W K l _ n0 _ h0 0 0 113 #[.val (.int ln), .val (.int nbs), .val (.int sbs), .val (.int how), .val (.int (0 : Int32)), .val (.int (2 : Int32)), .val (.int n81), .val (.int n84), .val (.int n87), .val (.int s92), .val (.int s97), .unset, .unset, .unset, .unset] [(.int (0 : Int32)), (.int n87), (.int (sbs >>> ((16 : Int32) &&& 31))), (.int (how >>> ((4 : Int32) &&& 31)))]
    refine w_callS ok (y := (⟨"com/example/turnstile/turnstile/server/CommandsIsPinLaw", "sentByte", "(IIBZ)B"⟩ : MethodName)) (argsL := [(.int (how >>> ((4 : Int32) &&& 31))), (.int (sbs >>> ((16 : Int32) &&& 31))), (.int n87), (.int (0 : Int32))]) (rest := []) at_113 (hw _ (List.mem_of_getElem? (i := 4) rfl)) (hw _ (List.mem_of_getElem? (i := 5) rfl)) (hw _ (List.mem_of_getElem? (i := 2) rfl)) (hw _ (List.mem_of_getElem? (i := 6) rfl)) (by decide) pd_28IIBZ29B rfl rfl (by decide) (Nat.le_of_ble_eq_true rfl) (by decide) (by decide) (fun z0 => rm_sb l Z a0 hw [] n0 h0 z0 (how >>> ((4 : Int32) &&& 31)) (sbs >>> ((16 : Int32) &&& 31)) n87 (0 : Int32)) (fun v100 h101 qv100 => ?_)
    obtain ⟨s102, rfl, h1_s102, rfl⟩ := qv100
    show W K l _ n0 _ h0 0 0 116 #[.val (.int ln), .val (.int nbs), .val (.int sbs), .val (.int how), .val (.int (0 : Int32)), .val (.int (2 : Int32)), .val (.int n81), .val (.int n84), .val (.int n87), .val (.int s92), .val (.int s97), .unset, .unset, .unset, .unset] [(.int s102)]
    refine w_istore ok at_116 (L' := #[.val (.int ln), .val (.int nbs), .val (.int sbs), .val (.int how), .val (.int (0 : Int32)), .val (.int (2 : Int32)), .val (.int n81), .val (.int n84), .val (.int n87), .val (.int s92), .val (.int s97), .val (.int s102), .unset, .unset, .unset]) rfl ?_
    show W K l _ n0 _ h0 0 0 118 #[.val (.int ln), .val (.int nbs), .val (.int sbs), .val (.int how), .val (.int (0 : Int32)), .val (.int (2 : Int32)), .val (.int n81), .val (.int n84), .val (.int n87), .val (.int s92), .val (.int s97), .val (.int s102), .unset, .unset, .unset] []
    refine w_iload ok at_118 rfl ?_
    show W K l _ n0 _ h0 0 0 120 #[.val (.int ln), .val (.int nbs), .val (.int sbs), .val (.int how), .val (.int (0 : Int32)), .val (.int (2 : Int32)), .val (.int n81), .val (.int n84), .val (.int n87), .val (.int s92), .val (.int s97), .val (.int s102), .unset, .unset, .unset] [(.int (0 : Int32))]
    refine w_iload ok at_120 rfl ?_
    show W K l _ n0 _ h0 0 0 122 #[.val (.int ln), .val (.int nbs), .val (.int sbs), .val (.int how), .val (.int (0 : Int32)), .val (.int (2 : Int32)), .val (.int n81), .val (.int n84), .val (.int n87), .val (.int s92), .val (.int s97), .val (.int s102), .unset, .unset, .unset] [(.int s92), (.int (0 : Int32))]
    refine w_iload ok at_122 rfl ?_
    show W K l _ n0 _ h0 0 0 124 #[.val (.int ln), .val (.int nbs), .val (.int sbs), .val (.int how), .val (.int (0 : Int32)), .val (.int (2 : Int32)), .val (.int n81), .val (.int n84), .val (.int n87), .val (.int s92), .val (.int s97), .val (.int s102), .unset, .unset, .unset] [(.int s97), (.int s92), (.int (0 : Int32))]
    refine w_iload ok at_124 rfl ?_
    show W K l _ n0 _ h0 0 0 126 #[.val (.int ln), .val (.int nbs), .val (.int sbs), .val (.int how), .val (.int (0 : Int32)), .val (.int (2 : Int32)), .val (.int n81), .val (.int n84), .val (.int n87), .val (.int s92), .val (.int s97), .val (.int s102), .unset, .unset, .unset] [(.int s102), (.int s97), (.int s92), (.int (0 : Int32))]
    refine w_callS ok (y := (⟨"com/example/turnstile/turnstile/server/CommandsIsPinLaw", "make", "(IBBB)[B"⟩ : MethodName)) (argsL := [(.int (0 : Int32)), (.int s92), (.int s97), (.int s102)]) (rest := []) at_126 (hw _ (List.mem_of_getElem? (i := 7) rfl)) (hw _ (List.mem_of_getElem? (i := 8) rfl)) (hw _ (List.mem_of_getElem? (i := 2) rfl)) (hw _ (List.mem_of_getElem? (i := 9) rfl)) (by decide) pd_28IBBB295bB rfl rfl (by decide) (Nat.le_of_ble_eq_true rfl) (by decide) (by decide) (fun z0 => rm_mk0 l Z a0 hw [] n0 h0 z0 s92 s97 s102) (fun v103 h104 qv103 => ?_)
    obtain ⟨r105, rfl, sz_r105, ge_r105, K1, A_r105⟩ := qv103
    show W K l _ n0 _ h104 1 0 129 #[.val (.int ln), .val (.int nbs), .val (.int sbs), .val (.int how), .val (.int (0 : Int32)), .val (.int (2 : Int32)), .val (.int n81), .val (.int n84), .val (.int n87), .val (.int s92), .val (.int s97), .val (.int s102), .unset, .unset, .unset] [(.ref r105)]
    refine w_astore ok at_129 rfl (L' := #[.val (.int ln), .val (.int nbs), .val (.int sbs), .val (.int how), .val (.int (0 : Int32)), .val (.int (2 : Int32)), .val (.int n81), .val (.int n84), .val (.int n87), .val (.int s92), .val (.int s97), .val (.int s102), .val (.ref r105), .unset, .unset]) rfl ?_
    show W K l _ n0 _ h104 1 0 131 #[.val (.int ln), .val (.int nbs), .val (.int sbs), .val (.int how), .val (.int (0 : Int32)), .val (.int (2 : Int32)), .val (.int n81), .val (.int n84), .val (.int n87), .val (.int s92), .val (.int s97), .val (.int s102), .val (.ref r105), .unset, .unset] []
    refine w_iload ok at_131 rfl ?_
    show W K l _ n0 _ h104 1 0 133 #[.val (.int ln), .val (.int nbs), .val (.int sbs), .val (.int how), .val (.int (0 : Int32)), .val (.int (2 : Int32)), .val (.int n81), .val (.int n84), .val (.int n87), .val (.int s92), .val (.int s97), .val (.int s102), .val (.ref r105), .unset, .unset] [(.int (2 : Int32))]
    refine w_iload ok at_133 rfl ?_
    show W K l _ n0 _ h104 1 0 135 #[.val (.int ln), .val (.int nbs), .val (.int sbs), .val (.int how), .val (.int (0 : Int32)), .val (.int (2 : Int32)), .val (.int n81), .val (.int n84), .val (.int n87), .val (.int s92), .val (.int s97), .val (.int s102), .val (.ref r105), .unset, .unset] [(.int n81), (.int (2 : Int32))]
    refine w_iload ok at_135 rfl ?_
    show W K l _ n0 _ h104 1 0 137 #[.val (.int ln), .val (.int nbs), .val (.int sbs), .val (.int how), .val (.int (0 : Int32)), .val (.int (2 : Int32)), .val (.int n81), .val (.int n84), .val (.int n87), .val (.int s92), .val (.int s97), .val (.int s102), .val (.ref r105), .unset, .unset] [(.int n84), (.int n81), (.int (2 : Int32))]
    refine w_iload ok at_137 rfl ?_
    show W K l _ n0 _ h104 1 0 139 #[.val (.int ln), .val (.int nbs), .val (.int sbs), .val (.int how), .val (.int (0 : Int32)), .val (.int (2 : Int32)), .val (.int n81), .val (.int n84), .val (.int n87), .val (.int s92), .val (.int s97), .val (.int s102), .val (.ref r105), .unset, .unset] [(.int n87), (.int n84), (.int n81), (.int (2 : Int32))]
    refine w_callS ok (y := (⟨"com/example/turnstile/turnstile/server/CommandsIsPinLaw", "make", "(IBBB)[B"⟩ : MethodName)) (argsL := [(.int (2 : Int32)), (.int n81), (.int n84), (.int n87)]) (rest := []) at_139 (hw _ (List.mem_of_getElem? (i := 7) rfl)) (hw _ (List.mem_of_getElem? (i := 8) rfl)) (hw _ (List.mem_of_getElem? (i := 2) rfl)) (hw _ (List.mem_of_getElem? (i := 9) rfl)) (by decide) pd_28IBBB295bB rfl rfl (by decide) (Nat.le_of_ble_eq_true rfl) (by decide) (by decide) (fun z0 => rm_mk2 l Z a0 hw [] n0 h104 z0 n81 n84 n87) (fun v106 h107 qv106 => ?_)
    obtain ⟨r108, rfl, sz_r108, ge_r108, K1, A_r108⟩ := qv106
    have ne_r105_r108 : r105 ≠ r108 := Nat.ne_of_lt (Nat.lt_of_lt_of_le A_r105.lt sz_r108)
    replace A_r105 := A_r105.keep K1 nin0
    show W K l _ n0 _ h107 2 2 142 #[.val (.int ln), .val (.int nbs), .val (.int sbs), .val (.int how), .val (.int (0 : Int32)), .val (.int (2 : Int32)), .val (.int n81), .val (.int n84), .val (.int n87), .val (.int s92), .val (.int s97), .val (.int s102), .val (.ref r105), .unset, .unset] [(.ref r108)]
    refine w_astore ok at_142 rfl (L' := #[.val (.int ln), .val (.int nbs), .val (.int sbs), .val (.int how), .val (.int (0 : Int32)), .val (.int (2 : Int32)), .val (.int n81), .val (.int n84), .val (.int n87), .val (.int s92), .val (.int s97), .val (.int s102), .val (.ref r105), .val (.ref r108), .unset]) rfl ?_
    show W K l _ n0 _ h107 2 2 144 #[.val (.int ln), .val (.int nbs), .val (.int sbs), .val (.int how), .val (.int (0 : Int32)), .val (.int (2 : Int32)), .val (.int n81), .val (.int n84), .val (.int n87), .val (.int s92), .val (.int s97), .val (.int s102), .val (.ref r105), .val (.ref r108), .unset] []
    refine w_iload ok at_144 rfl ?_
    show W K l _ n0 _ h107 2 2 146 #[.val (.int ln), .val (.int nbs), .val (.int sbs), .val (.int how), .val (.int (0 : Int32)), .val (.int (2 : Int32)), .val (.int n81), .val (.int n84), .val (.int n87), .val (.int s92), .val (.int s97), .val (.int s102), .val (.ref r105), .val (.ref r108), .unset] [(.int (0 : Int32))]
    refine w_iload ok at_146 rfl ?_
    show W K l _ n0 _ h107 2 2 148 #[.val (.int ln), .val (.int nbs), .val (.int sbs), .val (.int how), .val (.int (0 : Int32)), .val (.int (2 : Int32)), .val (.int n81), .val (.int n84), .val (.int n87), .val (.int s92), .val (.int s97), .val (.int s102), .val (.ref r105), .val (.ref r108), .unset] [(.int (2 : Int32)), (.int (0 : Int32))]
    refine w_icmp_ne ok at_148 (pc' := 203) (by decide) (fun hc110 => ?_) (fun hc110 => False.elim (by revert hc110; decide))
    show W K l _ n0 _ h107 2 2 203 #[.val (.int ln), .val (.int nbs), .val (.int sbs), .val (.int how), .val (.int (0 : Int32)), .val (.int (2 : Int32)), .val (.int n81), .val (.int n84), .val (.int n87), .val (.int s92), .val (.int s97), .val (.int s102), .val (.ref r105), .val (.ref r108), .unset] []
    refine w_iconst ok at_203 (v := (0 : Int32)) rfl ?_
    show W K l _ n0 _ h107 2 2 204 #[.val (.int ln), .val (.int nbs), .val (.int sbs), .val (.int how), .val (.int (0 : Int32)), .val (.int (2 : Int32)), .val (.int n81), .val (.int n84), .val (.int n87), .val (.int s92), .val (.int s97), .val (.int s102), .val (.ref r105), .val (.ref r108), .unset] [(.int (0 : Int32))]
    refine w_istore ok at_204 (L' := #[.val (.int ln), .val (.int nbs), .val (.int sbs), .val (.int how), .val (.int (0 : Int32)), .val (.int (2 : Int32)), .val (.int n81), .val (.int n84), .val (.int n87), .val (.int s92), .val (.int s97), .val (.int s102), .val (.ref r105), .val (.ref r108), .val (.int (0 : Int32))]) rfl ?_
    show W K l _ n0 _ h107 2 2 206 #[.val (.int ln), .val (.int nbs), .val (.int sbs), .val (.int how), .val (.int (0 : Int32)), .val (.int (2 : Int32)), .val (.int n81), .val (.int n84), .val (.int n87), .val (.int s92), .val (.int s97), .val (.int s102), .val (.ref r105), .val (.ref r108), .val (.int (0 : Int32))] []
    refine w_aload ok at_206 rfl rfl ?_
    show W K l _ n0 _ h107 2 2 208 #[.val (.int ln), .val (.int nbs), .val (.int sbs), .val (.int how), .val (.int (0 : Int32)), .val (.int (2 : Int32)), .val (.int n81), .val (.int n84), .val (.int n87), .val (.int s92), .val (.int s97), .val (.int s102), .val (.ref r105), .val (.ref r108), .val (.int (0 : Int32))] [(.ref r105)]
    refine w_aload ok at_208 rfl rfl ?_
    show W K l _ n0 _ h107 2 2 210 #[.val (.int ln), .val (.int nbs), .val (.int sbs), .val (.int how), .val (.int (0 : Int32)), .val (.int (2 : Int32)), .val (.int n81), .val (.int n84), .val (.int n87), .val (.int s92), .val (.int s97), .val (.int s102), .val (.ref r105), .val (.ref r108), .val (.int (0 : Int32))] [(.ref r108), (.ref r105)]
    refine w_callS ok (y := (⟨"com/example/turnstile/turnstile/server/Commands", "is", "([B[B)Z"⟩ : MethodName)) (argsL := [(.ref r105), (.ref r108)]) (rest := []) at_210 (hw _ (List.mem_of_getElem? (i := 11) rfl)) (hw _ (List.mem_of_getElem? (i := 12) rfl)) (hw _ (List.mem_of_getElem? (i := 13) rfl)) (hw _ (List.mem_of_getElem? (i := 14) rfl)) (by decide) pd_285bB5bB29Z rfl rfl (by decide) (Nat.le_of_ble_eq_true rfl) (by decide) (by decide) (fun z0 => rm_is l Z a0 hw [] n0 h107 z0 r105 r108 [] [nar .byte n81, nar .byte n84] A_r105 A_r108) (fun v111 h112 qv111 => ?_)
    obtain ⟨rfl, rfl⟩ := qv111
    show W K l _ n0 _ h107 2 2 213 #[.val (.int ln), .val (.int nbs), .val (.int sbs), .val (.int how), .val (.int (0 : Int32)), .val (.int (2 : Int32)), .val (.int n81), .val (.int n84), .val (.int n87), .val (.int s92), .val (.int s97), .val (.int s102), .val (.ref r105), .val (.ref r108), .val (.int (0 : Int32))] [(.int (nar .boolean (own_isl [] [nar .byte n81, nar .byte n84])))]
    refine w_iload ok at_213 rfl ?_
    show W K l _ n0 _ h107 2 2 215 #[.val (.int ln), .val (.int nbs), .val (.int sbs), .val (.int how), .val (.int (0 : Int32)), .val (.int (2 : Int32)), .val (.int n81), .val (.int n84), .val (.int n87), .val (.int s92), .val (.int s97), .val (.int s102), .val (.ref r105), .val (.ref r108), .val (.int (0 : Int32))] [(.int (0 : Int32)), (.int (nar .boolean (own_isl [] [nar .byte n81, nar .byte n84])))]
    refine w_icmp_ne ok at_215 (pc' := 222) (by decide) (fun hc114 => False.elim (by exact hc114 (by rw [own_isl_len (by simp)] <;> rfl))) (fun hc114 => ?_)
    show W K l _ n0 _ h107 2 2 218 #[.val (.int ln), .val (.int nbs), .val (.int sbs), .val (.int how), .val (.int (0 : Int32)), .val (.int (2 : Int32)), .val (.int n81), .val (.int n84), .val (.int n87), .val (.int s92), .val (.int s97), .val (.int s102), .val (.ref r105), .val (.ref r108), .val (.int (0 : Int32))] []
    refine w_iconst ok at_218 (v := (1 : Int32)) rfl ?_
    show W K l _ n0 _ h107 2 2 219 #[.val (.int ln), .val (.int nbs), .val (.int sbs), .val (.int how), .val (.int (0 : Int32)), .val (.int (2 : Int32)), .val (.int n81), .val (.int n84), .val (.int n87), .val (.int s92), .val (.int s97), .val (.int s102), .val (.ref r105), .val (.ref r108), .val (.int (0 : Int32))] [(.int (1 : Int32))]
    refine w_goto ok at_219 (pc' := 223) (by decide) ?_
    show W K l _ n0 _ h107 2 2 223 #[.val (.int ln), .val (.int nbs), .val (.int sbs), .val (.int how), .val (.int (0 : Int32)), .val (.int (2 : Int32)), .val (.int n81), .val (.int n84), .val (.int n87), .val (.int s92), .val (.int s97), .val (.int s102), .val (.ref r105), .val (.ref r108), .val (.int (0 : Int32))] [(.int (1 : Int32))]
    refine w_bret ok (by simp) at_223 (by decide) (by decide) ?_
    exact rfl
  · skip
    show W K l _ n0 _ h0 0 0 25 #[.val (.int ln), .val (.int nbs), .val (.int sbs), .val (.int how), .val (.int (0 : Int32)), .val (.int (3 : Int32)), .unset, .unset, .unset, .unset, .unset, .unset, .unset, .unset, .unset] []
    refine w_iloadN ok at_25 rfl ?_
    show W K l _ n0 _ h0 0 0 26 #[.val (.int ln), .val (.int nbs), .val (.int sbs), .val (.int how), .val (.int (0 : Int32)), .val (.int (3 : Int32)), .unset, .unset, .unset, .unset, .unset, .unset, .unset, .unset, .unset] [(.int nbs)]
    refine w_callS ok (y := (⟨"com/example/turnstile/turnstile/server/CommandsIsPinLaw", "nameByte", "(I)B"⟩ : MethodName)) (argsL := [(.int nbs)]) (rest := []) at_26 (hw _ (List.mem_of_getElem? (i := 0) rfl)) (hw _ (List.mem_of_getElem? (i := 1) rfl)) (hw _ (List.mem_of_getElem? (i := 2) rfl)) (hw _ (List.mem_of_getElem? (i := 3) rfl)) (by decide) pd_28I29B rfl rfl (by decide) (Nat.le_of_ble_eq_true rfl) (by decide) (by decide) (fun z0 => rm_nb l Z a0 hw [] n0 h0 z0 nbs) (fun v115 h116 qv115 => ?_)
    obtain ⟨n117, rfl, h1_n117, h2_n117, rfl⟩ := qv115
    show W K l _ n0 _ h0 0 0 29 #[.val (.int ln), .val (.int nbs), .val (.int sbs), .val (.int how), .val (.int (0 : Int32)), .val (.int (3 : Int32)), .unset, .unset, .unset, .unset, .unset, .unset, .unset, .unset, .unset] [(.int n117)]
    refine w_istore ok at_29 (L' := #[.val (.int ln), .val (.int nbs), .val (.int sbs), .val (.int how), .val (.int (0 : Int32)), .val (.int (3 : Int32)), .val (.int n117), .unset, .unset, .unset, .unset, .unset, .unset, .unset, .unset]) rfl ?_
    show W K l _ n0 _ h0 0 0 31 #[.val (.int ln), .val (.int nbs), .val (.int sbs), .val (.int how), .val (.int (0 : Int32)), .val (.int (3 : Int32)), .val (.int n117), .unset, .unset, .unset, .unset, .unset, .unset, .unset, .unset] []
    refine w_iloadN ok at_31 rfl ?_
    show W K l _ n0 _ h0 0 0 32 #[.val (.int ln), .val (.int nbs), .val (.int sbs), .val (.int how), .val (.int (0 : Int32)), .val (.int (3 : Int32)), .val (.int n117), .unset, .unset, .unset, .unset, .unset, .unset, .unset, .unset] [(.int nbs)]
    refine w_bipush ok at_32 (v := (8 : Int32)) rfl ?_
    show W K l _ n0 _ h0 0 0 34 #[.val (.int ln), .val (.int nbs), .val (.int sbs), .val (.int how), .val (.int (0 : Int32)), .val (.int (3 : Int32)), .val (.int n117), .unset, .unset, .unset, .unset, .unset, .unset, .unset, .unset] [(.int (8 : Int32)), (.int nbs)]
    refine w_ishr ok at_34 ?_
    show W K l _ n0 _ h0 0 0 35 #[.val (.int ln), .val (.int nbs), .val (.int sbs), .val (.int how), .val (.int (0 : Int32)), .val (.int (3 : Int32)), .val (.int n117), .unset, .unset, .unset, .unset, .unset, .unset, .unset, .unset] [(.int (nbs >>> ((8 : Int32) &&& 31)))]
    refine w_callS ok (y := (⟨"com/example/turnstile/turnstile/server/CommandsIsPinLaw", "nameByte", "(I)B"⟩ : MethodName)) (argsL := [(.int (nbs >>> ((8 : Int32) &&& 31)))]) (rest := []) at_35 (hw _ (List.mem_of_getElem? (i := 0) rfl)) (hw _ (List.mem_of_getElem? (i := 1) rfl)) (hw _ (List.mem_of_getElem? (i := 2) rfl)) (hw _ (List.mem_of_getElem? (i := 3) rfl)) (by decide) pd_28I29B rfl rfl (by decide) (Nat.le_of_ble_eq_true rfl) (by decide) (by decide) (fun z0 => rm_nb l Z a0 hw [] n0 h0 z0 (nbs >>> ((8 : Int32) &&& 31))) (fun v118 h119 qv118 => ?_)
    obtain ⟨n120, rfl, h1_n120, h2_n120, rfl⟩ := qv118
    show W K l _ n0 _ h0 0 0 38 #[.val (.int ln), .val (.int nbs), .val (.int sbs), .val (.int how), .val (.int (0 : Int32)), .val (.int (3 : Int32)), .val (.int n117), .unset, .unset, .unset, .unset, .unset, .unset, .unset, .unset] [(.int n120)]
    refine w_istore ok at_38 (L' := #[.val (.int ln), .val (.int nbs), .val (.int sbs), .val (.int how), .val (.int (0 : Int32)), .val (.int (3 : Int32)), .val (.int n117), .val (.int n120), .unset, .unset, .unset, .unset, .unset, .unset, .unset]) rfl ?_
    show W K l _ n0 _ h0 0 0 40 #[.val (.int ln), .val (.int nbs), .val (.int sbs), .val (.int how), .val (.int (0 : Int32)), .val (.int (3 : Int32)), .val (.int n117), .val (.int n120), .unset, .unset, .unset, .unset, .unset, .unset, .unset] []
    refine w_iloadN ok at_40 rfl ?_
    show W K l _ n0 _ h0 0 0 41 #[.val (.int ln), .val (.int nbs), .val (.int sbs), .val (.int how), .val (.int (0 : Int32)), .val (.int (3 : Int32)), .val (.int n117), .val (.int n120), .unset, .unset, .unset, .unset, .unset, .unset, .unset] [(.int nbs)]
    refine w_bipush ok at_41 (v := (16 : Int32)) rfl ?_
    show W K l _ n0 _ h0 0 0 43 #[.val (.int ln), .val (.int nbs), .val (.int sbs), .val (.int how), .val (.int (0 : Int32)), .val (.int (3 : Int32)), .val (.int n117), .val (.int n120), .unset, .unset, .unset, .unset, .unset, .unset, .unset] [(.int (16 : Int32)), (.int nbs)]
    refine w_ishr ok at_43 ?_
    show W K l _ n0 _ h0 0 0 44 #[.val (.int ln), .val (.int nbs), .val (.int sbs), .val (.int how), .val (.int (0 : Int32)), .val (.int (3 : Int32)), .val (.int n117), .val (.int n120), .unset, .unset, .unset, .unset, .unset, .unset, .unset] [(.int (nbs >>> ((16 : Int32) &&& 31)))]
    refine w_callS ok (y := (⟨"com/example/turnstile/turnstile/server/CommandsIsPinLaw", "nameByte", "(I)B"⟩ : MethodName)) (argsL := [(.int (nbs >>> ((16 : Int32) &&& 31)))]) (rest := []) at_44 (hw _ (List.mem_of_getElem? (i := 0) rfl)) (hw _ (List.mem_of_getElem? (i := 1) rfl)) (hw _ (List.mem_of_getElem? (i := 2) rfl)) (hw _ (List.mem_of_getElem? (i := 3) rfl)) (by decide) pd_28I29B rfl rfl (by decide) (Nat.le_of_ble_eq_true rfl) (by decide) (by decide) (fun z0 => rm_nb l Z a0 hw [] n0 h0 z0 (nbs >>> ((16 : Int32) &&& 31))) (fun v121 h122 qv121 => ?_)
    obtain ⟨n123, rfl, h1_n123, h2_n123, rfl⟩ := qv121
    show W K l _ n0 _ h0 0 0 47 #[.val (.int ln), .val (.int nbs), .val (.int sbs), .val (.int how), .val (.int (0 : Int32)), .val (.int (3 : Int32)), .val (.int n117), .val (.int n120), .unset, .unset, .unset, .unset, .unset, .unset, .unset] [(.int n123)]
    refine w_istore ok at_47 (L' := #[.val (.int ln), .val (.int nbs), .val (.int sbs), .val (.int how), .val (.int (0 : Int32)), .val (.int (3 : Int32)), .val (.int n117), .val (.int n120), .val (.int n123), .unset, .unset, .unset, .unset, .unset, .unset]) rfl ?_
    show W K l _ n0 _ h0 0 0 49 #[.val (.int ln), .val (.int nbs), .val (.int sbs), .val (.int how), .val (.int (0 : Int32)), .val (.int (3 : Int32)), .val (.int n117), .val (.int n120), .val (.int n123), .unset, .unset, .unset, .unset, .unset, .unset] []
    refine w_iloadN ok at_49 rfl ?_
    show W K l _ n0 _ h0 0 0 50 #[.val (.int ln), .val (.int nbs), .val (.int sbs), .val (.int how), .val (.int (0 : Int32)), .val (.int (3 : Int32)), .val (.int n117), .val (.int n120), .val (.int n123), .unset, .unset, .unset, .unset, .unset, .unset] [(.int how)]
    refine w_iloadN ok at_50 rfl ?_
    show W K l _ n0 _ h0 0 0 51 #[.val (.int ln), .val (.int nbs), .val (.int sbs), .val (.int how), .val (.int (0 : Int32)), .val (.int (3 : Int32)), .val (.int n117), .val (.int n120), .val (.int n123), .unset, .unset, .unset, .unset, .unset, .unset] [(.int sbs), (.int how)]
    refine w_iload ok at_51 rfl ?_
    show W K l _ n0 _ h0 0 0 53 #[.val (.int ln), .val (.int nbs), .val (.int sbs), .val (.int how), .val (.int (0 : Int32)), .val (.int (3 : Int32)), .val (.int n117), .val (.int n120), .val (.int n123), .unset, .unset, .unset, .unset, .unset, .unset] [(.int n117), (.int sbs), (.int how)]
    refine w_iload ok at_53 rfl ?_
    show W K l _ n0 _ h0 0 0 55 #[.val (.int ln), .val (.int nbs), .val (.int sbs), .val (.int how), .val (.int (0 : Int32)), .val (.int (3 : Int32)), .val (.int n117), .val (.int n120), .val (.int n123), .unset, .unset, .unset, .unset, .unset, .unset] [(.int (3 : Int32)), (.int n117), (.int sbs), (.int how)]
    refine w_if_le ok at_55 (pc' := 62) (by decide) (fun hc125 => False.elim (by revert hc125; decide)) (fun hc125 => ?_)
    show W K l _ n0 _ h0 0 0 58 #[.val (.int ln), .val (.int nbs), .val (.int sbs), .val (.int how), .val (.int (0 : Int32)), .val (.int (3 : Int32)), .val (.int n117), .val (.int n120), .val (.int n123), .unset, .unset, .unset, .unset, .unset, .unset] [(.int n117), (.int sbs), (.int how)]
    refine w_iconst ok at_58 (v := (1 : Int32)) rfl ?_
    show W K l _ n0 _ h0 0 0 59 #[.val (.int ln), .val (.int nbs), .val (.int sbs), .val (.int how), .val (.int (0 : Int32)), .val (.int (3 : Int32)), .val (.int n117), .val (.int n120), .val (.int n123), .unset, .unset, .unset, .unset, .unset, .unset] [(.int (1 : Int32)), (.int n117), (.int sbs), (.int how)]
    refine w_goto ok at_59 (pc' := 63) (by decide) ?_
    show W K l _ n0 _ h0 0 0 63 #[.val (.int ln), .val (.int nbs), .val (.int sbs), .val (.int how), .val (.int (0 : Int32)), .val (.int (3 : Int32)), .val (.int n117), .val (.int n120), .val (.int n123), .unset, .unset, .unset, .unset, .unset, .unset] [(.int (1 : Int32)), (.int n117), (.int sbs), (.int how)]
    refine w_callS ok (y := (⟨"com/example/turnstile/turnstile/server/CommandsIsPinLaw", "sentByte", "(IIBZ)B"⟩ : MethodName)) (argsL := [(.int how), (.int sbs), (.int n117), (.int (1 : Int32))]) (rest := []) at_63 (hw _ (List.mem_of_getElem? (i := 4) rfl)) (hw _ (List.mem_of_getElem? (i := 5) rfl)) (hw _ (List.mem_of_getElem? (i := 2) rfl)) (hw _ (List.mem_of_getElem? (i := 6) rfl)) (by decide) pd_28IIBZ29B rfl rfl (by decide) (Nat.le_of_ble_eq_true rfl) (by decide) (by decide) (fun z0 => rm_sb l Z a0 hw [] n0 h0 z0 how sbs n117 (1 : Int32)) (fun v126 h127 qv126 => ?_)
    obtain ⟨s128, rfl, h1_s128, rfl⟩ := qv126
    show W K l _ n0 _ h0 0 0 66 #[.val (.int ln), .val (.int nbs), .val (.int sbs), .val (.int how), .val (.int (0 : Int32)), .val (.int (3 : Int32)), .val (.int n117), .val (.int n120), .val (.int n123), .unset, .unset, .unset, .unset, .unset, .unset] [(.int s128)]
    refine w_istore ok at_66 (L' := #[.val (.int ln), .val (.int nbs), .val (.int sbs), .val (.int how), .val (.int (0 : Int32)), .val (.int (3 : Int32)), .val (.int n117), .val (.int n120), .val (.int n123), .val (.int s128), .unset, .unset, .unset, .unset, .unset]) rfl ?_
    show W K l _ n0 _ h0 0 0 68 #[.val (.int ln), .val (.int nbs), .val (.int sbs), .val (.int how), .val (.int (0 : Int32)), .val (.int (3 : Int32)), .val (.int n117), .val (.int n120), .val (.int n123), .val (.int s128), .unset, .unset, .unset, .unset, .unset] []
    refine w_iloadN ok at_68 rfl ?_
    show W K l _ n0 _ h0 0 0 69 #[.val (.int ln), .val (.int nbs), .val (.int sbs), .val (.int how), .val (.int (0 : Int32)), .val (.int (3 : Int32)), .val (.int n117), .val (.int n120), .val (.int n123), .val (.int s128), .unset, .unset, .unset, .unset, .unset] [(.int how)]
    refine w_iconst ok at_69 (v := (2 : Int32)) rfl ?_
    show W K l _ n0 _ h0 0 0 70 #[.val (.int ln), .val (.int nbs), .val (.int sbs), .val (.int how), .val (.int (0 : Int32)), .val (.int (3 : Int32)), .val (.int n117), .val (.int n120), .val (.int n123), .val (.int s128), .unset, .unset, .unset, .unset, .unset] [(.int (2 : Int32)), (.int how)]
    refine w_ishr ok at_70 ?_
    show W K l _ n0 _ h0 0 0 71 #[.val (.int ln), .val (.int nbs), .val (.int sbs), .val (.int how), .val (.int (0 : Int32)), .val (.int (3 : Int32)), .val (.int n117), .val (.int n120), .val (.int n123), .val (.int s128), .unset, .unset, .unset, .unset, .unset] [(.int (how >>> ((2 : Int32) &&& 31)))]
    refine w_iloadN ok at_71 rfl ?_
    show W K l _ n0 _ h0 0 0 72 #[.val (.int ln), .val (.int nbs), .val (.int sbs), .val (.int how), .val (.int (0 : Int32)), .val (.int (3 : Int32)), .val (.int n117), .val (.int n120), .val (.int n123), .val (.int s128), .unset, .unset, .unset, .unset, .unset] [(.int sbs), (.int (how >>> ((2 : Int32) &&& 31)))]
    refine w_bipush ok at_72 (v := (8 : Int32)) rfl ?_
    show W K l _ n0 _ h0 0 0 74 #[.val (.int ln), .val (.int nbs), .val (.int sbs), .val (.int how), .val (.int (0 : Int32)), .val (.int (3 : Int32)), .val (.int n117), .val (.int n120), .val (.int n123), .val (.int s128), .unset, .unset, .unset, .unset, .unset] [(.int (8 : Int32)), (.int sbs), (.int (how >>> ((2 : Int32) &&& 31)))]
    refine w_ishr ok at_74 ?_
    show W K l _ n0 _ h0 0 0 75 #[.val (.int ln), .val (.int nbs), .val (.int sbs), .val (.int how), .val (.int (0 : Int32)), .val (.int (3 : Int32)), .val (.int n117), .val (.int n120), .val (.int n123), .val (.int s128), .unset, .unset, .unset, .unset, .unset] [(.int (sbs >>> ((8 : Int32) &&& 31))), (.int (how >>> ((2 : Int32) &&& 31)))]
    refine w_iload ok at_75 rfl ?_
    show W K l _ n0 _ h0 0 0 77 #[.val (.int ln), .val (.int nbs), .val (.int sbs), .val (.int how), .val (.int (0 : Int32)), .val (.int (3 : Int32)), .val (.int n117), .val (.int n120), .val (.int n123), .val (.int s128), .unset, .unset, .unset, .unset, .unset] [(.int n120), (.int (sbs >>> ((8 : Int32) &&& 31))), (.int (how >>> ((2 : Int32) &&& 31)))]
    refine w_iload ok at_77 rfl ?_
    show W K l _ n0 _ h0 0 0 79 #[.val (.int ln), .val (.int nbs), .val (.int sbs), .val (.int how), .val (.int (0 : Int32)), .val (.int (3 : Int32)), .val (.int n117), .val (.int n120), .val (.int n123), .val (.int s128), .unset, .unset, .unset, .unset, .unset] [(.int (3 : Int32)), (.int n120), (.int (sbs >>> ((8 : Int32) &&& 31))), (.int (how >>> ((2 : Int32) &&& 31)))]
    refine w_iconst ok at_79 (v := (1 : Int32)) rfl ?_
    show W K l _ n0 _ h0 0 0 80 #[.val (.int ln), .val (.int nbs), .val (.int sbs), .val (.int how), .val (.int (0 : Int32)), .val (.int (3 : Int32)), .val (.int n117), .val (.int n120), .val (.int n123), .val (.int s128), .unset, .unset, .unset, .unset, .unset] [(.int (1 : Int32)), (.int (3 : Int32)), (.int n120), (.int (sbs >>> ((8 : Int32) &&& 31))), (.int (how >>> ((2 : Int32) &&& 31)))]
    refine w_icmp_le ok at_80 (pc' := 87) (by decide) (fun hc130 => False.elim (by revert hc130; decide)) (fun hc130 => ?_)
    show W K l _ n0 _ h0 0 0 83 #[.val (.int ln), .val (.int nbs), .val (.int sbs), .val (.int how), .val (.int (0 : Int32)), .val (.int (3 : Int32)), .val (.int n117), .val (.int n120), .val (.int n123), .val (.int s128), .unset, .unset, .unset, .unset, .unset] [(.int n120), (.int (sbs >>> ((8 : Int32) &&& 31))), (.int (how >>> ((2 : Int32) &&& 31)))]
    refine w_iconst ok at_83 (v := (1 : Int32)) rfl ?_
    show W K l _ n0 _ h0 0 0 84 #[.val (.int ln), .val (.int nbs), .val (.int sbs), .val (.int how), .val (.int (0 : Int32)), .val (.int (3 : Int32)), .val (.int n117), .val (.int n120), .val (.int n123), .val (.int s128), .unset, .unset, .unset, .unset, .unset] [(.int (1 : Int32)), (.int n120), (.int (sbs >>> ((8 : Int32) &&& 31))), (.int (how >>> ((2 : Int32) &&& 31)))]
    refine w_goto ok at_84 (pc' := 88) (by decide) ?_
    show W K l _ n0 _ h0 0 0 88 #[.val (.int ln), .val (.int nbs), .val (.int sbs), .val (.int how), .val (.int (0 : Int32)), .val (.int (3 : Int32)), .val (.int n117), .val (.int n120), .val (.int n123), .val (.int s128), .unset, .unset, .unset, .unset, .unset] [(.int (1 : Int32)), (.int n120), (.int (sbs >>> ((8 : Int32) &&& 31))), (.int (how >>> ((2 : Int32) &&& 31)))]
    refine w_callS ok (y := (⟨"com/example/turnstile/turnstile/server/CommandsIsPinLaw", "sentByte", "(IIBZ)B"⟩ : MethodName)) (argsL := [(.int (how >>> ((2 : Int32) &&& 31))), (.int (sbs >>> ((8 : Int32) &&& 31))), (.int n120), (.int (1 : Int32))]) (rest := []) at_88 (hw _ (List.mem_of_getElem? (i := 4) rfl)) (hw _ (List.mem_of_getElem? (i := 5) rfl)) (hw _ (List.mem_of_getElem? (i := 2) rfl)) (hw _ (List.mem_of_getElem? (i := 6) rfl)) (by decide) pd_28IIBZ29B rfl rfl (by decide) (Nat.le_of_ble_eq_true rfl) (by decide) (by decide) (fun z0 => rm_sb l Z a0 hw [] n0 h0 z0 (how >>> ((2 : Int32) &&& 31)) (sbs >>> ((8 : Int32) &&& 31)) n120 (1 : Int32)) (fun v131 h132 qv131 => ?_)
    obtain ⟨s133, rfl, h1_s133, rfl⟩ := qv131
    show W K l _ n0 _ h0 0 0 91 #[.val (.int ln), .val (.int nbs), .val (.int sbs), .val (.int how), .val (.int (0 : Int32)), .val (.int (3 : Int32)), .val (.int n117), .val (.int n120), .val (.int n123), .val (.int s128), .unset, .unset, .unset, .unset, .unset] [(.int s133)]
    refine w_istore ok at_91 (L' := #[.val (.int ln), .val (.int nbs), .val (.int sbs), .val (.int how), .val (.int (0 : Int32)), .val (.int (3 : Int32)), .val (.int n117), .val (.int n120), .val (.int n123), .val (.int s128), .val (.int s133), .unset, .unset, .unset, .unset]) rfl ?_
    show W K l _ n0 _ h0 0 0 93 #[.val (.int ln), .val (.int nbs), .val (.int sbs), .val (.int how), .val (.int (0 : Int32)), .val (.int (3 : Int32)), .val (.int n117), .val (.int n120), .val (.int n123), .val (.int s128), .val (.int s133), .unset, .unset, .unset, .unset] []
    refine w_iloadN ok at_93 rfl ?_
    show W K l _ n0 _ h0 0 0 94 #[.val (.int ln), .val (.int nbs), .val (.int sbs), .val (.int how), .val (.int (0 : Int32)), .val (.int (3 : Int32)), .val (.int n117), .val (.int n120), .val (.int n123), .val (.int s128), .val (.int s133), .unset, .unset, .unset, .unset] [(.int how)]
    refine w_iconst ok at_94 (v := (4 : Int32)) rfl ?_
    show W K l _ n0 _ h0 0 0 95 #[.val (.int ln), .val (.int nbs), .val (.int sbs), .val (.int how), .val (.int (0 : Int32)), .val (.int (3 : Int32)), .val (.int n117), .val (.int n120), .val (.int n123), .val (.int s128), .val (.int s133), .unset, .unset, .unset, .unset] [(.int (4 : Int32)), (.int how)]
    refine w_ishr ok at_95 ?_
    show W K l _ n0 _ h0 0 0 96 #[.val (.int ln), .val (.int nbs), .val (.int sbs), .val (.int how), .val (.int (0 : Int32)), .val (.int (3 : Int32)), .val (.int n117), .val (.int n120), .val (.int n123), .val (.int s128), .val (.int s133), .unset, .unset, .unset, .unset] [(.int (how >>> ((4 : Int32) &&& 31)))]
    refine w_iloadN ok at_96 rfl ?_
    show W K l _ n0 _ h0 0 0 97 #[.val (.int ln), .val (.int nbs), .val (.int sbs), .val (.int how), .val (.int (0 : Int32)), .val (.int (3 : Int32)), .val (.int n117), .val (.int n120), .val (.int n123), .val (.int s128), .val (.int s133), .unset, .unset, .unset, .unset] [(.int sbs), (.int (how >>> ((4 : Int32) &&& 31)))]
    refine w_bipush ok at_97 (v := (16 : Int32)) rfl ?_
    show W K l _ n0 _ h0 0 0 99 #[.val (.int ln), .val (.int nbs), .val (.int sbs), .val (.int how), .val (.int (0 : Int32)), .val (.int (3 : Int32)), .val (.int n117), .val (.int n120), .val (.int n123), .val (.int s128), .val (.int s133), .unset, .unset, .unset, .unset] [(.int (16 : Int32)), (.int sbs), (.int (how >>> ((4 : Int32) &&& 31)))]
    refine w_ishr ok at_99 ?_
    show W K l _ n0 _ h0 0 0 100 #[.val (.int ln), .val (.int nbs), .val (.int sbs), .val (.int how), .val (.int (0 : Int32)), .val (.int (3 : Int32)), .val (.int n117), .val (.int n120), .val (.int n123), .val (.int s128), .val (.int s133), .unset, .unset, .unset, .unset] [(.int (sbs >>> ((16 : Int32) &&& 31))), (.int (how >>> ((4 : Int32) &&& 31)))]
    refine w_iload ok at_100 rfl ?_
    show W K l _ n0 _ h0 0 0 102 #[.val (.int ln), .val (.int nbs), .val (.int sbs), .val (.int how), .val (.int (0 : Int32)), .val (.int (3 : Int32)), .val (.int n117), .val (.int n120), .val (.int n123), .val (.int s128), .val (.int s133), .unset, .unset, .unset, .unset] [(.int n123), (.int (sbs >>> ((16 : Int32) &&& 31))), (.int (how >>> ((4 : Int32) &&& 31)))]
    refine w_iload ok at_102 rfl ?_
    show W K l _ n0 _ h0 0 0 104 #[.val (.int ln), .val (.int nbs), .val (.int sbs), .val (.int how), .val (.int (0 : Int32)), .val (.int (3 : Int32)), .val (.int n117), .val (.int n120), .val (.int n123), .val (.int s128), .val (.int s133), .unset, .unset, .unset, .unset] [(.int (3 : Int32)), (.int n123), (.int (sbs >>> ((16 : Int32) &&& 31))), (.int (how >>> ((4 : Int32) &&& 31)))]
    refine w_iconst ok at_104 (v := (2 : Int32)) rfl ?_
    show W K l _ n0 _ h0 0 0 105 #[.val (.int ln), .val (.int nbs), .val (.int sbs), .val (.int how), .val (.int (0 : Int32)), .val (.int (3 : Int32)), .val (.int n117), .val (.int n120), .val (.int n123), .val (.int s128), .val (.int s133), .unset, .unset, .unset, .unset] [(.int (2 : Int32)), (.int (3 : Int32)), (.int n123), (.int (sbs >>> ((16 : Int32) &&& 31))), (.int (how >>> ((4 : Int32) &&& 31)))]
    refine w_icmp_le ok at_105 (pc' := 112) (by decide) (fun hc135 => False.elim (by revert hc135; decide)) (fun hc135 => ?_)
    show W K l _ n0 _ h0 0 0 108 #[.val (.int ln), .val (.int nbs), .val (.int sbs), .val (.int how), .val (.int (0 : Int32)), .val (.int (3 : Int32)), .val (.int n117), .val (.int n120), .val (.int n123), .val (.int s128), .val (.int s133), .unset, .unset, .unset, .unset] [(.int n123), (.int (sbs >>> ((16 : Int32) &&& 31))), (.int (how >>> ((4 : Int32) &&& 31)))]
    refine w_iconst ok at_108 (v := (1 : Int32)) rfl ?_
    show W K l _ n0 _ h0 0 0 109 #[.val (.int ln), .val (.int nbs), .val (.int sbs), .val (.int how), .val (.int (0 : Int32)), .val (.int (3 : Int32)), .val (.int n117), .val (.int n120), .val (.int n123), .val (.int s128), .val (.int s133), .unset, .unset, .unset, .unset] [(.int (1 : Int32)), (.int n123), (.int (sbs >>> ((16 : Int32) &&& 31))), (.int (how >>> ((4 : Int32) &&& 31)))]
    refine w_goto ok at_109 (pc' := 113) (by decide) ?_
    show W K l _ n0 _ h0 0 0 113 #[.val (.int ln), .val (.int nbs), .val (.int sbs), .val (.int how), .val (.int (0 : Int32)), .val (.int (3 : Int32)), .val (.int n117), .val (.int n120), .val (.int n123), .val (.int s128), .val (.int s133), .unset, .unset, .unset, .unset] [(.int (1 : Int32)), (.int n123), (.int (sbs >>> ((16 : Int32) &&& 31))), (.int (how >>> ((4 : Int32) &&& 31)))]
    refine w_callS ok (y := (⟨"com/example/turnstile/turnstile/server/CommandsIsPinLaw", "sentByte", "(IIBZ)B"⟩ : MethodName)) (argsL := [(.int (how >>> ((4 : Int32) &&& 31))), (.int (sbs >>> ((16 : Int32) &&& 31))), (.int n123), (.int (1 : Int32))]) (rest := []) at_113 (hw _ (List.mem_of_getElem? (i := 4) rfl)) (hw _ (List.mem_of_getElem? (i := 5) rfl)) (hw _ (List.mem_of_getElem? (i := 2) rfl)) (hw _ (List.mem_of_getElem? (i := 6) rfl)) (by decide) pd_28IIBZ29B rfl rfl (by decide) (Nat.le_of_ble_eq_true rfl) (by decide) (by decide) (fun z0 => rm_sb l Z a0 hw [] n0 h0 z0 (how >>> ((4 : Int32) &&& 31)) (sbs >>> ((16 : Int32) &&& 31)) n123 (1 : Int32)) (fun v136 h137 qv136 => ?_)
    obtain ⟨s138, rfl, h1_s138, rfl⟩ := qv136
    show W K l _ n0 _ h0 0 0 116 #[.val (.int ln), .val (.int nbs), .val (.int sbs), .val (.int how), .val (.int (0 : Int32)), .val (.int (3 : Int32)), .val (.int n117), .val (.int n120), .val (.int n123), .val (.int s128), .val (.int s133), .unset, .unset, .unset, .unset] [(.int s138)]
    refine w_istore ok at_116 (L' := #[.val (.int ln), .val (.int nbs), .val (.int sbs), .val (.int how), .val (.int (0 : Int32)), .val (.int (3 : Int32)), .val (.int n117), .val (.int n120), .val (.int n123), .val (.int s128), .val (.int s133), .val (.int s138), .unset, .unset, .unset]) rfl ?_
    show W K l _ n0 _ h0 0 0 118 #[.val (.int ln), .val (.int nbs), .val (.int sbs), .val (.int how), .val (.int (0 : Int32)), .val (.int (3 : Int32)), .val (.int n117), .val (.int n120), .val (.int n123), .val (.int s128), .val (.int s133), .val (.int s138), .unset, .unset, .unset] []
    refine w_iload ok at_118 rfl ?_
    show W K l _ n0 _ h0 0 0 120 #[.val (.int ln), .val (.int nbs), .val (.int sbs), .val (.int how), .val (.int (0 : Int32)), .val (.int (3 : Int32)), .val (.int n117), .val (.int n120), .val (.int n123), .val (.int s128), .val (.int s133), .val (.int s138), .unset, .unset, .unset] [(.int (0 : Int32))]
    refine w_iload ok at_120 rfl ?_
    show W K l _ n0 _ h0 0 0 122 #[.val (.int ln), .val (.int nbs), .val (.int sbs), .val (.int how), .val (.int (0 : Int32)), .val (.int (3 : Int32)), .val (.int n117), .val (.int n120), .val (.int n123), .val (.int s128), .val (.int s133), .val (.int s138), .unset, .unset, .unset] [(.int s128), (.int (0 : Int32))]
    refine w_iload ok at_122 rfl ?_
    show W K l _ n0 _ h0 0 0 124 #[.val (.int ln), .val (.int nbs), .val (.int sbs), .val (.int how), .val (.int (0 : Int32)), .val (.int (3 : Int32)), .val (.int n117), .val (.int n120), .val (.int n123), .val (.int s128), .val (.int s133), .val (.int s138), .unset, .unset, .unset] [(.int s133), (.int s128), (.int (0 : Int32))]
    refine w_iload ok at_124 rfl ?_
    show W K l _ n0 _ h0 0 0 126 #[.val (.int ln), .val (.int nbs), .val (.int sbs), .val (.int how), .val (.int (0 : Int32)), .val (.int (3 : Int32)), .val (.int n117), .val (.int n120), .val (.int n123), .val (.int s128), .val (.int s133), .val (.int s138), .unset, .unset, .unset] [(.int s138), (.int s133), (.int s128), (.int (0 : Int32))]
    refine w_callS ok (y := (⟨"com/example/turnstile/turnstile/server/CommandsIsPinLaw", "make", "(IBBB)[B"⟩ : MethodName)) (argsL := [(.int (0 : Int32)), (.int s128), (.int s133), (.int s138)]) (rest := []) at_126 (hw _ (List.mem_of_getElem? (i := 7) rfl)) (hw _ (List.mem_of_getElem? (i := 8) rfl)) (hw _ (List.mem_of_getElem? (i := 2) rfl)) (hw _ (List.mem_of_getElem? (i := 9) rfl)) (by decide) pd_28IBBB295bB rfl rfl (by decide) (Nat.le_of_ble_eq_true rfl) (by decide) (by decide) (fun z0 => rm_mk0 l Z a0 hw [] n0 h0 z0 s128 s133 s138) (fun v139 h140 qv139 => ?_)
    obtain ⟨r141, rfl, sz_r141, ge_r141, K1, A_r141⟩ := qv139
    show W K l _ n0 _ h140 1 0 129 #[.val (.int ln), .val (.int nbs), .val (.int sbs), .val (.int how), .val (.int (0 : Int32)), .val (.int (3 : Int32)), .val (.int n117), .val (.int n120), .val (.int n123), .val (.int s128), .val (.int s133), .val (.int s138), .unset, .unset, .unset] [(.ref r141)]
    refine w_astore ok at_129 rfl (L' := #[.val (.int ln), .val (.int nbs), .val (.int sbs), .val (.int how), .val (.int (0 : Int32)), .val (.int (3 : Int32)), .val (.int n117), .val (.int n120), .val (.int n123), .val (.int s128), .val (.int s133), .val (.int s138), .val (.ref r141), .unset, .unset]) rfl ?_
    show W K l _ n0 _ h140 1 0 131 #[.val (.int ln), .val (.int nbs), .val (.int sbs), .val (.int how), .val (.int (0 : Int32)), .val (.int (3 : Int32)), .val (.int n117), .val (.int n120), .val (.int n123), .val (.int s128), .val (.int s133), .val (.int s138), .val (.ref r141), .unset, .unset] []
    refine w_iload ok at_131 rfl ?_
    show W K l _ n0 _ h140 1 0 133 #[.val (.int ln), .val (.int nbs), .val (.int sbs), .val (.int how), .val (.int (0 : Int32)), .val (.int (3 : Int32)), .val (.int n117), .val (.int n120), .val (.int n123), .val (.int s128), .val (.int s133), .val (.int s138), .val (.ref r141), .unset, .unset] [(.int (3 : Int32))]
    refine w_iload ok at_133 rfl ?_
    show W K l _ n0 _ h140 1 0 135 #[.val (.int ln), .val (.int nbs), .val (.int sbs), .val (.int how), .val (.int (0 : Int32)), .val (.int (3 : Int32)), .val (.int n117), .val (.int n120), .val (.int n123), .val (.int s128), .val (.int s133), .val (.int s138), .val (.ref r141), .unset, .unset] [(.int n117), (.int (3 : Int32))]
    refine w_iload ok at_135 rfl ?_
    show W K l _ n0 _ h140 1 0 137 #[.val (.int ln), .val (.int nbs), .val (.int sbs), .val (.int how), .val (.int (0 : Int32)), .val (.int (3 : Int32)), .val (.int n117), .val (.int n120), .val (.int n123), .val (.int s128), .val (.int s133), .val (.int s138), .val (.ref r141), .unset, .unset] [(.int n120), (.int n117), (.int (3 : Int32))]
    refine w_iload ok at_137 rfl ?_
    show W K l _ n0 _ h140 1 0 139 #[.val (.int ln), .val (.int nbs), .val (.int sbs), .val (.int how), .val (.int (0 : Int32)), .val (.int (3 : Int32)), .val (.int n117), .val (.int n120), .val (.int n123), .val (.int s128), .val (.int s133), .val (.int s138), .val (.ref r141), .unset, .unset] [(.int n123), (.int n120), (.int n117), (.int (3 : Int32))]
    refine w_callS ok (y := (⟨"com/example/turnstile/turnstile/server/CommandsIsPinLaw", "make", "(IBBB)[B"⟩ : MethodName)) (argsL := [(.int (3 : Int32)), (.int n117), (.int n120), (.int n123)]) (rest := []) at_139 (hw _ (List.mem_of_getElem? (i := 7) rfl)) (hw _ (List.mem_of_getElem? (i := 8) rfl)) (hw _ (List.mem_of_getElem? (i := 2) rfl)) (hw _ (List.mem_of_getElem? (i := 9) rfl)) (by decide) pd_28IBBB295bB rfl rfl (by decide) (Nat.le_of_ble_eq_true rfl) (by decide) (by decide) (fun z0 => rm_mk3 l Z a0 hw [] n0 h140 z0 n117 n120 n123) (fun v142 h143 qv142 => ?_)
    obtain ⟨r144, rfl, sz_r144, ge_r144, K1, A_r144⟩ := qv142
    have ne_r141_r144 : r141 ≠ r144 := Nat.ne_of_lt (Nat.lt_of_lt_of_le A_r141.lt sz_r144)
    replace A_r141 := A_r141.keep K1 nin0
    show W K l _ n0 _ h143 2 3 142 #[.val (.int ln), .val (.int nbs), .val (.int sbs), .val (.int how), .val (.int (0 : Int32)), .val (.int (3 : Int32)), .val (.int n117), .val (.int n120), .val (.int n123), .val (.int s128), .val (.int s133), .val (.int s138), .val (.ref r141), .unset, .unset] [(.ref r144)]
    refine w_astore ok at_142 rfl (L' := #[.val (.int ln), .val (.int nbs), .val (.int sbs), .val (.int how), .val (.int (0 : Int32)), .val (.int (3 : Int32)), .val (.int n117), .val (.int n120), .val (.int n123), .val (.int s128), .val (.int s133), .val (.int s138), .val (.ref r141), .val (.ref r144), .unset]) rfl ?_
    show W K l _ n0 _ h143 2 3 144 #[.val (.int ln), .val (.int nbs), .val (.int sbs), .val (.int how), .val (.int (0 : Int32)), .val (.int (3 : Int32)), .val (.int n117), .val (.int n120), .val (.int n123), .val (.int s128), .val (.int s133), .val (.int s138), .val (.ref r141), .val (.ref r144), .unset] []
    refine w_iload ok at_144 rfl ?_
    show W K l _ n0 _ h143 2 3 146 #[.val (.int ln), .val (.int nbs), .val (.int sbs), .val (.int how), .val (.int (0 : Int32)), .val (.int (3 : Int32)), .val (.int n117), .val (.int n120), .val (.int n123), .val (.int s128), .val (.int s133), .val (.int s138), .val (.ref r141), .val (.ref r144), .unset] [(.int (0 : Int32))]
    refine w_iload ok at_146 rfl ?_
    show W K l _ n0 _ h143 2 3 148 #[.val (.int ln), .val (.int nbs), .val (.int sbs), .val (.int how), .val (.int (0 : Int32)), .val (.int (3 : Int32)), .val (.int n117), .val (.int n120), .val (.int n123), .val (.int s128), .val (.int s133), .val (.int s138), .val (.ref r141), .val (.ref r144), .unset] [(.int (3 : Int32)), (.int (0 : Int32))]
    refine w_icmp_ne ok at_148 (pc' := 203) (by decide) (fun hc146 => ?_) (fun hc146 => False.elim (by revert hc146; decide))
    show W K l _ n0 _ h143 2 3 203 #[.val (.int ln), .val (.int nbs), .val (.int sbs), .val (.int how), .val (.int (0 : Int32)), .val (.int (3 : Int32)), .val (.int n117), .val (.int n120), .val (.int n123), .val (.int s128), .val (.int s133), .val (.int s138), .val (.ref r141), .val (.ref r144), .unset] []
    refine w_iconst ok at_203 (v := (0 : Int32)) rfl ?_
    show W K l _ n0 _ h143 2 3 204 #[.val (.int ln), .val (.int nbs), .val (.int sbs), .val (.int how), .val (.int (0 : Int32)), .val (.int (3 : Int32)), .val (.int n117), .val (.int n120), .val (.int n123), .val (.int s128), .val (.int s133), .val (.int s138), .val (.ref r141), .val (.ref r144), .unset] [(.int (0 : Int32))]
    refine w_istore ok at_204 (L' := #[.val (.int ln), .val (.int nbs), .val (.int sbs), .val (.int how), .val (.int (0 : Int32)), .val (.int (3 : Int32)), .val (.int n117), .val (.int n120), .val (.int n123), .val (.int s128), .val (.int s133), .val (.int s138), .val (.ref r141), .val (.ref r144), .val (.int (0 : Int32))]) rfl ?_
    show W K l _ n0 _ h143 2 3 206 #[.val (.int ln), .val (.int nbs), .val (.int sbs), .val (.int how), .val (.int (0 : Int32)), .val (.int (3 : Int32)), .val (.int n117), .val (.int n120), .val (.int n123), .val (.int s128), .val (.int s133), .val (.int s138), .val (.ref r141), .val (.ref r144), .val (.int (0 : Int32))] []
    refine w_aload ok at_206 rfl rfl ?_
    show W K l _ n0 _ h143 2 3 208 #[.val (.int ln), .val (.int nbs), .val (.int sbs), .val (.int how), .val (.int (0 : Int32)), .val (.int (3 : Int32)), .val (.int n117), .val (.int n120), .val (.int n123), .val (.int s128), .val (.int s133), .val (.int s138), .val (.ref r141), .val (.ref r144), .val (.int (0 : Int32))] [(.ref r141)]
    refine w_aload ok at_208 rfl rfl ?_
    show W K l _ n0 _ h143 2 3 210 #[.val (.int ln), .val (.int nbs), .val (.int sbs), .val (.int how), .val (.int (0 : Int32)), .val (.int (3 : Int32)), .val (.int n117), .val (.int n120), .val (.int n123), .val (.int s128), .val (.int s133), .val (.int s138), .val (.ref r141), .val (.ref r144), .val (.int (0 : Int32))] [(.ref r144), (.ref r141)]
    refine w_callS ok (y := (⟨"com/example/turnstile/turnstile/server/Commands", "is", "([B[B)Z"⟩ : MethodName)) (argsL := [(.ref r141), (.ref r144)]) (rest := []) at_210 (hw _ (List.mem_of_getElem? (i := 11) rfl)) (hw _ (List.mem_of_getElem? (i := 12) rfl)) (hw _ (List.mem_of_getElem? (i := 13) rfl)) (hw _ (List.mem_of_getElem? (i := 14) rfl)) (by decide) pd_285bB5bB29Z rfl rfl (by decide) (Nat.le_of_ble_eq_true rfl) (by decide) (by decide) (fun z0 => rm_is l Z a0 hw [] n0 h143 z0 r141 r144 [] [nar .byte n117, nar .byte n120, nar .byte n123] A_r141 A_r144) (fun v147 h148 qv147 => ?_)
    obtain ⟨rfl, rfl⟩ := qv147
    show W K l _ n0 _ h143 2 3 213 #[.val (.int ln), .val (.int nbs), .val (.int sbs), .val (.int how), .val (.int (0 : Int32)), .val (.int (3 : Int32)), .val (.int n117), .val (.int n120), .val (.int n123), .val (.int s128), .val (.int s133), .val (.int s138), .val (.ref r141), .val (.ref r144), .val (.int (0 : Int32))] [(.int (nar .boolean (own_isl [] [nar .byte n117, nar .byte n120, nar .byte n123])))]
    refine w_iload ok at_213 rfl ?_
    show W K l _ n0 _ h143 2 3 215 #[.val (.int ln), .val (.int nbs), .val (.int sbs), .val (.int how), .val (.int (0 : Int32)), .val (.int (3 : Int32)), .val (.int n117), .val (.int n120), .val (.int n123), .val (.int s128), .val (.int s133), .val (.int s138), .val (.ref r141), .val (.ref r144), .val (.int (0 : Int32))] [(.int (0 : Int32)), (.int (nar .boolean (own_isl [] [nar .byte n117, nar .byte n120, nar .byte n123])))]
    refine w_icmp_ne ok at_215 (pc' := 222) (by decide) (fun hc150 => False.elim (by exact hc150 (by rw [own_isl_len (by simp)] <;> rfl))) (fun hc150 => ?_)
    show W K l _ n0 _ h143 2 3 218 #[.val (.int ln), .val (.int nbs), .val (.int sbs), .val (.int how), .val (.int (0 : Int32)), .val (.int (3 : Int32)), .val (.int n117), .val (.int n120), .val (.int n123), .val (.int s128), .val (.int s133), .val (.int s138), .val (.ref r141), .val (.ref r144), .val (.int (0 : Int32))] []
    refine w_iconst ok at_218 (v := (1 : Int32)) rfl ?_
    show W K l _ n0 _ h143 2 3 219 #[.val (.int ln), .val (.int nbs), .val (.int sbs), .val (.int how), .val (.int (0 : Int32)), .val (.int (3 : Int32)), .val (.int n117), .val (.int n120), .val (.int n123), .val (.int s128), .val (.int s133), .val (.int s138), .val (.ref r141), .val (.ref r144), .val (.int (0 : Int32))] [(.int (1 : Int32))]
    refine w_goto ok at_219 (pc' := 223) (by decide) ?_
    show W K l _ n0 _ h143 2 3 223 #[.val (.int ln), .val (.int nbs), .val (.int sbs), .val (.int how), .val (.int (0 : Int32)), .val (.int (3 : Int32)), .val (.int n117), .val (.int n120), .val (.int n123), .val (.int s128), .val (.int s133), .val (.int s138), .val (.ref r141), .val (.ref r144), .val (.int (0 : Int32))] [(.int (1 : Int32))]
    refine w_bret ok (by simp) at_223 (by decide) (by decide) ?_
    exact rfl
  · skip
    show W K l _ n0 _ h0 0 0 25 #[.val (.int ln), .val (.int nbs), .val (.int sbs), .val (.int how), .val (.int (1 : Int32)), .val (.int (0 : Int32)), .unset, .unset, .unset, .unset, .unset, .unset, .unset, .unset, .unset] []
    refine w_iloadN ok at_25 rfl ?_
    show W K l _ n0 _ h0 0 0 26 #[.val (.int ln), .val (.int nbs), .val (.int sbs), .val (.int how), .val (.int (1 : Int32)), .val (.int (0 : Int32)), .unset, .unset, .unset, .unset, .unset, .unset, .unset, .unset, .unset] [(.int nbs)]
    refine w_callS ok (y := (⟨"com/example/turnstile/turnstile/server/CommandsIsPinLaw", "nameByte", "(I)B"⟩ : MethodName)) (argsL := [(.int nbs)]) (rest := []) at_26 (hw _ (List.mem_of_getElem? (i := 0) rfl)) (hw _ (List.mem_of_getElem? (i := 1) rfl)) (hw _ (List.mem_of_getElem? (i := 2) rfl)) (hw _ (List.mem_of_getElem? (i := 3) rfl)) (by decide) pd_28I29B rfl rfl (by decide) (Nat.le_of_ble_eq_true rfl) (by decide) (by decide) (fun z0 => rm_nb l Z a0 hw [] n0 h0 z0 nbs) (fun v151 h152 qv151 => ?_)
    obtain ⟨n153, rfl, h1_n153, h2_n153, rfl⟩ := qv151
    show W K l _ n0 _ h0 0 0 29 #[.val (.int ln), .val (.int nbs), .val (.int sbs), .val (.int how), .val (.int (1 : Int32)), .val (.int (0 : Int32)), .unset, .unset, .unset, .unset, .unset, .unset, .unset, .unset, .unset] [(.int n153)]
    refine w_istore ok at_29 (L' := #[.val (.int ln), .val (.int nbs), .val (.int sbs), .val (.int how), .val (.int (1 : Int32)), .val (.int (0 : Int32)), .val (.int n153), .unset, .unset, .unset, .unset, .unset, .unset, .unset, .unset]) rfl ?_
    show W K l _ n0 _ h0 0 0 31 #[.val (.int ln), .val (.int nbs), .val (.int sbs), .val (.int how), .val (.int (1 : Int32)), .val (.int (0 : Int32)), .val (.int n153), .unset, .unset, .unset, .unset, .unset, .unset, .unset, .unset] []
    refine w_iloadN ok at_31 rfl ?_
    show W K l _ n0 _ h0 0 0 32 #[.val (.int ln), .val (.int nbs), .val (.int sbs), .val (.int how), .val (.int (1 : Int32)), .val (.int (0 : Int32)), .val (.int n153), .unset, .unset, .unset, .unset, .unset, .unset, .unset, .unset] [(.int nbs)]
    refine w_bipush ok at_32 (v := (8 : Int32)) rfl ?_
    show W K l _ n0 _ h0 0 0 34 #[.val (.int ln), .val (.int nbs), .val (.int sbs), .val (.int how), .val (.int (1 : Int32)), .val (.int (0 : Int32)), .val (.int n153), .unset, .unset, .unset, .unset, .unset, .unset, .unset, .unset] [(.int (8 : Int32)), (.int nbs)]
    refine w_ishr ok at_34 ?_
    show W K l _ n0 _ h0 0 0 35 #[.val (.int ln), .val (.int nbs), .val (.int sbs), .val (.int how), .val (.int (1 : Int32)), .val (.int (0 : Int32)), .val (.int n153), .unset, .unset, .unset, .unset, .unset, .unset, .unset, .unset] [(.int (nbs >>> ((8 : Int32) &&& 31)))]
    refine w_callS ok (y := (⟨"com/example/turnstile/turnstile/server/CommandsIsPinLaw", "nameByte", "(I)B"⟩ : MethodName)) (argsL := [(.int (nbs >>> ((8 : Int32) &&& 31)))]) (rest := []) at_35 (hw _ (List.mem_of_getElem? (i := 0) rfl)) (hw _ (List.mem_of_getElem? (i := 1) rfl)) (hw _ (List.mem_of_getElem? (i := 2) rfl)) (hw _ (List.mem_of_getElem? (i := 3) rfl)) (by decide) pd_28I29B rfl rfl (by decide) (Nat.le_of_ble_eq_true rfl) (by decide) (by decide) (fun z0 => rm_nb l Z a0 hw [] n0 h0 z0 (nbs >>> ((8 : Int32) &&& 31))) (fun v154 h155 qv154 => ?_)
    obtain ⟨n156, rfl, h1_n156, h2_n156, rfl⟩ := qv154
    show W K l _ n0 _ h0 0 0 38 #[.val (.int ln), .val (.int nbs), .val (.int sbs), .val (.int how), .val (.int (1 : Int32)), .val (.int (0 : Int32)), .val (.int n153), .unset, .unset, .unset, .unset, .unset, .unset, .unset, .unset] [(.int n156)]
    refine w_istore ok at_38 (L' := #[.val (.int ln), .val (.int nbs), .val (.int sbs), .val (.int how), .val (.int (1 : Int32)), .val (.int (0 : Int32)), .val (.int n153), .val (.int n156), .unset, .unset, .unset, .unset, .unset, .unset, .unset]) rfl ?_
    show W K l _ n0 _ h0 0 0 40 #[.val (.int ln), .val (.int nbs), .val (.int sbs), .val (.int how), .val (.int (1 : Int32)), .val (.int (0 : Int32)), .val (.int n153), .val (.int n156), .unset, .unset, .unset, .unset, .unset, .unset, .unset] []
    refine w_iloadN ok at_40 rfl ?_
    show W K l _ n0 _ h0 0 0 41 #[.val (.int ln), .val (.int nbs), .val (.int sbs), .val (.int how), .val (.int (1 : Int32)), .val (.int (0 : Int32)), .val (.int n153), .val (.int n156), .unset, .unset, .unset, .unset, .unset, .unset, .unset] [(.int nbs)]
    refine w_bipush ok at_41 (v := (16 : Int32)) rfl ?_
    show W K l _ n0 _ h0 0 0 43 #[.val (.int ln), .val (.int nbs), .val (.int sbs), .val (.int how), .val (.int (1 : Int32)), .val (.int (0 : Int32)), .val (.int n153), .val (.int n156), .unset, .unset, .unset, .unset, .unset, .unset, .unset] [(.int (16 : Int32)), (.int nbs)]
    refine w_ishr ok at_43 ?_
    show W K l _ n0 _ h0 0 0 44 #[.val (.int ln), .val (.int nbs), .val (.int sbs), .val (.int how), .val (.int (1 : Int32)), .val (.int (0 : Int32)), .val (.int n153), .val (.int n156), .unset, .unset, .unset, .unset, .unset, .unset, .unset] [(.int (nbs >>> ((16 : Int32) &&& 31)))]
    refine w_callS ok (y := (⟨"com/example/turnstile/turnstile/server/CommandsIsPinLaw", "nameByte", "(I)B"⟩ : MethodName)) (argsL := [(.int (nbs >>> ((16 : Int32) &&& 31)))]) (rest := []) at_44 (hw _ (List.mem_of_getElem? (i := 0) rfl)) (hw _ (List.mem_of_getElem? (i := 1) rfl)) (hw _ (List.mem_of_getElem? (i := 2) rfl)) (hw _ (List.mem_of_getElem? (i := 3) rfl)) (by decide) pd_28I29B rfl rfl (by decide) (Nat.le_of_ble_eq_true rfl) (by decide) (by decide) (fun z0 => rm_nb l Z a0 hw [] n0 h0 z0 (nbs >>> ((16 : Int32) &&& 31))) (fun v157 h158 qv157 => ?_)
    obtain ⟨n159, rfl, h1_n159, h2_n159, rfl⟩ := qv157
    show W K l _ n0 _ h0 0 0 47 #[.val (.int ln), .val (.int nbs), .val (.int sbs), .val (.int how), .val (.int (1 : Int32)), .val (.int (0 : Int32)), .val (.int n153), .val (.int n156), .unset, .unset, .unset, .unset, .unset, .unset, .unset] [(.int n159)]
    refine w_istore ok at_47 (L' := #[.val (.int ln), .val (.int nbs), .val (.int sbs), .val (.int how), .val (.int (1 : Int32)), .val (.int (0 : Int32)), .val (.int n153), .val (.int n156), .val (.int n159), .unset, .unset, .unset, .unset, .unset, .unset]) rfl ?_
    show W K l _ n0 _ h0 0 0 49 #[.val (.int ln), .val (.int nbs), .val (.int sbs), .val (.int how), .val (.int (1 : Int32)), .val (.int (0 : Int32)), .val (.int n153), .val (.int n156), .val (.int n159), .unset, .unset, .unset, .unset, .unset, .unset] []
    refine w_iloadN ok at_49 rfl ?_
    show W K l _ n0 _ h0 0 0 50 #[.val (.int ln), .val (.int nbs), .val (.int sbs), .val (.int how), .val (.int (1 : Int32)), .val (.int (0 : Int32)), .val (.int n153), .val (.int n156), .val (.int n159), .unset, .unset, .unset, .unset, .unset, .unset] [(.int how)]
    refine w_iloadN ok at_50 rfl ?_
    show W K l _ n0 _ h0 0 0 51 #[.val (.int ln), .val (.int nbs), .val (.int sbs), .val (.int how), .val (.int (1 : Int32)), .val (.int (0 : Int32)), .val (.int n153), .val (.int n156), .val (.int n159), .unset, .unset, .unset, .unset, .unset, .unset] [(.int sbs), (.int how)]
    refine w_iload ok at_51 rfl ?_
    show W K l _ n0 _ h0 0 0 53 #[.val (.int ln), .val (.int nbs), .val (.int sbs), .val (.int how), .val (.int (1 : Int32)), .val (.int (0 : Int32)), .val (.int n153), .val (.int n156), .val (.int n159), .unset, .unset, .unset, .unset, .unset, .unset] [(.int n153), (.int sbs), (.int how)]
    refine w_iload ok at_53 rfl ?_
    show W K l _ n0 _ h0 0 0 55 #[.val (.int ln), .val (.int nbs), .val (.int sbs), .val (.int how), .val (.int (1 : Int32)), .val (.int (0 : Int32)), .val (.int n153), .val (.int n156), .val (.int n159), .unset, .unset, .unset, .unset, .unset, .unset] [(.int (0 : Int32)), (.int n153), (.int sbs), (.int how)]
    refine w_if_le ok at_55 (pc' := 62) (by decide) (fun hc161 => ?_) (fun hc161 => False.elim (by revert hc161; decide))
    show W K l _ n0 _ h0 0 0 62 #[.val (.int ln), .val (.int nbs), .val (.int sbs), .val (.int how), .val (.int (1 : Int32)), .val (.int (0 : Int32)), .val (.int n153), .val (.int n156), .val (.int n159), .unset, .unset, .unset, .unset, .unset, .unset] [(.int n153), (.int sbs), (.int how)]
    refine w_iconst ok at_62 (v := (0 : Int32)) rfl ?_
    show W K l _ n0 _ h0 0 0 63 #[.val (.int ln), .val (.int nbs), .val (.int sbs), .val (.int how), .val (.int (1 : Int32)), .val (.int (0 : Int32)), .val (.int n153), .val (.int n156), .val (.int n159), .unset, .unset, .unset, .unset, .unset, .unset] [(.int (0 : Int32)), (.int n153), (.int sbs), (.int how)]
    refine w_callS ok (y := (⟨"com/example/turnstile/turnstile/server/CommandsIsPinLaw", "sentByte", "(IIBZ)B"⟩ : MethodName)) (argsL := [(.int how), (.int sbs), (.int n153), (.int (0 : Int32))]) (rest := []) at_63 (hw _ (List.mem_of_getElem? (i := 4) rfl)) (hw _ (List.mem_of_getElem? (i := 5) rfl)) (hw _ (List.mem_of_getElem? (i := 2) rfl)) (hw _ (List.mem_of_getElem? (i := 6) rfl)) (by decide) pd_28IIBZ29B rfl rfl (by decide) (Nat.le_of_ble_eq_true rfl) (by decide) (by decide) (fun z0 => rm_sb l Z a0 hw [] n0 h0 z0 how sbs n153 (0 : Int32)) (fun v162 h163 qv162 => ?_)
    obtain ⟨s164, rfl, h1_s164, rfl⟩ := qv162
    show W K l _ n0 _ h0 0 0 66 #[.val (.int ln), .val (.int nbs), .val (.int sbs), .val (.int how), .val (.int (1 : Int32)), .val (.int (0 : Int32)), .val (.int n153), .val (.int n156), .val (.int n159), .unset, .unset, .unset, .unset, .unset, .unset] [(.int s164)]
    refine w_istore ok at_66 (L' := #[.val (.int ln), .val (.int nbs), .val (.int sbs), .val (.int how), .val (.int (1 : Int32)), .val (.int (0 : Int32)), .val (.int n153), .val (.int n156), .val (.int n159), .val (.int s164), .unset, .unset, .unset, .unset, .unset]) rfl ?_
    show W K l _ n0 _ h0 0 0 68 #[.val (.int ln), .val (.int nbs), .val (.int sbs), .val (.int how), .val (.int (1 : Int32)), .val (.int (0 : Int32)), .val (.int n153), .val (.int n156), .val (.int n159), .val (.int s164), .unset, .unset, .unset, .unset, .unset] []
    refine w_iloadN ok at_68 rfl ?_
    show W K l _ n0 _ h0 0 0 69 #[.val (.int ln), .val (.int nbs), .val (.int sbs), .val (.int how), .val (.int (1 : Int32)), .val (.int (0 : Int32)), .val (.int n153), .val (.int n156), .val (.int n159), .val (.int s164), .unset, .unset, .unset, .unset, .unset] [(.int how)]
    refine w_iconst ok at_69 (v := (2 : Int32)) rfl ?_
    show W K l _ n0 _ h0 0 0 70 #[.val (.int ln), .val (.int nbs), .val (.int sbs), .val (.int how), .val (.int (1 : Int32)), .val (.int (0 : Int32)), .val (.int n153), .val (.int n156), .val (.int n159), .val (.int s164), .unset, .unset, .unset, .unset, .unset] [(.int (2 : Int32)), (.int how)]
    refine w_ishr ok at_70 ?_
    show W K l _ n0 _ h0 0 0 71 #[.val (.int ln), .val (.int nbs), .val (.int sbs), .val (.int how), .val (.int (1 : Int32)), .val (.int (0 : Int32)), .val (.int n153), .val (.int n156), .val (.int n159), .val (.int s164), .unset, .unset, .unset, .unset, .unset] [(.int (how >>> ((2 : Int32) &&& 31)))]
    refine w_iloadN ok at_71 rfl ?_
    show W K l _ n0 _ h0 0 0 72 #[.val (.int ln), .val (.int nbs), .val (.int sbs), .val (.int how), .val (.int (1 : Int32)), .val (.int (0 : Int32)), .val (.int n153), .val (.int n156), .val (.int n159), .val (.int s164), .unset, .unset, .unset, .unset, .unset] [(.int sbs), (.int (how >>> ((2 : Int32) &&& 31)))]
    refine w_bipush ok at_72 (v := (8 : Int32)) rfl ?_
    show W K l _ n0 _ h0 0 0 74 #[.val (.int ln), .val (.int nbs), .val (.int sbs), .val (.int how), .val (.int (1 : Int32)), .val (.int (0 : Int32)), .val (.int n153), .val (.int n156), .val (.int n159), .val (.int s164), .unset, .unset, .unset, .unset, .unset] [(.int (8 : Int32)), (.int sbs), (.int (how >>> ((2 : Int32) &&& 31)))]
    refine w_ishr ok at_74 ?_
    show W K l _ n0 _ h0 0 0 75 #[.val (.int ln), .val (.int nbs), .val (.int sbs), .val (.int how), .val (.int (1 : Int32)), .val (.int (0 : Int32)), .val (.int n153), .val (.int n156), .val (.int n159), .val (.int s164), .unset, .unset, .unset, .unset, .unset] [(.int (sbs >>> ((8 : Int32) &&& 31))), (.int (how >>> ((2 : Int32) &&& 31)))]
    refine w_iload ok at_75 rfl ?_
    show W K l _ n0 _ h0 0 0 77 #[.val (.int ln), .val (.int nbs), .val (.int sbs), .val (.int how), .val (.int (1 : Int32)), .val (.int (0 : Int32)), .val (.int n153), .val (.int n156), .val (.int n159), .val (.int s164), .unset, .unset, .unset, .unset, .unset] [(.int n156), (.int (sbs >>> ((8 : Int32) &&& 31))), (.int (how >>> ((2 : Int32) &&& 31)))]
    refine w_iload ok at_77 rfl ?_
    show W K l _ n0 _ h0 0 0 79 #[.val (.int ln), .val (.int nbs), .val (.int sbs), .val (.int how), .val (.int (1 : Int32)), .val (.int (0 : Int32)), .val (.int n153), .val (.int n156), .val (.int n159), .val (.int s164), .unset, .unset, .unset, .unset, .unset] [(.int (0 : Int32)), (.int n156), (.int (sbs >>> ((8 : Int32) &&& 31))), (.int (how >>> ((2 : Int32) &&& 31)))]
    refine w_iconst ok at_79 (v := (1 : Int32)) rfl ?_
    show W K l _ n0 _ h0 0 0 80 #[.val (.int ln), .val (.int nbs), .val (.int sbs), .val (.int how), .val (.int (1 : Int32)), .val (.int (0 : Int32)), .val (.int n153), .val (.int n156), .val (.int n159), .val (.int s164), .unset, .unset, .unset, .unset, .unset] [(.int (1 : Int32)), (.int (0 : Int32)), (.int n156), (.int (sbs >>> ((8 : Int32) &&& 31))), (.int (how >>> ((2 : Int32) &&& 31)))]
    refine w_icmp_le ok at_80 (pc' := 87) (by decide) (fun hc166 => ?_) (fun hc166 => False.elim (by revert hc166; decide))
    show W K l _ n0 _ h0 0 0 87 #[.val (.int ln), .val (.int nbs), .val (.int sbs), .val (.int how), .val (.int (1 : Int32)), .val (.int (0 : Int32)), .val (.int n153), .val (.int n156), .val (.int n159), .val (.int s164), .unset, .unset, .unset, .unset, .unset] [(.int n156), (.int (sbs >>> ((8 : Int32) &&& 31))), (.int (how >>> ((2 : Int32) &&& 31)))]
    refine w_iconst ok at_87 (v := (0 : Int32)) rfl ?_
    show W K l _ n0 _ h0 0 0 88 #[.val (.int ln), .val (.int nbs), .val (.int sbs), .val (.int how), .val (.int (1 : Int32)), .val (.int (0 : Int32)), .val (.int n153), .val (.int n156), .val (.int n159), .val (.int s164), .unset, .unset, .unset, .unset, .unset] [(.int (0 : Int32)), (.int n156), (.int (sbs >>> ((8 : Int32) &&& 31))), (.int (how >>> ((2 : Int32) &&& 31)))]
    refine w_callS ok (y := (⟨"com/example/turnstile/turnstile/server/CommandsIsPinLaw", "sentByte", "(IIBZ)B"⟩ : MethodName)) (argsL := [(.int (how >>> ((2 : Int32) &&& 31))), (.int (sbs >>> ((8 : Int32) &&& 31))), (.int n156), (.int (0 : Int32))]) (rest := []) at_88 (hw _ (List.mem_of_getElem? (i := 4) rfl)) (hw _ (List.mem_of_getElem? (i := 5) rfl)) (hw _ (List.mem_of_getElem? (i := 2) rfl)) (hw _ (List.mem_of_getElem? (i := 6) rfl)) (by decide) pd_28IIBZ29B rfl rfl (by decide) (Nat.le_of_ble_eq_true rfl) (by decide) (by decide) (fun z0 => rm_sb l Z a0 hw [] n0 h0 z0 (how >>> ((2 : Int32) &&& 31)) (sbs >>> ((8 : Int32) &&& 31)) n156 (0 : Int32)) (fun v167 h168 qv167 => ?_)
    obtain ⟨s169, rfl, h1_s169, rfl⟩ := qv167
    show W K l _ n0 _ h0 0 0 91 #[.val (.int ln), .val (.int nbs), .val (.int sbs), .val (.int how), .val (.int (1 : Int32)), .val (.int (0 : Int32)), .val (.int n153), .val (.int n156), .val (.int n159), .val (.int s164), .unset, .unset, .unset, .unset, .unset] [(.int s169)]
    refine w_istore ok at_91 (L' := #[.val (.int ln), .val (.int nbs), .val (.int sbs), .val (.int how), .val (.int (1 : Int32)), .val (.int (0 : Int32)), .val (.int n153), .val (.int n156), .val (.int n159), .val (.int s164), .val (.int s169), .unset, .unset, .unset, .unset]) rfl ?_
    show W K l _ n0 _ h0 0 0 93 #[.val (.int ln), .val (.int nbs), .val (.int sbs), .val (.int how), .val (.int (1 : Int32)), .val (.int (0 : Int32)), .val (.int n153), .val (.int n156), .val (.int n159), .val (.int s164), .val (.int s169), .unset, .unset, .unset, .unset] []
    refine w_iloadN ok at_93 rfl ?_
    show W K l _ n0 _ h0 0 0 94 #[.val (.int ln), .val (.int nbs), .val (.int sbs), .val (.int how), .val (.int (1 : Int32)), .val (.int (0 : Int32)), .val (.int n153), .val (.int n156), .val (.int n159), .val (.int s164), .val (.int s169), .unset, .unset, .unset, .unset] [(.int how)]
    refine w_iconst ok at_94 (v := (4 : Int32)) rfl ?_
    show W K l _ n0 _ h0 0 0 95 #[.val (.int ln), .val (.int nbs), .val (.int sbs), .val (.int how), .val (.int (1 : Int32)), .val (.int (0 : Int32)), .val (.int n153), .val (.int n156), .val (.int n159), .val (.int s164), .val (.int s169), .unset, .unset, .unset, .unset] [(.int (4 : Int32)), (.int how)]
    refine w_ishr ok at_95 ?_
    show W K l _ n0 _ h0 0 0 96 #[.val (.int ln), .val (.int nbs), .val (.int sbs), .val (.int how), .val (.int (1 : Int32)), .val (.int (0 : Int32)), .val (.int n153), .val (.int n156), .val (.int n159), .val (.int s164), .val (.int s169), .unset, .unset, .unset, .unset] [(.int (how >>> ((4 : Int32) &&& 31)))]
    refine w_iloadN ok at_96 rfl ?_
    show W K l _ n0 _ h0 0 0 97 #[.val (.int ln), .val (.int nbs), .val (.int sbs), .val (.int how), .val (.int (1 : Int32)), .val (.int (0 : Int32)), .val (.int n153), .val (.int n156), .val (.int n159), .val (.int s164), .val (.int s169), .unset, .unset, .unset, .unset] [(.int sbs), (.int (how >>> ((4 : Int32) &&& 31)))]
    refine w_bipush ok at_97 (v := (16 : Int32)) rfl ?_
    show W K l _ n0 _ h0 0 0 99 #[.val (.int ln), .val (.int nbs), .val (.int sbs), .val (.int how), .val (.int (1 : Int32)), .val (.int (0 : Int32)), .val (.int n153), .val (.int n156), .val (.int n159), .val (.int s164), .val (.int s169), .unset, .unset, .unset, .unset] [(.int (16 : Int32)), (.int sbs), (.int (how >>> ((4 : Int32) &&& 31)))]
    refine w_ishr ok at_99 ?_
    show W K l _ n0 _ h0 0 0 100 #[.val (.int ln), .val (.int nbs), .val (.int sbs), .val (.int how), .val (.int (1 : Int32)), .val (.int (0 : Int32)), .val (.int n153), .val (.int n156), .val (.int n159), .val (.int s164), .val (.int s169), .unset, .unset, .unset, .unset] [(.int (sbs >>> ((16 : Int32) &&& 31))), (.int (how >>> ((4 : Int32) &&& 31)))]
    refine w_iload ok at_100 rfl ?_
    show W K l _ n0 _ h0 0 0 102 #[.val (.int ln), .val (.int nbs), .val (.int sbs), .val (.int how), .val (.int (1 : Int32)), .val (.int (0 : Int32)), .val (.int n153), .val (.int n156), .val (.int n159), .val (.int s164), .val (.int s169), .unset, .unset, .unset, .unset] [(.int n159), (.int (sbs >>> ((16 : Int32) &&& 31))), (.int (how >>> ((4 : Int32) &&& 31)))]
    refine w_iload ok at_102 rfl ?_
    show W K l _ n0 _ h0 0 0 104 #[.val (.int ln), .val (.int nbs), .val (.int sbs), .val (.int how), .val (.int (1 : Int32)), .val (.int (0 : Int32)), .val (.int n153), .val (.int n156), .val (.int n159), .val (.int s164), .val (.int s169), .unset, .unset, .unset, .unset] [(.int (0 : Int32)), (.int n159), (.int (sbs >>> ((16 : Int32) &&& 31))), (.int (how >>> ((4 : Int32) &&& 31)))]
    refine w_iconst ok at_104 (v := (2 : Int32)) rfl ?_
    show W K l _ n0 _ h0 0 0 105 #[.val (.int ln), .val (.int nbs), .val (.int sbs), .val (.int how), .val (.int (1 : Int32)), .val (.int (0 : Int32)), .val (.int n153), .val (.int n156), .val (.int n159), .val (.int s164), .val (.int s169), .unset, .unset, .unset, .unset] [(.int (2 : Int32)), (.int (0 : Int32)), (.int n159), (.int (sbs >>> ((16 : Int32) &&& 31))), (.int (how >>> ((4 : Int32) &&& 31)))]
    refine w_icmp_le ok at_105 (pc' := 112) (by decide) (fun hc171 => ?_) (fun hc171 => False.elim (by revert hc171; decide))
    show W K l _ n0 _ h0 0 0 112 #[.val (.int ln), .val (.int nbs), .val (.int sbs), .val (.int how), .val (.int (1 : Int32)), .val (.int (0 : Int32)), .val (.int n153), .val (.int n156), .val (.int n159), .val (.int s164), .val (.int s169), .unset, .unset, .unset, .unset] [(.int n159), (.int (sbs >>> ((16 : Int32) &&& 31))), (.int (how >>> ((4 : Int32) &&& 31)))]
    refine w_iconst ok at_112 (v := (0 : Int32)) rfl ?_
    show W K l _ n0 _ h0 0 0 113 #[.val (.int ln), .val (.int nbs), .val (.int sbs), .val (.int how), .val (.int (1 : Int32)), .val (.int (0 : Int32)), .val (.int n153), .val (.int n156), .val (.int n159), .val (.int s164), .val (.int s169), .unset, .unset, .unset, .unset] [(.int (0 : Int32)), (.int n159), (.int (sbs >>> ((16 : Int32) &&& 31))), (.int (how >>> ((4 : Int32) &&& 31)))]
    refine w_callS ok (y := (⟨"com/example/turnstile/turnstile/server/CommandsIsPinLaw", "sentByte", "(IIBZ)B"⟩ : MethodName)) (argsL := [(.int (how >>> ((4 : Int32) &&& 31))), (.int (sbs >>> ((16 : Int32) &&& 31))), (.int n159), (.int (0 : Int32))]) (rest := []) at_113 (hw _ (List.mem_of_getElem? (i := 4) rfl)) (hw _ (List.mem_of_getElem? (i := 5) rfl)) (hw _ (List.mem_of_getElem? (i := 2) rfl)) (hw _ (List.mem_of_getElem? (i := 6) rfl)) (by decide) pd_28IIBZ29B rfl rfl (by decide) (Nat.le_of_ble_eq_true rfl) (by decide) (by decide) (fun z0 => rm_sb l Z a0 hw [] n0 h0 z0 (how >>> ((4 : Int32) &&& 31)) (sbs >>> ((16 : Int32) &&& 31)) n159 (0 : Int32)) (fun v172 h173 qv172 => ?_)
    obtain ⟨s174, rfl, h1_s174, rfl⟩ := qv172
    show W K l _ n0 _ h0 0 0 116 #[.val (.int ln), .val (.int nbs), .val (.int sbs), .val (.int how), .val (.int (1 : Int32)), .val (.int (0 : Int32)), .val (.int n153), .val (.int n156), .val (.int n159), .val (.int s164), .val (.int s169), .unset, .unset, .unset, .unset] [(.int s174)]
    refine w_istore ok at_116 (L' := #[.val (.int ln), .val (.int nbs), .val (.int sbs), .val (.int how), .val (.int (1 : Int32)), .val (.int (0 : Int32)), .val (.int n153), .val (.int n156), .val (.int n159), .val (.int s164), .val (.int s169), .val (.int s174), .unset, .unset, .unset]) rfl ?_
    show W K l _ n0 _ h0 0 0 118 #[.val (.int ln), .val (.int nbs), .val (.int sbs), .val (.int how), .val (.int (1 : Int32)), .val (.int (0 : Int32)), .val (.int n153), .val (.int n156), .val (.int n159), .val (.int s164), .val (.int s169), .val (.int s174), .unset, .unset, .unset] []
    refine w_iload ok at_118 rfl ?_
    show W K l _ n0 _ h0 0 0 120 #[.val (.int ln), .val (.int nbs), .val (.int sbs), .val (.int how), .val (.int (1 : Int32)), .val (.int (0 : Int32)), .val (.int n153), .val (.int n156), .val (.int n159), .val (.int s164), .val (.int s169), .val (.int s174), .unset, .unset, .unset] [(.int (1 : Int32))]
    refine w_iload ok at_120 rfl ?_
    show W K l _ n0 _ h0 0 0 122 #[.val (.int ln), .val (.int nbs), .val (.int sbs), .val (.int how), .val (.int (1 : Int32)), .val (.int (0 : Int32)), .val (.int n153), .val (.int n156), .val (.int n159), .val (.int s164), .val (.int s169), .val (.int s174), .unset, .unset, .unset] [(.int s164), (.int (1 : Int32))]
    refine w_iload ok at_122 rfl ?_
    show W K l _ n0 _ h0 0 0 124 #[.val (.int ln), .val (.int nbs), .val (.int sbs), .val (.int how), .val (.int (1 : Int32)), .val (.int (0 : Int32)), .val (.int n153), .val (.int n156), .val (.int n159), .val (.int s164), .val (.int s169), .val (.int s174), .unset, .unset, .unset] [(.int s169), (.int s164), (.int (1 : Int32))]
    refine w_iload ok at_124 rfl ?_
    show W K l _ n0 _ h0 0 0 126 #[.val (.int ln), .val (.int nbs), .val (.int sbs), .val (.int how), .val (.int (1 : Int32)), .val (.int (0 : Int32)), .val (.int n153), .val (.int n156), .val (.int n159), .val (.int s164), .val (.int s169), .val (.int s174), .unset, .unset, .unset] [(.int s174), (.int s169), (.int s164), (.int (1 : Int32))]
    refine w_callS ok (y := (⟨"com/example/turnstile/turnstile/server/CommandsIsPinLaw", "make", "(IBBB)[B"⟩ : MethodName)) (argsL := [(.int (1 : Int32)), (.int s164), (.int s169), (.int s174)]) (rest := []) at_126 (hw _ (List.mem_of_getElem? (i := 7) rfl)) (hw _ (List.mem_of_getElem? (i := 8) rfl)) (hw _ (List.mem_of_getElem? (i := 2) rfl)) (hw _ (List.mem_of_getElem? (i := 9) rfl)) (by decide) pd_28IBBB295bB rfl rfl (by decide) (Nat.le_of_ble_eq_true rfl) (by decide) (by decide) (fun z0 => rm_mk1 l Z a0 hw [] n0 h0 z0 s164 s169 s174) (fun v175 h176 qv175 => ?_)
    obtain ⟨r177, rfl, sz_r177, ge_r177, K1, A_r177⟩ := qv175
    show W K l _ n0 _ h176 1 1 129 #[.val (.int ln), .val (.int nbs), .val (.int sbs), .val (.int how), .val (.int (1 : Int32)), .val (.int (0 : Int32)), .val (.int n153), .val (.int n156), .val (.int n159), .val (.int s164), .val (.int s169), .val (.int s174), .unset, .unset, .unset] [(.ref r177)]
    refine w_astore ok at_129 rfl (L' := #[.val (.int ln), .val (.int nbs), .val (.int sbs), .val (.int how), .val (.int (1 : Int32)), .val (.int (0 : Int32)), .val (.int n153), .val (.int n156), .val (.int n159), .val (.int s164), .val (.int s169), .val (.int s174), .val (.ref r177), .unset, .unset]) rfl ?_
    show W K l _ n0 _ h176 1 1 131 #[.val (.int ln), .val (.int nbs), .val (.int sbs), .val (.int how), .val (.int (1 : Int32)), .val (.int (0 : Int32)), .val (.int n153), .val (.int n156), .val (.int n159), .val (.int s164), .val (.int s169), .val (.int s174), .val (.ref r177), .unset, .unset] []
    refine w_iload ok at_131 rfl ?_
    show W K l _ n0 _ h176 1 1 133 #[.val (.int ln), .val (.int nbs), .val (.int sbs), .val (.int how), .val (.int (1 : Int32)), .val (.int (0 : Int32)), .val (.int n153), .val (.int n156), .val (.int n159), .val (.int s164), .val (.int s169), .val (.int s174), .val (.ref r177), .unset, .unset] [(.int (0 : Int32))]
    refine w_iload ok at_133 rfl ?_
    show W K l _ n0 _ h176 1 1 135 #[.val (.int ln), .val (.int nbs), .val (.int sbs), .val (.int how), .val (.int (1 : Int32)), .val (.int (0 : Int32)), .val (.int n153), .val (.int n156), .val (.int n159), .val (.int s164), .val (.int s169), .val (.int s174), .val (.ref r177), .unset, .unset] [(.int n153), (.int (0 : Int32))]
    refine w_iload ok at_135 rfl ?_
    show W K l _ n0 _ h176 1 1 137 #[.val (.int ln), .val (.int nbs), .val (.int sbs), .val (.int how), .val (.int (1 : Int32)), .val (.int (0 : Int32)), .val (.int n153), .val (.int n156), .val (.int n159), .val (.int s164), .val (.int s169), .val (.int s174), .val (.ref r177), .unset, .unset] [(.int n156), (.int n153), (.int (0 : Int32))]
    refine w_iload ok at_137 rfl ?_
    show W K l _ n0 _ h176 1 1 139 #[.val (.int ln), .val (.int nbs), .val (.int sbs), .val (.int how), .val (.int (1 : Int32)), .val (.int (0 : Int32)), .val (.int n153), .val (.int n156), .val (.int n159), .val (.int s164), .val (.int s169), .val (.int s174), .val (.ref r177), .unset, .unset] [(.int n159), (.int n156), (.int n153), (.int (0 : Int32))]
    refine w_callS ok (y := (⟨"com/example/turnstile/turnstile/server/CommandsIsPinLaw", "make", "(IBBB)[B"⟩ : MethodName)) (argsL := [(.int (0 : Int32)), (.int n153), (.int n156), (.int n159)]) (rest := []) at_139 (hw _ (List.mem_of_getElem? (i := 7) rfl)) (hw _ (List.mem_of_getElem? (i := 8) rfl)) (hw _ (List.mem_of_getElem? (i := 2) rfl)) (hw _ (List.mem_of_getElem? (i := 9) rfl)) (by decide) pd_28IBBB295bB rfl rfl (by decide) (Nat.le_of_ble_eq_true rfl) (by decide) (by decide) (fun z0 => rm_mk0 l Z a0 hw [] n0 h176 z0 n153 n156 n159) (fun v178 h179 qv178 => ?_)
    obtain ⟨r180, rfl, sz_r180, ge_r180, K1, A_r180⟩ := qv178
    have ne_r177_r180 : r177 ≠ r180 := Nat.ne_of_lt (Nat.lt_of_lt_of_le A_r177.lt sz_r180)
    replace A_r177 := A_r177.keep K1 nin0
    show W K l _ n0 _ h179 2 1 142 #[.val (.int ln), .val (.int nbs), .val (.int sbs), .val (.int how), .val (.int (1 : Int32)), .val (.int (0 : Int32)), .val (.int n153), .val (.int n156), .val (.int n159), .val (.int s164), .val (.int s169), .val (.int s174), .val (.ref r177), .unset, .unset] [(.ref r180)]
    refine w_astore ok at_142 rfl (L' := #[.val (.int ln), .val (.int nbs), .val (.int sbs), .val (.int how), .val (.int (1 : Int32)), .val (.int (0 : Int32)), .val (.int n153), .val (.int n156), .val (.int n159), .val (.int s164), .val (.int s169), .val (.int s174), .val (.ref r177), .val (.ref r180), .unset]) rfl ?_
    show W K l _ n0 _ h179 2 1 144 #[.val (.int ln), .val (.int nbs), .val (.int sbs), .val (.int how), .val (.int (1 : Int32)), .val (.int (0 : Int32)), .val (.int n153), .val (.int n156), .val (.int n159), .val (.int s164), .val (.int s169), .val (.int s174), .val (.ref r177), .val (.ref r180), .unset] []
    refine w_iload ok at_144 rfl ?_
    show W K l _ n0 _ h179 2 1 146 #[.val (.int ln), .val (.int nbs), .val (.int sbs), .val (.int how), .val (.int (1 : Int32)), .val (.int (0 : Int32)), .val (.int n153), .val (.int n156), .val (.int n159), .val (.int s164), .val (.int s169), .val (.int s174), .val (.ref r177), .val (.ref r180), .unset] [(.int (1 : Int32))]
    refine w_iload ok at_146 rfl ?_
    show W K l _ n0 _ h179 2 1 148 #[.val (.int ln), .val (.int nbs), .val (.int sbs), .val (.int how), .val (.int (1 : Int32)), .val (.int (0 : Int32)), .val (.int n153), .val (.int n156), .val (.int n159), .val (.int s164), .val (.int s169), .val (.int s174), .val (.ref r177), .val (.ref r180), .unset] [(.int (0 : Int32)), (.int (1 : Int32))]
    refine w_icmp_ne ok at_148 (pc' := 203) (by decide) (fun hc182 => ?_) (fun hc182 => False.elim (by revert hc182; decide))
    show W K l _ n0 _ h179 2 1 203 #[.val (.int ln), .val (.int nbs), .val (.int sbs), .val (.int how), .val (.int (1 : Int32)), .val (.int (0 : Int32)), .val (.int n153), .val (.int n156), .val (.int n159), .val (.int s164), .val (.int s169), .val (.int s174), .val (.ref r177), .val (.ref r180), .unset] []
    refine w_iconst ok at_203 (v := (0 : Int32)) rfl ?_
    show W K l _ n0 _ h179 2 1 204 #[.val (.int ln), .val (.int nbs), .val (.int sbs), .val (.int how), .val (.int (1 : Int32)), .val (.int (0 : Int32)), .val (.int n153), .val (.int n156), .val (.int n159), .val (.int s164), .val (.int s169), .val (.int s174), .val (.ref r177), .val (.ref r180), .unset] [(.int (0 : Int32))]
    refine w_istore ok at_204 (L' := #[.val (.int ln), .val (.int nbs), .val (.int sbs), .val (.int how), .val (.int (1 : Int32)), .val (.int (0 : Int32)), .val (.int n153), .val (.int n156), .val (.int n159), .val (.int s164), .val (.int s169), .val (.int s174), .val (.ref r177), .val (.ref r180), .val (.int (0 : Int32))]) rfl ?_
    show W K l _ n0 _ h179 2 1 206 #[.val (.int ln), .val (.int nbs), .val (.int sbs), .val (.int how), .val (.int (1 : Int32)), .val (.int (0 : Int32)), .val (.int n153), .val (.int n156), .val (.int n159), .val (.int s164), .val (.int s169), .val (.int s174), .val (.ref r177), .val (.ref r180), .val (.int (0 : Int32))] []
    refine w_aload ok at_206 rfl rfl ?_
    show W K l _ n0 _ h179 2 1 208 #[.val (.int ln), .val (.int nbs), .val (.int sbs), .val (.int how), .val (.int (1 : Int32)), .val (.int (0 : Int32)), .val (.int n153), .val (.int n156), .val (.int n159), .val (.int s164), .val (.int s169), .val (.int s174), .val (.ref r177), .val (.ref r180), .val (.int (0 : Int32))] [(.ref r177)]
    refine w_aload ok at_208 rfl rfl ?_
    show W K l _ n0 _ h179 2 1 210 #[.val (.int ln), .val (.int nbs), .val (.int sbs), .val (.int how), .val (.int (1 : Int32)), .val (.int (0 : Int32)), .val (.int n153), .val (.int n156), .val (.int n159), .val (.int s164), .val (.int s169), .val (.int s174), .val (.ref r177), .val (.ref r180), .val (.int (0 : Int32))] [(.ref r180), (.ref r177)]
    refine w_callS ok (y := (⟨"com/example/turnstile/turnstile/server/Commands", "is", "([B[B)Z"⟩ : MethodName)) (argsL := [(.ref r177), (.ref r180)]) (rest := []) at_210 (hw _ (List.mem_of_getElem? (i := 11) rfl)) (hw _ (List.mem_of_getElem? (i := 12) rfl)) (hw _ (List.mem_of_getElem? (i := 13) rfl)) (hw _ (List.mem_of_getElem? (i := 14) rfl)) (by decide) pd_285bB5bB29Z rfl rfl (by decide) (Nat.le_of_ble_eq_true rfl) (by decide) (by decide) (fun z0 => rm_is l Z a0 hw [] n0 h179 z0 r177 r180 [nar .byte s164] [] A_r177 A_r180) (fun v183 h184 qv183 => ?_)
    obtain ⟨rfl, rfl⟩ := qv183
    show W K l _ n0 _ h179 2 1 213 #[.val (.int ln), .val (.int nbs), .val (.int sbs), .val (.int how), .val (.int (1 : Int32)), .val (.int (0 : Int32)), .val (.int n153), .val (.int n156), .val (.int n159), .val (.int s164), .val (.int s169), .val (.int s174), .val (.ref r177), .val (.ref r180), .val (.int (0 : Int32))] [(.int (nar .boolean (own_isl [nar .byte s164] [])))]
    refine w_iload ok at_213 rfl ?_
    show W K l _ n0 _ h179 2 1 215 #[.val (.int ln), .val (.int nbs), .val (.int sbs), .val (.int how), .val (.int (1 : Int32)), .val (.int (0 : Int32)), .val (.int n153), .val (.int n156), .val (.int n159), .val (.int s164), .val (.int s169), .val (.int s174), .val (.ref r177), .val (.ref r180), .val (.int (0 : Int32))] [(.int (0 : Int32)), (.int (nar .boolean (own_isl [nar .byte s164] [])))]
    refine w_icmp_ne ok at_215 (pc' := 222) (by decide) (fun hc186 => False.elim (by exact hc186 (by rw [own_isl_len (by simp)] <;> rfl))) (fun hc186 => ?_)
    show W K l _ n0 _ h179 2 1 218 #[.val (.int ln), .val (.int nbs), .val (.int sbs), .val (.int how), .val (.int (1 : Int32)), .val (.int (0 : Int32)), .val (.int n153), .val (.int n156), .val (.int n159), .val (.int s164), .val (.int s169), .val (.int s174), .val (.ref r177), .val (.ref r180), .val (.int (0 : Int32))] []
    refine w_iconst ok at_218 (v := (1 : Int32)) rfl ?_
    show W K l _ n0 _ h179 2 1 219 #[.val (.int ln), .val (.int nbs), .val (.int sbs), .val (.int how), .val (.int (1 : Int32)), .val (.int (0 : Int32)), .val (.int n153), .val (.int n156), .val (.int n159), .val (.int s164), .val (.int s169), .val (.int s174), .val (.ref r177), .val (.ref r180), .val (.int (0 : Int32))] [(.int (1 : Int32))]
    refine w_goto ok at_219 (pc' := 223) (by decide) ?_
    show W K l _ n0 _ h179 2 1 223 #[.val (.int ln), .val (.int nbs), .val (.int sbs), .val (.int how), .val (.int (1 : Int32)), .val (.int (0 : Int32)), .val (.int n153), .val (.int n156), .val (.int n159), .val (.int s164), .val (.int s169), .val (.int s174), .val (.ref r177), .val (.ref r180), .val (.int (0 : Int32))] [(.int (1 : Int32))]
    refine w_bret ok (by simp) at_223 (by decide) (by decide) ?_
    exact rfl
  · skip
    show W K l _ n0 _ h0 0 0 25 #[.val (.int ln), .val (.int nbs), .val (.int sbs), .val (.int how), .val (.int (1 : Int32)), .val (.int (1 : Int32)), .unset, .unset, .unset, .unset, .unset, .unset, .unset, .unset, .unset] []
    refine w_iloadN ok at_25 rfl ?_
    show W K l _ n0 _ h0 0 0 26 #[.val (.int ln), .val (.int nbs), .val (.int sbs), .val (.int how), .val (.int (1 : Int32)), .val (.int (1 : Int32)), .unset, .unset, .unset, .unset, .unset, .unset, .unset, .unset, .unset] [(.int nbs)]
    refine w_callS ok (y := (⟨"com/example/turnstile/turnstile/server/CommandsIsPinLaw", "nameByte", "(I)B"⟩ : MethodName)) (argsL := [(.int nbs)]) (rest := []) at_26 (hw _ (List.mem_of_getElem? (i := 0) rfl)) (hw _ (List.mem_of_getElem? (i := 1) rfl)) (hw _ (List.mem_of_getElem? (i := 2) rfl)) (hw _ (List.mem_of_getElem? (i := 3) rfl)) (by decide) pd_28I29B rfl rfl (by decide) (Nat.le_of_ble_eq_true rfl) (by decide) (by decide) (fun z0 => rm_nb l Z a0 hw [] n0 h0 z0 nbs) (fun v187 h188 qv187 => ?_)
    obtain ⟨n189, rfl, h1_n189, h2_n189, rfl⟩ := qv187
    show W K l _ n0 _ h0 0 0 29 #[.val (.int ln), .val (.int nbs), .val (.int sbs), .val (.int how), .val (.int (1 : Int32)), .val (.int (1 : Int32)), .unset, .unset, .unset, .unset, .unset, .unset, .unset, .unset, .unset] [(.int n189)]
    refine w_istore ok at_29 (L' := #[.val (.int ln), .val (.int nbs), .val (.int sbs), .val (.int how), .val (.int (1 : Int32)), .val (.int (1 : Int32)), .val (.int n189), .unset, .unset, .unset, .unset, .unset, .unset, .unset, .unset]) rfl ?_
    show W K l _ n0 _ h0 0 0 31 #[.val (.int ln), .val (.int nbs), .val (.int sbs), .val (.int how), .val (.int (1 : Int32)), .val (.int (1 : Int32)), .val (.int n189), .unset, .unset, .unset, .unset, .unset, .unset, .unset, .unset] []
    refine w_iloadN ok at_31 rfl ?_
    show W K l _ n0 _ h0 0 0 32 #[.val (.int ln), .val (.int nbs), .val (.int sbs), .val (.int how), .val (.int (1 : Int32)), .val (.int (1 : Int32)), .val (.int n189), .unset, .unset, .unset, .unset, .unset, .unset, .unset, .unset] [(.int nbs)]
    refine w_bipush ok at_32 (v := (8 : Int32)) rfl ?_
    show W K l _ n0 _ h0 0 0 34 #[.val (.int ln), .val (.int nbs), .val (.int sbs), .val (.int how), .val (.int (1 : Int32)), .val (.int (1 : Int32)), .val (.int n189), .unset, .unset, .unset, .unset, .unset, .unset, .unset, .unset] [(.int (8 : Int32)), (.int nbs)]
    refine w_ishr ok at_34 ?_
    show W K l _ n0 _ h0 0 0 35 #[.val (.int ln), .val (.int nbs), .val (.int sbs), .val (.int how), .val (.int (1 : Int32)), .val (.int (1 : Int32)), .val (.int n189), .unset, .unset, .unset, .unset, .unset, .unset, .unset, .unset] [(.int (nbs >>> ((8 : Int32) &&& 31)))]
    refine w_callS ok (y := (⟨"com/example/turnstile/turnstile/server/CommandsIsPinLaw", "nameByte", "(I)B"⟩ : MethodName)) (argsL := [(.int (nbs >>> ((8 : Int32) &&& 31)))]) (rest := []) at_35 (hw _ (List.mem_of_getElem? (i := 0) rfl)) (hw _ (List.mem_of_getElem? (i := 1) rfl)) (hw _ (List.mem_of_getElem? (i := 2) rfl)) (hw _ (List.mem_of_getElem? (i := 3) rfl)) (by decide) pd_28I29B rfl rfl (by decide) (Nat.le_of_ble_eq_true rfl) (by decide) (by decide) (fun z0 => rm_nb l Z a0 hw [] n0 h0 z0 (nbs >>> ((8 : Int32) &&& 31))) (fun v190 h191 qv190 => ?_)
    obtain ⟨n192, rfl, h1_n192, h2_n192, rfl⟩ := qv190
    show W K l _ n0 _ h0 0 0 38 #[.val (.int ln), .val (.int nbs), .val (.int sbs), .val (.int how), .val (.int (1 : Int32)), .val (.int (1 : Int32)), .val (.int n189), .unset, .unset, .unset, .unset, .unset, .unset, .unset, .unset] [(.int n192)]
    refine w_istore ok at_38 (L' := #[.val (.int ln), .val (.int nbs), .val (.int sbs), .val (.int how), .val (.int (1 : Int32)), .val (.int (1 : Int32)), .val (.int n189), .val (.int n192), .unset, .unset, .unset, .unset, .unset, .unset, .unset]) rfl ?_
    show W K l _ n0 _ h0 0 0 40 #[.val (.int ln), .val (.int nbs), .val (.int sbs), .val (.int how), .val (.int (1 : Int32)), .val (.int (1 : Int32)), .val (.int n189), .val (.int n192), .unset, .unset, .unset, .unset, .unset, .unset, .unset] []
    refine w_iloadN ok at_40 rfl ?_
    show W K l _ n0 _ h0 0 0 41 #[.val (.int ln), .val (.int nbs), .val (.int sbs), .val (.int how), .val (.int (1 : Int32)), .val (.int (1 : Int32)), .val (.int n189), .val (.int n192), .unset, .unset, .unset, .unset, .unset, .unset, .unset] [(.int nbs)]
    refine w_bipush ok at_41 (v := (16 : Int32)) rfl ?_
    show W K l _ n0 _ h0 0 0 43 #[.val (.int ln), .val (.int nbs), .val (.int sbs), .val (.int how), .val (.int (1 : Int32)), .val (.int (1 : Int32)), .val (.int n189), .val (.int n192), .unset, .unset, .unset, .unset, .unset, .unset, .unset] [(.int (16 : Int32)), (.int nbs)]
    refine w_ishr ok at_43 ?_
    show W K l _ n0 _ h0 0 0 44 #[.val (.int ln), .val (.int nbs), .val (.int sbs), .val (.int how), .val (.int (1 : Int32)), .val (.int (1 : Int32)), .val (.int n189), .val (.int n192), .unset, .unset, .unset, .unset, .unset, .unset, .unset] [(.int (nbs >>> ((16 : Int32) &&& 31)))]
    refine w_callS ok (y := (⟨"com/example/turnstile/turnstile/server/CommandsIsPinLaw", "nameByte", "(I)B"⟩ : MethodName)) (argsL := [(.int (nbs >>> ((16 : Int32) &&& 31)))]) (rest := []) at_44 (hw _ (List.mem_of_getElem? (i := 0) rfl)) (hw _ (List.mem_of_getElem? (i := 1) rfl)) (hw _ (List.mem_of_getElem? (i := 2) rfl)) (hw _ (List.mem_of_getElem? (i := 3) rfl)) (by decide) pd_28I29B rfl rfl (by decide) (Nat.le_of_ble_eq_true rfl) (by decide) (by decide) (fun z0 => rm_nb l Z a0 hw [] n0 h0 z0 (nbs >>> ((16 : Int32) &&& 31))) (fun v193 h194 qv193 => ?_)
    obtain ⟨n195, rfl, h1_n195, h2_n195, rfl⟩ := qv193
    show W K l _ n0 _ h0 0 0 47 #[.val (.int ln), .val (.int nbs), .val (.int sbs), .val (.int how), .val (.int (1 : Int32)), .val (.int (1 : Int32)), .val (.int n189), .val (.int n192), .unset, .unset, .unset, .unset, .unset, .unset, .unset] [(.int n195)]
    refine w_istore ok at_47 (L' := #[.val (.int ln), .val (.int nbs), .val (.int sbs), .val (.int how), .val (.int (1 : Int32)), .val (.int (1 : Int32)), .val (.int n189), .val (.int n192), .val (.int n195), .unset, .unset, .unset, .unset, .unset, .unset]) rfl ?_
    show W K l _ n0 _ h0 0 0 49 #[.val (.int ln), .val (.int nbs), .val (.int sbs), .val (.int how), .val (.int (1 : Int32)), .val (.int (1 : Int32)), .val (.int n189), .val (.int n192), .val (.int n195), .unset, .unset, .unset, .unset, .unset, .unset] []
    refine w_iloadN ok at_49 rfl ?_
    show W K l _ n0 _ h0 0 0 50 #[.val (.int ln), .val (.int nbs), .val (.int sbs), .val (.int how), .val (.int (1 : Int32)), .val (.int (1 : Int32)), .val (.int n189), .val (.int n192), .val (.int n195), .unset, .unset, .unset, .unset, .unset, .unset] [(.int how)]
    refine w_iloadN ok at_50 rfl ?_
    show W K l _ n0 _ h0 0 0 51 #[.val (.int ln), .val (.int nbs), .val (.int sbs), .val (.int how), .val (.int (1 : Int32)), .val (.int (1 : Int32)), .val (.int n189), .val (.int n192), .val (.int n195), .unset, .unset, .unset, .unset, .unset, .unset] [(.int sbs), (.int how)]
    refine w_iload ok at_51 rfl ?_
    show W K l _ n0 _ h0 0 0 53 #[.val (.int ln), .val (.int nbs), .val (.int sbs), .val (.int how), .val (.int (1 : Int32)), .val (.int (1 : Int32)), .val (.int n189), .val (.int n192), .val (.int n195), .unset, .unset, .unset, .unset, .unset, .unset] [(.int n189), (.int sbs), (.int how)]
    refine w_iload ok at_53 rfl ?_
    show W K l _ n0 _ h0 0 0 55 #[.val (.int ln), .val (.int nbs), .val (.int sbs), .val (.int how), .val (.int (1 : Int32)), .val (.int (1 : Int32)), .val (.int n189), .val (.int n192), .val (.int n195), .unset, .unset, .unset, .unset, .unset, .unset] [(.int (1 : Int32)), (.int n189), (.int sbs), (.int how)]
    refine w_if_le ok at_55 (pc' := 62) (by decide) (fun hc197 => False.elim (by revert hc197; decide)) (fun hc197 => ?_)
    show W K l _ n0 _ h0 0 0 58 #[.val (.int ln), .val (.int nbs), .val (.int sbs), .val (.int how), .val (.int (1 : Int32)), .val (.int (1 : Int32)), .val (.int n189), .val (.int n192), .val (.int n195), .unset, .unset, .unset, .unset, .unset, .unset] [(.int n189), (.int sbs), (.int how)]
    refine w_iconst ok at_58 (v := (1 : Int32)) rfl ?_
    show W K l _ n0 _ h0 0 0 59 #[.val (.int ln), .val (.int nbs), .val (.int sbs), .val (.int how), .val (.int (1 : Int32)), .val (.int (1 : Int32)), .val (.int n189), .val (.int n192), .val (.int n195), .unset, .unset, .unset, .unset, .unset, .unset] [(.int (1 : Int32)), (.int n189), (.int sbs), (.int how)]
    refine w_goto ok at_59 (pc' := 63) (by decide) ?_
    show W K l _ n0 _ h0 0 0 63 #[.val (.int ln), .val (.int nbs), .val (.int sbs), .val (.int how), .val (.int (1 : Int32)), .val (.int (1 : Int32)), .val (.int n189), .val (.int n192), .val (.int n195), .unset, .unset, .unset, .unset, .unset, .unset] [(.int (1 : Int32)), (.int n189), (.int sbs), (.int how)]
    refine w_callS ok (y := (⟨"com/example/turnstile/turnstile/server/CommandsIsPinLaw", "sentByte", "(IIBZ)B"⟩ : MethodName)) (argsL := [(.int how), (.int sbs), (.int n189), (.int (1 : Int32))]) (rest := []) at_63 (hw _ (List.mem_of_getElem? (i := 4) rfl)) (hw _ (List.mem_of_getElem? (i := 5) rfl)) (hw _ (List.mem_of_getElem? (i := 2) rfl)) (hw _ (List.mem_of_getElem? (i := 6) rfl)) (by decide) pd_28IIBZ29B rfl rfl (by decide) (Nat.le_of_ble_eq_true rfl) (by decide) (by decide) (fun z0 => rm_sb l Z a0 hw [] n0 h0 z0 how sbs n189 (1 : Int32)) (fun v198 h199 qv198 => ?_)
    obtain ⟨s200, rfl, h1_s200, rfl⟩ := qv198
    show W K l _ n0 _ h0 0 0 66 #[.val (.int ln), .val (.int nbs), .val (.int sbs), .val (.int how), .val (.int (1 : Int32)), .val (.int (1 : Int32)), .val (.int n189), .val (.int n192), .val (.int n195), .unset, .unset, .unset, .unset, .unset, .unset] [(.int s200)]
    refine w_istore ok at_66 (L' := #[.val (.int ln), .val (.int nbs), .val (.int sbs), .val (.int how), .val (.int (1 : Int32)), .val (.int (1 : Int32)), .val (.int n189), .val (.int n192), .val (.int n195), .val (.int s200), .unset, .unset, .unset, .unset, .unset]) rfl ?_
    show W K l _ n0 _ h0 0 0 68 #[.val (.int ln), .val (.int nbs), .val (.int sbs), .val (.int how), .val (.int (1 : Int32)), .val (.int (1 : Int32)), .val (.int n189), .val (.int n192), .val (.int n195), .val (.int s200), .unset, .unset, .unset, .unset, .unset] []
    refine w_iloadN ok at_68 rfl ?_
    show W K l _ n0 _ h0 0 0 69 #[.val (.int ln), .val (.int nbs), .val (.int sbs), .val (.int how), .val (.int (1 : Int32)), .val (.int (1 : Int32)), .val (.int n189), .val (.int n192), .val (.int n195), .val (.int s200), .unset, .unset, .unset, .unset, .unset] [(.int how)]
    refine w_iconst ok at_69 (v := (2 : Int32)) rfl ?_
    show W K l _ n0 _ h0 0 0 70 #[.val (.int ln), .val (.int nbs), .val (.int sbs), .val (.int how), .val (.int (1 : Int32)), .val (.int (1 : Int32)), .val (.int n189), .val (.int n192), .val (.int n195), .val (.int s200), .unset, .unset, .unset, .unset, .unset] [(.int (2 : Int32)), (.int how)]
    refine w_ishr ok at_70 ?_
    show W K l _ n0 _ h0 0 0 71 #[.val (.int ln), .val (.int nbs), .val (.int sbs), .val (.int how), .val (.int (1 : Int32)), .val (.int (1 : Int32)), .val (.int n189), .val (.int n192), .val (.int n195), .val (.int s200), .unset, .unset, .unset, .unset, .unset] [(.int (how >>> ((2 : Int32) &&& 31)))]
    refine w_iloadN ok at_71 rfl ?_
    show W K l _ n0 _ h0 0 0 72 #[.val (.int ln), .val (.int nbs), .val (.int sbs), .val (.int how), .val (.int (1 : Int32)), .val (.int (1 : Int32)), .val (.int n189), .val (.int n192), .val (.int n195), .val (.int s200), .unset, .unset, .unset, .unset, .unset] [(.int sbs), (.int (how >>> ((2 : Int32) &&& 31)))]
    refine w_bipush ok at_72 (v := (8 : Int32)) rfl ?_
    show W K l _ n0 _ h0 0 0 74 #[.val (.int ln), .val (.int nbs), .val (.int sbs), .val (.int how), .val (.int (1 : Int32)), .val (.int (1 : Int32)), .val (.int n189), .val (.int n192), .val (.int n195), .val (.int s200), .unset, .unset, .unset, .unset, .unset] [(.int (8 : Int32)), (.int sbs), (.int (how >>> ((2 : Int32) &&& 31)))]
    refine w_ishr ok at_74 ?_
    show W K l _ n0 _ h0 0 0 75 #[.val (.int ln), .val (.int nbs), .val (.int sbs), .val (.int how), .val (.int (1 : Int32)), .val (.int (1 : Int32)), .val (.int n189), .val (.int n192), .val (.int n195), .val (.int s200), .unset, .unset, .unset, .unset, .unset] [(.int (sbs >>> ((8 : Int32) &&& 31))), (.int (how >>> ((2 : Int32) &&& 31)))]
    refine w_iload ok at_75 rfl ?_
    show W K l _ n0 _ h0 0 0 77 #[.val (.int ln), .val (.int nbs), .val (.int sbs), .val (.int how), .val (.int (1 : Int32)), .val (.int (1 : Int32)), .val (.int n189), .val (.int n192), .val (.int n195), .val (.int s200), .unset, .unset, .unset, .unset, .unset] [(.int n192), (.int (sbs >>> ((8 : Int32) &&& 31))), (.int (how >>> ((2 : Int32) &&& 31)))]
    refine w_iload ok at_77 rfl ?_
    show W K l _ n0 _ h0 0 0 79 #[.val (.int ln), .val (.int nbs), .val (.int sbs), .val (.int how), .val (.int (1 : Int32)), .val (.int (1 : Int32)), .val (.int n189), .val (.int n192), .val (.int n195), .val (.int s200), .unset, .unset, .unset, .unset, .unset] [(.int (1 : Int32)), (.int n192), (.int (sbs >>> ((8 : Int32) &&& 31))), (.int (how >>> ((2 : Int32) &&& 31)))]
    refine w_iconst ok at_79 (v := (1 : Int32)) rfl ?_
    show W K l _ n0 _ h0 0 0 80 #[.val (.int ln), .val (.int nbs), .val (.int sbs), .val (.int how), .val (.int (1 : Int32)), .val (.int (1 : Int32)), .val (.int n189), .val (.int n192), .val (.int n195), .val (.int s200), .unset, .unset, .unset, .unset, .unset] [(.int (1 : Int32)), (.int (1 : Int32)), (.int n192), (.int (sbs >>> ((8 : Int32) &&& 31))), (.int (how >>> ((2 : Int32) &&& 31)))]
    refine w_icmp_le ok at_80 (pc' := 87) (by decide) (fun hc202 => ?_) (fun hc202 => False.elim (by revert hc202; decide))
    show W K l _ n0 _ h0 0 0 87 #[.val (.int ln), .val (.int nbs), .val (.int sbs), .val (.int how), .val (.int (1 : Int32)), .val (.int (1 : Int32)), .val (.int n189), .val (.int n192), .val (.int n195), .val (.int s200), .unset, .unset, .unset, .unset, .unset] [(.int n192), (.int (sbs >>> ((8 : Int32) &&& 31))), (.int (how >>> ((2 : Int32) &&& 31)))]
    refine w_iconst ok at_87 (v := (0 : Int32)) rfl ?_
    show W K l _ n0 _ h0 0 0 88 #[.val (.int ln), .val (.int nbs), .val (.int sbs), .val (.int how), .val (.int (1 : Int32)), .val (.int (1 : Int32)), .val (.int n189), .val (.int n192), .val (.int n195), .val (.int s200), .unset, .unset, .unset, .unset, .unset] [(.int (0 : Int32)), (.int n192), (.int (sbs >>> ((8 : Int32) &&& 31))), (.int (how >>> ((2 : Int32) &&& 31)))]
    refine w_callS ok (y := (⟨"com/example/turnstile/turnstile/server/CommandsIsPinLaw", "sentByte", "(IIBZ)B"⟩ : MethodName)) (argsL := [(.int (how >>> ((2 : Int32) &&& 31))), (.int (sbs >>> ((8 : Int32) &&& 31))), (.int n192), (.int (0 : Int32))]) (rest := []) at_88 (hw _ (List.mem_of_getElem? (i := 4) rfl)) (hw _ (List.mem_of_getElem? (i := 5) rfl)) (hw _ (List.mem_of_getElem? (i := 2) rfl)) (hw _ (List.mem_of_getElem? (i := 6) rfl)) (by decide) pd_28IIBZ29B rfl rfl (by decide) (Nat.le_of_ble_eq_true rfl) (by decide) (by decide) (fun z0 => rm_sb l Z a0 hw [] n0 h0 z0 (how >>> ((2 : Int32) &&& 31)) (sbs >>> ((8 : Int32) &&& 31)) n192 (0 : Int32)) (fun v203 h204 qv203 => ?_)
    obtain ⟨s205, rfl, h1_s205, rfl⟩ := qv203
    show W K l _ n0 _ h0 0 0 91 #[.val (.int ln), .val (.int nbs), .val (.int sbs), .val (.int how), .val (.int (1 : Int32)), .val (.int (1 : Int32)), .val (.int n189), .val (.int n192), .val (.int n195), .val (.int s200), .unset, .unset, .unset, .unset, .unset] [(.int s205)]
    refine w_istore ok at_91 (L' := #[.val (.int ln), .val (.int nbs), .val (.int sbs), .val (.int how), .val (.int (1 : Int32)), .val (.int (1 : Int32)), .val (.int n189), .val (.int n192), .val (.int n195), .val (.int s200), .val (.int s205), .unset, .unset, .unset, .unset]) rfl ?_
    show W K l _ n0 _ h0 0 0 93 #[.val (.int ln), .val (.int nbs), .val (.int sbs), .val (.int how), .val (.int (1 : Int32)), .val (.int (1 : Int32)), .val (.int n189), .val (.int n192), .val (.int n195), .val (.int s200), .val (.int s205), .unset, .unset, .unset, .unset] []
    refine w_iloadN ok at_93 rfl ?_
    show W K l _ n0 _ h0 0 0 94 #[.val (.int ln), .val (.int nbs), .val (.int sbs), .val (.int how), .val (.int (1 : Int32)), .val (.int (1 : Int32)), .val (.int n189), .val (.int n192), .val (.int n195), .val (.int s200), .val (.int s205), .unset, .unset, .unset, .unset] [(.int how)]
    refine w_iconst ok at_94 (v := (4 : Int32)) rfl ?_
    show W K l _ n0 _ h0 0 0 95 #[.val (.int ln), .val (.int nbs), .val (.int sbs), .val (.int how), .val (.int (1 : Int32)), .val (.int (1 : Int32)), .val (.int n189), .val (.int n192), .val (.int n195), .val (.int s200), .val (.int s205), .unset, .unset, .unset, .unset] [(.int (4 : Int32)), (.int how)]
    refine w_ishr ok at_95 ?_
    show W K l _ n0 _ h0 0 0 96 #[.val (.int ln), .val (.int nbs), .val (.int sbs), .val (.int how), .val (.int (1 : Int32)), .val (.int (1 : Int32)), .val (.int n189), .val (.int n192), .val (.int n195), .val (.int s200), .val (.int s205), .unset, .unset, .unset, .unset] [(.int (how >>> ((4 : Int32) &&& 31)))]
    refine w_iloadN ok at_96 rfl ?_
    show W K l _ n0 _ h0 0 0 97 #[.val (.int ln), .val (.int nbs), .val (.int sbs), .val (.int how), .val (.int (1 : Int32)), .val (.int (1 : Int32)), .val (.int n189), .val (.int n192), .val (.int n195), .val (.int s200), .val (.int s205), .unset, .unset, .unset, .unset] [(.int sbs), (.int (how >>> ((4 : Int32) &&& 31)))]
    refine w_bipush ok at_97 (v := (16 : Int32)) rfl ?_
    show W K l _ n0 _ h0 0 0 99 #[.val (.int ln), .val (.int nbs), .val (.int sbs), .val (.int how), .val (.int (1 : Int32)), .val (.int (1 : Int32)), .val (.int n189), .val (.int n192), .val (.int n195), .val (.int s200), .val (.int s205), .unset, .unset, .unset, .unset] [(.int (16 : Int32)), (.int sbs), (.int (how >>> ((4 : Int32) &&& 31)))]
    refine w_ishr ok at_99 ?_
    show W K l _ n0 _ h0 0 0 100 #[.val (.int ln), .val (.int nbs), .val (.int sbs), .val (.int how), .val (.int (1 : Int32)), .val (.int (1 : Int32)), .val (.int n189), .val (.int n192), .val (.int n195), .val (.int s200), .val (.int s205), .unset, .unset, .unset, .unset] [(.int (sbs >>> ((16 : Int32) &&& 31))), (.int (how >>> ((4 : Int32) &&& 31)))]
    refine w_iload ok at_100 rfl ?_
    show W K l _ n0 _ h0 0 0 102 #[.val (.int ln), .val (.int nbs), .val (.int sbs), .val (.int how), .val (.int (1 : Int32)), .val (.int (1 : Int32)), .val (.int n189), .val (.int n192), .val (.int n195), .val (.int s200), .val (.int s205), .unset, .unset, .unset, .unset] [(.int n195), (.int (sbs >>> ((16 : Int32) &&& 31))), (.int (how >>> ((4 : Int32) &&& 31)))]
    refine w_iload ok at_102 rfl ?_
    show W K l _ n0 _ h0 0 0 104 #[.val (.int ln), .val (.int nbs), .val (.int sbs), .val (.int how), .val (.int (1 : Int32)), .val (.int (1 : Int32)), .val (.int n189), .val (.int n192), .val (.int n195), .val (.int s200), .val (.int s205), .unset, .unset, .unset, .unset] [(.int (1 : Int32)), (.int n195), (.int (sbs >>> ((16 : Int32) &&& 31))), (.int (how >>> ((4 : Int32) &&& 31)))]
    refine w_iconst ok at_104 (v := (2 : Int32)) rfl ?_
    show W K l _ n0 _ h0 0 0 105 #[.val (.int ln), .val (.int nbs), .val (.int sbs), .val (.int how), .val (.int (1 : Int32)), .val (.int (1 : Int32)), .val (.int n189), .val (.int n192), .val (.int n195), .val (.int s200), .val (.int s205), .unset, .unset, .unset, .unset] [(.int (2 : Int32)), (.int (1 : Int32)), (.int n195), (.int (sbs >>> ((16 : Int32) &&& 31))), (.int (how >>> ((4 : Int32) &&& 31)))]
    refine w_icmp_le ok at_105 (pc' := 112) (by decide) (fun hc207 => ?_) (fun hc207 => False.elim (by revert hc207; decide))
    show W K l _ n0 _ h0 0 0 112 #[.val (.int ln), .val (.int nbs), .val (.int sbs), .val (.int how), .val (.int (1 : Int32)), .val (.int (1 : Int32)), .val (.int n189), .val (.int n192), .val (.int n195), .val (.int s200), .val (.int s205), .unset, .unset, .unset, .unset] [(.int n195), (.int (sbs >>> ((16 : Int32) &&& 31))), (.int (how >>> ((4 : Int32) &&& 31)))]
    refine w_iconst ok at_112 (v := (0 : Int32)) rfl ?_
    show W K l _ n0 _ h0 0 0 113 #[.val (.int ln), .val (.int nbs), .val (.int sbs), .val (.int how), .val (.int (1 : Int32)), .val (.int (1 : Int32)), .val (.int n189), .val (.int n192), .val (.int n195), .val (.int s200), .val (.int s205), .unset, .unset, .unset, .unset] [(.int (0 : Int32)), (.int n195), (.int (sbs >>> ((16 : Int32) &&& 31))), (.int (how >>> ((4 : Int32) &&& 31)))]
    refine w_callS ok (y := (⟨"com/example/turnstile/turnstile/server/CommandsIsPinLaw", "sentByte", "(IIBZ)B"⟩ : MethodName)) (argsL := [(.int (how >>> ((4 : Int32) &&& 31))), (.int (sbs >>> ((16 : Int32) &&& 31))), (.int n195), (.int (0 : Int32))]) (rest := []) at_113 (hw _ (List.mem_of_getElem? (i := 4) rfl)) (hw _ (List.mem_of_getElem? (i := 5) rfl)) (hw _ (List.mem_of_getElem? (i := 2) rfl)) (hw _ (List.mem_of_getElem? (i := 6) rfl)) (by decide) pd_28IIBZ29B rfl rfl (by decide) (Nat.le_of_ble_eq_true rfl) (by decide) (by decide) (fun z0 => rm_sb l Z a0 hw [] n0 h0 z0 (how >>> ((4 : Int32) &&& 31)) (sbs >>> ((16 : Int32) &&& 31)) n195 (0 : Int32)) (fun v208 h209 qv208 => ?_)
    obtain ⟨s210, rfl, h1_s210, rfl⟩ := qv208
    show W K l _ n0 _ h0 0 0 116 #[.val (.int ln), .val (.int nbs), .val (.int sbs), .val (.int how), .val (.int (1 : Int32)), .val (.int (1 : Int32)), .val (.int n189), .val (.int n192), .val (.int n195), .val (.int s200), .val (.int s205), .unset, .unset, .unset, .unset] [(.int s210)]
    refine w_istore ok at_116 (L' := #[.val (.int ln), .val (.int nbs), .val (.int sbs), .val (.int how), .val (.int (1 : Int32)), .val (.int (1 : Int32)), .val (.int n189), .val (.int n192), .val (.int n195), .val (.int s200), .val (.int s205), .val (.int s210), .unset, .unset, .unset]) rfl ?_
    show W K l _ n0 _ h0 0 0 118 #[.val (.int ln), .val (.int nbs), .val (.int sbs), .val (.int how), .val (.int (1 : Int32)), .val (.int (1 : Int32)), .val (.int n189), .val (.int n192), .val (.int n195), .val (.int s200), .val (.int s205), .val (.int s210), .unset, .unset, .unset] []
    refine w_iload ok at_118 rfl ?_
    show W K l _ n0 _ h0 0 0 120 #[.val (.int ln), .val (.int nbs), .val (.int sbs), .val (.int how), .val (.int (1 : Int32)), .val (.int (1 : Int32)), .val (.int n189), .val (.int n192), .val (.int n195), .val (.int s200), .val (.int s205), .val (.int s210), .unset, .unset, .unset] [(.int (1 : Int32))]
    refine w_iload ok at_120 rfl ?_
    show W K l _ n0 _ h0 0 0 122 #[.val (.int ln), .val (.int nbs), .val (.int sbs), .val (.int how), .val (.int (1 : Int32)), .val (.int (1 : Int32)), .val (.int n189), .val (.int n192), .val (.int n195), .val (.int s200), .val (.int s205), .val (.int s210), .unset, .unset, .unset] [(.int s200), (.int (1 : Int32))]
    refine w_iload ok at_122 rfl ?_
    show W K l _ n0 _ h0 0 0 124 #[.val (.int ln), .val (.int nbs), .val (.int sbs), .val (.int how), .val (.int (1 : Int32)), .val (.int (1 : Int32)), .val (.int n189), .val (.int n192), .val (.int n195), .val (.int s200), .val (.int s205), .val (.int s210), .unset, .unset, .unset] [(.int s205), (.int s200), (.int (1 : Int32))]
    refine w_iload ok at_124 rfl ?_
    show W K l _ n0 _ h0 0 0 126 #[.val (.int ln), .val (.int nbs), .val (.int sbs), .val (.int how), .val (.int (1 : Int32)), .val (.int (1 : Int32)), .val (.int n189), .val (.int n192), .val (.int n195), .val (.int s200), .val (.int s205), .val (.int s210), .unset, .unset, .unset] [(.int s210), (.int s205), (.int s200), (.int (1 : Int32))]
    refine w_callS ok (y := (⟨"com/example/turnstile/turnstile/server/CommandsIsPinLaw", "make", "(IBBB)[B"⟩ : MethodName)) (argsL := [(.int (1 : Int32)), (.int s200), (.int s205), (.int s210)]) (rest := []) at_126 (hw _ (List.mem_of_getElem? (i := 7) rfl)) (hw _ (List.mem_of_getElem? (i := 8) rfl)) (hw _ (List.mem_of_getElem? (i := 2) rfl)) (hw _ (List.mem_of_getElem? (i := 9) rfl)) (by decide) pd_28IBBB295bB rfl rfl (by decide) (Nat.le_of_ble_eq_true rfl) (by decide) (by decide) (fun z0 => rm_mk1 l Z a0 hw [] n0 h0 z0 s200 s205 s210) (fun v211 h212 qv211 => ?_)
    obtain ⟨r213, rfl, sz_r213, ge_r213, K1, A_r213⟩ := qv211
    show W K l _ n0 _ h212 1 1 129 #[.val (.int ln), .val (.int nbs), .val (.int sbs), .val (.int how), .val (.int (1 : Int32)), .val (.int (1 : Int32)), .val (.int n189), .val (.int n192), .val (.int n195), .val (.int s200), .val (.int s205), .val (.int s210), .unset, .unset, .unset] [(.ref r213)]
    refine w_astore ok at_129 rfl (L' := #[.val (.int ln), .val (.int nbs), .val (.int sbs), .val (.int how), .val (.int (1 : Int32)), .val (.int (1 : Int32)), .val (.int n189), .val (.int n192), .val (.int n195), .val (.int s200), .val (.int s205), .val (.int s210), .val (.ref r213), .unset, .unset]) rfl ?_
    show W K l _ n0 _ h212 1 1 131 #[.val (.int ln), .val (.int nbs), .val (.int sbs), .val (.int how), .val (.int (1 : Int32)), .val (.int (1 : Int32)), .val (.int n189), .val (.int n192), .val (.int n195), .val (.int s200), .val (.int s205), .val (.int s210), .val (.ref r213), .unset, .unset] []
    refine w_iload ok at_131 rfl ?_
    show W K l _ n0 _ h212 1 1 133 #[.val (.int ln), .val (.int nbs), .val (.int sbs), .val (.int how), .val (.int (1 : Int32)), .val (.int (1 : Int32)), .val (.int n189), .val (.int n192), .val (.int n195), .val (.int s200), .val (.int s205), .val (.int s210), .val (.ref r213), .unset, .unset] [(.int (1 : Int32))]
    refine w_iload ok at_133 rfl ?_
    show W K l _ n0 _ h212 1 1 135 #[.val (.int ln), .val (.int nbs), .val (.int sbs), .val (.int how), .val (.int (1 : Int32)), .val (.int (1 : Int32)), .val (.int n189), .val (.int n192), .val (.int n195), .val (.int s200), .val (.int s205), .val (.int s210), .val (.ref r213), .unset, .unset] [(.int n189), (.int (1 : Int32))]
    refine w_iload ok at_135 rfl ?_
    show W K l _ n0 _ h212 1 1 137 #[.val (.int ln), .val (.int nbs), .val (.int sbs), .val (.int how), .val (.int (1 : Int32)), .val (.int (1 : Int32)), .val (.int n189), .val (.int n192), .val (.int n195), .val (.int s200), .val (.int s205), .val (.int s210), .val (.ref r213), .unset, .unset] [(.int n192), (.int n189), (.int (1 : Int32))]
    refine w_iload ok at_137 rfl ?_
    show W K l _ n0 _ h212 1 1 139 #[.val (.int ln), .val (.int nbs), .val (.int sbs), .val (.int how), .val (.int (1 : Int32)), .val (.int (1 : Int32)), .val (.int n189), .val (.int n192), .val (.int n195), .val (.int s200), .val (.int s205), .val (.int s210), .val (.ref r213), .unset, .unset] [(.int n195), (.int n192), (.int n189), (.int (1 : Int32))]
    refine w_callS ok (y := (⟨"com/example/turnstile/turnstile/server/CommandsIsPinLaw", "make", "(IBBB)[B"⟩ : MethodName)) (argsL := [(.int (1 : Int32)), (.int n189), (.int n192), (.int n195)]) (rest := []) at_139 (hw _ (List.mem_of_getElem? (i := 7) rfl)) (hw _ (List.mem_of_getElem? (i := 8) rfl)) (hw _ (List.mem_of_getElem? (i := 2) rfl)) (hw _ (List.mem_of_getElem? (i := 9) rfl)) (by decide) pd_28IBBB295bB rfl rfl (by decide) (Nat.le_of_ble_eq_true rfl) (by decide) (by decide) (fun z0 => rm_mk1 l Z a0 hw [] n0 h212 z0 n189 n192 n195) (fun v214 h215 qv214 => ?_)
    obtain ⟨r216, rfl, sz_r216, ge_r216, K1, A_r216⟩ := qv214
    have ne_r213_r216 : r213 ≠ r216 := Nat.ne_of_lt (Nat.lt_of_lt_of_le A_r213.lt sz_r216)
    replace A_r213 := A_r213.keep K1 nin0
    show W K l _ n0 _ h215 2 2 142 #[.val (.int ln), .val (.int nbs), .val (.int sbs), .val (.int how), .val (.int (1 : Int32)), .val (.int (1 : Int32)), .val (.int n189), .val (.int n192), .val (.int n195), .val (.int s200), .val (.int s205), .val (.int s210), .val (.ref r213), .unset, .unset] [(.ref r216)]
    refine w_astore ok at_142 rfl (L' := #[.val (.int ln), .val (.int nbs), .val (.int sbs), .val (.int how), .val (.int (1 : Int32)), .val (.int (1 : Int32)), .val (.int n189), .val (.int n192), .val (.int n195), .val (.int s200), .val (.int s205), .val (.int s210), .val (.ref r213), .val (.ref r216), .unset]) rfl ?_
    show W K l _ n0 _ h215 2 2 144 #[.val (.int ln), .val (.int nbs), .val (.int sbs), .val (.int how), .val (.int (1 : Int32)), .val (.int (1 : Int32)), .val (.int n189), .val (.int n192), .val (.int n195), .val (.int s200), .val (.int s205), .val (.int s210), .val (.ref r213), .val (.ref r216), .unset] []
    refine w_iload ok at_144 rfl ?_
    show W K l _ n0 _ h215 2 2 146 #[.val (.int ln), .val (.int nbs), .val (.int sbs), .val (.int how), .val (.int (1 : Int32)), .val (.int (1 : Int32)), .val (.int n189), .val (.int n192), .val (.int n195), .val (.int s200), .val (.int s205), .val (.int s210), .val (.ref r213), .val (.ref r216), .unset] [(.int (1 : Int32))]
    refine w_iload ok at_146 rfl ?_
    show W K l _ n0 _ h215 2 2 148 #[.val (.int ln), .val (.int nbs), .val (.int sbs), .val (.int how), .val (.int (1 : Int32)), .val (.int (1 : Int32)), .val (.int n189), .val (.int n192), .val (.int n195), .val (.int s200), .val (.int s205), .val (.int s210), .val (.ref r213), .val (.ref r216), .unset] [(.int (1 : Int32)), (.int (1 : Int32))]
    refine w_icmp_ne ok at_148 (pc' := 203) (by decide) (fun hc218 => False.elim (by revert hc218; decide)) (fun hc218 => ?_)
    show W K l _ n0 _ h215 2 2 151 #[.val (.int ln), .val (.int nbs), .val (.int sbs), .val (.int how), .val (.int (1 : Int32)), .val (.int (1 : Int32)), .val (.int n189), .val (.int n192), .val (.int n195), .val (.int s200), .val (.int s205), .val (.int s210), .val (.ref r213), .val (.ref r216), .unset] []
    refine w_iload ok at_151 rfl ?_
    show W K l _ n0 _ h215 2 2 153 #[.val (.int ln), .val (.int nbs), .val (.int sbs), .val (.int how), .val (.int (1 : Int32)), .val (.int (1 : Int32)), .val (.int n189), .val (.int n192), .val (.int n195), .val (.int s200), .val (.int s205), .val (.int s210), .val (.ref r213), .val (.ref r216), .unset] [(.int (1 : Int32))]
    refine w_iconst ok at_153 (v := (1 : Int32)) rfl ?_
    show W K l _ n0 _ h215 2 2 154 #[.val (.int ln), .val (.int nbs), .val (.int sbs), .val (.int how), .val (.int (1 : Int32)), .val (.int (1 : Int32)), .val (.int n189), .val (.int n192), .val (.int n195), .val (.int s200), .val (.int s205), .val (.int s210), .val (.ref r213), .val (.ref r216), .unset] [(.int (1 : Int32)), (.int (1 : Int32))]
    refine w_icmp_lt ok at_154 (pc' := 167) (by decide) (fun hc220 => False.elim (by revert hc220; decide)) (fun hc220 => ?_)
    show W K l _ n0 _ h215 2 2 157 #[.val (.int ln), .val (.int nbs), .val (.int sbs), .val (.int how), .val (.int (1 : Int32)), .val (.int (1 : Int32)), .val (.int n189), .val (.int n192), .val (.int n195), .val (.int s200), .val (.int s205), .val (.int s210), .val (.ref r213), .val (.ref r216), .unset] []
    refine w_iload ok at_157 rfl ?_
    show W K l _ n0 _ h215 2 2 159 #[.val (.int ln), .val (.int nbs), .val (.int sbs), .val (.int how), .val (.int (1 : Int32)), .val (.int (1 : Int32)), .val (.int n189), .val (.int n192), .val (.int n195), .val (.int s200), .val (.int s205), .val (.int s210), .val (.ref r213), .val (.ref r216), .unset] [(.int s200)]
    refine w_iload ok at_159 rfl ?_
    show W K l _ n0 _ h215 2 2 161 #[.val (.int ln), .val (.int nbs), .val (.int sbs), .val (.int how), .val (.int (1 : Int32)), .val (.int (1 : Int32)), .val (.int n189), .val (.int n192), .val (.int n195), .val (.int s200), .val (.int s205), .val (.int s210), .val (.ref r213), .val (.ref r216), .unset] [(.int n189), (.int s200)]
    refine w_callS ok (y := (⟨"com/example/turnstile/turnstile/server/CommandsIsPinLaw", "ok", "(BB)Z"⟩ : MethodName)) (argsL := [(.int s200), (.int n189)]) (rest := []) at_161 (hw _ (List.mem_of_getElem? (i := 15) rfl)) (hw _ (List.mem_of_getElem? (i := 16) rfl)) (hw _ (List.mem_of_getElem? (i := 2) rfl)) (hw _ (List.mem_of_getElem? (i := 17) rfl)) (by decide) pd_28BB29Z rfl rfl (by decide) (Nat.le_of_ble_eq_true rfl) (by decide) (by decide) (fun z0 => rm_ok l Z a0 hw [] n0 h215 z0 s200 n189 h1_n189) (fun v221 h222 qv221 => ?_)
    obtain ⟨rfl, rfl⟩ := qv221
    show W K l _ n0 _ h215 2 2 164 #[.val (.int ln), .val (.int nbs), .val (.int sbs), .val (.int how), .val (.int (1 : Int32)), .val (.int (1 : Int32)), .val (.int n189), .val (.int n192), .val (.int n195), .val (.int s200), .val (.int s205), .val (.int s210), .val (.ref r213), .val (.ref r216), .unset] [(.int (own_ok s200 n189))]
    refine w_if_eq ok at_164 (pc' := 203) (by decide) (fun hc224 => ?_) (fun hc224 => ?_)
    · show W K l _ n0 _ h215 2 2 203 #[.val (.int ln), .val (.int nbs), .val (.int sbs), .val (.int how), .val (.int (1 : Int32)), .val (.int (1 : Int32)), .val (.int n189), .val (.int n192), .val (.int n195), .val (.int s200), .val (.int s205), .val (.int s210), .val (.ref r213), .val (.ref r216), .unset] []
      refine w_iconst ok at_203 (v := (0 : Int32)) rfl ?_
      show W K l _ n0 _ h215 2 2 204 #[.val (.int ln), .val (.int nbs), .val (.int sbs), .val (.int how), .val (.int (1 : Int32)), .val (.int (1 : Int32)), .val (.int n189), .val (.int n192), .val (.int n195), .val (.int s200), .val (.int s205), .val (.int s210), .val (.ref r213), .val (.ref r216), .unset] [(.int (0 : Int32))]
      refine w_istore ok at_204 (L' := #[.val (.int ln), .val (.int nbs), .val (.int sbs), .val (.int how), .val (.int (1 : Int32)), .val (.int (1 : Int32)), .val (.int n189), .val (.int n192), .val (.int n195), .val (.int s200), .val (.int s205), .val (.int s210), .val (.ref r213), .val (.ref r216), .val (.int (0 : Int32))]) rfl ?_
      show W K l _ n0 _ h215 2 2 206 #[.val (.int ln), .val (.int nbs), .val (.int sbs), .val (.int how), .val (.int (1 : Int32)), .val (.int (1 : Int32)), .val (.int n189), .val (.int n192), .val (.int n195), .val (.int s200), .val (.int s205), .val (.int s210), .val (.ref r213), .val (.ref r216), .val (.int (0 : Int32))] []
      refine w_aload ok at_206 rfl rfl ?_
      show W K l _ n0 _ h215 2 2 208 #[.val (.int ln), .val (.int nbs), .val (.int sbs), .val (.int how), .val (.int (1 : Int32)), .val (.int (1 : Int32)), .val (.int n189), .val (.int n192), .val (.int n195), .val (.int s200), .val (.int s205), .val (.int s210), .val (.ref r213), .val (.ref r216), .val (.int (0 : Int32))] [(.ref r213)]
      refine w_aload ok at_208 rfl rfl ?_
      show W K l _ n0 _ h215 2 2 210 #[.val (.int ln), .val (.int nbs), .val (.int sbs), .val (.int how), .val (.int (1 : Int32)), .val (.int (1 : Int32)), .val (.int n189), .val (.int n192), .val (.int n195), .val (.int s200), .val (.int s205), .val (.int s210), .val (.ref r213), .val (.ref r216), .val (.int (0 : Int32))] [(.ref r216), (.ref r213)]
      refine w_callS ok (y := (⟨"com/example/turnstile/turnstile/server/Commands", "is", "([B[B)Z"⟩ : MethodName)) (argsL := [(.ref r213), (.ref r216)]) (rest := []) at_210 (hw _ (List.mem_of_getElem? (i := 11) rfl)) (hw _ (List.mem_of_getElem? (i := 12) rfl)) (hw _ (List.mem_of_getElem? (i := 13) rfl)) (hw _ (List.mem_of_getElem? (i := 14) rfl)) (by decide) pd_285bB5bB29Z rfl rfl (by decide) (Nat.le_of_ble_eq_true rfl) (by decide) (by decide) (fun z0 => rm_is l Z a0 hw [] n0 h215 z0 r213 r216 [nar .byte s200] [nar .byte n189] A_r213 A_r216) (fun v225 h226 qv225 => ?_)
      obtain ⟨rfl, rfl⟩ := qv225
      show W K l _ n0 _ h215 2 2 213 #[.val (.int ln), .val (.int nbs), .val (.int sbs), .val (.int how), .val (.int (1 : Int32)), .val (.int (1 : Int32)), .val (.int n189), .val (.int n192), .val (.int n195), .val (.int s200), .val (.int s205), .val (.int s210), .val (.ref r213), .val (.ref r216), .val (.int (0 : Int32))] [(.int (nar .boolean (own_isl [nar .byte s200] [nar .byte n189])))]
      refine w_iload ok at_213 rfl ?_
      show W K l _ n0 _ h215 2 2 215 #[.val (.int ln), .val (.int nbs), .val (.int sbs), .val (.int how), .val (.int (1 : Int32)), .val (.int (1 : Int32)), .val (.int n189), .val (.int n192), .val (.int n195), .val (.int s200), .val (.int s205), .val (.int s210), .val (.ref r213), .val (.ref r216), .val (.int (0 : Int32))] [(.int (0 : Int32)), (.int (nar .boolean (own_isl [nar .byte s200] [nar .byte n189])))]
      refine w_icmp_ne ok at_215 (pc' := 222) (by decide) (fun hc228 => False.elim (by exact hc228 (by rw [own_nb h1_s200.1 h1_s200.2, own_nb h1_n189.1 h1_n189.2]; rw [own_isl, if_neg (own_f h1_s200 ⟨h1_n189, h2_n189⟩ hc224)]; skip <;> rfl))) (fun hc228 => ?_)
      show W K l _ n0 _ h215 2 2 218 #[.val (.int ln), .val (.int nbs), .val (.int sbs), .val (.int how), .val (.int (1 : Int32)), .val (.int (1 : Int32)), .val (.int n189), .val (.int n192), .val (.int n195), .val (.int s200), .val (.int s205), .val (.int s210), .val (.ref r213), .val (.ref r216), .val (.int (0 : Int32))] []
      refine w_iconst ok at_218 (v := (1 : Int32)) rfl ?_
      show W K l _ n0 _ h215 2 2 219 #[.val (.int ln), .val (.int nbs), .val (.int sbs), .val (.int how), .val (.int (1 : Int32)), .val (.int (1 : Int32)), .val (.int n189), .val (.int n192), .val (.int n195), .val (.int s200), .val (.int s205), .val (.int s210), .val (.ref r213), .val (.ref r216), .val (.int (0 : Int32))] [(.int (1 : Int32))]
      refine w_goto ok at_219 (pc' := 223) (by decide) ?_
      show W K l _ n0 _ h215 2 2 223 #[.val (.int ln), .val (.int nbs), .val (.int sbs), .val (.int how), .val (.int (1 : Int32)), .val (.int (1 : Int32)), .val (.int n189), .val (.int n192), .val (.int n195), .val (.int s200), .val (.int s205), .val (.int s210), .val (.ref r213), .val (.ref r216), .val (.int (0 : Int32))] [(.int (1 : Int32))]
      refine w_bret ok (by simp) at_223 (by decide) (by decide) ?_
      exact rfl
    · show W K l _ n0 _ h215 2 2 167 #[.val (.int ln), .val (.int nbs), .val (.int sbs), .val (.int how), .val (.int (1 : Int32)), .val (.int (1 : Int32)), .val (.int n189), .val (.int n192), .val (.int n195), .val (.int s200), .val (.int s205), .val (.int s210), .val (.ref r213), .val (.ref r216), .unset] []
      refine w_iload ok at_167 rfl ?_
      show W K l _ n0 _ h215 2 2 169 #[.val (.int ln), .val (.int nbs), .val (.int sbs), .val (.int how), .val (.int (1 : Int32)), .val (.int (1 : Int32)), .val (.int n189), .val (.int n192), .val (.int n195), .val (.int s200), .val (.int s205), .val (.int s210), .val (.ref r213), .val (.ref r216), .unset] [(.int (1 : Int32))]
      refine w_iconst ok at_169 (v := (2 : Int32)) rfl ?_
      show W K l _ n0 _ h215 2 2 170 #[.val (.int ln), .val (.int nbs), .val (.int sbs), .val (.int how), .val (.int (1 : Int32)), .val (.int (1 : Int32)), .val (.int n189), .val (.int n192), .val (.int n195), .val (.int s200), .val (.int s205), .val (.int s210), .val (.ref r213), .val (.ref r216), .unset] [(.int (2 : Int32)), (.int (1 : Int32))]
      refine w_icmp_lt ok at_170 (pc' := 183) (by decide) (fun hc230 => ?_) (fun hc230 => False.elim (by revert hc230; decide))
      show W K l _ n0 _ h215 2 2 183 #[.val (.int ln), .val (.int nbs), .val (.int sbs), .val (.int how), .val (.int (1 : Int32)), .val (.int (1 : Int32)), .val (.int n189), .val (.int n192), .val (.int n195), .val (.int s200), .val (.int s205), .val (.int s210), .val (.ref r213), .val (.ref r216), .unset] []
      refine w_iload ok at_183 rfl ?_
      show W K l _ n0 _ h215 2 2 185 #[.val (.int ln), .val (.int nbs), .val (.int sbs), .val (.int how), .val (.int (1 : Int32)), .val (.int (1 : Int32)), .val (.int n189), .val (.int n192), .val (.int n195), .val (.int s200), .val (.int s205), .val (.int s210), .val (.ref r213), .val (.ref r216), .unset] [(.int (1 : Int32))]
      refine w_iconst ok at_185 (v := (3 : Int32)) rfl ?_
      show W K l _ n0 _ h215 2 2 186 #[.val (.int ln), .val (.int nbs), .val (.int sbs), .val (.int how), .val (.int (1 : Int32)), .val (.int (1 : Int32)), .val (.int n189), .val (.int n192), .val (.int n195), .val (.int s200), .val (.int s205), .val (.int s210), .val (.ref r213), .val (.ref r216), .unset] [(.int (3 : Int32)), (.int (1 : Int32))]
      refine w_icmp_lt ok at_186 (pc' := 199) (by decide) (fun hc232 => ?_) (fun hc232 => False.elim (by revert hc232; decide))
      show W K l _ n0 _ h215 2 2 199 #[.val (.int ln), .val (.int nbs), .val (.int sbs), .val (.int how), .val (.int (1 : Int32)), .val (.int (1 : Int32)), .val (.int n189), .val (.int n192), .val (.int n195), .val (.int s200), .val (.int s205), .val (.int s210), .val (.ref r213), .val (.ref r216), .unset] []
      refine w_iconst ok at_199 (v := (1 : Int32)) rfl ?_
      show W K l _ n0 _ h215 2 2 200 #[.val (.int ln), .val (.int nbs), .val (.int sbs), .val (.int how), .val (.int (1 : Int32)), .val (.int (1 : Int32)), .val (.int n189), .val (.int n192), .val (.int n195), .val (.int s200), .val (.int s205), .val (.int s210), .val (.ref r213), .val (.ref r216), .unset] [(.int (1 : Int32))]
      refine w_goto ok at_200 (pc' := 204) (by decide) ?_
      show W K l _ n0 _ h215 2 2 204 #[.val (.int ln), .val (.int nbs), .val (.int sbs), .val (.int how), .val (.int (1 : Int32)), .val (.int (1 : Int32)), .val (.int n189), .val (.int n192), .val (.int n195), .val (.int s200), .val (.int s205), .val (.int s210), .val (.ref r213), .val (.ref r216), .unset] [(.int (1 : Int32))]
      refine w_istore ok at_204 (L' := #[.val (.int ln), .val (.int nbs), .val (.int sbs), .val (.int how), .val (.int (1 : Int32)), .val (.int (1 : Int32)), .val (.int n189), .val (.int n192), .val (.int n195), .val (.int s200), .val (.int s205), .val (.int s210), .val (.ref r213), .val (.ref r216), .val (.int (1 : Int32))]) rfl ?_
      show W K l _ n0 _ h215 2 2 206 #[.val (.int ln), .val (.int nbs), .val (.int sbs), .val (.int how), .val (.int (1 : Int32)), .val (.int (1 : Int32)), .val (.int n189), .val (.int n192), .val (.int n195), .val (.int s200), .val (.int s205), .val (.int s210), .val (.ref r213), .val (.ref r216), .val (.int (1 : Int32))] []
      refine w_aload ok at_206 rfl rfl ?_
      show W K l _ n0 _ h215 2 2 208 #[.val (.int ln), .val (.int nbs), .val (.int sbs), .val (.int how), .val (.int (1 : Int32)), .val (.int (1 : Int32)), .val (.int n189), .val (.int n192), .val (.int n195), .val (.int s200), .val (.int s205), .val (.int s210), .val (.ref r213), .val (.ref r216), .val (.int (1 : Int32))] [(.ref r213)]
      refine w_aload ok at_208 rfl rfl ?_
      show W K l _ n0 _ h215 2 2 210 #[.val (.int ln), .val (.int nbs), .val (.int sbs), .val (.int how), .val (.int (1 : Int32)), .val (.int (1 : Int32)), .val (.int n189), .val (.int n192), .val (.int n195), .val (.int s200), .val (.int s205), .val (.int s210), .val (.ref r213), .val (.ref r216), .val (.int (1 : Int32))] [(.ref r216), (.ref r213)]
      refine w_callS ok (y := (⟨"com/example/turnstile/turnstile/server/Commands", "is", "([B[B)Z"⟩ : MethodName)) (argsL := [(.ref r213), (.ref r216)]) (rest := []) at_210 (hw _ (List.mem_of_getElem? (i := 11) rfl)) (hw _ (List.mem_of_getElem? (i := 12) rfl)) (hw _ (List.mem_of_getElem? (i := 13) rfl)) (hw _ (List.mem_of_getElem? (i := 14) rfl)) (by decide) pd_285bB5bB29Z rfl rfl (by decide) (Nat.le_of_ble_eq_true rfl) (by decide) (by decide) (fun z0 => rm_is l Z a0 hw [] n0 h215 z0 r213 r216 [nar .byte s200] [nar .byte n189] A_r213 A_r216) (fun v233 h234 qv233 => ?_)
      obtain ⟨rfl, rfl⟩ := qv233
      show W K l _ n0 _ h215 2 2 213 #[.val (.int ln), .val (.int nbs), .val (.int sbs), .val (.int how), .val (.int (1 : Int32)), .val (.int (1 : Int32)), .val (.int n189), .val (.int n192), .val (.int n195), .val (.int s200), .val (.int s205), .val (.int s210), .val (.ref r213), .val (.ref r216), .val (.int (1 : Int32))] [(.int (nar .boolean (own_isl [nar .byte s200] [nar .byte n189])))]
      refine w_iload ok at_213 rfl ?_
      show W K l _ n0 _ h215 2 2 215 #[.val (.int ln), .val (.int nbs), .val (.int sbs), .val (.int how), .val (.int (1 : Int32)), .val (.int (1 : Int32)), .val (.int n189), .val (.int n192), .val (.int n195), .val (.int s200), .val (.int s205), .val (.int s210), .val (.ref r213), .val (.ref r216), .val (.int (1 : Int32))] [(.int (1 : Int32)), (.int (nar .boolean (own_isl [nar .byte s200] [nar .byte n189])))]
      refine w_icmp_ne ok at_215 (pc' := 222) (by decide) (fun hc236 => False.elim (by exact hc236 (by rw [own_nb h1_s200.1 h1_s200.2, own_nb h1_n189.1 h1_n189.2]; rw [own_isl, if_pos (own_t h1_s200 ⟨h1_n189, h2_n189⟩ hc224)]; skip <;> rfl))) (fun hc236 => ?_)
      show W K l _ n0 _ h215 2 2 218 #[.val (.int ln), .val (.int nbs), .val (.int sbs), .val (.int how), .val (.int (1 : Int32)), .val (.int (1 : Int32)), .val (.int n189), .val (.int n192), .val (.int n195), .val (.int s200), .val (.int s205), .val (.int s210), .val (.ref r213), .val (.ref r216), .val (.int (1 : Int32))] []
      refine w_iconst ok at_218 (v := (1 : Int32)) rfl ?_
      show W K l _ n0 _ h215 2 2 219 #[.val (.int ln), .val (.int nbs), .val (.int sbs), .val (.int how), .val (.int (1 : Int32)), .val (.int (1 : Int32)), .val (.int n189), .val (.int n192), .val (.int n195), .val (.int s200), .val (.int s205), .val (.int s210), .val (.ref r213), .val (.ref r216), .val (.int (1 : Int32))] [(.int (1 : Int32))]
      refine w_goto ok at_219 (pc' := 223) (by decide) ?_
      show W K l _ n0 _ h215 2 2 223 #[.val (.int ln), .val (.int nbs), .val (.int sbs), .val (.int how), .val (.int (1 : Int32)), .val (.int (1 : Int32)), .val (.int n189), .val (.int n192), .val (.int n195), .val (.int s200), .val (.int s205), .val (.int s210), .val (.ref r213), .val (.ref r216), .val (.int (1 : Int32))] [(.int (1 : Int32))]
      refine w_bret ok (by simp) at_223 (by decide) (by decide) ?_
      exact rfl
  · skip
    show W K l _ n0 _ h0 0 0 25 #[.val (.int ln), .val (.int nbs), .val (.int sbs), .val (.int how), .val (.int (1 : Int32)), .val (.int (2 : Int32)), .unset, .unset, .unset, .unset, .unset, .unset, .unset, .unset, .unset] []
    refine w_iloadN ok at_25 rfl ?_
    show W K l _ n0 _ h0 0 0 26 #[.val (.int ln), .val (.int nbs), .val (.int sbs), .val (.int how), .val (.int (1 : Int32)), .val (.int (2 : Int32)), .unset, .unset, .unset, .unset, .unset, .unset, .unset, .unset, .unset] [(.int nbs)]
    refine w_callS ok (y := (⟨"com/example/turnstile/turnstile/server/CommandsIsPinLaw", "nameByte", "(I)B"⟩ : MethodName)) (argsL := [(.int nbs)]) (rest := []) at_26 (hw _ (List.mem_of_getElem? (i := 0) rfl)) (hw _ (List.mem_of_getElem? (i := 1) rfl)) (hw _ (List.mem_of_getElem? (i := 2) rfl)) (hw _ (List.mem_of_getElem? (i := 3) rfl)) (by decide) pd_28I29B rfl rfl (by decide) (Nat.le_of_ble_eq_true rfl) (by decide) (by decide) (fun z0 => rm_nb l Z a0 hw [] n0 h0 z0 nbs) (fun v237 h238 qv237 => ?_)
    obtain ⟨n239, rfl, h1_n239, h2_n239, rfl⟩ := qv237
    show W K l _ n0 _ h0 0 0 29 #[.val (.int ln), .val (.int nbs), .val (.int sbs), .val (.int how), .val (.int (1 : Int32)), .val (.int (2 : Int32)), .unset, .unset, .unset, .unset, .unset, .unset, .unset, .unset, .unset] [(.int n239)]
    refine w_istore ok at_29 (L' := #[.val (.int ln), .val (.int nbs), .val (.int sbs), .val (.int how), .val (.int (1 : Int32)), .val (.int (2 : Int32)), .val (.int n239), .unset, .unset, .unset, .unset, .unset, .unset, .unset, .unset]) rfl ?_
    show W K l _ n0 _ h0 0 0 31 #[.val (.int ln), .val (.int nbs), .val (.int sbs), .val (.int how), .val (.int (1 : Int32)), .val (.int (2 : Int32)), .val (.int n239), .unset, .unset, .unset, .unset, .unset, .unset, .unset, .unset] []
    refine w_iloadN ok at_31 rfl ?_
    show W K l _ n0 _ h0 0 0 32 #[.val (.int ln), .val (.int nbs), .val (.int sbs), .val (.int how), .val (.int (1 : Int32)), .val (.int (2 : Int32)), .val (.int n239), .unset, .unset, .unset, .unset, .unset, .unset, .unset, .unset] [(.int nbs)]
    refine w_bipush ok at_32 (v := (8 : Int32)) rfl ?_
    show W K l _ n0 _ h0 0 0 34 #[.val (.int ln), .val (.int nbs), .val (.int sbs), .val (.int how), .val (.int (1 : Int32)), .val (.int (2 : Int32)), .val (.int n239), .unset, .unset, .unset, .unset, .unset, .unset, .unset, .unset] [(.int (8 : Int32)), (.int nbs)]
    refine w_ishr ok at_34 ?_
    show W K l _ n0 _ h0 0 0 35 #[.val (.int ln), .val (.int nbs), .val (.int sbs), .val (.int how), .val (.int (1 : Int32)), .val (.int (2 : Int32)), .val (.int n239), .unset, .unset, .unset, .unset, .unset, .unset, .unset, .unset] [(.int (nbs >>> ((8 : Int32) &&& 31)))]
    refine w_callS ok (y := (⟨"com/example/turnstile/turnstile/server/CommandsIsPinLaw", "nameByte", "(I)B"⟩ : MethodName)) (argsL := [(.int (nbs >>> ((8 : Int32) &&& 31)))]) (rest := []) at_35 (hw _ (List.mem_of_getElem? (i := 0) rfl)) (hw _ (List.mem_of_getElem? (i := 1) rfl)) (hw _ (List.mem_of_getElem? (i := 2) rfl)) (hw _ (List.mem_of_getElem? (i := 3) rfl)) (by decide) pd_28I29B rfl rfl (by decide) (Nat.le_of_ble_eq_true rfl) (by decide) (by decide) (fun z0 => rm_nb l Z a0 hw [] n0 h0 z0 (nbs >>> ((8 : Int32) &&& 31))) (fun v240 h241 qv240 => ?_)
    obtain ⟨n242, rfl, h1_n242, h2_n242, rfl⟩ := qv240
    show W K l _ n0 _ h0 0 0 38 #[.val (.int ln), .val (.int nbs), .val (.int sbs), .val (.int how), .val (.int (1 : Int32)), .val (.int (2 : Int32)), .val (.int n239), .unset, .unset, .unset, .unset, .unset, .unset, .unset, .unset] [(.int n242)]
    refine w_istore ok at_38 (L' := #[.val (.int ln), .val (.int nbs), .val (.int sbs), .val (.int how), .val (.int (1 : Int32)), .val (.int (2 : Int32)), .val (.int n239), .val (.int n242), .unset, .unset, .unset, .unset, .unset, .unset, .unset]) rfl ?_
    show W K l _ n0 _ h0 0 0 40 #[.val (.int ln), .val (.int nbs), .val (.int sbs), .val (.int how), .val (.int (1 : Int32)), .val (.int (2 : Int32)), .val (.int n239), .val (.int n242), .unset, .unset, .unset, .unset, .unset, .unset, .unset] []
    refine w_iloadN ok at_40 rfl ?_
    show W K l _ n0 _ h0 0 0 41 #[.val (.int ln), .val (.int nbs), .val (.int sbs), .val (.int how), .val (.int (1 : Int32)), .val (.int (2 : Int32)), .val (.int n239), .val (.int n242), .unset, .unset, .unset, .unset, .unset, .unset, .unset] [(.int nbs)]
    refine w_bipush ok at_41 (v := (16 : Int32)) rfl ?_
    show W K l _ n0 _ h0 0 0 43 #[.val (.int ln), .val (.int nbs), .val (.int sbs), .val (.int how), .val (.int (1 : Int32)), .val (.int (2 : Int32)), .val (.int n239), .val (.int n242), .unset, .unset, .unset, .unset, .unset, .unset, .unset] [(.int (16 : Int32)), (.int nbs)]
    refine w_ishr ok at_43 ?_
    show W K l _ n0 _ h0 0 0 44 #[.val (.int ln), .val (.int nbs), .val (.int sbs), .val (.int how), .val (.int (1 : Int32)), .val (.int (2 : Int32)), .val (.int n239), .val (.int n242), .unset, .unset, .unset, .unset, .unset, .unset, .unset] [(.int (nbs >>> ((16 : Int32) &&& 31)))]
    refine w_callS ok (y := (⟨"com/example/turnstile/turnstile/server/CommandsIsPinLaw", "nameByte", "(I)B"⟩ : MethodName)) (argsL := [(.int (nbs >>> ((16 : Int32) &&& 31)))]) (rest := []) at_44 (hw _ (List.mem_of_getElem? (i := 0) rfl)) (hw _ (List.mem_of_getElem? (i := 1) rfl)) (hw _ (List.mem_of_getElem? (i := 2) rfl)) (hw _ (List.mem_of_getElem? (i := 3) rfl)) (by decide) pd_28I29B rfl rfl (by decide) (Nat.le_of_ble_eq_true rfl) (by decide) (by decide) (fun z0 => rm_nb l Z a0 hw [] n0 h0 z0 (nbs >>> ((16 : Int32) &&& 31))) (fun v243 h244 qv243 => ?_)
    obtain ⟨n245, rfl, h1_n245, h2_n245, rfl⟩ := qv243
    show W K l _ n0 _ h0 0 0 47 #[.val (.int ln), .val (.int nbs), .val (.int sbs), .val (.int how), .val (.int (1 : Int32)), .val (.int (2 : Int32)), .val (.int n239), .val (.int n242), .unset, .unset, .unset, .unset, .unset, .unset, .unset] [(.int n245)]
    refine w_istore ok at_47 (L' := #[.val (.int ln), .val (.int nbs), .val (.int sbs), .val (.int how), .val (.int (1 : Int32)), .val (.int (2 : Int32)), .val (.int n239), .val (.int n242), .val (.int n245), .unset, .unset, .unset, .unset, .unset, .unset]) rfl ?_
    show W K l _ n0 _ h0 0 0 49 #[.val (.int ln), .val (.int nbs), .val (.int sbs), .val (.int how), .val (.int (1 : Int32)), .val (.int (2 : Int32)), .val (.int n239), .val (.int n242), .val (.int n245), .unset, .unset, .unset, .unset, .unset, .unset] []
    refine w_iloadN ok at_49 rfl ?_
    show W K l _ n0 _ h0 0 0 50 #[.val (.int ln), .val (.int nbs), .val (.int sbs), .val (.int how), .val (.int (1 : Int32)), .val (.int (2 : Int32)), .val (.int n239), .val (.int n242), .val (.int n245), .unset, .unset, .unset, .unset, .unset, .unset] [(.int how)]
    refine w_iloadN ok at_50 rfl ?_
    show W K l _ n0 _ h0 0 0 51 #[.val (.int ln), .val (.int nbs), .val (.int sbs), .val (.int how), .val (.int (1 : Int32)), .val (.int (2 : Int32)), .val (.int n239), .val (.int n242), .val (.int n245), .unset, .unset, .unset, .unset, .unset, .unset] [(.int sbs), (.int how)]
    refine w_iload ok at_51 rfl ?_
    show W K l _ n0 _ h0 0 0 53 #[.val (.int ln), .val (.int nbs), .val (.int sbs), .val (.int how), .val (.int (1 : Int32)), .val (.int (2 : Int32)), .val (.int n239), .val (.int n242), .val (.int n245), .unset, .unset, .unset, .unset, .unset, .unset] [(.int n239), (.int sbs), (.int how)]
    refine w_iload ok at_53 rfl ?_
    show W K l _ n0 _ h0 0 0 55 #[.val (.int ln), .val (.int nbs), .val (.int sbs), .val (.int how), .val (.int (1 : Int32)), .val (.int (2 : Int32)), .val (.int n239), .val (.int n242), .val (.int n245), .unset, .unset, .unset, .unset, .unset, .unset] [(.int (2 : Int32)), (.int n239), (.int sbs), (.int how)]
    refine w_if_le ok at_55 (pc' := 62) (by decide) (fun hc247 => False.elim (by revert hc247; decide)) (fun hc247 => ?_)
    show W K l _ n0 _ h0 0 0 58 #[.val (.int ln), .val (.int nbs), .val (.int sbs), .val (.int how), .val (.int (1 : Int32)), .val (.int (2 : Int32)), .val (.int n239), .val (.int n242), .val (.int n245), .unset, .unset, .unset, .unset, .unset, .unset] [(.int n239), (.int sbs), (.int how)]
    refine w_iconst ok at_58 (v := (1 : Int32)) rfl ?_
    show W K l _ n0 _ h0 0 0 59 #[.val (.int ln), .val (.int nbs), .val (.int sbs), .val (.int how), .val (.int (1 : Int32)), .val (.int (2 : Int32)), .val (.int n239), .val (.int n242), .val (.int n245), .unset, .unset, .unset, .unset, .unset, .unset] [(.int (1 : Int32)), (.int n239), (.int sbs), (.int how)]
    refine w_goto ok at_59 (pc' := 63) (by decide) ?_
    show W K l _ n0 _ h0 0 0 63 #[.val (.int ln), .val (.int nbs), .val (.int sbs), .val (.int how), .val (.int (1 : Int32)), .val (.int (2 : Int32)), .val (.int n239), .val (.int n242), .val (.int n245), .unset, .unset, .unset, .unset, .unset, .unset] [(.int (1 : Int32)), (.int n239), (.int sbs), (.int how)]
    refine w_callS ok (y := (⟨"com/example/turnstile/turnstile/server/CommandsIsPinLaw", "sentByte", "(IIBZ)B"⟩ : MethodName)) (argsL := [(.int how), (.int sbs), (.int n239), (.int (1 : Int32))]) (rest := []) at_63 (hw _ (List.mem_of_getElem? (i := 4) rfl)) (hw _ (List.mem_of_getElem? (i := 5) rfl)) (hw _ (List.mem_of_getElem? (i := 2) rfl)) (hw _ (List.mem_of_getElem? (i := 6) rfl)) (by decide) pd_28IIBZ29B rfl rfl (by decide) (Nat.le_of_ble_eq_true rfl) (by decide) (by decide) (fun z0 => rm_sb l Z a0 hw [] n0 h0 z0 how sbs n239 (1 : Int32)) (fun v248 h249 qv248 => ?_)
    obtain ⟨s250, rfl, h1_s250, rfl⟩ := qv248
    show W K l _ n0 _ h0 0 0 66 #[.val (.int ln), .val (.int nbs), .val (.int sbs), .val (.int how), .val (.int (1 : Int32)), .val (.int (2 : Int32)), .val (.int n239), .val (.int n242), .val (.int n245), .unset, .unset, .unset, .unset, .unset, .unset] [(.int s250)]
    refine w_istore ok at_66 (L' := #[.val (.int ln), .val (.int nbs), .val (.int sbs), .val (.int how), .val (.int (1 : Int32)), .val (.int (2 : Int32)), .val (.int n239), .val (.int n242), .val (.int n245), .val (.int s250), .unset, .unset, .unset, .unset, .unset]) rfl ?_
    show W K l _ n0 _ h0 0 0 68 #[.val (.int ln), .val (.int nbs), .val (.int sbs), .val (.int how), .val (.int (1 : Int32)), .val (.int (2 : Int32)), .val (.int n239), .val (.int n242), .val (.int n245), .val (.int s250), .unset, .unset, .unset, .unset, .unset] []
    refine w_iloadN ok at_68 rfl ?_
    show W K l _ n0 _ h0 0 0 69 #[.val (.int ln), .val (.int nbs), .val (.int sbs), .val (.int how), .val (.int (1 : Int32)), .val (.int (2 : Int32)), .val (.int n239), .val (.int n242), .val (.int n245), .val (.int s250), .unset, .unset, .unset, .unset, .unset] [(.int how)]
    refine w_iconst ok at_69 (v := (2 : Int32)) rfl ?_
    show W K l _ n0 _ h0 0 0 70 #[.val (.int ln), .val (.int nbs), .val (.int sbs), .val (.int how), .val (.int (1 : Int32)), .val (.int (2 : Int32)), .val (.int n239), .val (.int n242), .val (.int n245), .val (.int s250), .unset, .unset, .unset, .unset, .unset] [(.int (2 : Int32)), (.int how)]
    refine w_ishr ok at_70 ?_
    show W K l _ n0 _ h0 0 0 71 #[.val (.int ln), .val (.int nbs), .val (.int sbs), .val (.int how), .val (.int (1 : Int32)), .val (.int (2 : Int32)), .val (.int n239), .val (.int n242), .val (.int n245), .val (.int s250), .unset, .unset, .unset, .unset, .unset] [(.int (how >>> ((2 : Int32) &&& 31)))]
    refine w_iloadN ok at_71 rfl ?_
    show W K l _ n0 _ h0 0 0 72 #[.val (.int ln), .val (.int nbs), .val (.int sbs), .val (.int how), .val (.int (1 : Int32)), .val (.int (2 : Int32)), .val (.int n239), .val (.int n242), .val (.int n245), .val (.int s250), .unset, .unset, .unset, .unset, .unset] [(.int sbs), (.int (how >>> ((2 : Int32) &&& 31)))]
    refine w_bipush ok at_72 (v := (8 : Int32)) rfl ?_
    show W K l _ n0 _ h0 0 0 74 #[.val (.int ln), .val (.int nbs), .val (.int sbs), .val (.int how), .val (.int (1 : Int32)), .val (.int (2 : Int32)), .val (.int n239), .val (.int n242), .val (.int n245), .val (.int s250), .unset, .unset, .unset, .unset, .unset] [(.int (8 : Int32)), (.int sbs), (.int (how >>> ((2 : Int32) &&& 31)))]
    refine w_ishr ok at_74 ?_
    show W K l _ n0 _ h0 0 0 75 #[.val (.int ln), .val (.int nbs), .val (.int sbs), .val (.int how), .val (.int (1 : Int32)), .val (.int (2 : Int32)), .val (.int n239), .val (.int n242), .val (.int n245), .val (.int s250), .unset, .unset, .unset, .unset, .unset] [(.int (sbs >>> ((8 : Int32) &&& 31))), (.int (how >>> ((2 : Int32) &&& 31)))]
    refine w_iload ok at_75 rfl ?_
    show W K l _ n0 _ h0 0 0 77 #[.val (.int ln), .val (.int nbs), .val (.int sbs), .val (.int how), .val (.int (1 : Int32)), .val (.int (2 : Int32)), .val (.int n239), .val (.int n242), .val (.int n245), .val (.int s250), .unset, .unset, .unset, .unset, .unset] [(.int n242), (.int (sbs >>> ((8 : Int32) &&& 31))), (.int (how >>> ((2 : Int32) &&& 31)))]
    refine w_iload ok at_77 rfl ?_
    show W K l _ n0 _ h0 0 0 79 #[.val (.int ln), .val (.int nbs), .val (.int sbs), .val (.int how), .val (.int (1 : Int32)), .val (.int (2 : Int32)), .val (.int n239), .val (.int n242), .val (.int n245), .val (.int s250), .unset, .unset, .unset, .unset, .unset] [(.int (2 : Int32)), (.int n242), (.int (sbs >>> ((8 : Int32) &&& 31))), (.int (how >>> ((2 : Int32) &&& 31)))]
    refine w_iconst ok at_79 (v := (1 : Int32)) rfl ?_
    show W K l _ n0 _ h0 0 0 80 #[.val (.int ln), .val (.int nbs), .val (.int sbs), .val (.int how), .val (.int (1 : Int32)), .val (.int (2 : Int32)), .val (.int n239), .val (.int n242), .val (.int n245), .val (.int s250), .unset, .unset, .unset, .unset, .unset] [(.int (1 : Int32)), (.int (2 : Int32)), (.int n242), (.int (sbs >>> ((8 : Int32) &&& 31))), (.int (how >>> ((2 : Int32) &&& 31)))]
    refine w_icmp_le ok at_80 (pc' := 87) (by decide) (fun hc252 => False.elim (by revert hc252; decide)) (fun hc252 => ?_)
    show W K l _ n0 _ h0 0 0 83 #[.val (.int ln), .val (.int nbs), .val (.int sbs), .val (.int how), .val (.int (1 : Int32)), .val (.int (2 : Int32)), .val (.int n239), .val (.int n242), .val (.int n245), .val (.int s250), .unset, .unset, .unset, .unset, .unset] [(.int n242), (.int (sbs >>> ((8 : Int32) &&& 31))), (.int (how >>> ((2 : Int32) &&& 31)))]
    refine w_iconst ok at_83 (v := (1 : Int32)) rfl ?_
    show W K l _ n0 _ h0 0 0 84 #[.val (.int ln), .val (.int nbs), .val (.int sbs), .val (.int how), .val (.int (1 : Int32)), .val (.int (2 : Int32)), .val (.int n239), .val (.int n242), .val (.int n245), .val (.int s250), .unset, .unset, .unset, .unset, .unset] [(.int (1 : Int32)), (.int n242), (.int (sbs >>> ((8 : Int32) &&& 31))), (.int (how >>> ((2 : Int32) &&& 31)))]
    refine w_goto ok at_84 (pc' := 88) (by decide) ?_
    show W K l _ n0 _ h0 0 0 88 #[.val (.int ln), .val (.int nbs), .val (.int sbs), .val (.int how), .val (.int (1 : Int32)), .val (.int (2 : Int32)), .val (.int n239), .val (.int n242), .val (.int n245), .val (.int s250), .unset, .unset, .unset, .unset, .unset] [(.int (1 : Int32)), (.int n242), (.int (sbs >>> ((8 : Int32) &&& 31))), (.int (how >>> ((2 : Int32) &&& 31)))]
    refine w_callS ok (y := (⟨"com/example/turnstile/turnstile/server/CommandsIsPinLaw", "sentByte", "(IIBZ)B"⟩ : MethodName)) (argsL := [(.int (how >>> ((2 : Int32) &&& 31))), (.int (sbs >>> ((8 : Int32) &&& 31))), (.int n242), (.int (1 : Int32))]) (rest := []) at_88 (hw _ (List.mem_of_getElem? (i := 4) rfl)) (hw _ (List.mem_of_getElem? (i := 5) rfl)) (hw _ (List.mem_of_getElem? (i := 2) rfl)) (hw _ (List.mem_of_getElem? (i := 6) rfl)) (by decide) pd_28IIBZ29B rfl rfl (by decide) (Nat.le_of_ble_eq_true rfl) (by decide) (by decide) (fun z0 => rm_sb l Z a0 hw [] n0 h0 z0 (how >>> ((2 : Int32) &&& 31)) (sbs >>> ((8 : Int32) &&& 31)) n242 (1 : Int32)) (fun v253 h254 qv253 => ?_)
    obtain ⟨s255, rfl, h1_s255, rfl⟩ := qv253
    show W K l _ n0 _ h0 0 0 91 #[.val (.int ln), .val (.int nbs), .val (.int sbs), .val (.int how), .val (.int (1 : Int32)), .val (.int (2 : Int32)), .val (.int n239), .val (.int n242), .val (.int n245), .val (.int s250), .unset, .unset, .unset, .unset, .unset] [(.int s255)]
    refine w_istore ok at_91 (L' := #[.val (.int ln), .val (.int nbs), .val (.int sbs), .val (.int how), .val (.int (1 : Int32)), .val (.int (2 : Int32)), .val (.int n239), .val (.int n242), .val (.int n245), .val (.int s250), .val (.int s255), .unset, .unset, .unset, .unset]) rfl ?_
    show W K l _ n0 _ h0 0 0 93 #[.val (.int ln), .val (.int nbs), .val (.int sbs), .val (.int how), .val (.int (1 : Int32)), .val (.int (2 : Int32)), .val (.int n239), .val (.int n242), .val (.int n245), .val (.int s250), .val (.int s255), .unset, .unset, .unset, .unset] []
    refine w_iloadN ok at_93 rfl ?_
    show W K l _ n0 _ h0 0 0 94 #[.val (.int ln), .val (.int nbs), .val (.int sbs), .val (.int how), .val (.int (1 : Int32)), .val (.int (2 : Int32)), .val (.int n239), .val (.int n242), .val (.int n245), .val (.int s250), .val (.int s255), .unset, .unset, .unset, .unset] [(.int how)]
    refine w_iconst ok at_94 (v := (4 : Int32)) rfl ?_
    show W K l _ n0 _ h0 0 0 95 #[.val (.int ln), .val (.int nbs), .val (.int sbs), .val (.int how), .val (.int (1 : Int32)), .val (.int (2 : Int32)), .val (.int n239), .val (.int n242), .val (.int n245), .val (.int s250), .val (.int s255), .unset, .unset, .unset, .unset] [(.int (4 : Int32)), (.int how)]
    refine w_ishr ok at_95 ?_
    show W K l _ n0 _ h0 0 0 96 #[.val (.int ln), .val (.int nbs), .val (.int sbs), .val (.int how), .val (.int (1 : Int32)), .val (.int (2 : Int32)), .val (.int n239), .val (.int n242), .val (.int n245), .val (.int s250), .val (.int s255), .unset, .unset, .unset, .unset] [(.int (how >>> ((4 : Int32) &&& 31)))]
    refine w_iloadN ok at_96 rfl ?_
    show W K l _ n0 _ h0 0 0 97 #[.val (.int ln), .val (.int nbs), .val (.int sbs), .val (.int how), .val (.int (1 : Int32)), .val (.int (2 : Int32)), .val (.int n239), .val (.int n242), .val (.int n245), .val (.int s250), .val (.int s255), .unset, .unset, .unset, .unset] [(.int sbs), (.int (how >>> ((4 : Int32) &&& 31)))]
    refine w_bipush ok at_97 (v := (16 : Int32)) rfl ?_
    show W K l _ n0 _ h0 0 0 99 #[.val (.int ln), .val (.int nbs), .val (.int sbs), .val (.int how), .val (.int (1 : Int32)), .val (.int (2 : Int32)), .val (.int n239), .val (.int n242), .val (.int n245), .val (.int s250), .val (.int s255), .unset, .unset, .unset, .unset] [(.int (16 : Int32)), (.int sbs), (.int (how >>> ((4 : Int32) &&& 31)))]
    refine w_ishr ok at_99 ?_
    show W K l _ n0 _ h0 0 0 100 #[.val (.int ln), .val (.int nbs), .val (.int sbs), .val (.int how), .val (.int (1 : Int32)), .val (.int (2 : Int32)), .val (.int n239), .val (.int n242), .val (.int n245), .val (.int s250), .val (.int s255), .unset, .unset, .unset, .unset] [(.int (sbs >>> ((16 : Int32) &&& 31))), (.int (how >>> ((4 : Int32) &&& 31)))]
    refine w_iload ok at_100 rfl ?_
    show W K l _ n0 _ h0 0 0 102 #[.val (.int ln), .val (.int nbs), .val (.int sbs), .val (.int how), .val (.int (1 : Int32)), .val (.int (2 : Int32)), .val (.int n239), .val (.int n242), .val (.int n245), .val (.int s250), .val (.int s255), .unset, .unset, .unset, .unset] [(.int n245), (.int (sbs >>> ((16 : Int32) &&& 31))), (.int (how >>> ((4 : Int32) &&& 31)))]
    refine w_iload ok at_102 rfl ?_
    show W K l _ n0 _ h0 0 0 104 #[.val (.int ln), .val (.int nbs), .val (.int sbs), .val (.int how), .val (.int (1 : Int32)), .val (.int (2 : Int32)), .val (.int n239), .val (.int n242), .val (.int n245), .val (.int s250), .val (.int s255), .unset, .unset, .unset, .unset] [(.int (2 : Int32)), (.int n245), (.int (sbs >>> ((16 : Int32) &&& 31))), (.int (how >>> ((4 : Int32) &&& 31)))]
    refine w_iconst ok at_104 (v := (2 : Int32)) rfl ?_
    show W K l _ n0 _ h0 0 0 105 #[.val (.int ln), .val (.int nbs), .val (.int sbs), .val (.int how), .val (.int (1 : Int32)), .val (.int (2 : Int32)), .val (.int n239), .val (.int n242), .val (.int n245), .val (.int s250), .val (.int s255), .unset, .unset, .unset, .unset] [(.int (2 : Int32)), (.int (2 : Int32)), (.int n245), (.int (sbs >>> ((16 : Int32) &&& 31))), (.int (how >>> ((4 : Int32) &&& 31)))]
    refine w_icmp_le ok at_105 (pc' := 112) (by decide) (fun hc257 => ?_) (fun hc257 => False.elim (by revert hc257; decide))
    show W K l _ n0 _ h0 0 0 112 #[.val (.int ln), .val (.int nbs), .val (.int sbs), .val (.int how), .val (.int (1 : Int32)), .val (.int (2 : Int32)), .val (.int n239), .val (.int n242), .val (.int n245), .val (.int s250), .val (.int s255), .unset, .unset, .unset, .unset] [(.int n245), (.int (sbs >>> ((16 : Int32) &&& 31))), (.int (how >>> ((4 : Int32) &&& 31)))]
    refine w_iconst ok at_112 (v := (0 : Int32)) rfl ?_
    show W K l _ n0 _ h0 0 0 113 #[.val (.int ln), .val (.int nbs), .val (.int sbs), .val (.int how), .val (.int (1 : Int32)), .val (.int (2 : Int32)), .val (.int n239), .val (.int n242), .val (.int n245), .val (.int s250), .val (.int s255), .unset, .unset, .unset, .unset] [(.int (0 : Int32)), (.int n245), (.int (sbs >>> ((16 : Int32) &&& 31))), (.int (how >>> ((4 : Int32) &&& 31)))]
    refine w_callS ok (y := (⟨"com/example/turnstile/turnstile/server/CommandsIsPinLaw", "sentByte", "(IIBZ)B"⟩ : MethodName)) (argsL := [(.int (how >>> ((4 : Int32) &&& 31))), (.int (sbs >>> ((16 : Int32) &&& 31))), (.int n245), (.int (0 : Int32))]) (rest := []) at_113 (hw _ (List.mem_of_getElem? (i := 4) rfl)) (hw _ (List.mem_of_getElem? (i := 5) rfl)) (hw _ (List.mem_of_getElem? (i := 2) rfl)) (hw _ (List.mem_of_getElem? (i := 6) rfl)) (by decide) pd_28IIBZ29B rfl rfl (by decide) (Nat.le_of_ble_eq_true rfl) (by decide) (by decide) (fun z0 => rm_sb l Z a0 hw [] n0 h0 z0 (how >>> ((4 : Int32) &&& 31)) (sbs >>> ((16 : Int32) &&& 31)) n245 (0 : Int32)) (fun v258 h259 qv258 => ?_)
    obtain ⟨s260, rfl, h1_s260, rfl⟩ := qv258
    show W K l _ n0 _ h0 0 0 116 #[.val (.int ln), .val (.int nbs), .val (.int sbs), .val (.int how), .val (.int (1 : Int32)), .val (.int (2 : Int32)), .val (.int n239), .val (.int n242), .val (.int n245), .val (.int s250), .val (.int s255), .unset, .unset, .unset, .unset] [(.int s260)]
    refine w_istore ok at_116 (L' := #[.val (.int ln), .val (.int nbs), .val (.int sbs), .val (.int how), .val (.int (1 : Int32)), .val (.int (2 : Int32)), .val (.int n239), .val (.int n242), .val (.int n245), .val (.int s250), .val (.int s255), .val (.int s260), .unset, .unset, .unset]) rfl ?_
    show W K l _ n0 _ h0 0 0 118 #[.val (.int ln), .val (.int nbs), .val (.int sbs), .val (.int how), .val (.int (1 : Int32)), .val (.int (2 : Int32)), .val (.int n239), .val (.int n242), .val (.int n245), .val (.int s250), .val (.int s255), .val (.int s260), .unset, .unset, .unset] []
    refine w_iload ok at_118 rfl ?_
    show W K l _ n0 _ h0 0 0 120 #[.val (.int ln), .val (.int nbs), .val (.int sbs), .val (.int how), .val (.int (1 : Int32)), .val (.int (2 : Int32)), .val (.int n239), .val (.int n242), .val (.int n245), .val (.int s250), .val (.int s255), .val (.int s260), .unset, .unset, .unset] [(.int (1 : Int32))]
    refine w_iload ok at_120 rfl ?_
    show W K l _ n0 _ h0 0 0 122 #[.val (.int ln), .val (.int nbs), .val (.int sbs), .val (.int how), .val (.int (1 : Int32)), .val (.int (2 : Int32)), .val (.int n239), .val (.int n242), .val (.int n245), .val (.int s250), .val (.int s255), .val (.int s260), .unset, .unset, .unset] [(.int s250), (.int (1 : Int32))]
    refine w_iload ok at_122 rfl ?_
    show W K l _ n0 _ h0 0 0 124 #[.val (.int ln), .val (.int nbs), .val (.int sbs), .val (.int how), .val (.int (1 : Int32)), .val (.int (2 : Int32)), .val (.int n239), .val (.int n242), .val (.int n245), .val (.int s250), .val (.int s255), .val (.int s260), .unset, .unset, .unset] [(.int s255), (.int s250), (.int (1 : Int32))]
    refine w_iload ok at_124 rfl ?_
    show W K l _ n0 _ h0 0 0 126 #[.val (.int ln), .val (.int nbs), .val (.int sbs), .val (.int how), .val (.int (1 : Int32)), .val (.int (2 : Int32)), .val (.int n239), .val (.int n242), .val (.int n245), .val (.int s250), .val (.int s255), .val (.int s260), .unset, .unset, .unset] [(.int s260), (.int s255), (.int s250), (.int (1 : Int32))]
    refine w_callS ok (y := (⟨"com/example/turnstile/turnstile/server/CommandsIsPinLaw", "make", "(IBBB)[B"⟩ : MethodName)) (argsL := [(.int (1 : Int32)), (.int s250), (.int s255), (.int s260)]) (rest := []) at_126 (hw _ (List.mem_of_getElem? (i := 7) rfl)) (hw _ (List.mem_of_getElem? (i := 8) rfl)) (hw _ (List.mem_of_getElem? (i := 2) rfl)) (hw _ (List.mem_of_getElem? (i := 9) rfl)) (by decide) pd_28IBBB295bB rfl rfl (by decide) (Nat.le_of_ble_eq_true rfl) (by decide) (by decide) (fun z0 => rm_mk1 l Z a0 hw [] n0 h0 z0 s250 s255 s260) (fun v261 h262 qv261 => ?_)
    obtain ⟨r263, rfl, sz_r263, ge_r263, K1, A_r263⟩ := qv261
    show W K l _ n0 _ h262 1 1 129 #[.val (.int ln), .val (.int nbs), .val (.int sbs), .val (.int how), .val (.int (1 : Int32)), .val (.int (2 : Int32)), .val (.int n239), .val (.int n242), .val (.int n245), .val (.int s250), .val (.int s255), .val (.int s260), .unset, .unset, .unset] [(.ref r263)]
    refine w_astore ok at_129 rfl (L' := #[.val (.int ln), .val (.int nbs), .val (.int sbs), .val (.int how), .val (.int (1 : Int32)), .val (.int (2 : Int32)), .val (.int n239), .val (.int n242), .val (.int n245), .val (.int s250), .val (.int s255), .val (.int s260), .val (.ref r263), .unset, .unset]) rfl ?_
    show W K l _ n0 _ h262 1 1 131 #[.val (.int ln), .val (.int nbs), .val (.int sbs), .val (.int how), .val (.int (1 : Int32)), .val (.int (2 : Int32)), .val (.int n239), .val (.int n242), .val (.int n245), .val (.int s250), .val (.int s255), .val (.int s260), .val (.ref r263), .unset, .unset] []
    refine w_iload ok at_131 rfl ?_
    show W K l _ n0 _ h262 1 1 133 #[.val (.int ln), .val (.int nbs), .val (.int sbs), .val (.int how), .val (.int (1 : Int32)), .val (.int (2 : Int32)), .val (.int n239), .val (.int n242), .val (.int n245), .val (.int s250), .val (.int s255), .val (.int s260), .val (.ref r263), .unset, .unset] [(.int (2 : Int32))]
    refine w_iload ok at_133 rfl ?_
    show W K l _ n0 _ h262 1 1 135 #[.val (.int ln), .val (.int nbs), .val (.int sbs), .val (.int how), .val (.int (1 : Int32)), .val (.int (2 : Int32)), .val (.int n239), .val (.int n242), .val (.int n245), .val (.int s250), .val (.int s255), .val (.int s260), .val (.ref r263), .unset, .unset] [(.int n239), (.int (2 : Int32))]
    refine w_iload ok at_135 rfl ?_
    show W K l _ n0 _ h262 1 1 137 #[.val (.int ln), .val (.int nbs), .val (.int sbs), .val (.int how), .val (.int (1 : Int32)), .val (.int (2 : Int32)), .val (.int n239), .val (.int n242), .val (.int n245), .val (.int s250), .val (.int s255), .val (.int s260), .val (.ref r263), .unset, .unset] [(.int n242), (.int n239), (.int (2 : Int32))]
    refine w_iload ok at_137 rfl ?_
    show W K l _ n0 _ h262 1 1 139 #[.val (.int ln), .val (.int nbs), .val (.int sbs), .val (.int how), .val (.int (1 : Int32)), .val (.int (2 : Int32)), .val (.int n239), .val (.int n242), .val (.int n245), .val (.int s250), .val (.int s255), .val (.int s260), .val (.ref r263), .unset, .unset] [(.int n245), (.int n242), (.int n239), (.int (2 : Int32))]
    refine w_callS ok (y := (⟨"com/example/turnstile/turnstile/server/CommandsIsPinLaw", "make", "(IBBB)[B"⟩ : MethodName)) (argsL := [(.int (2 : Int32)), (.int n239), (.int n242), (.int n245)]) (rest := []) at_139 (hw _ (List.mem_of_getElem? (i := 7) rfl)) (hw _ (List.mem_of_getElem? (i := 8) rfl)) (hw _ (List.mem_of_getElem? (i := 2) rfl)) (hw _ (List.mem_of_getElem? (i := 9) rfl)) (by decide) pd_28IBBB295bB rfl rfl (by decide) (Nat.le_of_ble_eq_true rfl) (by decide) (by decide) (fun z0 => rm_mk2 l Z a0 hw [] n0 h262 z0 n239 n242 n245) (fun v264 h265 qv264 => ?_)
    obtain ⟨r266, rfl, sz_r266, ge_r266, K1, A_r266⟩ := qv264
    have ne_r263_r266 : r263 ≠ r266 := Nat.ne_of_lt (Nat.lt_of_lt_of_le A_r263.lt sz_r266)
    replace A_r263 := A_r263.keep K1 nin0
    show W K l _ n0 _ h265 2 3 142 #[.val (.int ln), .val (.int nbs), .val (.int sbs), .val (.int how), .val (.int (1 : Int32)), .val (.int (2 : Int32)), .val (.int n239), .val (.int n242), .val (.int n245), .val (.int s250), .val (.int s255), .val (.int s260), .val (.ref r263), .unset, .unset] [(.ref r266)]
    refine w_astore ok at_142 rfl (L' := #[.val (.int ln), .val (.int nbs), .val (.int sbs), .val (.int how), .val (.int (1 : Int32)), .val (.int (2 : Int32)), .val (.int n239), .val (.int n242), .val (.int n245), .val (.int s250), .val (.int s255), .val (.int s260), .val (.ref r263), .val (.ref r266), .unset]) rfl ?_
    show W K l _ n0 _ h265 2 3 144 #[.val (.int ln), .val (.int nbs), .val (.int sbs), .val (.int how), .val (.int (1 : Int32)), .val (.int (2 : Int32)), .val (.int n239), .val (.int n242), .val (.int n245), .val (.int s250), .val (.int s255), .val (.int s260), .val (.ref r263), .val (.ref r266), .unset] []
    refine w_iload ok at_144 rfl ?_
    show W K l _ n0 _ h265 2 3 146 #[.val (.int ln), .val (.int nbs), .val (.int sbs), .val (.int how), .val (.int (1 : Int32)), .val (.int (2 : Int32)), .val (.int n239), .val (.int n242), .val (.int n245), .val (.int s250), .val (.int s255), .val (.int s260), .val (.ref r263), .val (.ref r266), .unset] [(.int (1 : Int32))]
    refine w_iload ok at_146 rfl ?_
    show W K l _ n0 _ h265 2 3 148 #[.val (.int ln), .val (.int nbs), .val (.int sbs), .val (.int how), .val (.int (1 : Int32)), .val (.int (2 : Int32)), .val (.int n239), .val (.int n242), .val (.int n245), .val (.int s250), .val (.int s255), .val (.int s260), .val (.ref r263), .val (.ref r266), .unset] [(.int (2 : Int32)), (.int (1 : Int32))]
    refine w_icmp_ne ok at_148 (pc' := 203) (by decide) (fun hc268 => ?_) (fun hc268 => False.elim (by revert hc268; decide))
    show W K l _ n0 _ h265 2 3 203 #[.val (.int ln), .val (.int nbs), .val (.int sbs), .val (.int how), .val (.int (1 : Int32)), .val (.int (2 : Int32)), .val (.int n239), .val (.int n242), .val (.int n245), .val (.int s250), .val (.int s255), .val (.int s260), .val (.ref r263), .val (.ref r266), .unset] []
    refine w_iconst ok at_203 (v := (0 : Int32)) rfl ?_
    show W K l _ n0 _ h265 2 3 204 #[.val (.int ln), .val (.int nbs), .val (.int sbs), .val (.int how), .val (.int (1 : Int32)), .val (.int (2 : Int32)), .val (.int n239), .val (.int n242), .val (.int n245), .val (.int s250), .val (.int s255), .val (.int s260), .val (.ref r263), .val (.ref r266), .unset] [(.int (0 : Int32))]
    refine w_istore ok at_204 (L' := #[.val (.int ln), .val (.int nbs), .val (.int sbs), .val (.int how), .val (.int (1 : Int32)), .val (.int (2 : Int32)), .val (.int n239), .val (.int n242), .val (.int n245), .val (.int s250), .val (.int s255), .val (.int s260), .val (.ref r263), .val (.ref r266), .val (.int (0 : Int32))]) rfl ?_
    show W K l _ n0 _ h265 2 3 206 #[.val (.int ln), .val (.int nbs), .val (.int sbs), .val (.int how), .val (.int (1 : Int32)), .val (.int (2 : Int32)), .val (.int n239), .val (.int n242), .val (.int n245), .val (.int s250), .val (.int s255), .val (.int s260), .val (.ref r263), .val (.ref r266), .val (.int (0 : Int32))] []
    refine w_aload ok at_206 rfl rfl ?_
    show W K l _ n0 _ h265 2 3 208 #[.val (.int ln), .val (.int nbs), .val (.int sbs), .val (.int how), .val (.int (1 : Int32)), .val (.int (2 : Int32)), .val (.int n239), .val (.int n242), .val (.int n245), .val (.int s250), .val (.int s255), .val (.int s260), .val (.ref r263), .val (.ref r266), .val (.int (0 : Int32))] [(.ref r263)]
    refine w_aload ok at_208 rfl rfl ?_
    show W K l _ n0 _ h265 2 3 210 #[.val (.int ln), .val (.int nbs), .val (.int sbs), .val (.int how), .val (.int (1 : Int32)), .val (.int (2 : Int32)), .val (.int n239), .val (.int n242), .val (.int n245), .val (.int s250), .val (.int s255), .val (.int s260), .val (.ref r263), .val (.ref r266), .val (.int (0 : Int32))] [(.ref r266), (.ref r263)]
    refine w_callS ok (y := (⟨"com/example/turnstile/turnstile/server/Commands", "is", "([B[B)Z"⟩ : MethodName)) (argsL := [(.ref r263), (.ref r266)]) (rest := []) at_210 (hw _ (List.mem_of_getElem? (i := 11) rfl)) (hw _ (List.mem_of_getElem? (i := 12) rfl)) (hw _ (List.mem_of_getElem? (i := 13) rfl)) (hw _ (List.mem_of_getElem? (i := 14) rfl)) (by decide) pd_285bB5bB29Z rfl rfl (by decide) (Nat.le_of_ble_eq_true rfl) (by decide) (by decide) (fun z0 => rm_is l Z a0 hw [] n0 h265 z0 r263 r266 [nar .byte s250] [nar .byte n239, nar .byte n242] A_r263 A_r266) (fun v269 h270 qv269 => ?_)
    obtain ⟨rfl, rfl⟩ := qv269
    show W K l _ n0 _ h265 2 3 213 #[.val (.int ln), .val (.int nbs), .val (.int sbs), .val (.int how), .val (.int (1 : Int32)), .val (.int (2 : Int32)), .val (.int n239), .val (.int n242), .val (.int n245), .val (.int s250), .val (.int s255), .val (.int s260), .val (.ref r263), .val (.ref r266), .val (.int (0 : Int32))] [(.int (nar .boolean (own_isl [nar .byte s250] [nar .byte n239, nar .byte n242])))]
    refine w_iload ok at_213 rfl ?_
    show W K l _ n0 _ h265 2 3 215 #[.val (.int ln), .val (.int nbs), .val (.int sbs), .val (.int how), .val (.int (1 : Int32)), .val (.int (2 : Int32)), .val (.int n239), .val (.int n242), .val (.int n245), .val (.int s250), .val (.int s255), .val (.int s260), .val (.ref r263), .val (.ref r266), .val (.int (0 : Int32))] [(.int (0 : Int32)), (.int (nar .boolean (own_isl [nar .byte s250] [nar .byte n239, nar .byte n242])))]
    refine w_icmp_ne ok at_215 (pc' := 222) (by decide) (fun hc272 => False.elim (by exact hc272 (by rw [own_isl_len (by simp)] <;> rfl))) (fun hc272 => ?_)
    show W K l _ n0 _ h265 2 3 218 #[.val (.int ln), .val (.int nbs), .val (.int sbs), .val (.int how), .val (.int (1 : Int32)), .val (.int (2 : Int32)), .val (.int n239), .val (.int n242), .val (.int n245), .val (.int s250), .val (.int s255), .val (.int s260), .val (.ref r263), .val (.ref r266), .val (.int (0 : Int32))] []
    refine w_iconst ok at_218 (v := (1 : Int32)) rfl ?_
    show W K l _ n0 _ h265 2 3 219 #[.val (.int ln), .val (.int nbs), .val (.int sbs), .val (.int how), .val (.int (1 : Int32)), .val (.int (2 : Int32)), .val (.int n239), .val (.int n242), .val (.int n245), .val (.int s250), .val (.int s255), .val (.int s260), .val (.ref r263), .val (.ref r266), .val (.int (0 : Int32))] [(.int (1 : Int32))]
    refine w_goto ok at_219 (pc' := 223) (by decide) ?_
    show W K l _ n0 _ h265 2 3 223 #[.val (.int ln), .val (.int nbs), .val (.int sbs), .val (.int how), .val (.int (1 : Int32)), .val (.int (2 : Int32)), .val (.int n239), .val (.int n242), .val (.int n245), .val (.int s250), .val (.int s255), .val (.int s260), .val (.ref r263), .val (.ref r266), .val (.int (0 : Int32))] [(.int (1 : Int32))]
    refine w_bret ok (by simp) at_223 (by decide) (by decide) ?_
    exact rfl
  · skip
    show W K l _ n0 _ h0 0 0 25 #[.val (.int ln), .val (.int nbs), .val (.int sbs), .val (.int how), .val (.int (1 : Int32)), .val (.int (3 : Int32)), .unset, .unset, .unset, .unset, .unset, .unset, .unset, .unset, .unset] []
    refine w_iloadN ok at_25 rfl ?_
    show W K l _ n0 _ h0 0 0 26 #[.val (.int ln), .val (.int nbs), .val (.int sbs), .val (.int how), .val (.int (1 : Int32)), .val (.int (3 : Int32)), .unset, .unset, .unset, .unset, .unset, .unset, .unset, .unset, .unset] [(.int nbs)]
    refine w_callS ok (y := (⟨"com/example/turnstile/turnstile/server/CommandsIsPinLaw", "nameByte", "(I)B"⟩ : MethodName)) (argsL := [(.int nbs)]) (rest := []) at_26 (hw _ (List.mem_of_getElem? (i := 0) rfl)) (hw _ (List.mem_of_getElem? (i := 1) rfl)) (hw _ (List.mem_of_getElem? (i := 2) rfl)) (hw _ (List.mem_of_getElem? (i := 3) rfl)) (by decide) pd_28I29B rfl rfl (by decide) (Nat.le_of_ble_eq_true rfl) (by decide) (by decide) (fun z0 => rm_nb l Z a0 hw [] n0 h0 z0 nbs) (fun v273 h274 qv273 => ?_)
    obtain ⟨n275, rfl, h1_n275, h2_n275, rfl⟩ := qv273
    show W K l _ n0 _ h0 0 0 29 #[.val (.int ln), .val (.int nbs), .val (.int sbs), .val (.int how), .val (.int (1 : Int32)), .val (.int (3 : Int32)), .unset, .unset, .unset, .unset, .unset, .unset, .unset, .unset, .unset] [(.int n275)]
    refine w_istore ok at_29 (L' := #[.val (.int ln), .val (.int nbs), .val (.int sbs), .val (.int how), .val (.int (1 : Int32)), .val (.int (3 : Int32)), .val (.int n275), .unset, .unset, .unset, .unset, .unset, .unset, .unset, .unset]) rfl ?_
    show W K l _ n0 _ h0 0 0 31 #[.val (.int ln), .val (.int nbs), .val (.int sbs), .val (.int how), .val (.int (1 : Int32)), .val (.int (3 : Int32)), .val (.int n275), .unset, .unset, .unset, .unset, .unset, .unset, .unset, .unset] []
    refine w_iloadN ok at_31 rfl ?_
    show W K l _ n0 _ h0 0 0 32 #[.val (.int ln), .val (.int nbs), .val (.int sbs), .val (.int how), .val (.int (1 : Int32)), .val (.int (3 : Int32)), .val (.int n275), .unset, .unset, .unset, .unset, .unset, .unset, .unset, .unset] [(.int nbs)]
    refine w_bipush ok at_32 (v := (8 : Int32)) rfl ?_
    show W K l _ n0 _ h0 0 0 34 #[.val (.int ln), .val (.int nbs), .val (.int sbs), .val (.int how), .val (.int (1 : Int32)), .val (.int (3 : Int32)), .val (.int n275), .unset, .unset, .unset, .unset, .unset, .unset, .unset, .unset] [(.int (8 : Int32)), (.int nbs)]
    refine w_ishr ok at_34 ?_
    show W K l _ n0 _ h0 0 0 35 #[.val (.int ln), .val (.int nbs), .val (.int sbs), .val (.int how), .val (.int (1 : Int32)), .val (.int (3 : Int32)), .val (.int n275), .unset, .unset, .unset, .unset, .unset, .unset, .unset, .unset] [(.int (nbs >>> ((8 : Int32) &&& 31)))]
    refine w_callS ok (y := (⟨"com/example/turnstile/turnstile/server/CommandsIsPinLaw", "nameByte", "(I)B"⟩ : MethodName)) (argsL := [(.int (nbs >>> ((8 : Int32) &&& 31)))]) (rest := []) at_35 (hw _ (List.mem_of_getElem? (i := 0) rfl)) (hw _ (List.mem_of_getElem? (i := 1) rfl)) (hw _ (List.mem_of_getElem? (i := 2) rfl)) (hw _ (List.mem_of_getElem? (i := 3) rfl)) (by decide) pd_28I29B rfl rfl (by decide) (Nat.le_of_ble_eq_true rfl) (by decide) (by decide) (fun z0 => rm_nb l Z a0 hw [] n0 h0 z0 (nbs >>> ((8 : Int32) &&& 31))) (fun v276 h277 qv276 => ?_)
    obtain ⟨n278, rfl, h1_n278, h2_n278, rfl⟩ := qv276
    show W K l _ n0 _ h0 0 0 38 #[.val (.int ln), .val (.int nbs), .val (.int sbs), .val (.int how), .val (.int (1 : Int32)), .val (.int (3 : Int32)), .val (.int n275), .unset, .unset, .unset, .unset, .unset, .unset, .unset, .unset] [(.int n278)]
    refine w_istore ok at_38 (L' := #[.val (.int ln), .val (.int nbs), .val (.int sbs), .val (.int how), .val (.int (1 : Int32)), .val (.int (3 : Int32)), .val (.int n275), .val (.int n278), .unset, .unset, .unset, .unset, .unset, .unset, .unset]) rfl ?_
    show W K l _ n0 _ h0 0 0 40 #[.val (.int ln), .val (.int nbs), .val (.int sbs), .val (.int how), .val (.int (1 : Int32)), .val (.int (3 : Int32)), .val (.int n275), .val (.int n278), .unset, .unset, .unset, .unset, .unset, .unset, .unset] []
    refine w_iloadN ok at_40 rfl ?_
    show W K l _ n0 _ h0 0 0 41 #[.val (.int ln), .val (.int nbs), .val (.int sbs), .val (.int how), .val (.int (1 : Int32)), .val (.int (3 : Int32)), .val (.int n275), .val (.int n278), .unset, .unset, .unset, .unset, .unset, .unset, .unset] [(.int nbs)]
    refine w_bipush ok at_41 (v := (16 : Int32)) rfl ?_
    show W K l _ n0 _ h0 0 0 43 #[.val (.int ln), .val (.int nbs), .val (.int sbs), .val (.int how), .val (.int (1 : Int32)), .val (.int (3 : Int32)), .val (.int n275), .val (.int n278), .unset, .unset, .unset, .unset, .unset, .unset, .unset] [(.int (16 : Int32)), (.int nbs)]
    refine w_ishr ok at_43 ?_
    show W K l _ n0 _ h0 0 0 44 #[.val (.int ln), .val (.int nbs), .val (.int sbs), .val (.int how), .val (.int (1 : Int32)), .val (.int (3 : Int32)), .val (.int n275), .val (.int n278), .unset, .unset, .unset, .unset, .unset, .unset, .unset] [(.int (nbs >>> ((16 : Int32) &&& 31)))]
    refine w_callS ok (y := (⟨"com/example/turnstile/turnstile/server/CommandsIsPinLaw", "nameByte", "(I)B"⟩ : MethodName)) (argsL := [(.int (nbs >>> ((16 : Int32) &&& 31)))]) (rest := []) at_44 (hw _ (List.mem_of_getElem? (i := 0) rfl)) (hw _ (List.mem_of_getElem? (i := 1) rfl)) (hw _ (List.mem_of_getElem? (i := 2) rfl)) (hw _ (List.mem_of_getElem? (i := 3) rfl)) (by decide) pd_28I29B rfl rfl (by decide) (Nat.le_of_ble_eq_true rfl) (by decide) (by decide) (fun z0 => rm_nb l Z a0 hw [] n0 h0 z0 (nbs >>> ((16 : Int32) &&& 31))) (fun v279 h280 qv279 => ?_)
    obtain ⟨n281, rfl, h1_n281, h2_n281, rfl⟩ := qv279
    show W K l _ n0 _ h0 0 0 47 #[.val (.int ln), .val (.int nbs), .val (.int sbs), .val (.int how), .val (.int (1 : Int32)), .val (.int (3 : Int32)), .val (.int n275), .val (.int n278), .unset, .unset, .unset, .unset, .unset, .unset, .unset] [(.int n281)]
    refine w_istore ok at_47 (L' := #[.val (.int ln), .val (.int nbs), .val (.int sbs), .val (.int how), .val (.int (1 : Int32)), .val (.int (3 : Int32)), .val (.int n275), .val (.int n278), .val (.int n281), .unset, .unset, .unset, .unset, .unset, .unset]) rfl ?_
    show W K l _ n0 _ h0 0 0 49 #[.val (.int ln), .val (.int nbs), .val (.int sbs), .val (.int how), .val (.int (1 : Int32)), .val (.int (3 : Int32)), .val (.int n275), .val (.int n278), .val (.int n281), .unset, .unset, .unset, .unset, .unset, .unset] []
    refine w_iloadN ok at_49 rfl ?_
    show W K l _ n0 _ h0 0 0 50 #[.val (.int ln), .val (.int nbs), .val (.int sbs), .val (.int how), .val (.int (1 : Int32)), .val (.int (3 : Int32)), .val (.int n275), .val (.int n278), .val (.int n281), .unset, .unset, .unset, .unset, .unset, .unset] [(.int how)]
    refine w_iloadN ok at_50 rfl ?_
    show W K l _ n0 _ h0 0 0 51 #[.val (.int ln), .val (.int nbs), .val (.int sbs), .val (.int how), .val (.int (1 : Int32)), .val (.int (3 : Int32)), .val (.int n275), .val (.int n278), .val (.int n281), .unset, .unset, .unset, .unset, .unset, .unset] [(.int sbs), (.int how)]
    refine w_iload ok at_51 rfl ?_
    show W K l _ n0 _ h0 0 0 53 #[.val (.int ln), .val (.int nbs), .val (.int sbs), .val (.int how), .val (.int (1 : Int32)), .val (.int (3 : Int32)), .val (.int n275), .val (.int n278), .val (.int n281), .unset, .unset, .unset, .unset, .unset, .unset] [(.int n275), (.int sbs), (.int how)]
    refine w_iload ok at_53 rfl ?_
    show W K l _ n0 _ h0 0 0 55 #[.val (.int ln), .val (.int nbs), .val (.int sbs), .val (.int how), .val (.int (1 : Int32)), .val (.int (3 : Int32)), .val (.int n275), .val (.int n278), .val (.int n281), .unset, .unset, .unset, .unset, .unset, .unset] [(.int (3 : Int32)), (.int n275), (.int sbs), (.int how)]
    refine w_if_le ok at_55 (pc' := 62) (by decide) (fun hc283 => False.elim (by revert hc283; decide)) (fun hc283 => ?_)
    show W K l _ n0 _ h0 0 0 58 #[.val (.int ln), .val (.int nbs), .val (.int sbs), .val (.int how), .val (.int (1 : Int32)), .val (.int (3 : Int32)), .val (.int n275), .val (.int n278), .val (.int n281), .unset, .unset, .unset, .unset, .unset, .unset] [(.int n275), (.int sbs), (.int how)]
    refine w_iconst ok at_58 (v := (1 : Int32)) rfl ?_
    show W K l _ n0 _ h0 0 0 59 #[.val (.int ln), .val (.int nbs), .val (.int sbs), .val (.int how), .val (.int (1 : Int32)), .val (.int (3 : Int32)), .val (.int n275), .val (.int n278), .val (.int n281), .unset, .unset, .unset, .unset, .unset, .unset] [(.int (1 : Int32)), (.int n275), (.int sbs), (.int how)]
    refine w_goto ok at_59 (pc' := 63) (by decide) ?_
    show W K l _ n0 _ h0 0 0 63 #[.val (.int ln), .val (.int nbs), .val (.int sbs), .val (.int how), .val (.int (1 : Int32)), .val (.int (3 : Int32)), .val (.int n275), .val (.int n278), .val (.int n281), .unset, .unset, .unset, .unset, .unset, .unset] [(.int (1 : Int32)), (.int n275), (.int sbs), (.int how)]
    refine w_callS ok (y := (⟨"com/example/turnstile/turnstile/server/CommandsIsPinLaw", "sentByte", "(IIBZ)B"⟩ : MethodName)) (argsL := [(.int how), (.int sbs), (.int n275), (.int (1 : Int32))]) (rest := []) at_63 (hw _ (List.mem_of_getElem? (i := 4) rfl)) (hw _ (List.mem_of_getElem? (i := 5) rfl)) (hw _ (List.mem_of_getElem? (i := 2) rfl)) (hw _ (List.mem_of_getElem? (i := 6) rfl)) (by decide) pd_28IIBZ29B rfl rfl (by decide) (Nat.le_of_ble_eq_true rfl) (by decide) (by decide) (fun z0 => rm_sb l Z a0 hw [] n0 h0 z0 how sbs n275 (1 : Int32)) (fun v284 h285 qv284 => ?_)
    obtain ⟨s286, rfl, h1_s286, rfl⟩ := qv284
    show W K l _ n0 _ h0 0 0 66 #[.val (.int ln), .val (.int nbs), .val (.int sbs), .val (.int how), .val (.int (1 : Int32)), .val (.int (3 : Int32)), .val (.int n275), .val (.int n278), .val (.int n281), .unset, .unset, .unset, .unset, .unset, .unset] [(.int s286)]
    refine w_istore ok at_66 (L' := #[.val (.int ln), .val (.int nbs), .val (.int sbs), .val (.int how), .val (.int (1 : Int32)), .val (.int (3 : Int32)), .val (.int n275), .val (.int n278), .val (.int n281), .val (.int s286), .unset, .unset, .unset, .unset, .unset]) rfl ?_
    show W K l _ n0 _ h0 0 0 68 #[.val (.int ln), .val (.int nbs), .val (.int sbs), .val (.int how), .val (.int (1 : Int32)), .val (.int (3 : Int32)), .val (.int n275), .val (.int n278), .val (.int n281), .val (.int s286), .unset, .unset, .unset, .unset, .unset] []
    refine w_iloadN ok at_68 rfl ?_
    show W K l _ n0 _ h0 0 0 69 #[.val (.int ln), .val (.int nbs), .val (.int sbs), .val (.int how), .val (.int (1 : Int32)), .val (.int (3 : Int32)), .val (.int n275), .val (.int n278), .val (.int n281), .val (.int s286), .unset, .unset, .unset, .unset, .unset] [(.int how)]
    refine w_iconst ok at_69 (v := (2 : Int32)) rfl ?_
    show W K l _ n0 _ h0 0 0 70 #[.val (.int ln), .val (.int nbs), .val (.int sbs), .val (.int how), .val (.int (1 : Int32)), .val (.int (3 : Int32)), .val (.int n275), .val (.int n278), .val (.int n281), .val (.int s286), .unset, .unset, .unset, .unset, .unset] [(.int (2 : Int32)), (.int how)]
    refine w_ishr ok at_70 ?_
    show W K l _ n0 _ h0 0 0 71 #[.val (.int ln), .val (.int nbs), .val (.int sbs), .val (.int how), .val (.int (1 : Int32)), .val (.int (3 : Int32)), .val (.int n275), .val (.int n278), .val (.int n281), .val (.int s286), .unset, .unset, .unset, .unset, .unset] [(.int (how >>> ((2 : Int32) &&& 31)))]
    refine w_iloadN ok at_71 rfl ?_
    show W K l _ n0 _ h0 0 0 72 #[.val (.int ln), .val (.int nbs), .val (.int sbs), .val (.int how), .val (.int (1 : Int32)), .val (.int (3 : Int32)), .val (.int n275), .val (.int n278), .val (.int n281), .val (.int s286), .unset, .unset, .unset, .unset, .unset] [(.int sbs), (.int (how >>> ((2 : Int32) &&& 31)))]
    refine w_bipush ok at_72 (v := (8 : Int32)) rfl ?_
    show W K l _ n0 _ h0 0 0 74 #[.val (.int ln), .val (.int nbs), .val (.int sbs), .val (.int how), .val (.int (1 : Int32)), .val (.int (3 : Int32)), .val (.int n275), .val (.int n278), .val (.int n281), .val (.int s286), .unset, .unset, .unset, .unset, .unset] [(.int (8 : Int32)), (.int sbs), (.int (how >>> ((2 : Int32) &&& 31)))]
    refine w_ishr ok at_74 ?_
    show W K l _ n0 _ h0 0 0 75 #[.val (.int ln), .val (.int nbs), .val (.int sbs), .val (.int how), .val (.int (1 : Int32)), .val (.int (3 : Int32)), .val (.int n275), .val (.int n278), .val (.int n281), .val (.int s286), .unset, .unset, .unset, .unset, .unset] [(.int (sbs >>> ((8 : Int32) &&& 31))), (.int (how >>> ((2 : Int32) &&& 31)))]
    refine w_iload ok at_75 rfl ?_
    show W K l _ n0 _ h0 0 0 77 #[.val (.int ln), .val (.int nbs), .val (.int sbs), .val (.int how), .val (.int (1 : Int32)), .val (.int (3 : Int32)), .val (.int n275), .val (.int n278), .val (.int n281), .val (.int s286), .unset, .unset, .unset, .unset, .unset] [(.int n278), (.int (sbs >>> ((8 : Int32) &&& 31))), (.int (how >>> ((2 : Int32) &&& 31)))]
    refine w_iload ok at_77 rfl ?_
    show W K l _ n0 _ h0 0 0 79 #[.val (.int ln), .val (.int nbs), .val (.int sbs), .val (.int how), .val (.int (1 : Int32)), .val (.int (3 : Int32)), .val (.int n275), .val (.int n278), .val (.int n281), .val (.int s286), .unset, .unset, .unset, .unset, .unset] [(.int (3 : Int32)), (.int n278), (.int (sbs >>> ((8 : Int32) &&& 31))), (.int (how >>> ((2 : Int32) &&& 31)))]
    refine w_iconst ok at_79 (v := (1 : Int32)) rfl ?_
    show W K l _ n0 _ h0 0 0 80 #[.val (.int ln), .val (.int nbs), .val (.int sbs), .val (.int how), .val (.int (1 : Int32)), .val (.int (3 : Int32)), .val (.int n275), .val (.int n278), .val (.int n281), .val (.int s286), .unset, .unset, .unset, .unset, .unset] [(.int (1 : Int32)), (.int (3 : Int32)), (.int n278), (.int (sbs >>> ((8 : Int32) &&& 31))), (.int (how >>> ((2 : Int32) &&& 31)))]
    refine w_icmp_le ok at_80 (pc' := 87) (by decide) (fun hc288 => False.elim (by revert hc288; decide)) (fun hc288 => ?_)
    show W K l _ n0 _ h0 0 0 83 #[.val (.int ln), .val (.int nbs), .val (.int sbs), .val (.int how), .val (.int (1 : Int32)), .val (.int (3 : Int32)), .val (.int n275), .val (.int n278), .val (.int n281), .val (.int s286), .unset, .unset, .unset, .unset, .unset] [(.int n278), (.int (sbs >>> ((8 : Int32) &&& 31))), (.int (how >>> ((2 : Int32) &&& 31)))]
    refine w_iconst ok at_83 (v := (1 : Int32)) rfl ?_
    show W K l _ n0 _ h0 0 0 84 #[.val (.int ln), .val (.int nbs), .val (.int sbs), .val (.int how), .val (.int (1 : Int32)), .val (.int (3 : Int32)), .val (.int n275), .val (.int n278), .val (.int n281), .val (.int s286), .unset, .unset, .unset, .unset, .unset] [(.int (1 : Int32)), (.int n278), (.int (sbs >>> ((8 : Int32) &&& 31))), (.int (how >>> ((2 : Int32) &&& 31)))]
    refine w_goto ok at_84 (pc' := 88) (by decide) ?_
    show W K l _ n0 _ h0 0 0 88 #[.val (.int ln), .val (.int nbs), .val (.int sbs), .val (.int how), .val (.int (1 : Int32)), .val (.int (3 : Int32)), .val (.int n275), .val (.int n278), .val (.int n281), .val (.int s286), .unset, .unset, .unset, .unset, .unset] [(.int (1 : Int32)), (.int n278), (.int (sbs >>> ((8 : Int32) &&& 31))), (.int (how >>> ((2 : Int32) &&& 31)))]
    refine w_callS ok (y := (⟨"com/example/turnstile/turnstile/server/CommandsIsPinLaw", "sentByte", "(IIBZ)B"⟩ : MethodName)) (argsL := [(.int (how >>> ((2 : Int32) &&& 31))), (.int (sbs >>> ((8 : Int32) &&& 31))), (.int n278), (.int (1 : Int32))]) (rest := []) at_88 (hw _ (List.mem_of_getElem? (i := 4) rfl)) (hw _ (List.mem_of_getElem? (i := 5) rfl)) (hw _ (List.mem_of_getElem? (i := 2) rfl)) (hw _ (List.mem_of_getElem? (i := 6) rfl)) (by decide) pd_28IIBZ29B rfl rfl (by decide) (Nat.le_of_ble_eq_true rfl) (by decide) (by decide) (fun z0 => rm_sb l Z a0 hw [] n0 h0 z0 (how >>> ((2 : Int32) &&& 31)) (sbs >>> ((8 : Int32) &&& 31)) n278 (1 : Int32)) (fun v289 h290 qv289 => ?_)
    obtain ⟨s291, rfl, h1_s291, rfl⟩ := qv289
    show W K l _ n0 _ h0 0 0 91 #[.val (.int ln), .val (.int nbs), .val (.int sbs), .val (.int how), .val (.int (1 : Int32)), .val (.int (3 : Int32)), .val (.int n275), .val (.int n278), .val (.int n281), .val (.int s286), .unset, .unset, .unset, .unset, .unset] [(.int s291)]
    refine w_istore ok at_91 (L' := #[.val (.int ln), .val (.int nbs), .val (.int sbs), .val (.int how), .val (.int (1 : Int32)), .val (.int (3 : Int32)), .val (.int n275), .val (.int n278), .val (.int n281), .val (.int s286), .val (.int s291), .unset, .unset, .unset, .unset]) rfl ?_
    show W K l _ n0 _ h0 0 0 93 #[.val (.int ln), .val (.int nbs), .val (.int sbs), .val (.int how), .val (.int (1 : Int32)), .val (.int (3 : Int32)), .val (.int n275), .val (.int n278), .val (.int n281), .val (.int s286), .val (.int s291), .unset, .unset, .unset, .unset] []
    refine w_iloadN ok at_93 rfl ?_
    show W K l _ n0 _ h0 0 0 94 #[.val (.int ln), .val (.int nbs), .val (.int sbs), .val (.int how), .val (.int (1 : Int32)), .val (.int (3 : Int32)), .val (.int n275), .val (.int n278), .val (.int n281), .val (.int s286), .val (.int s291), .unset, .unset, .unset, .unset] [(.int how)]
    refine w_iconst ok at_94 (v := (4 : Int32)) rfl ?_
    show W K l _ n0 _ h0 0 0 95 #[.val (.int ln), .val (.int nbs), .val (.int sbs), .val (.int how), .val (.int (1 : Int32)), .val (.int (3 : Int32)), .val (.int n275), .val (.int n278), .val (.int n281), .val (.int s286), .val (.int s291), .unset, .unset, .unset, .unset] [(.int (4 : Int32)), (.int how)]
    refine w_ishr ok at_95 ?_
    show W K l _ n0 _ h0 0 0 96 #[.val (.int ln), .val (.int nbs), .val (.int sbs), .val (.int how), .val (.int (1 : Int32)), .val (.int (3 : Int32)), .val (.int n275), .val (.int n278), .val (.int n281), .val (.int s286), .val (.int s291), .unset, .unset, .unset, .unset] [(.int (how >>> ((4 : Int32) &&& 31)))]
    refine w_iloadN ok at_96 rfl ?_
    show W K l _ n0 _ h0 0 0 97 #[.val (.int ln), .val (.int nbs), .val (.int sbs), .val (.int how), .val (.int (1 : Int32)), .val (.int (3 : Int32)), .val (.int n275), .val (.int n278), .val (.int n281), .val (.int s286), .val (.int s291), .unset, .unset, .unset, .unset] [(.int sbs), (.int (how >>> ((4 : Int32) &&& 31)))]
    refine w_bipush ok at_97 (v := (16 : Int32)) rfl ?_
    show W K l _ n0 _ h0 0 0 99 #[.val (.int ln), .val (.int nbs), .val (.int sbs), .val (.int how), .val (.int (1 : Int32)), .val (.int (3 : Int32)), .val (.int n275), .val (.int n278), .val (.int n281), .val (.int s286), .val (.int s291), .unset, .unset, .unset, .unset] [(.int (16 : Int32)), (.int sbs), (.int (how >>> ((4 : Int32) &&& 31)))]
    refine w_ishr ok at_99 ?_
    show W K l _ n0 _ h0 0 0 100 #[.val (.int ln), .val (.int nbs), .val (.int sbs), .val (.int how), .val (.int (1 : Int32)), .val (.int (3 : Int32)), .val (.int n275), .val (.int n278), .val (.int n281), .val (.int s286), .val (.int s291), .unset, .unset, .unset, .unset] [(.int (sbs >>> ((16 : Int32) &&& 31))), (.int (how >>> ((4 : Int32) &&& 31)))]
    refine w_iload ok at_100 rfl ?_
    show W K l _ n0 _ h0 0 0 102 #[.val (.int ln), .val (.int nbs), .val (.int sbs), .val (.int how), .val (.int (1 : Int32)), .val (.int (3 : Int32)), .val (.int n275), .val (.int n278), .val (.int n281), .val (.int s286), .val (.int s291), .unset, .unset, .unset, .unset] [(.int n281), (.int (sbs >>> ((16 : Int32) &&& 31))), (.int (how >>> ((4 : Int32) &&& 31)))]
    refine w_iload ok at_102 rfl ?_
    show W K l _ n0 _ h0 0 0 104 #[.val (.int ln), .val (.int nbs), .val (.int sbs), .val (.int how), .val (.int (1 : Int32)), .val (.int (3 : Int32)), .val (.int n275), .val (.int n278), .val (.int n281), .val (.int s286), .val (.int s291), .unset, .unset, .unset, .unset] [(.int (3 : Int32)), (.int n281), (.int (sbs >>> ((16 : Int32) &&& 31))), (.int (how >>> ((4 : Int32) &&& 31)))]
    refine w_iconst ok at_104 (v := (2 : Int32)) rfl ?_
    show W K l _ n0 _ h0 0 0 105 #[.val (.int ln), .val (.int nbs), .val (.int sbs), .val (.int how), .val (.int (1 : Int32)), .val (.int (3 : Int32)), .val (.int n275), .val (.int n278), .val (.int n281), .val (.int s286), .val (.int s291), .unset, .unset, .unset, .unset] [(.int (2 : Int32)), (.int (3 : Int32)), (.int n281), (.int (sbs >>> ((16 : Int32) &&& 31))), (.int (how >>> ((4 : Int32) &&& 31)))]
    refine w_icmp_le ok at_105 (pc' := 112) (by decide) (fun hc293 => False.elim (by revert hc293; decide)) (fun hc293 => ?_)
    show W K l _ n0 _ h0 0 0 108 #[.val (.int ln), .val (.int nbs), .val (.int sbs), .val (.int how), .val (.int (1 : Int32)), .val (.int (3 : Int32)), .val (.int n275), .val (.int n278), .val (.int n281), .val (.int s286), .val (.int s291), .unset, .unset, .unset, .unset] [(.int n281), (.int (sbs >>> ((16 : Int32) &&& 31))), (.int (how >>> ((4 : Int32) &&& 31)))]
    refine w_iconst ok at_108 (v := (1 : Int32)) rfl ?_
    show W K l _ n0 _ h0 0 0 109 #[.val (.int ln), .val (.int nbs), .val (.int sbs), .val (.int how), .val (.int (1 : Int32)), .val (.int (3 : Int32)), .val (.int n275), .val (.int n278), .val (.int n281), .val (.int s286), .val (.int s291), .unset, .unset, .unset, .unset] [(.int (1 : Int32)), (.int n281), (.int (sbs >>> ((16 : Int32) &&& 31))), (.int (how >>> ((4 : Int32) &&& 31)))]
    refine w_goto ok at_109 (pc' := 113) (by decide) ?_
    show W K l _ n0 _ h0 0 0 113 #[.val (.int ln), .val (.int nbs), .val (.int sbs), .val (.int how), .val (.int (1 : Int32)), .val (.int (3 : Int32)), .val (.int n275), .val (.int n278), .val (.int n281), .val (.int s286), .val (.int s291), .unset, .unset, .unset, .unset] [(.int (1 : Int32)), (.int n281), (.int (sbs >>> ((16 : Int32) &&& 31))), (.int (how >>> ((4 : Int32) &&& 31)))]
    refine w_callS ok (y := (⟨"com/example/turnstile/turnstile/server/CommandsIsPinLaw", "sentByte", "(IIBZ)B"⟩ : MethodName)) (argsL := [(.int (how >>> ((4 : Int32) &&& 31))), (.int (sbs >>> ((16 : Int32) &&& 31))), (.int n281), (.int (1 : Int32))]) (rest := []) at_113 (hw _ (List.mem_of_getElem? (i := 4) rfl)) (hw _ (List.mem_of_getElem? (i := 5) rfl)) (hw _ (List.mem_of_getElem? (i := 2) rfl)) (hw _ (List.mem_of_getElem? (i := 6) rfl)) (by decide) pd_28IIBZ29B rfl rfl (by decide) (Nat.le_of_ble_eq_true rfl) (by decide) (by decide) (fun z0 => rm_sb l Z a0 hw [] n0 h0 z0 (how >>> ((4 : Int32) &&& 31)) (sbs >>> ((16 : Int32) &&& 31)) n281 (1 : Int32)) (fun v294 h295 qv294 => ?_)
    obtain ⟨s296, rfl, h1_s296, rfl⟩ := qv294
    show W K l _ n0 _ h0 0 0 116 #[.val (.int ln), .val (.int nbs), .val (.int sbs), .val (.int how), .val (.int (1 : Int32)), .val (.int (3 : Int32)), .val (.int n275), .val (.int n278), .val (.int n281), .val (.int s286), .val (.int s291), .unset, .unset, .unset, .unset] [(.int s296)]
    refine w_istore ok at_116 (L' := #[.val (.int ln), .val (.int nbs), .val (.int sbs), .val (.int how), .val (.int (1 : Int32)), .val (.int (3 : Int32)), .val (.int n275), .val (.int n278), .val (.int n281), .val (.int s286), .val (.int s291), .val (.int s296), .unset, .unset, .unset]) rfl ?_
    show W K l _ n0 _ h0 0 0 118 #[.val (.int ln), .val (.int nbs), .val (.int sbs), .val (.int how), .val (.int (1 : Int32)), .val (.int (3 : Int32)), .val (.int n275), .val (.int n278), .val (.int n281), .val (.int s286), .val (.int s291), .val (.int s296), .unset, .unset, .unset] []
    refine w_iload ok at_118 rfl ?_
    show W K l _ n0 _ h0 0 0 120 #[.val (.int ln), .val (.int nbs), .val (.int sbs), .val (.int how), .val (.int (1 : Int32)), .val (.int (3 : Int32)), .val (.int n275), .val (.int n278), .val (.int n281), .val (.int s286), .val (.int s291), .val (.int s296), .unset, .unset, .unset] [(.int (1 : Int32))]
    refine w_iload ok at_120 rfl ?_
    show W K l _ n0 _ h0 0 0 122 #[.val (.int ln), .val (.int nbs), .val (.int sbs), .val (.int how), .val (.int (1 : Int32)), .val (.int (3 : Int32)), .val (.int n275), .val (.int n278), .val (.int n281), .val (.int s286), .val (.int s291), .val (.int s296), .unset, .unset, .unset] [(.int s286), (.int (1 : Int32))]
    refine w_iload ok at_122 rfl ?_
    show W K l _ n0 _ h0 0 0 124 #[.val (.int ln), .val (.int nbs), .val (.int sbs), .val (.int how), .val (.int (1 : Int32)), .val (.int (3 : Int32)), .val (.int n275), .val (.int n278), .val (.int n281), .val (.int s286), .val (.int s291), .val (.int s296), .unset, .unset, .unset] [(.int s291), (.int s286), (.int (1 : Int32))]
    refine w_iload ok at_124 rfl ?_
    show W K l _ n0 _ h0 0 0 126 #[.val (.int ln), .val (.int nbs), .val (.int sbs), .val (.int how), .val (.int (1 : Int32)), .val (.int (3 : Int32)), .val (.int n275), .val (.int n278), .val (.int n281), .val (.int s286), .val (.int s291), .val (.int s296), .unset, .unset, .unset] [(.int s296), (.int s291), (.int s286), (.int (1 : Int32))]
    refine w_callS ok (y := (⟨"com/example/turnstile/turnstile/server/CommandsIsPinLaw", "make", "(IBBB)[B"⟩ : MethodName)) (argsL := [(.int (1 : Int32)), (.int s286), (.int s291), (.int s296)]) (rest := []) at_126 (hw _ (List.mem_of_getElem? (i := 7) rfl)) (hw _ (List.mem_of_getElem? (i := 8) rfl)) (hw _ (List.mem_of_getElem? (i := 2) rfl)) (hw _ (List.mem_of_getElem? (i := 9) rfl)) (by decide) pd_28IBBB295bB rfl rfl (by decide) (Nat.le_of_ble_eq_true rfl) (by decide) (by decide) (fun z0 => rm_mk1 l Z a0 hw [] n0 h0 z0 s286 s291 s296) (fun v297 h298 qv297 => ?_)
    obtain ⟨r299, rfl, sz_r299, ge_r299, K1, A_r299⟩ := qv297
    show W K l _ n0 _ h298 1 1 129 #[.val (.int ln), .val (.int nbs), .val (.int sbs), .val (.int how), .val (.int (1 : Int32)), .val (.int (3 : Int32)), .val (.int n275), .val (.int n278), .val (.int n281), .val (.int s286), .val (.int s291), .val (.int s296), .unset, .unset, .unset] [(.ref r299)]
    refine w_astore ok at_129 rfl (L' := #[.val (.int ln), .val (.int nbs), .val (.int sbs), .val (.int how), .val (.int (1 : Int32)), .val (.int (3 : Int32)), .val (.int n275), .val (.int n278), .val (.int n281), .val (.int s286), .val (.int s291), .val (.int s296), .val (.ref r299), .unset, .unset]) rfl ?_
    show W K l _ n0 _ h298 1 1 131 #[.val (.int ln), .val (.int nbs), .val (.int sbs), .val (.int how), .val (.int (1 : Int32)), .val (.int (3 : Int32)), .val (.int n275), .val (.int n278), .val (.int n281), .val (.int s286), .val (.int s291), .val (.int s296), .val (.ref r299), .unset, .unset] []
    refine w_iload ok at_131 rfl ?_
    show W K l _ n0 _ h298 1 1 133 #[.val (.int ln), .val (.int nbs), .val (.int sbs), .val (.int how), .val (.int (1 : Int32)), .val (.int (3 : Int32)), .val (.int n275), .val (.int n278), .val (.int n281), .val (.int s286), .val (.int s291), .val (.int s296), .val (.ref r299), .unset, .unset] [(.int (3 : Int32))]
    refine w_iload ok at_133 rfl ?_
    show W K l _ n0 _ h298 1 1 135 #[.val (.int ln), .val (.int nbs), .val (.int sbs), .val (.int how), .val (.int (1 : Int32)), .val (.int (3 : Int32)), .val (.int n275), .val (.int n278), .val (.int n281), .val (.int s286), .val (.int s291), .val (.int s296), .val (.ref r299), .unset, .unset] [(.int n275), (.int (3 : Int32))]
    refine w_iload ok at_135 rfl ?_
    show W K l _ n0 _ h298 1 1 137 #[.val (.int ln), .val (.int nbs), .val (.int sbs), .val (.int how), .val (.int (1 : Int32)), .val (.int (3 : Int32)), .val (.int n275), .val (.int n278), .val (.int n281), .val (.int s286), .val (.int s291), .val (.int s296), .val (.ref r299), .unset, .unset] [(.int n278), (.int n275), (.int (3 : Int32))]
    refine w_iload ok at_137 rfl ?_
    show W K l _ n0 _ h298 1 1 139 #[.val (.int ln), .val (.int nbs), .val (.int sbs), .val (.int how), .val (.int (1 : Int32)), .val (.int (3 : Int32)), .val (.int n275), .val (.int n278), .val (.int n281), .val (.int s286), .val (.int s291), .val (.int s296), .val (.ref r299), .unset, .unset] [(.int n281), (.int n278), (.int n275), (.int (3 : Int32))]
    refine w_callS ok (y := (⟨"com/example/turnstile/turnstile/server/CommandsIsPinLaw", "make", "(IBBB)[B"⟩ : MethodName)) (argsL := [(.int (3 : Int32)), (.int n275), (.int n278), (.int n281)]) (rest := []) at_139 (hw _ (List.mem_of_getElem? (i := 7) rfl)) (hw _ (List.mem_of_getElem? (i := 8) rfl)) (hw _ (List.mem_of_getElem? (i := 2) rfl)) (hw _ (List.mem_of_getElem? (i := 9) rfl)) (by decide) pd_28IBBB295bB rfl rfl (by decide) (Nat.le_of_ble_eq_true rfl) (by decide) (by decide) (fun z0 => rm_mk3 l Z a0 hw [] n0 h298 z0 n275 n278 n281) (fun v300 h301 qv300 => ?_)
    obtain ⟨r302, rfl, sz_r302, ge_r302, K1, A_r302⟩ := qv300
    have ne_r299_r302 : r299 ≠ r302 := Nat.ne_of_lt (Nat.lt_of_lt_of_le A_r299.lt sz_r302)
    replace A_r299 := A_r299.keep K1 nin0
    show W K l _ n0 _ h301 2 4 142 #[.val (.int ln), .val (.int nbs), .val (.int sbs), .val (.int how), .val (.int (1 : Int32)), .val (.int (3 : Int32)), .val (.int n275), .val (.int n278), .val (.int n281), .val (.int s286), .val (.int s291), .val (.int s296), .val (.ref r299), .unset, .unset] [(.ref r302)]
    refine w_astore ok at_142 rfl (L' := #[.val (.int ln), .val (.int nbs), .val (.int sbs), .val (.int how), .val (.int (1 : Int32)), .val (.int (3 : Int32)), .val (.int n275), .val (.int n278), .val (.int n281), .val (.int s286), .val (.int s291), .val (.int s296), .val (.ref r299), .val (.ref r302), .unset]) rfl ?_
    show W K l _ n0 _ h301 2 4 144 #[.val (.int ln), .val (.int nbs), .val (.int sbs), .val (.int how), .val (.int (1 : Int32)), .val (.int (3 : Int32)), .val (.int n275), .val (.int n278), .val (.int n281), .val (.int s286), .val (.int s291), .val (.int s296), .val (.ref r299), .val (.ref r302), .unset] []
    refine w_iload ok at_144 rfl ?_
    show W K l _ n0 _ h301 2 4 146 #[.val (.int ln), .val (.int nbs), .val (.int sbs), .val (.int how), .val (.int (1 : Int32)), .val (.int (3 : Int32)), .val (.int n275), .val (.int n278), .val (.int n281), .val (.int s286), .val (.int s291), .val (.int s296), .val (.ref r299), .val (.ref r302), .unset] [(.int (1 : Int32))]
    refine w_iload ok at_146 rfl ?_
    show W K l _ n0 _ h301 2 4 148 #[.val (.int ln), .val (.int nbs), .val (.int sbs), .val (.int how), .val (.int (1 : Int32)), .val (.int (3 : Int32)), .val (.int n275), .val (.int n278), .val (.int n281), .val (.int s286), .val (.int s291), .val (.int s296), .val (.ref r299), .val (.ref r302), .unset] [(.int (3 : Int32)), (.int (1 : Int32))]
    refine w_icmp_ne ok at_148 (pc' := 203) (by decide) (fun hc304 => ?_) (fun hc304 => False.elim (by revert hc304; decide))
    show W K l _ n0 _ h301 2 4 203 #[.val (.int ln), .val (.int nbs), .val (.int sbs), .val (.int how), .val (.int (1 : Int32)), .val (.int (3 : Int32)), .val (.int n275), .val (.int n278), .val (.int n281), .val (.int s286), .val (.int s291), .val (.int s296), .val (.ref r299), .val (.ref r302), .unset] []
    refine w_iconst ok at_203 (v := (0 : Int32)) rfl ?_
    show W K l _ n0 _ h301 2 4 204 #[.val (.int ln), .val (.int nbs), .val (.int sbs), .val (.int how), .val (.int (1 : Int32)), .val (.int (3 : Int32)), .val (.int n275), .val (.int n278), .val (.int n281), .val (.int s286), .val (.int s291), .val (.int s296), .val (.ref r299), .val (.ref r302), .unset] [(.int (0 : Int32))]
    refine w_istore ok at_204 (L' := #[.val (.int ln), .val (.int nbs), .val (.int sbs), .val (.int how), .val (.int (1 : Int32)), .val (.int (3 : Int32)), .val (.int n275), .val (.int n278), .val (.int n281), .val (.int s286), .val (.int s291), .val (.int s296), .val (.ref r299), .val (.ref r302), .val (.int (0 : Int32))]) rfl ?_
    show W K l _ n0 _ h301 2 4 206 #[.val (.int ln), .val (.int nbs), .val (.int sbs), .val (.int how), .val (.int (1 : Int32)), .val (.int (3 : Int32)), .val (.int n275), .val (.int n278), .val (.int n281), .val (.int s286), .val (.int s291), .val (.int s296), .val (.ref r299), .val (.ref r302), .val (.int (0 : Int32))] []
    refine w_aload ok at_206 rfl rfl ?_
    show W K l _ n0 _ h301 2 4 208 #[.val (.int ln), .val (.int nbs), .val (.int sbs), .val (.int how), .val (.int (1 : Int32)), .val (.int (3 : Int32)), .val (.int n275), .val (.int n278), .val (.int n281), .val (.int s286), .val (.int s291), .val (.int s296), .val (.ref r299), .val (.ref r302), .val (.int (0 : Int32))] [(.ref r299)]
    refine w_aload ok at_208 rfl rfl ?_
    show W K l _ n0 _ h301 2 4 210 #[.val (.int ln), .val (.int nbs), .val (.int sbs), .val (.int how), .val (.int (1 : Int32)), .val (.int (3 : Int32)), .val (.int n275), .val (.int n278), .val (.int n281), .val (.int s286), .val (.int s291), .val (.int s296), .val (.ref r299), .val (.ref r302), .val (.int (0 : Int32))] [(.ref r302), (.ref r299)]
    refine w_callS ok (y := (⟨"com/example/turnstile/turnstile/server/Commands", "is", "([B[B)Z"⟩ : MethodName)) (argsL := [(.ref r299), (.ref r302)]) (rest := []) at_210 (hw _ (List.mem_of_getElem? (i := 11) rfl)) (hw _ (List.mem_of_getElem? (i := 12) rfl)) (hw _ (List.mem_of_getElem? (i := 13) rfl)) (hw _ (List.mem_of_getElem? (i := 14) rfl)) (by decide) pd_285bB5bB29Z rfl rfl (by decide) (Nat.le_of_ble_eq_true rfl) (by decide) (by decide) (fun z0 => rm_is l Z a0 hw [] n0 h301 z0 r299 r302 [nar .byte s286] [nar .byte n275, nar .byte n278, nar .byte n281] A_r299 A_r302) (fun v305 h306 qv305 => ?_)
    obtain ⟨rfl, rfl⟩ := qv305
    show W K l _ n0 _ h301 2 4 213 #[.val (.int ln), .val (.int nbs), .val (.int sbs), .val (.int how), .val (.int (1 : Int32)), .val (.int (3 : Int32)), .val (.int n275), .val (.int n278), .val (.int n281), .val (.int s286), .val (.int s291), .val (.int s296), .val (.ref r299), .val (.ref r302), .val (.int (0 : Int32))] [(.int (nar .boolean (own_isl [nar .byte s286] [nar .byte n275, nar .byte n278, nar .byte n281])))]
    refine w_iload ok at_213 rfl ?_
    show W K l _ n0 _ h301 2 4 215 #[.val (.int ln), .val (.int nbs), .val (.int sbs), .val (.int how), .val (.int (1 : Int32)), .val (.int (3 : Int32)), .val (.int n275), .val (.int n278), .val (.int n281), .val (.int s286), .val (.int s291), .val (.int s296), .val (.ref r299), .val (.ref r302), .val (.int (0 : Int32))] [(.int (0 : Int32)), (.int (nar .boolean (own_isl [nar .byte s286] [nar .byte n275, nar .byte n278, nar .byte n281])))]
    refine w_icmp_ne ok at_215 (pc' := 222) (by decide) (fun hc308 => False.elim (by exact hc308 (by rw [own_isl_len (by simp)] <;> rfl))) (fun hc308 => ?_)
    show W K l _ n0 _ h301 2 4 218 #[.val (.int ln), .val (.int nbs), .val (.int sbs), .val (.int how), .val (.int (1 : Int32)), .val (.int (3 : Int32)), .val (.int n275), .val (.int n278), .val (.int n281), .val (.int s286), .val (.int s291), .val (.int s296), .val (.ref r299), .val (.ref r302), .val (.int (0 : Int32))] []
    refine w_iconst ok at_218 (v := (1 : Int32)) rfl ?_
    show W K l _ n0 _ h301 2 4 219 #[.val (.int ln), .val (.int nbs), .val (.int sbs), .val (.int how), .val (.int (1 : Int32)), .val (.int (3 : Int32)), .val (.int n275), .val (.int n278), .val (.int n281), .val (.int s286), .val (.int s291), .val (.int s296), .val (.ref r299), .val (.ref r302), .val (.int (0 : Int32))] [(.int (1 : Int32))]
    refine w_goto ok at_219 (pc' := 223) (by decide) ?_
    show W K l _ n0 _ h301 2 4 223 #[.val (.int ln), .val (.int nbs), .val (.int sbs), .val (.int how), .val (.int (1 : Int32)), .val (.int (3 : Int32)), .val (.int n275), .val (.int n278), .val (.int n281), .val (.int s286), .val (.int s291), .val (.int s296), .val (.ref r299), .val (.ref r302), .val (.int (0 : Int32))] [(.int (1 : Int32))]
    refine w_bret ok (by simp) at_223 (by decide) (by decide) ?_
    exact rfl
  · skip
    show W K l _ n0 _ h0 0 0 25 #[.val (.int ln), .val (.int nbs), .val (.int sbs), .val (.int how), .val (.int (2 : Int32)), .val (.int (0 : Int32)), .unset, .unset, .unset, .unset, .unset, .unset, .unset, .unset, .unset] []
    refine w_iloadN ok at_25 rfl ?_
    show W K l _ n0 _ h0 0 0 26 #[.val (.int ln), .val (.int nbs), .val (.int sbs), .val (.int how), .val (.int (2 : Int32)), .val (.int (0 : Int32)), .unset, .unset, .unset, .unset, .unset, .unset, .unset, .unset, .unset] [(.int nbs)]
    refine w_callS ok (y := (⟨"com/example/turnstile/turnstile/server/CommandsIsPinLaw", "nameByte", "(I)B"⟩ : MethodName)) (argsL := [(.int nbs)]) (rest := []) at_26 (hw _ (List.mem_of_getElem? (i := 0) rfl)) (hw _ (List.mem_of_getElem? (i := 1) rfl)) (hw _ (List.mem_of_getElem? (i := 2) rfl)) (hw _ (List.mem_of_getElem? (i := 3) rfl)) (by decide) pd_28I29B rfl rfl (by decide) (Nat.le_of_ble_eq_true rfl) (by decide) (by decide) (fun z0 => rm_nb l Z a0 hw [] n0 h0 z0 nbs) (fun v309 h310 qv309 => ?_)
    obtain ⟨n311, rfl, h1_n311, h2_n311, rfl⟩ := qv309
    show W K l _ n0 _ h0 0 0 29 #[.val (.int ln), .val (.int nbs), .val (.int sbs), .val (.int how), .val (.int (2 : Int32)), .val (.int (0 : Int32)), .unset, .unset, .unset, .unset, .unset, .unset, .unset, .unset, .unset] [(.int n311)]
    refine w_istore ok at_29 (L' := #[.val (.int ln), .val (.int nbs), .val (.int sbs), .val (.int how), .val (.int (2 : Int32)), .val (.int (0 : Int32)), .val (.int n311), .unset, .unset, .unset, .unset, .unset, .unset, .unset, .unset]) rfl ?_
    show W K l _ n0 _ h0 0 0 31 #[.val (.int ln), .val (.int nbs), .val (.int sbs), .val (.int how), .val (.int (2 : Int32)), .val (.int (0 : Int32)), .val (.int n311), .unset, .unset, .unset, .unset, .unset, .unset, .unset, .unset] []
    refine w_iloadN ok at_31 rfl ?_
    show W K l _ n0 _ h0 0 0 32 #[.val (.int ln), .val (.int nbs), .val (.int sbs), .val (.int how), .val (.int (2 : Int32)), .val (.int (0 : Int32)), .val (.int n311), .unset, .unset, .unset, .unset, .unset, .unset, .unset, .unset] [(.int nbs)]
    refine w_bipush ok at_32 (v := (8 : Int32)) rfl ?_
    show W K l _ n0 _ h0 0 0 34 #[.val (.int ln), .val (.int nbs), .val (.int sbs), .val (.int how), .val (.int (2 : Int32)), .val (.int (0 : Int32)), .val (.int n311), .unset, .unset, .unset, .unset, .unset, .unset, .unset, .unset] [(.int (8 : Int32)), (.int nbs)]
    refine w_ishr ok at_34 ?_
    show W K l _ n0 _ h0 0 0 35 #[.val (.int ln), .val (.int nbs), .val (.int sbs), .val (.int how), .val (.int (2 : Int32)), .val (.int (0 : Int32)), .val (.int n311), .unset, .unset, .unset, .unset, .unset, .unset, .unset, .unset] [(.int (nbs >>> ((8 : Int32) &&& 31)))]
    refine w_callS ok (y := (⟨"com/example/turnstile/turnstile/server/CommandsIsPinLaw", "nameByte", "(I)B"⟩ : MethodName)) (argsL := [(.int (nbs >>> ((8 : Int32) &&& 31)))]) (rest := []) at_35 (hw _ (List.mem_of_getElem? (i := 0) rfl)) (hw _ (List.mem_of_getElem? (i := 1) rfl)) (hw _ (List.mem_of_getElem? (i := 2) rfl)) (hw _ (List.mem_of_getElem? (i := 3) rfl)) (by decide) pd_28I29B rfl rfl (by decide) (Nat.le_of_ble_eq_true rfl) (by decide) (by decide) (fun z0 => rm_nb l Z a0 hw [] n0 h0 z0 (nbs >>> ((8 : Int32) &&& 31))) (fun v312 h313 qv312 => ?_)
    obtain ⟨n314, rfl, h1_n314, h2_n314, rfl⟩ := qv312
    show W K l _ n0 _ h0 0 0 38 #[.val (.int ln), .val (.int nbs), .val (.int sbs), .val (.int how), .val (.int (2 : Int32)), .val (.int (0 : Int32)), .val (.int n311), .unset, .unset, .unset, .unset, .unset, .unset, .unset, .unset] [(.int n314)]
    refine w_istore ok at_38 (L' := #[.val (.int ln), .val (.int nbs), .val (.int sbs), .val (.int how), .val (.int (2 : Int32)), .val (.int (0 : Int32)), .val (.int n311), .val (.int n314), .unset, .unset, .unset, .unset, .unset, .unset, .unset]) rfl ?_
    show W K l _ n0 _ h0 0 0 40 #[.val (.int ln), .val (.int nbs), .val (.int sbs), .val (.int how), .val (.int (2 : Int32)), .val (.int (0 : Int32)), .val (.int n311), .val (.int n314), .unset, .unset, .unset, .unset, .unset, .unset, .unset] []
    refine w_iloadN ok at_40 rfl ?_
    show W K l _ n0 _ h0 0 0 41 #[.val (.int ln), .val (.int nbs), .val (.int sbs), .val (.int how), .val (.int (2 : Int32)), .val (.int (0 : Int32)), .val (.int n311), .val (.int n314), .unset, .unset, .unset, .unset, .unset, .unset, .unset] [(.int nbs)]
    refine w_bipush ok at_41 (v := (16 : Int32)) rfl ?_
    show W K l _ n0 _ h0 0 0 43 #[.val (.int ln), .val (.int nbs), .val (.int sbs), .val (.int how), .val (.int (2 : Int32)), .val (.int (0 : Int32)), .val (.int n311), .val (.int n314), .unset, .unset, .unset, .unset, .unset, .unset, .unset] [(.int (16 : Int32)), (.int nbs)]
    refine w_ishr ok at_43 ?_
    show W K l _ n0 _ h0 0 0 44 #[.val (.int ln), .val (.int nbs), .val (.int sbs), .val (.int how), .val (.int (2 : Int32)), .val (.int (0 : Int32)), .val (.int n311), .val (.int n314), .unset, .unset, .unset, .unset, .unset, .unset, .unset] [(.int (nbs >>> ((16 : Int32) &&& 31)))]
    refine w_callS ok (y := (⟨"com/example/turnstile/turnstile/server/CommandsIsPinLaw", "nameByte", "(I)B"⟩ : MethodName)) (argsL := [(.int (nbs >>> ((16 : Int32) &&& 31)))]) (rest := []) at_44 (hw _ (List.mem_of_getElem? (i := 0) rfl)) (hw _ (List.mem_of_getElem? (i := 1) rfl)) (hw _ (List.mem_of_getElem? (i := 2) rfl)) (hw _ (List.mem_of_getElem? (i := 3) rfl)) (by decide) pd_28I29B rfl rfl (by decide) (Nat.le_of_ble_eq_true rfl) (by decide) (by decide) (fun z0 => rm_nb l Z a0 hw [] n0 h0 z0 (nbs >>> ((16 : Int32) &&& 31))) (fun v315 h316 qv315 => ?_)
    obtain ⟨n317, rfl, h1_n317, h2_n317, rfl⟩ := qv315
    show W K l _ n0 _ h0 0 0 47 #[.val (.int ln), .val (.int nbs), .val (.int sbs), .val (.int how), .val (.int (2 : Int32)), .val (.int (0 : Int32)), .val (.int n311), .val (.int n314), .unset, .unset, .unset, .unset, .unset, .unset, .unset] [(.int n317)]
    refine w_istore ok at_47 (L' := #[.val (.int ln), .val (.int nbs), .val (.int sbs), .val (.int how), .val (.int (2 : Int32)), .val (.int (0 : Int32)), .val (.int n311), .val (.int n314), .val (.int n317), .unset, .unset, .unset, .unset, .unset, .unset]) rfl ?_
    show W K l _ n0 _ h0 0 0 49 #[.val (.int ln), .val (.int nbs), .val (.int sbs), .val (.int how), .val (.int (2 : Int32)), .val (.int (0 : Int32)), .val (.int n311), .val (.int n314), .val (.int n317), .unset, .unset, .unset, .unset, .unset, .unset] []
    refine w_iloadN ok at_49 rfl ?_
    show W K l _ n0 _ h0 0 0 50 #[.val (.int ln), .val (.int nbs), .val (.int sbs), .val (.int how), .val (.int (2 : Int32)), .val (.int (0 : Int32)), .val (.int n311), .val (.int n314), .val (.int n317), .unset, .unset, .unset, .unset, .unset, .unset] [(.int how)]
    refine w_iloadN ok at_50 rfl ?_
    show W K l _ n0 _ h0 0 0 51 #[.val (.int ln), .val (.int nbs), .val (.int sbs), .val (.int how), .val (.int (2 : Int32)), .val (.int (0 : Int32)), .val (.int n311), .val (.int n314), .val (.int n317), .unset, .unset, .unset, .unset, .unset, .unset] [(.int sbs), (.int how)]
    refine w_iload ok at_51 rfl ?_
    show W K l _ n0 _ h0 0 0 53 #[.val (.int ln), .val (.int nbs), .val (.int sbs), .val (.int how), .val (.int (2 : Int32)), .val (.int (0 : Int32)), .val (.int n311), .val (.int n314), .val (.int n317), .unset, .unset, .unset, .unset, .unset, .unset] [(.int n311), (.int sbs), (.int how)]
    refine w_iload ok at_53 rfl ?_
    show W K l _ n0 _ h0 0 0 55 #[.val (.int ln), .val (.int nbs), .val (.int sbs), .val (.int how), .val (.int (2 : Int32)), .val (.int (0 : Int32)), .val (.int n311), .val (.int n314), .val (.int n317), .unset, .unset, .unset, .unset, .unset, .unset] [(.int (0 : Int32)), (.int n311), (.int sbs), (.int how)]
    refine w_if_le ok at_55 (pc' := 62) (by decide) (fun hc319 => ?_) (fun hc319 => False.elim (by revert hc319; decide))
    show W K l _ n0 _ h0 0 0 62 #[.val (.int ln), .val (.int nbs), .val (.int sbs), .val (.int how), .val (.int (2 : Int32)), .val (.int (0 : Int32)), .val (.int n311), .val (.int n314), .val (.int n317), .unset, .unset, .unset, .unset, .unset, .unset] [(.int n311), (.int sbs), (.int how)]
    refine w_iconst ok at_62 (v := (0 : Int32)) rfl ?_
    show W K l _ n0 _ h0 0 0 63 #[.val (.int ln), .val (.int nbs), .val (.int sbs), .val (.int how), .val (.int (2 : Int32)), .val (.int (0 : Int32)), .val (.int n311), .val (.int n314), .val (.int n317), .unset, .unset, .unset, .unset, .unset, .unset] [(.int (0 : Int32)), (.int n311), (.int sbs), (.int how)]
    refine w_callS ok (y := (⟨"com/example/turnstile/turnstile/server/CommandsIsPinLaw", "sentByte", "(IIBZ)B"⟩ : MethodName)) (argsL := [(.int how), (.int sbs), (.int n311), (.int (0 : Int32))]) (rest := []) at_63 (hw _ (List.mem_of_getElem? (i := 4) rfl)) (hw _ (List.mem_of_getElem? (i := 5) rfl)) (hw _ (List.mem_of_getElem? (i := 2) rfl)) (hw _ (List.mem_of_getElem? (i := 6) rfl)) (by decide) pd_28IIBZ29B rfl rfl (by decide) (Nat.le_of_ble_eq_true rfl) (by decide) (by decide) (fun z0 => rm_sb l Z a0 hw [] n0 h0 z0 how sbs n311 (0 : Int32)) (fun v320 h321 qv320 => ?_)
    obtain ⟨s322, rfl, h1_s322, rfl⟩ := qv320
    show W K l _ n0 _ h0 0 0 66 #[.val (.int ln), .val (.int nbs), .val (.int sbs), .val (.int how), .val (.int (2 : Int32)), .val (.int (0 : Int32)), .val (.int n311), .val (.int n314), .val (.int n317), .unset, .unset, .unset, .unset, .unset, .unset] [(.int s322)]
    refine w_istore ok at_66 (L' := #[.val (.int ln), .val (.int nbs), .val (.int sbs), .val (.int how), .val (.int (2 : Int32)), .val (.int (0 : Int32)), .val (.int n311), .val (.int n314), .val (.int n317), .val (.int s322), .unset, .unset, .unset, .unset, .unset]) rfl ?_
    show W K l _ n0 _ h0 0 0 68 #[.val (.int ln), .val (.int nbs), .val (.int sbs), .val (.int how), .val (.int (2 : Int32)), .val (.int (0 : Int32)), .val (.int n311), .val (.int n314), .val (.int n317), .val (.int s322), .unset, .unset, .unset, .unset, .unset] []
    refine w_iloadN ok at_68 rfl ?_
    show W K l _ n0 _ h0 0 0 69 #[.val (.int ln), .val (.int nbs), .val (.int sbs), .val (.int how), .val (.int (2 : Int32)), .val (.int (0 : Int32)), .val (.int n311), .val (.int n314), .val (.int n317), .val (.int s322), .unset, .unset, .unset, .unset, .unset] [(.int how)]
    refine w_iconst ok at_69 (v := (2 : Int32)) rfl ?_
    show W K l _ n0 _ h0 0 0 70 #[.val (.int ln), .val (.int nbs), .val (.int sbs), .val (.int how), .val (.int (2 : Int32)), .val (.int (0 : Int32)), .val (.int n311), .val (.int n314), .val (.int n317), .val (.int s322), .unset, .unset, .unset, .unset, .unset] [(.int (2 : Int32)), (.int how)]
    refine w_ishr ok at_70 ?_
    show W K l _ n0 _ h0 0 0 71 #[.val (.int ln), .val (.int nbs), .val (.int sbs), .val (.int how), .val (.int (2 : Int32)), .val (.int (0 : Int32)), .val (.int n311), .val (.int n314), .val (.int n317), .val (.int s322), .unset, .unset, .unset, .unset, .unset] [(.int (how >>> ((2 : Int32) &&& 31)))]
    refine w_iloadN ok at_71 rfl ?_
    show W K l _ n0 _ h0 0 0 72 #[.val (.int ln), .val (.int nbs), .val (.int sbs), .val (.int how), .val (.int (2 : Int32)), .val (.int (0 : Int32)), .val (.int n311), .val (.int n314), .val (.int n317), .val (.int s322), .unset, .unset, .unset, .unset, .unset] [(.int sbs), (.int (how >>> ((2 : Int32) &&& 31)))]
    refine w_bipush ok at_72 (v := (8 : Int32)) rfl ?_
    show W K l _ n0 _ h0 0 0 74 #[.val (.int ln), .val (.int nbs), .val (.int sbs), .val (.int how), .val (.int (2 : Int32)), .val (.int (0 : Int32)), .val (.int n311), .val (.int n314), .val (.int n317), .val (.int s322), .unset, .unset, .unset, .unset, .unset] [(.int (8 : Int32)), (.int sbs), (.int (how >>> ((2 : Int32) &&& 31)))]
    refine w_ishr ok at_74 ?_
    show W K l _ n0 _ h0 0 0 75 #[.val (.int ln), .val (.int nbs), .val (.int sbs), .val (.int how), .val (.int (2 : Int32)), .val (.int (0 : Int32)), .val (.int n311), .val (.int n314), .val (.int n317), .val (.int s322), .unset, .unset, .unset, .unset, .unset] [(.int (sbs >>> ((8 : Int32) &&& 31))), (.int (how >>> ((2 : Int32) &&& 31)))]
    refine w_iload ok at_75 rfl ?_
    show W K l _ n0 _ h0 0 0 77 #[.val (.int ln), .val (.int nbs), .val (.int sbs), .val (.int how), .val (.int (2 : Int32)), .val (.int (0 : Int32)), .val (.int n311), .val (.int n314), .val (.int n317), .val (.int s322), .unset, .unset, .unset, .unset, .unset] [(.int n314), (.int (sbs >>> ((8 : Int32) &&& 31))), (.int (how >>> ((2 : Int32) &&& 31)))]
    refine w_iload ok at_77 rfl ?_
    show W K l _ n0 _ h0 0 0 79 #[.val (.int ln), .val (.int nbs), .val (.int sbs), .val (.int how), .val (.int (2 : Int32)), .val (.int (0 : Int32)), .val (.int n311), .val (.int n314), .val (.int n317), .val (.int s322), .unset, .unset, .unset, .unset, .unset] [(.int (0 : Int32)), (.int n314), (.int (sbs >>> ((8 : Int32) &&& 31))), (.int (how >>> ((2 : Int32) &&& 31)))]
    refine w_iconst ok at_79 (v := (1 : Int32)) rfl ?_
    show W K l _ n0 _ h0 0 0 80 #[.val (.int ln), .val (.int nbs), .val (.int sbs), .val (.int how), .val (.int (2 : Int32)), .val (.int (0 : Int32)), .val (.int n311), .val (.int n314), .val (.int n317), .val (.int s322), .unset, .unset, .unset, .unset, .unset] [(.int (1 : Int32)), (.int (0 : Int32)), (.int n314), (.int (sbs >>> ((8 : Int32) &&& 31))), (.int (how >>> ((2 : Int32) &&& 31)))]
    refine w_icmp_le ok at_80 (pc' := 87) (by decide) (fun hc324 => ?_) (fun hc324 => False.elim (by revert hc324; decide))
    show W K l _ n0 _ h0 0 0 87 #[.val (.int ln), .val (.int nbs), .val (.int sbs), .val (.int how), .val (.int (2 : Int32)), .val (.int (0 : Int32)), .val (.int n311), .val (.int n314), .val (.int n317), .val (.int s322), .unset, .unset, .unset, .unset, .unset] [(.int n314), (.int (sbs >>> ((8 : Int32) &&& 31))), (.int (how >>> ((2 : Int32) &&& 31)))]
    refine w_iconst ok at_87 (v := (0 : Int32)) rfl ?_
    show W K l _ n0 _ h0 0 0 88 #[.val (.int ln), .val (.int nbs), .val (.int sbs), .val (.int how), .val (.int (2 : Int32)), .val (.int (0 : Int32)), .val (.int n311), .val (.int n314), .val (.int n317), .val (.int s322), .unset, .unset, .unset, .unset, .unset] [(.int (0 : Int32)), (.int n314), (.int (sbs >>> ((8 : Int32) &&& 31))), (.int (how >>> ((2 : Int32) &&& 31)))]
    refine w_callS ok (y := (⟨"com/example/turnstile/turnstile/server/CommandsIsPinLaw", "sentByte", "(IIBZ)B"⟩ : MethodName)) (argsL := [(.int (how >>> ((2 : Int32) &&& 31))), (.int (sbs >>> ((8 : Int32) &&& 31))), (.int n314), (.int (0 : Int32))]) (rest := []) at_88 (hw _ (List.mem_of_getElem? (i := 4) rfl)) (hw _ (List.mem_of_getElem? (i := 5) rfl)) (hw _ (List.mem_of_getElem? (i := 2) rfl)) (hw _ (List.mem_of_getElem? (i := 6) rfl)) (by decide) pd_28IIBZ29B rfl rfl (by decide) (Nat.le_of_ble_eq_true rfl) (by decide) (by decide) (fun z0 => rm_sb l Z a0 hw [] n0 h0 z0 (how >>> ((2 : Int32) &&& 31)) (sbs >>> ((8 : Int32) &&& 31)) n314 (0 : Int32)) (fun v325 h326 qv325 => ?_)
    obtain ⟨s327, rfl, h1_s327, rfl⟩ := qv325
    show W K l _ n0 _ h0 0 0 91 #[.val (.int ln), .val (.int nbs), .val (.int sbs), .val (.int how), .val (.int (2 : Int32)), .val (.int (0 : Int32)), .val (.int n311), .val (.int n314), .val (.int n317), .val (.int s322), .unset, .unset, .unset, .unset, .unset] [(.int s327)]
    refine w_istore ok at_91 (L' := #[.val (.int ln), .val (.int nbs), .val (.int sbs), .val (.int how), .val (.int (2 : Int32)), .val (.int (0 : Int32)), .val (.int n311), .val (.int n314), .val (.int n317), .val (.int s322), .val (.int s327), .unset, .unset, .unset, .unset]) rfl ?_
    show W K l _ n0 _ h0 0 0 93 #[.val (.int ln), .val (.int nbs), .val (.int sbs), .val (.int how), .val (.int (2 : Int32)), .val (.int (0 : Int32)), .val (.int n311), .val (.int n314), .val (.int n317), .val (.int s322), .val (.int s327), .unset, .unset, .unset, .unset] []
    refine w_iloadN ok at_93 rfl ?_
    show W K l _ n0 _ h0 0 0 94 #[.val (.int ln), .val (.int nbs), .val (.int sbs), .val (.int how), .val (.int (2 : Int32)), .val (.int (0 : Int32)), .val (.int n311), .val (.int n314), .val (.int n317), .val (.int s322), .val (.int s327), .unset, .unset, .unset, .unset] [(.int how)]
    refine w_iconst ok at_94 (v := (4 : Int32)) rfl ?_
    show W K l _ n0 _ h0 0 0 95 #[.val (.int ln), .val (.int nbs), .val (.int sbs), .val (.int how), .val (.int (2 : Int32)), .val (.int (0 : Int32)), .val (.int n311), .val (.int n314), .val (.int n317), .val (.int s322), .val (.int s327), .unset, .unset, .unset, .unset] [(.int (4 : Int32)), (.int how)]
    refine w_ishr ok at_95 ?_
    show W K l _ n0 _ h0 0 0 96 #[.val (.int ln), .val (.int nbs), .val (.int sbs), .val (.int how), .val (.int (2 : Int32)), .val (.int (0 : Int32)), .val (.int n311), .val (.int n314), .val (.int n317), .val (.int s322), .val (.int s327), .unset, .unset, .unset, .unset] [(.int (how >>> ((4 : Int32) &&& 31)))]
    refine w_iloadN ok at_96 rfl ?_
    show W K l _ n0 _ h0 0 0 97 #[.val (.int ln), .val (.int nbs), .val (.int sbs), .val (.int how), .val (.int (2 : Int32)), .val (.int (0 : Int32)), .val (.int n311), .val (.int n314), .val (.int n317), .val (.int s322), .val (.int s327), .unset, .unset, .unset, .unset] [(.int sbs), (.int (how >>> ((4 : Int32) &&& 31)))]
    refine w_bipush ok at_97 (v := (16 : Int32)) rfl ?_
    show W K l _ n0 _ h0 0 0 99 #[.val (.int ln), .val (.int nbs), .val (.int sbs), .val (.int how), .val (.int (2 : Int32)), .val (.int (0 : Int32)), .val (.int n311), .val (.int n314), .val (.int n317), .val (.int s322), .val (.int s327), .unset, .unset, .unset, .unset] [(.int (16 : Int32)), (.int sbs), (.int (how >>> ((4 : Int32) &&& 31)))]
    refine w_ishr ok at_99 ?_
    show W K l _ n0 _ h0 0 0 100 #[.val (.int ln), .val (.int nbs), .val (.int sbs), .val (.int how), .val (.int (2 : Int32)), .val (.int (0 : Int32)), .val (.int n311), .val (.int n314), .val (.int n317), .val (.int s322), .val (.int s327), .unset, .unset, .unset, .unset] [(.int (sbs >>> ((16 : Int32) &&& 31))), (.int (how >>> ((4 : Int32) &&& 31)))]
    refine w_iload ok at_100 rfl ?_
    show W K l _ n0 _ h0 0 0 102 #[.val (.int ln), .val (.int nbs), .val (.int sbs), .val (.int how), .val (.int (2 : Int32)), .val (.int (0 : Int32)), .val (.int n311), .val (.int n314), .val (.int n317), .val (.int s322), .val (.int s327), .unset, .unset, .unset, .unset] [(.int n317), (.int (sbs >>> ((16 : Int32) &&& 31))), (.int (how >>> ((4 : Int32) &&& 31)))]
    refine w_iload ok at_102 rfl ?_
    show W K l _ n0 _ h0 0 0 104 #[.val (.int ln), .val (.int nbs), .val (.int sbs), .val (.int how), .val (.int (2 : Int32)), .val (.int (0 : Int32)), .val (.int n311), .val (.int n314), .val (.int n317), .val (.int s322), .val (.int s327), .unset, .unset, .unset, .unset] [(.int (0 : Int32)), (.int n317), (.int (sbs >>> ((16 : Int32) &&& 31))), (.int (how >>> ((4 : Int32) &&& 31)))]
    refine w_iconst ok at_104 (v := (2 : Int32)) rfl ?_
    show W K l _ n0 _ h0 0 0 105 #[.val (.int ln), .val (.int nbs), .val (.int sbs), .val (.int how), .val (.int (2 : Int32)), .val (.int (0 : Int32)), .val (.int n311), .val (.int n314), .val (.int n317), .val (.int s322), .val (.int s327), .unset, .unset, .unset, .unset] [(.int (2 : Int32)), (.int (0 : Int32)), (.int n317), (.int (sbs >>> ((16 : Int32) &&& 31))), (.int (how >>> ((4 : Int32) &&& 31)))]
    refine w_icmp_le ok at_105 (pc' := 112) (by decide) (fun hc329 => ?_) (fun hc329 => False.elim (by revert hc329; decide))
    show W K l _ n0 _ h0 0 0 112 #[.val (.int ln), .val (.int nbs), .val (.int sbs), .val (.int how), .val (.int (2 : Int32)), .val (.int (0 : Int32)), .val (.int n311), .val (.int n314), .val (.int n317), .val (.int s322), .val (.int s327), .unset, .unset, .unset, .unset] [(.int n317), (.int (sbs >>> ((16 : Int32) &&& 31))), (.int (how >>> ((4 : Int32) &&& 31)))]
    refine w_iconst ok at_112 (v := (0 : Int32)) rfl ?_
    show W K l _ n0 _ h0 0 0 113 #[.val (.int ln), .val (.int nbs), .val (.int sbs), .val (.int how), .val (.int (2 : Int32)), .val (.int (0 : Int32)), .val (.int n311), .val (.int n314), .val (.int n317), .val (.int s322), .val (.int s327), .unset, .unset, .unset, .unset] [(.int (0 : Int32)), (.int n317), (.int (sbs >>> ((16 : Int32) &&& 31))), (.int (how >>> ((4 : Int32) &&& 31)))]
    refine w_callS ok (y := (⟨"com/example/turnstile/turnstile/server/CommandsIsPinLaw", "sentByte", "(IIBZ)B"⟩ : MethodName)) (argsL := [(.int (how >>> ((4 : Int32) &&& 31))), (.int (sbs >>> ((16 : Int32) &&& 31))), (.int n317), (.int (0 : Int32))]) (rest := []) at_113 (hw _ (List.mem_of_getElem? (i := 4) rfl)) (hw _ (List.mem_of_getElem? (i := 5) rfl)) (hw _ (List.mem_of_getElem? (i := 2) rfl)) (hw _ (List.mem_of_getElem? (i := 6) rfl)) (by decide) pd_28IIBZ29B rfl rfl (by decide) (Nat.le_of_ble_eq_true rfl) (by decide) (by decide) (fun z0 => rm_sb l Z a0 hw [] n0 h0 z0 (how >>> ((4 : Int32) &&& 31)) (sbs >>> ((16 : Int32) &&& 31)) n317 (0 : Int32)) (fun v330 h331 qv330 => ?_)
    obtain ⟨s332, rfl, h1_s332, rfl⟩ := qv330
    show W K l _ n0 _ h0 0 0 116 #[.val (.int ln), .val (.int nbs), .val (.int sbs), .val (.int how), .val (.int (2 : Int32)), .val (.int (0 : Int32)), .val (.int n311), .val (.int n314), .val (.int n317), .val (.int s322), .val (.int s327), .unset, .unset, .unset, .unset] [(.int s332)]
    refine w_istore ok at_116 (L' := #[.val (.int ln), .val (.int nbs), .val (.int sbs), .val (.int how), .val (.int (2 : Int32)), .val (.int (0 : Int32)), .val (.int n311), .val (.int n314), .val (.int n317), .val (.int s322), .val (.int s327), .val (.int s332), .unset, .unset, .unset]) rfl ?_
    show W K l _ n0 _ h0 0 0 118 #[.val (.int ln), .val (.int nbs), .val (.int sbs), .val (.int how), .val (.int (2 : Int32)), .val (.int (0 : Int32)), .val (.int n311), .val (.int n314), .val (.int n317), .val (.int s322), .val (.int s327), .val (.int s332), .unset, .unset, .unset] []
    refine w_iload ok at_118 rfl ?_
    show W K l _ n0 _ h0 0 0 120 #[.val (.int ln), .val (.int nbs), .val (.int sbs), .val (.int how), .val (.int (2 : Int32)), .val (.int (0 : Int32)), .val (.int n311), .val (.int n314), .val (.int n317), .val (.int s322), .val (.int s327), .val (.int s332), .unset, .unset, .unset] [(.int (2 : Int32))]
    refine w_iload ok at_120 rfl ?_
    show W K l _ n0 _ h0 0 0 122 #[.val (.int ln), .val (.int nbs), .val (.int sbs), .val (.int how), .val (.int (2 : Int32)), .val (.int (0 : Int32)), .val (.int n311), .val (.int n314), .val (.int n317), .val (.int s322), .val (.int s327), .val (.int s332), .unset, .unset, .unset] [(.int s322), (.int (2 : Int32))]
    refine w_iload ok at_122 rfl ?_
    show W K l _ n0 _ h0 0 0 124 #[.val (.int ln), .val (.int nbs), .val (.int sbs), .val (.int how), .val (.int (2 : Int32)), .val (.int (0 : Int32)), .val (.int n311), .val (.int n314), .val (.int n317), .val (.int s322), .val (.int s327), .val (.int s332), .unset, .unset, .unset] [(.int s327), (.int s322), (.int (2 : Int32))]
    refine w_iload ok at_124 rfl ?_
    show W K l _ n0 _ h0 0 0 126 #[.val (.int ln), .val (.int nbs), .val (.int sbs), .val (.int how), .val (.int (2 : Int32)), .val (.int (0 : Int32)), .val (.int n311), .val (.int n314), .val (.int n317), .val (.int s322), .val (.int s327), .val (.int s332), .unset, .unset, .unset] [(.int s332), (.int s327), (.int s322), (.int (2 : Int32))]
    refine w_callS ok (y := (⟨"com/example/turnstile/turnstile/server/CommandsIsPinLaw", "make", "(IBBB)[B"⟩ : MethodName)) (argsL := [(.int (2 : Int32)), (.int s322), (.int s327), (.int s332)]) (rest := []) at_126 (hw _ (List.mem_of_getElem? (i := 7) rfl)) (hw _ (List.mem_of_getElem? (i := 8) rfl)) (hw _ (List.mem_of_getElem? (i := 2) rfl)) (hw _ (List.mem_of_getElem? (i := 9) rfl)) (by decide) pd_28IBBB295bB rfl rfl (by decide) (Nat.le_of_ble_eq_true rfl) (by decide) (by decide) (fun z0 => rm_mk2 l Z a0 hw [] n0 h0 z0 s322 s327 s332) (fun v333 h334 qv333 => ?_)
    obtain ⟨r335, rfl, sz_r335, ge_r335, K1, A_r335⟩ := qv333
    show W K l _ n0 _ h334 1 2 129 #[.val (.int ln), .val (.int nbs), .val (.int sbs), .val (.int how), .val (.int (2 : Int32)), .val (.int (0 : Int32)), .val (.int n311), .val (.int n314), .val (.int n317), .val (.int s322), .val (.int s327), .val (.int s332), .unset, .unset, .unset] [(.ref r335)]
    refine w_astore ok at_129 rfl (L' := #[.val (.int ln), .val (.int nbs), .val (.int sbs), .val (.int how), .val (.int (2 : Int32)), .val (.int (0 : Int32)), .val (.int n311), .val (.int n314), .val (.int n317), .val (.int s322), .val (.int s327), .val (.int s332), .val (.ref r335), .unset, .unset]) rfl ?_
    show W K l _ n0 _ h334 1 2 131 #[.val (.int ln), .val (.int nbs), .val (.int sbs), .val (.int how), .val (.int (2 : Int32)), .val (.int (0 : Int32)), .val (.int n311), .val (.int n314), .val (.int n317), .val (.int s322), .val (.int s327), .val (.int s332), .val (.ref r335), .unset, .unset] []
    refine w_iload ok at_131 rfl ?_
    show W K l _ n0 _ h334 1 2 133 #[.val (.int ln), .val (.int nbs), .val (.int sbs), .val (.int how), .val (.int (2 : Int32)), .val (.int (0 : Int32)), .val (.int n311), .val (.int n314), .val (.int n317), .val (.int s322), .val (.int s327), .val (.int s332), .val (.ref r335), .unset, .unset] [(.int (0 : Int32))]
    refine w_iload ok at_133 rfl ?_
    show W K l _ n0 _ h334 1 2 135 #[.val (.int ln), .val (.int nbs), .val (.int sbs), .val (.int how), .val (.int (2 : Int32)), .val (.int (0 : Int32)), .val (.int n311), .val (.int n314), .val (.int n317), .val (.int s322), .val (.int s327), .val (.int s332), .val (.ref r335), .unset, .unset] [(.int n311), (.int (0 : Int32))]
    refine w_iload ok at_135 rfl ?_
    show W K l _ n0 _ h334 1 2 137 #[.val (.int ln), .val (.int nbs), .val (.int sbs), .val (.int how), .val (.int (2 : Int32)), .val (.int (0 : Int32)), .val (.int n311), .val (.int n314), .val (.int n317), .val (.int s322), .val (.int s327), .val (.int s332), .val (.ref r335), .unset, .unset] [(.int n314), (.int n311), (.int (0 : Int32))]
    refine w_iload ok at_137 rfl ?_
    show W K l _ n0 _ h334 1 2 139 #[.val (.int ln), .val (.int nbs), .val (.int sbs), .val (.int how), .val (.int (2 : Int32)), .val (.int (0 : Int32)), .val (.int n311), .val (.int n314), .val (.int n317), .val (.int s322), .val (.int s327), .val (.int s332), .val (.ref r335), .unset, .unset] [(.int n317), (.int n314), (.int n311), (.int (0 : Int32))]
    refine w_callS ok (y := (⟨"com/example/turnstile/turnstile/server/CommandsIsPinLaw", "make", "(IBBB)[B"⟩ : MethodName)) (argsL := [(.int (0 : Int32)), (.int n311), (.int n314), (.int n317)]) (rest := []) at_139 (hw _ (List.mem_of_getElem? (i := 7) rfl)) (hw _ (List.mem_of_getElem? (i := 8) rfl)) (hw _ (List.mem_of_getElem? (i := 2) rfl)) (hw _ (List.mem_of_getElem? (i := 9) rfl)) (by decide) pd_28IBBB295bB rfl rfl (by decide) (Nat.le_of_ble_eq_true rfl) (by decide) (by decide) (fun z0 => rm_mk0 l Z a0 hw [] n0 h334 z0 n311 n314 n317) (fun v336 h337 qv336 => ?_)
    obtain ⟨r338, rfl, sz_r338, ge_r338, K1, A_r338⟩ := qv336
    have ne_r335_r338 : r335 ≠ r338 := Nat.ne_of_lt (Nat.lt_of_lt_of_le A_r335.lt sz_r338)
    replace A_r335 := A_r335.keep K1 nin0
    show W K l _ n0 _ h337 2 2 142 #[.val (.int ln), .val (.int nbs), .val (.int sbs), .val (.int how), .val (.int (2 : Int32)), .val (.int (0 : Int32)), .val (.int n311), .val (.int n314), .val (.int n317), .val (.int s322), .val (.int s327), .val (.int s332), .val (.ref r335), .unset, .unset] [(.ref r338)]
    refine w_astore ok at_142 rfl (L' := #[.val (.int ln), .val (.int nbs), .val (.int sbs), .val (.int how), .val (.int (2 : Int32)), .val (.int (0 : Int32)), .val (.int n311), .val (.int n314), .val (.int n317), .val (.int s322), .val (.int s327), .val (.int s332), .val (.ref r335), .val (.ref r338), .unset]) rfl ?_
    show W K l _ n0 _ h337 2 2 144 #[.val (.int ln), .val (.int nbs), .val (.int sbs), .val (.int how), .val (.int (2 : Int32)), .val (.int (0 : Int32)), .val (.int n311), .val (.int n314), .val (.int n317), .val (.int s322), .val (.int s327), .val (.int s332), .val (.ref r335), .val (.ref r338), .unset] []
    refine w_iload ok at_144 rfl ?_
    show W K l _ n0 _ h337 2 2 146 #[.val (.int ln), .val (.int nbs), .val (.int sbs), .val (.int how), .val (.int (2 : Int32)), .val (.int (0 : Int32)), .val (.int n311), .val (.int n314), .val (.int n317), .val (.int s322), .val (.int s327), .val (.int s332), .val (.ref r335), .val (.ref r338), .unset] [(.int (2 : Int32))]
    refine w_iload ok at_146 rfl ?_
    show W K l _ n0 _ h337 2 2 148 #[.val (.int ln), .val (.int nbs), .val (.int sbs), .val (.int how), .val (.int (2 : Int32)), .val (.int (0 : Int32)), .val (.int n311), .val (.int n314), .val (.int n317), .val (.int s322), .val (.int s327), .val (.int s332), .val (.ref r335), .val (.ref r338), .unset] [(.int (0 : Int32)), (.int (2 : Int32))]
    refine w_icmp_ne ok at_148 (pc' := 203) (by decide) (fun hc340 => ?_) (fun hc340 => False.elim (by revert hc340; decide))
    show W K l _ n0 _ h337 2 2 203 #[.val (.int ln), .val (.int nbs), .val (.int sbs), .val (.int how), .val (.int (2 : Int32)), .val (.int (0 : Int32)), .val (.int n311), .val (.int n314), .val (.int n317), .val (.int s322), .val (.int s327), .val (.int s332), .val (.ref r335), .val (.ref r338), .unset] []
    refine w_iconst ok at_203 (v := (0 : Int32)) rfl ?_
    show W K l _ n0 _ h337 2 2 204 #[.val (.int ln), .val (.int nbs), .val (.int sbs), .val (.int how), .val (.int (2 : Int32)), .val (.int (0 : Int32)), .val (.int n311), .val (.int n314), .val (.int n317), .val (.int s322), .val (.int s327), .val (.int s332), .val (.ref r335), .val (.ref r338), .unset] [(.int (0 : Int32))]
    refine w_istore ok at_204 (L' := #[.val (.int ln), .val (.int nbs), .val (.int sbs), .val (.int how), .val (.int (2 : Int32)), .val (.int (0 : Int32)), .val (.int n311), .val (.int n314), .val (.int n317), .val (.int s322), .val (.int s327), .val (.int s332), .val (.ref r335), .val (.ref r338), .val (.int (0 : Int32))]) rfl ?_
    show W K l _ n0 _ h337 2 2 206 #[.val (.int ln), .val (.int nbs), .val (.int sbs), .val (.int how), .val (.int (2 : Int32)), .val (.int (0 : Int32)), .val (.int n311), .val (.int n314), .val (.int n317), .val (.int s322), .val (.int s327), .val (.int s332), .val (.ref r335), .val (.ref r338), .val (.int (0 : Int32))] []
    refine w_aload ok at_206 rfl rfl ?_
    show W K l _ n0 _ h337 2 2 208 #[.val (.int ln), .val (.int nbs), .val (.int sbs), .val (.int how), .val (.int (2 : Int32)), .val (.int (0 : Int32)), .val (.int n311), .val (.int n314), .val (.int n317), .val (.int s322), .val (.int s327), .val (.int s332), .val (.ref r335), .val (.ref r338), .val (.int (0 : Int32))] [(.ref r335)]
    refine w_aload ok at_208 rfl rfl ?_
    show W K l _ n0 _ h337 2 2 210 #[.val (.int ln), .val (.int nbs), .val (.int sbs), .val (.int how), .val (.int (2 : Int32)), .val (.int (0 : Int32)), .val (.int n311), .val (.int n314), .val (.int n317), .val (.int s322), .val (.int s327), .val (.int s332), .val (.ref r335), .val (.ref r338), .val (.int (0 : Int32))] [(.ref r338), (.ref r335)]
    refine w_callS ok (y := (⟨"com/example/turnstile/turnstile/server/Commands", "is", "([B[B)Z"⟩ : MethodName)) (argsL := [(.ref r335), (.ref r338)]) (rest := []) at_210 (hw _ (List.mem_of_getElem? (i := 11) rfl)) (hw _ (List.mem_of_getElem? (i := 12) rfl)) (hw _ (List.mem_of_getElem? (i := 13) rfl)) (hw _ (List.mem_of_getElem? (i := 14) rfl)) (by decide) pd_285bB5bB29Z rfl rfl (by decide) (Nat.le_of_ble_eq_true rfl) (by decide) (by decide) (fun z0 => rm_is l Z a0 hw [] n0 h337 z0 r335 r338 [nar .byte s322, nar .byte s327] [] A_r335 A_r338) (fun v341 h342 qv341 => ?_)
    obtain ⟨rfl, rfl⟩ := qv341
    show W K l _ n0 _ h337 2 2 213 #[.val (.int ln), .val (.int nbs), .val (.int sbs), .val (.int how), .val (.int (2 : Int32)), .val (.int (0 : Int32)), .val (.int n311), .val (.int n314), .val (.int n317), .val (.int s322), .val (.int s327), .val (.int s332), .val (.ref r335), .val (.ref r338), .val (.int (0 : Int32))] [(.int (nar .boolean (own_isl [nar .byte s322, nar .byte s327] [])))]
    refine w_iload ok at_213 rfl ?_
    show W K l _ n0 _ h337 2 2 215 #[.val (.int ln), .val (.int nbs), .val (.int sbs), .val (.int how), .val (.int (2 : Int32)), .val (.int (0 : Int32)), .val (.int n311), .val (.int n314), .val (.int n317), .val (.int s322), .val (.int s327), .val (.int s332), .val (.ref r335), .val (.ref r338), .val (.int (0 : Int32))] [(.int (0 : Int32)), (.int (nar .boolean (own_isl [nar .byte s322, nar .byte s327] [])))]
    refine w_icmp_ne ok at_215 (pc' := 222) (by decide) (fun hc344 => False.elim (by exact hc344 (by rw [own_isl_len (by simp)] <;> rfl))) (fun hc344 => ?_)
    show W K l _ n0 _ h337 2 2 218 #[.val (.int ln), .val (.int nbs), .val (.int sbs), .val (.int how), .val (.int (2 : Int32)), .val (.int (0 : Int32)), .val (.int n311), .val (.int n314), .val (.int n317), .val (.int s322), .val (.int s327), .val (.int s332), .val (.ref r335), .val (.ref r338), .val (.int (0 : Int32))] []
    refine w_iconst ok at_218 (v := (1 : Int32)) rfl ?_
    show W K l _ n0 _ h337 2 2 219 #[.val (.int ln), .val (.int nbs), .val (.int sbs), .val (.int how), .val (.int (2 : Int32)), .val (.int (0 : Int32)), .val (.int n311), .val (.int n314), .val (.int n317), .val (.int s322), .val (.int s327), .val (.int s332), .val (.ref r335), .val (.ref r338), .val (.int (0 : Int32))] [(.int (1 : Int32))]
    refine w_goto ok at_219 (pc' := 223) (by decide) ?_
    show W K l _ n0 _ h337 2 2 223 #[.val (.int ln), .val (.int nbs), .val (.int sbs), .val (.int how), .val (.int (2 : Int32)), .val (.int (0 : Int32)), .val (.int n311), .val (.int n314), .val (.int n317), .val (.int s322), .val (.int s327), .val (.int s332), .val (.ref r335), .val (.ref r338), .val (.int (0 : Int32))] [(.int (1 : Int32))]
    refine w_bret ok (by simp) at_223 (by decide) (by decide) ?_
    exact rfl
  · skip
    show W K l _ n0 _ h0 0 0 25 #[.val (.int ln), .val (.int nbs), .val (.int sbs), .val (.int how), .val (.int (2 : Int32)), .val (.int (1 : Int32)), .unset, .unset, .unset, .unset, .unset, .unset, .unset, .unset, .unset] []
    refine w_iloadN ok at_25 rfl ?_
    show W K l _ n0 _ h0 0 0 26 #[.val (.int ln), .val (.int nbs), .val (.int sbs), .val (.int how), .val (.int (2 : Int32)), .val (.int (1 : Int32)), .unset, .unset, .unset, .unset, .unset, .unset, .unset, .unset, .unset] [(.int nbs)]
    refine w_callS ok (y := (⟨"com/example/turnstile/turnstile/server/CommandsIsPinLaw", "nameByte", "(I)B"⟩ : MethodName)) (argsL := [(.int nbs)]) (rest := []) at_26 (hw _ (List.mem_of_getElem? (i := 0) rfl)) (hw _ (List.mem_of_getElem? (i := 1) rfl)) (hw _ (List.mem_of_getElem? (i := 2) rfl)) (hw _ (List.mem_of_getElem? (i := 3) rfl)) (by decide) pd_28I29B rfl rfl (by decide) (Nat.le_of_ble_eq_true rfl) (by decide) (by decide) (fun z0 => rm_nb l Z a0 hw [] n0 h0 z0 nbs) (fun v345 h346 qv345 => ?_)
    obtain ⟨n347, rfl, h1_n347, h2_n347, rfl⟩ := qv345
    show W K l _ n0 _ h0 0 0 29 #[.val (.int ln), .val (.int nbs), .val (.int sbs), .val (.int how), .val (.int (2 : Int32)), .val (.int (1 : Int32)), .unset, .unset, .unset, .unset, .unset, .unset, .unset, .unset, .unset] [(.int n347)]
    refine w_istore ok at_29 (L' := #[.val (.int ln), .val (.int nbs), .val (.int sbs), .val (.int how), .val (.int (2 : Int32)), .val (.int (1 : Int32)), .val (.int n347), .unset, .unset, .unset, .unset, .unset, .unset, .unset, .unset]) rfl ?_
    show W K l _ n0 _ h0 0 0 31 #[.val (.int ln), .val (.int nbs), .val (.int sbs), .val (.int how), .val (.int (2 : Int32)), .val (.int (1 : Int32)), .val (.int n347), .unset, .unset, .unset, .unset, .unset, .unset, .unset, .unset] []
    refine w_iloadN ok at_31 rfl ?_
    show W K l _ n0 _ h0 0 0 32 #[.val (.int ln), .val (.int nbs), .val (.int sbs), .val (.int how), .val (.int (2 : Int32)), .val (.int (1 : Int32)), .val (.int n347), .unset, .unset, .unset, .unset, .unset, .unset, .unset, .unset] [(.int nbs)]
    refine w_bipush ok at_32 (v := (8 : Int32)) rfl ?_
    show W K l _ n0 _ h0 0 0 34 #[.val (.int ln), .val (.int nbs), .val (.int sbs), .val (.int how), .val (.int (2 : Int32)), .val (.int (1 : Int32)), .val (.int n347), .unset, .unset, .unset, .unset, .unset, .unset, .unset, .unset] [(.int (8 : Int32)), (.int nbs)]
    refine w_ishr ok at_34 ?_
    show W K l _ n0 _ h0 0 0 35 #[.val (.int ln), .val (.int nbs), .val (.int sbs), .val (.int how), .val (.int (2 : Int32)), .val (.int (1 : Int32)), .val (.int n347), .unset, .unset, .unset, .unset, .unset, .unset, .unset, .unset] [(.int (nbs >>> ((8 : Int32) &&& 31)))]
    refine w_callS ok (y := (⟨"com/example/turnstile/turnstile/server/CommandsIsPinLaw", "nameByte", "(I)B"⟩ : MethodName)) (argsL := [(.int (nbs >>> ((8 : Int32) &&& 31)))]) (rest := []) at_35 (hw _ (List.mem_of_getElem? (i := 0) rfl)) (hw _ (List.mem_of_getElem? (i := 1) rfl)) (hw _ (List.mem_of_getElem? (i := 2) rfl)) (hw _ (List.mem_of_getElem? (i := 3) rfl)) (by decide) pd_28I29B rfl rfl (by decide) (Nat.le_of_ble_eq_true rfl) (by decide) (by decide) (fun z0 => rm_nb l Z a0 hw [] n0 h0 z0 (nbs >>> ((8 : Int32) &&& 31))) (fun v348 h349 qv348 => ?_)
    obtain ⟨n350, rfl, h1_n350, h2_n350, rfl⟩ := qv348
    show W K l _ n0 _ h0 0 0 38 #[.val (.int ln), .val (.int nbs), .val (.int sbs), .val (.int how), .val (.int (2 : Int32)), .val (.int (1 : Int32)), .val (.int n347), .unset, .unset, .unset, .unset, .unset, .unset, .unset, .unset] [(.int n350)]
    refine w_istore ok at_38 (L' := #[.val (.int ln), .val (.int nbs), .val (.int sbs), .val (.int how), .val (.int (2 : Int32)), .val (.int (1 : Int32)), .val (.int n347), .val (.int n350), .unset, .unset, .unset, .unset, .unset, .unset, .unset]) rfl ?_
    show W K l _ n0 _ h0 0 0 40 #[.val (.int ln), .val (.int nbs), .val (.int sbs), .val (.int how), .val (.int (2 : Int32)), .val (.int (1 : Int32)), .val (.int n347), .val (.int n350), .unset, .unset, .unset, .unset, .unset, .unset, .unset] []
    refine w_iloadN ok at_40 rfl ?_
    show W K l _ n0 _ h0 0 0 41 #[.val (.int ln), .val (.int nbs), .val (.int sbs), .val (.int how), .val (.int (2 : Int32)), .val (.int (1 : Int32)), .val (.int n347), .val (.int n350), .unset, .unset, .unset, .unset, .unset, .unset, .unset] [(.int nbs)]
    refine w_bipush ok at_41 (v := (16 : Int32)) rfl ?_
    show W K l _ n0 _ h0 0 0 43 #[.val (.int ln), .val (.int nbs), .val (.int sbs), .val (.int how), .val (.int (2 : Int32)), .val (.int (1 : Int32)), .val (.int n347), .val (.int n350), .unset, .unset, .unset, .unset, .unset, .unset, .unset] [(.int (16 : Int32)), (.int nbs)]
    refine w_ishr ok at_43 ?_
    show W K l _ n0 _ h0 0 0 44 #[.val (.int ln), .val (.int nbs), .val (.int sbs), .val (.int how), .val (.int (2 : Int32)), .val (.int (1 : Int32)), .val (.int n347), .val (.int n350), .unset, .unset, .unset, .unset, .unset, .unset, .unset] [(.int (nbs >>> ((16 : Int32) &&& 31)))]
    refine w_callS ok (y := (⟨"com/example/turnstile/turnstile/server/CommandsIsPinLaw", "nameByte", "(I)B"⟩ : MethodName)) (argsL := [(.int (nbs >>> ((16 : Int32) &&& 31)))]) (rest := []) at_44 (hw _ (List.mem_of_getElem? (i := 0) rfl)) (hw _ (List.mem_of_getElem? (i := 1) rfl)) (hw _ (List.mem_of_getElem? (i := 2) rfl)) (hw _ (List.mem_of_getElem? (i := 3) rfl)) (by decide) pd_28I29B rfl rfl (by decide) (Nat.le_of_ble_eq_true rfl) (by decide) (by decide) (fun z0 => rm_nb l Z a0 hw [] n0 h0 z0 (nbs >>> ((16 : Int32) &&& 31))) (fun v351 h352 qv351 => ?_)
    obtain ⟨n353, rfl, h1_n353, h2_n353, rfl⟩ := qv351
    show W K l _ n0 _ h0 0 0 47 #[.val (.int ln), .val (.int nbs), .val (.int sbs), .val (.int how), .val (.int (2 : Int32)), .val (.int (1 : Int32)), .val (.int n347), .val (.int n350), .unset, .unset, .unset, .unset, .unset, .unset, .unset] [(.int n353)]
    refine w_istore ok at_47 (L' := #[.val (.int ln), .val (.int nbs), .val (.int sbs), .val (.int how), .val (.int (2 : Int32)), .val (.int (1 : Int32)), .val (.int n347), .val (.int n350), .val (.int n353), .unset, .unset, .unset, .unset, .unset, .unset]) rfl ?_
    show W K l _ n0 _ h0 0 0 49 #[.val (.int ln), .val (.int nbs), .val (.int sbs), .val (.int how), .val (.int (2 : Int32)), .val (.int (1 : Int32)), .val (.int n347), .val (.int n350), .val (.int n353), .unset, .unset, .unset, .unset, .unset, .unset] []
    refine w_iloadN ok at_49 rfl ?_
    show W K l _ n0 _ h0 0 0 50 #[.val (.int ln), .val (.int nbs), .val (.int sbs), .val (.int how), .val (.int (2 : Int32)), .val (.int (1 : Int32)), .val (.int n347), .val (.int n350), .val (.int n353), .unset, .unset, .unset, .unset, .unset, .unset] [(.int how)]
    refine w_iloadN ok at_50 rfl ?_
    show W K l _ n0 _ h0 0 0 51 #[.val (.int ln), .val (.int nbs), .val (.int sbs), .val (.int how), .val (.int (2 : Int32)), .val (.int (1 : Int32)), .val (.int n347), .val (.int n350), .val (.int n353), .unset, .unset, .unset, .unset, .unset, .unset] [(.int sbs), (.int how)]
    refine w_iload ok at_51 rfl ?_
    show W K l _ n0 _ h0 0 0 53 #[.val (.int ln), .val (.int nbs), .val (.int sbs), .val (.int how), .val (.int (2 : Int32)), .val (.int (1 : Int32)), .val (.int n347), .val (.int n350), .val (.int n353), .unset, .unset, .unset, .unset, .unset, .unset] [(.int n347), (.int sbs), (.int how)]
    refine w_iload ok at_53 rfl ?_
    show W K l _ n0 _ h0 0 0 55 #[.val (.int ln), .val (.int nbs), .val (.int sbs), .val (.int how), .val (.int (2 : Int32)), .val (.int (1 : Int32)), .val (.int n347), .val (.int n350), .val (.int n353), .unset, .unset, .unset, .unset, .unset, .unset] [(.int (1 : Int32)), (.int n347), (.int sbs), (.int how)]
    refine w_if_le ok at_55 (pc' := 62) (by decide) (fun hc355 => False.elim (by revert hc355; decide)) (fun hc355 => ?_)
    show W K l _ n0 _ h0 0 0 58 #[.val (.int ln), .val (.int nbs), .val (.int sbs), .val (.int how), .val (.int (2 : Int32)), .val (.int (1 : Int32)), .val (.int n347), .val (.int n350), .val (.int n353), .unset, .unset, .unset, .unset, .unset, .unset] [(.int n347), (.int sbs), (.int how)]
    refine w_iconst ok at_58 (v := (1 : Int32)) rfl ?_
    show W K l _ n0 _ h0 0 0 59 #[.val (.int ln), .val (.int nbs), .val (.int sbs), .val (.int how), .val (.int (2 : Int32)), .val (.int (1 : Int32)), .val (.int n347), .val (.int n350), .val (.int n353), .unset, .unset, .unset, .unset, .unset, .unset] [(.int (1 : Int32)), (.int n347), (.int sbs), (.int how)]
    refine w_goto ok at_59 (pc' := 63) (by decide) ?_
    show W K l _ n0 _ h0 0 0 63 #[.val (.int ln), .val (.int nbs), .val (.int sbs), .val (.int how), .val (.int (2 : Int32)), .val (.int (1 : Int32)), .val (.int n347), .val (.int n350), .val (.int n353), .unset, .unset, .unset, .unset, .unset, .unset] [(.int (1 : Int32)), (.int n347), (.int sbs), (.int how)]
    refine w_callS ok (y := (⟨"com/example/turnstile/turnstile/server/CommandsIsPinLaw", "sentByte", "(IIBZ)B"⟩ : MethodName)) (argsL := [(.int how), (.int sbs), (.int n347), (.int (1 : Int32))]) (rest := []) at_63 (hw _ (List.mem_of_getElem? (i := 4) rfl)) (hw _ (List.mem_of_getElem? (i := 5) rfl)) (hw _ (List.mem_of_getElem? (i := 2) rfl)) (hw _ (List.mem_of_getElem? (i := 6) rfl)) (by decide) pd_28IIBZ29B rfl rfl (by decide) (Nat.le_of_ble_eq_true rfl) (by decide) (by decide) (fun z0 => rm_sb l Z a0 hw [] n0 h0 z0 how sbs n347 (1 : Int32)) (fun v356 h357 qv356 => ?_)
    obtain ⟨s358, rfl, h1_s358, rfl⟩ := qv356
    show W K l _ n0 _ h0 0 0 66 #[.val (.int ln), .val (.int nbs), .val (.int sbs), .val (.int how), .val (.int (2 : Int32)), .val (.int (1 : Int32)), .val (.int n347), .val (.int n350), .val (.int n353), .unset, .unset, .unset, .unset, .unset, .unset] [(.int s358)]
    refine w_istore ok at_66 (L' := #[.val (.int ln), .val (.int nbs), .val (.int sbs), .val (.int how), .val (.int (2 : Int32)), .val (.int (1 : Int32)), .val (.int n347), .val (.int n350), .val (.int n353), .val (.int s358), .unset, .unset, .unset, .unset, .unset]) rfl ?_
    show W K l _ n0 _ h0 0 0 68 #[.val (.int ln), .val (.int nbs), .val (.int sbs), .val (.int how), .val (.int (2 : Int32)), .val (.int (1 : Int32)), .val (.int n347), .val (.int n350), .val (.int n353), .val (.int s358), .unset, .unset, .unset, .unset, .unset] []
    refine w_iloadN ok at_68 rfl ?_
    show W K l _ n0 _ h0 0 0 69 #[.val (.int ln), .val (.int nbs), .val (.int sbs), .val (.int how), .val (.int (2 : Int32)), .val (.int (1 : Int32)), .val (.int n347), .val (.int n350), .val (.int n353), .val (.int s358), .unset, .unset, .unset, .unset, .unset] [(.int how)]
    refine w_iconst ok at_69 (v := (2 : Int32)) rfl ?_
    show W K l _ n0 _ h0 0 0 70 #[.val (.int ln), .val (.int nbs), .val (.int sbs), .val (.int how), .val (.int (2 : Int32)), .val (.int (1 : Int32)), .val (.int n347), .val (.int n350), .val (.int n353), .val (.int s358), .unset, .unset, .unset, .unset, .unset] [(.int (2 : Int32)), (.int how)]
    refine w_ishr ok at_70 ?_
    show W K l _ n0 _ h0 0 0 71 #[.val (.int ln), .val (.int nbs), .val (.int sbs), .val (.int how), .val (.int (2 : Int32)), .val (.int (1 : Int32)), .val (.int n347), .val (.int n350), .val (.int n353), .val (.int s358), .unset, .unset, .unset, .unset, .unset] [(.int (how >>> ((2 : Int32) &&& 31)))]
    refine w_iloadN ok at_71 rfl ?_
    show W K l _ n0 _ h0 0 0 72 #[.val (.int ln), .val (.int nbs), .val (.int sbs), .val (.int how), .val (.int (2 : Int32)), .val (.int (1 : Int32)), .val (.int n347), .val (.int n350), .val (.int n353), .val (.int s358), .unset, .unset, .unset, .unset, .unset] [(.int sbs), (.int (how >>> ((2 : Int32) &&& 31)))]
    refine w_bipush ok at_72 (v := (8 : Int32)) rfl ?_
    show W K l _ n0 _ h0 0 0 74 #[.val (.int ln), .val (.int nbs), .val (.int sbs), .val (.int how), .val (.int (2 : Int32)), .val (.int (1 : Int32)), .val (.int n347), .val (.int n350), .val (.int n353), .val (.int s358), .unset, .unset, .unset, .unset, .unset] [(.int (8 : Int32)), (.int sbs), (.int (how >>> ((2 : Int32) &&& 31)))]
    refine w_ishr ok at_74 ?_
    show W K l _ n0 _ h0 0 0 75 #[.val (.int ln), .val (.int nbs), .val (.int sbs), .val (.int how), .val (.int (2 : Int32)), .val (.int (1 : Int32)), .val (.int n347), .val (.int n350), .val (.int n353), .val (.int s358), .unset, .unset, .unset, .unset, .unset] [(.int (sbs >>> ((8 : Int32) &&& 31))), (.int (how >>> ((2 : Int32) &&& 31)))]
    refine w_iload ok at_75 rfl ?_
    show W K l _ n0 _ h0 0 0 77 #[.val (.int ln), .val (.int nbs), .val (.int sbs), .val (.int how), .val (.int (2 : Int32)), .val (.int (1 : Int32)), .val (.int n347), .val (.int n350), .val (.int n353), .val (.int s358), .unset, .unset, .unset, .unset, .unset] [(.int n350), (.int (sbs >>> ((8 : Int32) &&& 31))), (.int (how >>> ((2 : Int32) &&& 31)))]
    refine w_iload ok at_77 rfl ?_
    show W K l _ n0 _ h0 0 0 79 #[.val (.int ln), .val (.int nbs), .val (.int sbs), .val (.int how), .val (.int (2 : Int32)), .val (.int (1 : Int32)), .val (.int n347), .val (.int n350), .val (.int n353), .val (.int s358), .unset, .unset, .unset, .unset, .unset] [(.int (1 : Int32)), (.int n350), (.int (sbs >>> ((8 : Int32) &&& 31))), (.int (how >>> ((2 : Int32) &&& 31)))]
    refine w_iconst ok at_79 (v := (1 : Int32)) rfl ?_
    show W K l _ n0 _ h0 0 0 80 #[.val (.int ln), .val (.int nbs), .val (.int sbs), .val (.int how), .val (.int (2 : Int32)), .val (.int (1 : Int32)), .val (.int n347), .val (.int n350), .val (.int n353), .val (.int s358), .unset, .unset, .unset, .unset, .unset] [(.int (1 : Int32)), (.int (1 : Int32)), (.int n350), (.int (sbs >>> ((8 : Int32) &&& 31))), (.int (how >>> ((2 : Int32) &&& 31)))]
    refine w_icmp_le ok at_80 (pc' := 87) (by decide) (fun hc360 => ?_) (fun hc360 => False.elim (by revert hc360; decide))
    show W K l _ n0 _ h0 0 0 87 #[.val (.int ln), .val (.int nbs), .val (.int sbs), .val (.int how), .val (.int (2 : Int32)), .val (.int (1 : Int32)), .val (.int n347), .val (.int n350), .val (.int n353), .val (.int s358), .unset, .unset, .unset, .unset, .unset] [(.int n350), (.int (sbs >>> ((8 : Int32) &&& 31))), (.int (how >>> ((2 : Int32) &&& 31)))]
    refine w_iconst ok at_87 (v := (0 : Int32)) rfl ?_
    show W K l _ n0 _ h0 0 0 88 #[.val (.int ln), .val (.int nbs), .val (.int sbs), .val (.int how), .val (.int (2 : Int32)), .val (.int (1 : Int32)), .val (.int n347), .val (.int n350), .val (.int n353), .val (.int s358), .unset, .unset, .unset, .unset, .unset] [(.int (0 : Int32)), (.int n350), (.int (sbs >>> ((8 : Int32) &&& 31))), (.int (how >>> ((2 : Int32) &&& 31)))]
    refine w_callS ok (y := (⟨"com/example/turnstile/turnstile/server/CommandsIsPinLaw", "sentByte", "(IIBZ)B"⟩ : MethodName)) (argsL := [(.int (how >>> ((2 : Int32) &&& 31))), (.int (sbs >>> ((8 : Int32) &&& 31))), (.int n350), (.int (0 : Int32))]) (rest := []) at_88 (hw _ (List.mem_of_getElem? (i := 4) rfl)) (hw _ (List.mem_of_getElem? (i := 5) rfl)) (hw _ (List.mem_of_getElem? (i := 2) rfl)) (hw _ (List.mem_of_getElem? (i := 6) rfl)) (by decide) pd_28IIBZ29B rfl rfl (by decide) (Nat.le_of_ble_eq_true rfl) (by decide) (by decide) (fun z0 => rm_sb l Z a0 hw [] n0 h0 z0 (how >>> ((2 : Int32) &&& 31)) (sbs >>> ((8 : Int32) &&& 31)) n350 (0 : Int32)) (fun v361 h362 qv361 => ?_)
    obtain ⟨s363, rfl, h1_s363, rfl⟩ := qv361
    show W K l _ n0 _ h0 0 0 91 #[.val (.int ln), .val (.int nbs), .val (.int sbs), .val (.int how), .val (.int (2 : Int32)), .val (.int (1 : Int32)), .val (.int n347), .val (.int n350), .val (.int n353), .val (.int s358), .unset, .unset, .unset, .unset, .unset] [(.int s363)]
    refine w_istore ok at_91 (L' := #[.val (.int ln), .val (.int nbs), .val (.int sbs), .val (.int how), .val (.int (2 : Int32)), .val (.int (1 : Int32)), .val (.int n347), .val (.int n350), .val (.int n353), .val (.int s358), .val (.int s363), .unset, .unset, .unset, .unset]) rfl ?_
    show W K l _ n0 _ h0 0 0 93 #[.val (.int ln), .val (.int nbs), .val (.int sbs), .val (.int how), .val (.int (2 : Int32)), .val (.int (1 : Int32)), .val (.int n347), .val (.int n350), .val (.int n353), .val (.int s358), .val (.int s363), .unset, .unset, .unset, .unset] []
    refine w_iloadN ok at_93 rfl ?_
    show W K l _ n0 _ h0 0 0 94 #[.val (.int ln), .val (.int nbs), .val (.int sbs), .val (.int how), .val (.int (2 : Int32)), .val (.int (1 : Int32)), .val (.int n347), .val (.int n350), .val (.int n353), .val (.int s358), .val (.int s363), .unset, .unset, .unset, .unset] [(.int how)]
    refine w_iconst ok at_94 (v := (4 : Int32)) rfl ?_
    show W K l _ n0 _ h0 0 0 95 #[.val (.int ln), .val (.int nbs), .val (.int sbs), .val (.int how), .val (.int (2 : Int32)), .val (.int (1 : Int32)), .val (.int n347), .val (.int n350), .val (.int n353), .val (.int s358), .val (.int s363), .unset, .unset, .unset, .unset] [(.int (4 : Int32)), (.int how)]
    refine w_ishr ok at_95 ?_
    show W K l _ n0 _ h0 0 0 96 #[.val (.int ln), .val (.int nbs), .val (.int sbs), .val (.int how), .val (.int (2 : Int32)), .val (.int (1 : Int32)), .val (.int n347), .val (.int n350), .val (.int n353), .val (.int s358), .val (.int s363), .unset, .unset, .unset, .unset] [(.int (how >>> ((4 : Int32) &&& 31)))]
    refine w_iloadN ok at_96 rfl ?_
    show W K l _ n0 _ h0 0 0 97 #[.val (.int ln), .val (.int nbs), .val (.int sbs), .val (.int how), .val (.int (2 : Int32)), .val (.int (1 : Int32)), .val (.int n347), .val (.int n350), .val (.int n353), .val (.int s358), .val (.int s363), .unset, .unset, .unset, .unset] [(.int sbs), (.int (how >>> ((4 : Int32) &&& 31)))]
    refine w_bipush ok at_97 (v := (16 : Int32)) rfl ?_
    show W K l _ n0 _ h0 0 0 99 #[.val (.int ln), .val (.int nbs), .val (.int sbs), .val (.int how), .val (.int (2 : Int32)), .val (.int (1 : Int32)), .val (.int n347), .val (.int n350), .val (.int n353), .val (.int s358), .val (.int s363), .unset, .unset, .unset, .unset] [(.int (16 : Int32)), (.int sbs), (.int (how >>> ((4 : Int32) &&& 31)))]
    refine w_ishr ok at_99 ?_
    show W K l _ n0 _ h0 0 0 100 #[.val (.int ln), .val (.int nbs), .val (.int sbs), .val (.int how), .val (.int (2 : Int32)), .val (.int (1 : Int32)), .val (.int n347), .val (.int n350), .val (.int n353), .val (.int s358), .val (.int s363), .unset, .unset, .unset, .unset] [(.int (sbs >>> ((16 : Int32) &&& 31))), (.int (how >>> ((4 : Int32) &&& 31)))]
    refine w_iload ok at_100 rfl ?_
    show W K l _ n0 _ h0 0 0 102 #[.val (.int ln), .val (.int nbs), .val (.int sbs), .val (.int how), .val (.int (2 : Int32)), .val (.int (1 : Int32)), .val (.int n347), .val (.int n350), .val (.int n353), .val (.int s358), .val (.int s363), .unset, .unset, .unset, .unset] [(.int n353), (.int (sbs >>> ((16 : Int32) &&& 31))), (.int (how >>> ((4 : Int32) &&& 31)))]
    refine w_iload ok at_102 rfl ?_
    show W K l _ n0 _ h0 0 0 104 #[.val (.int ln), .val (.int nbs), .val (.int sbs), .val (.int how), .val (.int (2 : Int32)), .val (.int (1 : Int32)), .val (.int n347), .val (.int n350), .val (.int n353), .val (.int s358), .val (.int s363), .unset, .unset, .unset, .unset] [(.int (1 : Int32)), (.int n353), (.int (sbs >>> ((16 : Int32) &&& 31))), (.int (how >>> ((4 : Int32) &&& 31)))]
    refine w_iconst ok at_104 (v := (2 : Int32)) rfl ?_
    show W K l _ n0 _ h0 0 0 105 #[.val (.int ln), .val (.int nbs), .val (.int sbs), .val (.int how), .val (.int (2 : Int32)), .val (.int (1 : Int32)), .val (.int n347), .val (.int n350), .val (.int n353), .val (.int s358), .val (.int s363), .unset, .unset, .unset, .unset] [(.int (2 : Int32)), (.int (1 : Int32)), (.int n353), (.int (sbs >>> ((16 : Int32) &&& 31))), (.int (how >>> ((4 : Int32) &&& 31)))]
    refine w_icmp_le ok at_105 (pc' := 112) (by decide) (fun hc365 => ?_) (fun hc365 => False.elim (by revert hc365; decide))
    show W K l _ n0 _ h0 0 0 112 #[.val (.int ln), .val (.int nbs), .val (.int sbs), .val (.int how), .val (.int (2 : Int32)), .val (.int (1 : Int32)), .val (.int n347), .val (.int n350), .val (.int n353), .val (.int s358), .val (.int s363), .unset, .unset, .unset, .unset] [(.int n353), (.int (sbs >>> ((16 : Int32) &&& 31))), (.int (how >>> ((4 : Int32) &&& 31)))]
    refine w_iconst ok at_112 (v := (0 : Int32)) rfl ?_
    show W K l _ n0 _ h0 0 0 113 #[.val (.int ln), .val (.int nbs), .val (.int sbs), .val (.int how), .val (.int (2 : Int32)), .val (.int (1 : Int32)), .val (.int n347), .val (.int n350), .val (.int n353), .val (.int s358), .val (.int s363), .unset, .unset, .unset, .unset] [(.int (0 : Int32)), (.int n353), (.int (sbs >>> ((16 : Int32) &&& 31))), (.int (how >>> ((4 : Int32) &&& 31)))]
    refine w_callS ok (y := (⟨"com/example/turnstile/turnstile/server/CommandsIsPinLaw", "sentByte", "(IIBZ)B"⟩ : MethodName)) (argsL := [(.int (how >>> ((4 : Int32) &&& 31))), (.int (sbs >>> ((16 : Int32) &&& 31))), (.int n353), (.int (0 : Int32))]) (rest := []) at_113 (hw _ (List.mem_of_getElem? (i := 4) rfl)) (hw _ (List.mem_of_getElem? (i := 5) rfl)) (hw _ (List.mem_of_getElem? (i := 2) rfl)) (hw _ (List.mem_of_getElem? (i := 6) rfl)) (by decide) pd_28IIBZ29B rfl rfl (by decide) (Nat.le_of_ble_eq_true rfl) (by decide) (by decide) (fun z0 => rm_sb l Z a0 hw [] n0 h0 z0 (how >>> ((4 : Int32) &&& 31)) (sbs >>> ((16 : Int32) &&& 31)) n353 (0 : Int32)) (fun v366 h367 qv366 => ?_)
    obtain ⟨s368, rfl, h1_s368, rfl⟩ := qv366
    show W K l _ n0 _ h0 0 0 116 #[.val (.int ln), .val (.int nbs), .val (.int sbs), .val (.int how), .val (.int (2 : Int32)), .val (.int (1 : Int32)), .val (.int n347), .val (.int n350), .val (.int n353), .val (.int s358), .val (.int s363), .unset, .unset, .unset, .unset] [(.int s368)]
    refine w_istore ok at_116 (L' := #[.val (.int ln), .val (.int nbs), .val (.int sbs), .val (.int how), .val (.int (2 : Int32)), .val (.int (1 : Int32)), .val (.int n347), .val (.int n350), .val (.int n353), .val (.int s358), .val (.int s363), .val (.int s368), .unset, .unset, .unset]) rfl ?_
    show W K l _ n0 _ h0 0 0 118 #[.val (.int ln), .val (.int nbs), .val (.int sbs), .val (.int how), .val (.int (2 : Int32)), .val (.int (1 : Int32)), .val (.int n347), .val (.int n350), .val (.int n353), .val (.int s358), .val (.int s363), .val (.int s368), .unset, .unset, .unset] []
    refine w_iload ok at_118 rfl ?_
    show W K l _ n0 _ h0 0 0 120 #[.val (.int ln), .val (.int nbs), .val (.int sbs), .val (.int how), .val (.int (2 : Int32)), .val (.int (1 : Int32)), .val (.int n347), .val (.int n350), .val (.int n353), .val (.int s358), .val (.int s363), .val (.int s368), .unset, .unset, .unset] [(.int (2 : Int32))]
    refine w_iload ok at_120 rfl ?_
    show W K l _ n0 _ h0 0 0 122 #[.val (.int ln), .val (.int nbs), .val (.int sbs), .val (.int how), .val (.int (2 : Int32)), .val (.int (1 : Int32)), .val (.int n347), .val (.int n350), .val (.int n353), .val (.int s358), .val (.int s363), .val (.int s368), .unset, .unset, .unset] [(.int s358), (.int (2 : Int32))]
    refine w_iload ok at_122 rfl ?_
    show W K l _ n0 _ h0 0 0 124 #[.val (.int ln), .val (.int nbs), .val (.int sbs), .val (.int how), .val (.int (2 : Int32)), .val (.int (1 : Int32)), .val (.int n347), .val (.int n350), .val (.int n353), .val (.int s358), .val (.int s363), .val (.int s368), .unset, .unset, .unset] [(.int s363), (.int s358), (.int (2 : Int32))]
    refine w_iload ok at_124 rfl ?_
    show W K l _ n0 _ h0 0 0 126 #[.val (.int ln), .val (.int nbs), .val (.int sbs), .val (.int how), .val (.int (2 : Int32)), .val (.int (1 : Int32)), .val (.int n347), .val (.int n350), .val (.int n353), .val (.int s358), .val (.int s363), .val (.int s368), .unset, .unset, .unset] [(.int s368), (.int s363), (.int s358), (.int (2 : Int32))]
    refine w_callS ok (y := (⟨"com/example/turnstile/turnstile/server/CommandsIsPinLaw", "make", "(IBBB)[B"⟩ : MethodName)) (argsL := [(.int (2 : Int32)), (.int s358), (.int s363), (.int s368)]) (rest := []) at_126 (hw _ (List.mem_of_getElem? (i := 7) rfl)) (hw _ (List.mem_of_getElem? (i := 8) rfl)) (hw _ (List.mem_of_getElem? (i := 2) rfl)) (hw _ (List.mem_of_getElem? (i := 9) rfl)) (by decide) pd_28IBBB295bB rfl rfl (by decide) (Nat.le_of_ble_eq_true rfl) (by decide) (by decide) (fun z0 => rm_mk2 l Z a0 hw [] n0 h0 z0 s358 s363 s368) (fun v369 h370 qv369 => ?_)
    obtain ⟨r371, rfl, sz_r371, ge_r371, K1, A_r371⟩ := qv369
    show W K l _ n0 _ h370 1 2 129 #[.val (.int ln), .val (.int nbs), .val (.int sbs), .val (.int how), .val (.int (2 : Int32)), .val (.int (1 : Int32)), .val (.int n347), .val (.int n350), .val (.int n353), .val (.int s358), .val (.int s363), .val (.int s368), .unset, .unset, .unset] [(.ref r371)]
    refine w_astore ok at_129 rfl (L' := #[.val (.int ln), .val (.int nbs), .val (.int sbs), .val (.int how), .val (.int (2 : Int32)), .val (.int (1 : Int32)), .val (.int n347), .val (.int n350), .val (.int n353), .val (.int s358), .val (.int s363), .val (.int s368), .val (.ref r371), .unset, .unset]) rfl ?_
    show W K l _ n0 _ h370 1 2 131 #[.val (.int ln), .val (.int nbs), .val (.int sbs), .val (.int how), .val (.int (2 : Int32)), .val (.int (1 : Int32)), .val (.int n347), .val (.int n350), .val (.int n353), .val (.int s358), .val (.int s363), .val (.int s368), .val (.ref r371), .unset, .unset] []
    refine w_iload ok at_131 rfl ?_
    show W K l _ n0 _ h370 1 2 133 #[.val (.int ln), .val (.int nbs), .val (.int sbs), .val (.int how), .val (.int (2 : Int32)), .val (.int (1 : Int32)), .val (.int n347), .val (.int n350), .val (.int n353), .val (.int s358), .val (.int s363), .val (.int s368), .val (.ref r371), .unset, .unset] [(.int (1 : Int32))]
    refine w_iload ok at_133 rfl ?_
    show W K l _ n0 _ h370 1 2 135 #[.val (.int ln), .val (.int nbs), .val (.int sbs), .val (.int how), .val (.int (2 : Int32)), .val (.int (1 : Int32)), .val (.int n347), .val (.int n350), .val (.int n353), .val (.int s358), .val (.int s363), .val (.int s368), .val (.ref r371), .unset, .unset] [(.int n347), (.int (1 : Int32))]
    refine w_iload ok at_135 rfl ?_
    show W K l _ n0 _ h370 1 2 137 #[.val (.int ln), .val (.int nbs), .val (.int sbs), .val (.int how), .val (.int (2 : Int32)), .val (.int (1 : Int32)), .val (.int n347), .val (.int n350), .val (.int n353), .val (.int s358), .val (.int s363), .val (.int s368), .val (.ref r371), .unset, .unset] [(.int n350), (.int n347), (.int (1 : Int32))]
    refine w_iload ok at_137 rfl ?_
    show W K l _ n0 _ h370 1 2 139 #[.val (.int ln), .val (.int nbs), .val (.int sbs), .val (.int how), .val (.int (2 : Int32)), .val (.int (1 : Int32)), .val (.int n347), .val (.int n350), .val (.int n353), .val (.int s358), .val (.int s363), .val (.int s368), .val (.ref r371), .unset, .unset] [(.int n353), (.int n350), (.int n347), (.int (1 : Int32))]
    refine w_callS ok (y := (⟨"com/example/turnstile/turnstile/server/CommandsIsPinLaw", "make", "(IBBB)[B"⟩ : MethodName)) (argsL := [(.int (1 : Int32)), (.int n347), (.int n350), (.int n353)]) (rest := []) at_139 (hw _ (List.mem_of_getElem? (i := 7) rfl)) (hw _ (List.mem_of_getElem? (i := 8) rfl)) (hw _ (List.mem_of_getElem? (i := 2) rfl)) (hw _ (List.mem_of_getElem? (i := 9) rfl)) (by decide) pd_28IBBB295bB rfl rfl (by decide) (Nat.le_of_ble_eq_true rfl) (by decide) (by decide) (fun z0 => rm_mk1 l Z a0 hw [] n0 h370 z0 n347 n350 n353) (fun v372 h373 qv372 => ?_)
    obtain ⟨r374, rfl, sz_r374, ge_r374, K1, A_r374⟩ := qv372
    have ne_r371_r374 : r371 ≠ r374 := Nat.ne_of_lt (Nat.lt_of_lt_of_le A_r371.lt sz_r374)
    replace A_r371 := A_r371.keep K1 nin0
    show W K l _ n0 _ h373 2 3 142 #[.val (.int ln), .val (.int nbs), .val (.int sbs), .val (.int how), .val (.int (2 : Int32)), .val (.int (1 : Int32)), .val (.int n347), .val (.int n350), .val (.int n353), .val (.int s358), .val (.int s363), .val (.int s368), .val (.ref r371), .unset, .unset] [(.ref r374)]
    refine w_astore ok at_142 rfl (L' := #[.val (.int ln), .val (.int nbs), .val (.int sbs), .val (.int how), .val (.int (2 : Int32)), .val (.int (1 : Int32)), .val (.int n347), .val (.int n350), .val (.int n353), .val (.int s358), .val (.int s363), .val (.int s368), .val (.ref r371), .val (.ref r374), .unset]) rfl ?_
    show W K l _ n0 _ h373 2 3 144 #[.val (.int ln), .val (.int nbs), .val (.int sbs), .val (.int how), .val (.int (2 : Int32)), .val (.int (1 : Int32)), .val (.int n347), .val (.int n350), .val (.int n353), .val (.int s358), .val (.int s363), .val (.int s368), .val (.ref r371), .val (.ref r374), .unset] []
    refine w_iload ok at_144 rfl ?_
    show W K l _ n0 _ h373 2 3 146 #[.val (.int ln), .val (.int nbs), .val (.int sbs), .val (.int how), .val (.int (2 : Int32)), .val (.int (1 : Int32)), .val (.int n347), .val (.int n350), .val (.int n353), .val (.int s358), .val (.int s363), .val (.int s368), .val (.ref r371), .val (.ref r374), .unset] [(.int (2 : Int32))]
    refine w_iload ok at_146 rfl ?_
    show W K l _ n0 _ h373 2 3 148 #[.val (.int ln), .val (.int nbs), .val (.int sbs), .val (.int how), .val (.int (2 : Int32)), .val (.int (1 : Int32)), .val (.int n347), .val (.int n350), .val (.int n353), .val (.int s358), .val (.int s363), .val (.int s368), .val (.ref r371), .val (.ref r374), .unset] [(.int (1 : Int32)), (.int (2 : Int32))]
    refine w_icmp_ne ok at_148 (pc' := 203) (by decide) (fun hc376 => ?_) (fun hc376 => False.elim (by revert hc376; decide))
    show W K l _ n0 _ h373 2 3 203 #[.val (.int ln), .val (.int nbs), .val (.int sbs), .val (.int how), .val (.int (2 : Int32)), .val (.int (1 : Int32)), .val (.int n347), .val (.int n350), .val (.int n353), .val (.int s358), .val (.int s363), .val (.int s368), .val (.ref r371), .val (.ref r374), .unset] []
    refine w_iconst ok at_203 (v := (0 : Int32)) rfl ?_
    show W K l _ n0 _ h373 2 3 204 #[.val (.int ln), .val (.int nbs), .val (.int sbs), .val (.int how), .val (.int (2 : Int32)), .val (.int (1 : Int32)), .val (.int n347), .val (.int n350), .val (.int n353), .val (.int s358), .val (.int s363), .val (.int s368), .val (.ref r371), .val (.ref r374), .unset] [(.int (0 : Int32))]
    refine w_istore ok at_204 (L' := #[.val (.int ln), .val (.int nbs), .val (.int sbs), .val (.int how), .val (.int (2 : Int32)), .val (.int (1 : Int32)), .val (.int n347), .val (.int n350), .val (.int n353), .val (.int s358), .val (.int s363), .val (.int s368), .val (.ref r371), .val (.ref r374), .val (.int (0 : Int32))]) rfl ?_
    show W K l _ n0 _ h373 2 3 206 #[.val (.int ln), .val (.int nbs), .val (.int sbs), .val (.int how), .val (.int (2 : Int32)), .val (.int (1 : Int32)), .val (.int n347), .val (.int n350), .val (.int n353), .val (.int s358), .val (.int s363), .val (.int s368), .val (.ref r371), .val (.ref r374), .val (.int (0 : Int32))] []
    refine w_aload ok at_206 rfl rfl ?_
    show W K l _ n0 _ h373 2 3 208 #[.val (.int ln), .val (.int nbs), .val (.int sbs), .val (.int how), .val (.int (2 : Int32)), .val (.int (1 : Int32)), .val (.int n347), .val (.int n350), .val (.int n353), .val (.int s358), .val (.int s363), .val (.int s368), .val (.ref r371), .val (.ref r374), .val (.int (0 : Int32))] [(.ref r371)]
    refine w_aload ok at_208 rfl rfl ?_
    show W K l _ n0 _ h373 2 3 210 #[.val (.int ln), .val (.int nbs), .val (.int sbs), .val (.int how), .val (.int (2 : Int32)), .val (.int (1 : Int32)), .val (.int n347), .val (.int n350), .val (.int n353), .val (.int s358), .val (.int s363), .val (.int s368), .val (.ref r371), .val (.ref r374), .val (.int (0 : Int32))] [(.ref r374), (.ref r371)]
    refine w_callS ok (y := (⟨"com/example/turnstile/turnstile/server/Commands", "is", "([B[B)Z"⟩ : MethodName)) (argsL := [(.ref r371), (.ref r374)]) (rest := []) at_210 (hw _ (List.mem_of_getElem? (i := 11) rfl)) (hw _ (List.mem_of_getElem? (i := 12) rfl)) (hw _ (List.mem_of_getElem? (i := 13) rfl)) (hw _ (List.mem_of_getElem? (i := 14) rfl)) (by decide) pd_285bB5bB29Z rfl rfl (by decide) (Nat.le_of_ble_eq_true rfl) (by decide) (by decide) (fun z0 => rm_is l Z a0 hw [] n0 h373 z0 r371 r374 [nar .byte s358, nar .byte s363] [nar .byte n347] A_r371 A_r374) (fun v377 h378 qv377 => ?_)
    obtain ⟨rfl, rfl⟩ := qv377
    show W K l _ n0 _ h373 2 3 213 #[.val (.int ln), .val (.int nbs), .val (.int sbs), .val (.int how), .val (.int (2 : Int32)), .val (.int (1 : Int32)), .val (.int n347), .val (.int n350), .val (.int n353), .val (.int s358), .val (.int s363), .val (.int s368), .val (.ref r371), .val (.ref r374), .val (.int (0 : Int32))] [(.int (nar .boolean (own_isl [nar .byte s358, nar .byte s363] [nar .byte n347])))]
    refine w_iload ok at_213 rfl ?_
    show W K l _ n0 _ h373 2 3 215 #[.val (.int ln), .val (.int nbs), .val (.int sbs), .val (.int how), .val (.int (2 : Int32)), .val (.int (1 : Int32)), .val (.int n347), .val (.int n350), .val (.int n353), .val (.int s358), .val (.int s363), .val (.int s368), .val (.ref r371), .val (.ref r374), .val (.int (0 : Int32))] [(.int (0 : Int32)), (.int (nar .boolean (own_isl [nar .byte s358, nar .byte s363] [nar .byte n347])))]
    refine w_icmp_ne ok at_215 (pc' := 222) (by decide) (fun hc380 => False.elim (by exact hc380 (by rw [own_isl_len (by simp)] <;> rfl))) (fun hc380 => ?_)
    show W K l _ n0 _ h373 2 3 218 #[.val (.int ln), .val (.int nbs), .val (.int sbs), .val (.int how), .val (.int (2 : Int32)), .val (.int (1 : Int32)), .val (.int n347), .val (.int n350), .val (.int n353), .val (.int s358), .val (.int s363), .val (.int s368), .val (.ref r371), .val (.ref r374), .val (.int (0 : Int32))] []
    refine w_iconst ok at_218 (v := (1 : Int32)) rfl ?_
    show W K l _ n0 _ h373 2 3 219 #[.val (.int ln), .val (.int nbs), .val (.int sbs), .val (.int how), .val (.int (2 : Int32)), .val (.int (1 : Int32)), .val (.int n347), .val (.int n350), .val (.int n353), .val (.int s358), .val (.int s363), .val (.int s368), .val (.ref r371), .val (.ref r374), .val (.int (0 : Int32))] [(.int (1 : Int32))]
    refine w_goto ok at_219 (pc' := 223) (by decide) ?_
    show W K l _ n0 _ h373 2 3 223 #[.val (.int ln), .val (.int nbs), .val (.int sbs), .val (.int how), .val (.int (2 : Int32)), .val (.int (1 : Int32)), .val (.int n347), .val (.int n350), .val (.int n353), .val (.int s358), .val (.int s363), .val (.int s368), .val (.ref r371), .val (.ref r374), .val (.int (0 : Int32))] [(.int (1 : Int32))]
    refine w_bret ok (by simp) at_223 (by decide) (by decide) ?_
    exact rfl
  · skip
    show W K l _ n0 _ h0 0 0 25 #[.val (.int ln), .val (.int nbs), .val (.int sbs), .val (.int how), .val (.int (2 : Int32)), .val (.int (2 : Int32)), .unset, .unset, .unset, .unset, .unset, .unset, .unset, .unset, .unset] []
    refine w_iloadN ok at_25 rfl ?_
    show W K l _ n0 _ h0 0 0 26 #[.val (.int ln), .val (.int nbs), .val (.int sbs), .val (.int how), .val (.int (2 : Int32)), .val (.int (2 : Int32)), .unset, .unset, .unset, .unset, .unset, .unset, .unset, .unset, .unset] [(.int nbs)]
    refine w_callS ok (y := (⟨"com/example/turnstile/turnstile/server/CommandsIsPinLaw", "nameByte", "(I)B"⟩ : MethodName)) (argsL := [(.int nbs)]) (rest := []) at_26 (hw _ (List.mem_of_getElem? (i := 0) rfl)) (hw _ (List.mem_of_getElem? (i := 1) rfl)) (hw _ (List.mem_of_getElem? (i := 2) rfl)) (hw _ (List.mem_of_getElem? (i := 3) rfl)) (by decide) pd_28I29B rfl rfl (by decide) (Nat.le_of_ble_eq_true rfl) (by decide) (by decide) (fun z0 => rm_nb l Z a0 hw [] n0 h0 z0 nbs) (fun v381 h382 qv381 => ?_)
    obtain ⟨n383, rfl, h1_n383, h2_n383, rfl⟩ := qv381
    show W K l _ n0 _ h0 0 0 29 #[.val (.int ln), .val (.int nbs), .val (.int sbs), .val (.int how), .val (.int (2 : Int32)), .val (.int (2 : Int32)), .unset, .unset, .unset, .unset, .unset, .unset, .unset, .unset, .unset] [(.int n383)]
    refine w_istore ok at_29 (L' := #[.val (.int ln), .val (.int nbs), .val (.int sbs), .val (.int how), .val (.int (2 : Int32)), .val (.int (2 : Int32)), .val (.int n383), .unset, .unset, .unset, .unset, .unset, .unset, .unset, .unset]) rfl ?_
    show W K l _ n0 _ h0 0 0 31 #[.val (.int ln), .val (.int nbs), .val (.int sbs), .val (.int how), .val (.int (2 : Int32)), .val (.int (2 : Int32)), .val (.int n383), .unset, .unset, .unset, .unset, .unset, .unset, .unset, .unset] []
    refine w_iloadN ok at_31 rfl ?_
    show W K l _ n0 _ h0 0 0 32 #[.val (.int ln), .val (.int nbs), .val (.int sbs), .val (.int how), .val (.int (2 : Int32)), .val (.int (2 : Int32)), .val (.int n383), .unset, .unset, .unset, .unset, .unset, .unset, .unset, .unset] [(.int nbs)]
    refine w_bipush ok at_32 (v := (8 : Int32)) rfl ?_
    show W K l _ n0 _ h0 0 0 34 #[.val (.int ln), .val (.int nbs), .val (.int sbs), .val (.int how), .val (.int (2 : Int32)), .val (.int (2 : Int32)), .val (.int n383), .unset, .unset, .unset, .unset, .unset, .unset, .unset, .unset] [(.int (8 : Int32)), (.int nbs)]
    refine w_ishr ok at_34 ?_
    show W K l _ n0 _ h0 0 0 35 #[.val (.int ln), .val (.int nbs), .val (.int sbs), .val (.int how), .val (.int (2 : Int32)), .val (.int (2 : Int32)), .val (.int n383), .unset, .unset, .unset, .unset, .unset, .unset, .unset, .unset] [(.int (nbs >>> ((8 : Int32) &&& 31)))]
    refine w_callS ok (y := (⟨"com/example/turnstile/turnstile/server/CommandsIsPinLaw", "nameByte", "(I)B"⟩ : MethodName)) (argsL := [(.int (nbs >>> ((8 : Int32) &&& 31)))]) (rest := []) at_35 (hw _ (List.mem_of_getElem? (i := 0) rfl)) (hw _ (List.mem_of_getElem? (i := 1) rfl)) (hw _ (List.mem_of_getElem? (i := 2) rfl)) (hw _ (List.mem_of_getElem? (i := 3) rfl)) (by decide) pd_28I29B rfl rfl (by decide) (Nat.le_of_ble_eq_true rfl) (by decide) (by decide) (fun z0 => rm_nb l Z a0 hw [] n0 h0 z0 (nbs >>> ((8 : Int32) &&& 31))) (fun v384 h385 qv384 => ?_)
    obtain ⟨n386, rfl, h1_n386, h2_n386, rfl⟩ := qv384
    show W K l _ n0 _ h0 0 0 38 #[.val (.int ln), .val (.int nbs), .val (.int sbs), .val (.int how), .val (.int (2 : Int32)), .val (.int (2 : Int32)), .val (.int n383), .unset, .unset, .unset, .unset, .unset, .unset, .unset, .unset] [(.int n386)]
    refine w_istore ok at_38 (L' := #[.val (.int ln), .val (.int nbs), .val (.int sbs), .val (.int how), .val (.int (2 : Int32)), .val (.int (2 : Int32)), .val (.int n383), .val (.int n386), .unset, .unset, .unset, .unset, .unset, .unset, .unset]) rfl ?_
    show W K l _ n0 _ h0 0 0 40 #[.val (.int ln), .val (.int nbs), .val (.int sbs), .val (.int how), .val (.int (2 : Int32)), .val (.int (2 : Int32)), .val (.int n383), .val (.int n386), .unset, .unset, .unset, .unset, .unset, .unset, .unset] []
    refine w_iloadN ok at_40 rfl ?_
    show W K l _ n0 _ h0 0 0 41 #[.val (.int ln), .val (.int nbs), .val (.int sbs), .val (.int how), .val (.int (2 : Int32)), .val (.int (2 : Int32)), .val (.int n383), .val (.int n386), .unset, .unset, .unset, .unset, .unset, .unset, .unset] [(.int nbs)]
    refine w_bipush ok at_41 (v := (16 : Int32)) rfl ?_
    show W K l _ n0 _ h0 0 0 43 #[.val (.int ln), .val (.int nbs), .val (.int sbs), .val (.int how), .val (.int (2 : Int32)), .val (.int (2 : Int32)), .val (.int n383), .val (.int n386), .unset, .unset, .unset, .unset, .unset, .unset, .unset] [(.int (16 : Int32)), (.int nbs)]
    refine w_ishr ok at_43 ?_
    show W K l _ n0 _ h0 0 0 44 #[.val (.int ln), .val (.int nbs), .val (.int sbs), .val (.int how), .val (.int (2 : Int32)), .val (.int (2 : Int32)), .val (.int n383), .val (.int n386), .unset, .unset, .unset, .unset, .unset, .unset, .unset] [(.int (nbs >>> ((16 : Int32) &&& 31)))]
    refine w_callS ok (y := (⟨"com/example/turnstile/turnstile/server/CommandsIsPinLaw", "nameByte", "(I)B"⟩ : MethodName)) (argsL := [(.int (nbs >>> ((16 : Int32) &&& 31)))]) (rest := []) at_44 (hw _ (List.mem_of_getElem? (i := 0) rfl)) (hw _ (List.mem_of_getElem? (i := 1) rfl)) (hw _ (List.mem_of_getElem? (i := 2) rfl)) (hw _ (List.mem_of_getElem? (i := 3) rfl)) (by decide) pd_28I29B rfl rfl (by decide) (Nat.le_of_ble_eq_true rfl) (by decide) (by decide) (fun z0 => rm_nb l Z a0 hw [] n0 h0 z0 (nbs >>> ((16 : Int32) &&& 31))) (fun v387 h388 qv387 => ?_)
    obtain ⟨n389, rfl, h1_n389, h2_n389, rfl⟩ := qv387
    show W K l _ n0 _ h0 0 0 47 #[.val (.int ln), .val (.int nbs), .val (.int sbs), .val (.int how), .val (.int (2 : Int32)), .val (.int (2 : Int32)), .val (.int n383), .val (.int n386), .unset, .unset, .unset, .unset, .unset, .unset, .unset] [(.int n389)]
    refine w_istore ok at_47 (L' := #[.val (.int ln), .val (.int nbs), .val (.int sbs), .val (.int how), .val (.int (2 : Int32)), .val (.int (2 : Int32)), .val (.int n383), .val (.int n386), .val (.int n389), .unset, .unset, .unset, .unset, .unset, .unset]) rfl ?_
    show W K l _ n0 _ h0 0 0 49 #[.val (.int ln), .val (.int nbs), .val (.int sbs), .val (.int how), .val (.int (2 : Int32)), .val (.int (2 : Int32)), .val (.int n383), .val (.int n386), .val (.int n389), .unset, .unset, .unset, .unset, .unset, .unset] []
    refine w_iloadN ok at_49 rfl ?_
    show W K l _ n0 _ h0 0 0 50 #[.val (.int ln), .val (.int nbs), .val (.int sbs), .val (.int how), .val (.int (2 : Int32)), .val (.int (2 : Int32)), .val (.int n383), .val (.int n386), .val (.int n389), .unset, .unset, .unset, .unset, .unset, .unset] [(.int how)]
    refine w_iloadN ok at_50 rfl ?_
    show W K l _ n0 _ h0 0 0 51 #[.val (.int ln), .val (.int nbs), .val (.int sbs), .val (.int how), .val (.int (2 : Int32)), .val (.int (2 : Int32)), .val (.int n383), .val (.int n386), .val (.int n389), .unset, .unset, .unset, .unset, .unset, .unset] [(.int sbs), (.int how)]
    refine w_iload ok at_51 rfl ?_
    show W K l _ n0 _ h0 0 0 53 #[.val (.int ln), .val (.int nbs), .val (.int sbs), .val (.int how), .val (.int (2 : Int32)), .val (.int (2 : Int32)), .val (.int n383), .val (.int n386), .val (.int n389), .unset, .unset, .unset, .unset, .unset, .unset] [(.int n383), (.int sbs), (.int how)]
    refine w_iload ok at_53 rfl ?_
    show W K l _ n0 _ h0 0 0 55 #[.val (.int ln), .val (.int nbs), .val (.int sbs), .val (.int how), .val (.int (2 : Int32)), .val (.int (2 : Int32)), .val (.int n383), .val (.int n386), .val (.int n389), .unset, .unset, .unset, .unset, .unset, .unset] [(.int (2 : Int32)), (.int n383), (.int sbs), (.int how)]
    refine w_if_le ok at_55 (pc' := 62) (by decide) (fun hc391 => False.elim (by revert hc391; decide)) (fun hc391 => ?_)
    show W K l _ n0 _ h0 0 0 58 #[.val (.int ln), .val (.int nbs), .val (.int sbs), .val (.int how), .val (.int (2 : Int32)), .val (.int (2 : Int32)), .val (.int n383), .val (.int n386), .val (.int n389), .unset, .unset, .unset, .unset, .unset, .unset] [(.int n383), (.int sbs), (.int how)]
    refine w_iconst ok at_58 (v := (1 : Int32)) rfl ?_
    show W K l _ n0 _ h0 0 0 59 #[.val (.int ln), .val (.int nbs), .val (.int sbs), .val (.int how), .val (.int (2 : Int32)), .val (.int (2 : Int32)), .val (.int n383), .val (.int n386), .val (.int n389), .unset, .unset, .unset, .unset, .unset, .unset] [(.int (1 : Int32)), (.int n383), (.int sbs), (.int how)]
    refine w_goto ok at_59 (pc' := 63) (by decide) ?_
    show W K l _ n0 _ h0 0 0 63 #[.val (.int ln), .val (.int nbs), .val (.int sbs), .val (.int how), .val (.int (2 : Int32)), .val (.int (2 : Int32)), .val (.int n383), .val (.int n386), .val (.int n389), .unset, .unset, .unset, .unset, .unset, .unset] [(.int (1 : Int32)), (.int n383), (.int sbs), (.int how)]
    refine w_callS ok (y := (⟨"com/example/turnstile/turnstile/server/CommandsIsPinLaw", "sentByte", "(IIBZ)B"⟩ : MethodName)) (argsL := [(.int how), (.int sbs), (.int n383), (.int (1 : Int32))]) (rest := []) at_63 (hw _ (List.mem_of_getElem? (i := 4) rfl)) (hw _ (List.mem_of_getElem? (i := 5) rfl)) (hw _ (List.mem_of_getElem? (i := 2) rfl)) (hw _ (List.mem_of_getElem? (i := 6) rfl)) (by decide) pd_28IIBZ29B rfl rfl (by decide) (Nat.le_of_ble_eq_true rfl) (by decide) (by decide) (fun z0 => rm_sb l Z a0 hw [] n0 h0 z0 how sbs n383 (1 : Int32)) (fun v392 h393 qv392 => ?_)
    obtain ⟨s394, rfl, h1_s394, rfl⟩ := qv392
    show W K l _ n0 _ h0 0 0 66 #[.val (.int ln), .val (.int nbs), .val (.int sbs), .val (.int how), .val (.int (2 : Int32)), .val (.int (2 : Int32)), .val (.int n383), .val (.int n386), .val (.int n389), .unset, .unset, .unset, .unset, .unset, .unset] [(.int s394)]
    refine w_istore ok at_66 (L' := #[.val (.int ln), .val (.int nbs), .val (.int sbs), .val (.int how), .val (.int (2 : Int32)), .val (.int (2 : Int32)), .val (.int n383), .val (.int n386), .val (.int n389), .val (.int s394), .unset, .unset, .unset, .unset, .unset]) rfl ?_
    show W K l _ n0 _ h0 0 0 68 #[.val (.int ln), .val (.int nbs), .val (.int sbs), .val (.int how), .val (.int (2 : Int32)), .val (.int (2 : Int32)), .val (.int n383), .val (.int n386), .val (.int n389), .val (.int s394), .unset, .unset, .unset, .unset, .unset] []
    refine w_iloadN ok at_68 rfl ?_
    show W K l _ n0 _ h0 0 0 69 #[.val (.int ln), .val (.int nbs), .val (.int sbs), .val (.int how), .val (.int (2 : Int32)), .val (.int (2 : Int32)), .val (.int n383), .val (.int n386), .val (.int n389), .val (.int s394), .unset, .unset, .unset, .unset, .unset] [(.int how)]
    refine w_iconst ok at_69 (v := (2 : Int32)) rfl ?_
    show W K l _ n0 _ h0 0 0 70 #[.val (.int ln), .val (.int nbs), .val (.int sbs), .val (.int how), .val (.int (2 : Int32)), .val (.int (2 : Int32)), .val (.int n383), .val (.int n386), .val (.int n389), .val (.int s394), .unset, .unset, .unset, .unset, .unset] [(.int (2 : Int32)), (.int how)]
    refine w_ishr ok at_70 ?_
    show W K l _ n0 _ h0 0 0 71 #[.val (.int ln), .val (.int nbs), .val (.int sbs), .val (.int how), .val (.int (2 : Int32)), .val (.int (2 : Int32)), .val (.int n383), .val (.int n386), .val (.int n389), .val (.int s394), .unset, .unset, .unset, .unset, .unset] [(.int (how >>> ((2 : Int32) &&& 31)))]
    refine w_iloadN ok at_71 rfl ?_
    show W K l _ n0 _ h0 0 0 72 #[.val (.int ln), .val (.int nbs), .val (.int sbs), .val (.int how), .val (.int (2 : Int32)), .val (.int (2 : Int32)), .val (.int n383), .val (.int n386), .val (.int n389), .val (.int s394), .unset, .unset, .unset, .unset, .unset] [(.int sbs), (.int (how >>> ((2 : Int32) &&& 31)))]
    refine w_bipush ok at_72 (v := (8 : Int32)) rfl ?_
    show W K l _ n0 _ h0 0 0 74 #[.val (.int ln), .val (.int nbs), .val (.int sbs), .val (.int how), .val (.int (2 : Int32)), .val (.int (2 : Int32)), .val (.int n383), .val (.int n386), .val (.int n389), .val (.int s394), .unset, .unset, .unset, .unset, .unset] [(.int (8 : Int32)), (.int sbs), (.int (how >>> ((2 : Int32) &&& 31)))]
    refine w_ishr ok at_74 ?_
    show W K l _ n0 _ h0 0 0 75 #[.val (.int ln), .val (.int nbs), .val (.int sbs), .val (.int how), .val (.int (2 : Int32)), .val (.int (2 : Int32)), .val (.int n383), .val (.int n386), .val (.int n389), .val (.int s394), .unset, .unset, .unset, .unset, .unset] [(.int (sbs >>> ((8 : Int32) &&& 31))), (.int (how >>> ((2 : Int32) &&& 31)))]
    refine w_iload ok at_75 rfl ?_
    show W K l _ n0 _ h0 0 0 77 #[.val (.int ln), .val (.int nbs), .val (.int sbs), .val (.int how), .val (.int (2 : Int32)), .val (.int (2 : Int32)), .val (.int n383), .val (.int n386), .val (.int n389), .val (.int s394), .unset, .unset, .unset, .unset, .unset] [(.int n386), (.int (sbs >>> ((8 : Int32) &&& 31))), (.int (how >>> ((2 : Int32) &&& 31)))]
    refine w_iload ok at_77 rfl ?_
    show W K l _ n0 _ h0 0 0 79 #[.val (.int ln), .val (.int nbs), .val (.int sbs), .val (.int how), .val (.int (2 : Int32)), .val (.int (2 : Int32)), .val (.int n383), .val (.int n386), .val (.int n389), .val (.int s394), .unset, .unset, .unset, .unset, .unset] [(.int (2 : Int32)), (.int n386), (.int (sbs >>> ((8 : Int32) &&& 31))), (.int (how >>> ((2 : Int32) &&& 31)))]
    refine w_iconst ok at_79 (v := (1 : Int32)) rfl ?_
    show W K l _ n0 _ h0 0 0 80 #[.val (.int ln), .val (.int nbs), .val (.int sbs), .val (.int how), .val (.int (2 : Int32)), .val (.int (2 : Int32)), .val (.int n383), .val (.int n386), .val (.int n389), .val (.int s394), .unset, .unset, .unset, .unset, .unset] [(.int (1 : Int32)), (.int (2 : Int32)), (.int n386), (.int (sbs >>> ((8 : Int32) &&& 31))), (.int (how >>> ((2 : Int32) &&& 31)))]
    refine w_icmp_le ok at_80 (pc' := 87) (by decide) (fun hc396 => False.elim (by revert hc396; decide)) (fun hc396 => ?_)
    show W K l _ n0 _ h0 0 0 83 #[.val (.int ln), .val (.int nbs), .val (.int sbs), .val (.int how), .val (.int (2 : Int32)), .val (.int (2 : Int32)), .val (.int n383), .val (.int n386), .val (.int n389), .val (.int s394), .unset, .unset, .unset, .unset, .unset] [(.int n386), (.int (sbs >>> ((8 : Int32) &&& 31))), (.int (how >>> ((2 : Int32) &&& 31)))]
    refine w_iconst ok at_83 (v := (1 : Int32)) rfl ?_
    show W K l _ n0 _ h0 0 0 84 #[.val (.int ln), .val (.int nbs), .val (.int sbs), .val (.int how), .val (.int (2 : Int32)), .val (.int (2 : Int32)), .val (.int n383), .val (.int n386), .val (.int n389), .val (.int s394), .unset, .unset, .unset, .unset, .unset] [(.int (1 : Int32)), (.int n386), (.int (sbs >>> ((8 : Int32) &&& 31))), (.int (how >>> ((2 : Int32) &&& 31)))]
    refine w_goto ok at_84 (pc' := 88) (by decide) ?_
    show W K l _ n0 _ h0 0 0 88 #[.val (.int ln), .val (.int nbs), .val (.int sbs), .val (.int how), .val (.int (2 : Int32)), .val (.int (2 : Int32)), .val (.int n383), .val (.int n386), .val (.int n389), .val (.int s394), .unset, .unset, .unset, .unset, .unset] [(.int (1 : Int32)), (.int n386), (.int (sbs >>> ((8 : Int32) &&& 31))), (.int (how >>> ((2 : Int32) &&& 31)))]
    refine w_callS ok (y := (⟨"com/example/turnstile/turnstile/server/CommandsIsPinLaw", "sentByte", "(IIBZ)B"⟩ : MethodName)) (argsL := [(.int (how >>> ((2 : Int32) &&& 31))), (.int (sbs >>> ((8 : Int32) &&& 31))), (.int n386), (.int (1 : Int32))]) (rest := []) at_88 (hw _ (List.mem_of_getElem? (i := 4) rfl)) (hw _ (List.mem_of_getElem? (i := 5) rfl)) (hw _ (List.mem_of_getElem? (i := 2) rfl)) (hw _ (List.mem_of_getElem? (i := 6) rfl)) (by decide) pd_28IIBZ29B rfl rfl (by decide) (Nat.le_of_ble_eq_true rfl) (by decide) (by decide) (fun z0 => rm_sb l Z a0 hw [] n0 h0 z0 (how >>> ((2 : Int32) &&& 31)) (sbs >>> ((8 : Int32) &&& 31)) n386 (1 : Int32)) (fun v397 h398 qv397 => ?_)
    obtain ⟨s399, rfl, h1_s399, rfl⟩ := qv397
    show W K l _ n0 _ h0 0 0 91 #[.val (.int ln), .val (.int nbs), .val (.int sbs), .val (.int how), .val (.int (2 : Int32)), .val (.int (2 : Int32)), .val (.int n383), .val (.int n386), .val (.int n389), .val (.int s394), .unset, .unset, .unset, .unset, .unset] [(.int s399)]
    refine w_istore ok at_91 (L' := #[.val (.int ln), .val (.int nbs), .val (.int sbs), .val (.int how), .val (.int (2 : Int32)), .val (.int (2 : Int32)), .val (.int n383), .val (.int n386), .val (.int n389), .val (.int s394), .val (.int s399), .unset, .unset, .unset, .unset]) rfl ?_
    show W K l _ n0 _ h0 0 0 93 #[.val (.int ln), .val (.int nbs), .val (.int sbs), .val (.int how), .val (.int (2 : Int32)), .val (.int (2 : Int32)), .val (.int n383), .val (.int n386), .val (.int n389), .val (.int s394), .val (.int s399), .unset, .unset, .unset, .unset] []
    refine w_iloadN ok at_93 rfl ?_
    show W K l _ n0 _ h0 0 0 94 #[.val (.int ln), .val (.int nbs), .val (.int sbs), .val (.int how), .val (.int (2 : Int32)), .val (.int (2 : Int32)), .val (.int n383), .val (.int n386), .val (.int n389), .val (.int s394), .val (.int s399), .unset, .unset, .unset, .unset] [(.int how)]
    refine w_iconst ok at_94 (v := (4 : Int32)) rfl ?_
    show W K l _ n0 _ h0 0 0 95 #[.val (.int ln), .val (.int nbs), .val (.int sbs), .val (.int how), .val (.int (2 : Int32)), .val (.int (2 : Int32)), .val (.int n383), .val (.int n386), .val (.int n389), .val (.int s394), .val (.int s399), .unset, .unset, .unset, .unset] [(.int (4 : Int32)), (.int how)]
    refine w_ishr ok at_95 ?_
    show W K l _ n0 _ h0 0 0 96 #[.val (.int ln), .val (.int nbs), .val (.int sbs), .val (.int how), .val (.int (2 : Int32)), .val (.int (2 : Int32)), .val (.int n383), .val (.int n386), .val (.int n389), .val (.int s394), .val (.int s399), .unset, .unset, .unset, .unset] [(.int (how >>> ((4 : Int32) &&& 31)))]
    refine w_iloadN ok at_96 rfl ?_
    show W K l _ n0 _ h0 0 0 97 #[.val (.int ln), .val (.int nbs), .val (.int sbs), .val (.int how), .val (.int (2 : Int32)), .val (.int (2 : Int32)), .val (.int n383), .val (.int n386), .val (.int n389), .val (.int s394), .val (.int s399), .unset, .unset, .unset, .unset] [(.int sbs), (.int (how >>> ((4 : Int32) &&& 31)))]
    refine w_bipush ok at_97 (v := (16 : Int32)) rfl ?_
    show W K l _ n0 _ h0 0 0 99 #[.val (.int ln), .val (.int nbs), .val (.int sbs), .val (.int how), .val (.int (2 : Int32)), .val (.int (2 : Int32)), .val (.int n383), .val (.int n386), .val (.int n389), .val (.int s394), .val (.int s399), .unset, .unset, .unset, .unset] [(.int (16 : Int32)), (.int sbs), (.int (how >>> ((4 : Int32) &&& 31)))]
    refine w_ishr ok at_99 ?_
    show W K l _ n0 _ h0 0 0 100 #[.val (.int ln), .val (.int nbs), .val (.int sbs), .val (.int how), .val (.int (2 : Int32)), .val (.int (2 : Int32)), .val (.int n383), .val (.int n386), .val (.int n389), .val (.int s394), .val (.int s399), .unset, .unset, .unset, .unset] [(.int (sbs >>> ((16 : Int32) &&& 31))), (.int (how >>> ((4 : Int32) &&& 31)))]
    refine w_iload ok at_100 rfl ?_
    show W K l _ n0 _ h0 0 0 102 #[.val (.int ln), .val (.int nbs), .val (.int sbs), .val (.int how), .val (.int (2 : Int32)), .val (.int (2 : Int32)), .val (.int n383), .val (.int n386), .val (.int n389), .val (.int s394), .val (.int s399), .unset, .unset, .unset, .unset] [(.int n389), (.int (sbs >>> ((16 : Int32) &&& 31))), (.int (how >>> ((4 : Int32) &&& 31)))]
    refine w_iload ok at_102 rfl ?_
    show W K l _ n0 _ h0 0 0 104 #[.val (.int ln), .val (.int nbs), .val (.int sbs), .val (.int how), .val (.int (2 : Int32)), .val (.int (2 : Int32)), .val (.int n383), .val (.int n386), .val (.int n389), .val (.int s394), .val (.int s399), .unset, .unset, .unset, .unset] [(.int (2 : Int32)), (.int n389), (.int (sbs >>> ((16 : Int32) &&& 31))), (.int (how >>> ((4 : Int32) &&& 31)))]
    refine w_iconst ok at_104 (v := (2 : Int32)) rfl ?_
    show W K l _ n0 _ h0 0 0 105 #[.val (.int ln), .val (.int nbs), .val (.int sbs), .val (.int how), .val (.int (2 : Int32)), .val (.int (2 : Int32)), .val (.int n383), .val (.int n386), .val (.int n389), .val (.int s394), .val (.int s399), .unset, .unset, .unset, .unset] [(.int (2 : Int32)), (.int (2 : Int32)), (.int n389), (.int (sbs >>> ((16 : Int32) &&& 31))), (.int (how >>> ((4 : Int32) &&& 31)))]
    refine w_icmp_le ok at_105 (pc' := 112) (by decide) (fun hc401 => ?_) (fun hc401 => False.elim (by revert hc401; decide))
    show W K l _ n0 _ h0 0 0 112 #[.val (.int ln), .val (.int nbs), .val (.int sbs), .val (.int how), .val (.int (2 : Int32)), .val (.int (2 : Int32)), .val (.int n383), .val (.int n386), .val (.int n389), .val (.int s394), .val (.int s399), .unset, .unset, .unset, .unset] [(.int n389), (.int (sbs >>> ((16 : Int32) &&& 31))), (.int (how >>> ((4 : Int32) &&& 31)))]
    refine w_iconst ok at_112 (v := (0 : Int32)) rfl ?_
    show W K l _ n0 _ h0 0 0 113 #[.val (.int ln), .val (.int nbs), .val (.int sbs), .val (.int how), .val (.int (2 : Int32)), .val (.int (2 : Int32)), .val (.int n383), .val (.int n386), .val (.int n389), .val (.int s394), .val (.int s399), .unset, .unset, .unset, .unset] [(.int (0 : Int32)), (.int n389), (.int (sbs >>> ((16 : Int32) &&& 31))), (.int (how >>> ((4 : Int32) &&& 31)))]
    refine w_callS ok (y := (⟨"com/example/turnstile/turnstile/server/CommandsIsPinLaw", "sentByte", "(IIBZ)B"⟩ : MethodName)) (argsL := [(.int (how >>> ((4 : Int32) &&& 31))), (.int (sbs >>> ((16 : Int32) &&& 31))), (.int n389), (.int (0 : Int32))]) (rest := []) at_113 (hw _ (List.mem_of_getElem? (i := 4) rfl)) (hw _ (List.mem_of_getElem? (i := 5) rfl)) (hw _ (List.mem_of_getElem? (i := 2) rfl)) (hw _ (List.mem_of_getElem? (i := 6) rfl)) (by decide) pd_28IIBZ29B rfl rfl (by decide) (Nat.le_of_ble_eq_true rfl) (by decide) (by decide) (fun z0 => rm_sb l Z a0 hw [] n0 h0 z0 (how >>> ((4 : Int32) &&& 31)) (sbs >>> ((16 : Int32) &&& 31)) n389 (0 : Int32)) (fun v402 h403 qv402 => ?_)
    obtain ⟨s404, rfl, h1_s404, rfl⟩ := qv402
    show W K l _ n0 _ h0 0 0 116 #[.val (.int ln), .val (.int nbs), .val (.int sbs), .val (.int how), .val (.int (2 : Int32)), .val (.int (2 : Int32)), .val (.int n383), .val (.int n386), .val (.int n389), .val (.int s394), .val (.int s399), .unset, .unset, .unset, .unset] [(.int s404)]
    refine w_istore ok at_116 (L' := #[.val (.int ln), .val (.int nbs), .val (.int sbs), .val (.int how), .val (.int (2 : Int32)), .val (.int (2 : Int32)), .val (.int n383), .val (.int n386), .val (.int n389), .val (.int s394), .val (.int s399), .val (.int s404), .unset, .unset, .unset]) rfl ?_
    show W K l _ n0 _ h0 0 0 118 #[.val (.int ln), .val (.int nbs), .val (.int sbs), .val (.int how), .val (.int (2 : Int32)), .val (.int (2 : Int32)), .val (.int n383), .val (.int n386), .val (.int n389), .val (.int s394), .val (.int s399), .val (.int s404), .unset, .unset, .unset] []
    refine w_iload ok at_118 rfl ?_
    show W K l _ n0 _ h0 0 0 120 #[.val (.int ln), .val (.int nbs), .val (.int sbs), .val (.int how), .val (.int (2 : Int32)), .val (.int (2 : Int32)), .val (.int n383), .val (.int n386), .val (.int n389), .val (.int s394), .val (.int s399), .val (.int s404), .unset, .unset, .unset] [(.int (2 : Int32))]
    refine w_iload ok at_120 rfl ?_
    show W K l _ n0 _ h0 0 0 122 #[.val (.int ln), .val (.int nbs), .val (.int sbs), .val (.int how), .val (.int (2 : Int32)), .val (.int (2 : Int32)), .val (.int n383), .val (.int n386), .val (.int n389), .val (.int s394), .val (.int s399), .val (.int s404), .unset, .unset, .unset] [(.int s394), (.int (2 : Int32))]
    refine w_iload ok at_122 rfl ?_
    show W K l _ n0 _ h0 0 0 124 #[.val (.int ln), .val (.int nbs), .val (.int sbs), .val (.int how), .val (.int (2 : Int32)), .val (.int (2 : Int32)), .val (.int n383), .val (.int n386), .val (.int n389), .val (.int s394), .val (.int s399), .val (.int s404), .unset, .unset, .unset] [(.int s399), (.int s394), (.int (2 : Int32))]
    refine w_iload ok at_124 rfl ?_
    show W K l _ n0 _ h0 0 0 126 #[.val (.int ln), .val (.int nbs), .val (.int sbs), .val (.int how), .val (.int (2 : Int32)), .val (.int (2 : Int32)), .val (.int n383), .val (.int n386), .val (.int n389), .val (.int s394), .val (.int s399), .val (.int s404), .unset, .unset, .unset] [(.int s404), (.int s399), (.int s394), (.int (2 : Int32))]
    refine w_callS ok (y := (⟨"com/example/turnstile/turnstile/server/CommandsIsPinLaw", "make", "(IBBB)[B"⟩ : MethodName)) (argsL := [(.int (2 : Int32)), (.int s394), (.int s399), (.int s404)]) (rest := []) at_126 (hw _ (List.mem_of_getElem? (i := 7) rfl)) (hw _ (List.mem_of_getElem? (i := 8) rfl)) (hw _ (List.mem_of_getElem? (i := 2) rfl)) (hw _ (List.mem_of_getElem? (i := 9) rfl)) (by decide) pd_28IBBB295bB rfl rfl (by decide) (Nat.le_of_ble_eq_true rfl) (by decide) (by decide) (fun z0 => rm_mk2 l Z a0 hw [] n0 h0 z0 s394 s399 s404) (fun v405 h406 qv405 => ?_)
    obtain ⟨r407, rfl, sz_r407, ge_r407, K1, A_r407⟩ := qv405
    show W K l _ n0 _ h406 1 2 129 #[.val (.int ln), .val (.int nbs), .val (.int sbs), .val (.int how), .val (.int (2 : Int32)), .val (.int (2 : Int32)), .val (.int n383), .val (.int n386), .val (.int n389), .val (.int s394), .val (.int s399), .val (.int s404), .unset, .unset, .unset] [(.ref r407)]
    refine w_astore ok at_129 rfl (L' := #[.val (.int ln), .val (.int nbs), .val (.int sbs), .val (.int how), .val (.int (2 : Int32)), .val (.int (2 : Int32)), .val (.int n383), .val (.int n386), .val (.int n389), .val (.int s394), .val (.int s399), .val (.int s404), .val (.ref r407), .unset, .unset]) rfl ?_
    show W K l _ n0 _ h406 1 2 131 #[.val (.int ln), .val (.int nbs), .val (.int sbs), .val (.int how), .val (.int (2 : Int32)), .val (.int (2 : Int32)), .val (.int n383), .val (.int n386), .val (.int n389), .val (.int s394), .val (.int s399), .val (.int s404), .val (.ref r407), .unset, .unset] []
    refine w_iload ok at_131 rfl ?_
    show W K l _ n0 _ h406 1 2 133 #[.val (.int ln), .val (.int nbs), .val (.int sbs), .val (.int how), .val (.int (2 : Int32)), .val (.int (2 : Int32)), .val (.int n383), .val (.int n386), .val (.int n389), .val (.int s394), .val (.int s399), .val (.int s404), .val (.ref r407), .unset, .unset] [(.int (2 : Int32))]
    refine w_iload ok at_133 rfl ?_
    show W K l _ n0 _ h406 1 2 135 #[.val (.int ln), .val (.int nbs), .val (.int sbs), .val (.int how), .val (.int (2 : Int32)), .val (.int (2 : Int32)), .val (.int n383), .val (.int n386), .val (.int n389), .val (.int s394), .val (.int s399), .val (.int s404), .val (.ref r407), .unset, .unset] [(.int n383), (.int (2 : Int32))]
    refine w_iload ok at_135 rfl ?_
    show W K l _ n0 _ h406 1 2 137 #[.val (.int ln), .val (.int nbs), .val (.int sbs), .val (.int how), .val (.int (2 : Int32)), .val (.int (2 : Int32)), .val (.int n383), .val (.int n386), .val (.int n389), .val (.int s394), .val (.int s399), .val (.int s404), .val (.ref r407), .unset, .unset] [(.int n386), (.int n383), (.int (2 : Int32))]
    refine w_iload ok at_137 rfl ?_
    show W K l _ n0 _ h406 1 2 139 #[.val (.int ln), .val (.int nbs), .val (.int sbs), .val (.int how), .val (.int (2 : Int32)), .val (.int (2 : Int32)), .val (.int n383), .val (.int n386), .val (.int n389), .val (.int s394), .val (.int s399), .val (.int s404), .val (.ref r407), .unset, .unset] [(.int n389), (.int n386), (.int n383), (.int (2 : Int32))]
    refine w_callS ok (y := (⟨"com/example/turnstile/turnstile/server/CommandsIsPinLaw", "make", "(IBBB)[B"⟩ : MethodName)) (argsL := [(.int (2 : Int32)), (.int n383), (.int n386), (.int n389)]) (rest := []) at_139 (hw _ (List.mem_of_getElem? (i := 7) rfl)) (hw _ (List.mem_of_getElem? (i := 8) rfl)) (hw _ (List.mem_of_getElem? (i := 2) rfl)) (hw _ (List.mem_of_getElem? (i := 9) rfl)) (by decide) pd_28IBBB295bB rfl rfl (by decide) (Nat.le_of_ble_eq_true rfl) (by decide) (by decide) (fun z0 => rm_mk2 l Z a0 hw [] n0 h406 z0 n383 n386 n389) (fun v408 h409 qv408 => ?_)
    obtain ⟨r410, rfl, sz_r410, ge_r410, K1, A_r410⟩ := qv408
    have ne_r407_r410 : r407 ≠ r410 := Nat.ne_of_lt (Nat.lt_of_lt_of_le A_r407.lt sz_r410)
    replace A_r407 := A_r407.keep K1 nin0
    show W K l _ n0 _ h409 2 4 142 #[.val (.int ln), .val (.int nbs), .val (.int sbs), .val (.int how), .val (.int (2 : Int32)), .val (.int (2 : Int32)), .val (.int n383), .val (.int n386), .val (.int n389), .val (.int s394), .val (.int s399), .val (.int s404), .val (.ref r407), .unset, .unset] [(.ref r410)]
    refine w_astore ok at_142 rfl (L' := #[.val (.int ln), .val (.int nbs), .val (.int sbs), .val (.int how), .val (.int (2 : Int32)), .val (.int (2 : Int32)), .val (.int n383), .val (.int n386), .val (.int n389), .val (.int s394), .val (.int s399), .val (.int s404), .val (.ref r407), .val (.ref r410), .unset]) rfl ?_
    show W K l _ n0 _ h409 2 4 144 #[.val (.int ln), .val (.int nbs), .val (.int sbs), .val (.int how), .val (.int (2 : Int32)), .val (.int (2 : Int32)), .val (.int n383), .val (.int n386), .val (.int n389), .val (.int s394), .val (.int s399), .val (.int s404), .val (.ref r407), .val (.ref r410), .unset] []
    refine w_iload ok at_144 rfl ?_
    show W K l _ n0 _ h409 2 4 146 #[.val (.int ln), .val (.int nbs), .val (.int sbs), .val (.int how), .val (.int (2 : Int32)), .val (.int (2 : Int32)), .val (.int n383), .val (.int n386), .val (.int n389), .val (.int s394), .val (.int s399), .val (.int s404), .val (.ref r407), .val (.ref r410), .unset] [(.int (2 : Int32))]
    refine w_iload ok at_146 rfl ?_
    show W K l _ n0 _ h409 2 4 148 #[.val (.int ln), .val (.int nbs), .val (.int sbs), .val (.int how), .val (.int (2 : Int32)), .val (.int (2 : Int32)), .val (.int n383), .val (.int n386), .val (.int n389), .val (.int s394), .val (.int s399), .val (.int s404), .val (.ref r407), .val (.ref r410), .unset] [(.int (2 : Int32)), (.int (2 : Int32))]
    refine w_icmp_ne ok at_148 (pc' := 203) (by decide) (fun hc412 => False.elim (by revert hc412; decide)) (fun hc412 => ?_)
    show W K l _ n0 _ h409 2 4 151 #[.val (.int ln), .val (.int nbs), .val (.int sbs), .val (.int how), .val (.int (2 : Int32)), .val (.int (2 : Int32)), .val (.int n383), .val (.int n386), .val (.int n389), .val (.int s394), .val (.int s399), .val (.int s404), .val (.ref r407), .val (.ref r410), .unset] []
    refine w_iload ok at_151 rfl ?_
    show W K l _ n0 _ h409 2 4 153 #[.val (.int ln), .val (.int nbs), .val (.int sbs), .val (.int how), .val (.int (2 : Int32)), .val (.int (2 : Int32)), .val (.int n383), .val (.int n386), .val (.int n389), .val (.int s394), .val (.int s399), .val (.int s404), .val (.ref r407), .val (.ref r410), .unset] [(.int (2 : Int32))]
    refine w_iconst ok at_153 (v := (1 : Int32)) rfl ?_
    show W K l _ n0 _ h409 2 4 154 #[.val (.int ln), .val (.int nbs), .val (.int sbs), .val (.int how), .val (.int (2 : Int32)), .val (.int (2 : Int32)), .val (.int n383), .val (.int n386), .val (.int n389), .val (.int s394), .val (.int s399), .val (.int s404), .val (.ref r407), .val (.ref r410), .unset] [(.int (1 : Int32)), (.int (2 : Int32))]
    refine w_icmp_lt ok at_154 (pc' := 167) (by decide) (fun hc414 => False.elim (by revert hc414; decide)) (fun hc414 => ?_)
    show W K l _ n0 _ h409 2 4 157 #[.val (.int ln), .val (.int nbs), .val (.int sbs), .val (.int how), .val (.int (2 : Int32)), .val (.int (2 : Int32)), .val (.int n383), .val (.int n386), .val (.int n389), .val (.int s394), .val (.int s399), .val (.int s404), .val (.ref r407), .val (.ref r410), .unset] []
    refine w_iload ok at_157 rfl ?_
    show W K l _ n0 _ h409 2 4 159 #[.val (.int ln), .val (.int nbs), .val (.int sbs), .val (.int how), .val (.int (2 : Int32)), .val (.int (2 : Int32)), .val (.int n383), .val (.int n386), .val (.int n389), .val (.int s394), .val (.int s399), .val (.int s404), .val (.ref r407), .val (.ref r410), .unset] [(.int s394)]
    refine w_iload ok at_159 rfl ?_
    show W K l _ n0 _ h409 2 4 161 #[.val (.int ln), .val (.int nbs), .val (.int sbs), .val (.int how), .val (.int (2 : Int32)), .val (.int (2 : Int32)), .val (.int n383), .val (.int n386), .val (.int n389), .val (.int s394), .val (.int s399), .val (.int s404), .val (.ref r407), .val (.ref r410), .unset] [(.int n383), (.int s394)]
    refine w_callS ok (y := (⟨"com/example/turnstile/turnstile/server/CommandsIsPinLaw", "ok", "(BB)Z"⟩ : MethodName)) (argsL := [(.int s394), (.int n383)]) (rest := []) at_161 (hw _ (List.mem_of_getElem? (i := 15) rfl)) (hw _ (List.mem_of_getElem? (i := 16) rfl)) (hw _ (List.mem_of_getElem? (i := 2) rfl)) (hw _ (List.mem_of_getElem? (i := 17) rfl)) (by decide) pd_28BB29Z rfl rfl (by decide) (Nat.le_of_ble_eq_true rfl) (by decide) (by decide) (fun z0 => rm_ok l Z a0 hw [] n0 h409 z0 s394 n383 h1_n383) (fun v415 h416 qv415 => ?_)
    obtain ⟨rfl, rfl⟩ := qv415
    show W K l _ n0 _ h409 2 4 164 #[.val (.int ln), .val (.int nbs), .val (.int sbs), .val (.int how), .val (.int (2 : Int32)), .val (.int (2 : Int32)), .val (.int n383), .val (.int n386), .val (.int n389), .val (.int s394), .val (.int s399), .val (.int s404), .val (.ref r407), .val (.ref r410), .unset] [(.int (own_ok s394 n383))]
    refine w_if_eq ok at_164 (pc' := 203) (by decide) (fun hc418 => ?_) (fun hc418 => ?_)
    · show W K l _ n0 _ h409 2 4 203 #[.val (.int ln), .val (.int nbs), .val (.int sbs), .val (.int how), .val (.int (2 : Int32)), .val (.int (2 : Int32)), .val (.int n383), .val (.int n386), .val (.int n389), .val (.int s394), .val (.int s399), .val (.int s404), .val (.ref r407), .val (.ref r410), .unset] []
      refine w_iconst ok at_203 (v := (0 : Int32)) rfl ?_
      show W K l _ n0 _ h409 2 4 204 #[.val (.int ln), .val (.int nbs), .val (.int sbs), .val (.int how), .val (.int (2 : Int32)), .val (.int (2 : Int32)), .val (.int n383), .val (.int n386), .val (.int n389), .val (.int s394), .val (.int s399), .val (.int s404), .val (.ref r407), .val (.ref r410), .unset] [(.int (0 : Int32))]
      refine w_istore ok at_204 (L' := #[.val (.int ln), .val (.int nbs), .val (.int sbs), .val (.int how), .val (.int (2 : Int32)), .val (.int (2 : Int32)), .val (.int n383), .val (.int n386), .val (.int n389), .val (.int s394), .val (.int s399), .val (.int s404), .val (.ref r407), .val (.ref r410), .val (.int (0 : Int32))]) rfl ?_
      show W K l _ n0 _ h409 2 4 206 #[.val (.int ln), .val (.int nbs), .val (.int sbs), .val (.int how), .val (.int (2 : Int32)), .val (.int (2 : Int32)), .val (.int n383), .val (.int n386), .val (.int n389), .val (.int s394), .val (.int s399), .val (.int s404), .val (.ref r407), .val (.ref r410), .val (.int (0 : Int32))] []
      refine w_aload ok at_206 rfl rfl ?_
      show W K l _ n0 _ h409 2 4 208 #[.val (.int ln), .val (.int nbs), .val (.int sbs), .val (.int how), .val (.int (2 : Int32)), .val (.int (2 : Int32)), .val (.int n383), .val (.int n386), .val (.int n389), .val (.int s394), .val (.int s399), .val (.int s404), .val (.ref r407), .val (.ref r410), .val (.int (0 : Int32))] [(.ref r407)]
      refine w_aload ok at_208 rfl rfl ?_
      show W K l _ n0 _ h409 2 4 210 #[.val (.int ln), .val (.int nbs), .val (.int sbs), .val (.int how), .val (.int (2 : Int32)), .val (.int (2 : Int32)), .val (.int n383), .val (.int n386), .val (.int n389), .val (.int s394), .val (.int s399), .val (.int s404), .val (.ref r407), .val (.ref r410), .val (.int (0 : Int32))] [(.ref r410), (.ref r407)]
      refine w_callS ok (y := (⟨"com/example/turnstile/turnstile/server/Commands", "is", "([B[B)Z"⟩ : MethodName)) (argsL := [(.ref r407), (.ref r410)]) (rest := []) at_210 (hw _ (List.mem_of_getElem? (i := 11) rfl)) (hw _ (List.mem_of_getElem? (i := 12) rfl)) (hw _ (List.mem_of_getElem? (i := 13) rfl)) (hw _ (List.mem_of_getElem? (i := 14) rfl)) (by decide) pd_285bB5bB29Z rfl rfl (by decide) (Nat.le_of_ble_eq_true rfl) (by decide) (by decide) (fun z0 => rm_is l Z a0 hw [] n0 h409 z0 r407 r410 [nar .byte s394, nar .byte s399] [nar .byte n383, nar .byte n386] A_r407 A_r410) (fun v419 h420 qv419 => ?_)
      obtain ⟨rfl, rfl⟩ := qv419
      show W K l _ n0 _ h409 2 4 213 #[.val (.int ln), .val (.int nbs), .val (.int sbs), .val (.int how), .val (.int (2 : Int32)), .val (.int (2 : Int32)), .val (.int n383), .val (.int n386), .val (.int n389), .val (.int s394), .val (.int s399), .val (.int s404), .val (.ref r407), .val (.ref r410), .val (.int (0 : Int32))] [(.int (nar .boolean (own_isl [nar .byte s394, nar .byte s399] [nar .byte n383, nar .byte n386])))]
      refine w_iload ok at_213 rfl ?_
      show W K l _ n0 _ h409 2 4 215 #[.val (.int ln), .val (.int nbs), .val (.int sbs), .val (.int how), .val (.int (2 : Int32)), .val (.int (2 : Int32)), .val (.int n383), .val (.int n386), .val (.int n389), .val (.int s394), .val (.int s399), .val (.int s404), .val (.ref r407), .val (.ref r410), .val (.int (0 : Int32))] [(.int (0 : Int32)), (.int (nar .boolean (own_isl [nar .byte s394, nar .byte s399] [nar .byte n383, nar .byte n386])))]
      refine w_icmp_ne ok at_215 (pc' := 222) (by decide) (fun hc422 => False.elim (by exact hc422 (by rw [own_nb h1_s394.1 h1_s394.2, own_nb h1_s399.1 h1_s399.2, own_nb h1_n383.1 h1_n383.2, own_nb h1_n386.1 h1_n386.2]; rw [own_isl, if_neg (own_f h1_s394 ⟨h1_n383, h2_n383⟩ hc418)]; skip <;> rfl))) (fun hc422 => ?_)
      show W K l _ n0 _ h409 2 4 218 #[.val (.int ln), .val (.int nbs), .val (.int sbs), .val (.int how), .val (.int (2 : Int32)), .val (.int (2 : Int32)), .val (.int n383), .val (.int n386), .val (.int n389), .val (.int s394), .val (.int s399), .val (.int s404), .val (.ref r407), .val (.ref r410), .val (.int (0 : Int32))] []
      refine w_iconst ok at_218 (v := (1 : Int32)) rfl ?_
      show W K l _ n0 _ h409 2 4 219 #[.val (.int ln), .val (.int nbs), .val (.int sbs), .val (.int how), .val (.int (2 : Int32)), .val (.int (2 : Int32)), .val (.int n383), .val (.int n386), .val (.int n389), .val (.int s394), .val (.int s399), .val (.int s404), .val (.ref r407), .val (.ref r410), .val (.int (0 : Int32))] [(.int (1 : Int32))]
      refine w_goto ok at_219 (pc' := 223) (by decide) ?_
      show W K l _ n0 _ h409 2 4 223 #[.val (.int ln), .val (.int nbs), .val (.int sbs), .val (.int how), .val (.int (2 : Int32)), .val (.int (2 : Int32)), .val (.int n383), .val (.int n386), .val (.int n389), .val (.int s394), .val (.int s399), .val (.int s404), .val (.ref r407), .val (.ref r410), .val (.int (0 : Int32))] [(.int (1 : Int32))]
      refine w_bret ok (by simp) at_223 (by decide) (by decide) ?_
      exact rfl
    · show W K l _ n0 _ h409 2 4 167 #[.val (.int ln), .val (.int nbs), .val (.int sbs), .val (.int how), .val (.int (2 : Int32)), .val (.int (2 : Int32)), .val (.int n383), .val (.int n386), .val (.int n389), .val (.int s394), .val (.int s399), .val (.int s404), .val (.ref r407), .val (.ref r410), .unset] []
      refine w_iload ok at_167 rfl ?_
      show W K l _ n0 _ h409 2 4 169 #[.val (.int ln), .val (.int nbs), .val (.int sbs), .val (.int how), .val (.int (2 : Int32)), .val (.int (2 : Int32)), .val (.int n383), .val (.int n386), .val (.int n389), .val (.int s394), .val (.int s399), .val (.int s404), .val (.ref r407), .val (.ref r410), .unset] [(.int (2 : Int32))]
      refine w_iconst ok at_169 (v := (2 : Int32)) rfl ?_
      show W K l _ n0 _ h409 2 4 170 #[.val (.int ln), .val (.int nbs), .val (.int sbs), .val (.int how), .val (.int (2 : Int32)), .val (.int (2 : Int32)), .val (.int n383), .val (.int n386), .val (.int n389), .val (.int s394), .val (.int s399), .val (.int s404), .val (.ref r407), .val (.ref r410), .unset] [(.int (2 : Int32)), (.int (2 : Int32))]
      refine w_icmp_lt ok at_170 (pc' := 183) (by decide) (fun hc424 => False.elim (by revert hc424; decide)) (fun hc424 => ?_)
      show W K l _ n0 _ h409 2 4 173 #[.val (.int ln), .val (.int nbs), .val (.int sbs), .val (.int how), .val (.int (2 : Int32)), .val (.int (2 : Int32)), .val (.int n383), .val (.int n386), .val (.int n389), .val (.int s394), .val (.int s399), .val (.int s404), .val (.ref r407), .val (.ref r410), .unset] []
      refine w_iload ok at_173 rfl ?_
      show W K l _ n0 _ h409 2 4 175 #[.val (.int ln), .val (.int nbs), .val (.int sbs), .val (.int how), .val (.int (2 : Int32)), .val (.int (2 : Int32)), .val (.int n383), .val (.int n386), .val (.int n389), .val (.int s394), .val (.int s399), .val (.int s404), .val (.ref r407), .val (.ref r410), .unset] [(.int s399)]
      refine w_iload ok at_175 rfl ?_
      show W K l _ n0 _ h409 2 4 177 #[.val (.int ln), .val (.int nbs), .val (.int sbs), .val (.int how), .val (.int (2 : Int32)), .val (.int (2 : Int32)), .val (.int n383), .val (.int n386), .val (.int n389), .val (.int s394), .val (.int s399), .val (.int s404), .val (.ref r407), .val (.ref r410), .unset] [(.int n386), (.int s399)]
      refine w_callS ok (y := (⟨"com/example/turnstile/turnstile/server/CommandsIsPinLaw", "ok", "(BB)Z"⟩ : MethodName)) (argsL := [(.int s399), (.int n386)]) (rest := []) at_177 (hw _ (List.mem_of_getElem? (i := 15) rfl)) (hw _ (List.mem_of_getElem? (i := 16) rfl)) (hw _ (List.mem_of_getElem? (i := 2) rfl)) (hw _ (List.mem_of_getElem? (i := 17) rfl)) (by decide) pd_28BB29Z rfl rfl (by decide) (Nat.le_of_ble_eq_true rfl) (by decide) (by decide) (fun z0 => rm_ok l Z a0 hw [] n0 h409 z0 s399 n386 h1_n386) (fun v425 h426 qv425 => ?_)
      obtain ⟨rfl, rfl⟩ := qv425
      show W K l _ n0 _ h409 2 4 180 #[.val (.int ln), .val (.int nbs), .val (.int sbs), .val (.int how), .val (.int (2 : Int32)), .val (.int (2 : Int32)), .val (.int n383), .val (.int n386), .val (.int n389), .val (.int s394), .val (.int s399), .val (.int s404), .val (.ref r407), .val (.ref r410), .unset] [(.int (own_ok s399 n386))]
      refine w_if_eq ok at_180 (pc' := 203) (by decide) (fun hc428 => ?_) (fun hc428 => ?_)
      · show W K l _ n0 _ h409 2 4 203 #[.val (.int ln), .val (.int nbs), .val (.int sbs), .val (.int how), .val (.int (2 : Int32)), .val (.int (2 : Int32)), .val (.int n383), .val (.int n386), .val (.int n389), .val (.int s394), .val (.int s399), .val (.int s404), .val (.ref r407), .val (.ref r410), .unset] []
        refine w_iconst ok at_203 (v := (0 : Int32)) rfl ?_
        show W K l _ n0 _ h409 2 4 204 #[.val (.int ln), .val (.int nbs), .val (.int sbs), .val (.int how), .val (.int (2 : Int32)), .val (.int (2 : Int32)), .val (.int n383), .val (.int n386), .val (.int n389), .val (.int s394), .val (.int s399), .val (.int s404), .val (.ref r407), .val (.ref r410), .unset] [(.int (0 : Int32))]
        refine w_istore ok at_204 (L' := #[.val (.int ln), .val (.int nbs), .val (.int sbs), .val (.int how), .val (.int (2 : Int32)), .val (.int (2 : Int32)), .val (.int n383), .val (.int n386), .val (.int n389), .val (.int s394), .val (.int s399), .val (.int s404), .val (.ref r407), .val (.ref r410), .val (.int (0 : Int32))]) rfl ?_
        show W K l _ n0 _ h409 2 4 206 #[.val (.int ln), .val (.int nbs), .val (.int sbs), .val (.int how), .val (.int (2 : Int32)), .val (.int (2 : Int32)), .val (.int n383), .val (.int n386), .val (.int n389), .val (.int s394), .val (.int s399), .val (.int s404), .val (.ref r407), .val (.ref r410), .val (.int (0 : Int32))] []
        refine w_aload ok at_206 rfl rfl ?_
        show W K l _ n0 _ h409 2 4 208 #[.val (.int ln), .val (.int nbs), .val (.int sbs), .val (.int how), .val (.int (2 : Int32)), .val (.int (2 : Int32)), .val (.int n383), .val (.int n386), .val (.int n389), .val (.int s394), .val (.int s399), .val (.int s404), .val (.ref r407), .val (.ref r410), .val (.int (0 : Int32))] [(.ref r407)]
        refine w_aload ok at_208 rfl rfl ?_
        show W K l _ n0 _ h409 2 4 210 #[.val (.int ln), .val (.int nbs), .val (.int sbs), .val (.int how), .val (.int (2 : Int32)), .val (.int (2 : Int32)), .val (.int n383), .val (.int n386), .val (.int n389), .val (.int s394), .val (.int s399), .val (.int s404), .val (.ref r407), .val (.ref r410), .val (.int (0 : Int32))] [(.ref r410), (.ref r407)]
        refine w_callS ok (y := (⟨"com/example/turnstile/turnstile/server/Commands", "is", "([B[B)Z"⟩ : MethodName)) (argsL := [(.ref r407), (.ref r410)]) (rest := []) at_210 (hw _ (List.mem_of_getElem? (i := 11) rfl)) (hw _ (List.mem_of_getElem? (i := 12) rfl)) (hw _ (List.mem_of_getElem? (i := 13) rfl)) (hw _ (List.mem_of_getElem? (i := 14) rfl)) (by decide) pd_285bB5bB29Z rfl rfl (by decide) (Nat.le_of_ble_eq_true rfl) (by decide) (by decide) (fun z0 => rm_is l Z a0 hw [] n0 h409 z0 r407 r410 [nar .byte s394, nar .byte s399] [nar .byte n383, nar .byte n386] A_r407 A_r410) (fun v429 h430 qv429 => ?_)
        obtain ⟨rfl, rfl⟩ := qv429
        show W K l _ n0 _ h409 2 4 213 #[.val (.int ln), .val (.int nbs), .val (.int sbs), .val (.int how), .val (.int (2 : Int32)), .val (.int (2 : Int32)), .val (.int n383), .val (.int n386), .val (.int n389), .val (.int s394), .val (.int s399), .val (.int s404), .val (.ref r407), .val (.ref r410), .val (.int (0 : Int32))] [(.int (nar .boolean (own_isl [nar .byte s394, nar .byte s399] [nar .byte n383, nar .byte n386])))]
        refine w_iload ok at_213 rfl ?_
        show W K l _ n0 _ h409 2 4 215 #[.val (.int ln), .val (.int nbs), .val (.int sbs), .val (.int how), .val (.int (2 : Int32)), .val (.int (2 : Int32)), .val (.int n383), .val (.int n386), .val (.int n389), .val (.int s394), .val (.int s399), .val (.int s404), .val (.ref r407), .val (.ref r410), .val (.int (0 : Int32))] [(.int (0 : Int32)), (.int (nar .boolean (own_isl [nar .byte s394, nar .byte s399] [nar .byte n383, nar .byte n386])))]
        refine w_icmp_ne ok at_215 (pc' := 222) (by decide) (fun hc432 => False.elim (by exact hc432 (by rw [own_nb h1_s394.1 h1_s394.2, own_nb h1_s399.1 h1_s399.2, own_nb h1_n383.1 h1_n383.2, own_nb h1_n386.1 h1_n386.2]; rw [own_isl, if_pos (own_t h1_s394 ⟨h1_n383, h2_n383⟩ hc418)]; rw [own_isl, if_neg (own_f h1_s399 ⟨h1_n386, h2_n386⟩ hc428)]; skip <;> rfl))) (fun hc432 => ?_)
        show W K l _ n0 _ h409 2 4 218 #[.val (.int ln), .val (.int nbs), .val (.int sbs), .val (.int how), .val (.int (2 : Int32)), .val (.int (2 : Int32)), .val (.int n383), .val (.int n386), .val (.int n389), .val (.int s394), .val (.int s399), .val (.int s404), .val (.ref r407), .val (.ref r410), .val (.int (0 : Int32))] []
        refine w_iconst ok at_218 (v := (1 : Int32)) rfl ?_
        show W K l _ n0 _ h409 2 4 219 #[.val (.int ln), .val (.int nbs), .val (.int sbs), .val (.int how), .val (.int (2 : Int32)), .val (.int (2 : Int32)), .val (.int n383), .val (.int n386), .val (.int n389), .val (.int s394), .val (.int s399), .val (.int s404), .val (.ref r407), .val (.ref r410), .val (.int (0 : Int32))] [(.int (1 : Int32))]
        refine w_goto ok at_219 (pc' := 223) (by decide) ?_
        show W K l _ n0 _ h409 2 4 223 #[.val (.int ln), .val (.int nbs), .val (.int sbs), .val (.int how), .val (.int (2 : Int32)), .val (.int (2 : Int32)), .val (.int n383), .val (.int n386), .val (.int n389), .val (.int s394), .val (.int s399), .val (.int s404), .val (.ref r407), .val (.ref r410), .val (.int (0 : Int32))] [(.int (1 : Int32))]
        refine w_bret ok (by simp) at_223 (by decide) (by decide) ?_
        exact rfl
      · show W K l _ n0 _ h409 2 4 183 #[.val (.int ln), .val (.int nbs), .val (.int sbs), .val (.int how), .val (.int (2 : Int32)), .val (.int (2 : Int32)), .val (.int n383), .val (.int n386), .val (.int n389), .val (.int s394), .val (.int s399), .val (.int s404), .val (.ref r407), .val (.ref r410), .unset] []
        refine w_iload ok at_183 rfl ?_
        show W K l _ n0 _ h409 2 4 185 #[.val (.int ln), .val (.int nbs), .val (.int sbs), .val (.int how), .val (.int (2 : Int32)), .val (.int (2 : Int32)), .val (.int n383), .val (.int n386), .val (.int n389), .val (.int s394), .val (.int s399), .val (.int s404), .val (.ref r407), .val (.ref r410), .unset] [(.int (2 : Int32))]
        refine w_iconst ok at_185 (v := (3 : Int32)) rfl ?_
        show W K l _ n0 _ h409 2 4 186 #[.val (.int ln), .val (.int nbs), .val (.int sbs), .val (.int how), .val (.int (2 : Int32)), .val (.int (2 : Int32)), .val (.int n383), .val (.int n386), .val (.int n389), .val (.int s394), .val (.int s399), .val (.int s404), .val (.ref r407), .val (.ref r410), .unset] [(.int (3 : Int32)), (.int (2 : Int32))]
        refine w_icmp_lt ok at_186 (pc' := 199) (by decide) (fun hc434 => ?_) (fun hc434 => False.elim (by revert hc434; decide))
        show W K l _ n0 _ h409 2 4 199 #[.val (.int ln), .val (.int nbs), .val (.int sbs), .val (.int how), .val (.int (2 : Int32)), .val (.int (2 : Int32)), .val (.int n383), .val (.int n386), .val (.int n389), .val (.int s394), .val (.int s399), .val (.int s404), .val (.ref r407), .val (.ref r410), .unset] []
        refine w_iconst ok at_199 (v := (1 : Int32)) rfl ?_
        show W K l _ n0 _ h409 2 4 200 #[.val (.int ln), .val (.int nbs), .val (.int sbs), .val (.int how), .val (.int (2 : Int32)), .val (.int (2 : Int32)), .val (.int n383), .val (.int n386), .val (.int n389), .val (.int s394), .val (.int s399), .val (.int s404), .val (.ref r407), .val (.ref r410), .unset] [(.int (1 : Int32))]
        refine w_goto ok at_200 (pc' := 204) (by decide) ?_
        show W K l _ n0 _ h409 2 4 204 #[.val (.int ln), .val (.int nbs), .val (.int sbs), .val (.int how), .val (.int (2 : Int32)), .val (.int (2 : Int32)), .val (.int n383), .val (.int n386), .val (.int n389), .val (.int s394), .val (.int s399), .val (.int s404), .val (.ref r407), .val (.ref r410), .unset] [(.int (1 : Int32))]
        refine w_istore ok at_204 (L' := #[.val (.int ln), .val (.int nbs), .val (.int sbs), .val (.int how), .val (.int (2 : Int32)), .val (.int (2 : Int32)), .val (.int n383), .val (.int n386), .val (.int n389), .val (.int s394), .val (.int s399), .val (.int s404), .val (.ref r407), .val (.ref r410), .val (.int (1 : Int32))]) rfl ?_
        show W K l _ n0 _ h409 2 4 206 #[.val (.int ln), .val (.int nbs), .val (.int sbs), .val (.int how), .val (.int (2 : Int32)), .val (.int (2 : Int32)), .val (.int n383), .val (.int n386), .val (.int n389), .val (.int s394), .val (.int s399), .val (.int s404), .val (.ref r407), .val (.ref r410), .val (.int (1 : Int32))] []
        refine w_aload ok at_206 rfl rfl ?_
        show W K l _ n0 _ h409 2 4 208 #[.val (.int ln), .val (.int nbs), .val (.int sbs), .val (.int how), .val (.int (2 : Int32)), .val (.int (2 : Int32)), .val (.int n383), .val (.int n386), .val (.int n389), .val (.int s394), .val (.int s399), .val (.int s404), .val (.ref r407), .val (.ref r410), .val (.int (1 : Int32))] [(.ref r407)]
        refine w_aload ok at_208 rfl rfl ?_
        show W K l _ n0 _ h409 2 4 210 #[.val (.int ln), .val (.int nbs), .val (.int sbs), .val (.int how), .val (.int (2 : Int32)), .val (.int (2 : Int32)), .val (.int n383), .val (.int n386), .val (.int n389), .val (.int s394), .val (.int s399), .val (.int s404), .val (.ref r407), .val (.ref r410), .val (.int (1 : Int32))] [(.ref r410), (.ref r407)]
        refine w_callS ok (y := (⟨"com/example/turnstile/turnstile/server/Commands", "is", "([B[B)Z"⟩ : MethodName)) (argsL := [(.ref r407), (.ref r410)]) (rest := []) at_210 (hw _ (List.mem_of_getElem? (i := 11) rfl)) (hw _ (List.mem_of_getElem? (i := 12) rfl)) (hw _ (List.mem_of_getElem? (i := 13) rfl)) (hw _ (List.mem_of_getElem? (i := 14) rfl)) (by decide) pd_285bB5bB29Z rfl rfl (by decide) (Nat.le_of_ble_eq_true rfl) (by decide) (by decide) (fun z0 => rm_is l Z a0 hw [] n0 h409 z0 r407 r410 [nar .byte s394, nar .byte s399] [nar .byte n383, nar .byte n386] A_r407 A_r410) (fun v435 h436 qv435 => ?_)
        obtain ⟨rfl, rfl⟩ := qv435
        show W K l _ n0 _ h409 2 4 213 #[.val (.int ln), .val (.int nbs), .val (.int sbs), .val (.int how), .val (.int (2 : Int32)), .val (.int (2 : Int32)), .val (.int n383), .val (.int n386), .val (.int n389), .val (.int s394), .val (.int s399), .val (.int s404), .val (.ref r407), .val (.ref r410), .val (.int (1 : Int32))] [(.int (nar .boolean (own_isl [nar .byte s394, nar .byte s399] [nar .byte n383, nar .byte n386])))]
        refine w_iload ok at_213 rfl ?_
        show W K l _ n0 _ h409 2 4 215 #[.val (.int ln), .val (.int nbs), .val (.int sbs), .val (.int how), .val (.int (2 : Int32)), .val (.int (2 : Int32)), .val (.int n383), .val (.int n386), .val (.int n389), .val (.int s394), .val (.int s399), .val (.int s404), .val (.ref r407), .val (.ref r410), .val (.int (1 : Int32))] [(.int (1 : Int32)), (.int (nar .boolean (own_isl [nar .byte s394, nar .byte s399] [nar .byte n383, nar .byte n386])))]
        refine w_icmp_ne ok at_215 (pc' := 222) (by decide) (fun hc438 => False.elim (by exact hc438 (by rw [own_nb h1_s394.1 h1_s394.2, own_nb h1_s399.1 h1_s399.2, own_nb h1_n383.1 h1_n383.2, own_nb h1_n386.1 h1_n386.2]; rw [own_isl, if_pos (own_t h1_s394 ⟨h1_n383, h2_n383⟩ hc418)]; rw [own_isl, if_pos (own_t h1_s399 ⟨h1_n386, h2_n386⟩ hc428)]; skip <;> rfl))) (fun hc438 => ?_)
        show W K l _ n0 _ h409 2 4 218 #[.val (.int ln), .val (.int nbs), .val (.int sbs), .val (.int how), .val (.int (2 : Int32)), .val (.int (2 : Int32)), .val (.int n383), .val (.int n386), .val (.int n389), .val (.int s394), .val (.int s399), .val (.int s404), .val (.ref r407), .val (.ref r410), .val (.int (1 : Int32))] []
        refine w_iconst ok at_218 (v := (1 : Int32)) rfl ?_
        show W K l _ n0 _ h409 2 4 219 #[.val (.int ln), .val (.int nbs), .val (.int sbs), .val (.int how), .val (.int (2 : Int32)), .val (.int (2 : Int32)), .val (.int n383), .val (.int n386), .val (.int n389), .val (.int s394), .val (.int s399), .val (.int s404), .val (.ref r407), .val (.ref r410), .val (.int (1 : Int32))] [(.int (1 : Int32))]
        refine w_goto ok at_219 (pc' := 223) (by decide) ?_
        show W K l _ n0 _ h409 2 4 223 #[.val (.int ln), .val (.int nbs), .val (.int sbs), .val (.int how), .val (.int (2 : Int32)), .val (.int (2 : Int32)), .val (.int n383), .val (.int n386), .val (.int n389), .val (.int s394), .val (.int s399), .val (.int s404), .val (.ref r407), .val (.ref r410), .val (.int (1 : Int32))] [(.int (1 : Int32))]
        refine w_bret ok (by simp) at_223 (by decide) (by decide) ?_
        exact rfl
  · skip
    show W K l _ n0 _ h0 0 0 25 #[.val (.int ln), .val (.int nbs), .val (.int sbs), .val (.int how), .val (.int (2 : Int32)), .val (.int (3 : Int32)), .unset, .unset, .unset, .unset, .unset, .unset, .unset, .unset, .unset] []
    refine w_iloadN ok at_25 rfl ?_
    show W K l _ n0 _ h0 0 0 26 #[.val (.int ln), .val (.int nbs), .val (.int sbs), .val (.int how), .val (.int (2 : Int32)), .val (.int (3 : Int32)), .unset, .unset, .unset, .unset, .unset, .unset, .unset, .unset, .unset] [(.int nbs)]
    refine w_callS ok (y := (⟨"com/example/turnstile/turnstile/server/CommandsIsPinLaw", "nameByte", "(I)B"⟩ : MethodName)) (argsL := [(.int nbs)]) (rest := []) at_26 (hw _ (List.mem_of_getElem? (i := 0) rfl)) (hw _ (List.mem_of_getElem? (i := 1) rfl)) (hw _ (List.mem_of_getElem? (i := 2) rfl)) (hw _ (List.mem_of_getElem? (i := 3) rfl)) (by decide) pd_28I29B rfl rfl (by decide) (Nat.le_of_ble_eq_true rfl) (by decide) (by decide) (fun z0 => rm_nb l Z a0 hw [] n0 h0 z0 nbs) (fun v439 h440 qv439 => ?_)
    obtain ⟨n441, rfl, h1_n441, h2_n441, rfl⟩ := qv439
    show W K l _ n0 _ h0 0 0 29 #[.val (.int ln), .val (.int nbs), .val (.int sbs), .val (.int how), .val (.int (2 : Int32)), .val (.int (3 : Int32)), .unset, .unset, .unset, .unset, .unset, .unset, .unset, .unset, .unset] [(.int n441)]
    refine w_istore ok at_29 (L' := #[.val (.int ln), .val (.int nbs), .val (.int sbs), .val (.int how), .val (.int (2 : Int32)), .val (.int (3 : Int32)), .val (.int n441), .unset, .unset, .unset, .unset, .unset, .unset, .unset, .unset]) rfl ?_
    show W K l _ n0 _ h0 0 0 31 #[.val (.int ln), .val (.int nbs), .val (.int sbs), .val (.int how), .val (.int (2 : Int32)), .val (.int (3 : Int32)), .val (.int n441), .unset, .unset, .unset, .unset, .unset, .unset, .unset, .unset] []
    refine w_iloadN ok at_31 rfl ?_
    show W K l _ n0 _ h0 0 0 32 #[.val (.int ln), .val (.int nbs), .val (.int sbs), .val (.int how), .val (.int (2 : Int32)), .val (.int (3 : Int32)), .val (.int n441), .unset, .unset, .unset, .unset, .unset, .unset, .unset, .unset] [(.int nbs)]
    refine w_bipush ok at_32 (v := (8 : Int32)) rfl ?_
    show W K l _ n0 _ h0 0 0 34 #[.val (.int ln), .val (.int nbs), .val (.int sbs), .val (.int how), .val (.int (2 : Int32)), .val (.int (3 : Int32)), .val (.int n441), .unset, .unset, .unset, .unset, .unset, .unset, .unset, .unset] [(.int (8 : Int32)), (.int nbs)]
    refine w_ishr ok at_34 ?_
    show W K l _ n0 _ h0 0 0 35 #[.val (.int ln), .val (.int nbs), .val (.int sbs), .val (.int how), .val (.int (2 : Int32)), .val (.int (3 : Int32)), .val (.int n441), .unset, .unset, .unset, .unset, .unset, .unset, .unset, .unset] [(.int (nbs >>> ((8 : Int32) &&& 31)))]
    refine w_callS ok (y := (⟨"com/example/turnstile/turnstile/server/CommandsIsPinLaw", "nameByte", "(I)B"⟩ : MethodName)) (argsL := [(.int (nbs >>> ((8 : Int32) &&& 31)))]) (rest := []) at_35 (hw _ (List.mem_of_getElem? (i := 0) rfl)) (hw _ (List.mem_of_getElem? (i := 1) rfl)) (hw _ (List.mem_of_getElem? (i := 2) rfl)) (hw _ (List.mem_of_getElem? (i := 3) rfl)) (by decide) pd_28I29B rfl rfl (by decide) (Nat.le_of_ble_eq_true rfl) (by decide) (by decide) (fun z0 => rm_nb l Z a0 hw [] n0 h0 z0 (nbs >>> ((8 : Int32) &&& 31))) (fun v442 h443 qv442 => ?_)
    obtain ⟨n444, rfl, h1_n444, h2_n444, rfl⟩ := qv442
    show W K l _ n0 _ h0 0 0 38 #[.val (.int ln), .val (.int nbs), .val (.int sbs), .val (.int how), .val (.int (2 : Int32)), .val (.int (3 : Int32)), .val (.int n441), .unset, .unset, .unset, .unset, .unset, .unset, .unset, .unset] [(.int n444)]
    refine w_istore ok at_38 (L' := #[.val (.int ln), .val (.int nbs), .val (.int sbs), .val (.int how), .val (.int (2 : Int32)), .val (.int (3 : Int32)), .val (.int n441), .val (.int n444), .unset, .unset, .unset, .unset, .unset, .unset, .unset]) rfl ?_
    show W K l _ n0 _ h0 0 0 40 #[.val (.int ln), .val (.int nbs), .val (.int sbs), .val (.int how), .val (.int (2 : Int32)), .val (.int (3 : Int32)), .val (.int n441), .val (.int n444), .unset, .unset, .unset, .unset, .unset, .unset, .unset] []
    refine w_iloadN ok at_40 rfl ?_
    show W K l _ n0 _ h0 0 0 41 #[.val (.int ln), .val (.int nbs), .val (.int sbs), .val (.int how), .val (.int (2 : Int32)), .val (.int (3 : Int32)), .val (.int n441), .val (.int n444), .unset, .unset, .unset, .unset, .unset, .unset, .unset] [(.int nbs)]
    refine w_bipush ok at_41 (v := (16 : Int32)) rfl ?_
    show W K l _ n0 _ h0 0 0 43 #[.val (.int ln), .val (.int nbs), .val (.int sbs), .val (.int how), .val (.int (2 : Int32)), .val (.int (3 : Int32)), .val (.int n441), .val (.int n444), .unset, .unset, .unset, .unset, .unset, .unset, .unset] [(.int (16 : Int32)), (.int nbs)]
    refine w_ishr ok at_43 ?_
    show W K l _ n0 _ h0 0 0 44 #[.val (.int ln), .val (.int nbs), .val (.int sbs), .val (.int how), .val (.int (2 : Int32)), .val (.int (3 : Int32)), .val (.int n441), .val (.int n444), .unset, .unset, .unset, .unset, .unset, .unset, .unset] [(.int (nbs >>> ((16 : Int32) &&& 31)))]
    refine w_callS ok (y := (⟨"com/example/turnstile/turnstile/server/CommandsIsPinLaw", "nameByte", "(I)B"⟩ : MethodName)) (argsL := [(.int (nbs >>> ((16 : Int32) &&& 31)))]) (rest := []) at_44 (hw _ (List.mem_of_getElem? (i := 0) rfl)) (hw _ (List.mem_of_getElem? (i := 1) rfl)) (hw _ (List.mem_of_getElem? (i := 2) rfl)) (hw _ (List.mem_of_getElem? (i := 3) rfl)) (by decide) pd_28I29B rfl rfl (by decide) (Nat.le_of_ble_eq_true rfl) (by decide) (by decide) (fun z0 => rm_nb l Z a0 hw [] n0 h0 z0 (nbs >>> ((16 : Int32) &&& 31))) (fun v445 h446 qv445 => ?_)
    obtain ⟨n447, rfl, h1_n447, h2_n447, rfl⟩ := qv445
    show W K l _ n0 _ h0 0 0 47 #[.val (.int ln), .val (.int nbs), .val (.int sbs), .val (.int how), .val (.int (2 : Int32)), .val (.int (3 : Int32)), .val (.int n441), .val (.int n444), .unset, .unset, .unset, .unset, .unset, .unset, .unset] [(.int n447)]
    refine w_istore ok at_47 (L' := #[.val (.int ln), .val (.int nbs), .val (.int sbs), .val (.int how), .val (.int (2 : Int32)), .val (.int (3 : Int32)), .val (.int n441), .val (.int n444), .val (.int n447), .unset, .unset, .unset, .unset, .unset, .unset]) rfl ?_
    show W K l _ n0 _ h0 0 0 49 #[.val (.int ln), .val (.int nbs), .val (.int sbs), .val (.int how), .val (.int (2 : Int32)), .val (.int (3 : Int32)), .val (.int n441), .val (.int n444), .val (.int n447), .unset, .unset, .unset, .unset, .unset, .unset] []
    refine w_iloadN ok at_49 rfl ?_
    show W K l _ n0 _ h0 0 0 50 #[.val (.int ln), .val (.int nbs), .val (.int sbs), .val (.int how), .val (.int (2 : Int32)), .val (.int (3 : Int32)), .val (.int n441), .val (.int n444), .val (.int n447), .unset, .unset, .unset, .unset, .unset, .unset] [(.int how)]
    refine w_iloadN ok at_50 rfl ?_
    show W K l _ n0 _ h0 0 0 51 #[.val (.int ln), .val (.int nbs), .val (.int sbs), .val (.int how), .val (.int (2 : Int32)), .val (.int (3 : Int32)), .val (.int n441), .val (.int n444), .val (.int n447), .unset, .unset, .unset, .unset, .unset, .unset] [(.int sbs), (.int how)]
    refine w_iload ok at_51 rfl ?_
    show W K l _ n0 _ h0 0 0 53 #[.val (.int ln), .val (.int nbs), .val (.int sbs), .val (.int how), .val (.int (2 : Int32)), .val (.int (3 : Int32)), .val (.int n441), .val (.int n444), .val (.int n447), .unset, .unset, .unset, .unset, .unset, .unset] [(.int n441), (.int sbs), (.int how)]
    refine w_iload ok at_53 rfl ?_
    show W K l _ n0 _ h0 0 0 55 #[.val (.int ln), .val (.int nbs), .val (.int sbs), .val (.int how), .val (.int (2 : Int32)), .val (.int (3 : Int32)), .val (.int n441), .val (.int n444), .val (.int n447), .unset, .unset, .unset, .unset, .unset, .unset] [(.int (3 : Int32)), (.int n441), (.int sbs), (.int how)]
    refine w_if_le ok at_55 (pc' := 62) (by decide) (fun hc449 => False.elim (by revert hc449; decide)) (fun hc449 => ?_)
    show W K l _ n0 _ h0 0 0 58 #[.val (.int ln), .val (.int nbs), .val (.int sbs), .val (.int how), .val (.int (2 : Int32)), .val (.int (3 : Int32)), .val (.int n441), .val (.int n444), .val (.int n447), .unset, .unset, .unset, .unset, .unset, .unset] [(.int n441), (.int sbs), (.int how)]
    refine w_iconst ok at_58 (v := (1 : Int32)) rfl ?_
    show W K l _ n0 _ h0 0 0 59 #[.val (.int ln), .val (.int nbs), .val (.int sbs), .val (.int how), .val (.int (2 : Int32)), .val (.int (3 : Int32)), .val (.int n441), .val (.int n444), .val (.int n447), .unset, .unset, .unset, .unset, .unset, .unset] [(.int (1 : Int32)), (.int n441), (.int sbs), (.int how)]
    refine w_goto ok at_59 (pc' := 63) (by decide) ?_
    show W K l _ n0 _ h0 0 0 63 #[.val (.int ln), .val (.int nbs), .val (.int sbs), .val (.int how), .val (.int (2 : Int32)), .val (.int (3 : Int32)), .val (.int n441), .val (.int n444), .val (.int n447), .unset, .unset, .unset, .unset, .unset, .unset] [(.int (1 : Int32)), (.int n441), (.int sbs), (.int how)]
    refine w_callS ok (y := (⟨"com/example/turnstile/turnstile/server/CommandsIsPinLaw", "sentByte", "(IIBZ)B"⟩ : MethodName)) (argsL := [(.int how), (.int sbs), (.int n441), (.int (1 : Int32))]) (rest := []) at_63 (hw _ (List.mem_of_getElem? (i := 4) rfl)) (hw _ (List.mem_of_getElem? (i := 5) rfl)) (hw _ (List.mem_of_getElem? (i := 2) rfl)) (hw _ (List.mem_of_getElem? (i := 6) rfl)) (by decide) pd_28IIBZ29B rfl rfl (by decide) (Nat.le_of_ble_eq_true rfl) (by decide) (by decide) (fun z0 => rm_sb l Z a0 hw [] n0 h0 z0 how sbs n441 (1 : Int32)) (fun v450 h451 qv450 => ?_)
    obtain ⟨s452, rfl, h1_s452, rfl⟩ := qv450
    show W K l _ n0 _ h0 0 0 66 #[.val (.int ln), .val (.int nbs), .val (.int sbs), .val (.int how), .val (.int (2 : Int32)), .val (.int (3 : Int32)), .val (.int n441), .val (.int n444), .val (.int n447), .unset, .unset, .unset, .unset, .unset, .unset] [(.int s452)]
    refine w_istore ok at_66 (L' := #[.val (.int ln), .val (.int nbs), .val (.int sbs), .val (.int how), .val (.int (2 : Int32)), .val (.int (3 : Int32)), .val (.int n441), .val (.int n444), .val (.int n447), .val (.int s452), .unset, .unset, .unset, .unset, .unset]) rfl ?_
    show W K l _ n0 _ h0 0 0 68 #[.val (.int ln), .val (.int nbs), .val (.int sbs), .val (.int how), .val (.int (2 : Int32)), .val (.int (3 : Int32)), .val (.int n441), .val (.int n444), .val (.int n447), .val (.int s452), .unset, .unset, .unset, .unset, .unset] []
    refine w_iloadN ok at_68 rfl ?_
    show W K l _ n0 _ h0 0 0 69 #[.val (.int ln), .val (.int nbs), .val (.int sbs), .val (.int how), .val (.int (2 : Int32)), .val (.int (3 : Int32)), .val (.int n441), .val (.int n444), .val (.int n447), .val (.int s452), .unset, .unset, .unset, .unset, .unset] [(.int how)]
    refine w_iconst ok at_69 (v := (2 : Int32)) rfl ?_
    show W K l _ n0 _ h0 0 0 70 #[.val (.int ln), .val (.int nbs), .val (.int sbs), .val (.int how), .val (.int (2 : Int32)), .val (.int (3 : Int32)), .val (.int n441), .val (.int n444), .val (.int n447), .val (.int s452), .unset, .unset, .unset, .unset, .unset] [(.int (2 : Int32)), (.int how)]
    refine w_ishr ok at_70 ?_
    show W K l _ n0 _ h0 0 0 71 #[.val (.int ln), .val (.int nbs), .val (.int sbs), .val (.int how), .val (.int (2 : Int32)), .val (.int (3 : Int32)), .val (.int n441), .val (.int n444), .val (.int n447), .val (.int s452), .unset, .unset, .unset, .unset, .unset] [(.int (how >>> ((2 : Int32) &&& 31)))]
    refine w_iloadN ok at_71 rfl ?_
    show W K l _ n0 _ h0 0 0 72 #[.val (.int ln), .val (.int nbs), .val (.int sbs), .val (.int how), .val (.int (2 : Int32)), .val (.int (3 : Int32)), .val (.int n441), .val (.int n444), .val (.int n447), .val (.int s452), .unset, .unset, .unset, .unset, .unset] [(.int sbs), (.int (how >>> ((2 : Int32) &&& 31)))]
    refine w_bipush ok at_72 (v := (8 : Int32)) rfl ?_
    show W K l _ n0 _ h0 0 0 74 #[.val (.int ln), .val (.int nbs), .val (.int sbs), .val (.int how), .val (.int (2 : Int32)), .val (.int (3 : Int32)), .val (.int n441), .val (.int n444), .val (.int n447), .val (.int s452), .unset, .unset, .unset, .unset, .unset] [(.int (8 : Int32)), (.int sbs), (.int (how >>> ((2 : Int32) &&& 31)))]
    refine w_ishr ok at_74 ?_
    show W K l _ n0 _ h0 0 0 75 #[.val (.int ln), .val (.int nbs), .val (.int sbs), .val (.int how), .val (.int (2 : Int32)), .val (.int (3 : Int32)), .val (.int n441), .val (.int n444), .val (.int n447), .val (.int s452), .unset, .unset, .unset, .unset, .unset] [(.int (sbs >>> ((8 : Int32) &&& 31))), (.int (how >>> ((2 : Int32) &&& 31)))]
    refine w_iload ok at_75 rfl ?_
    show W K l _ n0 _ h0 0 0 77 #[.val (.int ln), .val (.int nbs), .val (.int sbs), .val (.int how), .val (.int (2 : Int32)), .val (.int (3 : Int32)), .val (.int n441), .val (.int n444), .val (.int n447), .val (.int s452), .unset, .unset, .unset, .unset, .unset] [(.int n444), (.int (sbs >>> ((8 : Int32) &&& 31))), (.int (how >>> ((2 : Int32) &&& 31)))]
    refine w_iload ok at_77 rfl ?_
    show W K l _ n0 _ h0 0 0 79 #[.val (.int ln), .val (.int nbs), .val (.int sbs), .val (.int how), .val (.int (2 : Int32)), .val (.int (3 : Int32)), .val (.int n441), .val (.int n444), .val (.int n447), .val (.int s452), .unset, .unset, .unset, .unset, .unset] [(.int (3 : Int32)), (.int n444), (.int (sbs >>> ((8 : Int32) &&& 31))), (.int (how >>> ((2 : Int32) &&& 31)))]
    refine w_iconst ok at_79 (v := (1 : Int32)) rfl ?_
    show W K l _ n0 _ h0 0 0 80 #[.val (.int ln), .val (.int nbs), .val (.int sbs), .val (.int how), .val (.int (2 : Int32)), .val (.int (3 : Int32)), .val (.int n441), .val (.int n444), .val (.int n447), .val (.int s452), .unset, .unset, .unset, .unset, .unset] [(.int (1 : Int32)), (.int (3 : Int32)), (.int n444), (.int (sbs >>> ((8 : Int32) &&& 31))), (.int (how >>> ((2 : Int32) &&& 31)))]
    refine w_icmp_le ok at_80 (pc' := 87) (by decide) (fun hc454 => False.elim (by revert hc454; decide)) (fun hc454 => ?_)
    show W K l _ n0 _ h0 0 0 83 #[.val (.int ln), .val (.int nbs), .val (.int sbs), .val (.int how), .val (.int (2 : Int32)), .val (.int (3 : Int32)), .val (.int n441), .val (.int n444), .val (.int n447), .val (.int s452), .unset, .unset, .unset, .unset, .unset] [(.int n444), (.int (sbs >>> ((8 : Int32) &&& 31))), (.int (how >>> ((2 : Int32) &&& 31)))]
    refine w_iconst ok at_83 (v := (1 : Int32)) rfl ?_
    show W K l _ n0 _ h0 0 0 84 #[.val (.int ln), .val (.int nbs), .val (.int sbs), .val (.int how), .val (.int (2 : Int32)), .val (.int (3 : Int32)), .val (.int n441), .val (.int n444), .val (.int n447), .val (.int s452), .unset, .unset, .unset, .unset, .unset] [(.int (1 : Int32)), (.int n444), (.int (sbs >>> ((8 : Int32) &&& 31))), (.int (how >>> ((2 : Int32) &&& 31)))]
    refine w_goto ok at_84 (pc' := 88) (by decide) ?_
    show W K l _ n0 _ h0 0 0 88 #[.val (.int ln), .val (.int nbs), .val (.int sbs), .val (.int how), .val (.int (2 : Int32)), .val (.int (3 : Int32)), .val (.int n441), .val (.int n444), .val (.int n447), .val (.int s452), .unset, .unset, .unset, .unset, .unset] [(.int (1 : Int32)), (.int n444), (.int (sbs >>> ((8 : Int32) &&& 31))), (.int (how >>> ((2 : Int32) &&& 31)))]
    refine w_callS ok (y := (⟨"com/example/turnstile/turnstile/server/CommandsIsPinLaw", "sentByte", "(IIBZ)B"⟩ : MethodName)) (argsL := [(.int (how >>> ((2 : Int32) &&& 31))), (.int (sbs >>> ((8 : Int32) &&& 31))), (.int n444), (.int (1 : Int32))]) (rest := []) at_88 (hw _ (List.mem_of_getElem? (i := 4) rfl)) (hw _ (List.mem_of_getElem? (i := 5) rfl)) (hw _ (List.mem_of_getElem? (i := 2) rfl)) (hw _ (List.mem_of_getElem? (i := 6) rfl)) (by decide) pd_28IIBZ29B rfl rfl (by decide) (Nat.le_of_ble_eq_true rfl) (by decide) (by decide) (fun z0 => rm_sb l Z a0 hw [] n0 h0 z0 (how >>> ((2 : Int32) &&& 31)) (sbs >>> ((8 : Int32) &&& 31)) n444 (1 : Int32)) (fun v455 h456 qv455 => ?_)
    obtain ⟨s457, rfl, h1_s457, rfl⟩ := qv455
    show W K l _ n0 _ h0 0 0 91 #[.val (.int ln), .val (.int nbs), .val (.int sbs), .val (.int how), .val (.int (2 : Int32)), .val (.int (3 : Int32)), .val (.int n441), .val (.int n444), .val (.int n447), .val (.int s452), .unset, .unset, .unset, .unset, .unset] [(.int s457)]
    refine w_istore ok at_91 (L' := #[.val (.int ln), .val (.int nbs), .val (.int sbs), .val (.int how), .val (.int (2 : Int32)), .val (.int (3 : Int32)), .val (.int n441), .val (.int n444), .val (.int n447), .val (.int s452), .val (.int s457), .unset, .unset, .unset, .unset]) rfl ?_
    show W K l _ n0 _ h0 0 0 93 #[.val (.int ln), .val (.int nbs), .val (.int sbs), .val (.int how), .val (.int (2 : Int32)), .val (.int (3 : Int32)), .val (.int n441), .val (.int n444), .val (.int n447), .val (.int s452), .val (.int s457), .unset, .unset, .unset, .unset] []
    refine w_iloadN ok at_93 rfl ?_
    show W K l _ n0 _ h0 0 0 94 #[.val (.int ln), .val (.int nbs), .val (.int sbs), .val (.int how), .val (.int (2 : Int32)), .val (.int (3 : Int32)), .val (.int n441), .val (.int n444), .val (.int n447), .val (.int s452), .val (.int s457), .unset, .unset, .unset, .unset] [(.int how)]
    refine w_iconst ok at_94 (v := (4 : Int32)) rfl ?_
    show W K l _ n0 _ h0 0 0 95 #[.val (.int ln), .val (.int nbs), .val (.int sbs), .val (.int how), .val (.int (2 : Int32)), .val (.int (3 : Int32)), .val (.int n441), .val (.int n444), .val (.int n447), .val (.int s452), .val (.int s457), .unset, .unset, .unset, .unset] [(.int (4 : Int32)), (.int how)]
    refine w_ishr ok at_95 ?_
    show W K l _ n0 _ h0 0 0 96 #[.val (.int ln), .val (.int nbs), .val (.int sbs), .val (.int how), .val (.int (2 : Int32)), .val (.int (3 : Int32)), .val (.int n441), .val (.int n444), .val (.int n447), .val (.int s452), .val (.int s457), .unset, .unset, .unset, .unset] [(.int (how >>> ((4 : Int32) &&& 31)))]
    refine w_iloadN ok at_96 rfl ?_
    show W K l _ n0 _ h0 0 0 97 #[.val (.int ln), .val (.int nbs), .val (.int sbs), .val (.int how), .val (.int (2 : Int32)), .val (.int (3 : Int32)), .val (.int n441), .val (.int n444), .val (.int n447), .val (.int s452), .val (.int s457), .unset, .unset, .unset, .unset] [(.int sbs), (.int (how >>> ((4 : Int32) &&& 31)))]
    refine w_bipush ok at_97 (v := (16 : Int32)) rfl ?_
    show W K l _ n0 _ h0 0 0 99 #[.val (.int ln), .val (.int nbs), .val (.int sbs), .val (.int how), .val (.int (2 : Int32)), .val (.int (3 : Int32)), .val (.int n441), .val (.int n444), .val (.int n447), .val (.int s452), .val (.int s457), .unset, .unset, .unset, .unset] [(.int (16 : Int32)), (.int sbs), (.int (how >>> ((4 : Int32) &&& 31)))]
    refine w_ishr ok at_99 ?_
    show W K l _ n0 _ h0 0 0 100 #[.val (.int ln), .val (.int nbs), .val (.int sbs), .val (.int how), .val (.int (2 : Int32)), .val (.int (3 : Int32)), .val (.int n441), .val (.int n444), .val (.int n447), .val (.int s452), .val (.int s457), .unset, .unset, .unset, .unset] [(.int (sbs >>> ((16 : Int32) &&& 31))), (.int (how >>> ((4 : Int32) &&& 31)))]
    refine w_iload ok at_100 rfl ?_
    show W K l _ n0 _ h0 0 0 102 #[.val (.int ln), .val (.int nbs), .val (.int sbs), .val (.int how), .val (.int (2 : Int32)), .val (.int (3 : Int32)), .val (.int n441), .val (.int n444), .val (.int n447), .val (.int s452), .val (.int s457), .unset, .unset, .unset, .unset] [(.int n447), (.int (sbs >>> ((16 : Int32) &&& 31))), (.int (how >>> ((4 : Int32) &&& 31)))]
    refine w_iload ok at_102 rfl ?_
    show W K l _ n0 _ h0 0 0 104 #[.val (.int ln), .val (.int nbs), .val (.int sbs), .val (.int how), .val (.int (2 : Int32)), .val (.int (3 : Int32)), .val (.int n441), .val (.int n444), .val (.int n447), .val (.int s452), .val (.int s457), .unset, .unset, .unset, .unset] [(.int (3 : Int32)), (.int n447), (.int (sbs >>> ((16 : Int32) &&& 31))), (.int (how >>> ((4 : Int32) &&& 31)))]
    refine w_iconst ok at_104 (v := (2 : Int32)) rfl ?_
    show W K l _ n0 _ h0 0 0 105 #[.val (.int ln), .val (.int nbs), .val (.int sbs), .val (.int how), .val (.int (2 : Int32)), .val (.int (3 : Int32)), .val (.int n441), .val (.int n444), .val (.int n447), .val (.int s452), .val (.int s457), .unset, .unset, .unset, .unset] [(.int (2 : Int32)), (.int (3 : Int32)), (.int n447), (.int (sbs >>> ((16 : Int32) &&& 31))), (.int (how >>> ((4 : Int32) &&& 31)))]
    refine w_icmp_le ok at_105 (pc' := 112) (by decide) (fun hc459 => False.elim (by revert hc459; decide)) (fun hc459 => ?_)
    show W K l _ n0 _ h0 0 0 108 #[.val (.int ln), .val (.int nbs), .val (.int sbs), .val (.int how), .val (.int (2 : Int32)), .val (.int (3 : Int32)), .val (.int n441), .val (.int n444), .val (.int n447), .val (.int s452), .val (.int s457), .unset, .unset, .unset, .unset] [(.int n447), (.int (sbs >>> ((16 : Int32) &&& 31))), (.int (how >>> ((4 : Int32) &&& 31)))]
    refine w_iconst ok at_108 (v := (1 : Int32)) rfl ?_
    show W K l _ n0 _ h0 0 0 109 #[.val (.int ln), .val (.int nbs), .val (.int sbs), .val (.int how), .val (.int (2 : Int32)), .val (.int (3 : Int32)), .val (.int n441), .val (.int n444), .val (.int n447), .val (.int s452), .val (.int s457), .unset, .unset, .unset, .unset] [(.int (1 : Int32)), (.int n447), (.int (sbs >>> ((16 : Int32) &&& 31))), (.int (how >>> ((4 : Int32) &&& 31)))]
    refine w_goto ok at_109 (pc' := 113) (by decide) ?_
    show W K l _ n0 _ h0 0 0 113 #[.val (.int ln), .val (.int nbs), .val (.int sbs), .val (.int how), .val (.int (2 : Int32)), .val (.int (3 : Int32)), .val (.int n441), .val (.int n444), .val (.int n447), .val (.int s452), .val (.int s457), .unset, .unset, .unset, .unset] [(.int (1 : Int32)), (.int n447), (.int (sbs >>> ((16 : Int32) &&& 31))), (.int (how >>> ((4 : Int32) &&& 31)))]
    refine w_callS ok (y := (⟨"com/example/turnstile/turnstile/server/CommandsIsPinLaw", "sentByte", "(IIBZ)B"⟩ : MethodName)) (argsL := [(.int (how >>> ((4 : Int32) &&& 31))), (.int (sbs >>> ((16 : Int32) &&& 31))), (.int n447), (.int (1 : Int32))]) (rest := []) at_113 (hw _ (List.mem_of_getElem? (i := 4) rfl)) (hw _ (List.mem_of_getElem? (i := 5) rfl)) (hw _ (List.mem_of_getElem? (i := 2) rfl)) (hw _ (List.mem_of_getElem? (i := 6) rfl)) (by decide) pd_28IIBZ29B rfl rfl (by decide) (Nat.le_of_ble_eq_true rfl) (by decide) (by decide) (fun z0 => rm_sb l Z a0 hw [] n0 h0 z0 (how >>> ((4 : Int32) &&& 31)) (sbs >>> ((16 : Int32) &&& 31)) n447 (1 : Int32)) (fun v460 h461 qv460 => ?_)
    obtain ⟨s462, rfl, h1_s462, rfl⟩ := qv460
    show W K l _ n0 _ h0 0 0 116 #[.val (.int ln), .val (.int nbs), .val (.int sbs), .val (.int how), .val (.int (2 : Int32)), .val (.int (3 : Int32)), .val (.int n441), .val (.int n444), .val (.int n447), .val (.int s452), .val (.int s457), .unset, .unset, .unset, .unset] [(.int s462)]
    refine w_istore ok at_116 (L' := #[.val (.int ln), .val (.int nbs), .val (.int sbs), .val (.int how), .val (.int (2 : Int32)), .val (.int (3 : Int32)), .val (.int n441), .val (.int n444), .val (.int n447), .val (.int s452), .val (.int s457), .val (.int s462), .unset, .unset, .unset]) rfl ?_
    show W K l _ n0 _ h0 0 0 118 #[.val (.int ln), .val (.int nbs), .val (.int sbs), .val (.int how), .val (.int (2 : Int32)), .val (.int (3 : Int32)), .val (.int n441), .val (.int n444), .val (.int n447), .val (.int s452), .val (.int s457), .val (.int s462), .unset, .unset, .unset] []
    refine w_iload ok at_118 rfl ?_
    show W K l _ n0 _ h0 0 0 120 #[.val (.int ln), .val (.int nbs), .val (.int sbs), .val (.int how), .val (.int (2 : Int32)), .val (.int (3 : Int32)), .val (.int n441), .val (.int n444), .val (.int n447), .val (.int s452), .val (.int s457), .val (.int s462), .unset, .unset, .unset] [(.int (2 : Int32))]
    refine w_iload ok at_120 rfl ?_
    show W K l _ n0 _ h0 0 0 122 #[.val (.int ln), .val (.int nbs), .val (.int sbs), .val (.int how), .val (.int (2 : Int32)), .val (.int (3 : Int32)), .val (.int n441), .val (.int n444), .val (.int n447), .val (.int s452), .val (.int s457), .val (.int s462), .unset, .unset, .unset] [(.int s452), (.int (2 : Int32))]
    refine w_iload ok at_122 rfl ?_
    show W K l _ n0 _ h0 0 0 124 #[.val (.int ln), .val (.int nbs), .val (.int sbs), .val (.int how), .val (.int (2 : Int32)), .val (.int (3 : Int32)), .val (.int n441), .val (.int n444), .val (.int n447), .val (.int s452), .val (.int s457), .val (.int s462), .unset, .unset, .unset] [(.int s457), (.int s452), (.int (2 : Int32))]
    refine w_iload ok at_124 rfl ?_
    show W K l _ n0 _ h0 0 0 126 #[.val (.int ln), .val (.int nbs), .val (.int sbs), .val (.int how), .val (.int (2 : Int32)), .val (.int (3 : Int32)), .val (.int n441), .val (.int n444), .val (.int n447), .val (.int s452), .val (.int s457), .val (.int s462), .unset, .unset, .unset] [(.int s462), (.int s457), (.int s452), (.int (2 : Int32))]
    refine w_callS ok (y := (⟨"com/example/turnstile/turnstile/server/CommandsIsPinLaw", "make", "(IBBB)[B"⟩ : MethodName)) (argsL := [(.int (2 : Int32)), (.int s452), (.int s457), (.int s462)]) (rest := []) at_126 (hw _ (List.mem_of_getElem? (i := 7) rfl)) (hw _ (List.mem_of_getElem? (i := 8) rfl)) (hw _ (List.mem_of_getElem? (i := 2) rfl)) (hw _ (List.mem_of_getElem? (i := 9) rfl)) (by decide) pd_28IBBB295bB rfl rfl (by decide) (Nat.le_of_ble_eq_true rfl) (by decide) (by decide) (fun z0 => rm_mk2 l Z a0 hw [] n0 h0 z0 s452 s457 s462) (fun v463 h464 qv463 => ?_)
    obtain ⟨r465, rfl, sz_r465, ge_r465, K1, A_r465⟩ := qv463
    show W K l _ n0 _ h464 1 2 129 #[.val (.int ln), .val (.int nbs), .val (.int sbs), .val (.int how), .val (.int (2 : Int32)), .val (.int (3 : Int32)), .val (.int n441), .val (.int n444), .val (.int n447), .val (.int s452), .val (.int s457), .val (.int s462), .unset, .unset, .unset] [(.ref r465)]
    refine w_astore ok at_129 rfl (L' := #[.val (.int ln), .val (.int nbs), .val (.int sbs), .val (.int how), .val (.int (2 : Int32)), .val (.int (3 : Int32)), .val (.int n441), .val (.int n444), .val (.int n447), .val (.int s452), .val (.int s457), .val (.int s462), .val (.ref r465), .unset, .unset]) rfl ?_
    show W K l _ n0 _ h464 1 2 131 #[.val (.int ln), .val (.int nbs), .val (.int sbs), .val (.int how), .val (.int (2 : Int32)), .val (.int (3 : Int32)), .val (.int n441), .val (.int n444), .val (.int n447), .val (.int s452), .val (.int s457), .val (.int s462), .val (.ref r465), .unset, .unset] []
    refine w_iload ok at_131 rfl ?_
    show W K l _ n0 _ h464 1 2 133 #[.val (.int ln), .val (.int nbs), .val (.int sbs), .val (.int how), .val (.int (2 : Int32)), .val (.int (3 : Int32)), .val (.int n441), .val (.int n444), .val (.int n447), .val (.int s452), .val (.int s457), .val (.int s462), .val (.ref r465), .unset, .unset] [(.int (3 : Int32))]
    refine w_iload ok at_133 rfl ?_
    show W K l _ n0 _ h464 1 2 135 #[.val (.int ln), .val (.int nbs), .val (.int sbs), .val (.int how), .val (.int (2 : Int32)), .val (.int (3 : Int32)), .val (.int n441), .val (.int n444), .val (.int n447), .val (.int s452), .val (.int s457), .val (.int s462), .val (.ref r465), .unset, .unset] [(.int n441), (.int (3 : Int32))]
    refine w_iload ok at_135 rfl ?_
    show W K l _ n0 _ h464 1 2 137 #[.val (.int ln), .val (.int nbs), .val (.int sbs), .val (.int how), .val (.int (2 : Int32)), .val (.int (3 : Int32)), .val (.int n441), .val (.int n444), .val (.int n447), .val (.int s452), .val (.int s457), .val (.int s462), .val (.ref r465), .unset, .unset] [(.int n444), (.int n441), (.int (3 : Int32))]
    refine w_iload ok at_137 rfl ?_
    show W K l _ n0 _ h464 1 2 139 #[.val (.int ln), .val (.int nbs), .val (.int sbs), .val (.int how), .val (.int (2 : Int32)), .val (.int (3 : Int32)), .val (.int n441), .val (.int n444), .val (.int n447), .val (.int s452), .val (.int s457), .val (.int s462), .val (.ref r465), .unset, .unset] [(.int n447), (.int n444), (.int n441), (.int (3 : Int32))]
    refine w_callS ok (y := (⟨"com/example/turnstile/turnstile/server/CommandsIsPinLaw", "make", "(IBBB)[B"⟩ : MethodName)) (argsL := [(.int (3 : Int32)), (.int n441), (.int n444), (.int n447)]) (rest := []) at_139 (hw _ (List.mem_of_getElem? (i := 7) rfl)) (hw _ (List.mem_of_getElem? (i := 8) rfl)) (hw _ (List.mem_of_getElem? (i := 2) rfl)) (hw _ (List.mem_of_getElem? (i := 9) rfl)) (by decide) pd_28IBBB295bB rfl rfl (by decide) (Nat.le_of_ble_eq_true rfl) (by decide) (by decide) (fun z0 => rm_mk3 l Z a0 hw [] n0 h464 z0 n441 n444 n447) (fun v466 h467 qv466 => ?_)
    obtain ⟨r468, rfl, sz_r468, ge_r468, K1, A_r468⟩ := qv466
    have ne_r465_r468 : r465 ≠ r468 := Nat.ne_of_lt (Nat.lt_of_lt_of_le A_r465.lt sz_r468)
    replace A_r465 := A_r465.keep K1 nin0
    show W K l _ n0 _ h467 2 5 142 #[.val (.int ln), .val (.int nbs), .val (.int sbs), .val (.int how), .val (.int (2 : Int32)), .val (.int (3 : Int32)), .val (.int n441), .val (.int n444), .val (.int n447), .val (.int s452), .val (.int s457), .val (.int s462), .val (.ref r465), .unset, .unset] [(.ref r468)]
    refine w_astore ok at_142 rfl (L' := #[.val (.int ln), .val (.int nbs), .val (.int sbs), .val (.int how), .val (.int (2 : Int32)), .val (.int (3 : Int32)), .val (.int n441), .val (.int n444), .val (.int n447), .val (.int s452), .val (.int s457), .val (.int s462), .val (.ref r465), .val (.ref r468), .unset]) rfl ?_
    show W K l _ n0 _ h467 2 5 144 #[.val (.int ln), .val (.int nbs), .val (.int sbs), .val (.int how), .val (.int (2 : Int32)), .val (.int (3 : Int32)), .val (.int n441), .val (.int n444), .val (.int n447), .val (.int s452), .val (.int s457), .val (.int s462), .val (.ref r465), .val (.ref r468), .unset] []
    refine w_iload ok at_144 rfl ?_
    show W K l _ n0 _ h467 2 5 146 #[.val (.int ln), .val (.int nbs), .val (.int sbs), .val (.int how), .val (.int (2 : Int32)), .val (.int (3 : Int32)), .val (.int n441), .val (.int n444), .val (.int n447), .val (.int s452), .val (.int s457), .val (.int s462), .val (.ref r465), .val (.ref r468), .unset] [(.int (2 : Int32))]
    refine w_iload ok at_146 rfl ?_
    show W K l _ n0 _ h467 2 5 148 #[.val (.int ln), .val (.int nbs), .val (.int sbs), .val (.int how), .val (.int (2 : Int32)), .val (.int (3 : Int32)), .val (.int n441), .val (.int n444), .val (.int n447), .val (.int s452), .val (.int s457), .val (.int s462), .val (.ref r465), .val (.ref r468), .unset] [(.int (3 : Int32)), (.int (2 : Int32))]
    refine w_icmp_ne ok at_148 (pc' := 203) (by decide) (fun hc470 => ?_) (fun hc470 => False.elim (by revert hc470; decide))
    show W K l _ n0 _ h467 2 5 203 #[.val (.int ln), .val (.int nbs), .val (.int sbs), .val (.int how), .val (.int (2 : Int32)), .val (.int (3 : Int32)), .val (.int n441), .val (.int n444), .val (.int n447), .val (.int s452), .val (.int s457), .val (.int s462), .val (.ref r465), .val (.ref r468), .unset] []
    refine w_iconst ok at_203 (v := (0 : Int32)) rfl ?_
    show W K l _ n0 _ h467 2 5 204 #[.val (.int ln), .val (.int nbs), .val (.int sbs), .val (.int how), .val (.int (2 : Int32)), .val (.int (3 : Int32)), .val (.int n441), .val (.int n444), .val (.int n447), .val (.int s452), .val (.int s457), .val (.int s462), .val (.ref r465), .val (.ref r468), .unset] [(.int (0 : Int32))]
    refine w_istore ok at_204 (L' := #[.val (.int ln), .val (.int nbs), .val (.int sbs), .val (.int how), .val (.int (2 : Int32)), .val (.int (3 : Int32)), .val (.int n441), .val (.int n444), .val (.int n447), .val (.int s452), .val (.int s457), .val (.int s462), .val (.ref r465), .val (.ref r468), .val (.int (0 : Int32))]) rfl ?_
    show W K l _ n0 _ h467 2 5 206 #[.val (.int ln), .val (.int nbs), .val (.int sbs), .val (.int how), .val (.int (2 : Int32)), .val (.int (3 : Int32)), .val (.int n441), .val (.int n444), .val (.int n447), .val (.int s452), .val (.int s457), .val (.int s462), .val (.ref r465), .val (.ref r468), .val (.int (0 : Int32))] []
    refine w_aload ok at_206 rfl rfl ?_
    show W K l _ n0 _ h467 2 5 208 #[.val (.int ln), .val (.int nbs), .val (.int sbs), .val (.int how), .val (.int (2 : Int32)), .val (.int (3 : Int32)), .val (.int n441), .val (.int n444), .val (.int n447), .val (.int s452), .val (.int s457), .val (.int s462), .val (.ref r465), .val (.ref r468), .val (.int (0 : Int32))] [(.ref r465)]
    refine w_aload ok at_208 rfl rfl ?_
    show W K l _ n0 _ h467 2 5 210 #[.val (.int ln), .val (.int nbs), .val (.int sbs), .val (.int how), .val (.int (2 : Int32)), .val (.int (3 : Int32)), .val (.int n441), .val (.int n444), .val (.int n447), .val (.int s452), .val (.int s457), .val (.int s462), .val (.ref r465), .val (.ref r468), .val (.int (0 : Int32))] [(.ref r468), (.ref r465)]
    refine w_callS ok (y := (⟨"com/example/turnstile/turnstile/server/Commands", "is", "([B[B)Z"⟩ : MethodName)) (argsL := [(.ref r465), (.ref r468)]) (rest := []) at_210 (hw _ (List.mem_of_getElem? (i := 11) rfl)) (hw _ (List.mem_of_getElem? (i := 12) rfl)) (hw _ (List.mem_of_getElem? (i := 13) rfl)) (hw _ (List.mem_of_getElem? (i := 14) rfl)) (by decide) pd_285bB5bB29Z rfl rfl (by decide) (Nat.le_of_ble_eq_true rfl) (by decide) (by decide) (fun z0 => rm_is l Z a0 hw [] n0 h467 z0 r465 r468 [nar .byte s452, nar .byte s457] [nar .byte n441, nar .byte n444, nar .byte n447] A_r465 A_r468) (fun v471 h472 qv471 => ?_)
    obtain ⟨rfl, rfl⟩ := qv471
    show W K l _ n0 _ h467 2 5 213 #[.val (.int ln), .val (.int nbs), .val (.int sbs), .val (.int how), .val (.int (2 : Int32)), .val (.int (3 : Int32)), .val (.int n441), .val (.int n444), .val (.int n447), .val (.int s452), .val (.int s457), .val (.int s462), .val (.ref r465), .val (.ref r468), .val (.int (0 : Int32))] [(.int (nar .boolean (own_isl [nar .byte s452, nar .byte s457] [nar .byte n441, nar .byte n444, nar .byte n447])))]
    refine w_iload ok at_213 rfl ?_
    show W K l _ n0 _ h467 2 5 215 #[.val (.int ln), .val (.int nbs), .val (.int sbs), .val (.int how), .val (.int (2 : Int32)), .val (.int (3 : Int32)), .val (.int n441), .val (.int n444), .val (.int n447), .val (.int s452), .val (.int s457), .val (.int s462), .val (.ref r465), .val (.ref r468), .val (.int (0 : Int32))] [(.int (0 : Int32)), (.int (nar .boolean (own_isl [nar .byte s452, nar .byte s457] [nar .byte n441, nar .byte n444, nar .byte n447])))]
    refine w_icmp_ne ok at_215 (pc' := 222) (by decide) (fun hc474 => False.elim (by exact hc474 (by rw [own_isl_len (by simp)] <;> rfl))) (fun hc474 => ?_)
    show W K l _ n0 _ h467 2 5 218 #[.val (.int ln), .val (.int nbs), .val (.int sbs), .val (.int how), .val (.int (2 : Int32)), .val (.int (3 : Int32)), .val (.int n441), .val (.int n444), .val (.int n447), .val (.int s452), .val (.int s457), .val (.int s462), .val (.ref r465), .val (.ref r468), .val (.int (0 : Int32))] []
    refine w_iconst ok at_218 (v := (1 : Int32)) rfl ?_
    show W K l _ n0 _ h467 2 5 219 #[.val (.int ln), .val (.int nbs), .val (.int sbs), .val (.int how), .val (.int (2 : Int32)), .val (.int (3 : Int32)), .val (.int n441), .val (.int n444), .val (.int n447), .val (.int s452), .val (.int s457), .val (.int s462), .val (.ref r465), .val (.ref r468), .val (.int (0 : Int32))] [(.int (1 : Int32))]
    refine w_goto ok at_219 (pc' := 223) (by decide) ?_
    show W K l _ n0 _ h467 2 5 223 #[.val (.int ln), .val (.int nbs), .val (.int sbs), .val (.int how), .val (.int (2 : Int32)), .val (.int (3 : Int32)), .val (.int n441), .val (.int n444), .val (.int n447), .val (.int s452), .val (.int s457), .val (.int s462), .val (.ref r465), .val (.ref r468), .val (.int (0 : Int32))] [(.int (1 : Int32))]
    refine w_bret ok (by simp) at_223 (by decide) (by decide) ?_
    exact rfl
  · skip
    show W K l _ n0 _ h0 0 0 25 #[.val (.int ln), .val (.int nbs), .val (.int sbs), .val (.int how), .val (.int (3 : Int32)), .val (.int (0 : Int32)), .unset, .unset, .unset, .unset, .unset, .unset, .unset, .unset, .unset] []
    refine w_iloadN ok at_25 rfl ?_
    show W K l _ n0 _ h0 0 0 26 #[.val (.int ln), .val (.int nbs), .val (.int sbs), .val (.int how), .val (.int (3 : Int32)), .val (.int (0 : Int32)), .unset, .unset, .unset, .unset, .unset, .unset, .unset, .unset, .unset] [(.int nbs)]
    refine w_callS ok (y := (⟨"com/example/turnstile/turnstile/server/CommandsIsPinLaw", "nameByte", "(I)B"⟩ : MethodName)) (argsL := [(.int nbs)]) (rest := []) at_26 (hw _ (List.mem_of_getElem? (i := 0) rfl)) (hw _ (List.mem_of_getElem? (i := 1) rfl)) (hw _ (List.mem_of_getElem? (i := 2) rfl)) (hw _ (List.mem_of_getElem? (i := 3) rfl)) (by decide) pd_28I29B rfl rfl (by decide) (Nat.le_of_ble_eq_true rfl) (by decide) (by decide) (fun z0 => rm_nb l Z a0 hw [] n0 h0 z0 nbs) (fun v475 h476 qv475 => ?_)
    obtain ⟨n477, rfl, h1_n477, h2_n477, rfl⟩ := qv475
    show W K l _ n0 _ h0 0 0 29 #[.val (.int ln), .val (.int nbs), .val (.int sbs), .val (.int how), .val (.int (3 : Int32)), .val (.int (0 : Int32)), .unset, .unset, .unset, .unset, .unset, .unset, .unset, .unset, .unset] [(.int n477)]
    refine w_istore ok at_29 (L' := #[.val (.int ln), .val (.int nbs), .val (.int sbs), .val (.int how), .val (.int (3 : Int32)), .val (.int (0 : Int32)), .val (.int n477), .unset, .unset, .unset, .unset, .unset, .unset, .unset, .unset]) rfl ?_
    show W K l _ n0 _ h0 0 0 31 #[.val (.int ln), .val (.int nbs), .val (.int sbs), .val (.int how), .val (.int (3 : Int32)), .val (.int (0 : Int32)), .val (.int n477), .unset, .unset, .unset, .unset, .unset, .unset, .unset, .unset] []
    refine w_iloadN ok at_31 rfl ?_
    show W K l _ n0 _ h0 0 0 32 #[.val (.int ln), .val (.int nbs), .val (.int sbs), .val (.int how), .val (.int (3 : Int32)), .val (.int (0 : Int32)), .val (.int n477), .unset, .unset, .unset, .unset, .unset, .unset, .unset, .unset] [(.int nbs)]
    refine w_bipush ok at_32 (v := (8 : Int32)) rfl ?_
    show W K l _ n0 _ h0 0 0 34 #[.val (.int ln), .val (.int nbs), .val (.int sbs), .val (.int how), .val (.int (3 : Int32)), .val (.int (0 : Int32)), .val (.int n477), .unset, .unset, .unset, .unset, .unset, .unset, .unset, .unset] [(.int (8 : Int32)), (.int nbs)]
    refine w_ishr ok at_34 ?_
    show W K l _ n0 _ h0 0 0 35 #[.val (.int ln), .val (.int nbs), .val (.int sbs), .val (.int how), .val (.int (3 : Int32)), .val (.int (0 : Int32)), .val (.int n477), .unset, .unset, .unset, .unset, .unset, .unset, .unset, .unset] [(.int (nbs >>> ((8 : Int32) &&& 31)))]
    refine w_callS ok (y := (⟨"com/example/turnstile/turnstile/server/CommandsIsPinLaw", "nameByte", "(I)B"⟩ : MethodName)) (argsL := [(.int (nbs >>> ((8 : Int32) &&& 31)))]) (rest := []) at_35 (hw _ (List.mem_of_getElem? (i := 0) rfl)) (hw _ (List.mem_of_getElem? (i := 1) rfl)) (hw _ (List.mem_of_getElem? (i := 2) rfl)) (hw _ (List.mem_of_getElem? (i := 3) rfl)) (by decide) pd_28I29B rfl rfl (by decide) (Nat.le_of_ble_eq_true rfl) (by decide) (by decide) (fun z0 => rm_nb l Z a0 hw [] n0 h0 z0 (nbs >>> ((8 : Int32) &&& 31))) (fun v478 h479 qv478 => ?_)
    obtain ⟨n480, rfl, h1_n480, h2_n480, rfl⟩ := qv478
    show W K l _ n0 _ h0 0 0 38 #[.val (.int ln), .val (.int nbs), .val (.int sbs), .val (.int how), .val (.int (3 : Int32)), .val (.int (0 : Int32)), .val (.int n477), .unset, .unset, .unset, .unset, .unset, .unset, .unset, .unset] [(.int n480)]
    refine w_istore ok at_38 (L' := #[.val (.int ln), .val (.int nbs), .val (.int sbs), .val (.int how), .val (.int (3 : Int32)), .val (.int (0 : Int32)), .val (.int n477), .val (.int n480), .unset, .unset, .unset, .unset, .unset, .unset, .unset]) rfl ?_
    show W K l _ n0 _ h0 0 0 40 #[.val (.int ln), .val (.int nbs), .val (.int sbs), .val (.int how), .val (.int (3 : Int32)), .val (.int (0 : Int32)), .val (.int n477), .val (.int n480), .unset, .unset, .unset, .unset, .unset, .unset, .unset] []
    refine w_iloadN ok at_40 rfl ?_
    show W K l _ n0 _ h0 0 0 41 #[.val (.int ln), .val (.int nbs), .val (.int sbs), .val (.int how), .val (.int (3 : Int32)), .val (.int (0 : Int32)), .val (.int n477), .val (.int n480), .unset, .unset, .unset, .unset, .unset, .unset, .unset] [(.int nbs)]
    refine w_bipush ok at_41 (v := (16 : Int32)) rfl ?_
    show W K l _ n0 _ h0 0 0 43 #[.val (.int ln), .val (.int nbs), .val (.int sbs), .val (.int how), .val (.int (3 : Int32)), .val (.int (0 : Int32)), .val (.int n477), .val (.int n480), .unset, .unset, .unset, .unset, .unset, .unset, .unset] [(.int (16 : Int32)), (.int nbs)]
    refine w_ishr ok at_43 ?_
    show W K l _ n0 _ h0 0 0 44 #[.val (.int ln), .val (.int nbs), .val (.int sbs), .val (.int how), .val (.int (3 : Int32)), .val (.int (0 : Int32)), .val (.int n477), .val (.int n480), .unset, .unset, .unset, .unset, .unset, .unset, .unset] [(.int (nbs >>> ((16 : Int32) &&& 31)))]
    refine w_callS ok (y := (⟨"com/example/turnstile/turnstile/server/CommandsIsPinLaw", "nameByte", "(I)B"⟩ : MethodName)) (argsL := [(.int (nbs >>> ((16 : Int32) &&& 31)))]) (rest := []) at_44 (hw _ (List.mem_of_getElem? (i := 0) rfl)) (hw _ (List.mem_of_getElem? (i := 1) rfl)) (hw _ (List.mem_of_getElem? (i := 2) rfl)) (hw _ (List.mem_of_getElem? (i := 3) rfl)) (by decide) pd_28I29B rfl rfl (by decide) (Nat.le_of_ble_eq_true rfl) (by decide) (by decide) (fun z0 => rm_nb l Z a0 hw [] n0 h0 z0 (nbs >>> ((16 : Int32) &&& 31))) (fun v481 h482 qv481 => ?_)
    obtain ⟨n483, rfl, h1_n483, h2_n483, rfl⟩ := qv481
    show W K l _ n0 _ h0 0 0 47 #[.val (.int ln), .val (.int nbs), .val (.int sbs), .val (.int how), .val (.int (3 : Int32)), .val (.int (0 : Int32)), .val (.int n477), .val (.int n480), .unset, .unset, .unset, .unset, .unset, .unset, .unset] [(.int n483)]
    refine w_istore ok at_47 (L' := #[.val (.int ln), .val (.int nbs), .val (.int sbs), .val (.int how), .val (.int (3 : Int32)), .val (.int (0 : Int32)), .val (.int n477), .val (.int n480), .val (.int n483), .unset, .unset, .unset, .unset, .unset, .unset]) rfl ?_
    show W K l _ n0 _ h0 0 0 49 #[.val (.int ln), .val (.int nbs), .val (.int sbs), .val (.int how), .val (.int (3 : Int32)), .val (.int (0 : Int32)), .val (.int n477), .val (.int n480), .val (.int n483), .unset, .unset, .unset, .unset, .unset, .unset] []
    refine w_iloadN ok at_49 rfl ?_
    show W K l _ n0 _ h0 0 0 50 #[.val (.int ln), .val (.int nbs), .val (.int sbs), .val (.int how), .val (.int (3 : Int32)), .val (.int (0 : Int32)), .val (.int n477), .val (.int n480), .val (.int n483), .unset, .unset, .unset, .unset, .unset, .unset] [(.int how)]
    refine w_iloadN ok at_50 rfl ?_
    show W K l _ n0 _ h0 0 0 51 #[.val (.int ln), .val (.int nbs), .val (.int sbs), .val (.int how), .val (.int (3 : Int32)), .val (.int (0 : Int32)), .val (.int n477), .val (.int n480), .val (.int n483), .unset, .unset, .unset, .unset, .unset, .unset] [(.int sbs), (.int how)]
    refine w_iload ok at_51 rfl ?_
    show W K l _ n0 _ h0 0 0 53 #[.val (.int ln), .val (.int nbs), .val (.int sbs), .val (.int how), .val (.int (3 : Int32)), .val (.int (0 : Int32)), .val (.int n477), .val (.int n480), .val (.int n483), .unset, .unset, .unset, .unset, .unset, .unset] [(.int n477), (.int sbs), (.int how)]
    refine w_iload ok at_53 rfl ?_
    show W K l _ n0 _ h0 0 0 55 #[.val (.int ln), .val (.int nbs), .val (.int sbs), .val (.int how), .val (.int (3 : Int32)), .val (.int (0 : Int32)), .val (.int n477), .val (.int n480), .val (.int n483), .unset, .unset, .unset, .unset, .unset, .unset] [(.int (0 : Int32)), (.int n477), (.int sbs), (.int how)]
    refine w_if_le ok at_55 (pc' := 62) (by decide) (fun hc485 => ?_) (fun hc485 => False.elim (by revert hc485; decide))
    show W K l _ n0 _ h0 0 0 62 #[.val (.int ln), .val (.int nbs), .val (.int sbs), .val (.int how), .val (.int (3 : Int32)), .val (.int (0 : Int32)), .val (.int n477), .val (.int n480), .val (.int n483), .unset, .unset, .unset, .unset, .unset, .unset] [(.int n477), (.int sbs), (.int how)]
    refine w_iconst ok at_62 (v := (0 : Int32)) rfl ?_
    show W K l _ n0 _ h0 0 0 63 #[.val (.int ln), .val (.int nbs), .val (.int sbs), .val (.int how), .val (.int (3 : Int32)), .val (.int (0 : Int32)), .val (.int n477), .val (.int n480), .val (.int n483), .unset, .unset, .unset, .unset, .unset, .unset] [(.int (0 : Int32)), (.int n477), (.int sbs), (.int how)]
    refine w_callS ok (y := (⟨"com/example/turnstile/turnstile/server/CommandsIsPinLaw", "sentByte", "(IIBZ)B"⟩ : MethodName)) (argsL := [(.int how), (.int sbs), (.int n477), (.int (0 : Int32))]) (rest := []) at_63 (hw _ (List.mem_of_getElem? (i := 4) rfl)) (hw _ (List.mem_of_getElem? (i := 5) rfl)) (hw _ (List.mem_of_getElem? (i := 2) rfl)) (hw _ (List.mem_of_getElem? (i := 6) rfl)) (by decide) pd_28IIBZ29B rfl rfl (by decide) (Nat.le_of_ble_eq_true rfl) (by decide) (by decide) (fun z0 => rm_sb l Z a0 hw [] n0 h0 z0 how sbs n477 (0 : Int32)) (fun v486 h487 qv486 => ?_)
    obtain ⟨s488, rfl, h1_s488, rfl⟩ := qv486
    show W K l _ n0 _ h0 0 0 66 #[.val (.int ln), .val (.int nbs), .val (.int sbs), .val (.int how), .val (.int (3 : Int32)), .val (.int (0 : Int32)), .val (.int n477), .val (.int n480), .val (.int n483), .unset, .unset, .unset, .unset, .unset, .unset] [(.int s488)]
    refine w_istore ok at_66 (L' := #[.val (.int ln), .val (.int nbs), .val (.int sbs), .val (.int how), .val (.int (3 : Int32)), .val (.int (0 : Int32)), .val (.int n477), .val (.int n480), .val (.int n483), .val (.int s488), .unset, .unset, .unset, .unset, .unset]) rfl ?_
    show W K l _ n0 _ h0 0 0 68 #[.val (.int ln), .val (.int nbs), .val (.int sbs), .val (.int how), .val (.int (3 : Int32)), .val (.int (0 : Int32)), .val (.int n477), .val (.int n480), .val (.int n483), .val (.int s488), .unset, .unset, .unset, .unset, .unset] []
    refine w_iloadN ok at_68 rfl ?_
    show W K l _ n0 _ h0 0 0 69 #[.val (.int ln), .val (.int nbs), .val (.int sbs), .val (.int how), .val (.int (3 : Int32)), .val (.int (0 : Int32)), .val (.int n477), .val (.int n480), .val (.int n483), .val (.int s488), .unset, .unset, .unset, .unset, .unset] [(.int how)]
    refine w_iconst ok at_69 (v := (2 : Int32)) rfl ?_
    show W K l _ n0 _ h0 0 0 70 #[.val (.int ln), .val (.int nbs), .val (.int sbs), .val (.int how), .val (.int (3 : Int32)), .val (.int (0 : Int32)), .val (.int n477), .val (.int n480), .val (.int n483), .val (.int s488), .unset, .unset, .unset, .unset, .unset] [(.int (2 : Int32)), (.int how)]
    refine w_ishr ok at_70 ?_
    show W K l _ n0 _ h0 0 0 71 #[.val (.int ln), .val (.int nbs), .val (.int sbs), .val (.int how), .val (.int (3 : Int32)), .val (.int (0 : Int32)), .val (.int n477), .val (.int n480), .val (.int n483), .val (.int s488), .unset, .unset, .unset, .unset, .unset] [(.int (how >>> ((2 : Int32) &&& 31)))]
    refine w_iloadN ok at_71 rfl ?_
    show W K l _ n0 _ h0 0 0 72 #[.val (.int ln), .val (.int nbs), .val (.int sbs), .val (.int how), .val (.int (3 : Int32)), .val (.int (0 : Int32)), .val (.int n477), .val (.int n480), .val (.int n483), .val (.int s488), .unset, .unset, .unset, .unset, .unset] [(.int sbs), (.int (how >>> ((2 : Int32) &&& 31)))]
    refine w_bipush ok at_72 (v := (8 : Int32)) rfl ?_
    show W K l _ n0 _ h0 0 0 74 #[.val (.int ln), .val (.int nbs), .val (.int sbs), .val (.int how), .val (.int (3 : Int32)), .val (.int (0 : Int32)), .val (.int n477), .val (.int n480), .val (.int n483), .val (.int s488), .unset, .unset, .unset, .unset, .unset] [(.int (8 : Int32)), (.int sbs), (.int (how >>> ((2 : Int32) &&& 31)))]
    refine w_ishr ok at_74 ?_
    show W K l _ n0 _ h0 0 0 75 #[.val (.int ln), .val (.int nbs), .val (.int sbs), .val (.int how), .val (.int (3 : Int32)), .val (.int (0 : Int32)), .val (.int n477), .val (.int n480), .val (.int n483), .val (.int s488), .unset, .unset, .unset, .unset, .unset] [(.int (sbs >>> ((8 : Int32) &&& 31))), (.int (how >>> ((2 : Int32) &&& 31)))]
    refine w_iload ok at_75 rfl ?_
    show W K l _ n0 _ h0 0 0 77 #[.val (.int ln), .val (.int nbs), .val (.int sbs), .val (.int how), .val (.int (3 : Int32)), .val (.int (0 : Int32)), .val (.int n477), .val (.int n480), .val (.int n483), .val (.int s488), .unset, .unset, .unset, .unset, .unset] [(.int n480), (.int (sbs >>> ((8 : Int32) &&& 31))), (.int (how >>> ((2 : Int32) &&& 31)))]
    refine w_iload ok at_77 rfl ?_
    show W K l _ n0 _ h0 0 0 79 #[.val (.int ln), .val (.int nbs), .val (.int sbs), .val (.int how), .val (.int (3 : Int32)), .val (.int (0 : Int32)), .val (.int n477), .val (.int n480), .val (.int n483), .val (.int s488), .unset, .unset, .unset, .unset, .unset] [(.int (0 : Int32)), (.int n480), (.int (sbs >>> ((8 : Int32) &&& 31))), (.int (how >>> ((2 : Int32) &&& 31)))]
    refine w_iconst ok at_79 (v := (1 : Int32)) rfl ?_
    show W K l _ n0 _ h0 0 0 80 #[.val (.int ln), .val (.int nbs), .val (.int sbs), .val (.int how), .val (.int (3 : Int32)), .val (.int (0 : Int32)), .val (.int n477), .val (.int n480), .val (.int n483), .val (.int s488), .unset, .unset, .unset, .unset, .unset] [(.int (1 : Int32)), (.int (0 : Int32)), (.int n480), (.int (sbs >>> ((8 : Int32) &&& 31))), (.int (how >>> ((2 : Int32) &&& 31)))]
    refine w_icmp_le ok at_80 (pc' := 87) (by decide) (fun hc490 => ?_) (fun hc490 => False.elim (by revert hc490; decide))
    show W K l _ n0 _ h0 0 0 87 #[.val (.int ln), .val (.int nbs), .val (.int sbs), .val (.int how), .val (.int (3 : Int32)), .val (.int (0 : Int32)), .val (.int n477), .val (.int n480), .val (.int n483), .val (.int s488), .unset, .unset, .unset, .unset, .unset] [(.int n480), (.int (sbs >>> ((8 : Int32) &&& 31))), (.int (how >>> ((2 : Int32) &&& 31)))]
    refine w_iconst ok at_87 (v := (0 : Int32)) rfl ?_
    show W K l _ n0 _ h0 0 0 88 #[.val (.int ln), .val (.int nbs), .val (.int sbs), .val (.int how), .val (.int (3 : Int32)), .val (.int (0 : Int32)), .val (.int n477), .val (.int n480), .val (.int n483), .val (.int s488), .unset, .unset, .unset, .unset, .unset] [(.int (0 : Int32)), (.int n480), (.int (sbs >>> ((8 : Int32) &&& 31))), (.int (how >>> ((2 : Int32) &&& 31)))]
    refine w_callS ok (y := (⟨"com/example/turnstile/turnstile/server/CommandsIsPinLaw", "sentByte", "(IIBZ)B"⟩ : MethodName)) (argsL := [(.int (how >>> ((2 : Int32) &&& 31))), (.int (sbs >>> ((8 : Int32) &&& 31))), (.int n480), (.int (0 : Int32))]) (rest := []) at_88 (hw _ (List.mem_of_getElem? (i := 4) rfl)) (hw _ (List.mem_of_getElem? (i := 5) rfl)) (hw _ (List.mem_of_getElem? (i := 2) rfl)) (hw _ (List.mem_of_getElem? (i := 6) rfl)) (by decide) pd_28IIBZ29B rfl rfl (by decide) (Nat.le_of_ble_eq_true rfl) (by decide) (by decide) (fun z0 => rm_sb l Z a0 hw [] n0 h0 z0 (how >>> ((2 : Int32) &&& 31)) (sbs >>> ((8 : Int32) &&& 31)) n480 (0 : Int32)) (fun v491 h492 qv491 => ?_)
    obtain ⟨s493, rfl, h1_s493, rfl⟩ := qv491
    show W K l _ n0 _ h0 0 0 91 #[.val (.int ln), .val (.int nbs), .val (.int sbs), .val (.int how), .val (.int (3 : Int32)), .val (.int (0 : Int32)), .val (.int n477), .val (.int n480), .val (.int n483), .val (.int s488), .unset, .unset, .unset, .unset, .unset] [(.int s493)]
    refine w_istore ok at_91 (L' := #[.val (.int ln), .val (.int nbs), .val (.int sbs), .val (.int how), .val (.int (3 : Int32)), .val (.int (0 : Int32)), .val (.int n477), .val (.int n480), .val (.int n483), .val (.int s488), .val (.int s493), .unset, .unset, .unset, .unset]) rfl ?_
    show W K l _ n0 _ h0 0 0 93 #[.val (.int ln), .val (.int nbs), .val (.int sbs), .val (.int how), .val (.int (3 : Int32)), .val (.int (0 : Int32)), .val (.int n477), .val (.int n480), .val (.int n483), .val (.int s488), .val (.int s493), .unset, .unset, .unset, .unset] []
    refine w_iloadN ok at_93 rfl ?_
    show W K l _ n0 _ h0 0 0 94 #[.val (.int ln), .val (.int nbs), .val (.int sbs), .val (.int how), .val (.int (3 : Int32)), .val (.int (0 : Int32)), .val (.int n477), .val (.int n480), .val (.int n483), .val (.int s488), .val (.int s493), .unset, .unset, .unset, .unset] [(.int how)]
    refine w_iconst ok at_94 (v := (4 : Int32)) rfl ?_
    show W K l _ n0 _ h0 0 0 95 #[.val (.int ln), .val (.int nbs), .val (.int sbs), .val (.int how), .val (.int (3 : Int32)), .val (.int (0 : Int32)), .val (.int n477), .val (.int n480), .val (.int n483), .val (.int s488), .val (.int s493), .unset, .unset, .unset, .unset] [(.int (4 : Int32)), (.int how)]
    refine w_ishr ok at_95 ?_
    show W K l _ n0 _ h0 0 0 96 #[.val (.int ln), .val (.int nbs), .val (.int sbs), .val (.int how), .val (.int (3 : Int32)), .val (.int (0 : Int32)), .val (.int n477), .val (.int n480), .val (.int n483), .val (.int s488), .val (.int s493), .unset, .unset, .unset, .unset] [(.int (how >>> ((4 : Int32) &&& 31)))]
    refine w_iloadN ok at_96 rfl ?_
    show W K l _ n0 _ h0 0 0 97 #[.val (.int ln), .val (.int nbs), .val (.int sbs), .val (.int how), .val (.int (3 : Int32)), .val (.int (0 : Int32)), .val (.int n477), .val (.int n480), .val (.int n483), .val (.int s488), .val (.int s493), .unset, .unset, .unset, .unset] [(.int sbs), (.int (how >>> ((4 : Int32) &&& 31)))]
    refine w_bipush ok at_97 (v := (16 : Int32)) rfl ?_
    show W K l _ n0 _ h0 0 0 99 #[.val (.int ln), .val (.int nbs), .val (.int sbs), .val (.int how), .val (.int (3 : Int32)), .val (.int (0 : Int32)), .val (.int n477), .val (.int n480), .val (.int n483), .val (.int s488), .val (.int s493), .unset, .unset, .unset, .unset] [(.int (16 : Int32)), (.int sbs), (.int (how >>> ((4 : Int32) &&& 31)))]
    refine w_ishr ok at_99 ?_
    show W K l _ n0 _ h0 0 0 100 #[.val (.int ln), .val (.int nbs), .val (.int sbs), .val (.int how), .val (.int (3 : Int32)), .val (.int (0 : Int32)), .val (.int n477), .val (.int n480), .val (.int n483), .val (.int s488), .val (.int s493), .unset, .unset, .unset, .unset] [(.int (sbs >>> ((16 : Int32) &&& 31))), (.int (how >>> ((4 : Int32) &&& 31)))]
    refine w_iload ok at_100 rfl ?_
    show W K l _ n0 _ h0 0 0 102 #[.val (.int ln), .val (.int nbs), .val (.int sbs), .val (.int how), .val (.int (3 : Int32)), .val (.int (0 : Int32)), .val (.int n477), .val (.int n480), .val (.int n483), .val (.int s488), .val (.int s493), .unset, .unset, .unset, .unset] [(.int n483), (.int (sbs >>> ((16 : Int32) &&& 31))), (.int (how >>> ((4 : Int32) &&& 31)))]
    refine w_iload ok at_102 rfl ?_
    show W K l _ n0 _ h0 0 0 104 #[.val (.int ln), .val (.int nbs), .val (.int sbs), .val (.int how), .val (.int (3 : Int32)), .val (.int (0 : Int32)), .val (.int n477), .val (.int n480), .val (.int n483), .val (.int s488), .val (.int s493), .unset, .unset, .unset, .unset] [(.int (0 : Int32)), (.int n483), (.int (sbs >>> ((16 : Int32) &&& 31))), (.int (how >>> ((4 : Int32) &&& 31)))]
    refine w_iconst ok at_104 (v := (2 : Int32)) rfl ?_
    show W K l _ n0 _ h0 0 0 105 #[.val (.int ln), .val (.int nbs), .val (.int sbs), .val (.int how), .val (.int (3 : Int32)), .val (.int (0 : Int32)), .val (.int n477), .val (.int n480), .val (.int n483), .val (.int s488), .val (.int s493), .unset, .unset, .unset, .unset] [(.int (2 : Int32)), (.int (0 : Int32)), (.int n483), (.int (sbs >>> ((16 : Int32) &&& 31))), (.int (how >>> ((4 : Int32) &&& 31)))]
    refine w_icmp_le ok at_105 (pc' := 112) (by decide) (fun hc495 => ?_) (fun hc495 => False.elim (by revert hc495; decide))
    show W K l _ n0 _ h0 0 0 112 #[.val (.int ln), .val (.int nbs), .val (.int sbs), .val (.int how), .val (.int (3 : Int32)), .val (.int (0 : Int32)), .val (.int n477), .val (.int n480), .val (.int n483), .val (.int s488), .val (.int s493), .unset, .unset, .unset, .unset] [(.int n483), (.int (sbs >>> ((16 : Int32) &&& 31))), (.int (how >>> ((4 : Int32) &&& 31)))]
    refine w_iconst ok at_112 (v := (0 : Int32)) rfl ?_
    show W K l _ n0 _ h0 0 0 113 #[.val (.int ln), .val (.int nbs), .val (.int sbs), .val (.int how), .val (.int (3 : Int32)), .val (.int (0 : Int32)), .val (.int n477), .val (.int n480), .val (.int n483), .val (.int s488), .val (.int s493), .unset, .unset, .unset, .unset] [(.int (0 : Int32)), (.int n483), (.int (sbs >>> ((16 : Int32) &&& 31))), (.int (how >>> ((4 : Int32) &&& 31)))]
    refine w_callS ok (y := (⟨"com/example/turnstile/turnstile/server/CommandsIsPinLaw", "sentByte", "(IIBZ)B"⟩ : MethodName)) (argsL := [(.int (how >>> ((4 : Int32) &&& 31))), (.int (sbs >>> ((16 : Int32) &&& 31))), (.int n483), (.int (0 : Int32))]) (rest := []) at_113 (hw _ (List.mem_of_getElem? (i := 4) rfl)) (hw _ (List.mem_of_getElem? (i := 5) rfl)) (hw _ (List.mem_of_getElem? (i := 2) rfl)) (hw _ (List.mem_of_getElem? (i := 6) rfl)) (by decide) pd_28IIBZ29B rfl rfl (by decide) (Nat.le_of_ble_eq_true rfl) (by decide) (by decide) (fun z0 => rm_sb l Z a0 hw [] n0 h0 z0 (how >>> ((4 : Int32) &&& 31)) (sbs >>> ((16 : Int32) &&& 31)) n483 (0 : Int32)) (fun v496 h497 qv496 => ?_)
    obtain ⟨s498, rfl, h1_s498, rfl⟩ := qv496
    show W K l _ n0 _ h0 0 0 116 #[.val (.int ln), .val (.int nbs), .val (.int sbs), .val (.int how), .val (.int (3 : Int32)), .val (.int (0 : Int32)), .val (.int n477), .val (.int n480), .val (.int n483), .val (.int s488), .val (.int s493), .unset, .unset, .unset, .unset] [(.int s498)]
    refine w_istore ok at_116 (L' := #[.val (.int ln), .val (.int nbs), .val (.int sbs), .val (.int how), .val (.int (3 : Int32)), .val (.int (0 : Int32)), .val (.int n477), .val (.int n480), .val (.int n483), .val (.int s488), .val (.int s493), .val (.int s498), .unset, .unset, .unset]) rfl ?_
    show W K l _ n0 _ h0 0 0 118 #[.val (.int ln), .val (.int nbs), .val (.int sbs), .val (.int how), .val (.int (3 : Int32)), .val (.int (0 : Int32)), .val (.int n477), .val (.int n480), .val (.int n483), .val (.int s488), .val (.int s493), .val (.int s498), .unset, .unset, .unset] []
    refine w_iload ok at_118 rfl ?_
    show W K l _ n0 _ h0 0 0 120 #[.val (.int ln), .val (.int nbs), .val (.int sbs), .val (.int how), .val (.int (3 : Int32)), .val (.int (0 : Int32)), .val (.int n477), .val (.int n480), .val (.int n483), .val (.int s488), .val (.int s493), .val (.int s498), .unset, .unset, .unset] [(.int (3 : Int32))]
    refine w_iload ok at_120 rfl ?_
    show W K l _ n0 _ h0 0 0 122 #[.val (.int ln), .val (.int nbs), .val (.int sbs), .val (.int how), .val (.int (3 : Int32)), .val (.int (0 : Int32)), .val (.int n477), .val (.int n480), .val (.int n483), .val (.int s488), .val (.int s493), .val (.int s498), .unset, .unset, .unset] [(.int s488), (.int (3 : Int32))]
    refine w_iload ok at_122 rfl ?_
    show W K l _ n0 _ h0 0 0 124 #[.val (.int ln), .val (.int nbs), .val (.int sbs), .val (.int how), .val (.int (3 : Int32)), .val (.int (0 : Int32)), .val (.int n477), .val (.int n480), .val (.int n483), .val (.int s488), .val (.int s493), .val (.int s498), .unset, .unset, .unset] [(.int s493), (.int s488), (.int (3 : Int32))]
    refine w_iload ok at_124 rfl ?_
    show W K l _ n0 _ h0 0 0 126 #[.val (.int ln), .val (.int nbs), .val (.int sbs), .val (.int how), .val (.int (3 : Int32)), .val (.int (0 : Int32)), .val (.int n477), .val (.int n480), .val (.int n483), .val (.int s488), .val (.int s493), .val (.int s498), .unset, .unset, .unset] [(.int s498), (.int s493), (.int s488), (.int (3 : Int32))]
    refine w_callS ok (y := (⟨"com/example/turnstile/turnstile/server/CommandsIsPinLaw", "make", "(IBBB)[B"⟩ : MethodName)) (argsL := [(.int (3 : Int32)), (.int s488), (.int s493), (.int s498)]) (rest := []) at_126 (hw _ (List.mem_of_getElem? (i := 7) rfl)) (hw _ (List.mem_of_getElem? (i := 8) rfl)) (hw _ (List.mem_of_getElem? (i := 2) rfl)) (hw _ (List.mem_of_getElem? (i := 9) rfl)) (by decide) pd_28IBBB295bB rfl rfl (by decide) (Nat.le_of_ble_eq_true rfl) (by decide) (by decide) (fun z0 => rm_mk3 l Z a0 hw [] n0 h0 z0 s488 s493 s498) (fun v499 h500 qv499 => ?_)
    obtain ⟨r501, rfl, sz_r501, ge_r501, K1, A_r501⟩ := qv499
    show W K l _ n0 _ h500 1 3 129 #[.val (.int ln), .val (.int nbs), .val (.int sbs), .val (.int how), .val (.int (3 : Int32)), .val (.int (0 : Int32)), .val (.int n477), .val (.int n480), .val (.int n483), .val (.int s488), .val (.int s493), .val (.int s498), .unset, .unset, .unset] [(.ref r501)]
    refine w_astore ok at_129 rfl (L' := #[.val (.int ln), .val (.int nbs), .val (.int sbs), .val (.int how), .val (.int (3 : Int32)), .val (.int (0 : Int32)), .val (.int n477), .val (.int n480), .val (.int n483), .val (.int s488), .val (.int s493), .val (.int s498), .val (.ref r501), .unset, .unset]) rfl ?_
    show W K l _ n0 _ h500 1 3 131 #[.val (.int ln), .val (.int nbs), .val (.int sbs), .val (.int how), .val (.int (3 : Int32)), .val (.int (0 : Int32)), .val (.int n477), .val (.int n480), .val (.int n483), .val (.int s488), .val (.int s493), .val (.int s498), .val (.ref r501), .unset, .unset] []
    refine w_iload ok at_131 rfl ?_
    show W K l _ n0 _ h500 1 3 133 #[.val (.int ln), .val (.int nbs), .val (.int sbs), .val (.int how), .val (.int (3 : Int32)), .val (.int (0 : Int32)), .val (.int n477), .val (.int n480), .val (.int n483), .val (.int s488), .val (.int s493), .val (.int s498), .val (.ref r501), .unset, .unset] [(.int (0 : Int32))]
    refine w_iload ok at_133 rfl ?_
    show W K l _ n0 _ h500 1 3 135 #[.val (.int ln), .val (.int nbs), .val (.int sbs), .val (.int how), .val (.int (3 : Int32)), .val (.int (0 : Int32)), .val (.int n477), .val (.int n480), .val (.int n483), .val (.int s488), .val (.int s493), .val (.int s498), .val (.ref r501), .unset, .unset] [(.int n477), (.int (0 : Int32))]
    refine w_iload ok at_135 rfl ?_
    show W K l _ n0 _ h500 1 3 137 #[.val (.int ln), .val (.int nbs), .val (.int sbs), .val (.int how), .val (.int (3 : Int32)), .val (.int (0 : Int32)), .val (.int n477), .val (.int n480), .val (.int n483), .val (.int s488), .val (.int s493), .val (.int s498), .val (.ref r501), .unset, .unset] [(.int n480), (.int n477), (.int (0 : Int32))]
    refine w_iload ok at_137 rfl ?_
    show W K l _ n0 _ h500 1 3 139 #[.val (.int ln), .val (.int nbs), .val (.int sbs), .val (.int how), .val (.int (3 : Int32)), .val (.int (0 : Int32)), .val (.int n477), .val (.int n480), .val (.int n483), .val (.int s488), .val (.int s493), .val (.int s498), .val (.ref r501), .unset, .unset] [(.int n483), (.int n480), (.int n477), (.int (0 : Int32))]
    refine w_callS ok (y := (⟨"com/example/turnstile/turnstile/server/CommandsIsPinLaw", "make", "(IBBB)[B"⟩ : MethodName)) (argsL := [(.int (0 : Int32)), (.int n477), (.int n480), (.int n483)]) (rest := []) at_139 (hw _ (List.mem_of_getElem? (i := 7) rfl)) (hw _ (List.mem_of_getElem? (i := 8) rfl)) (hw _ (List.mem_of_getElem? (i := 2) rfl)) (hw _ (List.mem_of_getElem? (i := 9) rfl)) (by decide) pd_28IBBB295bB rfl rfl (by decide) (Nat.le_of_ble_eq_true rfl) (by decide) (by decide) (fun z0 => rm_mk0 l Z a0 hw [] n0 h500 z0 n477 n480 n483) (fun v502 h503 qv502 => ?_)
    obtain ⟨r504, rfl, sz_r504, ge_r504, K1, A_r504⟩ := qv502
    have ne_r501_r504 : r501 ≠ r504 := Nat.ne_of_lt (Nat.lt_of_lt_of_le A_r501.lt sz_r504)
    replace A_r501 := A_r501.keep K1 nin0
    show W K l _ n0 _ h503 2 3 142 #[.val (.int ln), .val (.int nbs), .val (.int sbs), .val (.int how), .val (.int (3 : Int32)), .val (.int (0 : Int32)), .val (.int n477), .val (.int n480), .val (.int n483), .val (.int s488), .val (.int s493), .val (.int s498), .val (.ref r501), .unset, .unset] [(.ref r504)]
    refine w_astore ok at_142 rfl (L' := #[.val (.int ln), .val (.int nbs), .val (.int sbs), .val (.int how), .val (.int (3 : Int32)), .val (.int (0 : Int32)), .val (.int n477), .val (.int n480), .val (.int n483), .val (.int s488), .val (.int s493), .val (.int s498), .val (.ref r501), .val (.ref r504), .unset]) rfl ?_
    show W K l _ n0 _ h503 2 3 144 #[.val (.int ln), .val (.int nbs), .val (.int sbs), .val (.int how), .val (.int (3 : Int32)), .val (.int (0 : Int32)), .val (.int n477), .val (.int n480), .val (.int n483), .val (.int s488), .val (.int s493), .val (.int s498), .val (.ref r501), .val (.ref r504), .unset] []
    refine w_iload ok at_144 rfl ?_
    show W K l _ n0 _ h503 2 3 146 #[.val (.int ln), .val (.int nbs), .val (.int sbs), .val (.int how), .val (.int (3 : Int32)), .val (.int (0 : Int32)), .val (.int n477), .val (.int n480), .val (.int n483), .val (.int s488), .val (.int s493), .val (.int s498), .val (.ref r501), .val (.ref r504), .unset] [(.int (3 : Int32))]
    refine w_iload ok at_146 rfl ?_
    show W K l _ n0 _ h503 2 3 148 #[.val (.int ln), .val (.int nbs), .val (.int sbs), .val (.int how), .val (.int (3 : Int32)), .val (.int (0 : Int32)), .val (.int n477), .val (.int n480), .val (.int n483), .val (.int s488), .val (.int s493), .val (.int s498), .val (.ref r501), .val (.ref r504), .unset] [(.int (0 : Int32)), (.int (3 : Int32))]
    refine w_icmp_ne ok at_148 (pc' := 203) (by decide) (fun hc506 => ?_) (fun hc506 => False.elim (by revert hc506; decide))
    show W K l _ n0 _ h503 2 3 203 #[.val (.int ln), .val (.int nbs), .val (.int sbs), .val (.int how), .val (.int (3 : Int32)), .val (.int (0 : Int32)), .val (.int n477), .val (.int n480), .val (.int n483), .val (.int s488), .val (.int s493), .val (.int s498), .val (.ref r501), .val (.ref r504), .unset] []
    refine w_iconst ok at_203 (v := (0 : Int32)) rfl ?_
    show W K l _ n0 _ h503 2 3 204 #[.val (.int ln), .val (.int nbs), .val (.int sbs), .val (.int how), .val (.int (3 : Int32)), .val (.int (0 : Int32)), .val (.int n477), .val (.int n480), .val (.int n483), .val (.int s488), .val (.int s493), .val (.int s498), .val (.ref r501), .val (.ref r504), .unset] [(.int (0 : Int32))]
    refine w_istore ok at_204 (L' := #[.val (.int ln), .val (.int nbs), .val (.int sbs), .val (.int how), .val (.int (3 : Int32)), .val (.int (0 : Int32)), .val (.int n477), .val (.int n480), .val (.int n483), .val (.int s488), .val (.int s493), .val (.int s498), .val (.ref r501), .val (.ref r504), .val (.int (0 : Int32))]) rfl ?_
    show W K l _ n0 _ h503 2 3 206 #[.val (.int ln), .val (.int nbs), .val (.int sbs), .val (.int how), .val (.int (3 : Int32)), .val (.int (0 : Int32)), .val (.int n477), .val (.int n480), .val (.int n483), .val (.int s488), .val (.int s493), .val (.int s498), .val (.ref r501), .val (.ref r504), .val (.int (0 : Int32))] []
    refine w_aload ok at_206 rfl rfl ?_
    show W K l _ n0 _ h503 2 3 208 #[.val (.int ln), .val (.int nbs), .val (.int sbs), .val (.int how), .val (.int (3 : Int32)), .val (.int (0 : Int32)), .val (.int n477), .val (.int n480), .val (.int n483), .val (.int s488), .val (.int s493), .val (.int s498), .val (.ref r501), .val (.ref r504), .val (.int (0 : Int32))] [(.ref r501)]
    refine w_aload ok at_208 rfl rfl ?_
    show W K l _ n0 _ h503 2 3 210 #[.val (.int ln), .val (.int nbs), .val (.int sbs), .val (.int how), .val (.int (3 : Int32)), .val (.int (0 : Int32)), .val (.int n477), .val (.int n480), .val (.int n483), .val (.int s488), .val (.int s493), .val (.int s498), .val (.ref r501), .val (.ref r504), .val (.int (0 : Int32))] [(.ref r504), (.ref r501)]
    refine w_callS ok (y := (⟨"com/example/turnstile/turnstile/server/Commands", "is", "([B[B)Z"⟩ : MethodName)) (argsL := [(.ref r501), (.ref r504)]) (rest := []) at_210 (hw _ (List.mem_of_getElem? (i := 11) rfl)) (hw _ (List.mem_of_getElem? (i := 12) rfl)) (hw _ (List.mem_of_getElem? (i := 13) rfl)) (hw _ (List.mem_of_getElem? (i := 14) rfl)) (by decide) pd_285bB5bB29Z rfl rfl (by decide) (Nat.le_of_ble_eq_true rfl) (by decide) (by decide) (fun z0 => rm_is l Z a0 hw [] n0 h503 z0 r501 r504 [nar .byte s488, nar .byte s493, nar .byte s498] [] A_r501 A_r504) (fun v507 h508 qv507 => ?_)
    obtain ⟨rfl, rfl⟩ := qv507
    show W K l _ n0 _ h503 2 3 213 #[.val (.int ln), .val (.int nbs), .val (.int sbs), .val (.int how), .val (.int (3 : Int32)), .val (.int (0 : Int32)), .val (.int n477), .val (.int n480), .val (.int n483), .val (.int s488), .val (.int s493), .val (.int s498), .val (.ref r501), .val (.ref r504), .val (.int (0 : Int32))] [(.int (nar .boolean (own_isl [nar .byte s488, nar .byte s493, nar .byte s498] [])))]
    refine w_iload ok at_213 rfl ?_
    show W K l _ n0 _ h503 2 3 215 #[.val (.int ln), .val (.int nbs), .val (.int sbs), .val (.int how), .val (.int (3 : Int32)), .val (.int (0 : Int32)), .val (.int n477), .val (.int n480), .val (.int n483), .val (.int s488), .val (.int s493), .val (.int s498), .val (.ref r501), .val (.ref r504), .val (.int (0 : Int32))] [(.int (0 : Int32)), (.int (nar .boolean (own_isl [nar .byte s488, nar .byte s493, nar .byte s498] [])))]
    refine w_icmp_ne ok at_215 (pc' := 222) (by decide) (fun hc510 => False.elim (by exact hc510 (by rw [own_isl_len (by simp)] <;> rfl))) (fun hc510 => ?_)
    show W K l _ n0 _ h503 2 3 218 #[.val (.int ln), .val (.int nbs), .val (.int sbs), .val (.int how), .val (.int (3 : Int32)), .val (.int (0 : Int32)), .val (.int n477), .val (.int n480), .val (.int n483), .val (.int s488), .val (.int s493), .val (.int s498), .val (.ref r501), .val (.ref r504), .val (.int (0 : Int32))] []
    refine w_iconst ok at_218 (v := (1 : Int32)) rfl ?_
    show W K l _ n0 _ h503 2 3 219 #[.val (.int ln), .val (.int nbs), .val (.int sbs), .val (.int how), .val (.int (3 : Int32)), .val (.int (0 : Int32)), .val (.int n477), .val (.int n480), .val (.int n483), .val (.int s488), .val (.int s493), .val (.int s498), .val (.ref r501), .val (.ref r504), .val (.int (0 : Int32))] [(.int (1 : Int32))]
    refine w_goto ok at_219 (pc' := 223) (by decide) ?_
    show W K l _ n0 _ h503 2 3 223 #[.val (.int ln), .val (.int nbs), .val (.int sbs), .val (.int how), .val (.int (3 : Int32)), .val (.int (0 : Int32)), .val (.int n477), .val (.int n480), .val (.int n483), .val (.int s488), .val (.int s493), .val (.int s498), .val (.ref r501), .val (.ref r504), .val (.int (0 : Int32))] [(.int (1 : Int32))]
    refine w_bret ok (by simp) at_223 (by decide) (by decide) ?_
    exact rfl
  · skip
    show W K l _ n0 _ h0 0 0 25 #[.val (.int ln), .val (.int nbs), .val (.int sbs), .val (.int how), .val (.int (3 : Int32)), .val (.int (1 : Int32)), .unset, .unset, .unset, .unset, .unset, .unset, .unset, .unset, .unset] []
    refine w_iloadN ok at_25 rfl ?_
    show W K l _ n0 _ h0 0 0 26 #[.val (.int ln), .val (.int nbs), .val (.int sbs), .val (.int how), .val (.int (3 : Int32)), .val (.int (1 : Int32)), .unset, .unset, .unset, .unset, .unset, .unset, .unset, .unset, .unset] [(.int nbs)]
    refine w_callS ok (y := (⟨"com/example/turnstile/turnstile/server/CommandsIsPinLaw", "nameByte", "(I)B"⟩ : MethodName)) (argsL := [(.int nbs)]) (rest := []) at_26 (hw _ (List.mem_of_getElem? (i := 0) rfl)) (hw _ (List.mem_of_getElem? (i := 1) rfl)) (hw _ (List.mem_of_getElem? (i := 2) rfl)) (hw _ (List.mem_of_getElem? (i := 3) rfl)) (by decide) pd_28I29B rfl rfl (by decide) (Nat.le_of_ble_eq_true rfl) (by decide) (by decide) (fun z0 => rm_nb l Z a0 hw [] n0 h0 z0 nbs) (fun v511 h512 qv511 => ?_)
    obtain ⟨n513, rfl, h1_n513, h2_n513, rfl⟩ := qv511
    show W K l _ n0 _ h0 0 0 29 #[.val (.int ln), .val (.int nbs), .val (.int sbs), .val (.int how), .val (.int (3 : Int32)), .val (.int (1 : Int32)), .unset, .unset, .unset, .unset, .unset, .unset, .unset, .unset, .unset] [(.int n513)]
    refine w_istore ok at_29 (L' := #[.val (.int ln), .val (.int nbs), .val (.int sbs), .val (.int how), .val (.int (3 : Int32)), .val (.int (1 : Int32)), .val (.int n513), .unset, .unset, .unset, .unset, .unset, .unset, .unset, .unset]) rfl ?_
    show W K l _ n0 _ h0 0 0 31 #[.val (.int ln), .val (.int nbs), .val (.int sbs), .val (.int how), .val (.int (3 : Int32)), .val (.int (1 : Int32)), .val (.int n513), .unset, .unset, .unset, .unset, .unset, .unset, .unset, .unset] []
    refine w_iloadN ok at_31 rfl ?_
    show W K l _ n0 _ h0 0 0 32 #[.val (.int ln), .val (.int nbs), .val (.int sbs), .val (.int how), .val (.int (3 : Int32)), .val (.int (1 : Int32)), .val (.int n513), .unset, .unset, .unset, .unset, .unset, .unset, .unset, .unset] [(.int nbs)]
    refine w_bipush ok at_32 (v := (8 : Int32)) rfl ?_
    show W K l _ n0 _ h0 0 0 34 #[.val (.int ln), .val (.int nbs), .val (.int sbs), .val (.int how), .val (.int (3 : Int32)), .val (.int (1 : Int32)), .val (.int n513), .unset, .unset, .unset, .unset, .unset, .unset, .unset, .unset] [(.int (8 : Int32)), (.int nbs)]
    refine w_ishr ok at_34 ?_
    show W K l _ n0 _ h0 0 0 35 #[.val (.int ln), .val (.int nbs), .val (.int sbs), .val (.int how), .val (.int (3 : Int32)), .val (.int (1 : Int32)), .val (.int n513), .unset, .unset, .unset, .unset, .unset, .unset, .unset, .unset] [(.int (nbs >>> ((8 : Int32) &&& 31)))]
    refine w_callS ok (y := (⟨"com/example/turnstile/turnstile/server/CommandsIsPinLaw", "nameByte", "(I)B"⟩ : MethodName)) (argsL := [(.int (nbs >>> ((8 : Int32) &&& 31)))]) (rest := []) at_35 (hw _ (List.mem_of_getElem? (i := 0) rfl)) (hw _ (List.mem_of_getElem? (i := 1) rfl)) (hw _ (List.mem_of_getElem? (i := 2) rfl)) (hw _ (List.mem_of_getElem? (i := 3) rfl)) (by decide) pd_28I29B rfl rfl (by decide) (Nat.le_of_ble_eq_true rfl) (by decide) (by decide) (fun z0 => rm_nb l Z a0 hw [] n0 h0 z0 (nbs >>> ((8 : Int32) &&& 31))) (fun v514 h515 qv514 => ?_)
    obtain ⟨n516, rfl, h1_n516, h2_n516, rfl⟩ := qv514
    show W K l _ n0 _ h0 0 0 38 #[.val (.int ln), .val (.int nbs), .val (.int sbs), .val (.int how), .val (.int (3 : Int32)), .val (.int (1 : Int32)), .val (.int n513), .unset, .unset, .unset, .unset, .unset, .unset, .unset, .unset] [(.int n516)]
    refine w_istore ok at_38 (L' := #[.val (.int ln), .val (.int nbs), .val (.int sbs), .val (.int how), .val (.int (3 : Int32)), .val (.int (1 : Int32)), .val (.int n513), .val (.int n516), .unset, .unset, .unset, .unset, .unset, .unset, .unset]) rfl ?_
    show W K l _ n0 _ h0 0 0 40 #[.val (.int ln), .val (.int nbs), .val (.int sbs), .val (.int how), .val (.int (3 : Int32)), .val (.int (1 : Int32)), .val (.int n513), .val (.int n516), .unset, .unset, .unset, .unset, .unset, .unset, .unset] []
    refine w_iloadN ok at_40 rfl ?_
    show W K l _ n0 _ h0 0 0 41 #[.val (.int ln), .val (.int nbs), .val (.int sbs), .val (.int how), .val (.int (3 : Int32)), .val (.int (1 : Int32)), .val (.int n513), .val (.int n516), .unset, .unset, .unset, .unset, .unset, .unset, .unset] [(.int nbs)]
    refine w_bipush ok at_41 (v := (16 : Int32)) rfl ?_
    show W K l _ n0 _ h0 0 0 43 #[.val (.int ln), .val (.int nbs), .val (.int sbs), .val (.int how), .val (.int (3 : Int32)), .val (.int (1 : Int32)), .val (.int n513), .val (.int n516), .unset, .unset, .unset, .unset, .unset, .unset, .unset] [(.int (16 : Int32)), (.int nbs)]
    refine w_ishr ok at_43 ?_
    show W K l _ n0 _ h0 0 0 44 #[.val (.int ln), .val (.int nbs), .val (.int sbs), .val (.int how), .val (.int (3 : Int32)), .val (.int (1 : Int32)), .val (.int n513), .val (.int n516), .unset, .unset, .unset, .unset, .unset, .unset, .unset] [(.int (nbs >>> ((16 : Int32) &&& 31)))]
    refine w_callS ok (y := (⟨"com/example/turnstile/turnstile/server/CommandsIsPinLaw", "nameByte", "(I)B"⟩ : MethodName)) (argsL := [(.int (nbs >>> ((16 : Int32) &&& 31)))]) (rest := []) at_44 (hw _ (List.mem_of_getElem? (i := 0) rfl)) (hw _ (List.mem_of_getElem? (i := 1) rfl)) (hw _ (List.mem_of_getElem? (i := 2) rfl)) (hw _ (List.mem_of_getElem? (i := 3) rfl)) (by decide) pd_28I29B rfl rfl (by decide) (Nat.le_of_ble_eq_true rfl) (by decide) (by decide) (fun z0 => rm_nb l Z a0 hw [] n0 h0 z0 (nbs >>> ((16 : Int32) &&& 31))) (fun v517 h518 qv517 => ?_)
    obtain ⟨n519, rfl, h1_n519, h2_n519, rfl⟩ := qv517
    show W K l _ n0 _ h0 0 0 47 #[.val (.int ln), .val (.int nbs), .val (.int sbs), .val (.int how), .val (.int (3 : Int32)), .val (.int (1 : Int32)), .val (.int n513), .val (.int n516), .unset, .unset, .unset, .unset, .unset, .unset, .unset] [(.int n519)]
    refine w_istore ok at_47 (L' := #[.val (.int ln), .val (.int nbs), .val (.int sbs), .val (.int how), .val (.int (3 : Int32)), .val (.int (1 : Int32)), .val (.int n513), .val (.int n516), .val (.int n519), .unset, .unset, .unset, .unset, .unset, .unset]) rfl ?_
    show W K l _ n0 _ h0 0 0 49 #[.val (.int ln), .val (.int nbs), .val (.int sbs), .val (.int how), .val (.int (3 : Int32)), .val (.int (1 : Int32)), .val (.int n513), .val (.int n516), .val (.int n519), .unset, .unset, .unset, .unset, .unset, .unset] []
    refine w_iloadN ok at_49 rfl ?_
    show W K l _ n0 _ h0 0 0 50 #[.val (.int ln), .val (.int nbs), .val (.int sbs), .val (.int how), .val (.int (3 : Int32)), .val (.int (1 : Int32)), .val (.int n513), .val (.int n516), .val (.int n519), .unset, .unset, .unset, .unset, .unset, .unset] [(.int how)]
    refine w_iloadN ok at_50 rfl ?_
    show W K l _ n0 _ h0 0 0 51 #[.val (.int ln), .val (.int nbs), .val (.int sbs), .val (.int how), .val (.int (3 : Int32)), .val (.int (1 : Int32)), .val (.int n513), .val (.int n516), .val (.int n519), .unset, .unset, .unset, .unset, .unset, .unset] [(.int sbs), (.int how)]
    refine w_iload ok at_51 rfl ?_
    show W K l _ n0 _ h0 0 0 53 #[.val (.int ln), .val (.int nbs), .val (.int sbs), .val (.int how), .val (.int (3 : Int32)), .val (.int (1 : Int32)), .val (.int n513), .val (.int n516), .val (.int n519), .unset, .unset, .unset, .unset, .unset, .unset] [(.int n513), (.int sbs), (.int how)]
    refine w_iload ok at_53 rfl ?_
    show W K l _ n0 _ h0 0 0 55 #[.val (.int ln), .val (.int nbs), .val (.int sbs), .val (.int how), .val (.int (3 : Int32)), .val (.int (1 : Int32)), .val (.int n513), .val (.int n516), .val (.int n519), .unset, .unset, .unset, .unset, .unset, .unset] [(.int (1 : Int32)), (.int n513), (.int sbs), (.int how)]
    refine w_if_le ok at_55 (pc' := 62) (by decide) (fun hc521 => False.elim (by revert hc521; decide)) (fun hc521 => ?_)
    show W K l _ n0 _ h0 0 0 58 #[.val (.int ln), .val (.int nbs), .val (.int sbs), .val (.int how), .val (.int (3 : Int32)), .val (.int (1 : Int32)), .val (.int n513), .val (.int n516), .val (.int n519), .unset, .unset, .unset, .unset, .unset, .unset] [(.int n513), (.int sbs), (.int how)]
    refine w_iconst ok at_58 (v := (1 : Int32)) rfl ?_
    show W K l _ n0 _ h0 0 0 59 #[.val (.int ln), .val (.int nbs), .val (.int sbs), .val (.int how), .val (.int (3 : Int32)), .val (.int (1 : Int32)), .val (.int n513), .val (.int n516), .val (.int n519), .unset, .unset, .unset, .unset, .unset, .unset] [(.int (1 : Int32)), (.int n513), (.int sbs), (.int how)]
    refine w_goto ok at_59 (pc' := 63) (by decide) ?_
    show W K l _ n0 _ h0 0 0 63 #[.val (.int ln), .val (.int nbs), .val (.int sbs), .val (.int how), .val (.int (3 : Int32)), .val (.int (1 : Int32)), .val (.int n513), .val (.int n516), .val (.int n519), .unset, .unset, .unset, .unset, .unset, .unset] [(.int (1 : Int32)), (.int n513), (.int sbs), (.int how)]
    refine w_callS ok (y := (⟨"com/example/turnstile/turnstile/server/CommandsIsPinLaw", "sentByte", "(IIBZ)B"⟩ : MethodName)) (argsL := [(.int how), (.int sbs), (.int n513), (.int (1 : Int32))]) (rest := []) at_63 (hw _ (List.mem_of_getElem? (i := 4) rfl)) (hw _ (List.mem_of_getElem? (i := 5) rfl)) (hw _ (List.mem_of_getElem? (i := 2) rfl)) (hw _ (List.mem_of_getElem? (i := 6) rfl)) (by decide) pd_28IIBZ29B rfl rfl (by decide) (Nat.le_of_ble_eq_true rfl) (by decide) (by decide) (fun z0 => rm_sb l Z a0 hw [] n0 h0 z0 how sbs n513 (1 : Int32)) (fun v522 h523 qv522 => ?_)
    obtain ⟨s524, rfl, h1_s524, rfl⟩ := qv522
    show W K l _ n0 _ h0 0 0 66 #[.val (.int ln), .val (.int nbs), .val (.int sbs), .val (.int how), .val (.int (3 : Int32)), .val (.int (1 : Int32)), .val (.int n513), .val (.int n516), .val (.int n519), .unset, .unset, .unset, .unset, .unset, .unset] [(.int s524)]
    refine w_istore ok at_66 (L' := #[.val (.int ln), .val (.int nbs), .val (.int sbs), .val (.int how), .val (.int (3 : Int32)), .val (.int (1 : Int32)), .val (.int n513), .val (.int n516), .val (.int n519), .val (.int s524), .unset, .unset, .unset, .unset, .unset]) rfl ?_
    show W K l _ n0 _ h0 0 0 68 #[.val (.int ln), .val (.int nbs), .val (.int sbs), .val (.int how), .val (.int (3 : Int32)), .val (.int (1 : Int32)), .val (.int n513), .val (.int n516), .val (.int n519), .val (.int s524), .unset, .unset, .unset, .unset, .unset] []
    refine w_iloadN ok at_68 rfl ?_
    show W K l _ n0 _ h0 0 0 69 #[.val (.int ln), .val (.int nbs), .val (.int sbs), .val (.int how), .val (.int (3 : Int32)), .val (.int (1 : Int32)), .val (.int n513), .val (.int n516), .val (.int n519), .val (.int s524), .unset, .unset, .unset, .unset, .unset] [(.int how)]
    refine w_iconst ok at_69 (v := (2 : Int32)) rfl ?_
    show W K l _ n0 _ h0 0 0 70 #[.val (.int ln), .val (.int nbs), .val (.int sbs), .val (.int how), .val (.int (3 : Int32)), .val (.int (1 : Int32)), .val (.int n513), .val (.int n516), .val (.int n519), .val (.int s524), .unset, .unset, .unset, .unset, .unset] [(.int (2 : Int32)), (.int how)]
    refine w_ishr ok at_70 ?_
    show W K l _ n0 _ h0 0 0 71 #[.val (.int ln), .val (.int nbs), .val (.int sbs), .val (.int how), .val (.int (3 : Int32)), .val (.int (1 : Int32)), .val (.int n513), .val (.int n516), .val (.int n519), .val (.int s524), .unset, .unset, .unset, .unset, .unset] [(.int (how >>> ((2 : Int32) &&& 31)))]
    refine w_iloadN ok at_71 rfl ?_
    show W K l _ n0 _ h0 0 0 72 #[.val (.int ln), .val (.int nbs), .val (.int sbs), .val (.int how), .val (.int (3 : Int32)), .val (.int (1 : Int32)), .val (.int n513), .val (.int n516), .val (.int n519), .val (.int s524), .unset, .unset, .unset, .unset, .unset] [(.int sbs), (.int (how >>> ((2 : Int32) &&& 31)))]
    refine w_bipush ok at_72 (v := (8 : Int32)) rfl ?_
    show W K l _ n0 _ h0 0 0 74 #[.val (.int ln), .val (.int nbs), .val (.int sbs), .val (.int how), .val (.int (3 : Int32)), .val (.int (1 : Int32)), .val (.int n513), .val (.int n516), .val (.int n519), .val (.int s524), .unset, .unset, .unset, .unset, .unset] [(.int (8 : Int32)), (.int sbs), (.int (how >>> ((2 : Int32) &&& 31)))]
    refine w_ishr ok at_74 ?_
    show W K l _ n0 _ h0 0 0 75 #[.val (.int ln), .val (.int nbs), .val (.int sbs), .val (.int how), .val (.int (3 : Int32)), .val (.int (1 : Int32)), .val (.int n513), .val (.int n516), .val (.int n519), .val (.int s524), .unset, .unset, .unset, .unset, .unset] [(.int (sbs >>> ((8 : Int32) &&& 31))), (.int (how >>> ((2 : Int32) &&& 31)))]
    refine w_iload ok at_75 rfl ?_
    show W K l _ n0 _ h0 0 0 77 #[.val (.int ln), .val (.int nbs), .val (.int sbs), .val (.int how), .val (.int (3 : Int32)), .val (.int (1 : Int32)), .val (.int n513), .val (.int n516), .val (.int n519), .val (.int s524), .unset, .unset, .unset, .unset, .unset] [(.int n516), (.int (sbs >>> ((8 : Int32) &&& 31))), (.int (how >>> ((2 : Int32) &&& 31)))]
    refine w_iload ok at_77 rfl ?_
    show W K l _ n0 _ h0 0 0 79 #[.val (.int ln), .val (.int nbs), .val (.int sbs), .val (.int how), .val (.int (3 : Int32)), .val (.int (1 : Int32)), .val (.int n513), .val (.int n516), .val (.int n519), .val (.int s524), .unset, .unset, .unset, .unset, .unset] [(.int (1 : Int32)), (.int n516), (.int (sbs >>> ((8 : Int32) &&& 31))), (.int (how >>> ((2 : Int32) &&& 31)))]
    refine w_iconst ok at_79 (v := (1 : Int32)) rfl ?_
    show W K l _ n0 _ h0 0 0 80 #[.val (.int ln), .val (.int nbs), .val (.int sbs), .val (.int how), .val (.int (3 : Int32)), .val (.int (1 : Int32)), .val (.int n513), .val (.int n516), .val (.int n519), .val (.int s524), .unset, .unset, .unset, .unset, .unset] [(.int (1 : Int32)), (.int (1 : Int32)), (.int n516), (.int (sbs >>> ((8 : Int32) &&& 31))), (.int (how >>> ((2 : Int32) &&& 31)))]
    refine w_icmp_le ok at_80 (pc' := 87) (by decide) (fun hc526 => ?_) (fun hc526 => False.elim (by revert hc526; decide))
    show W K l _ n0 _ h0 0 0 87 #[.val (.int ln), .val (.int nbs), .val (.int sbs), .val (.int how), .val (.int (3 : Int32)), .val (.int (1 : Int32)), .val (.int n513), .val (.int n516), .val (.int n519), .val (.int s524), .unset, .unset, .unset, .unset, .unset] [(.int n516), (.int (sbs >>> ((8 : Int32) &&& 31))), (.int (how >>> ((2 : Int32) &&& 31)))]
    refine w_iconst ok at_87 (v := (0 : Int32)) rfl ?_
    show W K l _ n0 _ h0 0 0 88 #[.val (.int ln), .val (.int nbs), .val (.int sbs), .val (.int how), .val (.int (3 : Int32)), .val (.int (1 : Int32)), .val (.int n513), .val (.int n516), .val (.int n519), .val (.int s524), .unset, .unset, .unset, .unset, .unset] [(.int (0 : Int32)), (.int n516), (.int (sbs >>> ((8 : Int32) &&& 31))), (.int (how >>> ((2 : Int32) &&& 31)))]
    refine w_callS ok (y := (⟨"com/example/turnstile/turnstile/server/CommandsIsPinLaw", "sentByte", "(IIBZ)B"⟩ : MethodName)) (argsL := [(.int (how >>> ((2 : Int32) &&& 31))), (.int (sbs >>> ((8 : Int32) &&& 31))), (.int n516), (.int (0 : Int32))]) (rest := []) at_88 (hw _ (List.mem_of_getElem? (i := 4) rfl)) (hw _ (List.mem_of_getElem? (i := 5) rfl)) (hw _ (List.mem_of_getElem? (i := 2) rfl)) (hw _ (List.mem_of_getElem? (i := 6) rfl)) (by decide) pd_28IIBZ29B rfl rfl (by decide) (Nat.le_of_ble_eq_true rfl) (by decide) (by decide) (fun z0 => rm_sb l Z a0 hw [] n0 h0 z0 (how >>> ((2 : Int32) &&& 31)) (sbs >>> ((8 : Int32) &&& 31)) n516 (0 : Int32)) (fun v527 h528 qv527 => ?_)
    obtain ⟨s529, rfl, h1_s529, rfl⟩ := qv527
    show W K l _ n0 _ h0 0 0 91 #[.val (.int ln), .val (.int nbs), .val (.int sbs), .val (.int how), .val (.int (3 : Int32)), .val (.int (1 : Int32)), .val (.int n513), .val (.int n516), .val (.int n519), .val (.int s524), .unset, .unset, .unset, .unset, .unset] [(.int s529)]
    refine w_istore ok at_91 (L' := #[.val (.int ln), .val (.int nbs), .val (.int sbs), .val (.int how), .val (.int (3 : Int32)), .val (.int (1 : Int32)), .val (.int n513), .val (.int n516), .val (.int n519), .val (.int s524), .val (.int s529), .unset, .unset, .unset, .unset]) rfl ?_
    show W K l _ n0 _ h0 0 0 93 #[.val (.int ln), .val (.int nbs), .val (.int sbs), .val (.int how), .val (.int (3 : Int32)), .val (.int (1 : Int32)), .val (.int n513), .val (.int n516), .val (.int n519), .val (.int s524), .val (.int s529), .unset, .unset, .unset, .unset] []
    refine w_iloadN ok at_93 rfl ?_
    show W K l _ n0 _ h0 0 0 94 #[.val (.int ln), .val (.int nbs), .val (.int sbs), .val (.int how), .val (.int (3 : Int32)), .val (.int (1 : Int32)), .val (.int n513), .val (.int n516), .val (.int n519), .val (.int s524), .val (.int s529), .unset, .unset, .unset, .unset] [(.int how)]
    refine w_iconst ok at_94 (v := (4 : Int32)) rfl ?_
    show W K l _ n0 _ h0 0 0 95 #[.val (.int ln), .val (.int nbs), .val (.int sbs), .val (.int how), .val (.int (3 : Int32)), .val (.int (1 : Int32)), .val (.int n513), .val (.int n516), .val (.int n519), .val (.int s524), .val (.int s529), .unset, .unset, .unset, .unset] [(.int (4 : Int32)), (.int how)]
    refine w_ishr ok at_95 ?_
    show W K l _ n0 _ h0 0 0 96 #[.val (.int ln), .val (.int nbs), .val (.int sbs), .val (.int how), .val (.int (3 : Int32)), .val (.int (1 : Int32)), .val (.int n513), .val (.int n516), .val (.int n519), .val (.int s524), .val (.int s529), .unset, .unset, .unset, .unset] [(.int (how >>> ((4 : Int32) &&& 31)))]
    refine w_iloadN ok at_96 rfl ?_
    show W K l _ n0 _ h0 0 0 97 #[.val (.int ln), .val (.int nbs), .val (.int sbs), .val (.int how), .val (.int (3 : Int32)), .val (.int (1 : Int32)), .val (.int n513), .val (.int n516), .val (.int n519), .val (.int s524), .val (.int s529), .unset, .unset, .unset, .unset] [(.int sbs), (.int (how >>> ((4 : Int32) &&& 31)))]
    refine w_bipush ok at_97 (v := (16 : Int32)) rfl ?_
    show W K l _ n0 _ h0 0 0 99 #[.val (.int ln), .val (.int nbs), .val (.int sbs), .val (.int how), .val (.int (3 : Int32)), .val (.int (1 : Int32)), .val (.int n513), .val (.int n516), .val (.int n519), .val (.int s524), .val (.int s529), .unset, .unset, .unset, .unset] [(.int (16 : Int32)), (.int sbs), (.int (how >>> ((4 : Int32) &&& 31)))]
    refine w_ishr ok at_99 ?_
    show W K l _ n0 _ h0 0 0 100 #[.val (.int ln), .val (.int nbs), .val (.int sbs), .val (.int how), .val (.int (3 : Int32)), .val (.int (1 : Int32)), .val (.int n513), .val (.int n516), .val (.int n519), .val (.int s524), .val (.int s529), .unset, .unset, .unset, .unset] [(.int (sbs >>> ((16 : Int32) &&& 31))), (.int (how >>> ((4 : Int32) &&& 31)))]
    refine w_iload ok at_100 rfl ?_
    show W K l _ n0 _ h0 0 0 102 #[.val (.int ln), .val (.int nbs), .val (.int sbs), .val (.int how), .val (.int (3 : Int32)), .val (.int (1 : Int32)), .val (.int n513), .val (.int n516), .val (.int n519), .val (.int s524), .val (.int s529), .unset, .unset, .unset, .unset] [(.int n519), (.int (sbs >>> ((16 : Int32) &&& 31))), (.int (how >>> ((4 : Int32) &&& 31)))]
    refine w_iload ok at_102 rfl ?_
    show W K l _ n0 _ h0 0 0 104 #[.val (.int ln), .val (.int nbs), .val (.int sbs), .val (.int how), .val (.int (3 : Int32)), .val (.int (1 : Int32)), .val (.int n513), .val (.int n516), .val (.int n519), .val (.int s524), .val (.int s529), .unset, .unset, .unset, .unset] [(.int (1 : Int32)), (.int n519), (.int (sbs >>> ((16 : Int32) &&& 31))), (.int (how >>> ((4 : Int32) &&& 31)))]
    refine w_iconst ok at_104 (v := (2 : Int32)) rfl ?_
    show W K l _ n0 _ h0 0 0 105 #[.val (.int ln), .val (.int nbs), .val (.int sbs), .val (.int how), .val (.int (3 : Int32)), .val (.int (1 : Int32)), .val (.int n513), .val (.int n516), .val (.int n519), .val (.int s524), .val (.int s529), .unset, .unset, .unset, .unset] [(.int (2 : Int32)), (.int (1 : Int32)), (.int n519), (.int (sbs >>> ((16 : Int32) &&& 31))), (.int (how >>> ((4 : Int32) &&& 31)))]
    refine w_icmp_le ok at_105 (pc' := 112) (by decide) (fun hc531 => ?_) (fun hc531 => False.elim (by revert hc531; decide))
    show W K l _ n0 _ h0 0 0 112 #[.val (.int ln), .val (.int nbs), .val (.int sbs), .val (.int how), .val (.int (3 : Int32)), .val (.int (1 : Int32)), .val (.int n513), .val (.int n516), .val (.int n519), .val (.int s524), .val (.int s529), .unset, .unset, .unset, .unset] [(.int n519), (.int (sbs >>> ((16 : Int32) &&& 31))), (.int (how >>> ((4 : Int32) &&& 31)))]
    refine w_iconst ok at_112 (v := (0 : Int32)) rfl ?_
    show W K l _ n0 _ h0 0 0 113 #[.val (.int ln), .val (.int nbs), .val (.int sbs), .val (.int how), .val (.int (3 : Int32)), .val (.int (1 : Int32)), .val (.int n513), .val (.int n516), .val (.int n519), .val (.int s524), .val (.int s529), .unset, .unset, .unset, .unset] [(.int (0 : Int32)), (.int n519), (.int (sbs >>> ((16 : Int32) &&& 31))), (.int (how >>> ((4 : Int32) &&& 31)))]
    refine w_callS ok (y := (⟨"com/example/turnstile/turnstile/server/CommandsIsPinLaw", "sentByte", "(IIBZ)B"⟩ : MethodName)) (argsL := [(.int (how >>> ((4 : Int32) &&& 31))), (.int (sbs >>> ((16 : Int32) &&& 31))), (.int n519), (.int (0 : Int32))]) (rest := []) at_113 (hw _ (List.mem_of_getElem? (i := 4) rfl)) (hw _ (List.mem_of_getElem? (i := 5) rfl)) (hw _ (List.mem_of_getElem? (i := 2) rfl)) (hw _ (List.mem_of_getElem? (i := 6) rfl)) (by decide) pd_28IIBZ29B rfl rfl (by decide) (Nat.le_of_ble_eq_true rfl) (by decide) (by decide) (fun z0 => rm_sb l Z a0 hw [] n0 h0 z0 (how >>> ((4 : Int32) &&& 31)) (sbs >>> ((16 : Int32) &&& 31)) n519 (0 : Int32)) (fun v532 h533 qv532 => ?_)
    obtain ⟨s534, rfl, h1_s534, rfl⟩ := qv532
    show W K l _ n0 _ h0 0 0 116 #[.val (.int ln), .val (.int nbs), .val (.int sbs), .val (.int how), .val (.int (3 : Int32)), .val (.int (1 : Int32)), .val (.int n513), .val (.int n516), .val (.int n519), .val (.int s524), .val (.int s529), .unset, .unset, .unset, .unset] [(.int s534)]
    refine w_istore ok at_116 (L' := #[.val (.int ln), .val (.int nbs), .val (.int sbs), .val (.int how), .val (.int (3 : Int32)), .val (.int (1 : Int32)), .val (.int n513), .val (.int n516), .val (.int n519), .val (.int s524), .val (.int s529), .val (.int s534), .unset, .unset, .unset]) rfl ?_
    show W K l _ n0 _ h0 0 0 118 #[.val (.int ln), .val (.int nbs), .val (.int sbs), .val (.int how), .val (.int (3 : Int32)), .val (.int (1 : Int32)), .val (.int n513), .val (.int n516), .val (.int n519), .val (.int s524), .val (.int s529), .val (.int s534), .unset, .unset, .unset] []
    refine w_iload ok at_118 rfl ?_
    show W K l _ n0 _ h0 0 0 120 #[.val (.int ln), .val (.int nbs), .val (.int sbs), .val (.int how), .val (.int (3 : Int32)), .val (.int (1 : Int32)), .val (.int n513), .val (.int n516), .val (.int n519), .val (.int s524), .val (.int s529), .val (.int s534), .unset, .unset, .unset] [(.int (3 : Int32))]
    refine w_iload ok at_120 rfl ?_
    show W K l _ n0 _ h0 0 0 122 #[.val (.int ln), .val (.int nbs), .val (.int sbs), .val (.int how), .val (.int (3 : Int32)), .val (.int (1 : Int32)), .val (.int n513), .val (.int n516), .val (.int n519), .val (.int s524), .val (.int s529), .val (.int s534), .unset, .unset, .unset] [(.int s524), (.int (3 : Int32))]
    refine w_iload ok at_122 rfl ?_
    show W K l _ n0 _ h0 0 0 124 #[.val (.int ln), .val (.int nbs), .val (.int sbs), .val (.int how), .val (.int (3 : Int32)), .val (.int (1 : Int32)), .val (.int n513), .val (.int n516), .val (.int n519), .val (.int s524), .val (.int s529), .val (.int s534), .unset, .unset, .unset] [(.int s529), (.int s524), (.int (3 : Int32))]
    refine w_iload ok at_124 rfl ?_
    show W K l _ n0 _ h0 0 0 126 #[.val (.int ln), .val (.int nbs), .val (.int sbs), .val (.int how), .val (.int (3 : Int32)), .val (.int (1 : Int32)), .val (.int n513), .val (.int n516), .val (.int n519), .val (.int s524), .val (.int s529), .val (.int s534), .unset, .unset, .unset] [(.int s534), (.int s529), (.int s524), (.int (3 : Int32))]
    refine w_callS ok (y := (⟨"com/example/turnstile/turnstile/server/CommandsIsPinLaw", "make", "(IBBB)[B"⟩ : MethodName)) (argsL := [(.int (3 : Int32)), (.int s524), (.int s529), (.int s534)]) (rest := []) at_126 (hw _ (List.mem_of_getElem? (i := 7) rfl)) (hw _ (List.mem_of_getElem? (i := 8) rfl)) (hw _ (List.mem_of_getElem? (i := 2) rfl)) (hw _ (List.mem_of_getElem? (i := 9) rfl)) (by decide) pd_28IBBB295bB rfl rfl (by decide) (Nat.le_of_ble_eq_true rfl) (by decide) (by decide) (fun z0 => rm_mk3 l Z a0 hw [] n0 h0 z0 s524 s529 s534) (fun v535 h536 qv535 => ?_)
    obtain ⟨r537, rfl, sz_r537, ge_r537, K1, A_r537⟩ := qv535
    show W K l _ n0 _ h536 1 3 129 #[.val (.int ln), .val (.int nbs), .val (.int sbs), .val (.int how), .val (.int (3 : Int32)), .val (.int (1 : Int32)), .val (.int n513), .val (.int n516), .val (.int n519), .val (.int s524), .val (.int s529), .val (.int s534), .unset, .unset, .unset] [(.ref r537)]
    refine w_astore ok at_129 rfl (L' := #[.val (.int ln), .val (.int nbs), .val (.int sbs), .val (.int how), .val (.int (3 : Int32)), .val (.int (1 : Int32)), .val (.int n513), .val (.int n516), .val (.int n519), .val (.int s524), .val (.int s529), .val (.int s534), .val (.ref r537), .unset, .unset]) rfl ?_
    show W K l _ n0 _ h536 1 3 131 #[.val (.int ln), .val (.int nbs), .val (.int sbs), .val (.int how), .val (.int (3 : Int32)), .val (.int (1 : Int32)), .val (.int n513), .val (.int n516), .val (.int n519), .val (.int s524), .val (.int s529), .val (.int s534), .val (.ref r537), .unset, .unset] []
    refine w_iload ok at_131 rfl ?_
    show W K l _ n0 _ h536 1 3 133 #[.val (.int ln), .val (.int nbs), .val (.int sbs), .val (.int how), .val (.int (3 : Int32)), .val (.int (1 : Int32)), .val (.int n513), .val (.int n516), .val (.int n519), .val (.int s524), .val (.int s529), .val (.int s534), .val (.ref r537), .unset, .unset] [(.int (1 : Int32))]
    refine w_iload ok at_133 rfl ?_
    show W K l _ n0 _ h536 1 3 135 #[.val (.int ln), .val (.int nbs), .val (.int sbs), .val (.int how), .val (.int (3 : Int32)), .val (.int (1 : Int32)), .val (.int n513), .val (.int n516), .val (.int n519), .val (.int s524), .val (.int s529), .val (.int s534), .val (.ref r537), .unset, .unset] [(.int n513), (.int (1 : Int32))]
    refine w_iload ok at_135 rfl ?_
    show W K l _ n0 _ h536 1 3 137 #[.val (.int ln), .val (.int nbs), .val (.int sbs), .val (.int how), .val (.int (3 : Int32)), .val (.int (1 : Int32)), .val (.int n513), .val (.int n516), .val (.int n519), .val (.int s524), .val (.int s529), .val (.int s534), .val (.ref r537), .unset, .unset] [(.int n516), (.int n513), (.int (1 : Int32))]
    refine w_iload ok at_137 rfl ?_
    show W K l _ n0 _ h536 1 3 139 #[.val (.int ln), .val (.int nbs), .val (.int sbs), .val (.int how), .val (.int (3 : Int32)), .val (.int (1 : Int32)), .val (.int n513), .val (.int n516), .val (.int n519), .val (.int s524), .val (.int s529), .val (.int s534), .val (.ref r537), .unset, .unset] [(.int n519), (.int n516), (.int n513), (.int (1 : Int32))]
    refine w_callS ok (y := (⟨"com/example/turnstile/turnstile/server/CommandsIsPinLaw", "make", "(IBBB)[B"⟩ : MethodName)) (argsL := [(.int (1 : Int32)), (.int n513), (.int n516), (.int n519)]) (rest := []) at_139 (hw _ (List.mem_of_getElem? (i := 7) rfl)) (hw _ (List.mem_of_getElem? (i := 8) rfl)) (hw _ (List.mem_of_getElem? (i := 2) rfl)) (hw _ (List.mem_of_getElem? (i := 9) rfl)) (by decide) pd_28IBBB295bB rfl rfl (by decide) (Nat.le_of_ble_eq_true rfl) (by decide) (by decide) (fun z0 => rm_mk1 l Z a0 hw [] n0 h536 z0 n513 n516 n519) (fun v538 h539 qv538 => ?_)
    obtain ⟨r540, rfl, sz_r540, ge_r540, K1, A_r540⟩ := qv538
    have ne_r537_r540 : r537 ≠ r540 := Nat.ne_of_lt (Nat.lt_of_lt_of_le A_r537.lt sz_r540)
    replace A_r537 := A_r537.keep K1 nin0
    show W K l _ n0 _ h539 2 4 142 #[.val (.int ln), .val (.int nbs), .val (.int sbs), .val (.int how), .val (.int (3 : Int32)), .val (.int (1 : Int32)), .val (.int n513), .val (.int n516), .val (.int n519), .val (.int s524), .val (.int s529), .val (.int s534), .val (.ref r537), .unset, .unset] [(.ref r540)]
    refine w_astore ok at_142 rfl (L' := #[.val (.int ln), .val (.int nbs), .val (.int sbs), .val (.int how), .val (.int (3 : Int32)), .val (.int (1 : Int32)), .val (.int n513), .val (.int n516), .val (.int n519), .val (.int s524), .val (.int s529), .val (.int s534), .val (.ref r537), .val (.ref r540), .unset]) rfl ?_
    show W K l _ n0 _ h539 2 4 144 #[.val (.int ln), .val (.int nbs), .val (.int sbs), .val (.int how), .val (.int (3 : Int32)), .val (.int (1 : Int32)), .val (.int n513), .val (.int n516), .val (.int n519), .val (.int s524), .val (.int s529), .val (.int s534), .val (.ref r537), .val (.ref r540), .unset] []
    refine w_iload ok at_144 rfl ?_
    show W K l _ n0 _ h539 2 4 146 #[.val (.int ln), .val (.int nbs), .val (.int sbs), .val (.int how), .val (.int (3 : Int32)), .val (.int (1 : Int32)), .val (.int n513), .val (.int n516), .val (.int n519), .val (.int s524), .val (.int s529), .val (.int s534), .val (.ref r537), .val (.ref r540), .unset] [(.int (3 : Int32))]
    refine w_iload ok at_146 rfl ?_
    show W K l _ n0 _ h539 2 4 148 #[.val (.int ln), .val (.int nbs), .val (.int sbs), .val (.int how), .val (.int (3 : Int32)), .val (.int (1 : Int32)), .val (.int n513), .val (.int n516), .val (.int n519), .val (.int s524), .val (.int s529), .val (.int s534), .val (.ref r537), .val (.ref r540), .unset] [(.int (1 : Int32)), (.int (3 : Int32))]
    refine w_icmp_ne ok at_148 (pc' := 203) (by decide) (fun hc542 => ?_) (fun hc542 => False.elim (by revert hc542; decide))
    show W K l _ n0 _ h539 2 4 203 #[.val (.int ln), .val (.int nbs), .val (.int sbs), .val (.int how), .val (.int (3 : Int32)), .val (.int (1 : Int32)), .val (.int n513), .val (.int n516), .val (.int n519), .val (.int s524), .val (.int s529), .val (.int s534), .val (.ref r537), .val (.ref r540), .unset] []
    refine w_iconst ok at_203 (v := (0 : Int32)) rfl ?_
    show W K l _ n0 _ h539 2 4 204 #[.val (.int ln), .val (.int nbs), .val (.int sbs), .val (.int how), .val (.int (3 : Int32)), .val (.int (1 : Int32)), .val (.int n513), .val (.int n516), .val (.int n519), .val (.int s524), .val (.int s529), .val (.int s534), .val (.ref r537), .val (.ref r540), .unset] [(.int (0 : Int32))]
    refine w_istore ok at_204 (L' := #[.val (.int ln), .val (.int nbs), .val (.int sbs), .val (.int how), .val (.int (3 : Int32)), .val (.int (1 : Int32)), .val (.int n513), .val (.int n516), .val (.int n519), .val (.int s524), .val (.int s529), .val (.int s534), .val (.ref r537), .val (.ref r540), .val (.int (0 : Int32))]) rfl ?_
    show W K l _ n0 _ h539 2 4 206 #[.val (.int ln), .val (.int nbs), .val (.int sbs), .val (.int how), .val (.int (3 : Int32)), .val (.int (1 : Int32)), .val (.int n513), .val (.int n516), .val (.int n519), .val (.int s524), .val (.int s529), .val (.int s534), .val (.ref r537), .val (.ref r540), .val (.int (0 : Int32))] []
    refine w_aload ok at_206 rfl rfl ?_
    show W K l _ n0 _ h539 2 4 208 #[.val (.int ln), .val (.int nbs), .val (.int sbs), .val (.int how), .val (.int (3 : Int32)), .val (.int (1 : Int32)), .val (.int n513), .val (.int n516), .val (.int n519), .val (.int s524), .val (.int s529), .val (.int s534), .val (.ref r537), .val (.ref r540), .val (.int (0 : Int32))] [(.ref r537)]
    refine w_aload ok at_208 rfl rfl ?_
    show W K l _ n0 _ h539 2 4 210 #[.val (.int ln), .val (.int nbs), .val (.int sbs), .val (.int how), .val (.int (3 : Int32)), .val (.int (1 : Int32)), .val (.int n513), .val (.int n516), .val (.int n519), .val (.int s524), .val (.int s529), .val (.int s534), .val (.ref r537), .val (.ref r540), .val (.int (0 : Int32))] [(.ref r540), (.ref r537)]
    refine w_callS ok (y := (⟨"com/example/turnstile/turnstile/server/Commands", "is", "([B[B)Z"⟩ : MethodName)) (argsL := [(.ref r537), (.ref r540)]) (rest := []) at_210 (hw _ (List.mem_of_getElem? (i := 11) rfl)) (hw _ (List.mem_of_getElem? (i := 12) rfl)) (hw _ (List.mem_of_getElem? (i := 13) rfl)) (hw _ (List.mem_of_getElem? (i := 14) rfl)) (by decide) pd_285bB5bB29Z rfl rfl (by decide) (Nat.le_of_ble_eq_true rfl) (by decide) (by decide) (fun z0 => rm_is l Z a0 hw [] n0 h539 z0 r537 r540 [nar .byte s524, nar .byte s529, nar .byte s534] [nar .byte n513] A_r537 A_r540) (fun v543 h544 qv543 => ?_)
    obtain ⟨rfl, rfl⟩ := qv543
    show W K l _ n0 _ h539 2 4 213 #[.val (.int ln), .val (.int nbs), .val (.int sbs), .val (.int how), .val (.int (3 : Int32)), .val (.int (1 : Int32)), .val (.int n513), .val (.int n516), .val (.int n519), .val (.int s524), .val (.int s529), .val (.int s534), .val (.ref r537), .val (.ref r540), .val (.int (0 : Int32))] [(.int (nar .boolean (own_isl [nar .byte s524, nar .byte s529, nar .byte s534] [nar .byte n513])))]
    refine w_iload ok at_213 rfl ?_
    show W K l _ n0 _ h539 2 4 215 #[.val (.int ln), .val (.int nbs), .val (.int sbs), .val (.int how), .val (.int (3 : Int32)), .val (.int (1 : Int32)), .val (.int n513), .val (.int n516), .val (.int n519), .val (.int s524), .val (.int s529), .val (.int s534), .val (.ref r537), .val (.ref r540), .val (.int (0 : Int32))] [(.int (0 : Int32)), (.int (nar .boolean (own_isl [nar .byte s524, nar .byte s529, nar .byte s534] [nar .byte n513])))]
    refine w_icmp_ne ok at_215 (pc' := 222) (by decide) (fun hc546 => False.elim (by exact hc546 (by rw [own_isl_len (by simp)] <;> rfl))) (fun hc546 => ?_)
    show W K l _ n0 _ h539 2 4 218 #[.val (.int ln), .val (.int nbs), .val (.int sbs), .val (.int how), .val (.int (3 : Int32)), .val (.int (1 : Int32)), .val (.int n513), .val (.int n516), .val (.int n519), .val (.int s524), .val (.int s529), .val (.int s534), .val (.ref r537), .val (.ref r540), .val (.int (0 : Int32))] []
    refine w_iconst ok at_218 (v := (1 : Int32)) rfl ?_
    show W K l _ n0 _ h539 2 4 219 #[.val (.int ln), .val (.int nbs), .val (.int sbs), .val (.int how), .val (.int (3 : Int32)), .val (.int (1 : Int32)), .val (.int n513), .val (.int n516), .val (.int n519), .val (.int s524), .val (.int s529), .val (.int s534), .val (.ref r537), .val (.ref r540), .val (.int (0 : Int32))] [(.int (1 : Int32))]
    refine w_goto ok at_219 (pc' := 223) (by decide) ?_
    show W K l _ n0 _ h539 2 4 223 #[.val (.int ln), .val (.int nbs), .val (.int sbs), .val (.int how), .val (.int (3 : Int32)), .val (.int (1 : Int32)), .val (.int n513), .val (.int n516), .val (.int n519), .val (.int s524), .val (.int s529), .val (.int s534), .val (.ref r537), .val (.ref r540), .val (.int (0 : Int32))] [(.int (1 : Int32))]
    refine w_bret ok (by simp) at_223 (by decide) (by decide) ?_
    exact rfl
  · skip
    show W K l _ n0 _ h0 0 0 25 #[.val (.int ln), .val (.int nbs), .val (.int sbs), .val (.int how), .val (.int (3 : Int32)), .val (.int (2 : Int32)), .unset, .unset, .unset, .unset, .unset, .unset, .unset, .unset, .unset] []
    refine w_iloadN ok at_25 rfl ?_
    show W K l _ n0 _ h0 0 0 26 #[.val (.int ln), .val (.int nbs), .val (.int sbs), .val (.int how), .val (.int (3 : Int32)), .val (.int (2 : Int32)), .unset, .unset, .unset, .unset, .unset, .unset, .unset, .unset, .unset] [(.int nbs)]
    refine w_callS ok (y := (⟨"com/example/turnstile/turnstile/server/CommandsIsPinLaw", "nameByte", "(I)B"⟩ : MethodName)) (argsL := [(.int nbs)]) (rest := []) at_26 (hw _ (List.mem_of_getElem? (i := 0) rfl)) (hw _ (List.mem_of_getElem? (i := 1) rfl)) (hw _ (List.mem_of_getElem? (i := 2) rfl)) (hw _ (List.mem_of_getElem? (i := 3) rfl)) (by decide) pd_28I29B rfl rfl (by decide) (Nat.le_of_ble_eq_true rfl) (by decide) (by decide) (fun z0 => rm_nb l Z a0 hw [] n0 h0 z0 nbs) (fun v547 h548 qv547 => ?_)
    obtain ⟨n549, rfl, h1_n549, h2_n549, rfl⟩ := qv547
    show W K l _ n0 _ h0 0 0 29 #[.val (.int ln), .val (.int nbs), .val (.int sbs), .val (.int how), .val (.int (3 : Int32)), .val (.int (2 : Int32)), .unset, .unset, .unset, .unset, .unset, .unset, .unset, .unset, .unset] [(.int n549)]
    refine w_istore ok at_29 (L' := #[.val (.int ln), .val (.int nbs), .val (.int sbs), .val (.int how), .val (.int (3 : Int32)), .val (.int (2 : Int32)), .val (.int n549), .unset, .unset, .unset, .unset, .unset, .unset, .unset, .unset]) rfl ?_
    show W K l _ n0 _ h0 0 0 31 #[.val (.int ln), .val (.int nbs), .val (.int sbs), .val (.int how), .val (.int (3 : Int32)), .val (.int (2 : Int32)), .val (.int n549), .unset, .unset, .unset, .unset, .unset, .unset, .unset, .unset] []
    refine w_iloadN ok at_31 rfl ?_
    show W K l _ n0 _ h0 0 0 32 #[.val (.int ln), .val (.int nbs), .val (.int sbs), .val (.int how), .val (.int (3 : Int32)), .val (.int (2 : Int32)), .val (.int n549), .unset, .unset, .unset, .unset, .unset, .unset, .unset, .unset] [(.int nbs)]
    refine w_bipush ok at_32 (v := (8 : Int32)) rfl ?_
    show W K l _ n0 _ h0 0 0 34 #[.val (.int ln), .val (.int nbs), .val (.int sbs), .val (.int how), .val (.int (3 : Int32)), .val (.int (2 : Int32)), .val (.int n549), .unset, .unset, .unset, .unset, .unset, .unset, .unset, .unset] [(.int (8 : Int32)), (.int nbs)]
    refine w_ishr ok at_34 ?_
    show W K l _ n0 _ h0 0 0 35 #[.val (.int ln), .val (.int nbs), .val (.int sbs), .val (.int how), .val (.int (3 : Int32)), .val (.int (2 : Int32)), .val (.int n549), .unset, .unset, .unset, .unset, .unset, .unset, .unset, .unset] [(.int (nbs >>> ((8 : Int32) &&& 31)))]
    refine w_callS ok (y := (⟨"com/example/turnstile/turnstile/server/CommandsIsPinLaw", "nameByte", "(I)B"⟩ : MethodName)) (argsL := [(.int (nbs >>> ((8 : Int32) &&& 31)))]) (rest := []) at_35 (hw _ (List.mem_of_getElem? (i := 0) rfl)) (hw _ (List.mem_of_getElem? (i := 1) rfl)) (hw _ (List.mem_of_getElem? (i := 2) rfl)) (hw _ (List.mem_of_getElem? (i := 3) rfl)) (by decide) pd_28I29B rfl rfl (by decide) (Nat.le_of_ble_eq_true rfl) (by decide) (by decide) (fun z0 => rm_nb l Z a0 hw [] n0 h0 z0 (nbs >>> ((8 : Int32) &&& 31))) (fun v550 h551 qv550 => ?_)
    obtain ⟨n552, rfl, h1_n552, h2_n552, rfl⟩ := qv550
    show W K l _ n0 _ h0 0 0 38 #[.val (.int ln), .val (.int nbs), .val (.int sbs), .val (.int how), .val (.int (3 : Int32)), .val (.int (2 : Int32)), .val (.int n549), .unset, .unset, .unset, .unset, .unset, .unset, .unset, .unset] [(.int n552)]
    refine w_istore ok at_38 (L' := #[.val (.int ln), .val (.int nbs), .val (.int sbs), .val (.int how), .val (.int (3 : Int32)), .val (.int (2 : Int32)), .val (.int n549), .val (.int n552), .unset, .unset, .unset, .unset, .unset, .unset, .unset]) rfl ?_
    show W K l _ n0 _ h0 0 0 40 #[.val (.int ln), .val (.int nbs), .val (.int sbs), .val (.int how), .val (.int (3 : Int32)), .val (.int (2 : Int32)), .val (.int n549), .val (.int n552), .unset, .unset, .unset, .unset, .unset, .unset, .unset] []
    refine w_iloadN ok at_40 rfl ?_
    show W K l _ n0 _ h0 0 0 41 #[.val (.int ln), .val (.int nbs), .val (.int sbs), .val (.int how), .val (.int (3 : Int32)), .val (.int (2 : Int32)), .val (.int n549), .val (.int n552), .unset, .unset, .unset, .unset, .unset, .unset, .unset] [(.int nbs)]
    refine w_bipush ok at_41 (v := (16 : Int32)) rfl ?_
    show W K l _ n0 _ h0 0 0 43 #[.val (.int ln), .val (.int nbs), .val (.int sbs), .val (.int how), .val (.int (3 : Int32)), .val (.int (2 : Int32)), .val (.int n549), .val (.int n552), .unset, .unset, .unset, .unset, .unset, .unset, .unset] [(.int (16 : Int32)), (.int nbs)]
    refine w_ishr ok at_43 ?_
    show W K l _ n0 _ h0 0 0 44 #[.val (.int ln), .val (.int nbs), .val (.int sbs), .val (.int how), .val (.int (3 : Int32)), .val (.int (2 : Int32)), .val (.int n549), .val (.int n552), .unset, .unset, .unset, .unset, .unset, .unset, .unset] [(.int (nbs >>> ((16 : Int32) &&& 31)))]
    refine w_callS ok (y := (⟨"com/example/turnstile/turnstile/server/CommandsIsPinLaw", "nameByte", "(I)B"⟩ : MethodName)) (argsL := [(.int (nbs >>> ((16 : Int32) &&& 31)))]) (rest := []) at_44 (hw _ (List.mem_of_getElem? (i := 0) rfl)) (hw _ (List.mem_of_getElem? (i := 1) rfl)) (hw _ (List.mem_of_getElem? (i := 2) rfl)) (hw _ (List.mem_of_getElem? (i := 3) rfl)) (by decide) pd_28I29B rfl rfl (by decide) (Nat.le_of_ble_eq_true rfl) (by decide) (by decide) (fun z0 => rm_nb l Z a0 hw [] n0 h0 z0 (nbs >>> ((16 : Int32) &&& 31))) (fun v553 h554 qv553 => ?_)
    obtain ⟨n555, rfl, h1_n555, h2_n555, rfl⟩ := qv553
    show W K l _ n0 _ h0 0 0 47 #[.val (.int ln), .val (.int nbs), .val (.int sbs), .val (.int how), .val (.int (3 : Int32)), .val (.int (2 : Int32)), .val (.int n549), .val (.int n552), .unset, .unset, .unset, .unset, .unset, .unset, .unset] [(.int n555)]
    refine w_istore ok at_47 (L' := #[.val (.int ln), .val (.int nbs), .val (.int sbs), .val (.int how), .val (.int (3 : Int32)), .val (.int (2 : Int32)), .val (.int n549), .val (.int n552), .val (.int n555), .unset, .unset, .unset, .unset, .unset, .unset]) rfl ?_
    show W K l _ n0 _ h0 0 0 49 #[.val (.int ln), .val (.int nbs), .val (.int sbs), .val (.int how), .val (.int (3 : Int32)), .val (.int (2 : Int32)), .val (.int n549), .val (.int n552), .val (.int n555), .unset, .unset, .unset, .unset, .unset, .unset] []
    refine w_iloadN ok at_49 rfl ?_
    show W K l _ n0 _ h0 0 0 50 #[.val (.int ln), .val (.int nbs), .val (.int sbs), .val (.int how), .val (.int (3 : Int32)), .val (.int (2 : Int32)), .val (.int n549), .val (.int n552), .val (.int n555), .unset, .unset, .unset, .unset, .unset, .unset] [(.int how)]
    refine w_iloadN ok at_50 rfl ?_
    show W K l _ n0 _ h0 0 0 51 #[.val (.int ln), .val (.int nbs), .val (.int sbs), .val (.int how), .val (.int (3 : Int32)), .val (.int (2 : Int32)), .val (.int n549), .val (.int n552), .val (.int n555), .unset, .unset, .unset, .unset, .unset, .unset] [(.int sbs), (.int how)]
    refine w_iload ok at_51 rfl ?_
    show W K l _ n0 _ h0 0 0 53 #[.val (.int ln), .val (.int nbs), .val (.int sbs), .val (.int how), .val (.int (3 : Int32)), .val (.int (2 : Int32)), .val (.int n549), .val (.int n552), .val (.int n555), .unset, .unset, .unset, .unset, .unset, .unset] [(.int n549), (.int sbs), (.int how)]
    refine w_iload ok at_53 rfl ?_
    show W K l _ n0 _ h0 0 0 55 #[.val (.int ln), .val (.int nbs), .val (.int sbs), .val (.int how), .val (.int (3 : Int32)), .val (.int (2 : Int32)), .val (.int n549), .val (.int n552), .val (.int n555), .unset, .unset, .unset, .unset, .unset, .unset] [(.int (2 : Int32)), (.int n549), (.int sbs), (.int how)]
    refine w_if_le ok at_55 (pc' := 62) (by decide) (fun hc557 => False.elim (by revert hc557; decide)) (fun hc557 => ?_)
    show W K l _ n0 _ h0 0 0 58 #[.val (.int ln), .val (.int nbs), .val (.int sbs), .val (.int how), .val (.int (3 : Int32)), .val (.int (2 : Int32)), .val (.int n549), .val (.int n552), .val (.int n555), .unset, .unset, .unset, .unset, .unset, .unset] [(.int n549), (.int sbs), (.int how)]
    refine w_iconst ok at_58 (v := (1 : Int32)) rfl ?_
    show W K l _ n0 _ h0 0 0 59 #[.val (.int ln), .val (.int nbs), .val (.int sbs), .val (.int how), .val (.int (3 : Int32)), .val (.int (2 : Int32)), .val (.int n549), .val (.int n552), .val (.int n555), .unset, .unset, .unset, .unset, .unset, .unset] [(.int (1 : Int32)), (.int n549), (.int sbs), (.int how)]
    refine w_goto ok at_59 (pc' := 63) (by decide) ?_
    show W K l _ n0 _ h0 0 0 63 #[.val (.int ln), .val (.int nbs), .val (.int sbs), .val (.int how), .val (.int (3 : Int32)), .val (.int (2 : Int32)), .val (.int n549), .val (.int n552), .val (.int n555), .unset, .unset, .unset, .unset, .unset, .unset] [(.int (1 : Int32)), (.int n549), (.int sbs), (.int how)]
    refine w_callS ok (y := (⟨"com/example/turnstile/turnstile/server/CommandsIsPinLaw", "sentByte", "(IIBZ)B"⟩ : MethodName)) (argsL := [(.int how), (.int sbs), (.int n549), (.int (1 : Int32))]) (rest := []) at_63 (hw _ (List.mem_of_getElem? (i := 4) rfl)) (hw _ (List.mem_of_getElem? (i := 5) rfl)) (hw _ (List.mem_of_getElem? (i := 2) rfl)) (hw _ (List.mem_of_getElem? (i := 6) rfl)) (by decide) pd_28IIBZ29B rfl rfl (by decide) (Nat.le_of_ble_eq_true rfl) (by decide) (by decide) (fun z0 => rm_sb l Z a0 hw [] n0 h0 z0 how sbs n549 (1 : Int32)) (fun v558 h559 qv558 => ?_)
    obtain ⟨s560, rfl, h1_s560, rfl⟩ := qv558
    show W K l _ n0 _ h0 0 0 66 #[.val (.int ln), .val (.int nbs), .val (.int sbs), .val (.int how), .val (.int (3 : Int32)), .val (.int (2 : Int32)), .val (.int n549), .val (.int n552), .val (.int n555), .unset, .unset, .unset, .unset, .unset, .unset] [(.int s560)]
    refine w_istore ok at_66 (L' := #[.val (.int ln), .val (.int nbs), .val (.int sbs), .val (.int how), .val (.int (3 : Int32)), .val (.int (2 : Int32)), .val (.int n549), .val (.int n552), .val (.int n555), .val (.int s560), .unset, .unset, .unset, .unset, .unset]) rfl ?_
    show W K l _ n0 _ h0 0 0 68 #[.val (.int ln), .val (.int nbs), .val (.int sbs), .val (.int how), .val (.int (3 : Int32)), .val (.int (2 : Int32)), .val (.int n549), .val (.int n552), .val (.int n555), .val (.int s560), .unset, .unset, .unset, .unset, .unset] []
    refine w_iloadN ok at_68 rfl ?_
    show W K l _ n0 _ h0 0 0 69 #[.val (.int ln), .val (.int nbs), .val (.int sbs), .val (.int how), .val (.int (3 : Int32)), .val (.int (2 : Int32)), .val (.int n549), .val (.int n552), .val (.int n555), .val (.int s560), .unset, .unset, .unset, .unset, .unset] [(.int how)]
    refine w_iconst ok at_69 (v := (2 : Int32)) rfl ?_
    show W K l _ n0 _ h0 0 0 70 #[.val (.int ln), .val (.int nbs), .val (.int sbs), .val (.int how), .val (.int (3 : Int32)), .val (.int (2 : Int32)), .val (.int n549), .val (.int n552), .val (.int n555), .val (.int s560), .unset, .unset, .unset, .unset, .unset] [(.int (2 : Int32)), (.int how)]
    refine w_ishr ok at_70 ?_
    show W K l _ n0 _ h0 0 0 71 #[.val (.int ln), .val (.int nbs), .val (.int sbs), .val (.int how), .val (.int (3 : Int32)), .val (.int (2 : Int32)), .val (.int n549), .val (.int n552), .val (.int n555), .val (.int s560), .unset, .unset, .unset, .unset, .unset] [(.int (how >>> ((2 : Int32) &&& 31)))]
    refine w_iloadN ok at_71 rfl ?_
    show W K l _ n0 _ h0 0 0 72 #[.val (.int ln), .val (.int nbs), .val (.int sbs), .val (.int how), .val (.int (3 : Int32)), .val (.int (2 : Int32)), .val (.int n549), .val (.int n552), .val (.int n555), .val (.int s560), .unset, .unset, .unset, .unset, .unset] [(.int sbs), (.int (how >>> ((2 : Int32) &&& 31)))]
    refine w_bipush ok at_72 (v := (8 : Int32)) rfl ?_
    show W K l _ n0 _ h0 0 0 74 #[.val (.int ln), .val (.int nbs), .val (.int sbs), .val (.int how), .val (.int (3 : Int32)), .val (.int (2 : Int32)), .val (.int n549), .val (.int n552), .val (.int n555), .val (.int s560), .unset, .unset, .unset, .unset, .unset] [(.int (8 : Int32)), (.int sbs), (.int (how >>> ((2 : Int32) &&& 31)))]
    refine w_ishr ok at_74 ?_
    show W K l _ n0 _ h0 0 0 75 #[.val (.int ln), .val (.int nbs), .val (.int sbs), .val (.int how), .val (.int (3 : Int32)), .val (.int (2 : Int32)), .val (.int n549), .val (.int n552), .val (.int n555), .val (.int s560), .unset, .unset, .unset, .unset, .unset] [(.int (sbs >>> ((8 : Int32) &&& 31))), (.int (how >>> ((2 : Int32) &&& 31)))]
    refine w_iload ok at_75 rfl ?_
    show W K l _ n0 _ h0 0 0 77 #[.val (.int ln), .val (.int nbs), .val (.int sbs), .val (.int how), .val (.int (3 : Int32)), .val (.int (2 : Int32)), .val (.int n549), .val (.int n552), .val (.int n555), .val (.int s560), .unset, .unset, .unset, .unset, .unset] [(.int n552), (.int (sbs >>> ((8 : Int32) &&& 31))), (.int (how >>> ((2 : Int32) &&& 31)))]
    refine w_iload ok at_77 rfl ?_
    show W K l _ n0 _ h0 0 0 79 #[.val (.int ln), .val (.int nbs), .val (.int sbs), .val (.int how), .val (.int (3 : Int32)), .val (.int (2 : Int32)), .val (.int n549), .val (.int n552), .val (.int n555), .val (.int s560), .unset, .unset, .unset, .unset, .unset] [(.int (2 : Int32)), (.int n552), (.int (sbs >>> ((8 : Int32) &&& 31))), (.int (how >>> ((2 : Int32) &&& 31)))]
    refine w_iconst ok at_79 (v := (1 : Int32)) rfl ?_
    show W K l _ n0 _ h0 0 0 80 #[.val (.int ln), .val (.int nbs), .val (.int sbs), .val (.int how), .val (.int (3 : Int32)), .val (.int (2 : Int32)), .val (.int n549), .val (.int n552), .val (.int n555), .val (.int s560), .unset, .unset, .unset, .unset, .unset] [(.int (1 : Int32)), (.int (2 : Int32)), (.int n552), (.int (sbs >>> ((8 : Int32) &&& 31))), (.int (how >>> ((2 : Int32) &&& 31)))]
    refine w_icmp_le ok at_80 (pc' := 87) (by decide) (fun hc562 => False.elim (by revert hc562; decide)) (fun hc562 => ?_)
    show W K l _ n0 _ h0 0 0 83 #[.val (.int ln), .val (.int nbs), .val (.int sbs), .val (.int how), .val (.int (3 : Int32)), .val (.int (2 : Int32)), .val (.int n549), .val (.int n552), .val (.int n555), .val (.int s560), .unset, .unset, .unset, .unset, .unset] [(.int n552), (.int (sbs >>> ((8 : Int32) &&& 31))), (.int (how >>> ((2 : Int32) &&& 31)))]
    refine w_iconst ok at_83 (v := (1 : Int32)) rfl ?_
    show W K l _ n0 _ h0 0 0 84 #[.val (.int ln), .val (.int nbs), .val (.int sbs), .val (.int how), .val (.int (3 : Int32)), .val (.int (2 : Int32)), .val (.int n549), .val (.int n552), .val (.int n555), .val (.int s560), .unset, .unset, .unset, .unset, .unset] [(.int (1 : Int32)), (.int n552), (.int (sbs >>> ((8 : Int32) &&& 31))), (.int (how >>> ((2 : Int32) &&& 31)))]
    refine w_goto ok at_84 (pc' := 88) (by decide) ?_
    show W K l _ n0 _ h0 0 0 88 #[.val (.int ln), .val (.int nbs), .val (.int sbs), .val (.int how), .val (.int (3 : Int32)), .val (.int (2 : Int32)), .val (.int n549), .val (.int n552), .val (.int n555), .val (.int s560), .unset, .unset, .unset, .unset, .unset] [(.int (1 : Int32)), (.int n552), (.int (sbs >>> ((8 : Int32) &&& 31))), (.int (how >>> ((2 : Int32) &&& 31)))]
    refine w_callS ok (y := (⟨"com/example/turnstile/turnstile/server/CommandsIsPinLaw", "sentByte", "(IIBZ)B"⟩ : MethodName)) (argsL := [(.int (how >>> ((2 : Int32) &&& 31))), (.int (sbs >>> ((8 : Int32) &&& 31))), (.int n552), (.int (1 : Int32))]) (rest := []) at_88 (hw _ (List.mem_of_getElem? (i := 4) rfl)) (hw _ (List.mem_of_getElem? (i := 5) rfl)) (hw _ (List.mem_of_getElem? (i := 2) rfl)) (hw _ (List.mem_of_getElem? (i := 6) rfl)) (by decide) pd_28IIBZ29B rfl rfl (by decide) (Nat.le_of_ble_eq_true rfl) (by decide) (by decide) (fun z0 => rm_sb l Z a0 hw [] n0 h0 z0 (how >>> ((2 : Int32) &&& 31)) (sbs >>> ((8 : Int32) &&& 31)) n552 (1 : Int32)) (fun v563 h564 qv563 => ?_)
    obtain ⟨s565, rfl, h1_s565, rfl⟩ := qv563
    show W K l _ n0 _ h0 0 0 91 #[.val (.int ln), .val (.int nbs), .val (.int sbs), .val (.int how), .val (.int (3 : Int32)), .val (.int (2 : Int32)), .val (.int n549), .val (.int n552), .val (.int n555), .val (.int s560), .unset, .unset, .unset, .unset, .unset] [(.int s565)]
    refine w_istore ok at_91 (L' := #[.val (.int ln), .val (.int nbs), .val (.int sbs), .val (.int how), .val (.int (3 : Int32)), .val (.int (2 : Int32)), .val (.int n549), .val (.int n552), .val (.int n555), .val (.int s560), .val (.int s565), .unset, .unset, .unset, .unset]) rfl ?_
    show W K l _ n0 _ h0 0 0 93 #[.val (.int ln), .val (.int nbs), .val (.int sbs), .val (.int how), .val (.int (3 : Int32)), .val (.int (2 : Int32)), .val (.int n549), .val (.int n552), .val (.int n555), .val (.int s560), .val (.int s565), .unset, .unset, .unset, .unset] []
    refine w_iloadN ok at_93 rfl ?_
    show W K l _ n0 _ h0 0 0 94 #[.val (.int ln), .val (.int nbs), .val (.int sbs), .val (.int how), .val (.int (3 : Int32)), .val (.int (2 : Int32)), .val (.int n549), .val (.int n552), .val (.int n555), .val (.int s560), .val (.int s565), .unset, .unset, .unset, .unset] [(.int how)]
    refine w_iconst ok at_94 (v := (4 : Int32)) rfl ?_
    show W K l _ n0 _ h0 0 0 95 #[.val (.int ln), .val (.int nbs), .val (.int sbs), .val (.int how), .val (.int (3 : Int32)), .val (.int (2 : Int32)), .val (.int n549), .val (.int n552), .val (.int n555), .val (.int s560), .val (.int s565), .unset, .unset, .unset, .unset] [(.int (4 : Int32)), (.int how)]
    refine w_ishr ok at_95 ?_
    show W K l _ n0 _ h0 0 0 96 #[.val (.int ln), .val (.int nbs), .val (.int sbs), .val (.int how), .val (.int (3 : Int32)), .val (.int (2 : Int32)), .val (.int n549), .val (.int n552), .val (.int n555), .val (.int s560), .val (.int s565), .unset, .unset, .unset, .unset] [(.int (how >>> ((4 : Int32) &&& 31)))]
    refine w_iloadN ok at_96 rfl ?_
    show W K l _ n0 _ h0 0 0 97 #[.val (.int ln), .val (.int nbs), .val (.int sbs), .val (.int how), .val (.int (3 : Int32)), .val (.int (2 : Int32)), .val (.int n549), .val (.int n552), .val (.int n555), .val (.int s560), .val (.int s565), .unset, .unset, .unset, .unset] [(.int sbs), (.int (how >>> ((4 : Int32) &&& 31)))]
    refine w_bipush ok at_97 (v := (16 : Int32)) rfl ?_
    show W K l _ n0 _ h0 0 0 99 #[.val (.int ln), .val (.int nbs), .val (.int sbs), .val (.int how), .val (.int (3 : Int32)), .val (.int (2 : Int32)), .val (.int n549), .val (.int n552), .val (.int n555), .val (.int s560), .val (.int s565), .unset, .unset, .unset, .unset] [(.int (16 : Int32)), (.int sbs), (.int (how >>> ((4 : Int32) &&& 31)))]
    refine w_ishr ok at_99 ?_
    show W K l _ n0 _ h0 0 0 100 #[.val (.int ln), .val (.int nbs), .val (.int sbs), .val (.int how), .val (.int (3 : Int32)), .val (.int (2 : Int32)), .val (.int n549), .val (.int n552), .val (.int n555), .val (.int s560), .val (.int s565), .unset, .unset, .unset, .unset] [(.int (sbs >>> ((16 : Int32) &&& 31))), (.int (how >>> ((4 : Int32) &&& 31)))]
    refine w_iload ok at_100 rfl ?_
    show W K l _ n0 _ h0 0 0 102 #[.val (.int ln), .val (.int nbs), .val (.int sbs), .val (.int how), .val (.int (3 : Int32)), .val (.int (2 : Int32)), .val (.int n549), .val (.int n552), .val (.int n555), .val (.int s560), .val (.int s565), .unset, .unset, .unset, .unset] [(.int n555), (.int (sbs >>> ((16 : Int32) &&& 31))), (.int (how >>> ((4 : Int32) &&& 31)))]
    refine w_iload ok at_102 rfl ?_
    show W K l _ n0 _ h0 0 0 104 #[.val (.int ln), .val (.int nbs), .val (.int sbs), .val (.int how), .val (.int (3 : Int32)), .val (.int (2 : Int32)), .val (.int n549), .val (.int n552), .val (.int n555), .val (.int s560), .val (.int s565), .unset, .unset, .unset, .unset] [(.int (2 : Int32)), (.int n555), (.int (sbs >>> ((16 : Int32) &&& 31))), (.int (how >>> ((4 : Int32) &&& 31)))]
    refine w_iconst ok at_104 (v := (2 : Int32)) rfl ?_
    show W K l _ n0 _ h0 0 0 105 #[.val (.int ln), .val (.int nbs), .val (.int sbs), .val (.int how), .val (.int (3 : Int32)), .val (.int (2 : Int32)), .val (.int n549), .val (.int n552), .val (.int n555), .val (.int s560), .val (.int s565), .unset, .unset, .unset, .unset] [(.int (2 : Int32)), (.int (2 : Int32)), (.int n555), (.int (sbs >>> ((16 : Int32) &&& 31))), (.int (how >>> ((4 : Int32) &&& 31)))]
    refine w_icmp_le ok at_105 (pc' := 112) (by decide) (fun hc567 => ?_) (fun hc567 => False.elim (by revert hc567; decide))
    show W K l _ n0 _ h0 0 0 112 #[.val (.int ln), .val (.int nbs), .val (.int sbs), .val (.int how), .val (.int (3 : Int32)), .val (.int (2 : Int32)), .val (.int n549), .val (.int n552), .val (.int n555), .val (.int s560), .val (.int s565), .unset, .unset, .unset, .unset] [(.int n555), (.int (sbs >>> ((16 : Int32) &&& 31))), (.int (how >>> ((4 : Int32) &&& 31)))]
    refine w_iconst ok at_112 (v := (0 : Int32)) rfl ?_
    show W K l _ n0 _ h0 0 0 113 #[.val (.int ln), .val (.int nbs), .val (.int sbs), .val (.int how), .val (.int (3 : Int32)), .val (.int (2 : Int32)), .val (.int n549), .val (.int n552), .val (.int n555), .val (.int s560), .val (.int s565), .unset, .unset, .unset, .unset] [(.int (0 : Int32)), (.int n555), (.int (sbs >>> ((16 : Int32) &&& 31))), (.int (how >>> ((4 : Int32) &&& 31)))]
    refine w_callS ok (y := (⟨"com/example/turnstile/turnstile/server/CommandsIsPinLaw", "sentByte", "(IIBZ)B"⟩ : MethodName)) (argsL := [(.int (how >>> ((4 : Int32) &&& 31))), (.int (sbs >>> ((16 : Int32) &&& 31))), (.int n555), (.int (0 : Int32))]) (rest := []) at_113 (hw _ (List.mem_of_getElem? (i := 4) rfl)) (hw _ (List.mem_of_getElem? (i := 5) rfl)) (hw _ (List.mem_of_getElem? (i := 2) rfl)) (hw _ (List.mem_of_getElem? (i := 6) rfl)) (by decide) pd_28IIBZ29B rfl rfl (by decide) (Nat.le_of_ble_eq_true rfl) (by decide) (by decide) (fun z0 => rm_sb l Z a0 hw [] n0 h0 z0 (how >>> ((4 : Int32) &&& 31)) (sbs >>> ((16 : Int32) &&& 31)) n555 (0 : Int32)) (fun v568 h569 qv568 => ?_)
    obtain ⟨s570, rfl, h1_s570, rfl⟩ := qv568
    show W K l _ n0 _ h0 0 0 116 #[.val (.int ln), .val (.int nbs), .val (.int sbs), .val (.int how), .val (.int (3 : Int32)), .val (.int (2 : Int32)), .val (.int n549), .val (.int n552), .val (.int n555), .val (.int s560), .val (.int s565), .unset, .unset, .unset, .unset] [(.int s570)]
    refine w_istore ok at_116 (L' := #[.val (.int ln), .val (.int nbs), .val (.int sbs), .val (.int how), .val (.int (3 : Int32)), .val (.int (2 : Int32)), .val (.int n549), .val (.int n552), .val (.int n555), .val (.int s560), .val (.int s565), .val (.int s570), .unset, .unset, .unset]) rfl ?_
    show W K l _ n0 _ h0 0 0 118 #[.val (.int ln), .val (.int nbs), .val (.int sbs), .val (.int how), .val (.int (3 : Int32)), .val (.int (2 : Int32)), .val (.int n549), .val (.int n552), .val (.int n555), .val (.int s560), .val (.int s565), .val (.int s570), .unset, .unset, .unset] []
    refine w_iload ok at_118 rfl ?_
    show W K l _ n0 _ h0 0 0 120 #[.val (.int ln), .val (.int nbs), .val (.int sbs), .val (.int how), .val (.int (3 : Int32)), .val (.int (2 : Int32)), .val (.int n549), .val (.int n552), .val (.int n555), .val (.int s560), .val (.int s565), .val (.int s570), .unset, .unset, .unset] [(.int (3 : Int32))]
    refine w_iload ok at_120 rfl ?_
    show W K l _ n0 _ h0 0 0 122 #[.val (.int ln), .val (.int nbs), .val (.int sbs), .val (.int how), .val (.int (3 : Int32)), .val (.int (2 : Int32)), .val (.int n549), .val (.int n552), .val (.int n555), .val (.int s560), .val (.int s565), .val (.int s570), .unset, .unset, .unset] [(.int s560), (.int (3 : Int32))]
    refine w_iload ok at_122 rfl ?_
    show W K l _ n0 _ h0 0 0 124 #[.val (.int ln), .val (.int nbs), .val (.int sbs), .val (.int how), .val (.int (3 : Int32)), .val (.int (2 : Int32)), .val (.int n549), .val (.int n552), .val (.int n555), .val (.int s560), .val (.int s565), .val (.int s570), .unset, .unset, .unset] [(.int s565), (.int s560), (.int (3 : Int32))]
    refine w_iload ok at_124 rfl ?_
    show W K l _ n0 _ h0 0 0 126 #[.val (.int ln), .val (.int nbs), .val (.int sbs), .val (.int how), .val (.int (3 : Int32)), .val (.int (2 : Int32)), .val (.int n549), .val (.int n552), .val (.int n555), .val (.int s560), .val (.int s565), .val (.int s570), .unset, .unset, .unset] [(.int s570), (.int s565), (.int s560), (.int (3 : Int32))]
    refine w_callS ok (y := (⟨"com/example/turnstile/turnstile/server/CommandsIsPinLaw", "make", "(IBBB)[B"⟩ : MethodName)) (argsL := [(.int (3 : Int32)), (.int s560), (.int s565), (.int s570)]) (rest := []) at_126 (hw _ (List.mem_of_getElem? (i := 7) rfl)) (hw _ (List.mem_of_getElem? (i := 8) rfl)) (hw _ (List.mem_of_getElem? (i := 2) rfl)) (hw _ (List.mem_of_getElem? (i := 9) rfl)) (by decide) pd_28IBBB295bB rfl rfl (by decide) (Nat.le_of_ble_eq_true rfl) (by decide) (by decide) (fun z0 => rm_mk3 l Z a0 hw [] n0 h0 z0 s560 s565 s570) (fun v571 h572 qv571 => ?_)
    obtain ⟨r573, rfl, sz_r573, ge_r573, K1, A_r573⟩ := qv571
    show W K l _ n0 _ h572 1 3 129 #[.val (.int ln), .val (.int nbs), .val (.int sbs), .val (.int how), .val (.int (3 : Int32)), .val (.int (2 : Int32)), .val (.int n549), .val (.int n552), .val (.int n555), .val (.int s560), .val (.int s565), .val (.int s570), .unset, .unset, .unset] [(.ref r573)]
    refine w_astore ok at_129 rfl (L' := #[.val (.int ln), .val (.int nbs), .val (.int sbs), .val (.int how), .val (.int (3 : Int32)), .val (.int (2 : Int32)), .val (.int n549), .val (.int n552), .val (.int n555), .val (.int s560), .val (.int s565), .val (.int s570), .val (.ref r573), .unset, .unset]) rfl ?_
    show W K l _ n0 _ h572 1 3 131 #[.val (.int ln), .val (.int nbs), .val (.int sbs), .val (.int how), .val (.int (3 : Int32)), .val (.int (2 : Int32)), .val (.int n549), .val (.int n552), .val (.int n555), .val (.int s560), .val (.int s565), .val (.int s570), .val (.ref r573), .unset, .unset] []
    refine w_iload ok at_131 rfl ?_
    show W K l _ n0 _ h572 1 3 133 #[.val (.int ln), .val (.int nbs), .val (.int sbs), .val (.int how), .val (.int (3 : Int32)), .val (.int (2 : Int32)), .val (.int n549), .val (.int n552), .val (.int n555), .val (.int s560), .val (.int s565), .val (.int s570), .val (.ref r573), .unset, .unset] [(.int (2 : Int32))]
    refine w_iload ok at_133 rfl ?_
    show W K l _ n0 _ h572 1 3 135 #[.val (.int ln), .val (.int nbs), .val (.int sbs), .val (.int how), .val (.int (3 : Int32)), .val (.int (2 : Int32)), .val (.int n549), .val (.int n552), .val (.int n555), .val (.int s560), .val (.int s565), .val (.int s570), .val (.ref r573), .unset, .unset] [(.int n549), (.int (2 : Int32))]
    refine w_iload ok at_135 rfl ?_
    show W K l _ n0 _ h572 1 3 137 #[.val (.int ln), .val (.int nbs), .val (.int sbs), .val (.int how), .val (.int (3 : Int32)), .val (.int (2 : Int32)), .val (.int n549), .val (.int n552), .val (.int n555), .val (.int s560), .val (.int s565), .val (.int s570), .val (.ref r573), .unset, .unset] [(.int n552), (.int n549), (.int (2 : Int32))]
    refine w_iload ok at_137 rfl ?_
    show W K l _ n0 _ h572 1 3 139 #[.val (.int ln), .val (.int nbs), .val (.int sbs), .val (.int how), .val (.int (3 : Int32)), .val (.int (2 : Int32)), .val (.int n549), .val (.int n552), .val (.int n555), .val (.int s560), .val (.int s565), .val (.int s570), .val (.ref r573), .unset, .unset] [(.int n555), (.int n552), (.int n549), (.int (2 : Int32))]
    refine w_callS ok (y := (⟨"com/example/turnstile/turnstile/server/CommandsIsPinLaw", "make", "(IBBB)[B"⟩ : MethodName)) (argsL := [(.int (2 : Int32)), (.int n549), (.int n552), (.int n555)]) (rest := []) at_139 (hw _ (List.mem_of_getElem? (i := 7) rfl)) (hw _ (List.mem_of_getElem? (i := 8) rfl)) (hw _ (List.mem_of_getElem? (i := 2) rfl)) (hw _ (List.mem_of_getElem? (i := 9) rfl)) (by decide) pd_28IBBB295bB rfl rfl (by decide) (Nat.le_of_ble_eq_true rfl) (by decide) (by decide) (fun z0 => rm_mk2 l Z a0 hw [] n0 h572 z0 n549 n552 n555) (fun v574 h575 qv574 => ?_)
    obtain ⟨r576, rfl, sz_r576, ge_r576, K1, A_r576⟩ := qv574
    have ne_r573_r576 : r573 ≠ r576 := Nat.ne_of_lt (Nat.lt_of_lt_of_le A_r573.lt sz_r576)
    replace A_r573 := A_r573.keep K1 nin0
    show W K l _ n0 _ h575 2 5 142 #[.val (.int ln), .val (.int nbs), .val (.int sbs), .val (.int how), .val (.int (3 : Int32)), .val (.int (2 : Int32)), .val (.int n549), .val (.int n552), .val (.int n555), .val (.int s560), .val (.int s565), .val (.int s570), .val (.ref r573), .unset, .unset] [(.ref r576)]
    refine w_astore ok at_142 rfl (L' := #[.val (.int ln), .val (.int nbs), .val (.int sbs), .val (.int how), .val (.int (3 : Int32)), .val (.int (2 : Int32)), .val (.int n549), .val (.int n552), .val (.int n555), .val (.int s560), .val (.int s565), .val (.int s570), .val (.ref r573), .val (.ref r576), .unset]) rfl ?_
    show W K l _ n0 _ h575 2 5 144 #[.val (.int ln), .val (.int nbs), .val (.int sbs), .val (.int how), .val (.int (3 : Int32)), .val (.int (2 : Int32)), .val (.int n549), .val (.int n552), .val (.int n555), .val (.int s560), .val (.int s565), .val (.int s570), .val (.ref r573), .val (.ref r576), .unset] []
    refine w_iload ok at_144 rfl ?_
    show W K l _ n0 _ h575 2 5 146 #[.val (.int ln), .val (.int nbs), .val (.int sbs), .val (.int how), .val (.int (3 : Int32)), .val (.int (2 : Int32)), .val (.int n549), .val (.int n552), .val (.int n555), .val (.int s560), .val (.int s565), .val (.int s570), .val (.ref r573), .val (.ref r576), .unset] [(.int (3 : Int32))]
    refine w_iload ok at_146 rfl ?_
    show W K l _ n0 _ h575 2 5 148 #[.val (.int ln), .val (.int nbs), .val (.int sbs), .val (.int how), .val (.int (3 : Int32)), .val (.int (2 : Int32)), .val (.int n549), .val (.int n552), .val (.int n555), .val (.int s560), .val (.int s565), .val (.int s570), .val (.ref r573), .val (.ref r576), .unset] [(.int (2 : Int32)), (.int (3 : Int32))]
    refine w_icmp_ne ok at_148 (pc' := 203) (by decide) (fun hc578 => ?_) (fun hc578 => False.elim (by revert hc578; decide))
    show W K l _ n0 _ h575 2 5 203 #[.val (.int ln), .val (.int nbs), .val (.int sbs), .val (.int how), .val (.int (3 : Int32)), .val (.int (2 : Int32)), .val (.int n549), .val (.int n552), .val (.int n555), .val (.int s560), .val (.int s565), .val (.int s570), .val (.ref r573), .val (.ref r576), .unset] []
    refine w_iconst ok at_203 (v := (0 : Int32)) rfl ?_
    show W K l _ n0 _ h575 2 5 204 #[.val (.int ln), .val (.int nbs), .val (.int sbs), .val (.int how), .val (.int (3 : Int32)), .val (.int (2 : Int32)), .val (.int n549), .val (.int n552), .val (.int n555), .val (.int s560), .val (.int s565), .val (.int s570), .val (.ref r573), .val (.ref r576), .unset] [(.int (0 : Int32))]
    refine w_istore ok at_204 (L' := #[.val (.int ln), .val (.int nbs), .val (.int sbs), .val (.int how), .val (.int (3 : Int32)), .val (.int (2 : Int32)), .val (.int n549), .val (.int n552), .val (.int n555), .val (.int s560), .val (.int s565), .val (.int s570), .val (.ref r573), .val (.ref r576), .val (.int (0 : Int32))]) rfl ?_
    show W K l _ n0 _ h575 2 5 206 #[.val (.int ln), .val (.int nbs), .val (.int sbs), .val (.int how), .val (.int (3 : Int32)), .val (.int (2 : Int32)), .val (.int n549), .val (.int n552), .val (.int n555), .val (.int s560), .val (.int s565), .val (.int s570), .val (.ref r573), .val (.ref r576), .val (.int (0 : Int32))] []
    refine w_aload ok at_206 rfl rfl ?_
    show W K l _ n0 _ h575 2 5 208 #[.val (.int ln), .val (.int nbs), .val (.int sbs), .val (.int how), .val (.int (3 : Int32)), .val (.int (2 : Int32)), .val (.int n549), .val (.int n552), .val (.int n555), .val (.int s560), .val (.int s565), .val (.int s570), .val (.ref r573), .val (.ref r576), .val (.int (0 : Int32))] [(.ref r573)]
    refine w_aload ok at_208 rfl rfl ?_
    show W K l _ n0 _ h575 2 5 210 #[.val (.int ln), .val (.int nbs), .val (.int sbs), .val (.int how), .val (.int (3 : Int32)), .val (.int (2 : Int32)), .val (.int n549), .val (.int n552), .val (.int n555), .val (.int s560), .val (.int s565), .val (.int s570), .val (.ref r573), .val (.ref r576), .val (.int (0 : Int32))] [(.ref r576), (.ref r573)]
    refine w_callS ok (y := (⟨"com/example/turnstile/turnstile/server/Commands", "is", "([B[B)Z"⟩ : MethodName)) (argsL := [(.ref r573), (.ref r576)]) (rest := []) at_210 (hw _ (List.mem_of_getElem? (i := 11) rfl)) (hw _ (List.mem_of_getElem? (i := 12) rfl)) (hw _ (List.mem_of_getElem? (i := 13) rfl)) (hw _ (List.mem_of_getElem? (i := 14) rfl)) (by decide) pd_285bB5bB29Z rfl rfl (by decide) (Nat.le_of_ble_eq_true rfl) (by decide) (by decide) (fun z0 => rm_is l Z a0 hw [] n0 h575 z0 r573 r576 [nar .byte s560, nar .byte s565, nar .byte s570] [nar .byte n549, nar .byte n552] A_r573 A_r576) (fun v579 h580 qv579 => ?_)
    obtain ⟨rfl, rfl⟩ := qv579
    show W K l _ n0 _ h575 2 5 213 #[.val (.int ln), .val (.int nbs), .val (.int sbs), .val (.int how), .val (.int (3 : Int32)), .val (.int (2 : Int32)), .val (.int n549), .val (.int n552), .val (.int n555), .val (.int s560), .val (.int s565), .val (.int s570), .val (.ref r573), .val (.ref r576), .val (.int (0 : Int32))] [(.int (nar .boolean (own_isl [nar .byte s560, nar .byte s565, nar .byte s570] [nar .byte n549, nar .byte n552])))]
    refine w_iload ok at_213 rfl ?_
    show W K l _ n0 _ h575 2 5 215 #[.val (.int ln), .val (.int nbs), .val (.int sbs), .val (.int how), .val (.int (3 : Int32)), .val (.int (2 : Int32)), .val (.int n549), .val (.int n552), .val (.int n555), .val (.int s560), .val (.int s565), .val (.int s570), .val (.ref r573), .val (.ref r576), .val (.int (0 : Int32))] [(.int (0 : Int32)), (.int (nar .boolean (own_isl [nar .byte s560, nar .byte s565, nar .byte s570] [nar .byte n549, nar .byte n552])))]
    refine w_icmp_ne ok at_215 (pc' := 222) (by decide) (fun hc582 => False.elim (by exact hc582 (by rw [own_isl_len (by simp)] <;> rfl))) (fun hc582 => ?_)
    show W K l _ n0 _ h575 2 5 218 #[.val (.int ln), .val (.int nbs), .val (.int sbs), .val (.int how), .val (.int (3 : Int32)), .val (.int (2 : Int32)), .val (.int n549), .val (.int n552), .val (.int n555), .val (.int s560), .val (.int s565), .val (.int s570), .val (.ref r573), .val (.ref r576), .val (.int (0 : Int32))] []
    refine w_iconst ok at_218 (v := (1 : Int32)) rfl ?_
    show W K l _ n0 _ h575 2 5 219 #[.val (.int ln), .val (.int nbs), .val (.int sbs), .val (.int how), .val (.int (3 : Int32)), .val (.int (2 : Int32)), .val (.int n549), .val (.int n552), .val (.int n555), .val (.int s560), .val (.int s565), .val (.int s570), .val (.ref r573), .val (.ref r576), .val (.int (0 : Int32))] [(.int (1 : Int32))]
    refine w_goto ok at_219 (pc' := 223) (by decide) ?_
    show W K l _ n0 _ h575 2 5 223 #[.val (.int ln), .val (.int nbs), .val (.int sbs), .val (.int how), .val (.int (3 : Int32)), .val (.int (2 : Int32)), .val (.int n549), .val (.int n552), .val (.int n555), .val (.int s560), .val (.int s565), .val (.int s570), .val (.ref r573), .val (.ref r576), .val (.int (0 : Int32))] [(.int (1 : Int32))]
    refine w_bret ok (by simp) at_223 (by decide) (by decide) ?_
    exact rfl
  · skip
    show W K l _ n0 _ h0 0 0 25 #[.val (.int ln), .val (.int nbs), .val (.int sbs), .val (.int how), .val (.int (3 : Int32)), .val (.int (3 : Int32)), .unset, .unset, .unset, .unset, .unset, .unset, .unset, .unset, .unset] []
    refine w_iloadN ok at_25 rfl ?_
    show W K l _ n0 _ h0 0 0 26 #[.val (.int ln), .val (.int nbs), .val (.int sbs), .val (.int how), .val (.int (3 : Int32)), .val (.int (3 : Int32)), .unset, .unset, .unset, .unset, .unset, .unset, .unset, .unset, .unset] [(.int nbs)]
    refine w_callS ok (y := (⟨"com/example/turnstile/turnstile/server/CommandsIsPinLaw", "nameByte", "(I)B"⟩ : MethodName)) (argsL := [(.int nbs)]) (rest := []) at_26 (hw _ (List.mem_of_getElem? (i := 0) rfl)) (hw _ (List.mem_of_getElem? (i := 1) rfl)) (hw _ (List.mem_of_getElem? (i := 2) rfl)) (hw _ (List.mem_of_getElem? (i := 3) rfl)) (by decide) pd_28I29B rfl rfl (by decide) (Nat.le_of_ble_eq_true rfl) (by decide) (by decide) (fun z0 => rm_nb l Z a0 hw [] n0 h0 z0 nbs) (fun v583 h584 qv583 => ?_)
    obtain ⟨n585, rfl, h1_n585, h2_n585, rfl⟩ := qv583
    show W K l _ n0 _ h0 0 0 29 #[.val (.int ln), .val (.int nbs), .val (.int sbs), .val (.int how), .val (.int (3 : Int32)), .val (.int (3 : Int32)), .unset, .unset, .unset, .unset, .unset, .unset, .unset, .unset, .unset] [(.int n585)]
    refine w_istore ok at_29 (L' := #[.val (.int ln), .val (.int nbs), .val (.int sbs), .val (.int how), .val (.int (3 : Int32)), .val (.int (3 : Int32)), .val (.int n585), .unset, .unset, .unset, .unset, .unset, .unset, .unset, .unset]) rfl ?_
    show W K l _ n0 _ h0 0 0 31 #[.val (.int ln), .val (.int nbs), .val (.int sbs), .val (.int how), .val (.int (3 : Int32)), .val (.int (3 : Int32)), .val (.int n585), .unset, .unset, .unset, .unset, .unset, .unset, .unset, .unset] []
    refine w_iloadN ok at_31 rfl ?_
    show W K l _ n0 _ h0 0 0 32 #[.val (.int ln), .val (.int nbs), .val (.int sbs), .val (.int how), .val (.int (3 : Int32)), .val (.int (3 : Int32)), .val (.int n585), .unset, .unset, .unset, .unset, .unset, .unset, .unset, .unset] [(.int nbs)]
    refine w_bipush ok at_32 (v := (8 : Int32)) rfl ?_
    show W K l _ n0 _ h0 0 0 34 #[.val (.int ln), .val (.int nbs), .val (.int sbs), .val (.int how), .val (.int (3 : Int32)), .val (.int (3 : Int32)), .val (.int n585), .unset, .unset, .unset, .unset, .unset, .unset, .unset, .unset] [(.int (8 : Int32)), (.int nbs)]
    refine w_ishr ok at_34 ?_
    show W K l _ n0 _ h0 0 0 35 #[.val (.int ln), .val (.int nbs), .val (.int sbs), .val (.int how), .val (.int (3 : Int32)), .val (.int (3 : Int32)), .val (.int n585), .unset, .unset, .unset, .unset, .unset, .unset, .unset, .unset] [(.int (nbs >>> ((8 : Int32) &&& 31)))]
    refine w_callS ok (y := (⟨"com/example/turnstile/turnstile/server/CommandsIsPinLaw", "nameByte", "(I)B"⟩ : MethodName)) (argsL := [(.int (nbs >>> ((8 : Int32) &&& 31)))]) (rest := []) at_35 (hw _ (List.mem_of_getElem? (i := 0) rfl)) (hw _ (List.mem_of_getElem? (i := 1) rfl)) (hw _ (List.mem_of_getElem? (i := 2) rfl)) (hw _ (List.mem_of_getElem? (i := 3) rfl)) (by decide) pd_28I29B rfl rfl (by decide) (Nat.le_of_ble_eq_true rfl) (by decide) (by decide) (fun z0 => rm_nb l Z a0 hw [] n0 h0 z0 (nbs >>> ((8 : Int32) &&& 31))) (fun v586 h587 qv586 => ?_)
    obtain ⟨n588, rfl, h1_n588, h2_n588, rfl⟩ := qv586
    show W K l _ n0 _ h0 0 0 38 #[.val (.int ln), .val (.int nbs), .val (.int sbs), .val (.int how), .val (.int (3 : Int32)), .val (.int (3 : Int32)), .val (.int n585), .unset, .unset, .unset, .unset, .unset, .unset, .unset, .unset] [(.int n588)]
    refine w_istore ok at_38 (L' := #[.val (.int ln), .val (.int nbs), .val (.int sbs), .val (.int how), .val (.int (3 : Int32)), .val (.int (3 : Int32)), .val (.int n585), .val (.int n588), .unset, .unset, .unset, .unset, .unset, .unset, .unset]) rfl ?_
    show W K l _ n0 _ h0 0 0 40 #[.val (.int ln), .val (.int nbs), .val (.int sbs), .val (.int how), .val (.int (3 : Int32)), .val (.int (3 : Int32)), .val (.int n585), .val (.int n588), .unset, .unset, .unset, .unset, .unset, .unset, .unset] []
    refine w_iloadN ok at_40 rfl ?_
    show W K l _ n0 _ h0 0 0 41 #[.val (.int ln), .val (.int nbs), .val (.int sbs), .val (.int how), .val (.int (3 : Int32)), .val (.int (3 : Int32)), .val (.int n585), .val (.int n588), .unset, .unset, .unset, .unset, .unset, .unset, .unset] [(.int nbs)]
    refine w_bipush ok at_41 (v := (16 : Int32)) rfl ?_
    show W K l _ n0 _ h0 0 0 43 #[.val (.int ln), .val (.int nbs), .val (.int sbs), .val (.int how), .val (.int (3 : Int32)), .val (.int (3 : Int32)), .val (.int n585), .val (.int n588), .unset, .unset, .unset, .unset, .unset, .unset, .unset] [(.int (16 : Int32)), (.int nbs)]
    refine w_ishr ok at_43 ?_
    show W K l _ n0 _ h0 0 0 44 #[.val (.int ln), .val (.int nbs), .val (.int sbs), .val (.int how), .val (.int (3 : Int32)), .val (.int (3 : Int32)), .val (.int n585), .val (.int n588), .unset, .unset, .unset, .unset, .unset, .unset, .unset] [(.int (nbs >>> ((16 : Int32) &&& 31)))]
    refine w_callS ok (y := (⟨"com/example/turnstile/turnstile/server/CommandsIsPinLaw", "nameByte", "(I)B"⟩ : MethodName)) (argsL := [(.int (nbs >>> ((16 : Int32) &&& 31)))]) (rest := []) at_44 (hw _ (List.mem_of_getElem? (i := 0) rfl)) (hw _ (List.mem_of_getElem? (i := 1) rfl)) (hw _ (List.mem_of_getElem? (i := 2) rfl)) (hw _ (List.mem_of_getElem? (i := 3) rfl)) (by decide) pd_28I29B rfl rfl (by decide) (Nat.le_of_ble_eq_true rfl) (by decide) (by decide) (fun z0 => rm_nb l Z a0 hw [] n0 h0 z0 (nbs >>> ((16 : Int32) &&& 31))) (fun v589 h590 qv589 => ?_)
    obtain ⟨n591, rfl, h1_n591, h2_n591, rfl⟩ := qv589
    show W K l _ n0 _ h0 0 0 47 #[.val (.int ln), .val (.int nbs), .val (.int sbs), .val (.int how), .val (.int (3 : Int32)), .val (.int (3 : Int32)), .val (.int n585), .val (.int n588), .unset, .unset, .unset, .unset, .unset, .unset, .unset] [(.int n591)]
    refine w_istore ok at_47 (L' := #[.val (.int ln), .val (.int nbs), .val (.int sbs), .val (.int how), .val (.int (3 : Int32)), .val (.int (3 : Int32)), .val (.int n585), .val (.int n588), .val (.int n591), .unset, .unset, .unset, .unset, .unset, .unset]) rfl ?_
    show W K l _ n0 _ h0 0 0 49 #[.val (.int ln), .val (.int nbs), .val (.int sbs), .val (.int how), .val (.int (3 : Int32)), .val (.int (3 : Int32)), .val (.int n585), .val (.int n588), .val (.int n591), .unset, .unset, .unset, .unset, .unset, .unset] []
    refine w_iloadN ok at_49 rfl ?_
    show W K l _ n0 _ h0 0 0 50 #[.val (.int ln), .val (.int nbs), .val (.int sbs), .val (.int how), .val (.int (3 : Int32)), .val (.int (3 : Int32)), .val (.int n585), .val (.int n588), .val (.int n591), .unset, .unset, .unset, .unset, .unset, .unset] [(.int how)]
    refine w_iloadN ok at_50 rfl ?_
    show W K l _ n0 _ h0 0 0 51 #[.val (.int ln), .val (.int nbs), .val (.int sbs), .val (.int how), .val (.int (3 : Int32)), .val (.int (3 : Int32)), .val (.int n585), .val (.int n588), .val (.int n591), .unset, .unset, .unset, .unset, .unset, .unset] [(.int sbs), (.int how)]
    refine w_iload ok at_51 rfl ?_
    show W K l _ n0 _ h0 0 0 53 #[.val (.int ln), .val (.int nbs), .val (.int sbs), .val (.int how), .val (.int (3 : Int32)), .val (.int (3 : Int32)), .val (.int n585), .val (.int n588), .val (.int n591), .unset, .unset, .unset, .unset, .unset, .unset] [(.int n585), (.int sbs), (.int how)]
    refine w_iload ok at_53 rfl ?_
    show W K l _ n0 _ h0 0 0 55 #[.val (.int ln), .val (.int nbs), .val (.int sbs), .val (.int how), .val (.int (3 : Int32)), .val (.int (3 : Int32)), .val (.int n585), .val (.int n588), .val (.int n591), .unset, .unset, .unset, .unset, .unset, .unset] [(.int (3 : Int32)), (.int n585), (.int sbs), (.int how)]
    refine w_if_le ok at_55 (pc' := 62) (by decide) (fun hc593 => False.elim (by revert hc593; decide)) (fun hc593 => ?_)
    show W K l _ n0 _ h0 0 0 58 #[.val (.int ln), .val (.int nbs), .val (.int sbs), .val (.int how), .val (.int (3 : Int32)), .val (.int (3 : Int32)), .val (.int n585), .val (.int n588), .val (.int n591), .unset, .unset, .unset, .unset, .unset, .unset] [(.int n585), (.int sbs), (.int how)]
    refine w_iconst ok at_58 (v := (1 : Int32)) rfl ?_
    show W K l _ n0 _ h0 0 0 59 #[.val (.int ln), .val (.int nbs), .val (.int sbs), .val (.int how), .val (.int (3 : Int32)), .val (.int (3 : Int32)), .val (.int n585), .val (.int n588), .val (.int n591), .unset, .unset, .unset, .unset, .unset, .unset] [(.int (1 : Int32)), (.int n585), (.int sbs), (.int how)]
    refine w_goto ok at_59 (pc' := 63) (by decide) ?_
    show W K l _ n0 _ h0 0 0 63 #[.val (.int ln), .val (.int nbs), .val (.int sbs), .val (.int how), .val (.int (3 : Int32)), .val (.int (3 : Int32)), .val (.int n585), .val (.int n588), .val (.int n591), .unset, .unset, .unset, .unset, .unset, .unset] [(.int (1 : Int32)), (.int n585), (.int sbs), (.int how)]
    refine w_callS ok (y := (⟨"com/example/turnstile/turnstile/server/CommandsIsPinLaw", "sentByte", "(IIBZ)B"⟩ : MethodName)) (argsL := [(.int how), (.int sbs), (.int n585), (.int (1 : Int32))]) (rest := []) at_63 (hw _ (List.mem_of_getElem? (i := 4) rfl)) (hw _ (List.mem_of_getElem? (i := 5) rfl)) (hw _ (List.mem_of_getElem? (i := 2) rfl)) (hw _ (List.mem_of_getElem? (i := 6) rfl)) (by decide) pd_28IIBZ29B rfl rfl (by decide) (Nat.le_of_ble_eq_true rfl) (by decide) (by decide) (fun z0 => rm_sb l Z a0 hw [] n0 h0 z0 how sbs n585 (1 : Int32)) (fun v594 h595 qv594 => ?_)
    obtain ⟨s596, rfl, h1_s596, rfl⟩ := qv594
    show W K l _ n0 _ h0 0 0 66 #[.val (.int ln), .val (.int nbs), .val (.int sbs), .val (.int how), .val (.int (3 : Int32)), .val (.int (3 : Int32)), .val (.int n585), .val (.int n588), .val (.int n591), .unset, .unset, .unset, .unset, .unset, .unset] [(.int s596)]
    refine w_istore ok at_66 (L' := #[.val (.int ln), .val (.int nbs), .val (.int sbs), .val (.int how), .val (.int (3 : Int32)), .val (.int (3 : Int32)), .val (.int n585), .val (.int n588), .val (.int n591), .val (.int s596), .unset, .unset, .unset, .unset, .unset]) rfl ?_
    show W K l _ n0 _ h0 0 0 68 #[.val (.int ln), .val (.int nbs), .val (.int sbs), .val (.int how), .val (.int (3 : Int32)), .val (.int (3 : Int32)), .val (.int n585), .val (.int n588), .val (.int n591), .val (.int s596), .unset, .unset, .unset, .unset, .unset] []
    refine w_iloadN ok at_68 rfl ?_
    show W K l _ n0 _ h0 0 0 69 #[.val (.int ln), .val (.int nbs), .val (.int sbs), .val (.int how), .val (.int (3 : Int32)), .val (.int (3 : Int32)), .val (.int n585), .val (.int n588), .val (.int n591), .val (.int s596), .unset, .unset, .unset, .unset, .unset] [(.int how)]
    refine w_iconst ok at_69 (v := (2 : Int32)) rfl ?_
    show W K l _ n0 _ h0 0 0 70 #[.val (.int ln), .val (.int nbs), .val (.int sbs), .val (.int how), .val (.int (3 : Int32)), .val (.int (3 : Int32)), .val (.int n585), .val (.int n588), .val (.int n591), .val (.int s596), .unset, .unset, .unset, .unset, .unset] [(.int (2 : Int32)), (.int how)]
    refine w_ishr ok at_70 ?_
    show W K l _ n0 _ h0 0 0 71 #[.val (.int ln), .val (.int nbs), .val (.int sbs), .val (.int how), .val (.int (3 : Int32)), .val (.int (3 : Int32)), .val (.int n585), .val (.int n588), .val (.int n591), .val (.int s596), .unset, .unset, .unset, .unset, .unset] [(.int (how >>> ((2 : Int32) &&& 31)))]
    refine w_iloadN ok at_71 rfl ?_
    show W K l _ n0 _ h0 0 0 72 #[.val (.int ln), .val (.int nbs), .val (.int sbs), .val (.int how), .val (.int (3 : Int32)), .val (.int (3 : Int32)), .val (.int n585), .val (.int n588), .val (.int n591), .val (.int s596), .unset, .unset, .unset, .unset, .unset] [(.int sbs), (.int (how >>> ((2 : Int32) &&& 31)))]
    refine w_bipush ok at_72 (v := (8 : Int32)) rfl ?_
    show W K l _ n0 _ h0 0 0 74 #[.val (.int ln), .val (.int nbs), .val (.int sbs), .val (.int how), .val (.int (3 : Int32)), .val (.int (3 : Int32)), .val (.int n585), .val (.int n588), .val (.int n591), .val (.int s596), .unset, .unset, .unset, .unset, .unset] [(.int (8 : Int32)), (.int sbs), (.int (how >>> ((2 : Int32) &&& 31)))]
    refine w_ishr ok at_74 ?_
    show W K l _ n0 _ h0 0 0 75 #[.val (.int ln), .val (.int nbs), .val (.int sbs), .val (.int how), .val (.int (3 : Int32)), .val (.int (3 : Int32)), .val (.int n585), .val (.int n588), .val (.int n591), .val (.int s596), .unset, .unset, .unset, .unset, .unset] [(.int (sbs >>> ((8 : Int32) &&& 31))), (.int (how >>> ((2 : Int32) &&& 31)))]
    refine w_iload ok at_75 rfl ?_
    show W K l _ n0 _ h0 0 0 77 #[.val (.int ln), .val (.int nbs), .val (.int sbs), .val (.int how), .val (.int (3 : Int32)), .val (.int (3 : Int32)), .val (.int n585), .val (.int n588), .val (.int n591), .val (.int s596), .unset, .unset, .unset, .unset, .unset] [(.int n588), (.int (sbs >>> ((8 : Int32) &&& 31))), (.int (how >>> ((2 : Int32) &&& 31)))]
    refine w_iload ok at_77 rfl ?_
    show W K l _ n0 _ h0 0 0 79 #[.val (.int ln), .val (.int nbs), .val (.int sbs), .val (.int how), .val (.int (3 : Int32)), .val (.int (3 : Int32)), .val (.int n585), .val (.int n588), .val (.int n591), .val (.int s596), .unset, .unset, .unset, .unset, .unset] [(.int (3 : Int32)), (.int n588), (.int (sbs >>> ((8 : Int32) &&& 31))), (.int (how >>> ((2 : Int32) &&& 31)))]
    refine w_iconst ok at_79 (v := (1 : Int32)) rfl ?_
    show W K l _ n0 _ h0 0 0 80 #[.val (.int ln), .val (.int nbs), .val (.int sbs), .val (.int how), .val (.int (3 : Int32)), .val (.int (3 : Int32)), .val (.int n585), .val (.int n588), .val (.int n591), .val (.int s596), .unset, .unset, .unset, .unset, .unset] [(.int (1 : Int32)), (.int (3 : Int32)), (.int n588), (.int (sbs >>> ((8 : Int32) &&& 31))), (.int (how >>> ((2 : Int32) &&& 31)))]
    refine w_icmp_le ok at_80 (pc' := 87) (by decide) (fun hc598 => False.elim (by revert hc598; decide)) (fun hc598 => ?_)
    show W K l _ n0 _ h0 0 0 83 #[.val (.int ln), .val (.int nbs), .val (.int sbs), .val (.int how), .val (.int (3 : Int32)), .val (.int (3 : Int32)), .val (.int n585), .val (.int n588), .val (.int n591), .val (.int s596), .unset, .unset, .unset, .unset, .unset] [(.int n588), (.int (sbs >>> ((8 : Int32) &&& 31))), (.int (how >>> ((2 : Int32) &&& 31)))]
    refine w_iconst ok at_83 (v := (1 : Int32)) rfl ?_
    show W K l _ n0 _ h0 0 0 84 #[.val (.int ln), .val (.int nbs), .val (.int sbs), .val (.int how), .val (.int (3 : Int32)), .val (.int (3 : Int32)), .val (.int n585), .val (.int n588), .val (.int n591), .val (.int s596), .unset, .unset, .unset, .unset, .unset] [(.int (1 : Int32)), (.int n588), (.int (sbs >>> ((8 : Int32) &&& 31))), (.int (how >>> ((2 : Int32) &&& 31)))]
    refine w_goto ok at_84 (pc' := 88) (by decide) ?_
    show W K l _ n0 _ h0 0 0 88 #[.val (.int ln), .val (.int nbs), .val (.int sbs), .val (.int how), .val (.int (3 : Int32)), .val (.int (3 : Int32)), .val (.int n585), .val (.int n588), .val (.int n591), .val (.int s596), .unset, .unset, .unset, .unset, .unset] [(.int (1 : Int32)), (.int n588), (.int (sbs >>> ((8 : Int32) &&& 31))), (.int (how >>> ((2 : Int32) &&& 31)))]
    refine w_callS ok (y := (⟨"com/example/turnstile/turnstile/server/CommandsIsPinLaw", "sentByte", "(IIBZ)B"⟩ : MethodName)) (argsL := [(.int (how >>> ((2 : Int32) &&& 31))), (.int (sbs >>> ((8 : Int32) &&& 31))), (.int n588), (.int (1 : Int32))]) (rest := []) at_88 (hw _ (List.mem_of_getElem? (i := 4) rfl)) (hw _ (List.mem_of_getElem? (i := 5) rfl)) (hw _ (List.mem_of_getElem? (i := 2) rfl)) (hw _ (List.mem_of_getElem? (i := 6) rfl)) (by decide) pd_28IIBZ29B rfl rfl (by decide) (Nat.le_of_ble_eq_true rfl) (by decide) (by decide) (fun z0 => rm_sb l Z a0 hw [] n0 h0 z0 (how >>> ((2 : Int32) &&& 31)) (sbs >>> ((8 : Int32) &&& 31)) n588 (1 : Int32)) (fun v599 h600 qv599 => ?_)
    obtain ⟨s601, rfl, h1_s601, rfl⟩ := qv599
    show W K l _ n0 _ h0 0 0 91 #[.val (.int ln), .val (.int nbs), .val (.int sbs), .val (.int how), .val (.int (3 : Int32)), .val (.int (3 : Int32)), .val (.int n585), .val (.int n588), .val (.int n591), .val (.int s596), .unset, .unset, .unset, .unset, .unset] [(.int s601)]
    refine w_istore ok at_91 (L' := #[.val (.int ln), .val (.int nbs), .val (.int sbs), .val (.int how), .val (.int (3 : Int32)), .val (.int (3 : Int32)), .val (.int n585), .val (.int n588), .val (.int n591), .val (.int s596), .val (.int s601), .unset, .unset, .unset, .unset]) rfl ?_
    show W K l _ n0 _ h0 0 0 93 #[.val (.int ln), .val (.int nbs), .val (.int sbs), .val (.int how), .val (.int (3 : Int32)), .val (.int (3 : Int32)), .val (.int n585), .val (.int n588), .val (.int n591), .val (.int s596), .val (.int s601), .unset, .unset, .unset, .unset] []
    refine w_iloadN ok at_93 rfl ?_
    show W K l _ n0 _ h0 0 0 94 #[.val (.int ln), .val (.int nbs), .val (.int sbs), .val (.int how), .val (.int (3 : Int32)), .val (.int (3 : Int32)), .val (.int n585), .val (.int n588), .val (.int n591), .val (.int s596), .val (.int s601), .unset, .unset, .unset, .unset] [(.int how)]
    refine w_iconst ok at_94 (v := (4 : Int32)) rfl ?_
    show W K l _ n0 _ h0 0 0 95 #[.val (.int ln), .val (.int nbs), .val (.int sbs), .val (.int how), .val (.int (3 : Int32)), .val (.int (3 : Int32)), .val (.int n585), .val (.int n588), .val (.int n591), .val (.int s596), .val (.int s601), .unset, .unset, .unset, .unset] [(.int (4 : Int32)), (.int how)]
    refine w_ishr ok at_95 ?_
    show W K l _ n0 _ h0 0 0 96 #[.val (.int ln), .val (.int nbs), .val (.int sbs), .val (.int how), .val (.int (3 : Int32)), .val (.int (3 : Int32)), .val (.int n585), .val (.int n588), .val (.int n591), .val (.int s596), .val (.int s601), .unset, .unset, .unset, .unset] [(.int (how >>> ((4 : Int32) &&& 31)))]
    refine w_iloadN ok at_96 rfl ?_
    show W K l _ n0 _ h0 0 0 97 #[.val (.int ln), .val (.int nbs), .val (.int sbs), .val (.int how), .val (.int (3 : Int32)), .val (.int (3 : Int32)), .val (.int n585), .val (.int n588), .val (.int n591), .val (.int s596), .val (.int s601), .unset, .unset, .unset, .unset] [(.int sbs), (.int (how >>> ((4 : Int32) &&& 31)))]
    refine w_bipush ok at_97 (v := (16 : Int32)) rfl ?_
    show W K l _ n0 _ h0 0 0 99 #[.val (.int ln), .val (.int nbs), .val (.int sbs), .val (.int how), .val (.int (3 : Int32)), .val (.int (3 : Int32)), .val (.int n585), .val (.int n588), .val (.int n591), .val (.int s596), .val (.int s601), .unset, .unset, .unset, .unset] [(.int (16 : Int32)), (.int sbs), (.int (how >>> ((4 : Int32) &&& 31)))]
    refine w_ishr ok at_99 ?_
    show W K l _ n0 _ h0 0 0 100 #[.val (.int ln), .val (.int nbs), .val (.int sbs), .val (.int how), .val (.int (3 : Int32)), .val (.int (3 : Int32)), .val (.int n585), .val (.int n588), .val (.int n591), .val (.int s596), .val (.int s601), .unset, .unset, .unset, .unset] [(.int (sbs >>> ((16 : Int32) &&& 31))), (.int (how >>> ((4 : Int32) &&& 31)))]
    refine w_iload ok at_100 rfl ?_
    show W K l _ n0 _ h0 0 0 102 #[.val (.int ln), .val (.int nbs), .val (.int sbs), .val (.int how), .val (.int (3 : Int32)), .val (.int (3 : Int32)), .val (.int n585), .val (.int n588), .val (.int n591), .val (.int s596), .val (.int s601), .unset, .unset, .unset, .unset] [(.int n591), (.int (sbs >>> ((16 : Int32) &&& 31))), (.int (how >>> ((4 : Int32) &&& 31)))]
    refine w_iload ok at_102 rfl ?_
    show W K l _ n0 _ h0 0 0 104 #[.val (.int ln), .val (.int nbs), .val (.int sbs), .val (.int how), .val (.int (3 : Int32)), .val (.int (3 : Int32)), .val (.int n585), .val (.int n588), .val (.int n591), .val (.int s596), .val (.int s601), .unset, .unset, .unset, .unset] [(.int (3 : Int32)), (.int n591), (.int (sbs >>> ((16 : Int32) &&& 31))), (.int (how >>> ((4 : Int32) &&& 31)))]
    refine w_iconst ok at_104 (v := (2 : Int32)) rfl ?_
    show W K l _ n0 _ h0 0 0 105 #[.val (.int ln), .val (.int nbs), .val (.int sbs), .val (.int how), .val (.int (3 : Int32)), .val (.int (3 : Int32)), .val (.int n585), .val (.int n588), .val (.int n591), .val (.int s596), .val (.int s601), .unset, .unset, .unset, .unset] [(.int (2 : Int32)), (.int (3 : Int32)), (.int n591), (.int (sbs >>> ((16 : Int32) &&& 31))), (.int (how >>> ((4 : Int32) &&& 31)))]
    refine w_icmp_le ok at_105 (pc' := 112) (by decide) (fun hc603 => False.elim (by revert hc603; decide)) (fun hc603 => ?_)
    show W K l _ n0 _ h0 0 0 108 #[.val (.int ln), .val (.int nbs), .val (.int sbs), .val (.int how), .val (.int (3 : Int32)), .val (.int (3 : Int32)), .val (.int n585), .val (.int n588), .val (.int n591), .val (.int s596), .val (.int s601), .unset, .unset, .unset, .unset] [(.int n591), (.int (sbs >>> ((16 : Int32) &&& 31))), (.int (how >>> ((4 : Int32) &&& 31)))]
    refine w_iconst ok at_108 (v := (1 : Int32)) rfl ?_
    show W K l _ n0 _ h0 0 0 109 #[.val (.int ln), .val (.int nbs), .val (.int sbs), .val (.int how), .val (.int (3 : Int32)), .val (.int (3 : Int32)), .val (.int n585), .val (.int n588), .val (.int n591), .val (.int s596), .val (.int s601), .unset, .unset, .unset, .unset] [(.int (1 : Int32)), (.int n591), (.int (sbs >>> ((16 : Int32) &&& 31))), (.int (how >>> ((4 : Int32) &&& 31)))]
    refine w_goto ok at_109 (pc' := 113) (by decide) ?_
    show W K l _ n0 _ h0 0 0 113 #[.val (.int ln), .val (.int nbs), .val (.int sbs), .val (.int how), .val (.int (3 : Int32)), .val (.int (3 : Int32)), .val (.int n585), .val (.int n588), .val (.int n591), .val (.int s596), .val (.int s601), .unset, .unset, .unset, .unset] [(.int (1 : Int32)), (.int n591), (.int (sbs >>> ((16 : Int32) &&& 31))), (.int (how >>> ((4 : Int32) &&& 31)))]
    refine w_callS ok (y := (⟨"com/example/turnstile/turnstile/server/CommandsIsPinLaw", "sentByte", "(IIBZ)B"⟩ : MethodName)) (argsL := [(.int (how >>> ((4 : Int32) &&& 31))), (.int (sbs >>> ((16 : Int32) &&& 31))), (.int n591), (.int (1 : Int32))]) (rest := []) at_113 (hw _ (List.mem_of_getElem? (i := 4) rfl)) (hw _ (List.mem_of_getElem? (i := 5) rfl)) (hw _ (List.mem_of_getElem? (i := 2) rfl)) (hw _ (List.mem_of_getElem? (i := 6) rfl)) (by decide) pd_28IIBZ29B rfl rfl (by decide) (Nat.le_of_ble_eq_true rfl) (by decide) (by decide) (fun z0 => rm_sb l Z a0 hw [] n0 h0 z0 (how >>> ((4 : Int32) &&& 31)) (sbs >>> ((16 : Int32) &&& 31)) n591 (1 : Int32)) (fun v604 h605 qv604 => ?_)
    obtain ⟨s606, rfl, h1_s606, rfl⟩ := qv604
    show W K l _ n0 _ h0 0 0 116 #[.val (.int ln), .val (.int nbs), .val (.int sbs), .val (.int how), .val (.int (3 : Int32)), .val (.int (3 : Int32)), .val (.int n585), .val (.int n588), .val (.int n591), .val (.int s596), .val (.int s601), .unset, .unset, .unset, .unset] [(.int s606)]
    refine w_istore ok at_116 (L' := #[.val (.int ln), .val (.int nbs), .val (.int sbs), .val (.int how), .val (.int (3 : Int32)), .val (.int (3 : Int32)), .val (.int n585), .val (.int n588), .val (.int n591), .val (.int s596), .val (.int s601), .val (.int s606), .unset, .unset, .unset]) rfl ?_
    show W K l _ n0 _ h0 0 0 118 #[.val (.int ln), .val (.int nbs), .val (.int sbs), .val (.int how), .val (.int (3 : Int32)), .val (.int (3 : Int32)), .val (.int n585), .val (.int n588), .val (.int n591), .val (.int s596), .val (.int s601), .val (.int s606), .unset, .unset, .unset] []
    refine w_iload ok at_118 rfl ?_
    show W K l _ n0 _ h0 0 0 120 #[.val (.int ln), .val (.int nbs), .val (.int sbs), .val (.int how), .val (.int (3 : Int32)), .val (.int (3 : Int32)), .val (.int n585), .val (.int n588), .val (.int n591), .val (.int s596), .val (.int s601), .val (.int s606), .unset, .unset, .unset] [(.int (3 : Int32))]
    refine w_iload ok at_120 rfl ?_
    show W K l _ n0 _ h0 0 0 122 #[.val (.int ln), .val (.int nbs), .val (.int sbs), .val (.int how), .val (.int (3 : Int32)), .val (.int (3 : Int32)), .val (.int n585), .val (.int n588), .val (.int n591), .val (.int s596), .val (.int s601), .val (.int s606), .unset, .unset, .unset] [(.int s596), (.int (3 : Int32))]
    refine w_iload ok at_122 rfl ?_
    show W K l _ n0 _ h0 0 0 124 #[.val (.int ln), .val (.int nbs), .val (.int sbs), .val (.int how), .val (.int (3 : Int32)), .val (.int (3 : Int32)), .val (.int n585), .val (.int n588), .val (.int n591), .val (.int s596), .val (.int s601), .val (.int s606), .unset, .unset, .unset] [(.int s601), (.int s596), (.int (3 : Int32))]
    refine w_iload ok at_124 rfl ?_
    show W K l _ n0 _ h0 0 0 126 #[.val (.int ln), .val (.int nbs), .val (.int sbs), .val (.int how), .val (.int (3 : Int32)), .val (.int (3 : Int32)), .val (.int n585), .val (.int n588), .val (.int n591), .val (.int s596), .val (.int s601), .val (.int s606), .unset, .unset, .unset] [(.int s606), (.int s601), (.int s596), (.int (3 : Int32))]
    refine w_callS ok (y := (⟨"com/example/turnstile/turnstile/server/CommandsIsPinLaw", "make", "(IBBB)[B"⟩ : MethodName)) (argsL := [(.int (3 : Int32)), (.int s596), (.int s601), (.int s606)]) (rest := []) at_126 (hw _ (List.mem_of_getElem? (i := 7) rfl)) (hw _ (List.mem_of_getElem? (i := 8) rfl)) (hw _ (List.mem_of_getElem? (i := 2) rfl)) (hw _ (List.mem_of_getElem? (i := 9) rfl)) (by decide) pd_28IBBB295bB rfl rfl (by decide) (Nat.le_of_ble_eq_true rfl) (by decide) (by decide) (fun z0 => rm_mk3 l Z a0 hw [] n0 h0 z0 s596 s601 s606) (fun v607 h608 qv607 => ?_)
    obtain ⟨r609, rfl, sz_r609, ge_r609, K1, A_r609⟩ := qv607
    show W K l _ n0 _ h608 1 3 129 #[.val (.int ln), .val (.int nbs), .val (.int sbs), .val (.int how), .val (.int (3 : Int32)), .val (.int (3 : Int32)), .val (.int n585), .val (.int n588), .val (.int n591), .val (.int s596), .val (.int s601), .val (.int s606), .unset, .unset, .unset] [(.ref r609)]
    refine w_astore ok at_129 rfl (L' := #[.val (.int ln), .val (.int nbs), .val (.int sbs), .val (.int how), .val (.int (3 : Int32)), .val (.int (3 : Int32)), .val (.int n585), .val (.int n588), .val (.int n591), .val (.int s596), .val (.int s601), .val (.int s606), .val (.ref r609), .unset, .unset]) rfl ?_
    show W K l _ n0 _ h608 1 3 131 #[.val (.int ln), .val (.int nbs), .val (.int sbs), .val (.int how), .val (.int (3 : Int32)), .val (.int (3 : Int32)), .val (.int n585), .val (.int n588), .val (.int n591), .val (.int s596), .val (.int s601), .val (.int s606), .val (.ref r609), .unset, .unset] []
    refine w_iload ok at_131 rfl ?_
    show W K l _ n0 _ h608 1 3 133 #[.val (.int ln), .val (.int nbs), .val (.int sbs), .val (.int how), .val (.int (3 : Int32)), .val (.int (3 : Int32)), .val (.int n585), .val (.int n588), .val (.int n591), .val (.int s596), .val (.int s601), .val (.int s606), .val (.ref r609), .unset, .unset] [(.int (3 : Int32))]
    refine w_iload ok at_133 rfl ?_
    show W K l _ n0 _ h608 1 3 135 #[.val (.int ln), .val (.int nbs), .val (.int sbs), .val (.int how), .val (.int (3 : Int32)), .val (.int (3 : Int32)), .val (.int n585), .val (.int n588), .val (.int n591), .val (.int s596), .val (.int s601), .val (.int s606), .val (.ref r609), .unset, .unset] [(.int n585), (.int (3 : Int32))]
    refine w_iload ok at_135 rfl ?_
    show W K l _ n0 _ h608 1 3 137 #[.val (.int ln), .val (.int nbs), .val (.int sbs), .val (.int how), .val (.int (3 : Int32)), .val (.int (3 : Int32)), .val (.int n585), .val (.int n588), .val (.int n591), .val (.int s596), .val (.int s601), .val (.int s606), .val (.ref r609), .unset, .unset] [(.int n588), (.int n585), (.int (3 : Int32))]
    refine w_iload ok at_137 rfl ?_
    show W K l _ n0 _ h608 1 3 139 #[.val (.int ln), .val (.int nbs), .val (.int sbs), .val (.int how), .val (.int (3 : Int32)), .val (.int (3 : Int32)), .val (.int n585), .val (.int n588), .val (.int n591), .val (.int s596), .val (.int s601), .val (.int s606), .val (.ref r609), .unset, .unset] [(.int n591), (.int n588), (.int n585), (.int (3 : Int32))]
    refine w_callS ok (y := (⟨"com/example/turnstile/turnstile/server/CommandsIsPinLaw", "make", "(IBBB)[B"⟩ : MethodName)) (argsL := [(.int (3 : Int32)), (.int n585), (.int n588), (.int n591)]) (rest := []) at_139 (hw _ (List.mem_of_getElem? (i := 7) rfl)) (hw _ (List.mem_of_getElem? (i := 8) rfl)) (hw _ (List.mem_of_getElem? (i := 2) rfl)) (hw _ (List.mem_of_getElem? (i := 9) rfl)) (by decide) pd_28IBBB295bB rfl rfl (by decide) (Nat.le_of_ble_eq_true rfl) (by decide) (by decide) (fun z0 => rm_mk3 l Z a0 hw [] n0 h608 z0 n585 n588 n591) (fun v610 h611 qv610 => ?_)
    obtain ⟨r612, rfl, sz_r612, ge_r612, K1, A_r612⟩ := qv610
    have ne_r609_r612 : r609 ≠ r612 := Nat.ne_of_lt (Nat.lt_of_lt_of_le A_r609.lt sz_r612)
    replace A_r609 := A_r609.keep K1 nin0
    show W K l _ n0 _ h611 2 6 142 #[.val (.int ln), .val (.int nbs), .val (.int sbs), .val (.int how), .val (.int (3 : Int32)), .val (.int (3 : Int32)), .val (.int n585), .val (.int n588), .val (.int n591), .val (.int s596), .val (.int s601), .val (.int s606), .val (.ref r609), .unset, .unset] [(.ref r612)]
    refine w_astore ok at_142 rfl (L' := #[.val (.int ln), .val (.int nbs), .val (.int sbs), .val (.int how), .val (.int (3 : Int32)), .val (.int (3 : Int32)), .val (.int n585), .val (.int n588), .val (.int n591), .val (.int s596), .val (.int s601), .val (.int s606), .val (.ref r609), .val (.ref r612), .unset]) rfl ?_
    show W K l _ n0 _ h611 2 6 144 #[.val (.int ln), .val (.int nbs), .val (.int sbs), .val (.int how), .val (.int (3 : Int32)), .val (.int (3 : Int32)), .val (.int n585), .val (.int n588), .val (.int n591), .val (.int s596), .val (.int s601), .val (.int s606), .val (.ref r609), .val (.ref r612), .unset] []
    refine w_iload ok at_144 rfl ?_
    show W K l _ n0 _ h611 2 6 146 #[.val (.int ln), .val (.int nbs), .val (.int sbs), .val (.int how), .val (.int (3 : Int32)), .val (.int (3 : Int32)), .val (.int n585), .val (.int n588), .val (.int n591), .val (.int s596), .val (.int s601), .val (.int s606), .val (.ref r609), .val (.ref r612), .unset] [(.int (3 : Int32))]
    refine w_iload ok at_146 rfl ?_
    show W K l _ n0 _ h611 2 6 148 #[.val (.int ln), .val (.int nbs), .val (.int sbs), .val (.int how), .val (.int (3 : Int32)), .val (.int (3 : Int32)), .val (.int n585), .val (.int n588), .val (.int n591), .val (.int s596), .val (.int s601), .val (.int s606), .val (.ref r609), .val (.ref r612), .unset] [(.int (3 : Int32)), (.int (3 : Int32))]
    refine w_icmp_ne ok at_148 (pc' := 203) (by decide) (fun hc614 => False.elim (by revert hc614; decide)) (fun hc614 => ?_)
    show W K l _ n0 _ h611 2 6 151 #[.val (.int ln), .val (.int nbs), .val (.int sbs), .val (.int how), .val (.int (3 : Int32)), .val (.int (3 : Int32)), .val (.int n585), .val (.int n588), .val (.int n591), .val (.int s596), .val (.int s601), .val (.int s606), .val (.ref r609), .val (.ref r612), .unset] []
    refine w_iload ok at_151 rfl ?_
    show W K l _ n0 _ h611 2 6 153 #[.val (.int ln), .val (.int nbs), .val (.int sbs), .val (.int how), .val (.int (3 : Int32)), .val (.int (3 : Int32)), .val (.int n585), .val (.int n588), .val (.int n591), .val (.int s596), .val (.int s601), .val (.int s606), .val (.ref r609), .val (.ref r612), .unset] [(.int (3 : Int32))]
    refine w_iconst ok at_153 (v := (1 : Int32)) rfl ?_
    show W K l _ n0 _ h611 2 6 154 #[.val (.int ln), .val (.int nbs), .val (.int sbs), .val (.int how), .val (.int (3 : Int32)), .val (.int (3 : Int32)), .val (.int n585), .val (.int n588), .val (.int n591), .val (.int s596), .val (.int s601), .val (.int s606), .val (.ref r609), .val (.ref r612), .unset] [(.int (1 : Int32)), (.int (3 : Int32))]
    refine w_icmp_lt ok at_154 (pc' := 167) (by decide) (fun hc616 => False.elim (by revert hc616; decide)) (fun hc616 => ?_)
    show W K l _ n0 _ h611 2 6 157 #[.val (.int ln), .val (.int nbs), .val (.int sbs), .val (.int how), .val (.int (3 : Int32)), .val (.int (3 : Int32)), .val (.int n585), .val (.int n588), .val (.int n591), .val (.int s596), .val (.int s601), .val (.int s606), .val (.ref r609), .val (.ref r612), .unset] []
    refine w_iload ok at_157 rfl ?_
    show W K l _ n0 _ h611 2 6 159 #[.val (.int ln), .val (.int nbs), .val (.int sbs), .val (.int how), .val (.int (3 : Int32)), .val (.int (3 : Int32)), .val (.int n585), .val (.int n588), .val (.int n591), .val (.int s596), .val (.int s601), .val (.int s606), .val (.ref r609), .val (.ref r612), .unset] [(.int s596)]
    refine w_iload ok at_159 rfl ?_
    show W K l _ n0 _ h611 2 6 161 #[.val (.int ln), .val (.int nbs), .val (.int sbs), .val (.int how), .val (.int (3 : Int32)), .val (.int (3 : Int32)), .val (.int n585), .val (.int n588), .val (.int n591), .val (.int s596), .val (.int s601), .val (.int s606), .val (.ref r609), .val (.ref r612), .unset] [(.int n585), (.int s596)]
    refine w_callS ok (y := (⟨"com/example/turnstile/turnstile/server/CommandsIsPinLaw", "ok", "(BB)Z"⟩ : MethodName)) (argsL := [(.int s596), (.int n585)]) (rest := []) at_161 (hw _ (List.mem_of_getElem? (i := 15) rfl)) (hw _ (List.mem_of_getElem? (i := 16) rfl)) (hw _ (List.mem_of_getElem? (i := 2) rfl)) (hw _ (List.mem_of_getElem? (i := 17) rfl)) (by decide) pd_28BB29Z rfl rfl (by decide) (Nat.le_of_ble_eq_true rfl) (by decide) (by decide) (fun z0 => rm_ok l Z a0 hw [] n0 h611 z0 s596 n585 h1_n585) (fun v617 h618 qv617 => ?_)
    obtain ⟨rfl, rfl⟩ := qv617
    show W K l _ n0 _ h611 2 6 164 #[.val (.int ln), .val (.int nbs), .val (.int sbs), .val (.int how), .val (.int (3 : Int32)), .val (.int (3 : Int32)), .val (.int n585), .val (.int n588), .val (.int n591), .val (.int s596), .val (.int s601), .val (.int s606), .val (.ref r609), .val (.ref r612), .unset] [(.int (own_ok s596 n585))]
    refine w_if_eq ok at_164 (pc' := 203) (by decide) (fun hc620 => ?_) (fun hc620 => ?_)
    · show W K l _ n0 _ h611 2 6 203 #[.val (.int ln), .val (.int nbs), .val (.int sbs), .val (.int how), .val (.int (3 : Int32)), .val (.int (3 : Int32)), .val (.int n585), .val (.int n588), .val (.int n591), .val (.int s596), .val (.int s601), .val (.int s606), .val (.ref r609), .val (.ref r612), .unset] []
      refine w_iconst ok at_203 (v := (0 : Int32)) rfl ?_
      show W K l _ n0 _ h611 2 6 204 #[.val (.int ln), .val (.int nbs), .val (.int sbs), .val (.int how), .val (.int (3 : Int32)), .val (.int (3 : Int32)), .val (.int n585), .val (.int n588), .val (.int n591), .val (.int s596), .val (.int s601), .val (.int s606), .val (.ref r609), .val (.ref r612), .unset] [(.int (0 : Int32))]
      refine w_istore ok at_204 (L' := #[.val (.int ln), .val (.int nbs), .val (.int sbs), .val (.int how), .val (.int (3 : Int32)), .val (.int (3 : Int32)), .val (.int n585), .val (.int n588), .val (.int n591), .val (.int s596), .val (.int s601), .val (.int s606), .val (.ref r609), .val (.ref r612), .val (.int (0 : Int32))]) rfl ?_
      show W K l _ n0 _ h611 2 6 206 #[.val (.int ln), .val (.int nbs), .val (.int sbs), .val (.int how), .val (.int (3 : Int32)), .val (.int (3 : Int32)), .val (.int n585), .val (.int n588), .val (.int n591), .val (.int s596), .val (.int s601), .val (.int s606), .val (.ref r609), .val (.ref r612), .val (.int (0 : Int32))] []
      refine w_aload ok at_206 rfl rfl ?_
      show W K l _ n0 _ h611 2 6 208 #[.val (.int ln), .val (.int nbs), .val (.int sbs), .val (.int how), .val (.int (3 : Int32)), .val (.int (3 : Int32)), .val (.int n585), .val (.int n588), .val (.int n591), .val (.int s596), .val (.int s601), .val (.int s606), .val (.ref r609), .val (.ref r612), .val (.int (0 : Int32))] [(.ref r609)]
      refine w_aload ok at_208 rfl rfl ?_
      show W K l _ n0 _ h611 2 6 210 #[.val (.int ln), .val (.int nbs), .val (.int sbs), .val (.int how), .val (.int (3 : Int32)), .val (.int (3 : Int32)), .val (.int n585), .val (.int n588), .val (.int n591), .val (.int s596), .val (.int s601), .val (.int s606), .val (.ref r609), .val (.ref r612), .val (.int (0 : Int32))] [(.ref r612), (.ref r609)]
      refine w_callS ok (y := (⟨"com/example/turnstile/turnstile/server/Commands", "is", "([B[B)Z"⟩ : MethodName)) (argsL := [(.ref r609), (.ref r612)]) (rest := []) at_210 (hw _ (List.mem_of_getElem? (i := 11) rfl)) (hw _ (List.mem_of_getElem? (i := 12) rfl)) (hw _ (List.mem_of_getElem? (i := 13) rfl)) (hw _ (List.mem_of_getElem? (i := 14) rfl)) (by decide) pd_285bB5bB29Z rfl rfl (by decide) (Nat.le_of_ble_eq_true rfl) (by decide) (by decide) (fun z0 => rm_is l Z a0 hw [] n0 h611 z0 r609 r612 [nar .byte s596, nar .byte s601, nar .byte s606] [nar .byte n585, nar .byte n588, nar .byte n591] A_r609 A_r612) (fun v621 h622 qv621 => ?_)
      obtain ⟨rfl, rfl⟩ := qv621
      show W K l _ n0 _ h611 2 6 213 #[.val (.int ln), .val (.int nbs), .val (.int sbs), .val (.int how), .val (.int (3 : Int32)), .val (.int (3 : Int32)), .val (.int n585), .val (.int n588), .val (.int n591), .val (.int s596), .val (.int s601), .val (.int s606), .val (.ref r609), .val (.ref r612), .val (.int (0 : Int32))] [(.int (nar .boolean (own_isl [nar .byte s596, nar .byte s601, nar .byte s606] [nar .byte n585, nar .byte n588, nar .byte n591])))]
      refine w_iload ok at_213 rfl ?_
      show W K l _ n0 _ h611 2 6 215 #[.val (.int ln), .val (.int nbs), .val (.int sbs), .val (.int how), .val (.int (3 : Int32)), .val (.int (3 : Int32)), .val (.int n585), .val (.int n588), .val (.int n591), .val (.int s596), .val (.int s601), .val (.int s606), .val (.ref r609), .val (.ref r612), .val (.int (0 : Int32))] [(.int (0 : Int32)), (.int (nar .boolean (own_isl [nar .byte s596, nar .byte s601, nar .byte s606] [nar .byte n585, nar .byte n588, nar .byte n591])))]
      refine w_icmp_ne ok at_215 (pc' := 222) (by decide) (fun hc624 => False.elim (by exact hc624 (by rw [own_nb h1_s596.1 h1_s596.2, own_nb h1_s601.1 h1_s601.2, own_nb h1_s606.1 h1_s606.2, own_nb h1_n585.1 h1_n585.2, own_nb h1_n588.1 h1_n588.2, own_nb h1_n591.1 h1_n591.2]; rw [own_isl, if_neg (own_f h1_s596 ⟨h1_n585, h2_n585⟩ hc620)]; skip <;> rfl))) (fun hc624 => ?_)
      show W K l _ n0 _ h611 2 6 218 #[.val (.int ln), .val (.int nbs), .val (.int sbs), .val (.int how), .val (.int (3 : Int32)), .val (.int (3 : Int32)), .val (.int n585), .val (.int n588), .val (.int n591), .val (.int s596), .val (.int s601), .val (.int s606), .val (.ref r609), .val (.ref r612), .val (.int (0 : Int32))] []
      refine w_iconst ok at_218 (v := (1 : Int32)) rfl ?_
      show W K l _ n0 _ h611 2 6 219 #[.val (.int ln), .val (.int nbs), .val (.int sbs), .val (.int how), .val (.int (3 : Int32)), .val (.int (3 : Int32)), .val (.int n585), .val (.int n588), .val (.int n591), .val (.int s596), .val (.int s601), .val (.int s606), .val (.ref r609), .val (.ref r612), .val (.int (0 : Int32))] [(.int (1 : Int32))]
      refine w_goto ok at_219 (pc' := 223) (by decide) ?_
      show W K l _ n0 _ h611 2 6 223 #[.val (.int ln), .val (.int nbs), .val (.int sbs), .val (.int how), .val (.int (3 : Int32)), .val (.int (3 : Int32)), .val (.int n585), .val (.int n588), .val (.int n591), .val (.int s596), .val (.int s601), .val (.int s606), .val (.ref r609), .val (.ref r612), .val (.int (0 : Int32))] [(.int (1 : Int32))]
      refine w_bret ok (by simp) at_223 (by decide) (by decide) ?_
      exact rfl
    · show W K l _ n0 _ h611 2 6 167 #[.val (.int ln), .val (.int nbs), .val (.int sbs), .val (.int how), .val (.int (3 : Int32)), .val (.int (3 : Int32)), .val (.int n585), .val (.int n588), .val (.int n591), .val (.int s596), .val (.int s601), .val (.int s606), .val (.ref r609), .val (.ref r612), .unset] []
      refine w_iload ok at_167 rfl ?_
      show W K l _ n0 _ h611 2 6 169 #[.val (.int ln), .val (.int nbs), .val (.int sbs), .val (.int how), .val (.int (3 : Int32)), .val (.int (3 : Int32)), .val (.int n585), .val (.int n588), .val (.int n591), .val (.int s596), .val (.int s601), .val (.int s606), .val (.ref r609), .val (.ref r612), .unset] [(.int (3 : Int32))]
      refine w_iconst ok at_169 (v := (2 : Int32)) rfl ?_
      show W K l _ n0 _ h611 2 6 170 #[.val (.int ln), .val (.int nbs), .val (.int sbs), .val (.int how), .val (.int (3 : Int32)), .val (.int (3 : Int32)), .val (.int n585), .val (.int n588), .val (.int n591), .val (.int s596), .val (.int s601), .val (.int s606), .val (.ref r609), .val (.ref r612), .unset] [(.int (2 : Int32)), (.int (3 : Int32))]
      refine w_icmp_lt ok at_170 (pc' := 183) (by decide) (fun hc626 => False.elim (by revert hc626; decide)) (fun hc626 => ?_)
      show W K l _ n0 _ h611 2 6 173 #[.val (.int ln), .val (.int nbs), .val (.int sbs), .val (.int how), .val (.int (3 : Int32)), .val (.int (3 : Int32)), .val (.int n585), .val (.int n588), .val (.int n591), .val (.int s596), .val (.int s601), .val (.int s606), .val (.ref r609), .val (.ref r612), .unset] []
      refine w_iload ok at_173 rfl ?_
      show W K l _ n0 _ h611 2 6 175 #[.val (.int ln), .val (.int nbs), .val (.int sbs), .val (.int how), .val (.int (3 : Int32)), .val (.int (3 : Int32)), .val (.int n585), .val (.int n588), .val (.int n591), .val (.int s596), .val (.int s601), .val (.int s606), .val (.ref r609), .val (.ref r612), .unset] [(.int s601)]
      refine w_iload ok at_175 rfl ?_
      show W K l _ n0 _ h611 2 6 177 #[.val (.int ln), .val (.int nbs), .val (.int sbs), .val (.int how), .val (.int (3 : Int32)), .val (.int (3 : Int32)), .val (.int n585), .val (.int n588), .val (.int n591), .val (.int s596), .val (.int s601), .val (.int s606), .val (.ref r609), .val (.ref r612), .unset] [(.int n588), (.int s601)]
      refine w_callS ok (y := (⟨"com/example/turnstile/turnstile/server/CommandsIsPinLaw", "ok", "(BB)Z"⟩ : MethodName)) (argsL := [(.int s601), (.int n588)]) (rest := []) at_177 (hw _ (List.mem_of_getElem? (i := 15) rfl)) (hw _ (List.mem_of_getElem? (i := 16) rfl)) (hw _ (List.mem_of_getElem? (i := 2) rfl)) (hw _ (List.mem_of_getElem? (i := 17) rfl)) (by decide) pd_28BB29Z rfl rfl (by decide) (Nat.le_of_ble_eq_true rfl) (by decide) (by decide) (fun z0 => rm_ok l Z a0 hw [] n0 h611 z0 s601 n588 h1_n588) (fun v627 h628 qv627 => ?_)
      obtain ⟨rfl, rfl⟩ := qv627
      show W K l _ n0 _ h611 2 6 180 #[.val (.int ln), .val (.int nbs), .val (.int sbs), .val (.int how), .val (.int (3 : Int32)), .val (.int (3 : Int32)), .val (.int n585), .val (.int n588), .val (.int n591), .val (.int s596), .val (.int s601), .val (.int s606), .val (.ref r609), .val (.ref r612), .unset] [(.int (own_ok s601 n588))]
      refine w_if_eq ok at_180 (pc' := 203) (by decide) (fun hc630 => ?_) (fun hc630 => ?_)
      · show W K l _ n0 _ h611 2 6 203 #[.val (.int ln), .val (.int nbs), .val (.int sbs), .val (.int how), .val (.int (3 : Int32)), .val (.int (3 : Int32)), .val (.int n585), .val (.int n588), .val (.int n591), .val (.int s596), .val (.int s601), .val (.int s606), .val (.ref r609), .val (.ref r612), .unset] []
        refine w_iconst ok at_203 (v := (0 : Int32)) rfl ?_
        show W K l _ n0 _ h611 2 6 204 #[.val (.int ln), .val (.int nbs), .val (.int sbs), .val (.int how), .val (.int (3 : Int32)), .val (.int (3 : Int32)), .val (.int n585), .val (.int n588), .val (.int n591), .val (.int s596), .val (.int s601), .val (.int s606), .val (.ref r609), .val (.ref r612), .unset] [(.int (0 : Int32))]
        refine w_istore ok at_204 (L' := #[.val (.int ln), .val (.int nbs), .val (.int sbs), .val (.int how), .val (.int (3 : Int32)), .val (.int (3 : Int32)), .val (.int n585), .val (.int n588), .val (.int n591), .val (.int s596), .val (.int s601), .val (.int s606), .val (.ref r609), .val (.ref r612), .val (.int (0 : Int32))]) rfl ?_
        show W K l _ n0 _ h611 2 6 206 #[.val (.int ln), .val (.int nbs), .val (.int sbs), .val (.int how), .val (.int (3 : Int32)), .val (.int (3 : Int32)), .val (.int n585), .val (.int n588), .val (.int n591), .val (.int s596), .val (.int s601), .val (.int s606), .val (.ref r609), .val (.ref r612), .val (.int (0 : Int32))] []
        refine w_aload ok at_206 rfl rfl ?_
        show W K l _ n0 _ h611 2 6 208 #[.val (.int ln), .val (.int nbs), .val (.int sbs), .val (.int how), .val (.int (3 : Int32)), .val (.int (3 : Int32)), .val (.int n585), .val (.int n588), .val (.int n591), .val (.int s596), .val (.int s601), .val (.int s606), .val (.ref r609), .val (.ref r612), .val (.int (0 : Int32))] [(.ref r609)]
        refine w_aload ok at_208 rfl rfl ?_
        show W K l _ n0 _ h611 2 6 210 #[.val (.int ln), .val (.int nbs), .val (.int sbs), .val (.int how), .val (.int (3 : Int32)), .val (.int (3 : Int32)), .val (.int n585), .val (.int n588), .val (.int n591), .val (.int s596), .val (.int s601), .val (.int s606), .val (.ref r609), .val (.ref r612), .val (.int (0 : Int32))] [(.ref r612), (.ref r609)]
        refine w_callS ok (y := (⟨"com/example/turnstile/turnstile/server/Commands", "is", "([B[B)Z"⟩ : MethodName)) (argsL := [(.ref r609), (.ref r612)]) (rest := []) at_210 (hw _ (List.mem_of_getElem? (i := 11) rfl)) (hw _ (List.mem_of_getElem? (i := 12) rfl)) (hw _ (List.mem_of_getElem? (i := 13) rfl)) (hw _ (List.mem_of_getElem? (i := 14) rfl)) (by decide) pd_285bB5bB29Z rfl rfl (by decide) (Nat.le_of_ble_eq_true rfl) (by decide) (by decide) (fun z0 => rm_is l Z a0 hw [] n0 h611 z0 r609 r612 [nar .byte s596, nar .byte s601, nar .byte s606] [nar .byte n585, nar .byte n588, nar .byte n591] A_r609 A_r612) (fun v631 h632 qv631 => ?_)
        obtain ⟨rfl, rfl⟩ := qv631
        show W K l _ n0 _ h611 2 6 213 #[.val (.int ln), .val (.int nbs), .val (.int sbs), .val (.int how), .val (.int (3 : Int32)), .val (.int (3 : Int32)), .val (.int n585), .val (.int n588), .val (.int n591), .val (.int s596), .val (.int s601), .val (.int s606), .val (.ref r609), .val (.ref r612), .val (.int (0 : Int32))] [(.int (nar .boolean (own_isl [nar .byte s596, nar .byte s601, nar .byte s606] [nar .byte n585, nar .byte n588, nar .byte n591])))]
        refine w_iload ok at_213 rfl ?_
        show W K l _ n0 _ h611 2 6 215 #[.val (.int ln), .val (.int nbs), .val (.int sbs), .val (.int how), .val (.int (3 : Int32)), .val (.int (3 : Int32)), .val (.int n585), .val (.int n588), .val (.int n591), .val (.int s596), .val (.int s601), .val (.int s606), .val (.ref r609), .val (.ref r612), .val (.int (0 : Int32))] [(.int (0 : Int32)), (.int (nar .boolean (own_isl [nar .byte s596, nar .byte s601, nar .byte s606] [nar .byte n585, nar .byte n588, nar .byte n591])))]
        refine w_icmp_ne ok at_215 (pc' := 222) (by decide) (fun hc634 => False.elim (by exact hc634 (by rw [own_nb h1_s596.1 h1_s596.2, own_nb h1_s601.1 h1_s601.2, own_nb h1_s606.1 h1_s606.2, own_nb h1_n585.1 h1_n585.2, own_nb h1_n588.1 h1_n588.2, own_nb h1_n591.1 h1_n591.2]; rw [own_isl, if_pos (own_t h1_s596 ⟨h1_n585, h2_n585⟩ hc620)]; rw [own_isl, if_neg (own_f h1_s601 ⟨h1_n588, h2_n588⟩ hc630)]; skip <;> rfl))) (fun hc634 => ?_)
        show W K l _ n0 _ h611 2 6 218 #[.val (.int ln), .val (.int nbs), .val (.int sbs), .val (.int how), .val (.int (3 : Int32)), .val (.int (3 : Int32)), .val (.int n585), .val (.int n588), .val (.int n591), .val (.int s596), .val (.int s601), .val (.int s606), .val (.ref r609), .val (.ref r612), .val (.int (0 : Int32))] []
        refine w_iconst ok at_218 (v := (1 : Int32)) rfl ?_
        show W K l _ n0 _ h611 2 6 219 #[.val (.int ln), .val (.int nbs), .val (.int sbs), .val (.int how), .val (.int (3 : Int32)), .val (.int (3 : Int32)), .val (.int n585), .val (.int n588), .val (.int n591), .val (.int s596), .val (.int s601), .val (.int s606), .val (.ref r609), .val (.ref r612), .val (.int (0 : Int32))] [(.int (1 : Int32))]
        refine w_goto ok at_219 (pc' := 223) (by decide) ?_
        show W K l _ n0 _ h611 2 6 223 #[.val (.int ln), .val (.int nbs), .val (.int sbs), .val (.int how), .val (.int (3 : Int32)), .val (.int (3 : Int32)), .val (.int n585), .val (.int n588), .val (.int n591), .val (.int s596), .val (.int s601), .val (.int s606), .val (.ref r609), .val (.ref r612), .val (.int (0 : Int32))] [(.int (1 : Int32))]
        refine w_bret ok (by simp) at_223 (by decide) (by decide) ?_
        exact rfl
      · show W K l _ n0 _ h611 2 6 183 #[.val (.int ln), .val (.int nbs), .val (.int sbs), .val (.int how), .val (.int (3 : Int32)), .val (.int (3 : Int32)), .val (.int n585), .val (.int n588), .val (.int n591), .val (.int s596), .val (.int s601), .val (.int s606), .val (.ref r609), .val (.ref r612), .unset] []
        refine w_iload ok at_183 rfl ?_
        show W K l _ n0 _ h611 2 6 185 #[.val (.int ln), .val (.int nbs), .val (.int sbs), .val (.int how), .val (.int (3 : Int32)), .val (.int (3 : Int32)), .val (.int n585), .val (.int n588), .val (.int n591), .val (.int s596), .val (.int s601), .val (.int s606), .val (.ref r609), .val (.ref r612), .unset] [(.int (3 : Int32))]
        refine w_iconst ok at_185 (v := (3 : Int32)) rfl ?_
        show W K l _ n0 _ h611 2 6 186 #[.val (.int ln), .val (.int nbs), .val (.int sbs), .val (.int how), .val (.int (3 : Int32)), .val (.int (3 : Int32)), .val (.int n585), .val (.int n588), .val (.int n591), .val (.int s596), .val (.int s601), .val (.int s606), .val (.ref r609), .val (.ref r612), .unset] [(.int (3 : Int32)), (.int (3 : Int32))]
        refine w_icmp_lt ok at_186 (pc' := 199) (by decide) (fun hc636 => False.elim (by revert hc636; decide)) (fun hc636 => ?_)
        show W K l _ n0 _ h611 2 6 189 #[.val (.int ln), .val (.int nbs), .val (.int sbs), .val (.int how), .val (.int (3 : Int32)), .val (.int (3 : Int32)), .val (.int n585), .val (.int n588), .val (.int n591), .val (.int s596), .val (.int s601), .val (.int s606), .val (.ref r609), .val (.ref r612), .unset] []
        refine w_iload ok at_189 rfl ?_
        show W K l _ n0 _ h611 2 6 191 #[.val (.int ln), .val (.int nbs), .val (.int sbs), .val (.int how), .val (.int (3 : Int32)), .val (.int (3 : Int32)), .val (.int n585), .val (.int n588), .val (.int n591), .val (.int s596), .val (.int s601), .val (.int s606), .val (.ref r609), .val (.ref r612), .unset] [(.int s606)]
        refine w_iload ok at_191 rfl ?_
        show W K l _ n0 _ h611 2 6 193 #[.val (.int ln), .val (.int nbs), .val (.int sbs), .val (.int how), .val (.int (3 : Int32)), .val (.int (3 : Int32)), .val (.int n585), .val (.int n588), .val (.int n591), .val (.int s596), .val (.int s601), .val (.int s606), .val (.ref r609), .val (.ref r612), .unset] [(.int n591), (.int s606)]
        refine w_callS ok (y := (⟨"com/example/turnstile/turnstile/server/CommandsIsPinLaw", "ok", "(BB)Z"⟩ : MethodName)) (argsL := [(.int s606), (.int n591)]) (rest := []) at_193 (hw _ (List.mem_of_getElem? (i := 15) rfl)) (hw _ (List.mem_of_getElem? (i := 16) rfl)) (hw _ (List.mem_of_getElem? (i := 2) rfl)) (hw _ (List.mem_of_getElem? (i := 17) rfl)) (by decide) pd_28BB29Z rfl rfl (by decide) (Nat.le_of_ble_eq_true rfl) (by decide) (by decide) (fun z0 => rm_ok l Z a0 hw [] n0 h611 z0 s606 n591 h1_n591) (fun v637 h638 qv637 => ?_)
        obtain ⟨rfl, rfl⟩ := qv637
        show W K l _ n0 _ h611 2 6 196 #[.val (.int ln), .val (.int nbs), .val (.int sbs), .val (.int how), .val (.int (3 : Int32)), .val (.int (3 : Int32)), .val (.int n585), .val (.int n588), .val (.int n591), .val (.int s596), .val (.int s601), .val (.int s606), .val (.ref r609), .val (.ref r612), .unset] [(.int (own_ok s606 n591))]
        refine w_if_eq ok at_196 (pc' := 203) (by decide) (fun hc640 => ?_) (fun hc640 => ?_)
        · show W K l _ n0 _ h611 2 6 203 #[.val (.int ln), .val (.int nbs), .val (.int sbs), .val (.int how), .val (.int (3 : Int32)), .val (.int (3 : Int32)), .val (.int n585), .val (.int n588), .val (.int n591), .val (.int s596), .val (.int s601), .val (.int s606), .val (.ref r609), .val (.ref r612), .unset] []
          refine w_iconst ok at_203 (v := (0 : Int32)) rfl ?_
          show W K l _ n0 _ h611 2 6 204 #[.val (.int ln), .val (.int nbs), .val (.int sbs), .val (.int how), .val (.int (3 : Int32)), .val (.int (3 : Int32)), .val (.int n585), .val (.int n588), .val (.int n591), .val (.int s596), .val (.int s601), .val (.int s606), .val (.ref r609), .val (.ref r612), .unset] [(.int (0 : Int32))]
          refine w_istore ok at_204 (L' := #[.val (.int ln), .val (.int nbs), .val (.int sbs), .val (.int how), .val (.int (3 : Int32)), .val (.int (3 : Int32)), .val (.int n585), .val (.int n588), .val (.int n591), .val (.int s596), .val (.int s601), .val (.int s606), .val (.ref r609), .val (.ref r612), .val (.int (0 : Int32))]) rfl ?_
          show W K l _ n0 _ h611 2 6 206 #[.val (.int ln), .val (.int nbs), .val (.int sbs), .val (.int how), .val (.int (3 : Int32)), .val (.int (3 : Int32)), .val (.int n585), .val (.int n588), .val (.int n591), .val (.int s596), .val (.int s601), .val (.int s606), .val (.ref r609), .val (.ref r612), .val (.int (0 : Int32))] []
          refine w_aload ok at_206 rfl rfl ?_
          show W K l _ n0 _ h611 2 6 208 #[.val (.int ln), .val (.int nbs), .val (.int sbs), .val (.int how), .val (.int (3 : Int32)), .val (.int (3 : Int32)), .val (.int n585), .val (.int n588), .val (.int n591), .val (.int s596), .val (.int s601), .val (.int s606), .val (.ref r609), .val (.ref r612), .val (.int (0 : Int32))] [(.ref r609)]
          refine w_aload ok at_208 rfl rfl ?_
          show W K l _ n0 _ h611 2 6 210 #[.val (.int ln), .val (.int nbs), .val (.int sbs), .val (.int how), .val (.int (3 : Int32)), .val (.int (3 : Int32)), .val (.int n585), .val (.int n588), .val (.int n591), .val (.int s596), .val (.int s601), .val (.int s606), .val (.ref r609), .val (.ref r612), .val (.int (0 : Int32))] [(.ref r612), (.ref r609)]
          refine w_callS ok (y := (⟨"com/example/turnstile/turnstile/server/Commands", "is", "([B[B)Z"⟩ : MethodName)) (argsL := [(.ref r609), (.ref r612)]) (rest := []) at_210 (hw _ (List.mem_of_getElem? (i := 11) rfl)) (hw _ (List.mem_of_getElem? (i := 12) rfl)) (hw _ (List.mem_of_getElem? (i := 13) rfl)) (hw _ (List.mem_of_getElem? (i := 14) rfl)) (by decide) pd_285bB5bB29Z rfl rfl (by decide) (Nat.le_of_ble_eq_true rfl) (by decide) (by decide) (fun z0 => rm_is l Z a0 hw [] n0 h611 z0 r609 r612 [nar .byte s596, nar .byte s601, nar .byte s606] [nar .byte n585, nar .byte n588, nar .byte n591] A_r609 A_r612) (fun v641 h642 qv641 => ?_)
          obtain ⟨rfl, rfl⟩ := qv641
          show W K l _ n0 _ h611 2 6 213 #[.val (.int ln), .val (.int nbs), .val (.int sbs), .val (.int how), .val (.int (3 : Int32)), .val (.int (3 : Int32)), .val (.int n585), .val (.int n588), .val (.int n591), .val (.int s596), .val (.int s601), .val (.int s606), .val (.ref r609), .val (.ref r612), .val (.int (0 : Int32))] [(.int (nar .boolean (own_isl [nar .byte s596, nar .byte s601, nar .byte s606] [nar .byte n585, nar .byte n588, nar .byte n591])))]
          refine w_iload ok at_213 rfl ?_
          show W K l _ n0 _ h611 2 6 215 #[.val (.int ln), .val (.int nbs), .val (.int sbs), .val (.int how), .val (.int (3 : Int32)), .val (.int (3 : Int32)), .val (.int n585), .val (.int n588), .val (.int n591), .val (.int s596), .val (.int s601), .val (.int s606), .val (.ref r609), .val (.ref r612), .val (.int (0 : Int32))] [(.int (0 : Int32)), (.int (nar .boolean (own_isl [nar .byte s596, nar .byte s601, nar .byte s606] [nar .byte n585, nar .byte n588, nar .byte n591])))]
          refine w_icmp_ne ok at_215 (pc' := 222) (by decide) (fun hc644 => False.elim (by exact hc644 (by rw [own_nb h1_s596.1 h1_s596.2, own_nb h1_s601.1 h1_s601.2, own_nb h1_s606.1 h1_s606.2, own_nb h1_n585.1 h1_n585.2, own_nb h1_n588.1 h1_n588.2, own_nb h1_n591.1 h1_n591.2]; rw [own_isl, if_pos (own_t h1_s596 ⟨h1_n585, h2_n585⟩ hc620)]; rw [own_isl, if_pos (own_t h1_s601 ⟨h1_n588, h2_n588⟩ hc630)]; rw [own_isl, if_neg (own_f h1_s606 ⟨h1_n591, h2_n591⟩ hc640)]; skip <;> rfl))) (fun hc644 => ?_)
          show W K l _ n0 _ h611 2 6 218 #[.val (.int ln), .val (.int nbs), .val (.int sbs), .val (.int how), .val (.int (3 : Int32)), .val (.int (3 : Int32)), .val (.int n585), .val (.int n588), .val (.int n591), .val (.int s596), .val (.int s601), .val (.int s606), .val (.ref r609), .val (.ref r612), .val (.int (0 : Int32))] []
          refine w_iconst ok at_218 (v := (1 : Int32)) rfl ?_
          show W K l _ n0 _ h611 2 6 219 #[.val (.int ln), .val (.int nbs), .val (.int sbs), .val (.int how), .val (.int (3 : Int32)), .val (.int (3 : Int32)), .val (.int n585), .val (.int n588), .val (.int n591), .val (.int s596), .val (.int s601), .val (.int s606), .val (.ref r609), .val (.ref r612), .val (.int (0 : Int32))] [(.int (1 : Int32))]
          refine w_goto ok at_219 (pc' := 223) (by decide) ?_
          show W K l _ n0 _ h611 2 6 223 #[.val (.int ln), .val (.int nbs), .val (.int sbs), .val (.int how), .val (.int (3 : Int32)), .val (.int (3 : Int32)), .val (.int n585), .val (.int n588), .val (.int n591), .val (.int s596), .val (.int s601), .val (.int s606), .val (.ref r609), .val (.ref r612), .val (.int (0 : Int32))] [(.int (1 : Int32))]
          refine w_bret ok (by simp) at_223 (by decide) (by decide) ?_
          exact rfl
        · show W K l _ n0 _ h611 2 6 199 #[.val (.int ln), .val (.int nbs), .val (.int sbs), .val (.int how), .val (.int (3 : Int32)), .val (.int (3 : Int32)), .val (.int n585), .val (.int n588), .val (.int n591), .val (.int s596), .val (.int s601), .val (.int s606), .val (.ref r609), .val (.ref r612), .unset] []
          refine w_iconst ok at_199 (v := (1 : Int32)) rfl ?_
          show W K l _ n0 _ h611 2 6 200 #[.val (.int ln), .val (.int nbs), .val (.int sbs), .val (.int how), .val (.int (3 : Int32)), .val (.int (3 : Int32)), .val (.int n585), .val (.int n588), .val (.int n591), .val (.int s596), .val (.int s601), .val (.int s606), .val (.ref r609), .val (.ref r612), .unset] [(.int (1 : Int32))]
          refine w_goto ok at_200 (pc' := 204) (by decide) ?_
          show W K l _ n0 _ h611 2 6 204 #[.val (.int ln), .val (.int nbs), .val (.int sbs), .val (.int how), .val (.int (3 : Int32)), .val (.int (3 : Int32)), .val (.int n585), .val (.int n588), .val (.int n591), .val (.int s596), .val (.int s601), .val (.int s606), .val (.ref r609), .val (.ref r612), .unset] [(.int (1 : Int32))]
          refine w_istore ok at_204 (L' := #[.val (.int ln), .val (.int nbs), .val (.int sbs), .val (.int how), .val (.int (3 : Int32)), .val (.int (3 : Int32)), .val (.int n585), .val (.int n588), .val (.int n591), .val (.int s596), .val (.int s601), .val (.int s606), .val (.ref r609), .val (.ref r612), .val (.int (1 : Int32))]) rfl ?_
          show W K l _ n0 _ h611 2 6 206 #[.val (.int ln), .val (.int nbs), .val (.int sbs), .val (.int how), .val (.int (3 : Int32)), .val (.int (3 : Int32)), .val (.int n585), .val (.int n588), .val (.int n591), .val (.int s596), .val (.int s601), .val (.int s606), .val (.ref r609), .val (.ref r612), .val (.int (1 : Int32))] []
          refine w_aload ok at_206 rfl rfl ?_
          show W K l _ n0 _ h611 2 6 208 #[.val (.int ln), .val (.int nbs), .val (.int sbs), .val (.int how), .val (.int (3 : Int32)), .val (.int (3 : Int32)), .val (.int n585), .val (.int n588), .val (.int n591), .val (.int s596), .val (.int s601), .val (.int s606), .val (.ref r609), .val (.ref r612), .val (.int (1 : Int32))] [(.ref r609)]
          refine w_aload ok at_208 rfl rfl ?_
          show W K l _ n0 _ h611 2 6 210 #[.val (.int ln), .val (.int nbs), .val (.int sbs), .val (.int how), .val (.int (3 : Int32)), .val (.int (3 : Int32)), .val (.int n585), .val (.int n588), .val (.int n591), .val (.int s596), .val (.int s601), .val (.int s606), .val (.ref r609), .val (.ref r612), .val (.int (1 : Int32))] [(.ref r612), (.ref r609)]
          refine w_callS ok (y := (⟨"com/example/turnstile/turnstile/server/Commands", "is", "([B[B)Z"⟩ : MethodName)) (argsL := [(.ref r609), (.ref r612)]) (rest := []) at_210 (hw _ (List.mem_of_getElem? (i := 11) rfl)) (hw _ (List.mem_of_getElem? (i := 12) rfl)) (hw _ (List.mem_of_getElem? (i := 13) rfl)) (hw _ (List.mem_of_getElem? (i := 14) rfl)) (by decide) pd_285bB5bB29Z rfl rfl (by decide) (Nat.le_of_ble_eq_true rfl) (by decide) (by decide) (fun z0 => rm_is l Z a0 hw [] n0 h611 z0 r609 r612 [nar .byte s596, nar .byte s601, nar .byte s606] [nar .byte n585, nar .byte n588, nar .byte n591] A_r609 A_r612) (fun v645 h646 qv645 => ?_)
          obtain ⟨rfl, rfl⟩ := qv645
          show W K l _ n0 _ h611 2 6 213 #[.val (.int ln), .val (.int nbs), .val (.int sbs), .val (.int how), .val (.int (3 : Int32)), .val (.int (3 : Int32)), .val (.int n585), .val (.int n588), .val (.int n591), .val (.int s596), .val (.int s601), .val (.int s606), .val (.ref r609), .val (.ref r612), .val (.int (1 : Int32))] [(.int (nar .boolean (own_isl [nar .byte s596, nar .byte s601, nar .byte s606] [nar .byte n585, nar .byte n588, nar .byte n591])))]
          refine w_iload ok at_213 rfl ?_
          show W K l _ n0 _ h611 2 6 215 #[.val (.int ln), .val (.int nbs), .val (.int sbs), .val (.int how), .val (.int (3 : Int32)), .val (.int (3 : Int32)), .val (.int n585), .val (.int n588), .val (.int n591), .val (.int s596), .val (.int s601), .val (.int s606), .val (.ref r609), .val (.ref r612), .val (.int (1 : Int32))] [(.int (1 : Int32)), (.int (nar .boolean (own_isl [nar .byte s596, nar .byte s601, nar .byte s606] [nar .byte n585, nar .byte n588, nar .byte n591])))]
          refine w_icmp_ne ok at_215 (pc' := 222) (by decide) (fun hc648 => False.elim (by exact hc648 (by rw [own_nb h1_s596.1 h1_s596.2, own_nb h1_s601.1 h1_s601.2, own_nb h1_s606.1 h1_s606.2, own_nb h1_n585.1 h1_n585.2, own_nb h1_n588.1 h1_n588.2, own_nb h1_n591.1 h1_n591.2]; rw [own_isl, if_pos (own_t h1_s596 ⟨h1_n585, h2_n585⟩ hc620)]; rw [own_isl, if_pos (own_t h1_s601 ⟨h1_n588, h2_n588⟩ hc630)]; rw [own_isl, if_pos (own_t h1_s606 ⟨h1_n591, h2_n591⟩ hc640)]; skip <;> rfl))) (fun hc648 => ?_)
          show W K l _ n0 _ h611 2 6 218 #[.val (.int ln), .val (.int nbs), .val (.int sbs), .val (.int how), .val (.int (3 : Int32)), .val (.int (3 : Int32)), .val (.int n585), .val (.int n588), .val (.int n591), .val (.int s596), .val (.int s601), .val (.int s606), .val (.ref r609), .val (.ref r612), .val (.int (1 : Int32))] []
          refine w_iconst ok at_218 (v := (1 : Int32)) rfl ?_
          show W K l _ n0 _ h611 2 6 219 #[.val (.int ln), .val (.int nbs), .val (.int sbs), .val (.int how), .val (.int (3 : Int32)), .val (.int (3 : Int32)), .val (.int n585), .val (.int n588), .val (.int n591), .val (.int s596), .val (.int s601), .val (.int s606), .val (.ref r609), .val (.ref r612), .val (.int (1 : Int32))] [(.int (1 : Int32))]
          refine w_goto ok at_219 (pc' := 223) (by decide) ?_
          show W K l _ n0 _ h611 2 6 223 #[.val (.int ln), .val (.int nbs), .val (.int sbs), .val (.int how), .val (.int (3 : Int32)), .val (.int (3 : Int32)), .val (.int n585), .val (.int n588), .val (.int n591), .val (.int s596), .val (.int s601), .val (.int s606), .val (.ref r609), .val (.ref r612), .val (.int (1 : Int32))] [(.int (1 : Int32))]
          refine w_bret ok (by simp) at_223 (by decide) (by decide) ?_
          exact rfl
theorem own_pl (x : Int32) : x &&& 3 = 0 ∨ x &&& 3 = 1 ∨ x &&& 3 = 2 ∨ x &&& 3 = 3 := by
  have h1 := c_mask x 3 2 (by decide) (by decide)
  simp only [← Int32.toInt_inj, Int32.reduceToInt]; omega
set_option maxRecDepth 65536 in
set_option maxHeartbeats 40000000 in
theorem rm0 (l : Launch) (Z : State) (a0 : Array Value) (hw : ∀ d ∈ tables_1, d.before a0 Z = true) (ws : List Jvm.Cond) (n0 : Nat) (h0 : Heap) (Z0 : n0 ≤ h0.size) (ln nbs sbs how : Int32)  :
    Met l Z n0 x code maxLocals ret ws room_1 #[(.int ln), (.int nbs), (.int sbs), (.int how)] h0 (fun u h => u = some (.int 1)) := by
  refine met_of Z0 (plainFor_of_name pn_com_example_turnstile_turnstile_server_CommandsIsPinLaw) (Ls := #[.val (.int ln), .val (.int nbs), .val (.int sbs), .val (.int how), .unset, .unset, .unset, .unset, .unset, .unset, .unset, .unset, .unset, .unset, .unset]) (fun m => by first | (simp [entryFrame, mkF, argsToLocals, Value.category, maxLocals]; done) | rfl) ?_
  intro K ok
  show W K l _ n0 _ h0 0 0 0 #[.val (.int ln), .val (.int nbs), .val (.int sbs), .val (.int how), .unset, .unset, .unset, .unset, .unset, .unset, .unset, .unset, .unset, .unset, .unset] []
  refine w_iloadN ok at_0 rfl ?_
  show W K l _ n0 _ h0 0 0 1 #[.val (.int ln), .val (.int nbs), .val (.int sbs), .val (.int how), .unset, .unset, .unset, .unset, .unset, .unset, .unset, .unset, .unset, .unset, .unset] [(.int ln)]
  refine w_iconst ok at_1 (v := (3 : Int32)) rfl ?_
  show W K l _ n0 _ h0 0 0 2 #[.val (.int ln), .val (.int nbs), .val (.int sbs), .val (.int how), .unset, .unset, .unset, .unset, .unset, .unset, .unset, .unset, .unset, .unset, .unset] [(.int (3 : Int32)), (.int ln)]
  refine w_iand ok at_2 ?_
  show W K l _ n0 _ h0 0 0 3 #[.val (.int ln), .val (.int nbs), .val (.int sbs), .val (.int how), .unset, .unset, .unset, .unset, .unset, .unset, .unset, .unset, .unset, .unset, .unset] [(.int (ln &&& (3 : Int32)))]
  refine w_istore ok at_3 (L' := #[.val (.int ln), .val (.int nbs), .val (.int sbs), .val (.int how), .val (.int (ln &&& (3 : Int32))), .unset, .unset, .unset, .unset, .unset, .unset, .unset, .unset, .unset, .unset]) rfl ?_
  show W K l _ n0 _ h0 0 0 5 #[.val (.int ln), .val (.int nbs), .val (.int sbs), .val (.int how), .val (.int (ln &&& (3 : Int32))), .unset, .unset, .unset, .unset, .unset, .unset, .unset, .unset, .unset, .unset] []
  refine w_iloadN ok at_5 rfl ?_
  show W K l _ n0 _ h0 0 0 6 #[.val (.int ln), .val (.int nbs), .val (.int sbs), .val (.int how), .val (.int (ln &&& (3 : Int32))), .unset, .unset, .unset, .unset, .unset, .unset, .unset, .unset, .unset, .unset] [(.int ln)]
  refine w_iconst ok at_6 (v := (4 : Int32)) rfl ?_
  show W K l _ n0 _ h0 0 0 7 #[.val (.int ln), .val (.int nbs), .val (.int sbs), .val (.int how), .val (.int (ln &&& (3 : Int32))), .unset, .unset, .unset, .unset, .unset, .unset, .unset, .unset, .unset, .unset] [(.int (4 : Int32)), (.int ln)]
  refine w_iushr ok at_7 ?_
  show W K l _ n0 _ h0 0 0 8 #[.val (.int ln), .val (.int nbs), .val (.int sbs), .val (.int how), .val (.int (ln &&& (3 : Int32))), .unset, .unset, .unset, .unset, .unset, .unset, .unset, .unset, .unset, .unset] [(.int (Jvm.Free.XT.ushr ln (4 : Int32)))]
  refine w_iconst ok at_8 (v := (1 : Int32)) rfl ?_
  show W K l _ n0 _ h0 0 0 9 #[.val (.int ln), .val (.int nbs), .val (.int sbs), .val (.int how), .val (.int (ln &&& (3 : Int32))), .unset, .unset, .unset, .unset, .unset, .unset, .unset, .unset, .unset, .unset] [(.int (1 : Int32)), (.int (Jvm.Free.XT.ushr ln (4 : Int32)))]
  refine w_iand ok at_9 ?_
  show W K l _ n0 _ h0 0 0 10 #[.val (.int ln), .val (.int nbs), .val (.int sbs), .val (.int how), .val (.int (ln &&& (3 : Int32))), .unset, .unset, .unset, .unset, .unset, .unset, .unset, .unset, .unset, .unset] [(.int ((Jvm.Free.XT.ushr ln (4 : Int32)) &&& (1 : Int32)))]
  refine w_if_ne ok at_10 (pc' := 18) (by decide) (fun hc1 => ?_) (fun hc1 => ?_)
  · show W K l _ n0 _ h0 0 0 18 #[.val (.int ln), .val (.int nbs), .val (.int sbs), .val (.int how), .val (.int (ln &&& (3 : Int32))), .unset, .unset, .unset, .unset, .unset, .unset, .unset, .unset, .unset, .unset] []
    refine w_iloadN ok at_18 rfl ?_
    show W K l _ n0 _ h0 0 0 19 #[.val (.int ln), .val (.int nbs), .val (.int sbs), .val (.int how), .val (.int (ln &&& (3 : Int32))), .unset, .unset, .unset, .unset, .unset, .unset, .unset, .unset, .unset, .unset] [(.int ln)]
    refine w_iconst ok at_19 (v := (2 : Int32)) rfl ?_
    show W K l _ n0 _ h0 0 0 20 #[.val (.int ln), .val (.int nbs), .val (.int sbs), .val (.int how), .val (.int (ln &&& (3 : Int32))), .unset, .unset, .unset, .unset, .unset, .unset, .unset, .unset, .unset, .unset] [(.int (2 : Int32)), (.int ln)]
    refine w_iushr ok at_20 ?_
    show W K l _ n0 _ h0 0 0 21 #[.val (.int ln), .val (.int nbs), .val (.int sbs), .val (.int how), .val (.int (ln &&& (3 : Int32))), .unset, .unset, .unset, .unset, .unset, .unset, .unset, .unset, .unset, .unset] [(.int (Jvm.Free.XT.ushr ln (2 : Int32)))]
    refine w_iconst ok at_21 (v := (3 : Int32)) rfl ?_
    show W K l _ n0 _ h0 0 0 22 #[.val (.int ln), .val (.int nbs), .val (.int sbs), .val (.int how), .val (.int (ln &&& (3 : Int32))), .unset, .unset, .unset, .unset, .unset, .unset, .unset, .unset, .unset, .unset] [(.int (3 : Int32)), (.int (Jvm.Free.XT.ushr ln (2 : Int32)))]
    refine w_iand ok at_22 ?_
    show W K l _ n0 _ h0 0 0 23 #[.val (.int ln), .val (.int nbs), .val (.int sbs), .val (.int how), .val (.int (ln &&& (3 : Int32))), .unset, .unset, .unset, .unset, .unset, .unset, .unset, .unset, .unset, .unset] [(.int ((Jvm.Free.XT.ushr ln (2 : Int32)) &&& (3 : Int32)))]
    refine w_istore ok at_23 (L' := #[.val (.int ln), .val (.int nbs), .val (.int sbs), .val (.int how), .val (.int (ln &&& (3 : Int32))), .val (.int ((Jvm.Free.XT.ushr ln (2 : Int32)) &&& (3 : Int32))), .unset, .unset, .unset, .unset, .unset, .unset, .unset, .unset, .unset]) rfl ?_
    show W K l _ n0 _ h0 0 0 25 #[.val (.int ln), .val (.int nbs), .val (.int sbs), .val (.int how), .val (.int (ln &&& (3 : Int32))), .val (.int ((Jvm.Free.XT.ushr ln (2 : Int32)) &&& (3 : Int32))), .unset, .unset, .unset, .unset, .unset, .unset, .unset, .unset, .unset] []
    exact c25 l Z a0 hw n0 h0 K ok Z0 ln nbs sbs how _ _ (own_pl _) (own_pl _)
  · show W K l _ n0 _ h0 0 0 13 #[.val (.int ln), .val (.int nbs), .val (.int sbs), .val (.int how), .val (.int (ln &&& (3 : Int32))), .unset, .unset, .unset, .unset, .unset, .unset, .unset, .unset, .unset, .unset] []
    refine w_iload ok at_13 rfl ?_
    show W K l _ n0 _ h0 0 0 15 #[.val (.int ln), .val (.int nbs), .val (.int sbs), .val (.int how), .val (.int (ln &&& (3 : Int32))), .unset, .unset, .unset, .unset, .unset, .unset, .unset, .unset, .unset, .unset] [(.int (ln &&& (3 : Int32)))]
    refine w_goto ok at_15 (pc' := 23) (by decide) ?_
    show W K l _ n0 _ h0 0 0 23 #[.val (.int ln), .val (.int nbs), .val (.int sbs), .val (.int how), .val (.int (ln &&& (3 : Int32))), .unset, .unset, .unset, .unset, .unset, .unset, .unset, .unset, .unset, .unset] [(.int (ln &&& (3 : Int32)))]
    refine w_istore ok at_23 (L' := #[.val (.int ln), .val (.int nbs), .val (.int sbs), .val (.int how), .val (.int (ln &&& (3 : Int32))), .val (.int (ln &&& (3 : Int32))), .unset, .unset, .unset, .unset, .unset, .unset, .unset, .unset, .unset]) rfl ?_
    show W K l _ n0 _ h0 0 0 25 #[.val (.int ln), .val (.int nbs), .val (.int sbs), .val (.int how), .val (.int (ln &&& (3 : Int32))), .val (.int (ln &&& (3 : Int32))), .unset, .unset, .unset, .unset, .unset, .unset, .unset, .unset, .unset] []
    exact c25 l Z a0 hw n0 h0 K ok Z0 ln nbs sbs how _ _ (own_pl _) (own_pl _)
set_option maxRecDepth 65536 in
set_option maxHeartbeats 40000000 in
theorem comes_1 {Post : Tables → Env → Array Value → State → Outcome → State → Prop} (hpost : ∀ tb e args s v u, (limb_1_1.after args s (.returned v) u = true ∧ limb_1_2.after args s (.returned v) u = true) → FrameEnd s (.returned v) u (Jvm.fieldLocs frame_1_writes args s ++ Jvm.arrayLocs frame_1_arrays args s ++ Jvm.staticLocs frame_1_statics s) 16 128 → Post tb e args s (.returned v) u) :
    ArmFor flags0 classFile x code maxLocals ret World_1 tables_1 room_1 Calls_1 rest_1 Pre_1 Post := by
  intro l hfl _ _ p e ha hc hk s m args below hf hA hF happ hP
  obtain ⟨hcalls, hrest, hpre⟩ := hP
  obtain ⟨-, -, -, hnamed, -, -, -, hat⟩ := (Spec.applies_iff hf).mp happ
  obtain ⟨hg, hn⟩ := and_e (Cond.before_iff.mp (show (Jvm.Cond.and given_1 narrow_1).before args s = true from hpre))
  obtain ⟨g0, r0⟩ := and_e hg
  obtain ⟨g1, r1⟩ := and_e r0
  obtain ⟨g2, r2⟩ := and_e r1
  obtain ⟨g3, r3⟩ := and_e r2
  obtain ⟨w0, w1, w2, w3, rfl⟩ : ∃ w0 w1 w2 w3 : Value, args = #[w0, w1, w2, w3] := by
    have hs : args.size = 4 := by simpa [Cond.value, given_1] using g0
    obtain ⟨L⟩ := args
    match L, hs with
    | [w0, w1, w2, w3], _ => exact ⟨w0, w1, w2, w3, rfl⟩
  have hw := fun d (hd : d ∈ tables_1) => atoms_spec (ws := Jvm.Cond.code x code maxLocals ret :: tables_1) hat d (List.mem_cons_of_mem _ hd)
  have hfit : Fit s := fun {y c} hc i hi => by
    obtain ⟨ha, rfl⟩ := Array.getElem?_eq_some_iff.mp hc
    have q := List.all_eq_true.mp ((Array.all_eq_true_iff_forall_mem.mp hF) _ (Array.getElem_mem ha)) i (List.mem_range.mpr hi)
    simpa [Array.getElem?_eq_getElem hi] using q
  obtain ⟨i0, ei0⟩ := is_v g1
  obtain rfl : w0 = (.int i0) := Option.some.inj ei0
  obtain ⟨i1, ei1⟩ := is_v g2
  obtain rfl : w1 = (.int i1) := Option.some.inj ei1
  obtain ⟨i2, ei2⟩ := is_v g3
  obtain rfl : w2 = (.int i2) := Option.some.inj ei2
  obtain ⟨i3, ei3⟩ := is_v r3
  obtain rfl : w3 = (.int i3) := Option.some.inj ei3
  obtain ⟨n, o, h1, h2, h3, _, L, rfl, ⟨rfl, N⟩, hq⟩ := rm0 l s _ hw tables_1 s.heap.size s.heap (Nat.le_refl _) i0 i1 i2 i3  p e ha hc hk s m _ below hf ((Spec.applies_iff_loose hf).mp happ).1 ⟨rfl, State.Warmed39.refl s, rfl⟩ trivial
  exact ⟨n, _, h1, h2, h3, hpost _ _ _ _ _ _ ⟨Cond.after_iff.mpr rfl, Cond.after_iff.mpr (eq_i res_at (Term.int_eval (1)) rfl)⟩ (frame_fin hq N (by decide) (by decide))⟩
theorem main_1_1 : Claimed_1_1 := comes_1 fun _ _ _ _ _ _ h hF => ⟨h.1, hF⟩
theorem main_1_2 : Claimed_1_2 := comes_1 fun _ _ _ _ _ _ h hF => ⟨h.2, hF⟩
end Jvm.Pilot.@@N@@
namespace Jvm.Pilot.@@N@@
open Jvm Jvm.ClassFile Sem Op Lib Jvm.Free Jvm.Stand Jvm.Pilot.@@N@@.Jvm.D
/-! MADE BY PROGRAM (witnessworld.py) out of the Statement's table words and the real class files: 9 classes; the members and pool entries that the words name. The judged class is class 1, her method 1. -/
namespace start1
open Jvm.ClassFile
def u (s : String) : CpInfo := .utf8 (stringToUtf16 s)
/-- a pool by its gaps: so many unusable entries, then the entry; so many at the end -/
def gap : Nat → List CpInfo → List CpInfo
  | 0, r => r
  | n + 1, r => .unusable :: gap n r
def poolList (es : List (Nat × CpInfo)) (last : Nat) : List CpInfo := es.foldr (fun e r => gap e.1 (e.2 :: r)) (gap last [])
def pool (es : List (Nat × CpInfo)) (last : Nat) : Array CpInfo := ⟨poolList es last⟩
def fileOf (pool : Array CpInfo) (this : Nat) (attrs : Array Attribute := #[]) (ms : Array MethodInfo := #[]) (fl : Nat := 33) (sup : Nat := 0) (ifs : Array Nat := #[]) (fds : Array FieldInfo := #[]) : ClassFile where
  minorVersion := 0
  majorVersion := 65
  constantPool := pool
  accessFlags := fl
  thisClass := this
  superClass := sup
  interfaces := ifs
  fields := fds
  methods := ms
  attributes := attrs
def plain (name : String) (sup : Option ClassId) : Class where
  name := name
  kind := .ordinary
  loader := none
  accessFlags := 33
  super := sup
  interfaces := #[]
  cf := none
  fields := #[]
  methods := #[]
  instanceTypes := #[]
  staticTypes := #[]
  resolved := #[]
  callSites := []
  init := .initialized
  statics := none
  mirror := none

def pool0 : Array CpInfo := pool [(5, u "<init>"), (0, u "()V"), (1, .class_ 10), (1, u "java/lang/Object")] 113

def k0m0 : Method := { name := "<init>", desc := "()V", sig := { parameters := [], returnType := none }, accessFlags := 1, code := none }
/-- java/lang/Object -/
def k0 : Class := { plain "java/lang/Object" none with
  accessFlags := 33
  interfaces := #[]
  cf := some (fileOf pool0 8 #[] #[{ accessFlags := 1, nameIndex := 5, descriptorIndex := 6, attributes := #[] }] 33 0 #[] #[])
  fields := #[]
  methods := #[k0m0]
  instanceTypes := #[]
  staticTypes := #[]
  resolved := Array.replicate 124 none
  statics := none }

def pool1 : Array CpInfo := pool [(2, .class_ 4), (1, u "java/lang/Object"), (0, u "<init>"), (0, u "()V"), (0, .methodref 8 9), (0, .class_ 10), (0, .nameAndType 11 12), (0, u "com/example/turnstile/turnstile/server/CommandsIsPinLaw"), (0, u "nameByte"), (0, u "(I)B"), (0, .methodref 8 14), (0, .nameAndType 15 16), (0, u "sentByte"), (0, u "(IIBZ)B"), (0, .methodref 8 18), (0, .nameAndType 19 20), (0, u "make"), (0, u "(IBBB)[B"), (0, .methodref 8 22), (0, .nameAndType 23 24), (0, u "ok"), (0, u "(BB)Z"), (0, .methodref 26 27), (0, .class_ 28), (0, .nameAndType 29 30), (0, u "com/example/turnstile/turnstile/server/Commands"), (0, u "is"), (0, u "([B[B)Z"), (2, u "law"), (0, u "(IIII)Z")] 5

def k1m0 : Method := { name := "<init>", desc := "()V", sig := { parameters := [], returnType := none }, accessFlags := 2, code := none }
def k1c1 : Code := { maxStack := 5, maxLocals := 15, code := code, exceptionTable := #[], attributes := #[] }
def k1m1 : Method := { name := "law", desc := "(IIII)Z", sig := { parameters := [.int, .int, .int, .int], returnType := some .boolean }, accessFlags := 9, code := some k1c1 }
def k1c2 : Code := { maxStack := 2, maxLocals := 2, code := method_3_code, exceptionTable := #[], attributes := #[] }
def k1m2 : Method := { name := "nameByte", desc := "(I)B", sig := { parameters := [.int], returnType := some .byte }, accessFlags := 10, code := some k1c2 }
def k1c3 : Code := { maxStack := 2, maxLocals := 5, code := method_4_code, exceptionTable := #[], attributes := #[] }
def k1m3 : Method := { name := "sentByte", desc := "(IIBZ)B", sig := { parameters := [.int, .int, .byte, .boolean], returnType := some .byte }, accessFlags := 10, code := some k1c3 }
def k1c4 : Code := { maxStack := 4, maxLocals := 4, code := method_5_code, exceptionTable := #[], attributes := #[] }
def k1m4 : Method := { name := "make", desc := "(IBBB)[B", sig := { parameters := [.int, .byte, .byte, .byte], returnType := some (.array .byte) }, accessFlags := 10, code := some k1c4 }
def k1c5 : Code := { maxStack := 3, maxLocals := 2, code := method_6_code, exceptionTable := #[], attributes := #[] }
def k1m5 : Method := { name := "ok", desc := "(BB)Z", sig := { parameters := [.byte, .byte], returnType := some .boolean }, accessFlags := 10, code := some k1c5 }
/-- com/example/turnstile/turnstile/server/CommandsIsPinLaw -/
def k1 : Class := { plain "com/example/turnstile/turnstile/server/CommandsIsPinLaw" (some 0) with
  accessFlags := 49
  interfaces := #[]
  cf := some (fileOf pool1 8 #[] #[{ accessFlags := 2, nameIndex := 5, descriptorIndex := 6, attributes := #[] }, { accessFlags := 9, nameIndex := 33, descriptorIndex := 34, attributes := #[] }, { accessFlags := 10, nameIndex := 11, descriptorIndex := 12, attributes := #[] }, { accessFlags := 10, nameIndex := 15, descriptorIndex := 16, attributes := #[] }, { accessFlags := 10, nameIndex := 19, descriptorIndex := 20, attributes := #[] }, { accessFlags := 10, nameIndex := 23, descriptorIndex := 24, attributes := #[] }] 49 2 #[] #[])
  fields := #[]
  methods := #[k1m0, k1m1, k1m2, k1m3, k1m4, k1m5]
  instanceTypes := #[]
  staticTypes := #[]
  resolved := Array.replicate 40 none
  statics := none }

def pool2 : Array CpInfo := pool [(2, .class_ 4), (1, u "com/example/turnstile/turnstile/server/Commands"), (3, .class_ 10), (1, u "java/lang/Object"), (21, u "version"), (0, u "[B"), (0, .class_ 35), (0, u "com/example/turnstile/turnstile/server/Commands$Named"), (27, u "HELLO"), (3, u "AUTH"), (29, u "byName"), (0, u "[Lcom/example/turnstile/turnstile/server/Commands$Named;"), (2, u "timers"), (0, u "Lcom/example/turnstile/turnstile/server/Timers;"), (2, u "stats"), (0, u "Lcom/example/turnstile/turnstile/server/Stats;"), (5, u "password"), (2, u "group"), (0, u "Lcom/example/turnstile/turnstile/server/Group;"), (7, u "locks"), (0, u "Lcom/example/turnstile/turnstile/server/LockTable;"), (7, u "sessions"), (0, u "Lcom/example/turnstile/turnstile/server/Sessions;"), (15, u "CONNECTION_HOLDS_KEPT_NANOS"), (0, u "J"), (79, .class_ 233), (1, u "com/example/turnstile/turnstile/server/Commands$Command"), (3, u "is"), (0, u "([B[B)Z"), (50, u "SETNAME"), (48, u "USER"), (21, u "CLIENT_SUBCOMMANDS"), (17, u "LIB_NAME"), (2, u "LIB_VER"), (60, u "Ljava/lang/String;"), (31, .class_ 476), (1, u "com/example/turnstile/turnstile/server/Commands$LockOptions"), (78, u "NO_METADATA"), (2, u "SHARED"), (2, u "LIMIT"), (7, u "WAIT"), (4, u "META"), (35, .class_ 612), (1, u "com/example/turnstile/turnstile/server/Commands$1"), (215, u "MAX_ECHO"), (0, u "I"), (2, u "MAX_CLIENT_NAME"), (1, u "LOCK_BROKEN"), (0, u "NOT_VISIBLE_ASCII")] 180

def k2c0 : Code := { maxStack := 3, maxLocals := 4, code := prog_71_method_49_code, exceptionTable := #[], attributes := #[] }
def k2m0 : Method := { name := "is", desc := "([B[B)Z", sig := { parameters := [(.array .byte), (.array .byte)], returnType := some .boolean }, accessFlags := 8, code := some k2c0 }
/-- com/example/turnstile/turnstile/server/Commands -/
def k2 : Class := { plain "com/example/turnstile/turnstile/server/Commands" (some 0) with
  accessFlags := 48
  interfaces := #[]
  cf := some (fileOf pool2 2 #[.nestMembers #[610, 474, 34, 231]] #[{ accessFlags := 8, nameIndex := 237, descriptorIndex := 238, attributes := #[] }] 48 8 #[] #[{ accessFlags := 26, nameIndex := 828, descriptorIndex := 829, attributes := #[] }, { accessFlags := 26, nameIndex := 555, descriptorIndex := 33, attributes := #[] }, { accessFlags := 26, nameIndex := 832, descriptorIndex := 829, attributes := #[] }, { accessFlags := 26, nameIndex := 834, descriptorIndex := 442, attributes := #[] }, { accessFlags := 26, nameIndex := 835, descriptorIndex := 442, attributes := #[] }, { accessFlags := 26, nameIndex := 150, descriptorIndex := 151, attributes := #[] }, { accessFlags := 18, nameIndex := 32, descriptorIndex := 33, attributes := #[] }, { accessFlags := 26, nameIndex := 558, descriptorIndex := 33, attributes := #[] }, { accessFlags := 26, nameIndex := 561, descriptorIndex := 33, attributes := #[] }, { accessFlags := 26, nameIndex := 569, descriptorIndex := 33, attributes := #[] }, { accessFlags := 26, nameIndex := 574, descriptorIndex := 33, attributes := #[] }, { accessFlags := 26, nameIndex := 289, descriptorIndex := 33, attributes := #[] }, { accessFlags := 26, nameIndex := 67, descriptorIndex := 33, attributes := #[] }, { accessFlags := 26, nameIndex := 63, descriptorIndex := 33, attributes := #[] }, { accessFlags := 26, nameIndex := 338, descriptorIndex := 33, attributes := #[] }, { accessFlags := 26, nameIndex := 378, descriptorIndex := 33, attributes := #[] }, { accessFlags := 26, nameIndex := 381, descriptorIndex := 33, attributes := #[] }, { accessFlags := 26, nameIndex := 360, descriptorIndex := 98, attributes := #[] }, { accessFlags := 18, nameIndex := 105, descriptorIndex := 106, attributes := #[] }, { accessFlags := 18, nameIndex := 101, descriptorIndex := 102, attributes := #[] }, { accessFlags := 18, nameIndex := 124, descriptorIndex := 125, attributes := #[] }, { accessFlags := 18, nameIndex := 133, descriptorIndex := 134, attributes := #[] }, { accessFlags := 18, nameIndex := 112, descriptorIndex := 33, attributes := #[] }, { accessFlags := 18, nameIndex := 115, descriptorIndex := 116, attributes := #[] }, { accessFlags := 18, nameIndex := 97, descriptorIndex := 98, attributes := #[] }])
  fields := #[{ name := "MAX_ECHO", type := .int, accessFlags := 26, slot := 0, constantValue := 0 }, { name := "NO_METADATA", type := (.array .byte), accessFlags := 26, slot := 1, constantValue := 0 }, { name := "MAX_CLIENT_NAME", type := .int, accessFlags := 26, slot := 2, constantValue := 0 }, { name := "LOCK_BROKEN", type := (.object "java/lang/String"), accessFlags := 26, slot := 3, constantValue := 0 }, { name := "NOT_VISIBLE_ASCII", type := (.object "java/lang/String"), accessFlags := 26, slot := 4, constantValue := 0 }, { name := "CONNECTION_HOLDS_KEPT_NANOS", type := .long, accessFlags := 26, slot := 5, constantValue := 0 }, { name := "version", type := (.array .byte), accessFlags := 18, slot := 0, constantValue := 0 }, { name := "SHARED", type := (.array .byte), accessFlags := 26, slot := 6, constantValue := 0 }, { name := "LIMIT", type := (.array .byte), accessFlags := 26, slot := 7, constantValue := 0 }, { name := "WAIT", type := (.array .byte), accessFlags := 26, slot := 8, constantValue := 0 }, { name := "META", type := (.array .byte), accessFlags := 26, slot := 9, constantValue := 0 }, { name := "SETNAME", type := (.array .byte), accessFlags := 26, slot := 10, constantValue := 0 }, { name := "AUTH", type := (.array .byte), accessFlags := 26, slot := 11, constantValue := 0 }, { name := "HELLO", type := (.array .byte), accessFlags := 26, slot := 12, constantValue := 0 }, { name := "USER", type := (.array .byte), accessFlags := 26, slot := 13, constantValue := 0 }, { name := "LIB_NAME", type := (.array .byte), accessFlags := 26, slot := 14, constantValue := 0 }, { name := "LIB_VER", type := (.array .byte), accessFlags := 26, slot := 15, constantValue := 0 }, { name := "CLIENT_SUBCOMMANDS", type := (.array (.object "com/example/turnstile/turnstile/server/Commands$Named")), accessFlags := 26, slot := 16, constantValue := 0 }, { name := "stats", type := (.object "com/example/turnstile/turnstile/server/Stats"), accessFlags := 18, slot := 1, constantValue := 0 }, { name := "timers", type := (.object "com/example/turnstile/turnstile/server/Timers"), accessFlags := 18, slot := 2, constantValue := 0 }, { name := "locks", type := (.object "com/example/turnstile/turnstile/server/LockTable"), accessFlags := 18, slot := 3, constantValue := 0 }, { name := "sessions", type := (.object "com/example/turnstile/turnstile/server/Sessions"), accessFlags := 18, slot := 4, constantValue := 0 }, { name := "password", type := (.array .byte), accessFlags := 18, slot := 5, constantValue := 0 }, { name := "group", type := (.object "com/example/turnstile/turnstile/server/Group"), accessFlags := 18, slot := 6, constantValue := 0 }, { name := "byName", type := (.array (.object "com/example/turnstile/turnstile/server/Commands$Named")), accessFlags := 18, slot := 7, constantValue := 0 }]
  methods := #[k2m0]
  instanceTypes := #[(.array .byte), (.object "com/example/turnstile/turnstile/server/Stats"), (.object "com/example/turnstile/turnstile/server/Timers"), (.object "com/example/turnstile/turnstile/server/LockTable"), (.object "com/example/turnstile/turnstile/server/Sessions"), (.array .byte), (.object "com/example/turnstile/turnstile/server/Group"), (.array (.object "com/example/turnstile/turnstile/server/Commands$Named"))]
  staticTypes := #[.int, (.array .byte), .int, (.object "java/lang/String"), (.object "java/lang/String"), .long, (.array .byte), (.array .byte), (.array .byte), (.array .byte), (.array .byte), (.array .byte), (.array .byte), (.array .byte), (.array .byte), (.array .byte), (.array (.object "com/example/turnstile/turnstile/server/Commands$Named"))]
  resolved := Array.replicate 1016 none
  statics := none }

def pool3 : Array CpInfo := pool [(1, u "java/lang/Cloneable"), (0, .class_ 1), (0, u "java/lang/Object"), (0, .class_ 3)] 3

/-- java/lang/Cloneable -/
def k3 : Class := { plain "java/lang/Cloneable" (some 0) with
  accessFlags := 1537
  interfaces := #[]
  cf := some (fileOf pool3 2 #[] #[] 1537 4 #[] #[])
  fields := #[]
  methods := #[]
  instanceTypes := #[]
  staticTypes := #[]
  resolved := Array.replicate 8 none
  statics := none }

def pool4 : Array CpInfo := pool [(1, u "java/io/Serializable"), (0, .class_ 1), (0, u "java/lang/Object"), (0, .class_ 3)] 3

/-- java/io/Serializable -/
def k4 : Class := { plain "java/io/Serializable" (some 0) with
  accessFlags := 1537
  interfaces := #[]
  cf := some (fileOf pool4 2 #[] #[] 1537 4 #[] #[])
  fields := #[]
  methods := #[]
  instanceTypes := #[]
  staticTypes := #[]
  resolved := Array.replicate 8 none
  statics := none }

/-- the primitive byte -/
def k5 : Class := { plain "byte" none with kind := .primitive 'B', accessFlags := 0x411 }
/-- [B -/
def k6 : Class := { plain "[B" (some 0) with kind := .array 5 .byte, interfaces := #[3, 4], accessFlags := 1041 }

/-- the primitive int -/
def k7 : Class := { plain "int" none with kind := .primitive 'I', accessFlags := 0x411 }
/-- [I -/
def k8 : Class := { plain "[I" (some 0) with kind := .array 7 .int, interfaces := #[3, 4], accessFlags := 1041 }

def heap : Heap := #[]
def classes : Array Class := #[k0, k1, k2, k3, k4, k5, k6, k7, k8]
def interned : List (Array UInt16 × Addr) := []
def slotsUsed : Nat := 0
def theMethod : MethodId := ⟨1, 1⟩
def args0 : Array Value := #[.int 5, .int 7, .int 9, .int 3]
def aboutOver (below : List Frame) : State where
  vm := { classes := classes, interned := interned.toArray }
  heap := heap
  slotsUsed := slotsUsed
  threads := #[{ frames := .invoking theMethod args0 :: below }]
def below0 : List Frame := [.native { method := ⟨0, 0⟩, args := #[] }]
def about1 : State := aboutOver below0
def p0 : Program := .bare "" "" ""
def e0 : Env := launch0.env 0 0 0
theorem w_frames : about1.frames = Frame.invoking theMethod args0 :: below0 := rfl
set_option maxRecDepth 65536 in
theorem w_args : argsFit about1.vm theMethod args0 = true := by decide +kernel
set_option maxRecDepth 65536 in
theorem w_heap : heapFits about1 = true := by decide +kernel
set_option maxRecDepth 65536 in
theorem w_runnable : about1.curStatus? = some .runnable := by decide +kernel
set_option maxRecDepth 65536 in
theorem w_alone : about1.alone = true := by decide +kernel
set_option maxRecDepth 65536 in
theorem w_named : about1.methodNamed? x = some theMethod := by decide +kernel
set_option maxRecDepth 65536 in
theorem w_hears : about1.hears theMethod below0 = true := by decide +kernel
set_option maxRecDepth 65536 in
theorem w_ripe : about1.ripe theMethod args0 below0 = true := by decide +kernel
theorem w_running : about1.status = .running := rfl
set_option maxRecDepth 65536 in
theorem w_room : about1.hasRoom e0.platform room_1 = true :=
  launch0.hasRoom_least _ room_1 (by decide +kernel) (by decide +kernel) (by decide +kernel) (by decide +kernel) (by decide +kernel) (by decide +kernel)
theorem allAtoms_all (ts : List Jvm.Cond) (a : Array Jvm.Value) (st : Jvm.State) : (allAtoms ts).before a st = ts.all (fun c => c.before a st) := by
  induction ts with
  | nil => rfl
  | cons c t ih =>
    show (Jvm.Cond.and c (allAtoms t)).before a st = _
    rw [Jvm.Cond.before_and, ih, List.all_cons]
def words1 : List Jvm.Cond := Jvm.Cond.code x code maxLocals ret :: tables_1
/-- a 'code' word, met by the world's own term for the bytes: nothing is compared byte by byte -/
theorem code_word {y : MethodName} {bytes : ByteArray} {mx : Nat} {rt : Option FieldType} {a : Array Value} {s : State} {m : MethodId} {meth : Method} {c : Code} (h1 : s.methodNamed? y = some m) (h2 : s.vm.method? m = some meth) (h3 : meth.code = some c) (h4 : c.code = bytes)
    (h5 : (c.maxLocals == mx && c.exceptionTable.isEmpty && decide (c.maxStack ≤ mostOperands) && decide (meth.sig.returnType = rt) && !meth.locks && decide (parseMethodDescriptor y.desc = some meth.sig)) = true) : (Jvm.Cond.code y bytes mx rt).before a s = true := by
  simp only [Bool.and_eq_true, beq_iff_eq, Bool.not_eq_true', decide_eq_true_eq] at h5
  obtain ⟨⟨⟨⟨⟨g1, g2⟩, g3⟩, g4⟩, g5⟩, g6⟩ := h5
  simp [Cond.before, Cond.holds, Cond.value, h1, h2, h3, h4, g1, g2, g3, g4, g5, g6]
def isCode : Jvm.Cond → Bool
  | .code _ _ _ _ => true
  | _ => false
theorem all_split {L : List Jvm.Cond} {P : Jvm.Cond → Bool} (h1 : L.all (fun c => isCode c || P c) = true) (h2 : ∀ c ∈ L.filter isCode, P c = true) : L.all P = true := by
  refine List.all_eq_true.mpr fun c hc => ?_
  have h := List.all_eq_true.mp h1 c hc
  rcases Bool.eq_false_or_eq_true (isCode c) with hi | hi
  · exact h2 c (List.mem_filter.mpr ⟨hc, hi⟩)
  · simpa [hi] using h
set_option maxRecDepth 65536 in
theorem w_c0 : (Jvm.Cond.code x code maxLocals ret).before args0 about1 = true := code_word (m := ⟨1, 1⟩) (meth := k1m1) (c := k1c1) (by decide +kernel) rfl rfl rfl (by decide +kernel)
set_option maxRecDepth 65536 in
theorem w_c1 : (Jvm.Cond.code ({ cls := "com/example/turnstile/turnstile/server/CommandsIsPinLaw", name := "nameByte", desc := "(I)B" } : Jvm.MethodName) method_3_code (2 : Nat) (Option.some Jvm.ClassFile.FieldType.byte)).before args0 about1 = true := code_word (m := ⟨1, 2⟩) (meth := k1m2) (c := k1c2) (by decide +kernel) rfl rfl rfl (by decide +kernel)
set_option maxRecDepth 65536 in
theorem w_c2 : (Jvm.Cond.code ({ cls := "com/example/turnstile/turnstile/server/CommandsIsPinLaw", name := "sentByte", desc := "(IIBZ)B" } : Jvm.MethodName) method_4_code (5 : Nat) (Option.some Jvm.ClassFile.FieldType.byte)).before args0 about1 = true := code_word (m := ⟨1, 3⟩) (meth := k1m3) (c := k1c3) (by decide +kernel) rfl rfl rfl (by decide +kernel)
set_option maxRecDepth 65536 in
theorem w_c3 : (Jvm.Cond.code ({ cls := "com/example/turnstile/turnstile/server/CommandsIsPinLaw", name := "make", desc := "(IBBB)[B" } : Jvm.MethodName) method_5_code (4 : Nat) (Option.some (Jvm.ClassFile.FieldType.array Jvm.ClassFile.FieldType.byte))).before args0 about1 = true := code_word (m := ⟨1, 4⟩) (meth := k1m4) (c := k1c4) (by decide +kernel) rfl rfl rfl (by decide +kernel)
set_option maxRecDepth 65536 in
theorem w_c4 : (Jvm.Cond.code ({ cls := "com/example/turnstile/turnstile/server/Commands", name := "is", desc := "([B[B)Z" } : Jvm.MethodName) prog_71_method_49_code (4 : Nat) (Option.some Jvm.ClassFile.FieldType.boolean)).before args0 about1 = true := code_word (m := ⟨2, 0⟩) (meth := k2m0) (c := k2c0) (by decide +kernel) rfl rfl rfl (by decide +kernel)
set_option maxRecDepth 65536 in
theorem w_c5 : (Jvm.Cond.code ({ cls := "com/example/turnstile/turnstile/server/CommandsIsPinLaw", name := "ok", desc := "(BB)Z" } : Jvm.MethodName) method_6_code (2 : Nat) (Option.some Jvm.ClassFile.FieldType.boolean)).before args0 about1 = true := code_word (m := ⟨1, 5⟩) (meth := k1m5) (c := k1c5) (by decide +kernel) rfl rfl rfl (by decide +kernel)
def codes1 : List Jvm.Cond := [Jvm.Cond.code x code maxLocals ret, Jvm.Cond.code ({ cls := "com/example/turnstile/turnstile/server/CommandsIsPinLaw", name := "nameByte", desc := "(I)B" } : Jvm.MethodName) method_3_code (2 : Nat) (Option.some Jvm.ClassFile.FieldType.byte), Jvm.Cond.code ({ cls := "com/example/turnstile/turnstile/server/CommandsIsPinLaw", name := "sentByte", desc := "(IIBZ)B" } : Jvm.MethodName) method_4_code (5 : Nat) (Option.some Jvm.ClassFile.FieldType.byte), Jvm.Cond.code ({ cls := "com/example/turnstile/turnstile/server/CommandsIsPinLaw", name := "make", desc := "(IBBB)[B" } : Jvm.MethodName) method_5_code (4 : Nat) (Option.some (Jvm.ClassFile.FieldType.array Jvm.ClassFile.FieldType.byte)), Jvm.Cond.code ({ cls := "com/example/turnstile/turnstile/server/Commands", name := "is", desc := "([B[B)Z" } : Jvm.MethodName) prog_71_method_49_code (4 : Nat) (Option.some Jvm.ClassFile.FieldType.boolean), Jvm.Cond.code ({ cls := "com/example/turnstile/turnstile/server/CommandsIsPinLaw", name := "ok", desc := "(BB)Z" } : Jvm.MethodName) method_6_code (2 : Nat) (Option.some Jvm.ClassFile.FieldType.boolean)]
set_option maxRecDepth 65536 in
theorem codes_eq : words1.filter isCode = codes1 := rfl
theorem w_codes : ∀ c ∈ words1.filter isCode, c.before args0 about1 = true := by
  rw [codes_eq]
  intro c hc
  simp only [codes1, List.mem_cons, List.not_mem_nil, or_false] at hc
  rcases hc with rfl | rfl | rfl | rfl | rfl | rfl
  · exact w_c0
  · exact w_c1
  · exact w_c2
  · exact w_c3
  · exact w_c4
  · exact w_c5
set_option maxRecDepth 65536 in
theorem w_t1 : words1.all (fun c => isCode c || c.before args0 about1) = true := by decide +kernel
theorem w_tables : (allAtoms (Jvm.Cond.code x code maxLocals ret :: tables_1)).before args0 about1 = true := by
  rw [allAtoms_all]
  show words1.all (fun c => c.before args0 about1) = true
  refine all_split ?_ w_codes
  rw [w_t1]
set_option maxRecDepth 65536 in
theorem w_case : (Jvm.Cond.and given_1 narrow_1).before args0 about1 = true := by decide +kernel
theorem w_applies : (headSpec (Jvm.Cond.code x code maxLocals ret :: tables_1) room_1).applies x e0.platform about1 = true :=
  (Spec.applies_iff w_frames).mpr ⟨w_running, w_runnable, w_alone, w_named, w_hears, w_ripe, w_room, w_tables⟩
theorem atStart : AtStart classFile x code maxLocals ret World_1 tables_1 room_1 Calls_1 rest_1 Pre_1 launch0 p0 e0 about1 theMethod args0 below0 :=
  ⟨lists_1, trivial, launch0.admits_env _ _ _, launch0.least_env, fairChoices_fair.cas, fairChoices_fair.clock, w_frames, w_args, w_heap, w_applies, trivial, trivial, w_case⟩
end start1
theorem witness_1 : WitnessClaimed_1 := ⟨start1.p0, start1.e0, start1.about1, start1.theMethod, start1.args0, start1.below0, start1.atStart⟩
end Jvm.Pilot.@@N@@
