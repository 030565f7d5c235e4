import JvmDerived
import JvmDerived.Pilot.@@N@@Statement
import JvmDerived.Pilot.@@N@@Code
set_option linter.unusedVariables false
set_option linter.unusedSimpArgs false
@@BLOCK:NumsL.lean.txt@@
namespace Jvm.Pilot.@@N@@
open Jvm Jvm.ClassFile Sem Op Lib Jvm.Free Jvm.Stand Jvm.LawKit Jvm.RoadKit Bundle Jvm.Pilot.@@N@@.Jvm.D
/-- the run from t comes to a state of G -/
def Go (p : Program) (e : Env) (below : List Frame) (G : State → Prop) (t : State) : Prop := ∃ s₂, Steps p.tables e below t s₂ ∧ G s₂
/-- the end of a body -/
def Done (below : List Frame) (s : State) (n0 : Nat) (Q : Option Value → Heap → Prop) (C N : Nat) (s₂ : State) : Prop := ∃ o, s₂.status = .running ∧ Ended s₂ below o ∧ ∃ v L, o = .returned v ∧ (Fr n0 L ∧ Q v s₂.heap) ∧ FrameEnd s o s₂ L C N
def Val (Q : Value → Heap → Prop) : Option Value → Heap → Prop := fun o h => ∃ v, o = some v ∧ Q v h
def Non (Q : Heap → Prop) : Option Value → Heap → Prop := fun o h => o = none ∧ Q h
theorem go_of {p : Program} {e : Env} {below : List Frame} {G : State → Prop} {t t' : State} (f : ∀ target, Steps p.tables e below t' target → Steps p.tables e below t target) (k : Go p e below G t') : Go p e below G t := by
  obtain ⟨s₂, h, g⟩ := k; exact ⟨s₂, f _ h, g⟩
/-- where a run stands: the heap, fresh writes only, the body's own facts -/
def Sd (l : Launch) (Z : State) (n0 : Nat) (y : MethodName) (bytes : ByteArray) (maxL : Nat) (ret : Option FieldType) (R : Room) (p : Program) (e : Env) (s : State) (m : MethodId) (args : Array Value) (below : List Frame) (T : State) (h : Heap) (cells slots : Nat) : Prop :=
  ∃ meth c locs, Stand p l e R s m args below meth c T locs cells slots ∧ T.heap = h ∧ Fr n0 locs ∧ p.tables.exec = Jvm.exec ∧ c.code = bytes ∧ c.maxLocals = maxL ∧ s.vm.findClass y.cls = some m.cls ∧ meth.name = y.name ∧ meth.sig.returnType = ret ∧ meth.locks = false ∧ Z.Warmed39 s.vm ∧ n0 ≤ s.heap.size
/-- a body's contract -/
def Con (l : Launch) (Z : State) (n0 : Nat) (y : MethodName) (bytes : ByteArray) (maxL : Nat) (ret : Option FieldType) (rm : Room) (as' : Array Value) (h : Heap) (Q : Option Value → Heap → Prop) : Prop :=
  ∀ ws, MetFree l y (head1 (Jvm.Cond.code y bytes maxL ret :: ws) rm) (fun a U => a = as' ∧ Z.Warmed39 U.vm ∧ U.heap = h) (fun _ _ _ _ _ => True) (fun _ U o U' => ∃ v L, o = .returned v ∧ (Fr n0 L ∧ Q v U'.heap) ∧ FrameEnd U o U' L rm.cells rm.slots)
theorem con_intro {l : Launch} {Z : State} {n0 : Nat} {y : MethodName} {bytes : ByteArray} {maxL : Nat} {ret : Option FieldType} {rm : Room} {as' : Array Value} {h : Heap} {Q : Option Value → Heap → Prop} (hp : plainFor y = true) (hn : n0 ≤ h.size) {fr : MethodId → JFrame} (ef : ∀ m, entryFrame m as' maxL = fr m)
    (body : ∀ p e s m below s₁, s.heap = h → Sd l Z n0 y bytes maxL ret rm p e s m as' below s₁ h 0 0 → Go p e below (Done below s n0 Q rm.cells rm.slots) (s₁.setTop (fr m))) : Con l Z n0 y bytes maxL ret rm as' h Q := by
  intro ws
  refine MetFree.of_bodySF hp hisR ?_
  intro p e s m args below meth c s₁ Bd hml0 hP hK
  obtain ⟨rfl, hZ, hh⟩ := hP
  have e0 : s₁.heap = h := by rw [← hh, Bd.state]; rfl
  obtain ⟨s₂, st, o, r1, r2, r3⟩ := body p e s m below s₁ hh ⟨meth, c, [], Stand.of_body Bd, e0, Fr.nil n0, Bd.exec, Bd.bytes, hml0, findClass_of_methodNamed Bd.named, (name_of_methodNamed Bd.named Bd.method).1, Bd.returns, Bd.notSynchronized, hZ, by rw [hh]; exact hn⟩
  exact ⟨s₂, o, castTop (ef m) st, r1, r2, r3⟩
theorem con_mono {l : Launch} {Z : State} {n0 : Nat} {y : MethodName} {bytes : ByteArray} {maxL : Nat} {ret : Option FieldType} {rm : Room} {as' : Array Value} {h : Heap} {Q Q' : Option Value → Heap → Prop} (hq : ∀ v h', Q v h' → Q' v h') (H : Con l Z n0 y bytes maxL ret rm as' h Q) : Con l Z n0 y bytes maxL ret rm as' h Q' := by
  intro ws p e ha hc hk s m args below hf happ hP hK
  obtain ⟨n, o, h1, h2, h3, v, L, h4, h5, h6⟩ := H ws p e ha hc hk s m args below hf happ hP hK
  exact ⟨n, o, h1, h2, h3, v, L, h4, ⟨h5.1, hq _ _ h5.2⟩, h6⟩
section Walk
variable {l : Launch} {Z : State} {n0 : Nat} {y : MethodName} {bytes : ByteArray} {maxL : Nat} {ret : Option FieldType} {R : Room} {p : Program} {e : Env} {s : State} {m : MethodId} {args : Array Value} {below : List Frame} {T : State} {h : Heap} {cells slots : Nat} {G : State → Prop} {a0 : Array Value} {pc pc' : Nat} {Ls : Array Slot} {S : List Value}
theorem sd_more (X : Sd l Z n0 y bytes maxL ret R p e s m args below T h cells slots) {cells' slots' : Nat} (hc : cells ≤ cells') (hs : slots ≤ slots') : Sd l Z n0 y bytes maxL ret R p e s m args below T h cells' slots' := by
  obtain ⟨meth, c, locs, X, r⟩ := X; exact ⟨meth, c, locs, X.more hc hs, r⟩
theorem sd_size (X : Sd l Z n0 y bytes maxL ret R p e s m args below T h cells slots) : n0 ≤ h.size := by
  obtain ⟨meth, c, locs, X, rfl, -, -, -, -, -, -, -, -, -, hn⟩ := X
  exact Nat.le_trans hn X.same.2.1
theorem sd_ext (X : Sd l Z n0 y bytes maxL ret R p e s m args below T h cells slots) {h0 : Heap} (hs : s.heap = h0) (hN : h0.size ≤ n0) : Ext h0 h := by
  obtain ⟨meth, c, locs, X, rfl, N, -⟩ := X
  subst hs
  refine ⟨X.same.2.1, fun a ca ha => ?_⟩
  obtain ⟨c', h1, h2, h3, h4⟩ := X.same.2.2.2.2.2 a ca ha
  have hlt : a < s.heap.size := (Array.getElem?_eq_some_iff.mp ha).1
  have e : c'.slots = ca.slots := by
    apply Array.ext_getElem?
    intro i
    exact h4 i (fun q => Nat.lt_irrefl _ (Nat.lt_of_lt_of_le hlt (Nat.le_trans hN (N _ q))))
  rw [e] at h2
  rw [h2] at h1
  exact h1
theorem w_iloadN (X : Sd l Z n0 y bytes maxL ret R p e s m args below T h cells slots) {k : Fin 4} {v : Int32} (hd : decode bytes pc = .ok (.iload_n k, 1)) (hl : Ls[k.val]? = some (.val (.int v))) (hp : pc' = pc + 1) (K : Go p e below G (T.setTop (mkF m pc' Ls (.int v :: S)))) : Go p e below G (T.setTop (mkF m pc Ls S)) := by
  obtain ⟨meth, c, locs, X, eT, N, hx, hby, hml, hown, hnm, hret, hlk, hZ, hn⟩ := X; subst hp
  exact go_of (fun _ k => XS.iloadN (g := (mkF m pc Ls S)) X.here hx rfl (hb hby hd) hl k) K
theorem w_iload (X : Sd l Z n0 y bytes maxL ret R p e s m args below T h cells slots) {k : Nat} {v : Int32} (hd : decode bytes pc = .ok (.iload k, 2)) (hl : Ls[k]? = some (.val (.int v))) (hp : pc' = pc + 2) (K : Go p e below G (T.setTop (mkF m pc' Ls (.int v :: S)))) : Go p e below G (T.setTop (mkF m pc Ls S)) := by
  obtain ⟨meth, c, locs, X, eT, N, hx, hby, hml, hown, hnm, hret, hlk, hZ, hn⟩ := X; subst hp
  exact go_of (fun _ k => XS.iload (g := (mkF m pc Ls S)) X.here hx rfl (hb hby hd) hl k) K
theorem w_istoreN (X : Sd l Z n0 y bytes maxL ret R p e s m args below T h cells slots) {k : Fin 4} {v : Int32} {l' : Array Slot} (hd : decode bytes pc = .ok (.istore_n k, 1)) (hl : storeLocals Ls k.val (.int v) = some l') (hp : pc' = pc + 1) (K : Go p e below G (T.setTop (mkF m pc' l' S))) : Go p e below G (T.setTop (mkF m pc Ls (.int v :: S))) := by
  obtain ⟨meth, c, locs, X, eT, N, hx, hby, hml, hown, hnm, hret, hlk, hZ, hn⟩ := X; subst hp
  exact go_of (fun _ k => XS.istoreN (g := (mkF m pc Ls (.int v :: S))) X.here hx rfl (hb hby hd) rfl hl k) K
theorem w_istore (X : Sd l Z n0 y bytes maxL ret R p e s m args below T h cells slots) {k : Nat} {v : Int32} {l' : Array Slot} (hd : decode bytes pc = .ok (.istore k, 2)) (hl : storeLocals Ls k (.int v) = some l') (hp : pc' = pc + 2) (K : Go p e below G (T.setTop (mkF m pc' l' S))) : Go p e below G (T.setTop (mkF m pc Ls (.int v :: S))) := by
  obtain ⟨meth, c, locs, X, eT, N, hx, hby, hml, hown, hnm, hret, hlk, hZ, hn⟩ := X; subst hp
  exact go_of (fun _ k => XS.istore (g := (mkF m pc Ls (.int v :: S))) X.here hx rfl (hb hby hd) rfl hl k) K
theorem w_lloadN (X : Sd l Z n0 y bytes maxL ret R p e s m args below T h cells slots) {k : Fin 4} {v : Int64} (hd : decode bytes pc = .ok (.lload_n k, 1)) (hl : Ls[k.val]? = some (.val (.long v))) (hp : pc' = pc + 1) (K : Go p e below G (T.setTop (mkF m pc' Ls (.long v :: S)))) : Go p e below G (T.setTop (mkF m pc Ls S)) := by
  obtain ⟨meth, c, locs, X, eT, N, hx, hby, hml, hown, hnm, hret, hlk, hZ, hn⟩ := X; subst hp
  exact go_of (fun _ k => XS.lloadN (g := (mkF m pc Ls S)) X.here hx rfl (hb hby hd) hl k) K
theorem w_lload (X : Sd l Z n0 y bytes maxL ret R p e s m args below T h cells slots) {k : Nat} {v : Int64} (hd : decode bytes pc = .ok (.lload k, 2)) (hl : Ls[k]? = some (.val (.long v))) (hp : pc' = pc + 2) (K : Go p e below G (T.setTop (mkF m pc' Ls (.long v :: S)))) : Go p e below G (T.setTop (mkF m pc Ls S)) := by
  obtain ⟨meth, c, locs, X, eT, N, hx, hby, hml, hown, hnm, hret, hlk, hZ, hn⟩ := X; subst hp
  exact go_of (fun _ k => XS.lload (g := (mkF m pc Ls S)) X.here hx rfl (hb hby hd) hl k) K
theorem w_lstoreN (X : Sd l Z n0 y bytes maxL ret R p e s m args below T h cells slots) {k : Fin 4} {v : Int64} {l' : Array Slot} (hd : decode bytes pc = .ok (.lstore_n k, 1)) (hl : storeLocals Ls k.val (.long v) = some l') (hp : pc' = pc + 1) (K : Go p e below G (T.setTop (mkF m pc' l' S))) : Go p e below G (T.setTop (mkF m pc Ls (.long v :: S))) := by
  obtain ⟨meth, c, locs, X, eT, N, hx, hby, hml, hown, hnm, hret, hlk, hZ, hn⟩ := X; subst hp
  exact go_of (fun _ k => XS.lstoreN (g := (mkF m pc Ls (.long v :: S))) X.here hx rfl (hb hby hd) rfl hl k) K
theorem w_lstore (X : Sd l Z n0 y bytes maxL ret R p e s m args below T h cells slots) {k : Nat} {v : Int64} {l' : Array Slot} (hd : decode bytes pc = .ok (.lstore k, 2)) (hl : storeLocals Ls k (.long v) = some l') (hp : pc' = pc + 2) (K : Go p e below G (T.setTop (mkF m pc' l' S))) : Go p e below G (T.setTop (mkF m pc Ls (.long v :: S))) := by
  obtain ⟨meth, c, locs, X, eT, N, hx, hby, hml, hown, hnm, hret, hlk, hZ, hn⟩ := X; subst hp
  exact go_of (fun _ k => XS.lstore (g := (mkF m pc Ls (.long v :: S))) X.here hx rfl (hb hby hd) rfl hl k) K
theorem w_aloadN (X : Sd l Z n0 y bytes maxL ret R p e s m args below T h cells slots) {k : Fin 4} {v : Value} (hd : decode bytes pc = .ok (.aload_n k, 1)) (hl : Ls[k.val]? = some (.val v)) (hv : v.isRef = true) (hp : pc' = pc + 1) (K : Go p e below G (T.setTop (mkF m pc' Ls (v :: S)))) : Go p e below G (T.setTop (mkF m pc Ls S)) := by
  obtain ⟨meth, c, locs, X, eT, N, hx, hby, hml, hown, hnm, hret, hlk, hZ, hn⟩ := X; subst hp
  exact go_of (fun _ k => XS.aloadN (g := (mkF m pc Ls S)) X.here hx rfl (hb hby hd) hl hv k) K
theorem w_aload (X : Sd l Z n0 y bytes maxL ret R p e s m args below T h cells slots) {k : Nat} {v : Value} (hd : decode bytes pc = .ok (.aload k, 2)) (hl : Ls[k]? = some (.val v)) (hv : v.isRef = true) (hp : pc' = pc + 2) (K : Go p e below G (T.setTop (mkF m pc' Ls (v :: S)))) : Go p e below G (T.setTop (mkF m pc Ls S)) := by
  obtain ⟨meth, c, locs, X, eT, N, hx, hby, hml, hown, hnm, hret, hlk, hZ, hn⟩ := X; subst hp
  exact go_of (fun _ k => XS.aload (g := (mkF m pc Ls S)) X.here hx rfl (hb hby hd) hl hv k) K
theorem w_astoreN (X : Sd l Z n0 y bytes maxL ret R p e s m args below T h cells slots) {k : Fin 4} {v : Value} {l' : Array Slot} (hd : decode bytes pc = .ok (.astore_n k, 1)) (hv : v.isRef = true) (hl : storeLocals Ls k.val v = some l') (hp : pc' = pc + 1) (K : Go p e below G (T.setTop (mkF m pc' l' S))) : Go p e below G (T.setTop (mkF m pc Ls (v :: S))) := by
  obtain ⟨meth, c, locs, X, eT, N, hx, hby, hml, hown, hnm, hret, hlk, hZ, hn⟩ := X; subst hp
  exact go_of (fun _ k => XS.astoreN (g := (mkF m pc Ls (v :: S))) X.here hx rfl (hb hby hd) rfl hv hl k) K
theorem w_astore (X : Sd l Z n0 y bytes maxL ret R p e s m args below T h cells slots) {k : Nat} {v : Value} {l' : Array Slot} (hd : decode bytes pc = .ok (.astore k, 2)) (hv : v.isRef = true) (hl : storeLocals Ls k v = some l') (hp : pc' = pc + 2) (K : Go p e below G (T.setTop (mkF m pc' l' S))) : Go p e below G (T.setTop (mkF m pc Ls (v :: S))) := by
  obtain ⟨meth, c, locs, X, eT, N, hx, hby, hml, hown, hnm, hret, hlk, hZ, hn⟩ := X; subst hp
  exact go_of (fun _ k => XS.astore (g := (mkF m pc Ls (v :: S))) X.here hx rfl (hb hby hd) rfl hv hl k) K
theorem w_iconst (X : Sd l Z n0 y bytes maxL ret R p e s m args below T h cells slots) {i : Int} (z : Int32) (hd : decode bytes pc = .ok (.iconst i, 1)) (hz : Int32.ofInt i = z) (hp : pc' = pc + 1) (K : Go p e below G (T.setTop (mkF m pc' Ls (.int z :: S)))) : Go p e below G (T.setTop (mkF m pc Ls S)) := by
  obtain ⟨meth, c, locs, X, eT, N, hx, hby, hml, hown, hnm, hret, hlk, hZ, hn⟩ := X; subst hp
  exact go_of (fun _ k => XS.iconst (g := mkF m pc Ls S) X.here hx rfl (hb hby hd) (by rw [hz]; exact k)) K
theorem w_bipush (X : Sd l Z n0 y bytes maxL ret R p e s m args below T h cells slots) {i : Int} (z : Int32) (hd : decode bytes pc = .ok (.bipush i, 2)) (hz : (Int8.ofInt i).toInt32 = z) (hp : pc' = pc + 2) (K : Go p e below G (T.setTop (mkF m pc' Ls (.int z :: S)))) : Go p e below G (T.setTop (mkF m pc Ls S)) := by
  obtain ⟨meth, c, locs, X, eT, N, hx, hby, hml, hown, hnm, hret, hlk, hZ, hn⟩ := X; subst hp
  exact go_of (fun _ k => XS.bipush (g := mkF m pc Ls S) X.here hx rfl (hb hby hd) (by rw [hz]; exact k)) K
theorem w_sipush (X : Sd l Z n0 y bytes maxL ret R p e s m args below T h cells slots) {i : Int} (z : Int32) (hd : decode bytes pc = .ok (.sipush i, 3)) (hz : (Int16.ofInt i).toInt32 = z) (hp : pc' = pc + 3) (K : Go p e below G (T.setTop (mkF m pc' Ls (.int z :: S)))) : Go p e below G (T.setTop (mkF m pc Ls S)) := by
  obtain ⟨meth, c, locs, X, eT, N, hx, hby, hml, hown, hnm, hret, hlk, hZ, hn⟩ := X; subst hp
  exact go_of (fun _ k => XS.sipush (g := mkF m pc Ls S) X.here hx rfl (hb hby hd) (by rw [hz]; exact k)) K
theorem w_lconst (X : Sd l Z n0 y bytes maxL ret R p e s m args below T h cells slots) {i : Fin 2} (z : Int64) (hd : decode bytes pc = .ok (.lconst i, 1)) (hz : Int64.ofNat i = z) (hp : pc' = pc + 1) (K : Go p e below G (T.setTop (mkF m pc' Ls (.long z :: S)))) : Go p e below G (T.setTop (mkF m pc Ls S)) := by
  obtain ⟨meth, c, locs, X, eT, N, hx, hby, hml, hown, hnm, hret, hlk, hZ, hn⟩ := X; subst hp
  exact go_of (fun _ k => XS.lconst (g := mkF m pc Ls S) X.here hx rfl (hb hby hd) (by rw [hz]; exact k)) K
theorem w_aconst_null (X : Sd l Z n0 y bytes maxL ret R p e s m args below T h cells slots)  (hd : decode bytes pc = .ok (.aconst_null, 1)) (hp : pc' = pc + 1) (K : Go p e below G (T.setTop (mkF m pc' Ls (.null :: S)))) : Go p e below G (T.setTop (mkF m pc Ls S)) := by
  obtain ⟨meth, c, locs, X, eT, N, hx, hby, hml, hown, hnm, hret, hlk, hZ, hn⟩ := X; subst hp
  exact go_of (fun _ k => XS.aconstNull (g := (mkF m pc Ls S)) X.here hx rfl (hb hby hd)  k) K
theorem w_iadd (X : Sd l Z n0 y bytes maxL ret R p e s m args below T h cells slots) {a b : Int32} (hd : decode bytes pc = .ok (.iadd, 1)) (hp : pc' = pc + 1) (K : Go p e below G (T.setTop (mkF m pc' Ls (.int (a + b) :: S)))) : Go p e below G (T.setTop (mkF m pc Ls (.int b :: .int a :: S))) := by
  obtain ⟨meth, c, locs, X, eT, N, hx, hby, hml, hown, hnm, hret, hlk, hZ, hn⟩ := X; subst hp
  exact go_of (fun _ k => XS.iadd (g := (mkF m pc Ls (.int b :: .int a :: S))) X.here hx rfl (hb hby hd) rfl k) K
theorem w_ladd (X : Sd l Z n0 y bytes maxL ret R p e s m args below T h cells slots) {a b : Int64} (hd : decode bytes pc = .ok (.ladd, 1)) (hp : pc' = pc + 1) (K : Go p e below G (T.setTop (mkF m pc' Ls (.long (a + b) :: S)))) : Go p e below G (T.setTop (mkF m pc Ls (.long b :: .long a :: S))) := by
  obtain ⟨meth, c, locs, X, eT, N, hx, hby, hml, hown, hnm, hret, hlk, hZ, hn⟩ := X; subst hp
  exact go_of (fun _ k => XS.ladd (g := (mkF m pc Ls (.long b :: .long a :: S))) X.here hx rfl (hb hby hd) rfl k) K
theorem w_isub (X : Sd l Z n0 y bytes maxL ret R p e s m args below T h cells slots) {a b : Int32} (hd : decode bytes pc = .ok (.isub, 1)) (hp : pc' = pc + 1) (K : Go p e below G (T.setTop (mkF m pc' Ls (.int (a - b) :: S)))) : Go p e below G (T.setTop (mkF m pc Ls (.int b :: .int a :: S))) := by
  obtain ⟨meth, c, locs, X, eT, N, hx, hby, hml, hown, hnm, hret, hlk, hZ, hn⟩ := X; subst hp
  exact go_of (fun _ k => XS.isub (g := (mkF m pc Ls (.int b :: .int a :: S))) X.here hx rfl (hb hby hd) rfl k) K
theorem w_lsub (X : Sd l Z n0 y bytes maxL ret R p e s m args below T h cells slots) {a b : Int64} (hd : decode bytes pc = .ok (.lsub, 1)) (hp : pc' = pc + 1) (K : Go p e below G (T.setTop (mkF m pc' Ls (.long (a - b) :: S)))) : Go p e below G (T.setTop (mkF m pc Ls (.long b :: .long a :: S))) := by
  obtain ⟨meth, c, locs, X, eT, N, hx, hby, hml, hown, hnm, hret, hlk, hZ, hn⟩ := X; subst hp
  exact go_of (fun _ k => XS.lsub (g := (mkF m pc Ls (.long b :: .long a :: S))) X.here hx rfl (hb hby hd) rfl k) K
theorem w_imul (X : Sd l Z n0 y bytes maxL ret R p e s m args below T h cells slots) {a b : Int32} (hd : decode bytes pc = .ok (.imul, 1)) (hp : pc' = pc + 1) (K : Go p e below G (T.setTop (mkF m pc' Ls (.int (a * b) :: S)))) : Go p e below G (T.setTop (mkF m pc Ls (.int b :: .int a :: S))) := by
  obtain ⟨meth, c, locs, X, eT, N, hx, hby, hml, hown, hnm, hret, hlk, hZ, hn⟩ := X; subst hp
  exact go_of (fun _ k => XS.imul (g := (mkF m pc Ls (.int b :: .int a :: S))) X.here hx rfl (hb hby hd) rfl k) K
theorem w_lmul (X : Sd l Z n0 y bytes maxL ret R p e s m args below T h cells slots) {a b : Int64} (hd : decode bytes pc = .ok (.lmul, 1)) (hp : pc' = pc + 1) (K : Go p e below G (T.setTop (mkF m pc' Ls (.long (a * b) :: S)))) : Go p e below G (T.setTop (mkF m pc Ls (.long b :: .long a :: S))) := by
  obtain ⟨meth, c, locs, X, eT, N, hx, hby, hml, hown, hnm, hret, hlk, hZ, hn⟩ := X; subst hp
  exact go_of (fun _ k => XS.lmul (g := (mkF m pc Ls (.long b :: .long a :: S))) X.here hx rfl (hb hby hd) rfl k) K
theorem w_iand (X : Sd l Z n0 y bytes maxL ret R p e s m args below T h cells slots) {a b : Int32} (hd : decode bytes pc = .ok (.iand, 1)) (hp : pc' = pc + 1) (K : Go p e below G (T.setTop (mkF m pc' Ls (.int (a &&& b) :: S)))) : Go p e below G (T.setTop (mkF m pc Ls (.int b :: .int a :: S))) := by
  obtain ⟨meth, c, locs, X, eT, N, hx, hby, hml, hown, hnm, hret, hlk, hZ, hn⟩ := X; subst hp
  exact go_of (fun _ k => XS.iand (g := (mkF m pc Ls (.int b :: .int a :: S))) X.here hx rfl (hb hby hd) rfl k) K
theorem w_land (X : Sd l Z n0 y bytes maxL ret R p e s m args below T h cells slots) {a b : Int64} (hd : decode bytes pc = .ok (.land, 1)) (hp : pc' = pc + 1) (K : Go p e below G (T.setTop (mkF m pc' Ls (.long (a &&& b) :: S)))) : Go p e below G (T.setTop (mkF m pc Ls (.long b :: .long a :: S))) := by
  obtain ⟨meth, c, locs, X, eT, N, hx, hby, hml, hown, hnm, hret, hlk, hZ, hn⟩ := X; subst hp
  exact go_of (fun _ k => XS.land (g := (mkF m pc Ls (.long b :: .long a :: S))) X.here hx rfl (hb hby hd) rfl k) K
theorem w_ior (X : Sd l Z n0 y bytes maxL ret R p e s m args below T h cells slots) {a b : Int32} (hd : decode bytes pc = .ok (.ior, 1)) (hp : pc' = pc + 1) (K : Go p e below G (T.setTop (mkF m pc' Ls (.int (a ||| b) :: S)))) : Go p e below G (T.setTop (mkF m pc Ls (.int b :: .int a :: S))) := by
  obtain ⟨meth, c, locs, X, eT, N, hx, hby, hml, hown, hnm, hret, hlk, hZ, hn⟩ := X; subst hp
  exact go_of (fun _ k => XS.ior (g := (mkF m pc Ls (.int b :: .int a :: S))) X.here hx rfl (hb hby hd) rfl k) K
theorem w_lor (X : Sd l Z n0 y bytes maxL ret R p e s m args below T h cells slots) {a b : Int64} (hd : decode bytes pc = .ok (.lor, 1)) (hp : pc' = pc + 1) (K : Go p e below G (T.setTop (mkF m pc' Ls (.long (a ||| b) :: S)))) : Go p e below G (T.setTop (mkF m pc Ls (.long b :: .long a :: S))) := by
  obtain ⟨meth, c, locs, X, eT, N, hx, hby, hml, hown, hnm, hret, hlk, hZ, hn⟩ := X; subst hp
  exact go_of (fun _ k => XS.lor (g := (mkF m pc Ls (.long b :: .long a :: S))) X.here hx rfl (hb hby hd) rfl k) K
theorem w_ixor (X : Sd l Z n0 y bytes maxL ret R p e s m args below T h cells slots) {a b : Int32} (hd : decode bytes pc = .ok (.ixor, 1)) (hp : pc' = pc + 1) (K : Go p e below G (T.setTop (mkF m pc' Ls (.int (a ^^^ b) :: S)))) : Go p e below G (T.setTop (mkF m pc Ls (.int b :: .int a :: S))) := by
  obtain ⟨meth, c, locs, X, eT, N, hx, hby, hml, hown, hnm, hret, hlk, hZ, hn⟩ := X; subst hp
  exact go_of (fun _ k => XS.ixor (g := (mkF m pc Ls (.int b :: .int a :: S))) X.here hx rfl (hb hby hd) rfl k) K
theorem w_lxor (X : Sd l Z n0 y bytes maxL ret R p e s m args below T h cells slots) {a b : Int64} (hd : decode bytes pc = .ok (.lxor, 1)) (hp : pc' = pc + 1) (K : Go p e below G (T.setTop (mkF m pc' Ls (.long (a ^^^ b) :: S)))) : Go p e below G (T.setTop (mkF m pc Ls (.long b :: .long a :: S))) := by
  obtain ⟨meth, c, locs, X, eT, N, hx, hby, hml, hown, hnm, hret, hlk, hZ, hn⟩ := X; subst hp
  exact go_of (fun _ k => XS.lxor (g := (mkF m pc Ls (.long b :: .long a :: S))) X.here hx rfl (hb hby hd) rfl k) K
theorem w_ishl (X : Sd l Z n0 y bytes maxL ret R p e s m args below T h cells slots) {a b : Int32} (hd : decode bytes pc = .ok (.ishl, 1)) (hp : pc' = pc + 1) (K : Go p e below G (T.setTop (mkF m pc' Ls (.int (a <<< (b &&& 31)) :: S)))) : Go p e below G (T.setTop (mkF m pc Ls (.int b :: .int a :: S))) := by
  obtain ⟨meth, c, locs, X, eT, N, hx, hby, hml, hown, hnm, hret, hlk, hZ, hn⟩ := X; subst hp
  exact go_of (fun _ k => XS.ishl (g := (mkF m pc Ls (.int b :: .int a :: S))) X.here hx rfl (hb hby hd) rfl k) K
theorem w_ishr (X : Sd l Z n0 y bytes maxL ret R p e s m args below T h cells slots) {a b : Int32} (hd : decode bytes pc = .ok (.ishr, 1)) (hp : pc' = pc + 1) (K : Go p e below G (T.setTop (mkF m pc' Ls (.int (a >>> (b &&& 31)) :: S)))) : Go p e below G (T.setTop (mkF m pc Ls (.int b :: .int a :: S))) := by
  obtain ⟨meth, c, locs, X, eT, N, hx, hby, hml, hown, hnm, hret, hlk, hZ, hn⟩ := X; subst hp
  exact go_of (fun _ k => XS.ishr (g := (mkF m pc Ls (.int b :: .int a :: S))) X.here hx rfl (hb hby hd) rfl k) K
theorem w_iushr (X : Sd l Z n0 y bytes maxL ret R p e s m args below T h cells slots) {a b : Int32} (hd : decode bytes pc = .ok (.iushr, 1)) (hp : pc' = pc + 1) (K : Go p e below G (T.setTop (mkF m pc' Ls (.int ((a.toUInt32 >>> (b &&& 31).toUInt32).toInt32) :: S)))) : Go p e below G (T.setTop (mkF m pc Ls (.int b :: .int a :: S))) := by
  obtain ⟨meth, c, locs, X, eT, N, hx, hby, hml, hown, hnm, hret, hlk, hZ, hn⟩ := X; subst hp
  exact go_of (fun _ k => XS.iushr (g := (mkF m pc Ls (.int b :: .int a :: S))) X.here hx rfl (hb hby hd) rfl k) K
theorem w_lshl (X : Sd l Z n0 y bytes maxL ret R p e s m args below T h cells slots) {a : Int64} {b : Int32} (hd : decode bytes pc = .ok (.lshl, 1)) (hp : pc' = pc + 1) (K : Go p e below G (T.setTop (mkF m pc' Ls (.long (a <<< (b &&& 0x3f).toInt64) :: S)))) : Go p e below G (T.setTop (mkF m pc Ls (.int b :: .long a :: S))) := by
  obtain ⟨meth, c, locs, X, eT, N, hx, hby, hml, hown, hnm, hret, hlk, hZ, hn⟩ := X; subst hp
  exact go_of (fun _ k => XS.lshl (g := (mkF m pc Ls (.int b :: .long a :: S))) X.here hx rfl (hb hby hd) rfl k) K
theorem w_lshr (X : Sd l Z n0 y bytes maxL ret R p e s m args below T h cells slots) {a : Int64} {b : Int32} (hd : decode bytes pc = .ok (.lshr, 1)) (hp : pc' = pc + 1) (K : Go p e below G (T.setTop (mkF m pc' Ls (.long (a >>> (b &&& 0x3f).toInt64) :: S)))) : Go p e below G (T.setTop (mkF m pc Ls (.int b :: .long a :: S))) := by
  obtain ⟨meth, c, locs, X, eT, N, hx, hby, hml, hown, hnm, hret, hlk, hZ, hn⟩ := X; subst hp
  exact go_of (fun _ k => XS.lshr (g := (mkF m pc Ls (.int b :: .long a :: S))) X.here hx rfl (hb hby hd) rfl k) K
theorem w_lushr (X : Sd l Z n0 y bytes maxL ret R p e s m args below T h cells slots) {a : Int64} {b : Int32} (hd : decode bytes pc = .ok (.lushr, 1)) (hp : pc' = pc + 1) (K : Go p e below G (T.setTop (mkF m pc' Ls (.long ((a.toUInt64 >>> (b &&& 0x3f).toInt64.toUInt64).toInt64) :: S)))) : Go p e below G (T.setTop (mkF m pc Ls (.int b :: .long a :: S))) := by
  obtain ⟨meth, c, locs, X, eT, N, hx, hby, hml, hown, hnm, hret, hlk, hZ, hn⟩ := X; subst hp
  exact go_of (fun _ k => XS.lushr (g := (mkF m pc Ls (.int b :: .long a :: S))) X.here hx rfl (hb hby hd) rfl k) K
theorem w_idiv (X : Sd l Z n0 y bytes maxL ret R p e s m args below T h cells slots) {a b : Int32} (hd : decode bytes pc = .ok (.idiv, 1)) (hz : b ≠ 0) (hp : pc' = pc + 1) (K : Go p e below G (T.setTop (mkF m pc' Ls (.int (a / b) :: S)))) : Go p e below G (T.setTop (mkF m pc Ls (.int b :: .int a :: S))) := by
  obtain ⟨meth, c, locs, X, eT, N, hx, hby, hml, hown, hnm, hret, hlk, hZ, hn⟩ := X; subst hp
  exact go_of (fun _ k => XS.idiv (g := (mkF m pc Ls (.int b :: .int a :: S))) X.here hx rfl (hb hby hd) rfl hz k) K
theorem w_ldiv (X : Sd l Z n0 y bytes maxL ret R p e s m args below T h cells slots) {a b : Int64} (hd : decode bytes pc = .ok (.ldiv, 1)) (hz : b ≠ 0) (hp : pc' = pc + 1) (K : Go p e below G (T.setTop (mkF m pc' Ls (.long (a / b) :: S)))) : Go p e below G (T.setTop (mkF m pc Ls (.long b :: .long a :: S))) := by
  obtain ⟨meth, c, locs, X, eT, N, hx, hby, hml, hown, hnm, hret, hlk, hZ, hn⟩ := X; subst hp
  exact go_of (fun _ k => XS.ldiv (g := (mkF m pc Ls (.long b :: .long a :: S))) X.here hx rfl (hb hby hd) rfl hz k) K
theorem w_irem (X : Sd l Z n0 y bytes maxL ret R p e s m args below T h cells slots) {a b : Int32} (hd : decode bytes pc = .ok (.irem, 1)) (hz : b ≠ 0) (hp : pc' = pc + 1) (K : Go p e below G (T.setTop (mkF m pc' Ls (.int (a % b) :: S)))) : Go p e below G (T.setTop (mkF m pc Ls (.int b :: .int a :: S))) := by
  obtain ⟨meth, c, locs, X, eT, N, hx, hby, hml, hown, hnm, hret, hlk, hZ, hn⟩ := X; subst hp
  exact go_of (fun _ k => iremM (g := mkF m pc Ls (.int b :: .int a :: S)) X hx rfl (hb hby hd) rfl hz k) K
theorem w_lrem (X : Sd l Z n0 y bytes maxL ret R p e s m args below T h cells slots) {a b : Int64} (hd : decode bytes pc = .ok (.lrem, 1)) (hz : b ≠ 0) (hp : pc' = pc + 1) (K : Go p e below G (T.setTop (mkF m pc' Ls (.long (a % b) :: S)))) : Go p e below G (T.setTop (mkF m pc Ls (.long b :: .long a :: S))) := by
  obtain ⟨meth, c, locs, X, eT, N, hx, hby, hml, hown, hnm, hret, hlk, hZ, hn⟩ := X; subst hp
  exact go_of (fun _ k => XS.lrem (g := mkF m pc Ls (.long b :: .long a :: S)) X.here hx rfl (hb hby hd) rfl hz (by rw [lrem_mod]; exact k)) K
theorem w_ineg (X : Sd l Z n0 y bytes maxL ret R p e s m args below T h cells slots) {a : Int32} (hd : decode bytes pc = .ok (.ineg, 1)) (hp : pc' = pc + 1) (K : Go p e below G (T.setTop (mkF m pc' Ls (.int (-a) :: S)))) : Go p e below G (T.setTop (mkF m pc Ls (.int a :: S))) := by
  obtain ⟨meth, c, locs, X, eT, N, hx, hby, hml, hown, hnm, hret, hlk, hZ, hn⟩ := X; subst hp
  exact go_of (fun _ k => XS.ineg (g := (mkF m pc Ls (.int a :: S))) X.here hx rfl (hb hby hd) rfl k) K
theorem w_lneg (X : Sd l Z n0 y bytes maxL ret R p e s m args below T h cells slots) {a : Int64} (hd : decode bytes pc = .ok (.lneg, 1)) (hp : pc' = pc + 1) (K : Go p e below G (T.setTop (mkF m pc' Ls (.long (-a) :: S)))) : Go p e below G (T.setTop (mkF m pc Ls (.long a :: S))) := by
  obtain ⟨meth, c, locs, X, eT, N, hx, hby, hml, hown, hnm, hret, hlk, hZ, hn⟩ := X; subst hp
  exact go_of (fun _ k => XS.lneg (g := (mkF m pc Ls (.long a :: S))) X.here hx rfl (hb hby hd) rfl k) K
theorem w_i2l (X : Sd l Z n0 y bytes maxL ret R p e s m args below T h cells slots) {a : Int32} (hd : decode bytes pc = .ok (.i2l, 1)) (hp : pc' = pc + 1) (K : Go p e below G (T.setTop (mkF m pc' Ls (.long (a.toInt64) :: S)))) : Go p e below G (T.setTop (mkF m pc Ls (.int a :: S))) := by
  obtain ⟨meth, c, locs, X, eT, N, hx, hby, hml, hown, hnm, hret, hlk, hZ, hn⟩ := X; subst hp
  exact go_of (fun _ k => XS.i2l (g := (mkF m pc Ls (.int a :: S))) X.here hx rfl (hb hby hd) rfl k) K
theorem w_l2i (X : Sd l Z n0 y bytes maxL ret R p e s m args below T h cells slots) {a : Int64} (hd : decode bytes pc = .ok (.l2i, 1)) (hp : pc' = pc + 1) (K : Go p e below G (T.setTop (mkF m pc' Ls (.int (a.toInt32) :: S)))) : Go p e below G (T.setTop (mkF m pc Ls (.long a :: S))) := by
  obtain ⟨meth, c, locs, X, eT, N, hx, hby, hml, hown, hnm, hret, hlk, hZ, hn⟩ := X; subst hp
  exact go_of (fun _ k => XS.l2i (g := (mkF m pc Ls (.long a :: S))) X.here hx rfl (hb hby hd) rfl k) K
theorem w_i2b (X : Sd l Z n0 y bytes maxL ret R p e s m args below T h cells slots) {a : Int32} (hd : decode bytes pc = .ok (.i2b, 1)) (hp : pc' = pc + 1) (K : Go p e below G (T.setTop (mkF m pc' Ls (.int (a.toInt8.toInt32) :: S)))) : Go p e below G (T.setTop (mkF m pc Ls (.int a :: S))) := by
  obtain ⟨meth, c, locs, X, eT, N, hx, hby, hml, hown, hnm, hret, hlk, hZ, hn⟩ := X; subst hp
  exact go_of (fun _ k => XS.i2b (g := (mkF m pc Ls (.int a :: S))) X.here hx rfl (hb hby hd) rfl k) K
theorem w_i2s (X : Sd l Z n0 y bytes maxL ret R p e s m args below T h cells slots) {a : Int32} (hd : decode bytes pc = .ok (.i2s, 1)) (hp : pc' = pc + 1) (K : Go p e below G (T.setTop (mkF m pc' Ls (.int (a.toInt16.toInt32) :: S)))) : Go p e below G (T.setTop (mkF m pc Ls (.int a :: S))) := by
  obtain ⟨meth, c, locs, X, eT, N, hx, hby, hml, hown, hnm, hret, hlk, hZ, hn⟩ := X; subst hp
  exact go_of (fun _ k => XS.i2s (g := (mkF m pc Ls (.int a :: S))) X.here hx rfl (hb hby hd) rfl k) K
theorem w_i2c (X : Sd l Z n0 y bytes maxL ret R p e s m args below T h cells slots) {a : Int32} (hd : decode bytes pc = .ok (.i2c, 1)) (hp : pc' = pc + 1) (K : Go p e below G (T.setTop (mkF m pc' Ls (.int (a.toUInt32.toUInt16.toUInt32.toInt32) :: S)))) : Go p e below G (T.setTop (mkF m pc Ls (.int a :: S))) := by
  obtain ⟨meth, c, locs, X, eT, N, hx, hby, hml, hown, hnm, hret, hlk, hZ, hn⟩ := X; subst hp
  exact go_of (fun _ k => XS.i2c (g := (mkF m pc Ls (.int a :: S))) X.here hx rfl (hb hby hd) rfl k) K
theorem w_lcmp (X : Sd l Z n0 y bytes maxL ret R p e s m args below T h cells slots) {a b : Int64} (hd : decode bytes pc = .ok (.lcmp, 1)) (hp : pc' = pc + 1) (K : Go p e below G (T.setTop (mkF m pc' Ls (.int (lcmpW a b) :: S)))) : Go p e below G (T.setTop (mkF m pc Ls (.long b :: .long a :: S))) := by
  obtain ⟨meth, c, locs, X, eT, N, hx, hby, hml, hown, hnm, hret, hlk, hZ, hn⟩ := X; subst hp
  exact go_of (fun _ k => XS.lcmp (g := (mkF m pc Ls (.long b :: .long a :: S))) X.here hx rfl (hb hby hd) rfl k) K
theorem w_iinc (X : Sd l Z n0 y bytes maxL ret R p e s m args below T h cells slots) {k : Nat} {i : Int} {v : Int32} {l' : Array Slot} (z : Int32) (hd : decode bytes pc = .ok (.iinc k i, 3)) (hl : Ls[k]? = some (.val (.int v))) (hz : v + Int32.ofInt i = z) (hl' : storeLocals Ls k (.int z) = some l') (hp : pc' = pc + 3) (K : Go p e below G (T.setTop (mkF m pc' l' S))) : Go p e below G (T.setTop (mkF m pc Ls S)) := by
  obtain ⟨meth, c, locs, X, eT, N, hx, hby, hml, hown, hnm, hret, hlk, hZ, hn⟩ := X; subst hp
  exact go_of (fun _ k => XS.iinc (g := mkF m pc Ls S) X.here hx rfl (hb hby hd) hl (by rw [hz]; exact hl') k) K
theorem w_dup (X : Sd l Z n0 y bytes maxL ret R p e s m args below T h cells slots) {v : Value} (hd : decode bytes pc = .ok (.dup, 1)) (hc : v.category = 1) (hp : pc' = pc + 1) (K : Go p e below G (T.setTop (mkF m pc' Ls (v :: v :: S)))) : Go p e below G (T.setTop (mkF m pc Ls (v :: S))) := by
  obtain ⟨meth, c, locs, X, eT, N, hx, hby, hml, hown, hnm, hret, hlk, hZ, hn⟩ := X; subst hp
  exact go_of (fun _ k => XS.dup (g := (mkF m pc Ls (v :: S))) X.here hx rfl (hb hby hd) rfl hc k) K
theorem w_pop (X : Sd l Z n0 y bytes maxL ret R p e s m args below T h cells slots) {v : Value} (hd : decode bytes pc = .ok (.pop, 1)) (hc : v.category = 1) (hp : pc' = pc + 1) (K : Go p e below G (T.setTop (mkF m pc' Ls S))) : Go p e below G (T.setTop (mkF m pc Ls (v :: S))) := by
  obtain ⟨meth, c, locs, X, eT, N, hx, hby, hml, hown, hnm, hret, hlk, hZ, hn⟩ := X; subst hp
  exact go_of (fun _ k => XS.pop (g := (mkF m pc Ls (v :: S))) X.here hx rfl (hb hby hd) rfl hc k) K
theorem w_dup_x1 (X : Sd l Z n0 y bytes maxL ret R p e s m args below T h cells slots) {v w : Value} (hd : decode bytes pc = .ok (.dup_x1, 1)) (hc : v.category = 1) (hc2 : w.category = 1) (hp : pc' = pc + 1) (K : Go p e below G (T.setTop (mkF m pc' Ls (v :: w :: v :: S)))) : Go p e below G (T.setTop (mkF m pc Ls (v :: w :: S))) := by
  obtain ⟨meth, c, locs, X, eT, N, hx, hby, hml, hown, hnm, hret, hlk, hZ, hn⟩ := X; subst hp
  exact go_of (fun _ k => XS.dupX1 (g := (mkF m pc Ls (v :: w :: S))) X.here hx rfl (hb hby hd) rfl hc hc2 k) K
theorem w_dup2 (X : Sd l Z n0 y bytes maxL ret R p e s m args below T h cells slots) {v w : Value} (hd : decode bytes pc = .ok (.dup2, 1)) (hc : v.category = 1) (hc2 : w.category = 1) (hp : pc' = pc + 1) (K : Go p e below G (T.setTop (mkF m pc' Ls (v :: w :: v :: w :: S)))) : Go p e below G (T.setTop (mkF m pc Ls (v :: w :: S))) := by
  obtain ⟨meth, c, locs, X, eT, N, hx, hby, hml, hown, hnm, hret, hlk, hZ, hn⟩ := X; subst hp
  exact go_of (fun _ k => Jvm.Free.XT.dup2 (g := (mkF m pc Ls (v :: w :: S))) X.here hx rfl (hb hby hd) rfl hc hc2 k) K
theorem w_dup2L (X : Sd l Z n0 y bytes maxL ret R p e s m args below T h cells slots) {v : Int64} (hd : decode bytes pc = .ok (.dup2, 1)) (hp : pc' = pc + 1) (K : Go p e below G (T.setTop (mkF m pc' Ls (.long v :: .long v :: S)))) : Go p e below G (T.setTop (mkF m pc Ls (.long v :: S))) := by
  obtain ⟨meth, c, locs, X, eT, N, hx, hby, hml, hown, hnm, hret, hlk, hZ, hn⟩ := X; subst hp
  exact go_of (fun _ k => Jvm.Free.XT.dup2L (g := (mkF m pc Ls (.long v :: S))) X.here hx rfl (hb hby hd) rfl k) K
theorem w_goto (X : Sd l Z n0 y bytes maxL ret R p e s m args below T h cells slots) {i : Int} (hd : decode bytes pc = .ok (.goto i, 3)) (ho : 0 ≤ (pc : Int) + i) (hp : ((pc : Int) + i).toNat = pc') (K : Go p e below G (T.setTop (mkF m pc' Ls S))) : Go p e below G (T.setTop (mkF m pc Ls S)) := by
  obtain ⟨meth, c, locs, X, eT, N, hx, hby, hml, hown, hnm, hret, hlk, hZ, hn⟩ := X
  exact go_of (fun _ k => XS.goto (g := mkF m pc Ls S) X.here hx rfl rfl (hb hby hd) ho hp k) K
theorem w_icmp_eq (X : Sd l Z n0 y bytes maxL ret R p e s m args below T h cells slots) {a b : Int32} {i : Int} (pt pf : Nat) (hd : decode bytes pc = .ok (.if_icmp .eq i, 3)) (ho : 0 ≤ (pc : Int) + i) (ht : ((pc : Int) + i).toNat = pt) (hf : pf = pc + 3) (kt : a = b → Go p e below G (T.setTop (mkF m pt Ls S))) (kf : ¬ a = b → Go p e below G (T.setTop (mkF m pf Ls S))) : Go p e below G (T.setTop (mkF m pc Ls (.int b :: .int a :: S))) := by
  obtain ⟨meth, c, locs, X, eT, N, hx, hby, hml, hown, hnm, hret, hlk, hZ, hn⟩ := X; subst hf
  by_cases q : a = b
  · exact go_of (fun _ k => XS.icmpYes (g := mkF m pc Ls (.int b :: .int a :: S)) X.here hx rfl rfl (hb hby hd) rfl (teq q).1 ho ht k) (kt q)
  · skip
    exact go_of (fun _ k => XS.icmpNo (g := mkF m pc Ls (.int b :: .int a :: S)) X.here hx rfl (hb hby hd) rfl (feq q).1 k) (kf q)
theorem w_if_eq (X : Sd l Z n0 y bytes maxL ret R p e s m args below T h cells slots) {a : Int32} {i : Int} (pt pf : Nat) (hd : decode bytes pc = .ok (.ifCond .eq i, 3)) (ho : 0 ≤ (pc : Int) + i) (ht : ((pc : Int) + i).toNat = pt) (hf : pf = pc + 3) (kt : a = (0 : Int32) → Go p e below G (T.setTop (mkF m pt Ls S))) (kf : ¬ a = (0 : Int32) → Go p e below G (T.setTop (mkF m pf Ls S))) : Go p e below G (T.setTop (mkF m pc Ls (.int a :: S))) := by
  obtain ⟨meth, c, locs, X, eT, N, hx, hby, hml, hown, hnm, hret, hlk, hZ, hn⟩ := X; subst hf
  by_cases q : a = (0 : Int32)
  · exact go_of (fun _ k => XS.ifYes (g := mkF m pc Ls (.int a :: S)) X.here hx rfl rfl (hb hby hd) rfl ((if0 _ _).trans (teq q).1) ho ht k) (kt q)
  · skip
    exact go_of (fun _ k => XS.ifNo (g := mkF m pc Ls (.int a :: S)) X.here hx rfl (hb hby hd) rfl ((if0 _ _).trans (feq q).1) k) (kf q)
theorem w_icmp_ne (X : Sd l Z n0 y bytes maxL ret R p e s m args below T h cells slots) {a b : Int32} {i : Int} (pt pf : Nat) (hd : decode bytes pc = .ok (.if_icmp .ne i, 3)) (ho : 0 ≤ (pc : Int) + i) (ht : ((pc : Int) + i).toNat = pt) (hf : pf = pc + 3) (kt : ¬ a = b → Go p e below G (T.setTop (mkF m pt Ls S))) (kf : a = b → Go p e below G (T.setTop (mkF m pf Ls S))) : Go p e below G (T.setTop (mkF m pc Ls (.int b :: .int a :: S))) := by
  obtain ⟨meth, c, locs, X, eT, N, hx, hby, hml, hown, hnm, hret, hlk, hZ, hn⟩ := X; subst hf
  by_cases q : ¬ a = b
  · exact go_of (fun _ k => XS.icmpYes (g := mkF m pc Ls (.int b :: .int a :: S)) X.here hx rfl rfl (hb hby hd) rfl (feq q).2 ho ht k) (kt q)
  · replace q := Decidable.not_not.mp q
    exact go_of (fun _ k => XS.icmpNo (g := mkF m pc Ls (.int b :: .int a :: S)) X.here hx rfl (hb hby hd) rfl (teq q).2 k) (kf q)
theorem w_if_ne (X : Sd l Z n0 y bytes maxL ret R p e s m args below T h cells slots) {a : Int32} {i : Int} (pt pf : Nat) (hd : decode bytes pc = .ok (.ifCond .ne i, 3)) (ho : 0 ≤ (pc : Int) + i) (ht : ((pc : Int) + i).toNat = pt) (hf : pf = pc + 3) (kt : ¬ a = (0 : Int32) → Go p e below G (T.setTop (mkF m pt Ls S))) (kf : a = (0 : Int32) → Go p e below G (T.setTop (mkF m pf Ls S))) : Go p e below G (T.setTop (mkF m pc Ls (.int a :: S))) := by
  obtain ⟨meth, c, locs, X, eT, N, hx, hby, hml, hown, hnm, hret, hlk, hZ, hn⟩ := X; subst hf
  by_cases q : ¬ a = (0 : Int32)
  · exact go_of (fun _ k => XS.ifYes (g := mkF m pc Ls (.int a :: S)) X.here hx rfl rfl (hb hby hd) rfl ((if0 _ _).trans (feq q).2) ho ht k) (kt q)
  · replace q := Decidable.not_not.mp q
    exact go_of (fun _ k => XS.ifNo (g := mkF m pc Ls (.int a :: S)) X.here hx rfl (hb hby hd) rfl ((if0 _ _).trans (teq q).2) k) (kf q)
theorem w_icmp_lt (X : Sd l Z n0 y bytes maxL ret R p e s m args below T h cells slots) {a b : Int32} {i : Int} (pt pf : Nat) (hd : decode bytes pc = .ok (.if_icmp .lt i, 3)) (ho : 0 ≤ (pc : Int) + i) (ht : ((pc : Int) + i).toNat = pt) (hf : pf = pc + 3) (kt : a < b → Go p e below G (T.setTop (mkF m pt Ls S))) (kf : ¬ a < b → Go p e below G (T.setTop (mkF m pf Ls S))) : Go p e below G (T.setTop (mkF m pc Ls (.int b :: .int a :: S))) := by
  obtain ⟨meth, c, locs, X, eT, N, hx, hby, hml, hown, hnm, hret, hlk, hZ, hn⟩ := X; subst hf
  by_cases q : a < b
  · exact go_of (fun _ k => XS.icmpYes (g := mkF m pc Ls (.int b :: .int a :: S)) X.here hx rfl rfl (hb hby hd) rfl (tlt q).1 ho ht k) (kt q)
  · skip
    exact go_of (fun _ k => XS.icmpNo (g := mkF m pc Ls (.int b :: .int a :: S)) X.here hx rfl (hb hby hd) rfl (flt q).1 k) (kf q)
theorem w_if_lt (X : Sd l Z n0 y bytes maxL ret R p e s m args below T h cells slots) {a : Int32} {i : Int} (pt pf : Nat) (hd : decode bytes pc = .ok (.ifCond .lt i, 3)) (ho : 0 ≤ (pc : Int) + i) (ht : ((pc : Int) + i).toNat = pt) (hf : pf = pc + 3) (kt : a < (0 : Int32) → Go p e below G (T.setTop (mkF m pt Ls S))) (kf : ¬ a < (0 : Int32) → Go p e below G (T.setTop (mkF m pf Ls S))) : Go p e below G (T.setTop (mkF m pc Ls (.int a :: S))) := by
  obtain ⟨meth, c, locs, X, eT, N, hx, hby, hml, hown, hnm, hret, hlk, hZ, hn⟩ := X; subst hf
  by_cases q : a < (0 : Int32)
  · exact go_of (fun _ k => XS.ifYes (g := mkF m pc Ls (.int a :: S)) X.here hx rfl rfl (hb hby hd) rfl ((if0 _ _).trans (tlt q).1) ho ht k) (kt q)
  · skip
    exact go_of (fun _ k => XS.ifNo (g := mkF m pc Ls (.int a :: S)) X.here hx rfl (hb hby hd) rfl ((if0 _ _).trans (flt q).1) k) (kf q)
theorem w_icmp_ge (X : Sd l Z n0 y bytes maxL ret R p e s m args below T h cells slots) {a b : Int32} {i : Int} (pt pf : Nat) (hd : decode bytes pc = .ok (.if_icmp .ge i, 3)) (ho : 0 ≤ (pc : Int) + i) (ht : ((pc : Int) + i).toNat = pt) (hf : pf = pc + 3) (kt : ¬ a < b → Go p e below G (T.setTop (mkF m pt Ls S))) (kf : a < b → Go p e below G (T.setTop (mkF m pf Ls S))) : Go p e below G (T.setTop (mkF m pc Ls (.int b :: .int a :: S))) := by
  obtain ⟨meth, c, locs, X, eT, N, hx, hby, hml, hown, hnm, hret, hlk, hZ, hn⟩ := X; subst hf
  by_cases q : ¬ a < b
  · exact go_of (fun _ k => XS.icmpYes (g := mkF m pc Ls (.int b :: .int a :: S)) X.here hx rfl rfl (hb hby hd) rfl (flt q).2.1 ho ht k) (kt q)
  · replace q := Decidable.not_not.mp q
    exact go_of (fun _ k => XS.icmpNo (g := mkF m pc Ls (.int b :: .int a :: S)) X.here hx rfl (hb hby hd) rfl (tlt q).2.1 k) (kf q)
theorem w_if_ge (X : Sd l Z n0 y bytes maxL ret R p e s m args below T h cells slots) {a : Int32} {i : Int} (pt pf : Nat) (hd : decode bytes pc = .ok (.ifCond .ge i, 3)) (ho : 0 ≤ (pc : Int) + i) (ht : ((pc : Int) + i).toNat = pt) (hf : pf = pc + 3) (kt : ¬ a < (0 : Int32) → Go p e below G (T.setTop (mkF m pt Ls S))) (kf : a < (0 : Int32) → Go p e below G (T.setTop (mkF m pf Ls S))) : Go p e below G (T.setTop (mkF m pc Ls (.int a :: S))) := by
  obtain ⟨meth, c, locs, X, eT, N, hx, hby, hml, hown, hnm, hret, hlk, hZ, hn⟩ := X; subst hf
  by_cases q : ¬ a < (0 : Int32)
  · exact go_of (fun _ k => XS.ifYes (g := mkF m pc Ls (.int a :: S)) X.here hx rfl rfl (hb hby hd) rfl ((if0 _ _).trans (flt q).2.1) ho ht k) (kt q)
  · replace q := Decidable.not_not.mp q
    exact go_of (fun _ k => XS.ifNo (g := mkF m pc Ls (.int a :: S)) X.here hx rfl (hb hby hd) rfl ((if0 _ _).trans (tlt q).2.1) k) (kf q)
theorem w_icmp_gt (X : Sd l Z n0 y bytes maxL ret R p e s m args below T h cells slots) {a b : Int32} {i : Int} (pt pf : Nat) (hd : decode bytes pc = .ok (.if_icmp .gt i, 3)) (ho : 0 ≤ (pc : Int) + i) (ht : ((pc : Int) + i).toNat = pt) (hf : pf = pc + 3) (kt : b < a → Go p e below G (T.setTop (mkF m pt Ls S))) (kf : ¬ b < a → Go p e below G (T.setTop (mkF m pf Ls S))) : Go p e below G (T.setTop (mkF m pc Ls (.int b :: .int a :: S))) := by
  obtain ⟨meth, c, locs, X, eT, N, hx, hby, hml, hown, hnm, hret, hlk, hZ, hn⟩ := X; subst hf
  by_cases q : b < a
  · exact go_of (fun _ k => XS.icmpYes (g := mkF m pc Ls (.int b :: .int a :: S)) X.here hx rfl rfl (hb hby hd) rfl (tlt q).2.2.1 ho ht k) (kt q)
  · skip
    exact go_of (fun _ k => XS.icmpNo (g := mkF m pc Ls (.int b :: .int a :: S)) X.here hx rfl (hb hby hd) rfl (flt q).2.2.1 k) (kf q)
theorem w_if_gt (X : Sd l Z n0 y bytes maxL ret R p e s m args below T h cells slots) {a : Int32} {i : Int} (pt pf : Nat) (hd : decode bytes pc = .ok (.ifCond .gt i, 3)) (ho : 0 ≤ (pc : Int) + i) (ht : ((pc : Int) + i).toNat = pt) (hf : pf = pc + 3) (kt : (0 : Int32) < a → Go p e below G (T.setTop (mkF m pt Ls S))) (kf : ¬ (0 : Int32) < a → Go p e below G (T.setTop (mkF m pf Ls S))) : Go p e below G (T.setTop (mkF m pc Ls (.int a :: S))) := by
  obtain ⟨meth, c, locs, X, eT, N, hx, hby, hml, hown, hnm, hret, hlk, hZ, hn⟩ := X; subst hf
  by_cases q : (0 : Int32) < a
  · exact go_of (fun _ k => XS.ifYes (g := mkF m pc Ls (.int a :: S)) X.here hx rfl rfl (hb hby hd) rfl ((if0 _ _).trans (tlt q).2.2.1) ho ht k) (kt q)
  · skip
    exact go_of (fun _ k => XS.ifNo (g := mkF m pc Ls (.int a :: S)) X.here hx rfl (hb hby hd) rfl ((if0 _ _).trans (flt q).2.2.1) k) (kf q)
theorem w_icmp_le (X : Sd l Z n0 y bytes maxL ret R p e s m args below T h cells slots) {a b : Int32} {i : Int} (pt pf : Nat) (hd : decode bytes pc = .ok (.if_icmp .le i, 3)) (ho : 0 ≤ (pc : Int) + i) (ht : ((pc : Int) + i).toNat = pt) (hf : pf = pc + 3) (kt : ¬ b < a → Go p e below G (T.setTop (mkF m pt Ls S))) (kf : b < a → Go p e below G (T.setTop (mkF m pf Ls S))) : Go p e below G (T.setTop (mkF m pc Ls (.int b :: .int a :: S))) := by
  obtain ⟨meth, c, locs, X, eT, N, hx, hby, hml, hown, hnm, hret, hlk, hZ, hn⟩ := X; subst hf
  by_cases q : ¬ b < a
  · exact go_of (fun _ k => XS.icmpYes (g := mkF m pc Ls (.int b :: .int a :: S)) X.here hx rfl rfl (hb hby hd) rfl (flt q).2.2.2 ho ht k) (kt q)
  · replace q := Decidable.not_not.mp q
    exact go_of (fun _ k => XS.icmpNo (g := mkF m pc Ls (.int b :: .int a :: S)) X.here hx rfl (hb hby hd) rfl (tlt q).2.2.2 k) (kf q)
theorem w_if_le (X : Sd l Z n0 y bytes maxL ret R p e s m args below T h cells slots) {a : Int32} {i : Int} (pt pf : Nat) (hd : decode bytes pc = .ok (.ifCond .le i, 3)) (ho : 0 ≤ (pc : Int) + i) (ht : ((pc : Int) + i).toNat = pt) (hf : pf = pc + 3) (kt : ¬ (0 : Int32) < a → Go p e below G (T.setTop (mkF m pt Ls S))) (kf : (0 : Int32) < a → Go p e below G (T.setTop (mkF m pf Ls S))) : Go p e below G (T.setTop (mkF m pc Ls (.int a :: S))) := by
  obtain ⟨meth, c, locs, X, eT, N, hx, hby, hml, hown, hnm, hret, hlk, hZ, hn⟩ := X; subst hf
  by_cases q : ¬ (0 : Int32) < a
  · exact go_of (fun _ k => XS.ifYes (g := mkF m pc Ls (.int a :: S)) X.here hx rfl rfl (hb hby hd) rfl ((if0 _ _).trans (flt q).2.2.2) ho ht k) (kt q)
  · replace q := Decidable.not_not.mp q
    exact go_of (fun _ k => XS.ifNo (g := mkF m pc Ls (.int a :: S)) X.here hx rfl (hb hby hd) rfl ((if0 _ _).trans (tlt q).2.2.2) k) (kf q)
theorem w_lc_eq (X : Sd l Z n0 y bytes maxL ret R p e s m args below T h cells slots) {a b : Int64} {i : Int} (pt pf : Nat) (hd1 : decode bytes pc = .ok (.lcmp, 1)) (hd : decode bytes (pc + 1) = .ok (.ifCond .eq i, 3)) (ho : 0 ≤ ((pc + 1 : Nat) : Int) + i) (ht : (((pc + 1 : Nat) : Int) + i).toNat = pt) (hf : pf = pc + 4) (kt : a = b → Go p e below G (T.setTop (mkF m pt Ls S))) (kf : ¬ a = b → Go p e below G (T.setTop (mkF m pf Ls S))) : Go p e below G (T.setTop (mkF m pc Ls (.long b :: .long a :: S))) :=
  w_lcmp X hd1 rfl (w_if_eq X pt pf hd ho ht hf (fun q => kt ((lw_eq _ _).mp q)) (fun q => kf (fun z => q ((lw_eq _ _).mpr z))))
theorem w_lc_ne (X : Sd l Z n0 y bytes maxL ret R p e s m args below T h cells slots) {a b : Int64} {i : Int} (pt pf : Nat) (hd1 : decode bytes pc = .ok (.lcmp, 1)) (hd : decode bytes (pc + 1) = .ok (.ifCond .ne i, 3)) (ho : 0 ≤ ((pc + 1 : Nat) : Int) + i) (ht : (((pc + 1 : Nat) : Int) + i).toNat = pt) (hf : pf = pc + 4) (kt : ¬ a = b → Go p e below G (T.setTop (mkF m pt Ls S))) (kf : a = b → Go p e below G (T.setTop (mkF m pf Ls S))) : Go p e below G (T.setTop (mkF m pc Ls (.long b :: .long a :: S))) :=
  w_lcmp X hd1 rfl (w_if_ne X pt pf hd ho ht hf (fun q => kt (fun z => q ((lw_eq _ _).mpr z))) (fun q => kf ((lw_eq _ _).mp q)))
theorem w_lc_lt (X : Sd l Z n0 y bytes maxL ret R p e s m args below T h cells slots) {a b : Int64} {i : Int} (pt pf : Nat) (hd1 : decode bytes pc = .ok (.lcmp, 1)) (hd : decode bytes (pc + 1) = .ok (.ifCond .lt i, 3)) (ho : 0 ≤ ((pc + 1 : Nat) : Int) + i) (ht : (((pc + 1 : Nat) : Int) + i).toNat = pt) (hf : pf = pc + 4) (kt : a < b → Go p e below G (T.setTop (mkF m pt Ls S))) (kf : ¬ a < b → Go p e below G (T.setTop (mkF m pf Ls S))) : Go p e below G (T.setTop (mkF m pc Ls (.long b :: .long a :: S))) :=
  w_lcmp X hd1 rfl (w_if_lt X pt pf hd ho ht hf (fun q => kt ((lw_lt _ _).mp q)) (fun q => kf (fun z => q ((lw_lt _ _).mpr z))))
theorem w_lc_ge (X : Sd l Z n0 y bytes maxL ret R p e s m args below T h cells slots) {a b : Int64} {i : Int} (pt pf : Nat) (hd1 : decode bytes pc = .ok (.lcmp, 1)) (hd : decode bytes (pc + 1) = .ok (.ifCond .ge i, 3)) (ho : 0 ≤ ((pc + 1 : Nat) : Int) + i) (ht : (((pc + 1 : Nat) : Int) + i).toNat = pt) (hf : pf = pc + 4) (kt : ¬ a < b → Go p e below G (T.setTop (mkF m pt Ls S))) (kf : a < b → Go p e below G (T.setTop (mkF m pf Ls S))) : Go p e below G (T.setTop (mkF m pc Ls (.long b :: .long a :: S))) :=
  w_lcmp X hd1 rfl (w_if_ge X pt pf hd ho ht hf (fun q => kt (fun z => q ((lw_lt _ _).mpr z))) (fun q => kf ((lw_lt _ _).mp q)))
theorem w_lc_gt (X : Sd l Z n0 y bytes maxL ret R p e s m args below T h cells slots) {a b : Int64} {i : Int} (pt pf : Nat) (hd1 : decode bytes pc = .ok (.lcmp, 1)) (hd : decode bytes (pc + 1) = .ok (.ifCond .gt i, 3)) (ho : 0 ≤ ((pc + 1 : Nat) : Int) + i) (ht : (((pc + 1 : Nat) : Int) + i).toNat = pt) (hf : pf = pc + 4) (kt : b < a → Go p e below G (T.setTop (mkF m pt Ls S))) (kf : ¬ b < a → Go p e below G (T.setTop (mkF m pf Ls S))) : Go p e below G (T.setTop (mkF m pc Ls (.long b :: .long a :: S))) :=
  w_lcmp X hd1 rfl (w_if_gt X pt pf hd ho ht hf (fun q => kt ((lw_gt _ _).mp q)) (fun q => kf (fun z => q ((lw_gt _ _).mpr z))))
theorem w_lc_le (X : Sd l Z n0 y bytes maxL ret R p e s m args below T h cells slots) {a b : Int64} {i : Int} (pt pf : Nat) (hd1 : decode bytes pc = .ok (.lcmp, 1)) (hd : decode bytes (pc + 1) = .ok (.ifCond .le i, 3)) (ho : 0 ≤ ((pc + 1 : Nat) : Int) + i) (ht : (((pc + 1 : Nat) : Int) + i).toNat = pt) (hf : pf = pc + 4) (kt : ¬ b < a → Go p e below G (T.setTop (mkF m pt Ls S))) (kf : b < a → Go p e below G (T.setTop (mkF m pf Ls S))) : Go p e below G (T.setTop (mkF m pc Ls (.long b :: .long a :: S))) :=
  w_lcmp X hd1 rfl (w_if_le X pt pf hd ho ht hf (fun q => kt (fun z => q ((lw_gt _ _).mpr z))) (fun q => kf ((lw_gt _ _).mp q)))
theorem w_ifnullY (X : Sd l Z n0 y bytes maxL ret R p e s m args below T h cells slots) {i : Int} (hd : decode bytes pc = .ok (.ifnull i, 3)) (ho : 0 ≤ (pc : Int) + i) (hp : ((pc : Int) + i).toNat = pc') (K : Go p e below G (T.setTop (mkF m pc' Ls S))) : Go p e below G (T.setTop (mkF m pc Ls (.null :: S))) := by
  obtain ⟨meth, c, locs, X, eT, N, hx, hby, hml, hown, hnm, hret, hlk, hZ, hn⟩ := X
  exact go_of (fun _ k => XS.ifnullYes (g := mkF m pc Ls (.null :: S)) X.here hx rfl rfl (hb hby hd) rfl ho hp k) K
theorem w_ifnullN (X : Sd l Z n0 y bytes maxL ret R p e s m args below T h cells slots) {b : Addr} {i : Int} (hd : decode bytes pc = .ok (.ifnull i, 3)) (hp : pc' = pc + 3) (K : Go p e below G (T.setTop (mkF m pc' Ls S))) : Go p e below G (T.setTop (mkF m pc Ls (.ref b :: S))) := by
  obtain ⟨meth, c, locs, X, eT, N, hx, hby, hml, hown, hnm, hret, hlk, hZ, hn⟩ := X; subst hp
  exact go_of (fun _ k => XS.ifnullNo (g := mkF m pc Ls (.ref b :: S)) X.here hx rfl (hb hby hd) rfl k) K
theorem w_ifnonnullY (X : Sd l Z n0 y bytes maxL ret R p e s m args below T h cells slots) {b : Addr} {i : Int} (hd : decode bytes pc = .ok (.ifnonnull i, 3)) (ho : 0 ≤ (pc : Int) + i) (hp : ((pc : Int) + i).toNat = pc') (K : Go p e below G (T.setTop (mkF m pc' Ls S))) : Go p e below G (T.setTop (mkF m pc Ls (.ref b :: S))) := by
  obtain ⟨meth, c, locs, X, eT, N, hx, hby, hml, hown, hnm, hret, hlk, hZ, hn⟩ := X
  exact go_of (fun _ k => XS.ifnonnullYes (g := mkF m pc Ls (.ref b :: S)) X.here hx rfl rfl (hb hby hd) rfl ho hp k) K
theorem w_ifnonnullN (X : Sd l Z n0 y bytes maxL ret R p e s m args below T h cells slots) {i : Int} (hd : decode bytes pc = .ok (.ifnonnull i, 3)) (hp : pc' = pc + 3) (K : Go p e below G (T.setTop (mkF m pc' Ls S))) : Go p e below G (T.setTop (mkF m pc Ls (.null :: S))) := by
  obtain ⟨meth, c, locs, X, eT, N, hx, hby, hml, hown, hnm, hret, hlk, hZ, hn⟩ := X; subst hp
  exact go_of (fun _ k => XS.ifnonnullNo (g := mkF m pc Ls (.null :: S)) X.here hx rfl (hb hby hd) rfl k) K
theorem w_acmp_eq (X : Sd l Z n0 y bytes maxL ret R p e s m args below T h cells slots) {v w : Value} (hv : v.isRef = true) (hw : w.isRef = true) {i : Int} (pt pf : Nat) (hd : decode bytes pc = .ok (.if_acmp .eq i, 3)) (ho : 0 ≤ (pc : Int) + i) (ht : ((pc : Int) + i).toNat = pt) (hf : pf = pc + 3) (kt : v = w → Go p e below G (T.setTop (mkF m pt Ls S))) (kf : ¬ v = w → Go p e below G (T.setTop (mkF m pf Ls S))) : Go p e below G (T.setTop (mkF m pc Ls (w :: v :: S))) := by
  obtain ⟨meth, c, locs, X, eT, N, hx, hby, hml, hown, hnm, hret, hlk, hZ, hn⟩ := X; subst hf ht
  by_cases q : v = w
  · exact go_of (fun _ k => Jvm.RoadKit.acmp (g := mkF m pc Ls (w :: v :: S)) X hx rfl hv hw (same := true) rfl (hb hby hd) rfl (decide_eq_true q) ho rfl k) (kt q)
  · exact go_of (fun _ k => Jvm.RoadKit.acmp (g := mkF m pc Ls (w :: v :: S)) X hx rfl hv hw (same := false) rfl (hb hby hd) rfl (decide_eq_false q) ho rfl k) (kf q)
theorem w_acmp_ne (X : Sd l Z n0 y bytes maxL ret R p e s m args below T h cells slots) {v w : Value} (hv : v.isRef = true) (hw : w.isRef = true) {i : Int} (pt pf : Nat) (hd : decode bytes pc = .ok (.if_acmp .ne i, 3)) (ho : 0 ≤ (pc : Int) + i) (ht : ((pc : Int) + i).toNat = pt) (hf : pf = pc + 3) (kt : ¬ v = w → Go p e below G (T.setTop (mkF m pt Ls S))) (kf : v = w → Go p e below G (T.setTop (mkF m pf Ls S))) : Go p e below G (T.setTop (mkF m pc Ls (w :: v :: S))) := by
  obtain ⟨meth, c, locs, X, eT, N, hx, hby, hml, hown, hnm, hret, hlk, hZ, hn⟩ := X; subst hf ht
  by_cases q : v = w
  · exact go_of (fun _ k => Jvm.RoadKit.acmp (g := mkF m pc Ls (w :: v :: S)) X hx rfl hv hw (same := true) rfl (hb hby hd) rfl (decide_eq_true q) ho rfl k) (kf q)
  · exact go_of (fun _ k => Jvm.RoadKit.acmp (g := mkF m pc Ls (w :: v :: S)) X hx rfl hv hw (same := false) rfl (hb hby hd) rfl (decide_eq_false q) ho rfl k) (kt q)
theorem w_ldc (X : Sd l Z n0 y bytes maxL ret R p e s m args below T h cells slots) {i : Nat} {v : Int32} (hd : decode bytes pc = .ok (.ldc i, 2)) (w : (Jvm.Cond.constant y.cls i v).before a0 Z = true) (hp : pc' = pc + 2) (K : Go p e below G (T.setTop (mkF m pc' Ls (.int v :: S)))) : Go p e below G (T.setTop (mkF m pc Ls S)) := by
  obtain ⟨meth, c, locs, X, eT, N, hx, hby, hml, hown, hnm, hret, hlk, hZ, hn⟩ := X; subst hp
  exact go_of (X.ldcInt hx hown (mvT hZ w) (g := mkF m pc Ls S) rfl (hb hby hd)) K
theorem w_ldc2 (X : Sd l Z n0 y bytes maxL ret R p e s m args below T h cells slots) {i : Nat} {v : Int64} (hd : decode bytes pc = .ok (.ldc2_w i, 3)) (w : (Jvm.Cond.constantLong y.cls i v).before a0 Z = true) (hp : pc' = pc + 3) (K : Go p e below G (T.setTop (mkF m pc' Ls (.long v :: S)))) : Go p e below G (T.setTop (mkF m pc Ls S)) := by
  obtain ⟨meth, c, locs, X, eT, N, hx, hby, hml, hown, hnm, hret, hlk, hZ, hn⟩ := X; subst hp
  exact go_of (X.ldc2Long hx hown (mvT hZ w) (g := mkF m pc Ls S) rfl (hb hby hd)) K
theorem w_getfield (X : Sd l Z n0 y bytes maxL ret R p e s m args below T h cells slots) {i : Nat} {R0 O n d : String} {a : Addr} {v : Value} (hd : decode bytes pc = .ok (.getfield i, 3)) {host : String} (w : (Jvm.Cond.fieldLink y.cls i R0 n d).before a0 Z = true ∨ (Jvm.Cond.fieldLinkNest y.cls i R0 n d host).before a0 Z = true) (via : Via Z R0 O n d) (F : Fld Z h a O n d v) (hp : pc' = pc + 3) (K : ∀ T', Sd l Z n0 y bytes maxL ret R p e s m args below T' h cells slots → Go p e below G (T'.setTop (mkF m (pc') Ls (v :: S)))) : Go p e below G (T.setTop (mkF m pc Ls (.ref a :: S))) := by
  obtain ⟨meth, c, locs, X, eT, N, hx, hby, hml, hown, hnm, hret, hlk, hZ, hn⟩ := X; subst hp
  obtain ⟨T', X', e', st⟩ := getF X hx hZ hown w via eT F (g := mkF m pc Ls (.ref a :: S)) rfl rfl (hb hby hd)
  exact go_of st (K T' ⟨meth, c, _, X', e', N, hx, hby, hml, hown, hnm, hret, hlk, hZ, hn⟩)
theorem w_getstatic (X : Sd l Z n0 y bytes maxL ret R p e s m args below T h cells slots) {i : Nat} {R0 O n d : String} {v : Value} (hd : decode bytes pc = .ok (.getstatic i, 3)) {host : String} (w : (Jvm.Cond.fieldLink y.cls i R0 n d).before a0 Z = true ∨ (Jvm.Cond.fieldLinkNest y.cls i R0 n d host).before a0 Z = true) (via : Via Z R0 O n d) (F : Sta Z h O n d v) (hp : pc' = pc + 3) (K : ∀ T', Sd l Z n0 y bytes maxL ret R p e s m args below T' h cells slots → Go p e below G (T'.setTop (mkF m (pc') Ls (v :: S)))) : Go p e below G (T.setTop (mkF m pc Ls S)) := by
  obtain ⟨meth, c, locs, X, eT, N, hx, hby, hml, hown, hnm, hret, hlk, hZ, hn⟩ := X; subst hp
  obtain ⟨T', X', e', st⟩ := getS2 X hx hZ hown w via eT F (g := mkF m pc Ls S) rfl (hb hby hd)
  exact go_of st (K T' ⟨meth, c, _, X', e', N, hx, hby, hml, hown, hnm, hret, hlk, hZ, hn⟩)
theorem w_putfield (X : Sd l Z n0 y bytes maxL ret R p e s m args below T h cells slots) {i kk : Nat} {R0 O n d C : String} {ty : FieldType} {a : Addr} {v old : Value} (hd : decode bytes pc = .ok (.putfield i, 3)) {host : String} (w : (Jvm.Cond.fieldLink y.cls i R0 n d).before a0 Z = true ∨ (Jvm.Cond.fieldLinkNest y.cls i R0 n d host).before a0 Z = true) (via : Via Z R0 O n d) (F : Fld Z h a O n d old) (E : Exa Z h a C) (L : (Jvm.Cond.lays C O n d).before a0 Z = true ∨ ((Jvm.Cond.laysFinal C O n d).before a0 Z = true ∧ y.cls = O ∧ y.name = "<init>")) (wi : (Jvm.Cond.instantiable C kk).before a0 Z = true) (hty : parseFieldDescriptor d = some ty) (hna : narrow ty v = v) (hfi : fits ty v = true) (hg : n0 ≤ a) (hp : pc' = pc + 3) (K : ∀ T' h', Sd l Z n0 y bytes maxL ret R p e s m args below T' h' cells slots → Wr h h' a (Jvm.RoadKit.slotOf Z O n d) v → Fld Z h' a O n d v → Go p e below G (T'.setTop (mkF m (pc') Ls S))) : Go p e below G (T.setTop (mkF m pc Ls (v :: .ref a :: S))) := by
  obtain ⟨meth, c, locs, X, eT, N, hx, hby, hml, hown, hnm, hret, hlk, hZ, hn⟩ := X; subst hp
  obtain ⟨T', h', X', e', W, st⟩ := putF X hx hZ hown w via eT F E (L.imp id fun q => ⟨q.1, q.2.1, hnm.trans q.2.2⟩) wi hty hna hfi (g := mkF m pc Ls (v :: .ref a :: S)) rfl rfl (hb hby hd)
  exact go_of st (K T' h' ⟨meth, c, _, X', e', Fr.snoc X' N hg, hx, hby, hml, hown, hnm, hret, hlk, hZ, hn⟩ W (F.same W))
theorem w_putfieldN (X : Sd l Z n0 y bytes maxL ret R p e s m args below T h cells slots) {i kk : Nat} {R0 O n d C : String} {ty : FieldType} {a : Addr} {v v' old : Value} (hd : decode bytes pc = .ok (.putfield i, 3)) (w : (Jvm.Cond.fieldLink y.cls i R0 n d).before a0 Z = true) (via : Via Z R0 O n d) (F : Fld Z h a O n d old) (E : Exa Z h a C) (L : (Jvm.Cond.lays C O n d).before a0 Z = true ∨ ((Jvm.Cond.laysFinal C O n d).before a0 Z = true ∧ y.cls = O ∧ y.name = "<init>")) (wi : (Jvm.Cond.instantiable C kk).before a0 Z = true) (hty : parseFieldDescriptor d = some ty) (hna : narrow ty v = v') (hfi : fits ty v' = true) (hg : n0 ≤ a) (hp : pc' = pc + 3) (K : ∀ T' h', Sd l Z n0 y bytes maxL ret R p e s m args below T' h' cells slots → Wr h h' a (Jvm.RoadKit.slotOf Z O n d) v' → Fld Z h' a O n d v' → Go p e below G (T'.setTop (mkF m (pc') Ls S))) : Go p e below G (T.setTop (mkF m pc Ls (v :: .ref a :: S))) := by
  obtain ⟨meth, c, locs, X, eT, N, hx, hby, hml, hown, hnm, hret, hlk, hZ, hn⟩ := X; subst hp
  obtain ⟨T', h', X', e', W, st⟩ := putFN X hx hZ hown w via eT F E (L.imp id fun q => ⟨q.1, q.2.1, hnm.trans q.2.2⟩) wi hty hna hfi (g := mkF m pc Ls (v :: .ref a :: S)) rfl rfl (hb hby hd)
  exact go_of st (K T' h' ⟨meth, c, _, X', e', Fr.snoc X' N hg, hx, hby, hml, hown, hnm, hret, hlk, hZ, hn⟩ W (F.same W))
theorem w_new (X : Sd l Z n0 y bytes maxL ret R p e s m args below T h cells slots) {i n : Nat} {C : String} (hd : decode bytes pc = .ok (.new i, 3)) (w : (Jvm.Cond.classLink y.cls i C).before a0 Z = true) (wi : (Jvm.Cond.instantiable C n).before a0 Z = true) (wz : (Jvm.Cond.initialized C).before a0 Z = true) (hc : cells + 1 ≤ R.cells) (hl : slots + n ≤ R.slots) (hp : pc' = pc + 3)
    (K : ∀ T' h' b, b = h.size → n0 ≤ b → Sd l Z n0 y bytes maxL ret R p e s m args below T' h' (cells + 1) (slots + n) → Ext h h' → Exa Z h' b C → (∀ {O nm d : String} {ty : FieldType}, Laid Z a0 C O nm d → parseFieldDescriptor d = some ty → Fld Z h' b O nm d (defaultValue ty)) → Go p e below G (T'.setTop (mkF m (pc') Ls (.ref b :: S)))) : Go p e below G (T.setTop (mkF m pc Ls S)) := by
  have hsz := sd_size X
  obtain ⟨meth, c, locs, X, eT, N, hx, hby, hml, hown, hnm, hret, hlk, hZ, hn⟩ := X; subst hp
  obtain ⟨T', h', X', e', E', A', D', -, st⟩ := newO X hx hZ hown w wi wz eT (g := mkF m pc Ls S) rfl (hb hby hd) hc hl
  exact go_of st (K T' h' _ rfl hsz ⟨meth, c, _, X', e', N, hx, hby, hml, hown, hnm, hret, hlk, hZ, hn⟩ E' A' D')
/-- an array of n places, the i-th holding f i -/
def Ary (Z : State) (h : Heap) (a : Addr) (ty : FieldType) (n : Nat) (f : Nat → Value) : Prop := ∃ c : Cell, Arr Z h a c ty ∧ c.slots.size = n ∧ n < 2 ^ 31 ∧ ∀ i, i < n → c.slots[i]? = some (f i)
def upd (f : Nat → Value) (i : Nat) (v : Value) : Nat → Value := fun j => if j = i then v else f j
theorem upd_same (f : Nat → Value) (i : Nat) (v : Value) : upd f i v i = v := if_pos rfl
theorem upd_other (f : Nat → Value) {i j : Nat} (v : Value) (q : j ≠ i) : upd f i v j = f j := if_neg q
theorem Ary.lt {a : Addr} {ty : FieldType} {n : Nat} {f : Nat → Value} (A : Ary Z h a ty n f) : a < h.size := by obtain ⟨c, A, -⟩ := A; exact A.lt
theorem Ary.ext {h' : Heap} {a : Addr} {ty : FieldType} {n : Nat} {f : Nat → Value} (A : Ary Z h a ty n f) (E : Ext h h') : Ary Z h' a ty n f := by obtain ⟨c, A, r⟩ := A; exact ⟨c, A.ext E, r⟩
theorem Ary.keep {h' : Heap} {a : Addr} {ty : FieldType} {n : Nat} {f : Nat → Value} {ws : List Addr} (A : Ary Z h a ty n f) (K : Keep h h' ws) (q : a ∉ ws) : Ary Z h' a ty n f := by obtain ⟨c, A, r⟩ := A; exact ⟨c, ⟨K.2.1 a c A.1 q, A.2⟩, r⟩
theorem Ary.other {h' : Heap} {a b : Addr} {sl : Nat} {v : Value} {ty : FieldType} {n : Nat} {f : Nat → Value} (A : Ary Z h a ty n f) (W : Wr h h' b sl v) (q : a ≠ b) : Ary Z h' a ty n f := by obtain ⟨c, A, r⟩ := A; exact ⟨c, A.other W q, r⟩
theorem Ary.congr {a : Addr} {ty : FieldType} {n : Nat} {f g : Nat → Value} (A : Ary Z h a ty n f) (q : ∀ i, i < n → f i = g i) : Ary Z h a ty n g := by obtain ⟨c, A, r1, r2, r3⟩ := A; exact ⟨c, A, r1, r2, fun i hi => by rw [r3 i hi, q i hi]⟩
theorem Ary.set {h' : Heap} {a : Addr} {ty : FieldType} {n i : Nat} {v : Value} {f : Nat → Value} (A : Ary Z h a ty n f) (W : Wr h h' a i v) (hi : i < n) : Ary Z h' a ty n (upd f i v) := by
  obtain ⟨c, A, rfl, r2, r3⟩ := A
  refine ⟨c.setSlot i v, A.same W, sz_set _ _ _, r2, fun j hj => ?_⟩
  by_cases q : j = i
  · subst q; simp [Cell.setSlot, hj, upd]
  · rw [upd_other f v q, ← r3 j hj]; exact Array.getElem?_setIfInBounds_ne (Ne.symm q)
theorem nat_at {j : Int32} {i : Nat} (hj : j.toInt = (i : Int)) : j.toNatClampNeg = i ∧ ¬ j < 0 := by
  constructor
  · simp only [Int32.toNatClampNeg, hj]; omega
  · simp only [Int32.lt_iff_toInt_lt, Int32.reduceToInt, hj]; omega
theorem in_at {j : Int32} {i n : Nat} {c : Cell} (hj : j.toInt = (i : Int)) (hn : c.slots.size = n) (hi : i < n) : ¬ (j < 0 ∨ c.slots.size ≤ j.toNatClampNeg) := by
  obtain ⟨q1, q2⟩ := nat_at hj
  rw [q1]; rintro (q | q)
  · exact q2 q
  · omega
theorem w_arraylength (X : Sd l Z n0 y bytes maxL ret R p e s m args below T h cells slots) {a : Addr} {ty : FieldType} {n : Nat} {f : Nat → Value} (z : Int32) (hd : decode bytes pc = .ok (.arraylength, 1)) (A : Ary Z h a ty n f) (hz : z.toInt = (n : Int)) (hp : pc' = pc + 1) (K : Go p e below G (T.setTop (mkF m pc' Ls (.int z :: S)))) : Go p e below G (T.setTop (mkF m pc Ls (.ref a :: S))) := by
  obtain ⟨meth, c, locs, X, eT, N, hx, hby, hml, hown, hnm, hret, hlk, hZ, hn⟩ := X; subst hp
  obtain ⟨cl, A, r1, r2, -⟩ := A
  have ez : cl.slots.size.toInt32 = z := Int32.toInt_inj.mp (by rw [r1, len_toInt r2, hz])
  exact go_of (fun t k => X.arraylength hx (by rw [eT]; exact A.1) (State.isArrayOf_alike hZ.alike A.2.1) (g := mkF m pc Ls (.ref a :: S)) rfl rfl (hb hby hd) t (by rw [ez]; exact k)) K
theorem w_iaload (X : Sd l Z n0 y bytes maxL ret R p e s m args below T h cells slots) {a : Addr} {n : Nat} {f : Nat → Value} {j : Int32} (i : Nat) {v : Value} (hd : decode bytes pc = .ok (.iaload, 1)) (A : Ary Z h a .int n f) (hj : j.toInt = (i : Int)) (hi : i < n) (hv : f i = v) (hp : pc' = pc + 1) (K : Go p e below G (T.setTop (mkF m pc' Ls (v :: S)))) : Go p e below G (T.setTop (mkF m pc Ls (.int j :: .ref a :: S))) := by
  obtain ⟨meth, c, locs, X, eT, N, hx, hby, hml, hown, hnm, hret, hlk, hZ, hn⟩ := X; subst hp
  obtain ⟨cl, A, r1, r2, r3⟩ := A
  exact go_of (fun t k => X.iaload hx (j := j) (v := v) (by rw [eT]; exact A.1) (State.isArrayOf_alike hZ.alike A.2.1) A.2.2 (in_at hj r1 hi) (by rw [(nat_at hj).1, r3 i hi, hv]) (g := mkF m pc Ls (.int j :: .ref a :: S)) rfl rfl (hb hby hd) t k) K
theorem w_laload (X : Sd l Z n0 y bytes maxL ret R p e s m args below T h cells slots) {a : Addr} {n : Nat} {f : Nat → Value} {j : Int32} (i : Nat) {v : Value} (hd : decode bytes pc = .ok (.laload, 1)) (A : Ary Z h a .long n f) (hj : j.toInt = (i : Int)) (hi : i < n) (hv : f i = v) (hp : pc' = pc + 1) (K : Go p e below G (T.setTop (mkF m pc' Ls (v :: S)))) : Go p e below G (T.setTop (mkF m pc Ls (.int j :: .ref a :: S))) := by
  obtain ⟨meth, c, locs, X, eT, N, hx, hby, hml, hown, hnm, hret, hlk, hZ, hn⟩ := X; subst hp
  obtain ⟨cl, A, r1, r2, r3⟩ := A
  exact go_of (fun t k => X.laload hx (j := j) (v := v) (by rw [eT]; exact A.1) (State.isArrayOf_alike hZ.alike A.2.1) A.2.2 (in_at hj r1 hi) (by rw [(nat_at hj).1, r3 i hi, hv]) (g := mkF m pc Ls (.int j :: .ref a :: S)) rfl rfl (hb hby hd) t k) K
theorem w_caload (X : Sd l Z n0 y bytes maxL ret R p e s m args below T h cells slots) {a : Addr} {n : Nat} {f : Nat → Value} {j : Int32} (i : Nat) {v : Value} (hd : decode bytes pc = .ok (.caload, 1)) (A : Ary Z h a .char n f) (hj : j.toInt = (i : Int)) (hi : i < n) (hv : f i = v) (hp : pc' = pc + 1) (K : Go p e below G (T.setTop (mkF m pc' Ls (v :: S)))) : Go p e below G (T.setTop (mkF m pc Ls (.int j :: .ref a :: S))) := by
  obtain ⟨meth, c, locs, X, eT, N, hx, hby, hml, hown, hnm, hret, hlk, hZ, hn⟩ := X; subst hp
  obtain ⟨cl, A, r1, r2, r3⟩ := A
  exact go_of (fun t k => X.caload hx (j := j) (v := v) (by rw [eT]; exact A.1) (State.isArrayOf_alike hZ.alike A.2.1) A.2.2 (in_at hj r1 hi) (by rw [(nat_at hj).1, r3 i hi, hv]) (g := mkF m pc Ls (.int j :: .ref a :: S)) rfl rfl (hb hby hd) t k) K
theorem w_baload (X : Sd l Z n0 y bytes maxL ret R p e s m args below T h cells slots) {a : Addr} {n : Nat} {f : Nat → Value} {j : Int32} (i : Nat) {v : Value} (hd : decode bytes pc = .ok (.baload, 1)) (A : Ary Z h a .byte n f) (hj : j.toInt = (i : Int)) (hi : i < n) (hv : f i = v) (hp : pc' = pc + 1) (K : Go p e below G (T.setTop (mkF m pc' Ls (v :: S)))) : Go p e below G (T.setTop (mkF m pc Ls (.int j :: .ref a :: S))) := by
  obtain ⟨meth, c, locs, X, eT, N, hx, hby, hml, hown, hnm, hret, hlk, hZ, hn⟩ := X; subst hp
  obtain ⟨cl, A, r1, r2, r3⟩ := A
  exact go_of (fun t k => X.baloadBytes hx (j := j) (v := v) (by rw [eT]; exact A.1) (State.isArrayOf_alike hZ.alike A.2.1) A.2.2 (in_at hj r1 hi) (by rw [(nat_at hj).1, r3 i hi, hv]) (g := mkF m pc Ls (.int j :: .ref a :: S)) rfl rfl (hb hby hd) t k) K
theorem w_zaload (X : Sd l Z n0 y bytes maxL ret R p e s m args below T h cells slots) {a : Addr} {n : Nat} {f : Nat → Value} {j : Int32} (i : Nat) {v : Value} (hd : decode bytes pc = .ok (.baload, 1)) (A : Ary Z h a .boolean n f) (hj : j.toInt = (i : Int)) (hi : i < n) (hv : f i = v) (hp : pc' = pc + 1) (K : Go p e below G (T.setTop (mkF m pc' Ls (v :: S)))) : Go p e below G (T.setTop (mkF m pc Ls (.int j :: .ref a :: S))) := by
  obtain ⟨meth, c, locs, X, eT, N, hx, hby, hml, hown, hnm, hret, hlk, hZ, hn⟩ := X; subst hp
  obtain ⟨cl, A, r1, r2, r3⟩ := A
  exact go_of (fun t k => X.baloadBooleans hx (j := j) (v := v) (by rw [eT]; exact A.1) (State.isArrayOf_alike hZ.alike A.2.1) A.2.2 (in_at hj r1 hi) (by rw [(nat_at hj).1, r3 i hi, hv]) (g := mkF m pc Ls (.int j :: .ref a :: S)) rfl rfl (hb hby hd) t k) K
theorem w_aaload (X : Sd l Z n0 y bytes maxL ret R p e s m args below T h cells slots) {a : Addr} {ty : FieldType} {n : Nat} {f : Nat → Value} {j : Int32} (i : Nat) {v : Value} (hd : decode bytes pc = .ok (.aaload, 1)) (A : Ary Z h a ty n f) (hty : ty.isReference = true) (hj : j.toInt = (i : Int)) (hi : i < n) (hv : f i = v) (hp : pc' = pc + 1) (K : Go p e below G (T.setTop (mkF m pc' Ls (v :: S)))) : Go p e below G (T.setTop (mkF m pc Ls (.int j :: .ref a :: S))) := by
  obtain ⟨meth, c, locs, X, eT, N, hx, hby, hml, hown, hnm, hret, hlk, hZ, hn⟩ := X; subst hp
  obtain ⟨cl, A, r1, r2, r3⟩ := A
  exact go_of (fun t k => X.aaload hx (j := j) (v := v) (by rw [eT]; exact A.1) (State.isArrayOf_alike hZ.alike A.2.1) hty A.2.2 (in_at hj r1 hi) (by rw [(nat_at hj).1, r3 i hi, hv]) (g := mkF m pc Ls (.int j :: .ref a :: S)) rfl rfl (hb hby hd) t k) K
theorem w_iastore (X : Sd l Z n0 y bytes maxL ret R p e s m args below T h cells slots) {a : Addr} {n : Nat} {f : Nat → Value} {j : Int32} (i : Nat) {v : Int32} (hd : decode bytes pc = .ok (.iastore, 1)) (A : Ary Z h a .int n f) (hj : j.toInt = (i : Int)) (hi : i < n) (hg : n0 ≤ a) (hp : pc' = pc + 1) (K : ∀ T' h', Sd l Z n0 y bytes maxL ret R p e s m args below T' h' cells slots → Wr h h' a i (.int v) → Ary Z h' a .int n (upd f i (.int v)) → Go p e below G (T'.setTop (mkF m (pc') Ls S))) : Go p e below G (T.setTop (mkF m pc Ls (.int v :: .int j :: .ref a :: S))) := by
  obtain ⟨meth, c, locs, X, eT, N, hx, hby, hml, hown, hnm, hret, hlk, hZ, hn⟩ := X; subst hp
  have A0 := A
  obtain ⟨cl, A, r1, r2, r3⟩ := A
  obtain ⟨T', h', X', e', W, st⟩ := stI X hx hZ eT A (j := j) (in_at hj r1 hi) (g := mkF m pc Ls (.int v :: .int j :: .ref a :: S)) rfl rfl (hb hby hd)
  rw [(nat_at hj).1] at W X'
  exact go_of st (K T' h' ⟨meth, c, _, X', e', Fr.snoc X' N hg, hx, hby, hml, hown, hnm, hret, hlk, hZ, hn⟩ W (A0.set W hi))
theorem w_lastore (X : Sd l Z n0 y bytes maxL ret R p e s m args below T h cells slots) {a : Addr} {n : Nat} {f : Nat → Value} {j : Int32} (i : Nat) {v : Int64} (hd : decode bytes pc = .ok (.lastore, 1)) (A : Ary Z h a .long n f) (hj : j.toInt = (i : Int)) (hi : i < n) (hg : n0 ≤ a) (hp : pc' = pc + 1) (K : ∀ T' h', Sd l Z n0 y bytes maxL ret R p e s m args below T' h' cells slots → Wr h h' a i (.long v) → Ary Z h' a .long n (upd f i (.long v)) → Go p e below G (T'.setTop (mkF m (pc') Ls S))) : Go p e below G (T.setTop (mkF m pc Ls (.long v :: .int j :: .ref a :: S))) := by
  obtain ⟨meth, c, locs, X, eT, N, hx, hby, hml, hown, hnm, hret, hlk, hZ, hn⟩ := X; subst hp
  have A0 := A
  obtain ⟨cl, A, r1, r2, r3⟩ := A
  obtain ⟨T', h', X', e', W, st⟩ := stJ X hx hZ eT A (j := j) (in_at hj r1 hi) (g := mkF m pc Ls (.long v :: .int j :: .ref a :: S)) rfl rfl (hb hby hd)
  rw [(nat_at hj).1] at W X'
  exact go_of st (K T' h' ⟨meth, c, _, X', e', Fr.snoc X' N hg, hx, hby, hml, hown, hnm, hret, hlk, hZ, hn⟩ W (A0.set W hi))
theorem w_castore (X : Sd l Z n0 y bytes maxL ret R p e s m args below T h cells slots) {a : Addr} {n : Nat} {f : Nat → Value} {j : Int32} (i : Nat) {v : Int32} (hd : decode bytes pc = .ok (.castore, 1)) (A : Ary Z h a .char n f) (hj : j.toInt = (i : Int)) (hi : i < n) (hg : n0 ≤ a) (hp : pc' = pc + 1) (K : ∀ T' h', Sd l Z n0 y bytes maxL ret R p e s m args below T' h' cells slots → Wr h h' a i (.int (nar .char v)) → Ary Z h' a .char n (upd f i (.int (nar .char v))) → Go p e below G (T'.setTop (mkF m (pc') Ls S))) : Go p e below G (T.setTop (mkF m pc Ls (.int v :: .int j :: .ref a :: S))) := by
  obtain ⟨meth, c, locs, X, eT, N, hx, hby, hml, hown, hnm, hret, hlk, hZ, hn⟩ := X; subst hp
  have A0 := A
  obtain ⟨cl, A, r1, r2, r3⟩ := A
  obtain ⟨T', h', X', e', W, st⟩ := stC X hx hZ eT A (j := j) (in_at hj r1 hi) (g := mkF m pc Ls (.int v :: .int j :: .ref a :: S)) rfl rfl (hb hby hd)
  rw [(nat_at hj).1] at W X'
  exact go_of st (K T' h' ⟨meth, c, _, X', e', Fr.snoc X' N hg, hx, hby, hml, hown, hnm, hret, hlk, hZ, hn⟩ W (A0.set W hi))
theorem w_bastore (X : Sd l Z n0 y bytes maxL ret R p e s m args below T h cells slots) {a : Addr} {n : Nat} {f : Nat → Value} {j : Int32} (i : Nat) {v : Int32} (hd : decode bytes pc = .ok (.bastore, 1)) (A : Ary Z h a .byte n f) (hj : j.toInt = (i : Int)) (hi : i < n) (hg : n0 ≤ a) (hp : pc' = pc + 1) (K : ∀ T' h', Sd l Z n0 y bytes maxL ret R p e s m args below T' h' cells slots → Wr h h' a i (.int (nar .byte v)) → Ary Z h' a .byte n (upd f i (.int (nar .byte v))) → Go p e below G (T'.setTop (mkF m (pc') Ls S))) : Go p e below G (T.setTop (mkF m pc Ls (.int v :: .int j :: .ref a :: S))) := by
  obtain ⟨meth, c, locs, X, eT, N, hx, hby, hml, hown, hnm, hret, hlk, hZ, hn⟩ := X; subst hp
  have A0 := A
  obtain ⟨cl, A, r1, r2, r3⟩ := A
  obtain ⟨T', h', X', e', W, st⟩ := stB X hx hZ eT A (j := j) (in_at hj r1 hi) (g := mkF m pc Ls (.int v :: .int j :: .ref a :: S)) rfl rfl (hb hby hd)
  rw [(nat_at hj).1] at W X'
  exact go_of st (K T' h' ⟨meth, c, _, X', e', Fr.snoc X' N hg, hx, hby, hml, hown, hnm, hret, hlk, hZ, hn⟩ W (A0.set W hi))
theorem w_zastore (X : Sd l Z n0 y bytes maxL ret R p e s m args below T h cells slots) {a : Addr} {n : Nat} {f : Nat → Value} {j : Int32} (i : Nat) {v : Int32} (hd : decode bytes pc = .ok (.bastore, 1)) (A : Ary Z h a .boolean n f) (hj : j.toInt = (i : Int)) (hi : i < n) (hg : n0 ≤ a) (hp : pc' = pc + 1) (K : ∀ T' h', Sd l Z n0 y bytes maxL ret R p e s m args below T' h' cells slots → Wr h h' a i (.int (nar .boolean v)) → Ary Z h' a .boolean n (upd f i (.int (nar .boolean v))) → Go p e below G (T'.setTop (mkF m (pc') Ls S))) : Go p e below G (T.setTop (mkF m pc Ls (.int v :: .int j :: .ref a :: S))) := by
  obtain ⟨meth, c, locs, X, eT, N, hx, hby, hml, hown, hnm, hret, hlk, hZ, hn⟩ := X; subst hp
  have A0 := A
  obtain ⟨cl, A, r1, r2, r3⟩ := A
  obtain ⟨T', h', X', e', W, st⟩ := stZ X hx hZ eT A (j := j) (in_at hj r1 hi) (g := mkF m pc Ls (.int v :: .int j :: .ref a :: S)) rfl rfl (hb hby hd)
  rw [(nat_at hj).1] at W X'
  exact go_of st (K T' h' ⟨meth, c, _, X', e', Fr.snoc X' N hg, hx, hby, hml, hown, hnm, hret, hlk, hZ, hn⟩ W (A0.set W hi))
theorem w_aastore (X : Sd l Z n0 y bytes maxL ret R p e s m args below T h cells slots) {a : Addr} {ty : FieldType} {n : Nat} {f : Nat → Value} {j : Int32} (i : Nat) {v : Value} (hd : decode bytes pc = .ok (.aastore, 1)) (A : Ary Z h a ty n f) (hty : ty.isReference = true) (F : Sto Z h a v) (hj : j.toInt = (i : Int)) (hi : i < n) (hg : n0 ≤ a) (hp : pc' = pc + 1) (K : ∀ T' h', Sd l Z n0 y bytes maxL ret R p e s m args below T' h' cells slots → Wr h h' a i v → Ary Z h' a ty n (upd f i v) → Go p e below G (T'.setTop (mkF m (pc') Ls S))) : Go p e below G (T.setTop (mkF m pc Ls (v :: .int j :: .ref a :: S))) := by
  obtain ⟨meth, c, locs, X, eT, N, hx, hby, hml, hown, hnm, hret, hlk, hZ, hn⟩ := X; subst hp
  have A0 := A
  obtain ⟨cl, A, r1, r2, r3⟩ := A
  obtain ⟨T', h', X', e', W, st⟩ := stR X hx hZ eT A (j := j) (in_at hj r1 hi) hty F (g := mkF m pc Ls (v :: .int j :: .ref a :: S)) rfl rfl (hb hby hd)
  rw [(nat_at hj).1] at W X'
  exact go_of st (K T' h' ⟨meth, c, _, X', e', Fr.snoc X' N hg, hx, hby, hml, hown, hnm, hret, hlk, hZ, hn⟩ W (A0.set W hi))
theorem w_newarray (X : Sd l Z n0 y bytes maxL ret R p e s m args below T h cells slots) {aty : ArrayType} {z : Int32} (n cap : Nat) (hd : decode bytes pc = .ok (.newarray aty, 2)) (w : (Jvm.Cond.arrayClass (newarray.typeOf aty)).before a0 Z = true) (hz : z.toInt = (n : Int)) (hcap : n ≤ cap) (hb8 : cap * 8 ≤ 536870912) (hc : cells + 1 ≤ R.cells) (hl : slots + cap ≤ R.slots) (hp : pc' = pc + 2)
    (K : ∀ T' h' b, b = h.size → n0 ≤ b → Sd l Z n0 y bytes maxL ret R p e s m args below T' h' (cells + 1) (slots + cap) → Ext h h' → Ary Z h' b (newarray.typeOf aty) n (fun _ => defaultValue (newarray.typeOf aty)) → Go p e below G (T'.setTop (mkF m (pc') Ls (.ref b :: S)))) : Go p e below G (T.setTop (mkF m pc Ls (.int z :: S))) := by
  have hsz := sd_size X
  obtain ⟨meth, c, locs, X, eT, N, hx, hby, hml, hown, hnm, hret, hlk, hZ, hn⟩ := X; subst hp
  obtain ⟨q1, q2⟩ := nat_at hz
  obtain ⟨T', h', cA, X', e', E', A', st⟩ := newP X hx hZ w eT (g := mkF m pc Ls (.int z :: S)) rfl (hb hby hd) rfl q2 (cap := cap) (by rw [q1]; exact hcap) hb8 hc hl
  refine go_of st (K T' h' _ rfl hsz ⟨meth, c, _, X', e', N, hx, hby, hml, hown, hnm, hret, hlk, hZ, hn⟩ E' ⟨_, A', (sz_new _ _ _).trans q1, by rw [← q1]; exact (back32 q2).2, fun i hi => ?_⟩)
  simp [newA, q1, hi]
theorem w_anewarray (X : Sd l Z n0 y bytes maxL ret R p e s m args below T h cells slots) {i : Nat} {C : String} {z : Int32} (n cap : Nat) (hd : decode bytes pc = .ok (.anewarray i, 3)) (w1 : (Jvm.Cond.classLink y.cls i C).before a0 Z = true) (w2 : (Jvm.Cond.arrayOver (.object C)).before a0 Z = true) (hz : z.toInt = (n : Int)) (hcap : n ≤ cap) (hb8 : cap * 8 ≤ 536870912) (hc : cells + 1 ≤ R.cells) (hl : slots + cap ≤ R.slots) (hp : pc' = pc + 3)
    (K : ∀ T' h' b, b = h.size → n0 ≤ b → Sd l Z n0 y bytes maxL ret R p e s m args below T' h' (cells + 1) (slots + cap) → Ext h h' → (∃ cl, Arr Z h' b cl (.object C) ∧ Ovr Z cl.cls C) → Ary Z h' b (.object C) n (fun _ => .null) → Go p e below G (T'.setTop (mkF m (pc') Ls (.ref b :: S)))) : Go p e below G (T.setTop (mkF m pc Ls (.int z :: S))) := by
  have hsz := sd_size X
  obtain ⟨meth, c, locs, X, eT, N, hx, hby, hml, hown, hnm, hret, hlk, hZ, hn⟩ := X; subst hp
  obtain ⟨q1, q2⟩ := nat_at hz
  obtain ⟨T', h', cA, X', e', E', A', O', st⟩ := newR X hx hZ hown w1 w2 eT (g := mkF m pc Ls (.int z :: S)) rfl (hb hby hd) rfl q2 (cap := cap) (by rw [q1]; exact hcap) hb8 hc hl
  refine go_of st (K T' h' _ rfl hsz ⟨meth, c, _, X', e', N, hx, hby, hml, hown, hnm, hret, hlk, hZ, hn⟩ E' ⟨_, A', O'⟩ ⟨_, A', (sz_new _ _ _).trans q1, by rw [← q1]; exact (back32 q2).2, fun i hi => ?_⟩)
  simp [newA, q1, hi, defaultValue]
theorem w_join {p : Program} {e : Env} {below : List Frame} {G : State → Prop} {t : State} {α : Type} (P : α → Prop) (st : α → State) (J : ∀ x, P x → Go p e below G (st x)) (K : (∀ x, P x → Go p e below G (st x)) → Go p e below G t) : Go p e below G t := K J
theorem w_staticV (X : Sd l Z n0 y bytes maxL ret R p e s m args below T h cells slots) {i : Nat} {y' : MethodName} {bytes' : ByteArray} {maxL' : Nat} {ret' : Option FieldType} {rm : Room} {as' : Array Value} {Q : Value → Heap → Prop} (hd : decode bytes pc = .ok (.invokestatic i, 3)) (hM : Con l Z n0 y' bytes' maxL' ret' rm as' h (Val Q)) (w1 : (Jvm.Cond.methodLink y.cls i y').before a0 Z = true) (w2 : (Jvm.Cond.static y').before a0 Z = true) (w3 : (Jvm.Cond.initialized y'.cls).before a0 Z = true) (w4 : (Jvm.Cond.code y' bytes' maxL' ret').before a0 Z = true) (hy : y'.cls ≠ "java/lang/invoke/MethodHandle" ∧ y'.cls ≠ "java/lang/invoke/VarHandle") (argsL rest : List Value) {ps : List FieldType} {r' : Option FieldType} (hlen : parseMethodDescriptor y'.desc = some ⟨ps, r'⟩) (hl : argsL.length = ps.length) (has : argsL.toArray = as') (hst : S = argsL.reverse ++ rest) (hsz : Ls.size = maxL) (W : Nat) (hW : (rest.map fun v => v.category).sum ≤ W) (hf : rm.frames + 1 ≤ R.frames) (hlo : W + (maxL' + 11) + rm.locals ≤ R.locals) (hc : cells + rm.cells ≤ R.cells) (hs : slots + rm.slots ≤ R.slots) (hp : pc' = pc + 3)
    (K : ∀ T' h' v, Sd l Z n0 y bytes maxL ret R p e s m args below T' h' (cells + rm.cells) (slots + rm.slots) → Q v h' → Go p e below G (T'.setTop (mkF m (pc') Ls (v :: rest)))) : Go p e below G (T.setTop (mkF m pc Ls S)) := by
  obtain ⟨meth, c, locs, X, eT, N, hx, hby, hml, hown, hnm, hret, hlk, hZ, hn⟩ := X; subst hp hst has
  obtain ⟨v, _, ⟨T', L', k', n'⟩, -, X', ⟨Lc, ⟨N', hQ⟩, lq, yq, zq⟩, st⟩ := Jvm.LawKit.callS X hx (y := y') hown (mvT hZ w1) (mvT hZ w2) (mvT hZ w3) (mvT hZ w4) hy (backOf (W := W) (Q := fun v h L => Fr n0 L ∧ Val Q v h) (hM []) hZ w4 w3 hf hlo) (g := mkF m pc Ls (argsL.reverse ++ rest)) rfl (by rw [hml]; exact hsz) (argsL := argsL) (rest := rest) (lenOf hlen hl) rfl (by show 2 * 0 + _ ≤ _; omega) (hb hby hd) (fun _ _ => ⟨rfl, eT, hc, hs⟩)
  dsimp only [Pt.U, Pt.locs, Pt.cells, Pt.slots] at X' lq yq zq st hQ
  subst lq yq zq
  obtain ⟨v, rfl, hQ⟩ := hQ
  exact go_of st (K T' _ v ⟨meth, c, _, X', rfl, Fr.app N N', hx, hby, hml, hown, hnm, hret, hlk, hZ, hn⟩ hQ)
theorem w_staticN (X : Sd l Z n0 y bytes maxL ret R p e s m args below T h cells slots) {i : Nat} {y' : MethodName} {bytes' : ByteArray} {maxL' : Nat} {ret' : Option FieldType} {rm : Room} {as' : Array Value} {Q : Heap → Prop} (hd : decode bytes pc = .ok (.invokestatic i, 3)) (hM : Con l Z n0 y' bytes' maxL' ret' rm as' h (Non Q)) (w1 : (Jvm.Cond.methodLink y.cls i y').before a0 Z = true) (w2 : (Jvm.Cond.static y').before a0 Z = true) (w3 : (Jvm.Cond.initialized y'.cls).before a0 Z = true) (w4 : (Jvm.Cond.code y' bytes' maxL' ret').before a0 Z = true) (hy : y'.cls ≠ "java/lang/invoke/MethodHandle" ∧ y'.cls ≠ "java/lang/invoke/VarHandle") (argsL rest : List Value) {ps : List FieldType} {r' : Option FieldType} (hlen : parseMethodDescriptor y'.desc = some ⟨ps, r'⟩) (hl : argsL.length = ps.length) (has : argsL.toArray = as') (hst : S = argsL.reverse ++ rest) (hsz : Ls.size = maxL) (W : Nat) (hW : (rest.map fun v => v.category).sum ≤ W) (hf : rm.frames + 1 ≤ R.frames) (hlo : W + (maxL' + 11) + rm.locals ≤ R.locals) (hc : cells + rm.cells ≤ R.cells) (hs : slots + rm.slots ≤ R.slots) (hp : pc' = pc + 3)
    (K : ∀ T' h', Sd l Z n0 y bytes maxL ret R p e s m args below T' h' (cells + rm.cells) (slots + rm.slots) → Q h' → Go p e below G (T'.setTop (mkF m (pc') Ls rest))) : Go p e below G (T.setTop (mkF m pc Ls S)) := by
  obtain ⟨meth, c, locs, X, eT, N, hx, hby, hml, hown, hnm, hret, hlk, hZ, hn⟩ := X; subst hp hst has
  obtain ⟨v, _, ⟨T', L', k', n'⟩, -, X', ⟨Lc, ⟨N', hQ⟩, lq, yq, zq⟩, st⟩ := Jvm.LawKit.callS X hx (y := y') hown (mvT hZ w1) (mvT hZ w2) (mvT hZ w3) (mvT hZ w4) hy (backOf (W := W) (Q := fun v h L => Fr n0 L ∧ Non Q v h) (hM []) hZ w4 w3 hf hlo) (g := mkF m pc Ls (argsL.reverse ++ rest)) rfl (by rw [hml]; exact hsz) (argsL := argsL) (rest := rest) (lenOf hlen hl) rfl (by show 2 * 0 + _ ≤ _; omega) (hb hby hd) (fun _ _ => ⟨rfl, eT, hc, hs⟩)
  dsimp only [Pt.U, Pt.locs, Pt.cells, Pt.slots] at X' lq yq zq st hQ
  subst lq yq zq
  obtain ⟨rfl, hQ⟩ := hQ
  exact go_of st (K T' _ ⟨meth, c, _, X', rfl, Fr.app N N', hx, hby, hml, hown, hnm, hret, hlk, hZ, hn⟩ hQ)
theorem w_specialN (X : Sd l Z n0 y bytes maxL ret R p e s m args below T h cells slots) {i : Nat} {y' : MethodName} {bytes' : ByteArray} {maxL' : Nat} {rm : Room} {as' : Array Value} {Q : Heap → Prop} {a : Addr} (hd : decode bytes pc = .ok (.invokespecial i, 3)) (hM : Con l Z n0 y' bytes' maxL' none rm as' h (Non Q)) (w1 : (Jvm.Cond.methodLink y.cls i y').before a0 Z = true) (w2 : (Jvm.Cond.instanceMethod y').before a0 Z = true) (w3 : (Jvm.Cond.initialized y'.cls).before a0 Z = true) (w4 : (Jvm.Cond.code y' bytes' maxL' none).before a0 Z = true) (hin : y'.name = "<init>") (hy : y'.cls ≠ "java/lang/invoke/MethodHandle" ∧ y'.cls ≠ "java/lang/invoke/VarHandle") (argsL rest : List Value) {ps : List FieldType} {r' : Option FieldType} (hlen : parseMethodDescriptor y'.desc = some ⟨ps, r'⟩) (hl : argsL.length = ps.length) (has : (.ref a :: argsL).toArray = as') (hst : S = argsL.reverse ++ .ref a :: rest) (hsz : Ls.size = maxL) (W : Nat) (hW : (rest.map fun v => v.category).sum ≤ W) (hf : rm.frames + 1 ≤ R.frames) (hlo : W + (maxL' + 11) + rm.locals ≤ R.locals) (hc : cells + rm.cells ≤ R.cells) (hs : slots + rm.slots ≤ R.slots) (hp : pc' = pc + 3)
    (K : ∀ T' h', Sd l Z n0 y bytes maxL ret R p e s m args below T' h' (cells + rm.cells) (slots + rm.slots) → Q h' → Go p e below G (T'.setTop (mkF m (pc') Ls rest))) : Go p e below G (T.setTop (mkF m pc Ls S)) := by
  obtain ⟨meth, c, locs, X, eT, N, hx, hby, hml, hown, hnm, hret, hlk, hZ, hn⟩ := X; subst hp hst has
  obtain ⟨v, _, ⟨T', L', k', n'⟩, -, X', ⟨Lc, ⟨N', hQ⟩, lq, yq, zq⟩, st⟩ := X.specialBack hx (y := y') hin hown (mvT hZ w1) (mvT hZ w2) (mvT hZ w4) hy (backOf (W := W) (Q := fun v h L => Fr n0 L ∧ Non Q v h) (hM []) hZ w4 w3 hf hlo) (g := mkF m pc Ls (argsL.reverse ++ .ref a :: rest)) rfl (by rw [hml]; exact hsz) (Steps.refl _) (a := a) (argsL := argsL) (rest := rest) (lenOf hlen hl) rfl (by show 2 * 0 + _ ≤ _; omega) (hb hby hd) (fun _ _ => ⟨rfl, eT, hc, hs⟩)
  dsimp only [Pt.U, Pt.locs, Pt.cells, Pt.slots] at X' lq yq zq st hQ
  subst lq yq zq
  obtain ⟨rfl, hQ⟩ := hQ
  exact go_of (fun _ k => st.trans k) (K T' _ ⟨meth, c, _, X', rfl, Fr.app N N', hx, hby, hml, hown, hnm, hret, hlk, hZ, hn⟩ hQ)
theorem w_virtualV (X : Sd l Z n0 y bytes maxL ret R p e s m args below T h cells slots) {i : Nat} {y' : MethodName} {bytes' : ByteArray} {maxL' : Nat} {ret' : Option FieldType} {rm : Room} {as' : Array Value} {Q : Value → Heap → Prop} {a : Addr} {C : String} (hd : decode bytes pc = .ok (.invokevirtual i, 3)) (hM : Con l Z n0 y' bytes' maxL' ret' rm as' h (Val Q)) (w1 : (Jvm.Cond.methodLink y.cls i y').before a0 Z = true) (w2 : (Jvm.Cond.declares y').before a0 Z = true) (w5 : (Jvm.Cond.selects C y' y').before a0 Z = true) (w6 : (Jvm.Cond.instanceMethod y').before a0 Z = true) (w3 : (Jvm.Cond.initialized y'.cls).before a0 Z = true) (w4 : (Jvm.Cond.code y' bytes' maxL' ret').before a0 Z = true) (Er : Exa Z h a C) (hy : y'.cls ≠ "java/lang/invoke/MethodHandle" ∧ y'.cls ≠ "java/lang/invoke/VarHandle") (argsL rest : List Value) {ps : List FieldType} {r' : Option FieldType} (hlen : parseMethodDescriptor y'.desc = some ⟨ps, r'⟩) (hl : argsL.length = ps.length) (has : (.ref a :: argsL).toArray = as') (hst : S = argsL.reverse ++ .ref a :: rest) (hsz : Ls.size = maxL) (W : Nat) (hW : (rest.map fun v => v.category).sum ≤ W) (hf : rm.frames + 1 ≤ R.frames) (hlo : W + (maxL' + 11) + rm.locals ≤ R.locals) (hc : cells + rm.cells ≤ R.cells) (hs : slots + rm.slots ≤ R.slots) (hp : pc' = pc + 3)
    (K : ∀ T' h' v, Sd l Z n0 y bytes maxL ret R p e s m args below T' h' (cells + rm.cells) (slots + rm.slots) → Q v h' → Go p e below G (T'.setTop (mkF m (pc') Ls (v :: rest)))) : Go p e below G (T.setTop (mkF m pc Ls S)) := by
  obtain ⟨meth, c, locs, X, eT, N, hx, hby, hml, hown, hnm, hret, hlk, hZ, hn⟩ := X; subst hp hst has
  obtain ⟨cq, kq, qa, qb, qc⟩ := isOf hZ eT Er
  obtain ⟨v, _, ⟨T', L', k', n'⟩, -, X', ⟨Lc, ⟨N', hQ⟩, lq, yq, zq⟩, st⟩ := X.virtualBack hx (y := y') (z := y') hown (mvT hZ w1) (mvT hZ w2) (notFace_of_selects (args := #[]) (mvT hZ w5)) (mvT hZ w5) (mvT hZ w6) hy (backOf (W := W) (Q := fun v h L => Fr n0 L ∧ Val Q v h) (hM []) hZ w4 w3 hf hlo) qa qc (g := mkF m pc Ls (argsL.reverse ++ .ref a :: rest)) rfl (by rw [hml]; exact hsz) (Steps.refl _) (argsL := argsL) (rest := rest) (lenOf hlen hl) rfl (by show 2 * 0 + _ ≤ _; omega) (hb hby hd) (fun _ _ => ⟨rfl, eT, hc, hs⟩)
  dsimp only [Pt.U, Pt.locs, Pt.cells, Pt.slots] at X' lq yq zq st hQ
  subst lq yq zq
  obtain ⟨v, rfl, hQ⟩ := hQ
  exact go_of (fun _ k => st.trans k) (K T' _ v ⟨meth, c, _, X', rfl, Fr.app N N', hx, hby, hml, hown, hnm, hret, hlk, hZ, hn⟩ hQ)
theorem w_virtualN (X : Sd l Z n0 y bytes maxL ret R p e s m args below T h cells slots) {i : Nat} {y' : MethodName} {bytes' : ByteArray} {maxL' : Nat} {ret' : Option FieldType} {rm : Room} {as' : Array Value} {Q : Heap → Prop} {a : Addr} {C : String} (hd : decode bytes pc = .ok (.invokevirtual i, 3)) (hM : Con l Z n0 y' bytes' maxL' ret' rm as' h (Non Q)) (w1 : (Jvm.Cond.methodLink y.cls i y').before a0 Z = true) (w2 : (Jvm.Cond.declares y').before a0 Z = true) (w5 : (Jvm.Cond.selects C y' y').before a0 Z = true) (w6 : (Jvm.Cond.instanceMethod y').before a0 Z = true) (w3 : (Jvm.Cond.initialized y'.cls).before a0 Z = true) (w4 : (Jvm.Cond.code y' bytes' maxL' ret').before a0 Z = true) (Er : Exa Z h a C) (hy : y'.cls ≠ "java/lang/invoke/MethodHandle" ∧ y'.cls ≠ "java/lang/invoke/VarHandle") (argsL rest : List Value) {ps : List FieldType} {r' : Option FieldType} (hlen : parseMethodDescriptor y'.desc = some ⟨ps, r'⟩) (hl : argsL.length = ps.length) (has : (.ref a :: argsL).toArray = as') (hst : S = argsL.reverse ++ .ref a :: rest) (hsz : Ls.size = maxL) (W : Nat) (hW : (rest.map fun v => v.category).sum ≤ W) (hf : rm.frames + 1 ≤ R.frames) (hlo : W + (maxL' + 11) + rm.locals ≤ R.locals) (hc : cells + rm.cells ≤ R.cells) (hs : slots + rm.slots ≤ R.slots) (hp : pc' = pc + 3)
    (K : ∀ T' h', Sd l Z n0 y bytes maxL ret R p e s m args below T' h' (cells + rm.cells) (slots + rm.slots) → Q h' → Go p e below G (T'.setTop (mkF m (pc') Ls rest))) : Go p e below G (T.setTop (mkF m pc Ls S)) := by
  obtain ⟨meth, c, locs, X, eT, N, hx, hby, hml, hown, hnm, hret, hlk, hZ, hn⟩ := X; subst hp hst has
  obtain ⟨cq, kq, qa, qb, qc⟩ := isOf hZ eT Er
  obtain ⟨v, _, ⟨T', L', k', n'⟩, -, X', ⟨Lc, ⟨N', hQ⟩, lq, yq, zq⟩, st⟩ := X.virtualBack hx (y := y') (z := y') hown (mvT hZ w1) (mvT hZ w2) (notFace_of_selects (args := #[]) (mvT hZ w5)) (mvT hZ w5) (mvT hZ w6) hy (backOf (W := W) (Q := fun v h L => Fr n0 L ∧ Non Q v h) (hM []) hZ w4 w3 hf hlo) qa qc (g := mkF m pc Ls (argsL.reverse ++ .ref a :: rest)) rfl (by rw [hml]; exact hsz) (Steps.refl _) (argsL := argsL) (rest := rest) (lenOf hlen hl) rfl (by show 2 * 0 + _ ≤ _; omega) (hb hby hd) (fun _ _ => ⟨rfl, eT, hc, hs⟩)
  dsimp only [Pt.U, Pt.locs, Pt.cells, Pt.slots] at X' lq yq zq st hQ
  subst lq yq zq
  obtain ⟨rfl, hQ⟩ := hQ
  exact go_of (fun _ k => st.trans k) (K T' _ ⟨meth, c, _, X', rfl, Fr.app N N', hx, hby, hml, hown, hnm, hret, hlk, hZ, hn⟩ hQ)
theorem w_ireturn {z : Int32} (X : Sd l Z n0 y bytes maxL (some .int) R p e s m args below T h cells slots) {Q : Value → Heap → Prop} (hd : decode bytes pc = .ok (.ireturn, 1)) (hq : Q (.int z) h) (hc : cells ≤ R.cells) (hs : slots ≤ R.slots) : Go p e below (Done below s n0 (Val Q) R.cells R.slots) (T.setTop (mkF m pc Ls (.int z :: S))) := by
  obtain ⟨meth, c, locs, X, eT, N, hx, hby, hml, hown, hnm, hret, hlk, hZ, hn⟩ := X
  obtain ⟨fs, hr, hrun, hended, hW, hsame⟩ := X.leave (v := some (.int z)) (fun h => by rw [hret] at h; cases h) hlk
  refine ⟨_, ?_, _, hrun, hended, _, _, rfl, ⟨N, _, rfl, by rw [← eT] at hq; exact hq⟩, ⟨_, rfl⟩, hW, hsame.mono hc hs⟩
  · exact retOut X hx (t := .int) hret rfl (Or.inl ⟨rfl, Or.inl rfl, z, rfl⟩) (hb hby hd) hr
theorem w_zreturn {z : Int32} (X : Sd l Z n0 y bytes maxL (some .boolean) R p e s m args below T h cells slots) {Q : Value → Heap → Prop} (hd : decode bytes pc = .ok (.ireturn, 1)) (hq : Q (.int (nar .boolean z)) h) (hc : cells ≤ R.cells) (hs : slots ≤ R.slots) : Go p e below (Done below s n0 (Val Q) R.cells R.slots) (T.setTop (mkF m pc Ls (.int z :: S))) := by
  obtain ⟨meth, c, locs, X, eT, N, hx, hby, hml, hown, hnm, hret, hlk, hZ, hn⟩ := X
  obtain ⟨fs, hr, hrun, hended, hW, hsame⟩ := X.leave (v := some (.int (nar .boolean z))) (fun h => by rw [hret] at h; cases h) hlk
  refine ⟨_, ?_, _, hrun, hended, _, _, rfl, ⟨N, _, rfl, by rw [← eT] at hq; exact hq⟩, ⟨_, rfl⟩, hW, hsame.mono hc hs⟩
  · exact retN X hx (t := .boolean) hret (by simp) (hb hby hd) hr
theorem w_breturn {z : Int32} (X : Sd l Z n0 y bytes maxL (some .byte) R p e s m args below T h cells slots) {Q : Value → Heap → Prop} (hd : decode bytes pc = .ok (.ireturn, 1)) (hq : Q (.int (nar .byte z)) h) (hc : cells ≤ R.cells) (hs : slots ≤ R.slots) : Go p e below (Done below s n0 (Val Q) R.cells R.slots) (T.setTop (mkF m pc Ls (.int z :: S))) := by
  obtain ⟨meth, c, locs, X, eT, N, hx, hby, hml, hown, hnm, hret, hlk, hZ, hn⟩ := X
  obtain ⟨fs, hr, hrun, hended, hW, hsame⟩ := X.leave (v := some (.int (nar .byte z))) (fun h => by rw [hret] at h; cases h) hlk
  refine ⟨_, ?_, _, hrun, hended, _, _, rfl, ⟨N, _, rfl, by rw [← eT] at hq; exact hq⟩, ⟨_, rfl⟩, hW, hsame.mono hc hs⟩
  · exact retN X hx (t := .byte) hret (by simp) (hb hby hd) hr
theorem w_creturn {z : Int32} (X : Sd l Z n0 y bytes maxL (some .char) R p e s m args below T h cells slots) {Q : Value → Heap → Prop} (hd : decode bytes pc = .ok (.ireturn, 1)) (hq : Q (.int (nar .char z)) h) (hc : cells ≤ R.cells) (hs : slots ≤ R.slots) : Go p e below (Done below s n0 (Val Q) R.cells R.slots) (T.setTop (mkF m pc Ls (.int z :: S))) := by
  obtain ⟨meth, c, locs, X, eT, N, hx, hby, hml, hown, hnm, hret, hlk, hZ, hn⟩ := X
  obtain ⟨fs, hr, hrun, hended, hW, hsame⟩ := X.leave (v := some (.int (nar .char z))) (fun h => by rw [hret] at h; cases h) hlk
  refine ⟨_, ?_, _, hrun, hended, _, _, rfl, ⟨N, _, rfl, by rw [← eT] at hq; exact hq⟩, ⟨_, rfl⟩, hW, hsame.mono hc hs⟩
  · exact retN X hx (t := .char) hret (by simp) (hb hby hd) hr
theorem w_sreturn {z : Int32} (X : Sd l Z n0 y bytes maxL (some .short) R p e s m args below T h cells slots) {Q : Value → Heap → Prop} (hd : decode bytes pc = .ok (.ireturn, 1)) (hq : Q (.int (nar .short z)) h) (hc : cells ≤ R.cells) (hs : slots ≤ R.slots) : Go p e below (Done below s n0 (Val Q) R.cells R.slots) (T.setTop (mkF m pc Ls (.int z :: S))) := by
  obtain ⟨meth, c, locs, X, eT, N, hx, hby, hml, hown, hnm, hret, hlk, hZ, hn⟩ := X
  obtain ⟨fs, hr, hrun, hended, hW, hsame⟩ := X.leave (v := some (.int (nar .short z))) (fun h => by rw [hret] at h; cases h) hlk
  refine ⟨_, ?_, _, hrun, hended, _, _, rfl, ⟨N, _, rfl, by rw [← eT] at hq; exact hq⟩, ⟨_, rfl⟩, hW, hsame.mono hc hs⟩
  · exact retN X hx (t := .short) hret (by simp) (hb hby hd) hr
theorem w_lreturn {z : Int64} (X : Sd l Z n0 y bytes maxL (some .long) R p e s m args below T h cells slots) {Q : Value → Heap → Prop} (hd : decode bytes pc = .ok (.lreturn, 1)) (hq : Q (.long z) h) (hc : cells ≤ R.cells) (hs : slots ≤ R.slots) : Go p e below (Done below s n0 (Val Q) R.cells R.slots) (T.setTop (mkF m pc Ls (.long z :: S))) := by
  obtain ⟨meth, c, locs, X, eT, N, hx, hby, hml, hown, hnm, hret, hlk, hZ, hn⟩ := X
  obtain ⟨fs, hr, hrun, hended, hW, hsame⟩ := X.leave (v := some (.long z)) (fun h => by rw [hret] at h; cases h) hlk
  refine ⟨_, ?_, _, hrun, hended, _, _, rfl, ⟨N, _, rfl, by rw [← eT] at hq; exact hq⟩, ⟨_, rfl⟩, hW, hsame.mono hc hs⟩
  · exact retOut X hx (t := .long) hret rfl (Or.inr (Or.inl ⟨rfl, rfl, z, rfl⟩)) (hb hby hd) hr
theorem w_areturn {t : FieldType} {v : Value} (X : Sd l Z n0 y bytes maxL (some t) R p e s m args below T h cells slots) {Q : Value → Heap → Prop} (hd : decode bytes pc = .ok (.areturn, 1)) (ht : t.isReference = true) (hv : v.isRef = true) (hna : narrow t v = v) (hq : Q v h) (hc : cells ≤ R.cells) (hs : slots ≤ R.slots) : Go p e below (Done below s n0 (Val Q) R.cells R.slots) (T.setTop (mkF m pc Ls (v :: S))) := by
  obtain ⟨meth, c, locs, X, eT, N, hx, hby, hml, hown, hnm, hret, hlk, hZ, hn⟩ := X
  obtain ⟨fs, hr, hrun, hended, hW, hsame⟩ := X.leave (v := some v) (fun h => by rw [hret] at h; cases h) hlk
  refine ⟨_, ?_, _, hrun, hended, _, _, rfl, ⟨N, _, rfl, by rw [← eT] at hq; exact hq⟩, ⟨_, rfl⟩, hW, hsame.mono hc hs⟩
  · exact retOut X hx (t := t) hret hna (Or.inr (Or.inr (Or.inr (Or.inr ⟨rfl, ht, hv⟩)))) (hb hby hd) hr
theorem w_return  (X : Sd l Z n0 y bytes maxL none R p e s m args below T h cells slots) {Q : Heap → Prop} (hd : decode bytes pc = .ok (.return_, 1)) (hq : Q h) (hc : cells ≤ R.cells) (hs : slots ≤ R.slots) : Go p e below (Done below s n0 (Non Q) R.cells R.slots) (T.setTop (mkF m pc Ls [])) := by
  obtain ⟨meth, c, locs, X, eT, N, hx, hby, hml, hown, hnm, hret, hlk, hZ, hn⟩ := X
  obtain ⟨fs, hr, hrun, hended, hW, hsame⟩ := X.leave (v := none) (fun _ => rfl) hlk
  refine ⟨_, ?_, _, hrun, hended, _, _, rfl, ⟨N, rfl, by rw [← eT] at hq; exact hq⟩, ⟨_, rfl⟩, hW, hsame.mono hc hs⟩
  · exact X.returnOut hx hret (hb hby hd) hr
theorem ne_new {a b : Addr} (g : b = h.size) (q : a < h.size) : a ≠ b := by subst g; exact Nat.ne_of_lt q
theorem sz_fresh {h0 : Heap} {b : Addr} {ws : List Addr} (g : b = h.size) (K : Keep h0 h ws) : h0.size ≤ b := by subst g; exact K.1
def Oar (Z : State) (h : Heap) (a : Addr) (C : String) : Prop := ∃ cl, Arr Z h a cl (.object C) ∧ Ovr Z cl.cls C
theorem Oar.lt {a : Addr} {C : String} (O : Oar Z h a C) : a < h.size := by obtain ⟨cl, A, -⟩ := O; exact A.lt
theorem Oar.ext {h' : Heap} {a : Addr} {C : String} (O : Oar Z h a C) (E : Ext h h') : Oar Z h' a C := by obtain ⟨cl, A, r⟩ := O; exact ⟨cl, A.ext E, r⟩
theorem Oar.wr {h' : Heap} {a b : Addr} {sl : Nat} {v : Value} {C : String} (O : Oar Z h a C) (W : Wr h h' b sl v) : Oar Z h' a C := by
  obtain ⟨cl, A, r⟩ := O
  by_cases q : a = b
  · subst q; exact ⟨_, A.same W, r⟩
  · exact ⟨cl, A.other W q, r⟩
theorem Oar.keep {h' : Heap} {a : Addr} {C : String} {ws : List Addr} (O : Oar Z h a C) (K : Keep h h' ws) : Oar Z h' a C := by
  obtain ⟨cl, A, r⟩ := O
  obtain ⟨c', h1, h2, h3, h4⟩ := K.2.2 a cl A.1
  refine ⟨c', ⟨h1, ?_, by rw [h3]; exact A.2.2⟩, by rw [h2]; exact r⟩
  have := A.2.1; unfold State.isArrayOf at this ⊢; rw [h2, h3]; exact this
theorem Oar.sto {a b : Addr} {C : String} (O : Oar Z h a C) (I : Ins Z h b C true) : Sto Z h a (.ref b) := by obtain ⟨cl, A, r⟩ := O; exact Sto.of A r I
end Walk
section Walk0
variable {l : Launch} {Z : State} {n0 : Nat} {y : MethodName} {bytes : ByteArray} {maxL : Nat} {ret : Option FieldType} {R : Room} {p : Program} {e : Env} {s : State} {m : MethodId} {args : Array Value} {below : List Frame} {T : State} {h : Heap} {cells slots : Nat} {G : State → Prop} {a0 : Array Value} {pc pc' : Nat} {Ls : Array Slot} {S : List Value}
theorem w_initO (X : Sd l Z n0 y bytes maxL ret R p e s m args below T h cells slots) {i : Nat} {a : Addr} (hd : decode bytes pc = .ok (.invokespecial i, 3)) (w1 : (Jvm.Cond.methodLink y.cls i Lib.objectInit).before a0 Z = true) (w2 : (Jvm.Cond.instanceMethod Lib.objectInit).before a0 Z = true) (w3 : (Jvm.Cond.code Lib.objectInit object_method_1_code 1 none).before a0 Z = true) (hsz : Ls.size = maxL) (hf : 1 ≤ R.frames) (W : Nat) (hW : (S.map fun v => v.category).sum ≤ W) (hl : W + 12 ≤ R.locals) (hp : pc' = pc + 3) (K : ∀ T', Sd l Z n0 y bytes maxL ret R p e s m args below T' h cells slots → Go p e below G (T'.setTop (mkF m (pc') Ls S))) : Go p e below G (T.setTop (mkF m pc Ls (.ref a :: S))) := by
  obtain ⟨meth, c, locs, X, eT, N, hx, hby, hml, hown, hnm, hret, hlk, hZ, hn⟩ := X; subst hp
  obtain ⟨T', X', e', st⟩ := initO X hx hZ hown w1 w2 w3 eT (g := mkF m pc Ls (.ref a :: S)) rfl (by rw [hml]; exact hsz) rfl (hb hby hd) hf (W := W) (by show 2 * 0 + _ ≤ _; omega) hl
  exact go_of st (K T' ⟨meth, c, _, X', e', N, hx, hby, hml, hown, hnm, hret, hlk, hZ, hn⟩)
end Walk0
section Walk3
variable {l : Launch} {Z : State} {n0 : Nat} {y : MethodName} {bytes : ByteArray} {maxL : Nat} {ret : Option FieldType} {R : Room} {p : Program} {e : Env} {s : State} {m : MethodId} {args : Array Value} {below : List Frame} {T : State} {h : Heap} {cells slots : Nat} {G : State → Prop} {a0 : Array Value} {pc pc' : Nat} {Ls : Array Slot} {S : List Value}
theorem w_loop {fr : Nat → JFrame} {n : Nat} (I : Nat → Prop) (step : ∀ T i, Sd l Z n0 y bytes maxL ret R p e s m args below T h cells slots → i < n → I i → (∀ T', Sd l Z n0 y bytes maxL ret R p e s m args below T' h cells slots → I (i + 1) → Go p e below G (T'.setTop (fr (i + 1)))) → Go p e below G (T.setTop (fr i))) (last : ∀ T, Sd l Z n0 y bytes maxL ret R p e s m args below T h cells slots → I n → Go p e below G (T.setTop (fr n))) : ∀ k i, i + k = n → I i → ∀ T, Sd l Z n0 y bytes maxL ret R p e s m args below T h cells slots → Go p e below G (T.setTop (fr i)) := by
  intro k
  induction k with
  | zero => intro i hi hI T X; obtain rfl : i = n := hi; exact last T X hI
  | succ k ih => intro i hi hI T X; exact step T i X (by omega) hI (fun T' X' hI' => ih (i + 1) (by omega) hI' T' X')
theorem w_join4 {α β γ δ : Type} {t : State} (P : α → β → γ → δ → Prop) (st : α → β → γ → δ → State) (J : ∀ x1 x2 x3 x4, P x1 x2 x3 x4 → Go p e below G (st x1 x2 x3 x4)) (K : (∀ x1 x2 x3 x4, P x1 x2 x3 x4 → Go p e below G (st x1 x2 x3 x4)) → Go p e below G t) : Go p e below G t := K J
end Walk3
section WalkS
variable {l : Launch} {Z : State} {n0 : Nat} {y : MethodName} {bytes : ByteArray} {maxL : Nat} {ret : Option FieldType} {R : Room} {p : Program} {e : Env} {s : State} {m : MethodId} {args : Array Value} {below : List Frame} {T : State} {h : Heap} {cells slots : Nat} {G : State → Prop} {a0 : Array Value} {pc pc' : Nat} {Ls : Array Slot} {S : List Value} {h' : Heap}
def Ord (Z : State) (h : Heap) (a : Addr) : Prop := ∃ (cell : Cell) (k : Class), h[a]? = some cell ∧ Z.vm.classes[cell.cls]? = some k ∧ k.kind = .ordinary
theorem Ord.of {a : Addr} {C : String} {n : Nat} (E : Exa Z h a C) (w : (Jvm.Cond.instantiable C n).before a0 Z = true) : Ord Z h a := by
  obtain ⟨cell, k, e1, e2, e3, -, -⟩ := E
  obtain ⟨c, k', q1, q2, q3, -⟩ := Cond.instantiable_spec w
  cases e2.symm.trans q1
  cases e3.symm.trans q2
  exact ⟨cell, k, e1, e3, q3⟩
theorem Ord.arr {a : Addr} {cl : Cell} {ty : FieldType} (O : Ord Z h a) (A : Arr Z h a cl ty) : False := by
  obtain ⟨cell, k, e1, e2, e3⟩ := O
  obtain ⟨A1, ⟨-, kA, hkA, compA, hkindA⟩, -⟩ := A
  cases e1.symm.trans A1
  cases e2.symm.trans hkA
  rw [e3] at hkindA; cases hkindA
theorem exa_name {a : Addr} {C C' : String} (E : Exa Z h a C) (E' : Exa Z h a C') : C = C' := by
  obtain ⟨cell, k, e1, e2, -⟩ := E
  obtain ⟨cell', k', e1', e2', -⟩ := E'
  cases e1.symm.trans e1'
  obtain ⟨k1, q1, q2⟩ := Vm.findClass_spec e2
  obtain ⟨k2, q3, q4⟩ := Vm.findClass_spec e2'
  cases q1.symm.trans q3
  exact q2.symm.trans q4
theorem arr_type {a : Addr} {cl cl' : Cell} {ty ty' : FieldType} (A : Arr Z h a cl ty) (A' : Arr Z h a cl' ty') : ty = ty' := by
  obtain ⟨A1, ⟨-, k, hk, comp, hkind⟩, -⟩ := A
  obtain ⟨A1', ⟨-, k', hk', comp', hkind'⟩, -⟩ := A'
  cases A1.symm.trans A1'
  cases hk.symm.trans hk'
  have := hkind.symm.trans hkind'
  injection this
/-- no String, no byte array -/
def Apart (Z : State) (h : Heap) (x : Addr) : Prop := (Ord Z h x ∧ ∃ C, Exa Z h x C ∧ C ≠ "java/lang/String" ∧ C ≠ "[B") ∨ ∃ cl ty, Arr Z h x cl ty ∧ ty ≠ .byte
theorem Apart.obj {x : Addr} {C : String} {n : Nat} (E : Exa Z h x C) (w : (Jvm.Cond.instantiable C n).before a0 Z = true) (h1 : C ≠ "java/lang/String") (h2 : C ≠ "[B") : Apart Z h x := Or.inl ⟨Ord.of E w, C, E, h1, h2⟩
theorem Apart.ary {x : Addr} {ty : FieldType} {n : Nat} {f : Nat → Value} (A : Ary Z h x ty n f) (ht : ty ≠ .byte) : Apart Z h x := by obtain ⟨c, A, -⟩ := A; exact Or.inr ⟨c, ty, A, ht⟩
/-- the String a says bs (its bytes, as ints) -/
def Str (Z : State) (h : Heap) (a : Addr) (bs : List Int32) : Prop := ∃ b, Exa Z h a "java/lang/String" ∧ Ord Z h a ∧ Fld Z h a "java/lang/String" "coder" "B" (.int 0) ∧ Fld Z h a "java/lang/String" "value" "[B" (.ref b) ∧ Ary Z h b .byte bs.length (fun i => .int (bs.getD i 0))
theorem Str.exa {a : Addr} {bs : List Int32} (S : Str Z h a bs) : Exa Z h a "java/lang/String" := by obtain ⟨b, E, -⟩ := S; exact E
theorem Str.lt {a : Addr} {bs : List Int32} (S : Str Z h a bs) : a < h.size := S.exa.lt
theorem Str.ext {a : Addr} {bs : List Int32} (S : Str Z h a bs) (E : Ext h h') : Str Z h' a bs := by
  obtain ⟨b, h1, ⟨cell, k, o1, o2⟩, h2, h3, h4⟩ := S
  exact ⟨b, Exa.ext E h1, ⟨cell, k, E.2 _ _ o1, o2⟩, Fld.ext E h2, Fld.ext E h3, h4.ext E⟩
theorem Str.keep {a : Addr} {bs : List Int32} {ws : List Addr} (S : Str Z h a bs) (K : Keep h h' ws) (P : ∀ x ∈ ws, Apart Z h x) : Str Z h' a bs := by
  obtain ⟨b, h1, O, h2, h3, h4⟩ := S
  have na : a ∉ ws := fun q => by
    rcases P a q with ⟨-, C, E, n1, -⟩ | ⟨cl, ty, A, -⟩
    · exact n1 (exa_name E h1)
    · exact O.arr A
  have nb : b ∉ ws := fun q => by
    obtain ⟨cb, Ab, -⟩ := h4
    rcases P b q with ⟨O', -⟩ | ⟨cl, ty, A, n1⟩
    · exact O'.arr Ab
    · exact n1 (arr_type A Ab)
  obtain ⟨cell, k, o1, o2⟩ := O
  exact ⟨b, h1.keep K, ⟨cell, k, K.2.1 _ _ o1 na, o2⟩, h2.keep K na, h3.keep K na, h4.keep K nb⟩
theorem Str.uniq {a : Addr} {bs bs' : List Int32} (S : Str Z h a bs) (S' : Str Z h a bs') : bs = bs' := by
  obtain ⟨b, -, -, -, ⟨c1, x1, k1, i1, f1, p1, p2, p3, p4, p5, p6, p7⟩, ⟨c, A, r1, r2, r3⟩⟩ := S
  obtain ⟨b', -, -, -, ⟨c2, x2, k2, i2, f2, q1, q2, q3, q4, q5, q6, q7⟩, ⟨c', A', r1', r2', r3'⟩⟩ := S'
  cases p1.symm.trans q1
  cases p2.symm.trans q2
  cases p7.symm.trans q7
  cases A.1.symm.trans A'.1
  have hl : bs.length = bs'.length := r1.symm.trans r1'
  apply List.ext_getElem hl
  intro i h1 h2
  have e1 := (r3 i h1).symm.trans (r3' i h2)
  have e2 : bs.getD i 0 = bs'.getD i 0 := by injection Option.some.inj e1
  simpa [List.getD_eq_getElem?_getD, h1, h2] using e2
theorem ary_of_arv {b : Addr} {k : ClassId} {z : Int32} {bs : List Int32} (A : Arv Z h b k .byte z (bs.map Value.int) (.int 0)) (hz : z.toNatClampNeg = bs.length) (hb : bs.length < 2 ^ 31) : Ary Z h b .byte bs.length (fun i => .int (bs.getD i 0)) := by
  obtain ⟨c, A, -, r1, r2, r3, -⟩ := A
  refine ⟨c, A, r1.trans hz, hb, fun i hi => ?_⟩
  rw [r3 i (by rw [r1, hz]; exact hi)]
  simp [List.getD_eq_getElem?_getD, hi]
theorem kext (K : Keep h h' []) : Ext h h' := ⟨K.1, fun a c q => K.2.1 a c q (by simp)⟩
theorem extk (E : Ext h h') : Keep h h' [] := (Keep.refl h []).ext E
theorem wr_keep {a : Addr} {sl : Nat} {v : Value} (W : Wr h h' a sl v) : Keep h h' [a] := (Keep.refl h [a]).wr W (Or.inl (List.mem_singleton.mpr rfl))
theorem ap0 : ∀ x ∈ ([] : List Addr), Apart Z h x := fun x q => nomatch q
theorem ap1 {a : Addr} (A : Apart Z h a) : ∀ x ∈ [a], Apart Z h x := fun x q => by cases List.mem_singleton.mp q; exact A
theorem ap2 {a b : Addr} (A : Apart Z h a) (B : Apart Z h b) : ∀ x ∈ [a, b], Apart Z h x := fun x q => by
  rcases List.mem_cons.mp q with rfl | q
  · exact A
  · cases List.mem_singleton.mp q; exact B
theorem w_checkcast (X : Sd l Z n0 y bytes maxL ret R p e s m args below T h cells slots) {i : Nat} {C : String} {a : Addr} (hd : decode bytes pc = .ok (.checkcast i, 3)) (w : (Jvm.Cond.classLink y.cls i C).before a0 Z = true) (I : Ins Z h a C true) (hp : pc' = pc + 3) (K : ∀ T', Sd l Z n0 y bytes maxL ret R p e s m args below T' h cells slots → Go p e below G (T'.setTop (mkF m (pc') Ls (.ref a :: S)))) : Go p e below G (T.setTop (mkF m pc Ls (.ref a :: S))) := by
  obtain ⟨meth, c, locs, X, eT, N, hx, hby, hml, hown, hnm, hret, hlk, hZ, hn⟩ := X; subst hp
  obtain ⟨T', X', e', st⟩ := castY X hx hZ hown w eT I (g := mkF m pc Ls (.ref a :: S)) rfl rfl (hb hby hd)
  exact go_of st (K T' ⟨meth, c, _, X', e', N, hx, hby, hml, hown, hnm, hret, hlk, hZ, hn⟩)
theorem w_instanceof (X : Sd l Z n0 y bytes maxL ret R p e s m args below T h cells slots) {i : Nat} {C : String} {a : Addr} (hd : decode bytes pc = .ok (.instanceof i, 3)) (w : (Jvm.Cond.classLink y.cls i C).before a0 Z = true) (I : Ins Z h a C true) (hp : pc' = pc + 3) (K : ∀ T', Sd l Z n0 y bytes maxL ret R p e s m args below T' h cells slots → Go p e below G (T'.setTop (mkF m (pc') Ls (.int (1 : Int32) :: S)))) : Go p e below G (T.setTop (mkF m pc Ls (.ref a :: S))) := by
  obtain ⟨meth, c, locs, X, eT, N, hx, hby, hml, hown, hnm, hret, hlk, hZ, hn⟩ := X; subst hp
  obtain ⟨T', X', e', st⟩ := instY X hx hZ hown w eT I (g := mkF m pc Ls (.ref a :: S)) rfl rfl (hb hby hd)
  exact go_of st (K T' ⟨meth, c, _, X', e', N, hx, hby, hml, hown, hnm, hret, hlk, hZ, hn⟩)
end WalkS
section WalkW
variable {l : Launch} {Z : State} {n0 : Nat} {y : MethodName} {bytes : ByteArray} {maxL : Nat} {ret : Option FieldType} {R : Room} {p : Program} {e : Env} {s : State} {m : MethodId} {args : Array Value} {below : List Frame} {T : State} {h : Heap} {cells slots : Nat} {G : State → Prop} {a0 : Array Value} {pc pc' : Nat} {Ls : Array Slot} {S : List Value} {h' : Heap} {EL : List (String × Nat)} {vm : Vm}
/-- beside the Stand of a walk that may have interned since its true start s -/
def Fw (Z : State) (EL : List (String × Nat)) (s : State) (vm : Vm) (h : Heap) : Prop := ∃ k, s.Since vm k ∧ k ≤ h.size ∧ CHr Z EL s.vm s.heap vm h
theorem Fw.ext (F : Fw Z EL s vm h) (E : Ext h h') : Fw Z EL s vm h' := by
  obtain ⟨k, a, b, c⟩ := F; exact ⟨k, a, Nat.le_trans b E.1, c.trans (CHr.ext E c.1)⟩
theorem Fw.keep {ws : List Addr} (F : Fw Z EL s vm h) (K : Keep h h' ws) (hs : ∀ x ∈ ws, Safe Z EL vm h x) : Fw Z EL s vm h' := by
  obtain ⟨k, a, b, c⟩ := F; exact ⟨k, a, Nat.le_trans b K.1, c.trans (CHr.keep K hs c.1)⟩
theorem Fw.wr {a : Addr} {sl : Nat} {v : Value} (F : Fw Z EL s vm h) (W : Wr h h' a sl v) (S : Safe Z EL vm h a) : Fw Z EL s vm h' := by
  obtain ⟨k, x, b, c⟩ := F
  have q := CHr.wr W S c.1
  exact ⟨k, x, Nat.le_trans b q.2.1, c.trans q⟩
theorem sd_alike (X : Sd l Z n0 y bytes maxL ret R p e (s.setVm vm) m args below T h cells slots) : Z.vm.Alike vm := by obtain ⟨_, _, _, -, -, -, -, -, -, -, -, -, -, hZ, -⟩ := X; exact hZ.alike
theorem Apart.safe {x : Addr} (A : Apart Z h x) (hal : Z.vm.Alike vm) : Safe Z EL vm h x := by
  rcases A with ⟨-, C, E, h1, h2⟩ | ⟨cl, ty, A, h1⟩
  · exact Safe.exa hal E h1 h2
  · exact Safe.arr hal A h1
theorem Fw.safe_new {b : Addr} (F : Fw Z EL s vm h) (E : Ext h h') (g : b = h.size) : Safe Z EL vm h' b := by
  obtain ⟨k, x, y, c⟩ := F
  exact Safe.ext E c.1 (Safe.new (by rw [g]; exact Nat.le_refl _))
theorem sf1 {a : Addr} (A : Safe Z EL vm h a) : ∀ x ∈ [a], Safe Z EL vm h x := fun x q => by cases List.mem_singleton.mp q; exact A
theorem Fw.kp {ws : List Addr} {h0 : Heap} {T0 : State} {c0 n1 : Nat} (F : Fw Z EL s vm h) (X : Sd l Z n0 y bytes maxL ret R p e (s.setVm vm) m args below T0 h0 c0 n1) (K : Keep h h' ws) (P : ∀ x ∈ ws, Apart Z h x) : Fw Z EL s vm h' := F.keep K fun x hx => (P x hx).safe (sd_alike X)
def DoneW (below : List Frame) (Z : State) (EL : List (String × Nat)) (s : State) (n0 : Nat) (Q : Option Value → Heap → Prop) (C N : Nat) (s₂ : State) : Prop := ∃ o, s₂.status = .running ∧ Ended s₂ below o ∧ ∃ v L, o = .returned v ∧ (Fr n0 L ∧ Q v s₂.heap) ∧ CHr Z EL s.vm s.heap s₂.vm s₂.heap ∧ ReturnedEndW s o s₂ L C N
def ConW (l : Launch) (Z : State) (EL : List (String × Nat)) (n0 : Nat) (y : MethodName) (bytes : ByteArray) (maxL : Nat) (ret : Option FieldType) (rm : Room) (as' : Array Value) (h : Heap) (Q : Option Value → Heap → Prop) : Prop :=
  ∀ ws, MetFree l y (head1 (Jvm.Cond.code y bytes maxL ret :: ws) rm) (fun a U => a = as' ∧ Z.Warmed39 U.vm ∧ U.heap = h ∧ CHv Z EL U.vm h) (fun _ _ _ _ _ => True) (fun _ U o U' => ∃ v L, o = .returned v ∧ (Fr n0 L ∧ Q v U'.heap) ∧ CHr Z EL U.vm U.heap U'.vm U'.heap ∧ ReturnedEndW U o U' L rm.cells rm.slots)
theorem conW_intro {rm : Room} {as' : Array Value} {Q : Option Value → Heap → Prop} (hp : plainFor y = true) (hn : n0 ≤ h.size) {fr : MethodId → JFrame} (ef : ∀ m, entryFrame m as' maxL = fr m)
    (body : ∀ p e s m below s₁, s.heap = h → Fw Z EL s s.vm h → Sd l Z n0 y bytes maxL ret rm p e (s.setVm s.vm) m as' below s₁ h 0 0 → Go p e below (DoneW below Z EL s n0 Q rm.cells rm.slots) (s₁.setTop (fr m))) : ConW l Z EL n0 y bytes maxL ret rm as' h Q := by
  intro ws
  refine MetFree.of_bodySF hp hisR ?_
  intro p e s m args below meth c s₁ Bd hml0 hP hK
  obtain ⟨rfl, hZ, hh, hC⟩ := hP
  have e0 : s₁.heap = h := by rw [← hh, Bd.state]; rfl
  have F0 : Fw Z EL s s.vm h := ⟨0, State.WarmedH.since (State.WarmedH.refl s) 0, Nat.zero_le _, by rw [← hh] at hC ⊢; exact CHr.refl hC⟩
  obtain ⟨s₂, st, o, r1, r2, r3⟩ := body p e s m below s₁ hh F0 ⟨meth, c, [], Stand.of_body Bd, e0, Fr.nil n0, Bd.exec, Bd.bytes, hml0, findClass_of_methodNamed Bd.named, (name_of_methodNamed Bd.named Bd.method).1, Bd.returns, Bd.notSynchronized, hZ, by show n0 ≤ s.heap.size; rw [hh]; exact hn⟩
  exact ⟨s₂, o, castTop (ef m) st, r1, r2, r3⟩
theorem w_ldcW (X : Sd l Z n0 y bytes maxL ret R p e (s.setVm vm) m args below T h cells slots) (F : Fw Z EL s vm h) {i : Nat} {text : String} (bs : List Int32) (n : Nat) (hd : decode bytes pc = .ok (.ldc i, 2)) (w : (Jvm.Cond.stringLink y.cls i text).before a0 Z = true) (wS : ∀ a ∈ Bundle.stringAtoms, a.before a0 Z = true) (hEL : EW Z a0 EL) (hmem : (y.cls, i) ∈ EL) (ht : (∀ c ∈ text.toList, c.toNat < 256) ∧ text.toList.map (fun c => Value.int (Jvm.Lit.byteI c.toNat.toUInt16)) = bs.map Value.int) (hb31 : bs.length < 2 ^ 31) (hn' : 4 * text.toList.length ≤ n) (hbig : n ≤ 536870912) (hc : cells + 2 ≤ R.cells) (hl : slots + (n + 4) ≤ R.slots) (hp : pc' = pc + 2)
    (K : ∀ T' h' vm' a, Sd l Z n0 y bytes maxL ret R p e (s.setVm vm') m args below T' h' (cells + 2) (slots + (n + 4)) → Fw Z EL s vm' h' → Ext h h' → Str Z h' a bs → Go p e below G (T'.setTop (mkF m (pc') Ls (.ref a :: S)))) : Go p e below G (T.setTop (mkF m pc Ls S)) := by
  obtain ⟨meth, c, locs, X, eT, N, hx, hby, hml, hown, hnm, hret, hlk, hZ, hn⟩ := X; subst hp
  obtain ⟨k, hS, hk, C⟩ := F
  have q := nat_at (len_toInt hb31)
  obtain ⟨a, T', h', k1, b, kc, X', e', E', hS', hk', hZ', hown', Ea, Fc, Fv, Av, -, -, C', -, -, st⟩ := ldcCH X hx hZ hown w wS eT hS hk hEL hmem C.1 ht q.2 (by rw [q.1]; simp) (g := mkF m pc Ls S) rfl (hb hby hd) hn' hbig hc hl
  refine go_of st (K T' h' T'.vm a ⟨meth, c, _, X', e', N, hx, hby, hml, hown', hnm, hret, hlk, hZ', hn⟩ ⟨k1, hS', hk', C.trans C'⟩ E' ⟨b, Ea, Ord.of Ea (wS (.instantiable "java/lang/String" 4) (by simp [Bundle.stringAtoms, Bundle.sN])), Fc, Fv, ary_of_arv Av q.1 hb31⟩)
theorem w_staticVW (X : Sd l Z n0 y bytes maxL ret R p e (s.setVm vm) m args below T h cells slots) (F : Fw Z EL s vm h) {i : Nat} {y' : MethodName} {bytes' : ByteArray} {maxL' : Nat} {ret' : Option FieldType} {rm : Room} {as' : Array Value} {Q : Value → Heap → Prop} (hd : decode bytes pc = .ok (.invokestatic i, 3)) (hM : ConW l Z EL n0 y' bytes' maxL' ret' rm as' h (Val Q)) (w1 : (Jvm.Cond.methodLink y.cls i y').before a0 Z = true) (w2 : (Jvm.Cond.static y').before a0 Z = true) (w3 : (Jvm.Cond.initialized y'.cls).before a0 Z = true) (w4 : (Jvm.Cond.code y' bytes' maxL' ret').before a0 Z = true) (hEL : EW Z a0 EL) (hy : y'.cls ≠ "java/lang/invoke/MethodHandle" ∧ y'.cls ≠ "java/lang/invoke/VarHandle") (argsL rest : List Value) {ps : List FieldType} {r' : Option FieldType} (hlen : parseMethodDescriptor y'.desc = some ⟨ps, r'⟩) (hl : argsL.length = ps.length) (has : argsL.toArray = as') (hst : S = argsL.reverse ++ rest) (hsz : Ls.size = maxL) (W : Nat) (hW : (rest.map fun v => v.category).sum ≤ W) (hf : rm.frames + 1 ≤ R.frames) (hlo : W + (maxL' + 11) + rm.locals ≤ R.locals) (hc : cells + rm.cells ≤ R.cells) (hs : slots + rm.slots ≤ R.slots) (hp : pc' = pc + 3)
    (K : ∀ T' h' vm' v, Sd l Z n0 y bytes maxL ret R p e (s.setVm vm') m args below T' h' (cells + rm.cells) (slots + rm.slots) → Fw Z EL s vm' h' → Q v h' → Go p e below G (T'.setTop (mkF m (pc') Ls (v :: rest)))) : Go p e below G (T.setTop (mkF m pc Ls S)) := by
  obtain ⟨meth, c, locs, X, eT, N, hx, hby, hml, hown, hnm, hret, hlk, hZ, hn⟩ := X; subst hp hst has
  obtain ⟨k, hS, hk, C⟩ := F
  obtain ⟨v, _, ⟨T', L', k', n'⟩, -, X', hS', hgr, ⟨Lc, ⟨N', hQ⟩, lq, yq, zq, C'⟩, st⟩ := callSS X hx (y := y') hown (mvT hZ w1) (mvT hZ w2) (mvT hZ w3) (mvT hZ w4) hy (backOfSH (W := W) (Q := fun v h L => Fr n0 L ∧ Val Q v h) (hM []) hZ w4 w3 hf hlo hEL C.1) (g := mkF m pc Ls (argsL.reverse ++ rest)) rfl (by rw [hml]; exact hsz) (argsL := argsL) (rest := rest) (lenOf hlen hl) rfl (by show 2 * 0 + _ ≤ _; omega) (hb hby hd) (fun _ _ => ⟨rfl, eT, hc, hs⟩)
  dsimp only [Pt.U, Pt.locs, Pt.cells, Pt.slots] at X' lq yq zq st hQ hS' hgr C'
  subst lq yq zq
  obtain ⟨v, rfl, hQ⟩ := hQ
  exact go_of (fun _ k => st.trans k) (K T' _ T'.vm v ⟨meth, c, _, X', rfl, Fr.app N N', hx, hby, hml, by show T'.vm.findClass _ = _; rw [hS'.1.alike.findClass]; exact hown, hnm, hret, hlk, State.Warmed39.trans (t := s.setVm vm) hZ hS'.1, hn⟩ ⟨_, hS.trans hS' (Nat.le_trans hk (by rw [← eT]; exact hgr)), Nat.le_refl _, C.trans C'⟩ hQ)
theorem w_specialNW (X : Sd l Z n0 y bytes maxL ret R p e (s.setVm vm) m args below T h cells slots) (F : Fw Z EL s vm h) {i : Nat} {y' : MethodName} {bytes' : ByteArray} {maxL' : Nat} {rm : Room} {as' : Array Value} {Q : Heap → Prop} {a : Addr} (hd : decode bytes pc = .ok (.invokespecial i, 3)) (hM : ConW l Z EL n0 y' bytes' maxL' none rm as' h (Non Q)) (w1 : (Jvm.Cond.methodLink y.cls i y').before a0 Z = true) (w2 : (Jvm.Cond.instanceMethod y').before a0 Z = true) (w3 : (Jvm.Cond.initialized y'.cls).before a0 Z = true) (w4 : (Jvm.Cond.code y' bytes' maxL' none).before a0 Z = true) (hin : y'.name = "<init>") (hEL : EW Z a0 EL) (hy : y'.cls ≠ "java/lang/invoke/MethodHandle" ∧ y'.cls ≠ "java/lang/invoke/VarHandle") (argsL rest : List Value) {ps : List FieldType} {r' : Option FieldType} (hlen : parseMethodDescriptor y'.desc = some ⟨ps, r'⟩) (hl : argsL.length = ps.length) (has : (.ref a :: argsL).toArray = as') (hst : S = argsL.reverse ++ .ref a :: rest) (hsz : Ls.size = maxL) (W : Nat) (hW : (rest.map fun v => v.category).sum ≤ W) (hf : rm.frames + 1 ≤ R.frames) (hlo : W + (maxL' + 11) + rm.locals ≤ R.locals) (hc : cells + rm.cells ≤ R.cells) (hs : slots + rm.slots ≤ R.slots) (hp : pc' = pc + 3)
    (K : ∀ T' h' vm', Sd l Z n0 y bytes maxL ret R p e (s.setVm vm') m args below T' h' (cells + rm.cells) (slots + rm.slots) → Fw Z EL s vm' h' → Q h' → Go p e below G (T'.setTop (mkF m (pc') Ls rest))) : Go p e below G (T.setTop (mkF m pc Ls S)) := by
  obtain ⟨meth, c, locs, X, eT, N, hx, hby, hml, hown, hnm, hret, hlk, hZ, hn⟩ := X; subst hp hst has
  obtain ⟨k, hS, hk, C⟩ := F
  obtain ⟨v, _, ⟨T', L', k', n'⟩, -, X', hS', hgr, ⟨Lc, ⟨N', hQ⟩, lq, yq, zq, C'⟩, st⟩ := X.specialBackS hx (y := y') hin hown (mvT hZ w1) (mvT hZ w2) (mvT hZ w4) hy (backOfSH (W := W) (Q := fun v h L => Fr n0 L ∧ Non Q v h) (hM []) hZ w4 w3 hf hlo hEL C.1) (g := mkF m pc Ls (argsL.reverse ++ .ref a :: rest)) rfl (by rw [hml]; exact hsz) (Steps.refl _) (a := a) (argsL := argsL) (rest := rest) (lenOf hlen hl) rfl (by show 2 * 0 + _ ≤ _; omega) (hb hby hd) (fun _ _ => ⟨rfl, eT, hc, hs⟩)
  dsimp only [Pt.U, Pt.locs, Pt.cells, Pt.slots] at X' lq yq zq st hQ hS' hgr C'
  subst lq yq zq
  obtain ⟨rfl, hQ⟩ := hQ
  exact go_of (fun _ k => st.trans k) (K T' _ T'.vm ⟨meth, c, _, X', rfl, Fr.app N N', hx, hby, hml, by show T'.vm.findClass _ = _; rw [hS'.1.alike.findClass]; exact hown, hnm, hret, hlk, State.Warmed39.trans (t := s.setVm vm) hZ hS'.1, hn⟩ ⟨_, hS.trans hS' (Nat.le_trans hk (by rw [← eT]; exact hgr)), Nat.le_refl _, C.trans C'⟩ hQ)
theorem w_zreturnW {z : Int32} (X : Sd l Z n0 y bytes maxL (some .boolean) R p e (s.setVm vm) m args below T h cells slots) (F : Fw Z EL s vm h) (hEL : EW Z a0 EL) {Q : Value → Heap → Prop} (hd : decode bytes pc = .ok (.ireturn, 1)) (hq : Q (.int (nar .boolean z)) h) (hc : cells ≤ R.cells) (hs : slots ≤ R.slots) : Go p e below (DoneW below Z EL s n0 (Val Q) R.cells R.slots) (T.setTop (mkF m pc Ls (.int z :: S))) := by
  obtain ⟨meth, c, locs, X, eT, N, hx, hby, hml, hown, hnm, hret, hlk, hZ, hn⟩ := X
  obtain ⟨k, hS, hk, C⟩ := F
  obtain ⟨fs, hr, hrun, hended, r1, r2, r3, r4⟩ := X.leaveW (v := some (.int (nar .boolean z))) hS (by rw [eT]; exact hk) (fun h => by rw [hret] at h; cases h) hlk
  refine ⟨_, ?_, _, hrun, hended, _, _, rfl, ⟨N, _, rfl, by rw [← eT] at hq; exact hq⟩, ?_, r1, r2, r3, r4.mono hc hs⟩
  · exact retN X hx (t := .boolean) hret (by simp) (hb hby hd) hr
  · have q := C.trans (CHv.at X hZ hEL C.1)
    rw [← eT] at q; exact q
theorem w_areturnW {t : FieldType} {v : Value} (X : Sd l Z n0 y bytes maxL (some t) R p e (s.setVm vm) m args below T h cells slots) (F : Fw Z EL s vm h) (hEL : EW Z a0 EL) {Q : Value → Heap → Prop} (hd : decode bytes pc = .ok (.areturn, 1)) (ht : t.isReference = true) (hv : v.isRef = true) (hna : narrow t v = v) (hq : Q v h) (hc : cells ≤ R.cells) (hs : slots ≤ R.slots) : Go p e below (DoneW below Z EL s n0 (Val Q) R.cells R.slots) (T.setTop (mkF m pc Ls (v :: S))) := by
  obtain ⟨meth, c, locs, X, eT, N, hx, hby, hml, hown, hnm, hret, hlk, hZ, hn⟩ := X
  obtain ⟨k, hS, hk, C⟩ := F
  obtain ⟨fs, hr, hrun, hended, r1, r2, r3, r4⟩ := X.leaveW (v := some v) hS (by rw [eT]; exact hk) (fun h => by rw [hret] at h; cases h) hlk
  refine ⟨_, ?_, _, hrun, hended, _, _, rfl, ⟨N, _, rfl, by rw [← eT] at hq; exact hq⟩, ?_, r1, r2, r3, r4.mono hc hs⟩
  · exact retOut X hx (t := t) hret hna (Or.inr (Or.inr (Or.inr (Or.inr ⟨rfl, ht, hv⟩)))) (hb hby hd) hr
  · have q := C.trans (CHv.at X hZ hEL C.1)
    rw [← eT] at q; exact q
theorem w_returnW  (X : Sd l Z n0 y bytes maxL none R p e (s.setVm vm) m args below T h cells slots) (F : Fw Z EL s vm h) (hEL : EW Z a0 EL) {Q : Heap → Prop} (hd : decode bytes pc = .ok (.return_, 1)) (hq : Q h) (hc : cells ≤ R.cells) (hs : slots ≤ R.slots) : Go p e below (DoneW below Z EL s n0 (Non Q) R.cells R.slots) (T.setTop (mkF m pc Ls [])) := by
  obtain ⟨meth, c, locs, X, eT, N, hx, hby, hml, hown, hnm, hret, hlk, hZ, hn⟩ := X
  obtain ⟨k, hS, hk, C⟩ := F
  obtain ⟨fs, hr, hrun, hended, r1, r2, r3, r4⟩ := X.leaveW (v := none) hS (by rw [eT]; exact hk) (fun _ => rfl) hlk
  refine ⟨_, ?_, _, hrun, hended, _, _, rfl, ⟨N, rfl, by rw [← eT] at hq; exact hq⟩, ?_, r1, r2, r3, r4.mono hc hs⟩
  · exact X.returnOut hx hret (hb hby hd) hr
  · have q := C.trans (CHv.at X hZ hEL C.1)
    rw [← eT] at q; exact q
end WalkW
abbrev own_EL : List (String × Nat) := consts_1
theorem own_hEL {a0 : Array Value} {Z : State} (hw : ∀ d ∈ tables_1, d.before a0 Z = true) : EW Z a0 own_EL := (EW.cons (hw _ (List.mem_of_getElem? (i := 4) rfl)) (by decide) (EW.cons (hw _ (List.mem_of_getElem? (i := 83) rfl)) (by decide) (EW.cons (hw _ (List.mem_of_getElem? (i := 89) rfl)) (by decide) (EW.cons (hw _ (List.mem_of_getElem? (i := 90) rfl)) (by decide) EW.nil))))
theorem own_wS {a0 : Array Value} {Z : State} (hw : ∀ d ∈ tables_1, d.before a0 Z = true) : ∀ a ∈ Bundle.stringAtoms, a.before a0 Z = true := by
  intro a ha
  simp only [Bundle.stringAtoms, List.mem_cons, List.not_mem_nil, or_false] at ha
  rcases ha with rfl | rfl | rfl | rfl | rfl | rfl | rfl
  · exact (hw _ (List.mem_of_getElem? (i := 5) rfl))
  · exact (hw _ (List.mem_of_getElem? (i := 6) rfl))
  · exact (hw _ (List.mem_of_getElem? (i := 7) rfl))
  · exact (hw _ (List.mem_of_getElem? (i := 8) rfl))
  · exact (hw _ (List.mem_of_getElem? (i := 9) rfl))
  · exact (hw _ (List.mem_of_getElem? (i := 10) rfl))
  · exact (hw _ (List.mem_of_getElem? (i := 11) rfl))
theorem own_nat (n : Nat) (h : n < 2 ^ 31) : (Int32.ofNat n).toInt = (n : Int) := Int32.toInt_ofNat_small (by omega)
theorem own_succ (n : Nat) : Int32.ofNat n + (1 : Int32) = Int32.ofNat (n + 1) := Int32.ofNat_succ n |>.symm ▸ rfl
theorem own_i8 (c : Int32) : c.toInt8.toInt32.toInt8.toInt32 = c.toInt8.toInt32 := by simp
theorem own_tob (c : Int32) (i : Nat) (hi : i < [c.toInt8.toInt32].length) : upd (fun _ => .int (0 : Int32)) 0 (.int (nar .byte c.toInt8.toInt32)) i = .int ([c.toInt8.toInt32].getD i 0) := by
  have e : i = 0 := by simpa using hi
  subst e
  exact (upd_same _ _ _).trans (congrArg Value.int (own_i8 c))
theorem own_m255 (p : Int32) : ¬ (255 : Int32) < p &&& (255 : Int32) := by
  have e1 : (p &&& (255 : Int32)).toInt = p.toInt % 2 ^ 8 := Jvm.Kit.i32_mask p 255 (k := 8) (by decide) (by decide)
  rw [Int32.lt_iff_toInt_lt, show (255 : Int32).toInt = 255 from by decide]; omega
theorem ary31 {Z : State} {h : Heap} {a : Addr} {ty : FieldType} {n : Nat} {f : Nat → Value} (A : Ary Z h a ty n f) : n < 2 ^ 31 := by obtain ⟨_, _, _, q, _⟩ := A; exact q
theorem own_leq {bs1 bs2 : List Int32} (hl : bs1.length = bs2.length) (h : ∀ j, j < bs1.length → bs1.getD j 0 = bs2.getD j 0) : bs1 = bs2 := by
  apply List.ext_getElem hl
  intro i h1 h2
  have e := h i h1
  simpa [List.getD_eq_getElem?_getD, h1, h2] using e
theorem d9_0 : decode jdk_43_method_3_code 0 = .ok (.iload_n 0, 1) := by decide +kernel
theorem d9_1 : decode jdk_43_method_3_code 1 = .ok (.sipush 255, 3) := by decide +kernel
theorem d9_4 : decode jdk_43_method_3_code 4 = .ok (.if_icmp .gt 7, 3) := by decide +kernel
theorem d9_7 : decode jdk_43_method_3_code 7 = .ok (.iconst 1, 1) := by decide +kernel
theorem d9_8 : decode jdk_43_method_3_code 8 = .ok (.goto 4, 3) := by decide +kernel
theorem d9_11 : decode jdk_43_method_3_code 11 = .ok (.iconst 0, 1) := by decide +kernel
theorem d9_12 : decode jdk_43_method_3_code 12 = .ok (.ireturn, 1) := by decide +kernel
theorem pn_9 : plainFor (⟨"java/lang/StringLatin1", "canEncode", "(C)Z"⟩ : MethodName) = true := plainFor_of_name (by first | (simp [plainName, overriddenIn]; done) | decide +kernel)
theorem pd_9 : parseMethodDescriptor "(C)Z" = some ⟨[.char], some .boolean⟩ := by decide +kernel
set_option maxRecDepth 65536 in
set_option maxHeartbeats 40000000 in
theorem rm_can {l : Launch} {Z : State} {a0 : Array Value} (hw : ∀ d ∈ tables_1, d.before a0 Z = true) {n0 : Nat} {h0 : Heap} (Z0 : n0 ≤ h0.size) (p1 : Int32) (hc : ¬ (255 : Int32) < p1) :
    Con l Z n0 (⟨"java/lang/StringLatin1", "canEncode", "(C)Z"⟩ : MethodName) jdk_43_method_3_code 1 (some .boolean) ({ frames := 0, cells := 0, slots := 0, locals := 0 } : Room) #[(.int p1)] h0 (Val (fun v h => v = .int 1 ∧ h0 = h)) := by
  refine con_intro pn_9 Z0 (fr := fun m => mkF m 0 #[.val (.int p1)] []) (fun m => by first | (simp [entryFrame, mkF, argsToLocals, Value.category]; done) | rfl) ?_
  intro p e s m below s₁ hs0 X0
  refine w_iloadN X0 (pc' := 1) d9_0 rfl rfl ?_
  refine w_sipush X0 (pc' := 4) (255 : Int32) d9_1 rfl rfl ?_
  refine w_icmp_gt X0 11 7 d9_4 (by decide) rfl rfl (fun hc4 => by exfalso; exact hc hc4) (fun hc4 => ?_)
  refine w_iconst X0 (pc' := 8) (1 : Int32) d9_7 rfl rfl ?_
  refine w_goto X0 (pc' := 12) d9_8 (by decide) rfl ?_
  exact w_zreturn X0 d9_12 ⟨rfl, rfl⟩ (by decide) (by decide)
theorem d10_0 : decode jdk_43_method_46_code 0 = .ok (.iconst 1, 1) := by decide +kernel
theorem d10_1 : decode jdk_43_method_46_code 1 = .ok (.newarray .byte, 2) := by decide +kernel
theorem d10_3 : decode jdk_43_method_46_code 3 = .ok (.dup, 1) := by decide +kernel
theorem d10_4 : decode jdk_43_method_46_code 4 = .ok (.iconst 0, 1) := by decide +kernel
theorem d10_5 : decode jdk_43_method_46_code 5 = .ok (.iload_n 0, 1) := by decide +kernel
theorem d10_6 : decode jdk_43_method_46_code 6 = .ok (.i2b, 1) := by decide +kernel
theorem d10_7 : decode jdk_43_method_46_code 7 = .ok (.bastore, 1) := by decide +kernel
theorem d10_8 : decode jdk_43_method_46_code 8 = .ok (.areturn, 1) := by decide +kernel
theorem pn_10 : plainFor (⟨"java/lang/StringLatin1", "toBytes", "(C)[B"⟩ : MethodName) = true := plainFor_of_name (by first | (simp [plainName, overriddenIn]; done) | decide +kernel)
theorem pd_10 : parseMethodDescriptor "(C)[B" = some ⟨[.char], some (.array .byte)⟩ := by decide +kernel
set_option maxRecDepth 65536 in
set_option maxHeartbeats 40000000 in
theorem rm_tob {l : Launch} {Z : State} {a0 : Array Value} (hw : ∀ d ∈ tables_1, d.before a0 Z = true) {n0 : Nat} {h0 : Heap} (Z0 : n0 ≤ h0.size) (p1 : Int32)  :
    Con l Z n0 (⟨"java/lang/StringLatin1", "toBytes", "(C)[B"⟩ : MethodName) jdk_43_method_46_code 1 (some (.array .byte)) ({ frames := 0, cells := 1, slots := 1, locals := 0 } : Room) #[(.int p1)] h0 (Val (fun v h => ∃ b : Addr, v = .ref b ∧ b = h0.size ∧ n0 ≤ b ∧ Ext h0 h ∧ Ary Z h b .byte [p1.toInt8.toInt32].length (fun i => .int ([p1.toInt8.toInt32].getD i 0)))) := by
  refine con_intro pn_10 Z0 (fr := fun m => mkF m 0 #[.val (.int p1)] []) (fun m => by first | (simp [entryFrame, mkF, argsToLocals, Value.category]; done) | rfl) ?_
  intro p e s m below s₁ hs0 X0
  refine w_iconst X0 (pc' := 1) (1 : Int32) d10_0 rfl rfl ?_
  refine w_newarray X0 (pc' := 3) 1 1 d10_1 (hw _ (List.mem_of_getElem? (i := 7) rfl)) (by decide) (by decide) (by decide) (by decide) (by decide) rfl fun T1 h1 b1 g1 gn1 X1 E1 A1 => ?_
  have K_b1 : Keep h0 _ [] := (Keep.refl h0 [])
  have sz_b1 : h0.size ≤ b1 := sz_fresh g1 K_b1
  have K_3 : Keep h0 h1 [] := K_b1.ext E1
  replace A1 : Ary Z h1 b1 .byte 1 (fun _ => (.int (0 : Int32))) := A1
  refine w_dup X1 (pc' := 4) d10_3 rfl rfl ?_
  refine w_iconst X1 (pc' := 5) (0 : Int32) d10_4 rfl rfl ?_
  refine w_iloadN X1 (pc' := 6) d10_5 rfl rfl ?_
  refine w_i2b X1 (pc' := 7) d10_6 rfl ?_
  refine w_bastore X1 (pc' := 8) 0 d10_7 A1 (by decide) (by decide) gn1 rfl fun T4 h4 X4 W4 A4 => ?_
  have K_6 : Keep h0 h4 [] := K_3.wr W4 (Or.inr sz_b1)
  exact w_areturn X4 d10_8 rfl rfl rfl ⟨_, rfl, g1, gn1, kext K_6, (A4).congr (own_tob p1)⟩ (by decide) (by decide)
theorem d11_0 : decode jdk_42_method_151_code 0 = .ok (.aload_n 0, 1) := by decide +kernel
theorem d11_1 : decode jdk_42_method_151_code 1 = .ok (.invokespecial 1, 3) := by decide +kernel
theorem d11_4 : decode jdk_42_method_151_code 4 = .ok (.aload_n 0, 1) := by decide +kernel
theorem d11_5 : decode jdk_42_method_151_code 5 = .ok (.aload_n 1, 1) := by decide +kernel
theorem d11_6 : decode jdk_42_method_151_code 6 = .ok (.putfield 9, 3) := by decide +kernel
theorem d11_9 : decode jdk_42_method_151_code 9 = .ok (.aload_n 0, 1) := by decide +kernel
theorem d11_10 : decode jdk_42_method_151_code 10 = .ok (.iload_n 2, 1) := by decide +kernel
theorem d11_11 : decode jdk_42_method_151_code 11 = .ok (.putfield 15, 3) := by decide +kernel
theorem d11_14 : decode jdk_42_method_151_code 14 = .ok (.return_, 1) := by decide +kernel
theorem pn_11 : plainFor (⟨"java/lang/String", "<init>", "([BB)V"⟩ : MethodName) = true := plainFor_of_name (by first | (simp [plainName, overriddenIn]; done) | decide +kernel)
theorem pd_11 : parseMethodDescriptor "([BB)V" = some ⟨[(.array .byte), .byte], none⟩ := by decide +kernel
set_option maxRecDepth 65536 in
set_option maxHeartbeats 40000000 in
theorem rm_sin {l : Launch} {Z : State} {a0 : Array Value} (hw : ∀ d ∈ tables_1, d.before a0 Z = true) {n0 : Nat} {h0 : Heap} (Z0 : n0 ≤ h0.size) (a1 a2 : Addr) {u1 u2 : Value} (E_1 : Exa Z h0 a1 "java/lang/String") (F_v : Fld Z h0 a1 "java/lang/String" "value" "[B" u1) (F_c : Fld Z h0 a1 "java/lang/String" "coder" "B" u2) (g_1 : n0 ≤ a1) :
    Con l Z n0 (⟨"java/lang/String", "<init>", "([BB)V"⟩ : MethodName) jdk_42_method_151_code 3 none ({ frames := 1, cells := 0, slots := 0, locals := 12 } : Room) #[(.ref a1), (.ref a2), (.int (0 : Int32))] h0 (Non (fun h => Keep h0 h [a1] ∧ Fld Z h a1 "java/lang/String" "value" "[B" (.ref a2) ∧ Fld Z h a1 "java/lang/String" "coder" "B" (.int 0))) := by
  refine con_intro pn_11 Z0 (fr := fun m => mkF m 0 #[.val (.ref a1), .val (.ref a2), .val (.int (0 : Int32))] []) (fun m => by first | (simp [entryFrame, mkF, argsToLocals, Value.category]; done) | rfl) ?_
  intro p e s m below s₁ hs0 X0
  refine w_aloadN X0 (pc' := 1) d11_0 rfl rfl rfl ?_
  refine w_initO X0 (pc' := 4) d11_1 (hw _ (List.mem_of_getElem? (i := 21) rfl)) (hw _ (List.mem_of_getElem? (i := 22) rfl)) (hw _ (List.mem_of_getElem? (i := 23) rfl)) rfl (by decide) 0 (Nat.le_refl _) (by decide) rfl fun T1 X1 => ?_
  refine w_aloadN X1 (pc' := 5) d11_4 rfl rfl rfl ?_
  refine w_aloadN X1 (pc' := 6) d11_5 rfl rfl rfl ?_
  refine w_putfield X1 (pc' := 9) d11_6 (host := "") (Or.inl (hw _ (List.mem_of_getElem? (i := 36) rfl))) Via.refl F_v E_1 (Or.inr ⟨(hw _ (List.mem_of_getElem? (i := 8) rfl)), rfl, rfl⟩) (hw _ (List.mem_of_getElem? (i := 6) rfl)) (ty := (.array .byte)) (by decide) rfl rfl g_1 rfl fun T2 h2 X2 W2 F2 => ?_
  have F_c_3 := Fld.other W2 F_c (Or.inr (slot_ne (C := "java/lang/String") (Or.inr (hw _ (List.mem_of_getElem? (i := 9) rfl))) (Or.inr (hw _ (List.mem_of_getElem? (i := 8) rfl))) (by decide) (t := .byte) (t' := (.array .byte)) (by decide) (by decide)))
  have E_3 := Exa.wr W2 E_1
  have K_4r : Keep h0 _ [a1] := (Keep.refl h0 [a1])
  have K_4 : Keep h0 h2 [a1] := K_4r.wr W2 (Or.inl (List.mem_of_getElem? (i := 0) rfl))
  refine w_aloadN X2 (pc' := 10) d11_9 rfl rfl rfl ?_
  refine w_iloadN X2 (pc' := 11) d11_10 rfl rfl ?_
  refine w_putfieldN X2 (pc' := 14) d11_11 (hw _ (List.mem_of_getElem? (i := 35) rfl)) Via.refl F_c_3 E_3 (Or.inr ⟨(hw _ (List.mem_of_getElem? (i := 9) rfl)), rfl, rfl⟩) (hw _ (List.mem_of_getElem? (i := 6) rfl)) (ty := .byte) (v' := (.int (nar .byte (0 : Int32)))) (by decide) rfl (fits_nar_byte _) g_1 rfl fun T5 h5 X5 W5 F5 => ?_
  have F2_6 := Fld.other W5 F2 (Or.inr (slot_ne (C := "java/lang/String") (Or.inr (hw _ (List.mem_of_getElem? (i := 8) rfl))) (Or.inr (hw _ (List.mem_of_getElem? (i := 9) rfl))) (by decide) (t := (.array .byte)) (t' := .byte) (by decide) (by decide)))
  have E_6 := Exa.wr W5 E_3
  have K_7 : Keep h0 h5 [a1] := K_4.wr W5 (Or.inl (List.mem_of_getElem? (i := 0) rfl))
  exact w_return X5 d11_14 ⟨K_7, F2_6, F5⟩ (by decide) (by decide)
theorem d8_0 : decode jdk_42_method_139_code 0 = .ok (.getstatic 38, 3) := by decide +kernel
theorem d8_3 : decode jdk_42_method_139_code 3 = .ok (.ifCond .eq 23, 3) := by decide +kernel
theorem d8_6 : decode jdk_42_method_139_code 6 = .ok (.iload_n 0, 1) := by decide +kernel
theorem d8_7 : decode jdk_42_method_139_code 7 = .ok (.invokestatic 1015, 3) := by decide +kernel
theorem d8_10 : decode jdk_42_method_139_code 10 = .ok (.ifCond .eq 16, 3) := by decide +kernel
theorem d8_13 : decode jdk_42_method_139_code 13 = .ok (.new 10, 3) := by decide +kernel
theorem d8_16 : decode jdk_42_method_139_code 16 = .ok (.dup, 1) := by decide +kernel
theorem d8_17 : decode jdk_42_method_139_code 17 = .ok (.iload_n 0, 1) := by decide +kernel
theorem d8_18 : decode jdk_42_method_139_code 18 = .ok (.invokestatic 1018, 3) := by decide +kernel
theorem d8_21 : decode jdk_42_method_139_code 21 = .ok (.iconst 0, 1) := by decide +kernel
theorem d8_22 : decode jdk_42_method_139_code 22 = .ok (.invokespecial 209, 3) := by decide +kernel
theorem d8_25 : decode jdk_42_method_139_code 25 = .ok (.areturn, 1) := by decide +kernel
theorem d8_26 : decode jdk_42_method_139_code 26 = .ok (.new 10, 3) := by decide +kernel
theorem d8_29 : decode jdk_42_method_139_code 29 = .ok (.dup, 1) := by decide +kernel
theorem d8_30 : decode jdk_42_method_139_code 30 = .ok (.iload_n 0, 1) := by decide +kernel
theorem d8_31 : decode jdk_42_method_139_code 31 = .ok (.invokestatic 1021, 3) := by decide +kernel
theorem d8_34 : decode jdk_42_method_139_code 34 = .ok (.iconst 1, 1) := by decide +kernel
theorem d8_35 : decode jdk_42_method_139_code 35 = .ok (.invokespecial 209, 3) := by decide +kernel
theorem d8_38 : decode jdk_42_method_139_code 38 = .ok (.areturn, 1) := by decide +kernel
theorem pn_8 : plainFor (⟨"java/lang/String", "valueOf", "(C)Ljava/lang/String;"⟩ : MethodName) = true := plainFor_of_name (by first | (simp [plainName, overriddenIn]; done) | decide +kernel)
theorem pd_8 : parseMethodDescriptor "(C)Ljava/lang/String;" = some ⟨[.char], some (.object "java/lang/String")⟩ := by decide +kernel
set_option maxRecDepth 65536 in
set_option maxHeartbeats 40000000 in
theorem rm_val {l : Launch} {Z : State} {a0 : Array Value} (hw : ∀ d ∈ tables_1, d.before a0 Z = true) {n0 : Nat} {h0 : Heap} (Z0 : n0 ≤ h0.size) (p1 : Int32) {zc : Int32} (S_c : Sta Z h0 "java/lang/String" "COMPACT_STRINGS" "Z" (.int zc)) (hzc : ¬ zc = (0 : Int32)) (hc : ¬ (255 : Int32) < p1) :
    Con l Z n0 (⟨"java/lang/String", "valueOf", "(C)Ljava/lang/String;"⟩ : MethodName) jdk_42_method_139_code 1 (some (.object "java/lang/String")) ({ frames := 2, cells := 2, slots := 5, locals := 27 } : Room) #[(.int p1)] h0 (Val (fun v h => ∃ b : Addr, v = .ref b ∧ Ext h0 h ∧ Str Z h b [p1.toInt8.toInt32])) := by
  refine con_intro pn_8 Z0 (fr := fun m => mkF m 0 #[.val (.int p1)] []) (fun m => by first | (simp [entryFrame, mkF, argsToLocals, Value.category]; done) | rfl) ?_
  intro p e s m below s₁ hs0 X0
  refine w_getstatic X0 (pc' := 3) d8_0 (host := "") (Or.inl (hw _ (List.mem_of_getElem? (i := 24) rfl))) Via.refl S_c rfl fun T1 X1 => ?_
  refine w_if_eq X1 26 6 d8_3 (by decide) rfl rfl (fun hc3 => by exfalso; exact hzc hc3) (fun hc3 => ?_)
  refine w_iloadN X1 (pc' := 7) d8_6 rfl rfl ?_
  refine w_staticV X1 (pc' := 10) d8_7 (rm_can hw (h0 := h0) (sd_size X1) p1 hc) (hw _ (List.mem_of_getElem? (i := 40) rfl)) (hw _ (List.mem_of_getElem? (i := 41) rfl)) (hw _ (List.mem_of_getElem? (i := 42) rfl)) (hw _ (List.mem_of_getElem? (i := 43) rfl)) (by decide) [(.int p1)] [] pd_9 rfl rfl rfl rfl 0 (Nat.le_refl _) (by decide) (by decide) (by decide) (by decide) rfl fun T2 h2 v2 X2 q2 => ?_
  obtain ⟨rfl, rfl⟩ := q2
  refine w_if_eq X2 26 13 d8_10 (by decide) rfl rfl (fun hc10 => by exfalso; revert hc10; decide) (fun hc10 => ?_)
  refine w_new X2 (pc' := 16) d8_13 (hw _ (List.mem_of_getElem? (i := 44) rfl)) (hw _ (List.mem_of_getElem? (i := 6) rfl)) (hw _ (List.mem_of_getElem? (i := 5) rfl)) (by decide) (by decide) rfl fun T3 h3 b3 g3 gn3 X3 E3 A3 D3 => ?_
  have K_b3 : Keep h0 _ [] := (Keep.refl h0 [])
  have sz_b3 : h0.size ≤ b3 := sz_fresh g3 K_b3
  have K_5 : Keep h0 h3 [] := K_b3.ext E3
  have Fvalue_3 : Fld Z h3 b3 "java/lang/String" "value" "[B" .null := D3 (Or.inr (hw _ (List.mem_of_getElem? (i := 8) rfl))) (ty := (.array .byte)) (by decide)
  have Fcoder_3 : Fld Z h3 b3 "java/lang/String" "coder" "B" (.int (0 : Int32)) := D3 (Or.inr (hw _ (List.mem_of_getElem? (i := 9) rfl))) (ty := .byte) (by decide)
  refine w_dup X3 (pc' := 17) d8_16 rfl rfl ?_
  refine w_iloadN X3 (pc' := 18) d8_17 rfl rfl ?_
  refine w_staticV X3 (pc' := 21) d8_18 (rm_tob hw (h0 := h3) (sd_size X3) p1) (hw _ (List.mem_of_getElem? (i := 45) rfl)) (hw _ (List.mem_of_getElem? (i := 46) rfl)) (hw _ (List.mem_of_getElem? (i := 42) rfl)) (hw _ (List.mem_of_getElem? (i := 47) rfl)) (by decide) [(.int p1)] [(.ref b3), (.ref b3)] pd_10 rfl rfl rfl rfl 2 (Nat.le_refl _) (by decide) (by decide) (by decide) (by decide) rfl fun T6 h6 v6 X6 q6 => ?_
  obtain ⟨b6, rfl, g6, gn6, E6, A6⟩ := q6
  have ne_b3_b6 : b3 ≠ b6 := ne_new g6 Fvalue_3.lt
  have sz_b6 : h0.size ≤ b6 := sz_fresh g6 K_5
  have Fvalue_7 := Fld.ext E6 Fvalue_3
  have Fcoder_7 := Fld.ext E6 Fcoder_3
  have A3_7 := Exa.ext E6 A3
  have K_8 : Keep h0 h6 [] := K_5.ext E6
  refine w_iconst X6 (pc' := 22) (0 : Int32) d8_21 rfl rfl ?_
  refine w_specialN X6 (pc' := 25) d8_22 (rm_sin hw (h0 := h6) (sd_size X6) b3 b6 A3_7 Fvalue_7 Fcoder_7 gn3) (hw _ (List.mem_of_getElem? (i := 48) rfl)) (hw _ (List.mem_of_getElem? (i := 49) rfl)) (hw _ (List.mem_of_getElem? (i := 5) rfl)) (hw _ (List.mem_of_getElem? (i := 50) rfl)) rfl (by decide) [(.ref b6), (.int (0 : Int32))] [(.ref b3)] pd_11 rfl rfl rfl rfl 1 (Nat.le_refl _) (by decide) (by decide) (by decide) (by decide) rfl fun T9 h9 X9 q9 => ?_
  obtain ⟨K9, Fv9, Fc9⟩ := q9
  have A3_10 := A3_7.keep K9
  have A6_10 := A6.keep K9 (ninS (Ne.symm ne_b3_b6) nin0)
  have K_11 : Keep h0 h9 [] := K_8.trans K9 (allS (Or.inr sz_b3) all0)
  exact w_areturn X9 d8_25 rfl rfl rfl ⟨_, rfl, kext K_11, _, A3_10, Ord.of A3_10 (hw _ (List.mem_of_getElem? (i := 6) rfl)), Fc9, Fv9, A6_10⟩ (by decide) (by decide)
theorem d18_0 : decode jdk_43_method_13_code 0 = .ok (.aload_n 0, 1) := by decide +kernel
theorem d18_1 : decode jdk_43_method_13_code 1 = .ok (.arraylength, 1) := by decide +kernel
theorem d18_2 : decode jdk_43_method_13_code 2 = .ok (.aload_n 1, 1) := by decide +kernel
theorem d18_3 : decode jdk_43_method_13_code 3 = .ok (.arraylength, 1) := by decide +kernel
theorem d18_4 : decode jdk_43_method_13_code 4 = .ok (.if_icmp .ne 30, 3) := by decide +kernel
theorem d18_7 : decode jdk_43_method_13_code 7 = .ok (.iconst 0, 1) := by decide +kernel
theorem d18_8 : decode jdk_43_method_13_code 8 = .ok (.istore_n 2, 1) := by decide +kernel
theorem d18_9 : decode jdk_43_method_13_code 9 = .ok (.iload_n 2, 1) := by decide +kernel
theorem d18_10 : decode jdk_43_method_13_code 10 = .ok (.aload_n 0, 1) := by decide +kernel
theorem d18_11 : decode jdk_43_method_13_code 11 = .ok (.arraylength, 1) := by decide +kernel
theorem d18_12 : decode jdk_43_method_13_code 12 = .ok (.if_icmp .ge 20, 3) := by decide +kernel
theorem d18_15 : decode jdk_43_method_13_code 15 = .ok (.aload_n 0, 1) := by decide +kernel
theorem d18_16 : decode jdk_43_method_13_code 16 = .ok (.iload_n 2, 1) := by decide +kernel
theorem d18_17 : decode jdk_43_method_13_code 17 = .ok (.baload, 1) := by decide +kernel
theorem d18_18 : decode jdk_43_method_13_code 18 = .ok (.aload_n 1, 1) := by decide +kernel
theorem d18_19 : decode jdk_43_method_13_code 19 = .ok (.iload_n 2, 1) := by decide +kernel
theorem d18_20 : decode jdk_43_method_13_code 20 = .ok (.baload, 1) := by decide +kernel
theorem d18_21 : decode jdk_43_method_13_code 21 = .ok (.if_icmp .eq 5, 3) := by decide +kernel
theorem d18_24 : decode jdk_43_method_13_code 24 = .ok (.iconst 0, 1) := by decide +kernel
theorem d18_25 : decode jdk_43_method_13_code 25 = .ok (.ireturn, 1) := by decide +kernel
theorem d18_26 : decode jdk_43_method_13_code 26 = .ok (.iinc 2 1, 3) := by decide +kernel
theorem d18_29 : decode jdk_43_method_13_code 29 = .ok (.goto (-20), 3) := by decide +kernel
theorem d18_32 : decode jdk_43_method_13_code 32 = .ok (.iconst 1, 1) := by decide +kernel
theorem d18_33 : decode jdk_43_method_13_code 33 = .ok (.ireturn, 1) := by decide +kernel
theorem d18_34 : decode jdk_43_method_13_code 34 = .ok (.iconst 0, 1) := by decide +kernel
theorem d18_35 : decode jdk_43_method_13_code 35 = .ok (.ireturn, 1) := by decide +kernel
theorem pn_18 : plainFor (⟨"java/lang/StringLatin1", "equals", "([B[B)Z"⟩ : MethodName) = true := plainFor_of_name (by first | (simp [plainName, overriddenIn]; done) | decide +kernel)
theorem pd_18 : parseMethodDescriptor "([B[B)Z" = some ⟨[(.array .byte), (.array .byte)], some .boolean⟩ := by decide +kernel
set_option maxRecDepth 65536 in
set_option maxHeartbeats 40000000 in
theorem rm_leq {l : Launch} {Z : State} {a0 : Array Value} (hw : ∀ d ∈ tables_1, d.before a0 Z = true) {n0 : Nat} {h0 : Heap} (Z0 : n0 ≤ h0.size) (a1 a2 : Addr) {bs1 bs2 : List Int32} (A_1 : Ary Z h0 a1 .byte bs1.length (fun i => .int (bs1.getD i 0))) (A_2 : Ary Z h0 a2 .byte bs2.length (fun i => .int (bs2.getD i 0))) :
    Con l Z n0 (⟨"java/lang/StringLatin1", "equals", "([B[B)Z"⟩ : MethodName) jdk_43_method_13_code 3 (some .boolean) ({ frames := 0, cells := 0, slots := 0, locals := 0 } : Room) #[(.ref a1), (.ref a2)] h0 (Val (fun v h => v = .int (if bs1 = bs2 then 1 else 0) ∧ h0 = h)) := by
  refine con_intro pn_18 Z0 (fr := fun m => mkF m 0 #[.val (.ref a1), .val (.ref a2), .unset] []) (fun m => by first | (simp [entryFrame, mkF, argsToLocals, Value.category]; done) | rfl) ?_
  intro p e s m below s₁ hs0 X0
  have l1 := ary31 A_1
  have l2 := ary31 A_2
  refine w_aloadN X0 (pc' := 1) d18_0 rfl rfl rfl ?_
  refine w_arraylength X0 (pc' := 2) (Int32.ofNat bs1.length) d18_1 A_1 (own_nat _ l1) rfl ?_
  refine w_aloadN X0 (pc' := 3) d18_2 rfl rfl rfl ?_
  refine w_arraylength X0 (pc' := 4) (Int32.ofNat bs2.length) d18_3 A_2 (own_nat _ l2) rfl ?_
  refine w_icmp_ne X0 34 7 d18_4 (by decide) rfl rfl (fun hc4 => ?_) (fun hc4 => ?_)
  · skip
    refine w_iconst X0 (pc' := 35) (0 : Int32) d18_34 rfl rfl ?_
    exact w_zreturn X0 d18_35 ⟨by rw [if_neg (fun q => hc4 (by rw [q]))]; rfl, rfl⟩ (by decide) (by decide)
  · skip
    refine w_iconst X0 (pc' := 8) (0 : Int32) d18_7 rfl rfl ?_
    refine w_istoreN X0 (pc' := 9) (l' := #[.val (.ref a1), .val (.ref a2), .val (.int (0 : Int32))]) d18_8 rfl rfl ?_
    have hl : bs1.length = bs2.length := by have e := congrArg Int32.toInt hc4; rw [own_nat _ l1, own_nat _ l2] at e; omega
    refine w_loop (n := bs1.length) (fr := fun i => mkF m 9 #[.val (.ref a1), .val (.ref a2), .val (.int (Int32.ofNat i))] []) (fun i => ∀ j, j < i → bs1.getD j 0 = bs2.getD j 0) (fun T i X hi hI KK => ?_) (fun T X hI => ?_) bs1.length 0 (by omega) (fun j hj => absurd hj (Nat.not_lt_zero j)) s₁ X0
    · skip
      show Go p e below _ (T.setTop (mkF m 9 #[.val (.ref a1), .val (.ref a2), .val (.int (Int32.ofNat i))] []))
      refine w_iloadN X (pc' := 10) d18_9 rfl rfl ?_
      refine w_aloadN X (pc' := 11) d18_10 rfl rfl rfl ?_
      refine w_arraylength X (pc' := 12) (Int32.ofNat bs1.length) d18_11 A_1 (own_nat _ l1) rfl ?_
      refine w_icmp_ge X 32 15 d18_12 (by decide) rfl rfl (fun hc12 => by exfalso; exact hc12 (by rw [Int32.lt_iff_toInt_lt, own_nat i (by omega), own_nat _ l1]; omega)) (fun hc12 => ?_)
      refine w_aloadN X (pc' := 16) d18_15 rfl rfl rfl ?_
      refine w_iloadN X (pc' := 17) d18_16 rfl rfl ?_
      refine w_baload X (pc' := 18) i (v := (.int (bs1.getD i 0))) d18_17 A_1 (own_nat i (by omega)) hi rfl rfl ?_
      refine w_aloadN X (pc' := 19) d18_18 rfl rfl rfl ?_
      refine w_iloadN X (pc' := 20) d18_19 rfl rfl ?_
      refine w_baload X (pc' := 21) i (v := (.int (bs2.getD i 0))) d18_20 A_2 (own_nat i (by omega)) (by omega) rfl rfl ?_
      refine w_icmp_eq X 26 24 d18_21 (by decide) rfl rfl (fun hc21 => ?_) (fun hc21 => ?_)
      · skip
        refine w_iinc X (pc' := 29) ((Int32.ofNat i) + (1 : Int32)) (l' := #[.val (.ref a1), .val (.ref a2), .val (.int ((Int32.ofNat i) + (1 : Int32)))]) d18_26 rfl rfl rfl rfl ?_
        refine w_goto X (pc' := 9) d18_29 (by decide) rfl ?_
        rw [own_succ i]
        exact KK _ X (fun j hj => by by_cases q : j = i; subst q; exact hc21; exact hI j (by omega))
      · skip
        refine w_iconst X (pc' := 25) (0 : Int32) d18_24 rfl rfl ?_
        exact w_zreturn X d18_25 ⟨by rw [if_neg (fun q => hc21 (by rw [q]))]; rfl, rfl⟩ (by decide) (by decide)
    · skip
      show Go p e below _ (T.setTop (mkF m 9 #[.val (.ref a1), .val (.ref a2), .val (.int (Int32.ofNat bs1.length))] []))
      refine w_iloadN X (pc' := 10) d18_9 rfl rfl ?_
      refine w_aloadN X (pc' := 11) d18_10 rfl rfl rfl ?_
      refine w_arraylength X (pc' := 12) (Int32.ofNat bs1.length) d18_11 A_1 (own_nat _ l1) rfl ?_
      refine w_icmp_ge X 32 15 d18_12 (by decide) rfl rfl (fun hc12 => ?_) (fun hc12 => by exfalso; rw [Int32.lt_iff_toInt_lt, own_nat _ l1] at hc12; omega)
      refine w_iconst X (pc' := 33) (1 : Int32) d18_32 rfl rfl ?_
      exact w_zreturn X d18_33 ⟨by rw [if_pos (own_leq hl hI)]; rfl, rfl⟩ (by decide) (by decide)
theorem d17_0 : decode jdk_42_method_66_code 0 = .ok (.aload_n 0, 1) := by decide +kernel
theorem d17_1 : decode jdk_42_method_66_code 1 = .ok (.aload_n 1, 1) := by decide +kernel
theorem d17_2 : decode jdk_42_method_66_code 2 = .ok (.if_acmp .ne 5, 3) := by decide +kernel
theorem d17_5 : decode jdk_42_method_66_code 5 = .ok (.iconst 1, 1) := by decide +kernel
theorem d17_6 : decode jdk_42_method_66_code 6 = .ok (.ireturn, 1) := by decide +kernel
theorem d17_7 : decode jdk_42_method_66_code 7 = .ok (.aload_n 1, 1) := by decide +kernel
theorem d17_8 : decode jdk_42_method_66_code 8 = .ok (.instanceof 10, 3) := by decide +kernel
theorem d17_11 : decode jdk_42_method_66_code 11 = .ok (.ifCond .eq 43, 3) := by decide +kernel
theorem d17_14 : decode jdk_42_method_66_code 14 = .ok (.aload_n 1, 1) := by decide +kernel
theorem d17_15 : decode jdk_42_method_66_code 15 = .ok (.checkcast 10, 3) := by decide +kernel
theorem d17_18 : decode jdk_42_method_66_code 18 = .ok (.astore_n 2, 1) := by decide +kernel
theorem d17_19 : decode jdk_42_method_66_code 19 = .ok (.getstatic 38, 3) := by decide +kernel
theorem d17_22 : decode jdk_42_method_66_code 22 = .ok (.ifCond .eq 14, 3) := by decide +kernel
theorem d17_25 : decode jdk_42_method_66_code 25 = .ok (.aload_n 0, 1) := by decide +kernel
theorem d17_26 : decode jdk_42_method_66_code 26 = .ok (.getfield 15, 3) := by decide +kernel
theorem d17_29 : decode jdk_42_method_66_code 29 = .ok (.aload_n 2, 1) := by decide +kernel
theorem d17_30 : decode jdk_42_method_66_code 30 = .ok (.getfield 15, 3) := by decide +kernel
theorem d17_33 : decode jdk_42_method_66_code 33 = .ok (.if_icmp .ne 21, 3) := by decide +kernel
theorem d17_36 : decode jdk_42_method_66_code 36 = .ok (.aload_n 0, 1) := by decide +kernel
theorem d17_37 : decode jdk_42_method_66_code 37 = .ok (.getfield 9, 3) := by decide +kernel
theorem d17_40 : decode jdk_42_method_66_code 40 = .ok (.aload_n 2, 1) := by decide +kernel
theorem d17_41 : decode jdk_42_method_66_code 41 = .ok (.getfield 9, 3) := by decide +kernel
theorem d17_44 : decode jdk_42_method_66_code 44 = .ok (.invokestatic 541, 3) := by decide +kernel
theorem d17_47 : decode jdk_42_method_66_code 47 = .ok (.ifCond .eq 7, 3) := by decide +kernel
theorem d17_50 : decode jdk_42_method_66_code 50 = .ok (.iconst 1, 1) := by decide +kernel
theorem d17_51 : decode jdk_42_method_66_code 51 = .ok (.goto 4, 3) := by decide +kernel
theorem d17_54 : decode jdk_42_method_66_code 54 = .ok (.iconst 0, 1) := by decide +kernel
theorem d17_55 : decode jdk_42_method_66_code 55 = .ok (.ireturn, 1) := by decide +kernel
theorem pn_17 : plainFor (⟨"java/lang/String", "equals", "(Ljava/lang/Object;)Z"⟩ : MethodName) = true := plainFor_of_name (by first | (simp [plainName, overriddenIn]; done) | decide +kernel)
theorem pd_17 : parseMethodDescriptor "(Ljava/lang/Object;)Z" = some ⟨[(.object "java/lang/Object")], some .boolean⟩ := by decide +kernel
set_option maxRecDepth 65536 in
set_option maxHeartbeats 40000000 in
theorem rm_eq {l : Launch} {Z : State} {a0 : Array Value} (hw : ∀ d ∈ tables_1, d.before a0 Z = true) {n0 : Nat} {h0 : Heap} (Z0 : n0 ≤ h0.size) (a1 a2 : Addr) {bs1 bs2 : List Int32} (S1 : Str Z h0 a1 bs1) (S2 : Str Z h0 a2 bs2) {zc : Int32} (S_c : Sta Z h0 "java/lang/String" "COMPACT_STRINGS" "Z" (.int zc)) (hzc : ¬ zc = (0 : Int32))  :
    Con l Z n0 (⟨"java/lang/String", "equals", "(Ljava/lang/Object;)Z"⟩ : MethodName) jdk_42_method_66_code 3 (some .boolean) ({ frames := 1, cells := 0, slots := 0, locals := 14 } : Room) #[(.ref a1), (.ref a2)] h0 (Val (fun v h => v = .int (if bs1 = bs2 then 1 else 0) ∧ h0 = h)) := by
  refine con_intro pn_17 Z0 (fr := fun m => mkF m 0 #[.val (.ref a1), .val (.ref a2), .unset] []) (fun m => by first | (simp [entryFrame, mkF, argsToLocals, Value.category]; done) | rfl) ?_
  intro p e s m below s₁ hs0 X0
  obtain ⟨b1, E_1, -, Fc_1, Fv_1, A_1⟩ := id S1
  obtain ⟨b2, E_2, -, Fc_2, Fv_2, A_2⟩ := id S2
  refine w_aloadN X0 (pc' := 1) d17_0 rfl rfl rfl ?_
  refine w_aloadN X0 (pc' := 2) d17_1 rfl rfl rfl ?_
  refine w_acmp_ne X0 rfl rfl 7 5 d17_2 (by decide) rfl rfl (fun hc2 => ?_) (fun hc2 => ?_)
  · skip
    refine w_aloadN X0 (pc' := 8) d17_7 rfl rfl rfl ?_
    refine w_instanceof X0 (pc' := 11) d17_8 (hw _ (List.mem_of_getElem? (i := 44) rfl)) (Ins.self E_2) rfl fun T1 X1 => ?_
    refine w_if_eq X1 54 14 d17_11 (by decide) rfl rfl (fun hc11 => by exfalso; revert hc11; decide) (fun hc11 => ?_)
    refine w_aloadN X1 (pc' := 15) d17_14 rfl rfl rfl ?_
    refine w_checkcast X1 (pc' := 18) d17_15 (hw _ (List.mem_of_getElem? (i := 44) rfl)) (Ins.self E_2) rfl fun T2 X2 => ?_
    refine w_astoreN X2 (pc' := 19) (l' := #[.val (.ref a1), .val (.ref a2), .val (.ref a2)]) d17_18 rfl rfl rfl ?_
    refine w_getstatic X2 (pc' := 22) d17_19 (host := "") (Or.inl (hw _ (List.mem_of_getElem? (i := 24) rfl))) Via.refl S_c rfl fun T3 X3 => ?_
    refine w_if_eq X3 36 25 d17_22 (by decide) rfl rfl (fun hc22 => by exfalso; exact hzc hc22) (fun hc22 => ?_)
    refine w_aloadN X3 (pc' := 26) d17_25 rfl rfl rfl ?_
    refine w_getfield X3 (pc' := 29) d17_26 (host := "") (Or.inl (hw _ (List.mem_of_getElem? (i := 35) rfl))) Via.refl Fc_1 rfl fun T4 X4 => ?_
    refine w_aloadN X4 (pc' := 30) d17_29 rfl rfl rfl ?_
    refine w_getfield X4 (pc' := 33) d17_30 (host := "") (Or.inl (hw _ (List.mem_of_getElem? (i := 35) rfl))) Via.refl Fc_2 rfl fun T5 X5 => ?_
    refine w_icmp_ne X5 54 36 d17_33 (by decide) rfl rfl (fun hc33 => by exfalso; revert hc33; decide) (fun hc33 => ?_)
    refine w_aloadN X5 (pc' := 37) d17_36 rfl rfl rfl ?_
    refine w_getfield X5 (pc' := 40) d17_37 (host := "") (Or.inl (hw _ (List.mem_of_getElem? (i := 36) rfl))) Via.refl Fv_1 rfl fun T6 X6 => ?_
    refine w_aloadN X6 (pc' := 41) d17_40 rfl rfl rfl ?_
    refine w_getfield X6 (pc' := 44) d17_41 (host := "") (Or.inl (hw _ (List.mem_of_getElem? (i := 36) rfl))) Via.refl Fv_2 rfl fun T7 X7 => ?_
    refine w_staticV X7 (pc' := 47) d17_44 (rm_leq hw (h0 := h0) (sd_size X7) b1 b2 A_1 A_2) (hw _ (List.mem_of_getElem? (i := 96) rfl)) (hw _ (List.mem_of_getElem? (i := 97) rfl)) (hw _ (List.mem_of_getElem? (i := 42) rfl)) (hw _ (List.mem_of_getElem? (i := 98) rfl)) (by decide) [(.ref b1), (.ref b2)] [] pd_18 rfl rfl rfl rfl 0 (Nat.le_refl _) (by decide) (by decide) (by decide) (by decide) rfl fun T8 h8 v8 X8 q8 => ?_
    obtain ⟨rfl, rfl⟩ := q8
    refine w_if_eq X8 54 50 d17_47 (by decide) rfl rfl (fun hc47 => ?_) (fun hc47 => ?_)
    · skip
      refine w_iconst X8 (pc' := 55) (0 : Int32) d17_54 rfl rfl ?_
      exact w_zreturn X8 d17_55 ⟨by by_cases q : bs1 = bs2; (exact absurd (if_pos q) (fun z => by rw [z] at hc47; exact absurd hc47 (by decide))); (rw [if_neg q]; rfl), rfl⟩ (by decide) (by decide)
    · skip
      refine w_iconst X8 (pc' := 51) (1 : Int32) d17_50 rfl rfl ?_
      refine w_goto X8 (pc' := 55) d17_51 (by decide) rfl ?_
      exact w_zreturn X8 d17_55 ⟨by by_cases q : bs1 = bs2; (rw [if_pos q]; rfl); (exact absurd (if_neg q) hc47), rfl⟩ (by decide) (by decide)
  · skip
    refine w_iconst X0 (pc' := 6) (1 : Int32) d17_5 rfl rfl ?_
    exact w_zreturn X0 d17_6 ⟨by have e := Value.ref.inj hc2; subst e; rw [if_pos (S1.uniq S2)]; rfl, rfl⟩ (by decide) (by decide)
theorem own_upd2 (f : Nat → Value) (c0 c1 : Int32) (i : Nat) (hi : i < 2) : (upd (upd f 0 (.int (nar .byte c0.toInt8.toInt32))) 1 (.int (nar .byte c1.toInt8.toInt32))) i = .int ([c0.toInt8.toInt32, c1.toInt8.toInt32].getD i 0) := by
  have : i = 0 ∨ i = 1 := by omega
  rcases this with rfl | rfl
  · rw [upd_other _ _ (by decide)]; exact (upd_same _ _ _).trans (congrArg Value.int (own_i8 c0))
  · exact (upd_same _ _ _).trans (congrArg Value.int (own_i8 c1))
theorem d6_0 : decode jdk_52_method_21_code 0 = .ok (.iconst 0, 1) := by decide +kernel
theorem d6_1 : decode jdk_52_method_21_code 1 = .ok (.istore 5, 2) := by decide +kernel
theorem d6_3 : decode jdk_52_method_21_code 3 = .ok (.iload 5, 2) := by decide +kernel
theorem d6_5 : decode jdk_52_method_21_code 5 = .ok (.iload 4, 2) := by decide +kernel
theorem d6_7 : decode jdk_52_method_21_code 7 = .ok (.if_icmp .ge 37, 3) := by decide +kernel
theorem d6_10 : decode jdk_52_method_21_code 10 = .ok (.aload_n 0, 1) := by decide +kernel
theorem d6_11 : decode jdk_52_method_21_code 11 = .ok (.iload_n 1, 1) := by decide +kernel
theorem d6_12 : decode jdk_52_method_21_code 12 = .ok (.caload, 1) := by decide +kernel
theorem d6_13 : decode jdk_52_method_21_code 13 = .ok (.istore 6, 2) := by decide +kernel
theorem d6_15 : decode jdk_52_method_21_code 15 = .ok (.iload 6, 2) := by decide +kernel
theorem d6_17 : decode jdk_52_method_21_code 17 = .ok (.sipush 255, 3) := by decide +kernel
theorem d6_20 : decode jdk_52_method_21_code 20 = .ok (.if_icmp .le 6, 3) := by decide +kernel
theorem d6_23 : decode jdk_52_method_21_code 23 = .ok (.iload 5, 2) := by decide +kernel
theorem d6_25 : decode jdk_52_method_21_code 25 = .ok (.ireturn, 1) := by decide +kernel
theorem d6_26 : decode jdk_52_method_21_code 26 = .ok (.aload_n 2, 1) := by decide +kernel
theorem d6_27 : decode jdk_52_method_21_code 27 = .ok (.iload_n 3, 1) := by decide +kernel
theorem d6_28 : decode jdk_52_method_21_code 28 = .ok (.iload 6, 2) := by decide +kernel
theorem d6_30 : decode jdk_52_method_21_code 30 = .ok (.i2b, 1) := by decide +kernel
theorem d6_31 : decode jdk_52_method_21_code 31 = .ok (.bastore, 1) := by decide +kernel
theorem d6_32 : decode jdk_52_method_21_code 32 = .ok (.iinc 1 1, 3) := by decide +kernel
theorem d6_35 : decode jdk_52_method_21_code 35 = .ok (.iinc 3 1, 3) := by decide +kernel
theorem d6_38 : decode jdk_52_method_21_code 38 = .ok (.iinc 5 1, 3) := by decide +kernel
theorem d6_41 : decode jdk_52_method_21_code 41 = .ok (.goto (-38), 3) := by decide +kernel
theorem d6_44 : decode jdk_52_method_21_code 44 = .ok (.iload 4, 2) := by decide +kernel
theorem d6_46 : decode jdk_52_method_21_code 46 = .ok (.ireturn, 1) := by decide +kernel
theorem pn_6 : plainFor (⟨"java/lang/StringUTF16", "compress", "([CI[BII)I"⟩ : MethodName) = true := plainFor_of_name (by first | (simp [plainName, overriddenIn]; done) | decide +kernel)
theorem pd_6 : parseMethodDescriptor "([CI[BII)I" = some ⟨[(.array .char), .int, (.array .byte), .int, .int], some .int⟩ := by decide +kernel
set_option maxRecDepth 65536 in
set_option maxHeartbeats 40000000 in
theorem rm_cmI2 {l : Launch} {Z : State} {a0 : Array Value} (hw : ∀ d ∈ tables_1, d.before a0 Z = true) {n0 : Nat} {h0 : Heap} (Z0 : n0 ≤ h0.size) (a1 a3 : Addr) {f f3 : Nat → Value} (A_1 : Ary Z h0 a1 .char 2 f) (A_3 : Ary Z h0 a3 .byte 2 f3) (ne13 : a1 ≠ a3) (g_3 : n0 ≤ a3) {c0 : Int32} (hf0 : f 0 = .int c0) (hc0 : ¬ (255 : Int32) < c0) {c1 : Int32} (hf1 : f 1 = .int c1) (hc1 : ¬ (255 : Int32) < c1) :
    Con l Z n0 (⟨"java/lang/StringUTF16", "compress", "([CI[BII)I"⟩ : MethodName) jdk_52_method_21_code 7 (some .int) ({ frames := 0, cells := 0, slots := 0, locals := 0 } : Room) #[(.ref a1), (.int (0 : Int32)), (.ref a3), (.int (0 : Int32)), (.int (2 : Int32))] h0 (Val (fun v h => v = .int 2 ∧ Keep h0 h [a3] ∧ Ary Z h a3 .byte [c0.toInt8.toInt32, c1.toInt8.toInt32].length (fun i => .int ([c0.toInt8.toInt32, c1.toInt8.toInt32].getD i 0)))) := by
  refine con_intro pn_6 Z0 (fr := fun m => mkF m 0 #[.val (.ref a1), .val (.int (0 : Int32)), .val (.ref a3), .val (.int (0 : Int32)), .val (.int (2 : Int32)), .unset, .unset] []) (fun m => by first | (simp [entryFrame, mkF, argsToLocals, Value.category]; done) | rfl) ?_
  intro p e s m below s₁ hs0 X0
  refine w_iconst X0 (pc' := 1) (0 : Int32) d6_0 rfl rfl ?_
  refine w_istore X0 (pc' := 3) (l' := #[.val (.ref a1), .val (.int (0 : Int32)), .val (.ref a3), .val (.int (0 : Int32)), .val (.int (2 : Int32)), .val (.int (0 : Int32)), .unset]) d6_1 rfl rfl ?_
  refine w_iload X0 (pc' := 5) d6_3 rfl rfl ?_
  refine w_iload X0 (pc' := 7) d6_5 rfl rfl ?_
  refine w_icmp_ge X0 44 10 d6_7 (by decide) rfl rfl (fun hc7 => by exfalso; revert hc7; decide) (fun hc7 => ?_)
  refine w_aloadN X0 (pc' := 11) d6_10 rfl rfl rfl ?_
  refine w_iloadN X0 (pc' := 12) d6_11 rfl rfl ?_
  refine w_caload X0 (pc' := 13) 0 (v := (.int c0)) d6_12 A_1 (by decide) (by decide) hf0 rfl ?_
  refine w_istore X0 (pc' := 15) (l' := #[.val (.ref a1), .val (.int (0 : Int32)), .val (.ref a3), .val (.int (0 : Int32)), .val (.int (2 : Int32)), .val (.int (0 : Int32)), .val (.int c0)]) d6_13 rfl rfl ?_
  refine w_iload X0 (pc' := 17) d6_15 rfl rfl ?_
  refine w_sipush X0 (pc' := 20) (255 : Int32) d6_17 rfl rfl ?_
  refine w_icmp_le X0 26 23 d6_20 (by decide) rfl rfl (fun hc20 => ?_) (fun hc20 => by exfalso; exact hc0 hc20)
  refine w_aloadN X0 (pc' := 27) d6_26 rfl rfl rfl ?_
  refine w_iloadN X0 (pc' := 28) d6_27 rfl rfl ?_
  refine w_iload X0 (pc' := 30) d6_28 rfl rfl ?_
  refine w_i2b X0 (pc' := 31) d6_30 rfl ?_
  refine w_bastore X0 (pc' := 32) 0 d6_31 A_3 (by decide) (by decide) g_3 rfl fun T1 h1 X1 W1 A1 => ?_
  have A_2 := A_1.other W1 ne13
  have K_3r : Keep h0 _ [a3] := (Keep.refl h0 [a3])
  have K_3 : Keep h0 h1 [a3] := K_3r.wr W1 (Or.inl (List.mem_of_getElem? (i := 0) rfl))
  refine w_iinc X1 (pc' := 35) ((0 : Int32) + (1 : Int32)) (l' := #[.val (.ref a1), .val (.int ((0 : Int32) + (1 : Int32))), .val (.ref a3), .val (.int (0 : Int32)), .val (.int (2 : Int32)), .val (.int (0 : Int32)), .val (.int c0)]) d6_32 rfl rfl rfl rfl ?_
  refine w_iinc X1 (pc' := 38) ((0 : Int32) + (1 : Int32)) (l' := #[.val (.ref a1), .val (.int ((0 : Int32) + (1 : Int32))), .val (.ref a3), .val (.int ((0 : Int32) + (1 : Int32))), .val (.int (2 : Int32)), .val (.int (0 : Int32)), .val (.int c0)]) d6_35 rfl rfl rfl rfl ?_
  refine w_iinc X1 (pc' := 41) ((0 : Int32) + (1 : Int32)) (l' := #[.val (.ref a1), .val (.int ((0 : Int32) + (1 : Int32))), .val (.ref a3), .val (.int ((0 : Int32) + (1 : Int32))), .val (.int (2 : Int32)), .val (.int ((0 : Int32) + (1 : Int32))), .val (.int c0)]) d6_38 rfl rfl rfl rfl ?_
  refine w_goto X1 (pc' := 3) d6_41 (by decide) rfl ?_
  refine w_iload X1 (pc' := 5) d6_3 rfl rfl ?_
  refine w_iload X1 (pc' := 7) d6_5 rfl rfl ?_
  refine w_icmp_ge X1 44 10 d6_7 (by decide) rfl rfl (fun hc7 => by exfalso; revert hc7; decide) (fun hc7 => ?_)
  refine w_aloadN X1 (pc' := 11) d6_10 rfl rfl rfl ?_
  refine w_iloadN X1 (pc' := 12) d6_11 rfl rfl ?_
  refine w_caload X1 (pc' := 13) 1 (v := (.int c1)) d6_12 A_2 (by decide) (by decide) hf1 rfl ?_
  refine w_istore X1 (pc' := 15) (l' := #[.val (.ref a1), .val (.int ((0 : Int32) + (1 : Int32))), .val (.ref a3), .val (.int ((0 : Int32) + (1 : Int32))), .val (.int (2 : Int32)), .val (.int ((0 : Int32) + (1 : Int32))), .val (.int c1)]) d6_13 rfl rfl ?_
  refine w_iload X1 (pc' := 17) d6_15 rfl rfl ?_
  refine w_sipush X1 (pc' := 20) (255 : Int32) d6_17 rfl rfl ?_
  refine w_icmp_le X1 26 23 d6_20 (by decide) rfl rfl (fun hc20 => ?_) (fun hc20 => by exfalso; exact hc1 hc20)
  refine w_aloadN X1 (pc' := 27) d6_26 rfl rfl rfl ?_
  refine w_iloadN X1 (pc' := 28) d6_27 rfl rfl ?_
  refine w_iload X1 (pc' := 30) d6_28 rfl rfl ?_
  refine w_i2b X1 (pc' := 31) d6_30 rfl ?_
  refine w_bastore X1 (pc' := 32) 1 d6_31 A1 (by decide) (by decide) g_3 rfl fun T4 h4 X4 W4 A4 => ?_
  have A_5 := A_2.other W4 ne13
  have K_6 : Keep h0 h4 [a3] := K_3.wr W4 (Or.inl (List.mem_of_getElem? (i := 0) rfl))
  refine w_iinc X4 (pc' := 35) (((0 : Int32) + (1 : Int32)) + (1 : Int32)) (l' := #[.val (.ref a1), .val (.int (((0 : Int32) + (1 : Int32)) + (1 : Int32))), .val (.ref a3), .val (.int ((0 : Int32) + (1 : Int32))), .val (.int (2 : Int32)), .val (.int ((0 : Int32) + (1 : Int32))), .val (.int c1)]) d6_32 rfl rfl rfl rfl ?_
  refine w_iinc X4 (pc' := 38) (((0 : Int32) + (1 : Int32)) + (1 : Int32)) (l' := #[.val (.ref a1), .val (.int (((0 : Int32) + (1 : Int32)) + (1 : Int32))), .val (.ref a3), .val (.int (((0 : Int32) + (1 : Int32)) + (1 : Int32))), .val (.int (2 : Int32)), .val (.int ((0 : Int32) + (1 : Int32))), .val (.int c1)]) d6_35 rfl rfl rfl rfl ?_
  refine w_iinc X4 (pc' := 41) (((0 : Int32) + (1 : Int32)) + (1 : Int32)) (l' := #[.val (.ref a1), .val (.int (((0 : Int32) + (1 : Int32)) + (1 : Int32))), .val (.ref a3), .val (.int (((0 : Int32) + (1 : Int32)) + (1 : Int32))), .val (.int (2 : Int32)), .val (.int (((0 : Int32) + (1 : Int32)) + (1 : Int32))), .val (.int c1)]) d6_38 rfl rfl rfl rfl ?_
  refine w_goto X4 (pc' := 3) d6_41 (by decide) rfl ?_
  refine w_iload X4 (pc' := 5) d6_3 rfl rfl ?_
  refine w_iload X4 (pc' := 7) d6_5 rfl rfl ?_
  refine w_icmp_ge X4 44 10 d6_7 (by decide) rfl rfl (fun hc7 => ?_) (fun hc7 => by exfalso; revert hc7; decide)
  refine w_iload X4 (pc' := 46) d6_44 rfl rfl ?_
  exact w_ireturn X4 d6_46 ⟨rfl, K_6, A4.congr (own_upd2 f3 c0 c1)⟩ (by decide) (by decide)
theorem d5_0 : decode jdk_52_method_16_code 0 = .ok (.iload_n 2, 1) := by decide +kernel
theorem d5_1 : decode jdk_52_method_16_code 1 = .ok (.newarray .byte, 2) := by decide +kernel
theorem d5_3 : decode jdk_52_method_16_code 3 = .ok (.astore_n 3, 1) := by decide +kernel
theorem d5_4 : decode jdk_52_method_16_code 4 = .ok (.aload_n 0, 1) := by decide +kernel
theorem d5_5 : decode jdk_52_method_16_code 5 = .ok (.iload_n 1, 1) := by decide +kernel
theorem d5_6 : decode jdk_52_method_16_code 6 = .ok (.aload_n 3, 1) := by decide +kernel
theorem d5_7 : decode jdk_52_method_16_code 7 = .ok (.iconst 0, 1) := by decide +kernel
theorem d5_8 : decode jdk_52_method_16_code 8 = .ok (.iload_n 2, 1) := by decide +kernel
theorem d5_9 : decode jdk_52_method_16_code 9 = .ok (.invokestatic 115, 3) := by decide +kernel
theorem d5_12 : decode jdk_52_method_16_code 12 = .ok (.istore 4, 2) := by decide +kernel
theorem d5_14 : decode jdk_52_method_16_code 14 = .ok (.iload 4, 2) := by decide +kernel
theorem d5_16 : decode jdk_52_method_16_code 16 = .ok (.iload_n 2, 1) := by decide +kernel
theorem d5_17 : decode jdk_52_method_16_code 17 = .ok (.if_icmp .eq 40, 3) := by decide +kernel
theorem d5_20 : decode jdk_52_method_16_code 20 = .ok (.aload_n 0, 1) := by decide +kernel
theorem d5_21 : decode jdk_52_method_16_code 21 = .ok (.iload_n 1, 1) := by decide +kernel
theorem d5_22 : decode jdk_52_method_16_code 22 = .ok (.iload_n 2, 1) := by decide +kernel
theorem d5_23 : decode jdk_52_method_16_code 23 = .ok (.invokestatic 119, 3) := by decide +kernel
theorem d5_26 : decode jdk_52_method_16_code 26 = .ok (.astore 5, 2) := by decide +kernel
theorem d5_28 : decode jdk_52_method_16_code 28 = .ok (.aload 5, 2) := by decide +kernel
theorem d5_30 : decode jdk_52_method_16_code 30 = .ok (.iload 4, 2) := by decide +kernel
theorem d5_32 : decode jdk_52_method_16_code 32 = .ok (.invokestatic 71, 3) := by decide +kernel
theorem d5_35 : decode jdk_52_method_16_code 35 = .ok (.sipush 255, 3) := by decide +kernel
theorem d5_38 : decode jdk_52_method_16_code 38 = .ok (.if_icmp .gt 16, 3) := by decide +kernel
theorem d5_41 : decode jdk_52_method_16_code 41 = .ok (.aload 5, 2) := by decide +kernel
theorem d5_43 : decode jdk_52_method_16_code 43 = .ok (.iconst 0, 1) := by decide +kernel
theorem d5_44 : decode jdk_52_method_16_code 44 = .ok (.aload_n 3, 1) := by decide +kernel
theorem d5_45 : decode jdk_52_method_16_code 45 = .ok (.iconst 0, 1) := by decide +kernel
theorem d5_46 : decode jdk_52_method_16_code 46 = .ok (.iload_n 2, 1) := by decide +kernel
theorem d5_47 : decode jdk_52_method_16_code 47 = .ok (.invokestatic 123, 3) := by decide +kernel
theorem d5_50 : decode jdk_52_method_16_code 50 = .ok (.iload_n 2, 1) := by decide +kernel
theorem d5_51 : decode jdk_52_method_16_code 51 = .ok (.if_icmp .eq 6, 3) := by decide +kernel
theorem d5_54 : decode jdk_52_method_16_code 54 = .ok (.aload 5, 2) := by decide +kernel
theorem d5_56 : decode jdk_52_method_16_code 56 = .ok (.areturn, 1) := by decide +kernel
theorem d5_57 : decode jdk_52_method_16_code 57 = .ok (.aload_n 3, 1) := by decide +kernel
theorem d5_58 : decode jdk_52_method_16_code 58 = .ok (.areturn, 1) := by decide +kernel
theorem pn_5 : plainFor (⟨"java/lang/StringUTF16", "compress", "([CII)[B"⟩ : MethodName) = true := plainFor_of_name (by first | (simp [plainName, overriddenIn]; done) | decide +kernel)
theorem pd_5 : parseMethodDescriptor "([CII)[B" = some ⟨[(.array .char), .int, .int], some (.array .byte)⟩ := by decide +kernel
set_option maxRecDepth 65536 in
set_option maxHeartbeats 40000000 in
theorem rm_cmB2 {l : Launch} {Z : State} {a0 : Array Value} (hw : ∀ d ∈ tables_1, d.before a0 Z = true) {n0 : Nat} {h0 : Heap} (Z0 : n0 ≤ h0.size) (a1 : Addr) {f : Nat → Value} (A_1 : Ary Z h0 a1 .char 2 f) {c0 : Int32} (hf0 : f 0 = .int c0) (hc0 : ¬ (255 : Int32) < c0) {c1 : Int32} (hf1 : f 1 = .int c1) (hc1 : ¬ (255 : Int32) < c1) :
    Con l Z n0 (⟨"java/lang/StringUTF16", "compress", "([CII)[B"⟩ : MethodName) jdk_52_method_16_code 6 (some (.array .byte)) ({ frames := 1, cells := 1, slots := 2, locals := 18 } : Room) #[(.ref a1), (.int (0 : Int32)), (.int (2 : Int32))] h0 (Val (fun v h => ∃ b : Addr, v = .ref b ∧ b = h0.size ∧ n0 ≤ b ∧ Keep h0 h [] ∧ Ary Z h b .byte [c0.toInt8.toInt32, c1.toInt8.toInt32].length (fun i => .int ([c0.toInt8.toInt32, c1.toInt8.toInt32].getD i 0)))) := by
  refine con_intro pn_5 Z0 (fr := fun m => mkF m 0 #[.val (.ref a1), .val (.int (0 : Int32)), .val (.int (2 : Int32)), .unset, .unset, .unset] []) (fun m => by first | (simp [entryFrame, mkF, argsToLocals, Value.category]; done) | rfl) ?_
  intro p e s m below s₁ hs0 X0
  refine w_iloadN X0 (pc' := 1) d5_0 rfl rfl ?_
  refine w_newarray X0 (pc' := 3) 2 2 d5_1 (hw _ (List.mem_of_getElem? (i := 7) rfl)) (by decide) (by decide) (by decide) (by decide) (by decide) rfl fun T1 h1 b1 g1 gn1 X1 E1 A1 => ?_
  have ne_a1_b1 : a1 ≠ b1 := ne_new g1 A_1.lt
  have K_b1 : Keep h0 _ [] := (Keep.refl h0 [])
  have sz_b1 : h0.size ≤ b1 := sz_fresh g1 K_b1
  have A_2 := A_1.ext E1
  have K_3 : Keep h0 h1 [] := K_b1.ext E1
  replace A1 : Ary Z h1 b1 .byte 2 (fun _ => (.int (0 : Int32))) := A1
  refine w_astoreN X1 (pc' := 4) (l' := #[.val (.ref a1), .val (.int (0 : Int32)), .val (.int (2 : Int32)), .val (.ref b1), .unset, .unset]) d5_3 rfl rfl rfl ?_
  refine w_aloadN X1 (pc' := 5) d5_4 rfl rfl rfl ?_
  refine w_iloadN X1 (pc' := 6) d5_5 rfl rfl ?_
  refine w_aloadN X1 (pc' := 7) d5_6 rfl rfl rfl ?_
  refine w_iconst X1 (pc' := 8) (0 : Int32) d5_7 rfl rfl ?_
  refine w_iloadN X1 (pc' := 9) d5_8 rfl rfl ?_
  refine w_staticV X1 (pc' := 12) d5_9 (rm_cmI2 hw (h0 := h1) (sd_size X1) a1 b1 A_2 A1 ne_a1_b1 gn1 hf0 hc0 hf1 hc1) (hw _ (List.mem_of_getElem? (i := 29) rfl)) (hw _ (List.mem_of_getElem? (i := 30) rfl)) (hw _ (List.mem_of_getElem? (i := 27) rfl)) (hw _ (List.mem_of_getElem? (i := 31) rfl)) (by decide) [(.ref a1), (.int (0 : Int32)), (.ref b1), (.int (0 : Int32)), (.int (2 : Int32))] [] pd_6 rfl rfl rfl rfl 0 (Nat.le_refl _) (by decide) (by decide) (by decide) (by decide) rfl fun T4 h4 v4 X4 q4 => ?_
  obtain ⟨rfl, K4, A4⟩ := q4
  have A_5 := A_2.keep K4 (ninS ne_a1_b1 nin0)
  have K_6 : Keep h0 h4 [] := K_3.trans K4 (allS (Or.inr sz_b1) all0)
  refine w_istore X4 (pc' := 14) (l' := #[.val (.ref a1), .val (.int (0 : Int32)), .val (.int (2 : Int32)), .val (.ref b1), .val (.int (2 : Int32)), .unset]) d5_12 rfl rfl ?_
  refine w_iload X4 (pc' := 16) d5_14 rfl rfl ?_
  refine w_iloadN X4 (pc' := 17) d5_16 rfl rfl ?_
  refine w_icmp_eq X4 57 20 d5_17 (by decide) rfl rfl (fun hc17 => ?_) (fun hc17 => by exfalso; revert hc17; decide)
  refine w_aloadN X4 (pc' := 58) d5_57 rfl rfl rfl ?_
  exact w_areturn X4 d5_58 rfl rfl rfl ⟨_, rfl, g1, gn1, K_6, A4⟩ (by decide) (by decide)
theorem d7_0 : decode jdk_52_method_15_code 0 = .ok (.iload_n 1, 1) := by decide +kernel
theorem d7_1 : decode jdk_52_method_15_code 1 = .ok (.aload_n 0, 1) := by decide +kernel
theorem d7_2 : decode jdk_52_method_15_code 2 = .ok (.arraylength, 1) := by decide +kernel
theorem d7_3 : decode jdk_52_method_15_code 3 = .ok (.isub, 1) := by decide +kernel
theorem d7_4 : decode jdk_52_method_15_code 4 = .ok (.bipush 31, 2) := by decide +kernel
theorem d7_6 : decode jdk_52_method_15_code 6 = .ok (.iushr, 1) := by decide +kernel
theorem d7_7 : decode jdk_52_method_15_code 7 = .ok (.i2b, 1) := by decide +kernel
theorem d7_8 : decode jdk_52_method_15_code 8 = .ok (.ireturn, 1) := by decide +kernel
theorem pn_7 : plainFor (⟨"java/lang/StringUTF16", "coderFromArrayLen", "([BI)B"⟩ : MethodName) = true := plainFor_of_name (by first | (simp [plainName, overriddenIn]; done) | decide +kernel)
theorem pd_7 : parseMethodDescriptor "([BI)B" = some ⟨[(.array .byte), .int], some .byte⟩ := by decide +kernel
set_option maxRecDepth 65536 in
set_option maxHeartbeats 40000000 in
theorem rm_cod2 {l : Launch} {Z : State} {a0 : Array Value} (hw : ∀ d ∈ tables_1, d.before a0 Z = true) {n0 : Nat} {h0 : Heap} (Z0 : n0 ≤ h0.size) (a1 : Addr) {f : Nat → Value} (A_1 : Ary Z h0 a1 .byte 2 f) :
    Con l Z n0 (⟨"java/lang/StringUTF16", "coderFromArrayLen", "([BI)B"⟩ : MethodName) jdk_52_method_15_code 2 (some .byte) ({ frames := 0, cells := 0, slots := 0, locals := 0 } : Room) #[(.ref a1), (.int (2 : Int32))] h0 (Val (fun v h => v = .int 0 ∧ h0 = h)) := by
  refine con_intro pn_7 Z0 (fr := fun m => mkF m 0 #[.val (.ref a1), .val (.int (2 : Int32))] []) (fun m => by first | (simp [entryFrame, mkF, argsToLocals, Value.category]; done) | rfl) ?_
  intro p e s m below s₁ hs0 X0
  refine w_iloadN X0 (pc' := 1) d7_0 rfl rfl ?_
  refine w_aloadN X0 (pc' := 2) d7_1 rfl rfl rfl ?_
  refine w_arraylength X0 (pc' := 3) (2 : Int32) d7_2 A_1 (by decide) rfl ?_
  refine w_isub X0 (pc' := 4) d7_3 rfl ?_
  refine w_bipush X0 (pc' := 6) (31 : Int32) d7_4 rfl rfl ?_
  refine w_iushr X0 (pc' := 7) d7_6 rfl ?_
  refine w_i2b X0 (pc' := 8) d7_7 rfl ?_
  exact w_breturn X0 d7_8 ⟨by decide, rfl⟩ (by decide) (by decide)
theorem d3_0 : decode jdk_42_method_149_code 0 = .ok (.aload_n 0, 1) := by decide +kernel
theorem d3_1 : decode jdk_42_method_149_code 1 = .ok (.invokespecial 1, 3) := by decide +kernel
theorem d3_4 : decode jdk_42_method_149_code 4 = .ok (.iload_n 3, 1) := by decide +kernel
theorem d3_5 : decode jdk_42_method_149_code 5 = .ok (.ifCond .ne 22, 3) := by decide +kernel
theorem d3_8 : decode jdk_42_method_149_code 8 = .ok (.aload_n 0, 1) := by decide +kernel
theorem d3_9 : decode jdk_42_method_149_code 9 = .ok (.ldc 7, 2) := by decide +kernel
theorem d3_11 : decode jdk_42_method_149_code 11 = .ok (.getfield 9, 3) := by decide +kernel
theorem d3_14 : decode jdk_42_method_149_code 14 = .ok (.putfield 9, 3) := by decide +kernel
theorem d3_17 : decode jdk_42_method_149_code 17 = .ok (.aload_n 0, 1) := by decide +kernel
theorem d3_18 : decode jdk_42_method_149_code 18 = .ok (.ldc 7, 2) := by decide +kernel
theorem d3_20 : decode jdk_42_method_149_code 20 = .ok (.getfield 15, 3) := by decide +kernel
theorem d3_23 : decode jdk_42_method_149_code 23 = .ok (.putfield 15, 3) := by decide +kernel
theorem d3_26 : decode jdk_42_method_149_code 26 = .ok (.return_, 1) := by decide +kernel
theorem d3_27 : decode jdk_42_method_149_code 27 = .ok (.getstatic 38, 3) := by decide +kernel
theorem d3_30 : decode jdk_42_method_149_code 30 = .ok (.ifCond .eq 28, 3) := by decide +kernel
theorem d3_33 : decode jdk_42_method_149_code 33 = .ok (.aload_n 1, 1) := by decide +kernel
theorem d3_34 : decode jdk_42_method_149_code 34 = .ok (.iload_n 2, 1) := by decide +kernel
theorem d3_35 : decode jdk_42_method_149_code 35 = .ok (.iload_n 3, 1) := by decide +kernel
theorem d3_36 : decode jdk_42_method_149_code 36 = .ok (.invokestatic 177, 3) := by decide +kernel
theorem d3_39 : decode jdk_42_method_149_code 39 = .ok (.astore 5, 2) := by decide +kernel
theorem d3_41 : decode jdk_42_method_149_code 41 = .ok (.aload_n 0, 1) := by decide +kernel
theorem d3_42 : decode jdk_42_method_149_code 42 = .ok (.aload 5, 2) := by decide +kernel
theorem d3_44 : decode jdk_42_method_149_code 44 = .ok (.iload_n 3, 1) := by decide +kernel
theorem d3_45 : decode jdk_42_method_149_code 45 = .ok (.invokestatic 47, 3) := by decide +kernel
theorem d3_48 : decode jdk_42_method_149_code 48 = .ok (.putfield 15, 3) := by decide +kernel
theorem d3_51 : decode jdk_42_method_149_code 51 = .ok (.aload_n 0, 1) := by decide +kernel
theorem d3_52 : decode jdk_42_method_149_code 52 = .ok (.aload 5, 2) := by decide +kernel
theorem d3_54 : decode jdk_42_method_149_code 54 = .ok (.putfield 9, 3) := by decide +kernel
theorem d3_57 : decode jdk_42_method_149_code 57 = .ok (.return_, 1) := by decide +kernel
theorem d3_58 : decode jdk_42_method_149_code 58 = .ok (.aload_n 0, 1) := by decide +kernel
theorem d3_59 : decode jdk_42_method_149_code 59 = .ok (.iconst 1, 1) := by decide +kernel
theorem d3_60 : decode jdk_42_method_149_code 60 = .ok (.putfield 15, 3) := by decide +kernel
theorem d3_63 : decode jdk_42_method_149_code 63 = .ok (.aload_n 0, 1) := by decide +kernel
theorem d3_64 : decode jdk_42_method_149_code 64 = .ok (.aload_n 1, 1) := by decide +kernel
theorem d3_65 : decode jdk_42_method_149_code 65 = .ok (.iload_n 2, 1) := by decide +kernel
theorem d3_66 : decode jdk_42_method_149_code 66 = .ok (.iload_n 3, 1) := by decide +kernel
theorem d3_67 : decode jdk_42_method_149_code 67 = .ok (.invokestatic 180, 3) := by decide +kernel
theorem d3_70 : decode jdk_42_method_149_code 70 = .ok (.putfield 9, 3) := by decide +kernel
theorem d3_73 : decode jdk_42_method_149_code 73 = .ok (.return_, 1) := by decide +kernel
theorem pn_3 : plainFor (⟨"java/lang/String", "<init>", "([CIILjava/lang/Void;)V"⟩ : MethodName) = true := plainFor_of_name (by first | (simp [plainName, overriddenIn]; done) | decide +kernel)
theorem pd_3 : parseMethodDescriptor "([CIILjava/lang/Void;)V" = some ⟨[(.array .char), .int, .int, (.object "java/lang/Void")], none⟩ := by decide +kernel
set_option maxRecDepth 65536 in
set_option maxHeartbeats 40000000 in
theorem rm_sv2 {l : Launch} {Z : State} {a0 : Array Value} (hw : ∀ d ∈ tables_1, d.before a0 Z = true) {n0 : Nat} {h0 : Heap} (Z0 : n0 ≤ h0.size) (a1 a2 : Addr) {f : Nat → Value} {zc : Int32} {u1 u2 : Value} (E_1 : Exa Z h0 a1 "java/lang/String") (F_v : Fld Z h0 a1 "java/lang/String" "value" "[B" u1) (F_c : Fld Z h0 a1 "java/lang/String" "coder" "B" u2) (g_1 : n0 ≤ a1) (A_2 : Ary Z h0 a2 .char 2 f) (ne12 : a1 ≠ a2) (S_c : Sta Z h0 "java/lang/String" "COMPACT_STRINGS" "Z" (.int zc)) (hzc : ¬ zc = (0 : Int32)) {c0 : Int32} (hf0 : f 0 = .int c0) (hc0 : ¬ (255 : Int32) < c0) {c1 : Int32} (hf1 : f 1 = .int c1) (hc1 : ¬ (255 : Int32) < c1) :
    Con l Z n0 (⟨"java/lang/String", "<init>", "([CIILjava/lang/Void;)V"⟩ : MethodName) jdk_42_method_149_code 6 none ({ frames := 2, cells := 1, slots := 2, locals := 35 } : Room) #[(.ref a1), (.ref a2), (.int (0 : Int32)), (.int (2 : Int32)), .null] h0 (Non (fun h => Keep h0 h [a1] ∧ Str Z h a1 [c0.toInt8.toInt32, c1.toInt8.toInt32])) := by
  refine con_intro pn_3 Z0 (fr := fun m => mkF m 0 #[.val (.ref a1), .val (.ref a2), .val (.int (0 : Int32)), .val (.int (2 : Int32)), .val .null, .unset] []) (fun m => by first | (simp [entryFrame, mkF, argsToLocals, Value.category]; done) | rfl) ?_
  intro p e s m below s₁ hs0 X0
  refine w_aloadN X0 (pc' := 1) d3_0 rfl rfl rfl ?_
  refine w_initO X0 (pc' := 4) d3_1 (hw _ (List.mem_of_getElem? (i := 21) rfl)) (hw _ (List.mem_of_getElem? (i := 22) rfl)) (hw _ (List.mem_of_getElem? (i := 23) rfl)) rfl (by decide) 0 (Nat.le_refl _) (by decide) rfl fun T1 X1 => ?_
  refine w_iloadN X1 (pc' := 5) d3_4 rfl rfl ?_
  refine w_if_ne X1 27 8 d3_5 (by decide) rfl rfl (fun hc5 => ?_) (fun hc5 => by exfalso; revert hc5; decide)
  refine w_getstatic X1 (pc' := 30) d3_27 (host := "") (Or.inl (hw _ (List.mem_of_getElem? (i := 24) rfl))) Via.refl S_c rfl fun T2 X2 => ?_
  refine w_if_eq X2 58 33 d3_30 (by decide) rfl rfl (fun hc30 => by exfalso; exact hzc hc30) (fun hc30 => ?_)
  refine w_aloadN X2 (pc' := 34) d3_33 rfl rfl rfl ?_
  refine w_iloadN X2 (pc' := 35) d3_34 rfl rfl ?_
  refine w_iloadN X2 (pc' := 36) d3_35 rfl rfl ?_
  refine w_staticV X2 (pc' := 39) d3_36 (rm_cmB2 hw (h0 := h0) (sd_size X2) a2 A_2 hf0 hc0 hf1 hc1) (hw _ (List.mem_of_getElem? (i := 25) rfl)) (hw _ (List.mem_of_getElem? (i := 26) rfl)) (hw _ (List.mem_of_getElem? (i := 27) rfl)) (hw _ (List.mem_of_getElem? (i := 28) rfl)) (by decide) [(.ref a2), (.int (0 : Int32)), (.int (2 : Int32))] [] pd_5 rfl rfl rfl rfl 0 (Nat.le_refl _) (by decide) (by decide) (by decide) (by decide) rfl fun T3 h3 v3 X3 q3 => ?_
  obtain ⟨b3, rfl, g3, gn3, K3, A3⟩ := q3
  have ne_a1_b3 : a1 ≠ b3 := ne_new g3 F_v.lt
  have ne_a2_b3 : a2 ≠ b3 := ne_new g3 A_2.lt
  have K_b3 : Keep h0 _ [a1] := (Keep.refl h0 [a1])
  have sz_b3 : h0.size ≤ b3 := sz_fresh g3 K_b3
  have F_v_4 := F_v.keep K3 nin0
  have F_c_4 := F_c.keep K3 nin0
  have E_4 := E_1.keep K3
  have A_4 := A_2.keep K3 nin0
  have K_5 : Keep h0 h3 [a1] := K_b3.trans K3 all0
  refine w_astore X3 (pc' := 41) (l' := #[.val (.ref a1), .val (.ref a2), .val (.int (0 : Int32)), .val (.int (2 : Int32)), .val .null, .val (.ref b3)]) d3_39 rfl rfl rfl ?_
  refine w_aloadN X3 (pc' := 42) d3_41 rfl rfl rfl ?_
  refine w_aload X3 (pc' := 44) d3_42 rfl rfl rfl ?_
  refine w_iloadN X3 (pc' := 45) d3_44 rfl rfl ?_
  refine w_staticV X3 (pc' := 48) d3_45 (rm_cod2 hw (h0 := h3) (sd_size X3) b3 A3) (hw _ (List.mem_of_getElem? (i := 32) rfl)) (hw _ (List.mem_of_getElem? (i := 33) rfl)) (hw _ (List.mem_of_getElem? (i := 27) rfl)) (hw _ (List.mem_of_getElem? (i := 34) rfl)) (by decide) [(.ref b3), (.int (2 : Int32))] [(.ref a1)] pd_7 rfl rfl rfl rfl 1 (Nat.le_refl _) (by decide) (by decide) (by decide) (by decide) rfl fun T6 h6 v6 X6 q6 => ?_
  obtain ⟨rfl, rfl⟩ := q6
  refine w_putfieldN X6 (pc' := 51) d3_48 (hw _ (List.mem_of_getElem? (i := 35) rfl)) Via.refl F_c_4 E_4 (Or.inr ⟨(hw _ (List.mem_of_getElem? (i := 9) rfl)), rfl, rfl⟩) (hw _ (List.mem_of_getElem? (i := 6) rfl)) (ty := .byte) (v' := (.int (nar .byte (0 : Int32)))) (by decide) rfl (fits_nar_byte _) g_1 rfl fun T7 h7 X7 W7 F7 => ?_
  have F_v_8 := Fld.other W7 F_v_4 (Or.inr (slot_ne (C := "java/lang/String") (Or.inr (hw _ (List.mem_of_getElem? (i := 8) rfl))) (Or.inr (hw _ (List.mem_of_getElem? (i := 9) rfl))) (by decide) (t := (.array .byte)) (t' := .byte) (by decide) (by decide)))
  have E_8 := Exa.wr W7 E_4
  have A_8 := A_4.other W7 (Ne.symm ne12)
  have A3_8 := A3.other W7 (Ne.symm ne_a1_b3)
  have K_9 : Keep h0 h7 [a1] := K_5.wr W7 (Or.inl (List.mem_of_getElem? (i := 0) rfl))
  refine w_aloadN X7 (pc' := 52) d3_51 rfl rfl rfl ?_
  refine w_aload X7 (pc' := 54) d3_52 rfl rfl rfl ?_
  refine w_putfield X7 (pc' := 57) d3_54 (host := "") (Or.inl (hw _ (List.mem_of_getElem? (i := 36) rfl))) Via.refl F_v_8 E_8 (Or.inr ⟨(hw _ (List.mem_of_getElem? (i := 8) rfl)), rfl, rfl⟩) (hw _ (List.mem_of_getElem? (i := 6) rfl)) (ty := (.array .byte)) (by decide) rfl rfl g_1 rfl fun T10 h10 X10 W10 F10 => ?_
  have F7_11 := Fld.other W10 F7 (Or.inr (slot_ne (C := "java/lang/String") (Or.inr (hw _ (List.mem_of_getElem? (i := 9) rfl))) (Or.inr (hw _ (List.mem_of_getElem? (i := 8) rfl))) (by decide) (t := .byte) (t' := (.array .byte)) (by decide) (by decide)))
  have E_11 := Exa.wr W10 E_8
  have A_11 := A_8.other W10 (Ne.symm ne12)
  have A3_11 := A3_8.other W10 (Ne.symm ne_a1_b3)
  have K_12 : Keep h0 h10 [a1] := K_9.wr W10 (Or.inl (List.mem_of_getElem? (i := 0) rfl))
  exact w_return X10 d3_57 ⟨K_12, b3, E_11, Ord.of E_11 (hw _ (List.mem_of_getElem? (i := 6) rfl)), F7_11, F10, A3_11⟩ (by decide) (by decide)
theorem d2_0 : decode jdk_42_method_3_code 0 = .ok (.aload_n 0, 1) := by decide +kernel
theorem d2_1 : decode jdk_42_method_3_code 1 = .ok (.aload_n 1, 1) := by decide +kernel
theorem d2_2 : decode jdk_42_method_3_code 2 = .ok (.iconst 0, 1) := by decide +kernel
theorem d2_3 : decode jdk_42_method_3_code 3 = .ok (.aload_n 1, 1) := by decide +kernel
theorem d2_4 : decode jdk_42_method_3_code 4 = .ok (.arraylength, 1) := by decide +kernel
theorem d2_5 : decode jdk_42_method_3_code 5 = .ok (.aconst_null, 1) := by decide +kernel
theorem d2_6 : decode jdk_42_method_3_code 6 = .ok (.invokespecial 27, 3) := by decide +kernel
theorem d2_9 : decode jdk_42_method_3_code 9 = .ok (.return_, 1) := by decide +kernel
theorem pn_2 : plainFor (⟨"java/lang/String", "<init>", "([C)V"⟩ : MethodName) = true := plainFor_of_name (by first | (simp [plainName, overriddenIn]; done) | decide +kernel)
theorem pd_2 : parseMethodDescriptor "([C)V" = some ⟨[(.array .char)], none⟩ := by decide +kernel
set_option maxRecDepth 65536 in
set_option maxHeartbeats 40000000 in
theorem rm_sc2 {l : Launch} {Z : State} {a0 : Array Value} (hw : ∀ d ∈ tables_1, d.before a0 Z = true) {n0 : Nat} {h0 : Heap} (Z0 : n0 ≤ h0.size) (a1 a2 : Addr) {f : Nat → Value} {zc : Int32} {u1 u2 : Value} (E_1 : Exa Z h0 a1 "java/lang/String") (F_v : Fld Z h0 a1 "java/lang/String" "value" "[B" u1) (F_c : Fld Z h0 a1 "java/lang/String" "coder" "B" u2) (g_1 : n0 ≤ a1) (A_2 : Ary Z h0 a2 .char 2 f) (ne12 : a1 ≠ a2) (S_c : Sta Z h0 "java/lang/String" "COMPACT_STRINGS" "Z" (.int zc)) (hzc : ¬ zc = (0 : Int32)) {c0 : Int32} (hf0 : f 0 = .int c0) (hc0 : ¬ (255 : Int32) < c0) {c1 : Int32} (hf1 : f 1 = .int c1) (hc1 : ¬ (255 : Int32) < c1) :
    Con l Z n0 (⟨"java/lang/String", "<init>", "([C)V"⟩ : MethodName) jdk_42_method_3_code 2 none ({ frames := 3, cells := 1, slots := 2, locals := 52 } : Room) #[(.ref a1), (.ref a2)] h0 (Non (fun h => Keep h0 h [a1] ∧ Str Z h a1 [c0.toInt8.toInt32, c1.toInt8.toInt32])) := by
  refine con_intro pn_2 Z0 (fr := fun m => mkF m 0 #[.val (.ref a1), .val (.ref a2)] []) (fun m => by first | (simp [entryFrame, mkF, argsToLocals, Value.category]; done) | rfl) ?_
  intro p e s m below s₁ hs0 X0
  refine w_aloadN X0 (pc' := 1) d2_0 rfl rfl rfl ?_
  refine w_aloadN X0 (pc' := 2) d2_1 rfl rfl rfl ?_
  refine w_iconst X0 (pc' := 3) (0 : Int32) d2_2 rfl rfl ?_
  refine w_aloadN X0 (pc' := 4) d2_3 rfl rfl rfl ?_
  refine w_arraylength X0 (pc' := 5) (2 : Int32) d2_4 A_2 (by decide) rfl ?_
  refine w_aconst_null X0 (pc' := 6) d2_5 rfl ?_
  refine w_specialN X0 (pc' := 9) d2_6 (rm_sv2 hw (h0 := h0) (sd_size X0) a1 a2 E_1 F_v F_c g_1 A_2 ne12 S_c hzc hf0 hc0 hf1 hc1) (hw _ (List.mem_of_getElem? (i := 17) rfl)) (hw _ (List.mem_of_getElem? (i := 18) rfl)) (hw _ (List.mem_of_getElem? (i := 5) rfl)) (hw _ (List.mem_of_getElem? (i := 20) rfl)) rfl (by decide) [(.ref a2), (.int (0 : Int32)), (.int (2 : Int32)), .null] [] pd_3 rfl rfl rfl rfl 0 (Nat.le_refl _) (by decide) (by decide) (by decide) (by decide) rfl fun T1 h1 X1 q1 => ?_
  obtain ⟨K1, S1⟩ := q1
  have E_2 := E_1.keep K1
  have A_2 := A_2.keep K1 (ninS (Ne.symm ne12) nin0)
  have K_3r : Keep h0 _ [a1] := (Keep.refl h0 [a1])
  have K_3 : Keep h0 h1 [a1] := K_3r.trans K1 (allS (Or.inl (List.mem_of_getElem? (i := 0) rfl)) all0)
  exact w_return X1 d2_9 ⟨K_3, S1⟩ (by decide) (by decide)
abbrev own_E : Type := List Int32 × List Int32
def own_val (es : List own_E) (q : List Int32) : Nat → Option (List Int32)
  | 0 => none
  | n + 1 => if (es.getD n ([], [])).1 = q then some (es.getD n ([], [])).2 else own_val es q n
theorem own_vp {es : List own_E} {q : List Int32} (n : Nat) (h : (es.getD n ([], [])).1 = q) : own_val es q (n + 1) = some (es.getD n ([], [])).2 := if_pos h
theorem own_vn {es : List own_E} {q : List Int32} (n : Nat) (h : ¬ (es.getD n ([], [])).1 = q) : own_val es q (n + 1) = own_val es q n := if_neg h
theorem own_if1 {P : Prop} [Decidable P] (h : ¬ (if P then (1 : Int32) else 0) = 0) : P := by
  by_cases q : P
  · exact q
  · exact absurd (if_neg q) h
theorem own_if0 {P : Prop} [Decidable P] (h : (if P then (1 : Int32) else 0) = 0) : ¬ P := fun q => by rw [if_pos q] at h; exact absurd h (by decide)
def own_min (a b : Int32) : Int32 := if b < a then b else a
theorem own_and1 (x : Int32) : x &&& (1 : Int32) = 0 ∨ x &&& (1 : Int32) = 1 := by
  have e1 : (x &&& (1 : Int32)).toInt = x.toInt % 2 ^ 1 := Jvm.Kit.i32_mask x 1 (k := 1) (by decide) (by decide)
  have : (x &&& (1 : Int32)).toInt = 0 ∨ (x &&& (1 : Int32)).toInt = 1 := by omega
  rcases this with q | q
  · exact Or.inl (Int32.toInt_inj.mp q)
  · exact Or.inr (Int32.toInt_inj.mp q)
theorem own_and3 (x : Int32) : x &&& (3 : Int32) = 0 ∨ x &&& (3 : Int32) = 1 ∨ x &&& (3 : Int32) = 2 ∨ x &&& (3 : Int32) = 3 := by
  have e1 : (x &&& (3 : Int32)).toInt = x.toInt % 2 ^ 2 := Jvm.Kit.i32_mask x 3 (k := 2) (by decide) (by decide)
  have : (x &&& (3 : Int32)).toInt = 0 ∨ (x &&& (3 : Int32)).toInt = 1 ∨ (x &&& (3 : Int32)).toInt = 2 ∨ (x &&& (3 : Int32)).toInt = 3 := by omega
  rcases this with q | q | q | q
  · exact Or.inl (Int32.toInt_inj.mp q)
  · exact Or.inr (Or.inl (Int32.toInt_inj.mp q))
  · exact Or.inr (Or.inr (Or.inl (Int32.toInt_inj.mp q)))
  · exact Or.inr (Or.inr (Or.inr (Int32.toInt_inj.mp q)))
theorem own_97 (x : Int32) : ¬ (255 : Int32) < ((97 : Int32) + (x &&& (1 : Int32))).toUInt32.toUInt16.toUInt32.toInt32 := by
  rcases own_and1 x with q | q <;> rw [q] <;> decide
/-- the bindings: es are the pairs written, sz of them counted, dp marks open, the first at mk -/
def BD (Z : State) (n0 : Nat) (h : Heap) (a : Addr) (es : List own_E) (sz dp mk : Nat) : Prop := ∃ d f dm fm, n0 ≤ a ∧ n0 ≤ d ∧ n0 ≤ dm ∧ a ≠ d ∧ a ≠ dm ∧ d ≠ dm ∧ Exa Z h a "com/example/raja/raja/xml/CanonicalWriter$Bindings" ∧ Fld Z h a "com/example/raja/raja/xml/CanonicalWriter$Bindings" "pairs" "[Ljava/lang/String;" (.ref d) ∧ Fld Z h a "com/example/raja/raja/xml/CanonicalWriter$Bindings" "size" "I" (.int (Int32.ofNat sz)) ∧ Fld Z h a "com/example/raja/raja/xml/CanonicalWriter$Bindings" "marks" "[I" (.ref dm) ∧ Fld Z h a "com/example/raja/raja/xml/CanonicalWriter$Bindings" "depth" "I" (.int (Int32.ofNat dp)) ∧ Oar Z h d "java/lang/String" ∧ Ary Z h d (.object "java/lang/String") 32 f ∧ Ary Z h dm .int 16 fm ∧ (dp = 1 → fm 0 = .int (Int32.ofNat mk)) ∧ ∀ j, j < es.length → ∃ r r', f (2 * j) = .ref r ∧ f (2 * j + 1) = .ref r' ∧ Str Z h r (es.getD j ([], [])).1 ∧ Str Z h r' (es.getD j ([], [])).2
theorem BD.exa {Z : State} {n0 : Nat} {h : Heap} {a : Addr} {es : List own_E} {sz dp mk : Nat} (B : BD Z n0 h a es sz dp mk) : Exa Z h a "com/example/raja/raja/xml/CanonicalWriter$Bindings" := by obtain ⟨d, f, dm, fm, -, -, -, -, -, -, E, -⟩ := B; exact E
theorem BD.ext {Z : State} {n0 : Nat} {h h' : Heap} {a : Addr} {es : List own_E} {sz dp mk : Nat} (B : BD Z n0 h a es sz dp mk) (E : Ext h h') : BD Z n0 h' a es sz dp mk := by
  obtain ⟨d, f, dm, fm, h1, h2, h3, h4, h5, h6, h7, h8, h9, h10, h11, h12, h13, h14, h15, h16⟩ := B
  exact ⟨d, f, dm, fm, h1, h2, h3, h4, h5, h6, Exa.ext E h7, Fld.ext E h8, Fld.ext E h9, Fld.ext E h10, Fld.ext E h11, h12.ext E, h13.ext E, h14.ext E, h15, fun j hj => by obtain ⟨r, r', q1, q2, q3, q4⟩ := h16 j hj; exact ⟨r, r', q1, q2, q3.ext E, q4.ext E⟩⟩
theorem d12_0 : decode jdk_29_method_69_code 0 = .ok (.iload_n 0, 1) := by decide +kernel
theorem d12_1 : decode jdk_29_method_69_code 1 = .ok (.iload_n 1, 1) := by decide +kernel
theorem d12_2 : decode jdk_29_method_69_code 2 = .ok (.if_icmp .gt 7, 3) := by decide +kernel
theorem d12_5 : decode jdk_29_method_69_code 5 = .ok (.iload_n 0, 1) := by decide +kernel
theorem d12_6 : decode jdk_29_method_69_code 6 = .ok (.goto 4, 3) := by decide +kernel
theorem d12_9 : decode jdk_29_method_69_code 9 = .ok (.iload_n 1, 1) := by decide +kernel
theorem d12_10 : decode jdk_29_method_69_code 10 = .ok (.ireturn, 1) := by decide +kernel
theorem pn_12 : plainFor (⟨"java/lang/Math", "min", "(II)I"⟩ : MethodName) = true := Jvm.Free.JP.mathPlain rfl (by decide +kernel)
theorem pd_12 : parseMethodDescriptor "(II)I" = some ⟨[.int, .int], some .int⟩ := by decide +kernel
set_option maxRecDepth 65536 in
set_option maxHeartbeats 40000000 in
theorem rm_min {l : Launch} {Z : State} {a0 : Array Value} (hw : ∀ d ∈ tables_1, d.before a0 Z = true) {n0 : Nat} {h0 : Heap} (Z0 : n0 ≤ h0.size) (p1 p2 : Int32)  :
    Con l Z n0 (⟨"java/lang/Math", "min", "(II)I"⟩ : MethodName) jdk_29_method_69_code 2 (some .int) ({ frames := 0, cells := 0, slots := 0, locals := 0 } : Room) #[(.int p1), (.int p2)] h0 (Val (fun v h => v = .int (own_min p1 p2) ∧ h0 = h)) := by
  refine con_intro pn_12 Z0 (fr := fun m => mkF m 0 #[.val (.int p1), .val (.int p2)] []) (fun m => by first | (simp [entryFrame, mkF, argsToLocals, Value.category]; done) | rfl) ?_
  intro p e s m below s₁ hs0 X0
  refine w_iloadN X0 (pc' := 1) d12_0 rfl rfl ?_
  refine w_iloadN X0 (pc' := 2) d12_1 rfl rfl ?_
  refine w_icmp_gt X0 9 5 d12_2 (by decide) rfl rfl (fun hc2 => ?_) (fun hc2 => ?_)
  · skip
    refine w_iloadN X0 (pc' := 10) d12_9 rfl rfl ?_
    exact w_ireturn X0 d12_10 ⟨by rw [own_min, if_pos hc2], rfl⟩ (by decide) (by decide)
  · skip
    refine w_iloadN X0 (pc' := 6) d12_5 rfl rfl ?_
    refine w_goto X0 (pc' := 10) d12_6 (by decide) rfl ?_
    exact w_ireturn X0 d12_10 ⟨by rw [own_min, if_neg hc2], rfl⟩ (by decide) (by decide)
theorem d1_0 : decode method_2_code 0 = .ok (.iload_n 0, 1) := by decide +kernel
theorem d1_1 : decode method_2_code 1 = .ok (.iconst 3, 1) := by decide +kernel
theorem d1_2 : decode method_2_code 2 = .ok (.iand, 1) := by decide +kernel
theorem d1_3 : decode method_2_code 3 = .ok (.istore_n 1, 1) := by decide +kernel
theorem d1_4 : decode method_2_code 4 = .ok (.iload_n 1, 1) := by decide +kernel
theorem d1_5 : decode method_2_code 5 = .ok (.ifCond .ne 6, 3) := by decide +kernel
theorem d1_8 : decode method_2_code 8 = .ok (.ldc 7, 2) := by decide +kernel
theorem d1_10 : decode method_2_code 10 = .ok (.areturn, 1) := by decide +kernel
theorem d1_11 : decode method_2_code 11 = .ok (.iload_n 1, 1) := by decide +kernel
theorem d1_12 : decode method_2_code 12 = .ok (.iconst 3, 1) := by decide +kernel
theorem d1_13 : decode method_2_code 13 = .ok (.if_icmp .ne 39, 3) := by decide +kernel
theorem d1_16 : decode method_2_code 16 = .ok (.iconst 2, 1) := by decide +kernel
theorem d1_17 : decode method_2_code 17 = .ok (.newarray .char, 2) := by decide +kernel
theorem d1_19 : decode method_2_code 19 = .ok (.astore_n 2, 1) := by decide +kernel
theorem d1_20 : decode method_2_code 20 = .ok (.aload_n 2, 1) := by decide +kernel
theorem d1_21 : decode method_2_code 21 = .ok (.iconst 0, 1) := by decide +kernel
theorem d1_22 : decode method_2_code 22 = .ok (.iload_n 0, 1) := by decide +kernel
theorem d1_23 : decode method_2_code 23 = .ok (.iconst 2, 1) := by decide +kernel
theorem d1_24 : decode method_2_code 24 = .ok (.iushr, 1) := by decide +kernel
theorem d1_25 : decode method_2_code 25 = .ok (.sipush 255, 3) := by decide +kernel
theorem d1_28 : decode method_2_code 28 = .ok (.iand, 1) := by decide +kernel
theorem d1_29 : decode method_2_code 29 = .ok (.i2c, 1) := by decide +kernel
theorem d1_30 : decode method_2_code 30 = .ok (.castore, 1) := by decide +kernel
theorem d1_31 : decode method_2_code 31 = .ok (.aload_n 2, 1) := by decide +kernel
theorem d1_32 : decode method_2_code 32 = .ok (.iconst 1, 1) := by decide +kernel
theorem d1_33 : decode method_2_code 33 = .ok (.iload_n 0, 1) := by decide +kernel
theorem d1_34 : decode method_2_code 34 = .ok (.bipush 10, 2) := by decide +kernel
theorem d1_36 : decode method_2_code 36 = .ok (.iushr, 1) := by decide +kernel
theorem d1_37 : decode method_2_code 37 = .ok (.sipush 255, 3) := by decide +kernel
theorem d1_40 : decode method_2_code 40 = .ok (.iand, 1) := by decide +kernel
theorem d1_41 : decode method_2_code 41 = .ok (.i2c, 1) := by decide +kernel
theorem d1_42 : decode method_2_code 42 = .ok (.castore, 1) := by decide +kernel
theorem d1_43 : decode method_2_code 43 = .ok (.new 9, 3) := by decide +kernel
theorem d1_46 : decode method_2_code 46 = .ok (.dup, 1) := by decide +kernel
theorem d1_47 : decode method_2_code 47 = .ok (.aload_n 2, 1) := by decide +kernel
theorem d1_48 : decode method_2_code 48 = .ok (.invokespecial 11, 3) := by decide +kernel
theorem d1_51 : decode method_2_code 51 = .ok (.areturn, 1) := by decide +kernel
theorem d1_52 : decode method_2_code 52 = .ok (.bipush 97, 2) := by decide +kernel
theorem d1_54 : decode method_2_code 54 = .ok (.iload_n 0, 1) := by decide +kernel
theorem d1_55 : decode method_2_code 55 = .ok (.iconst 2, 1) := by decide +kernel
theorem d1_56 : decode method_2_code 56 = .ok (.iushr, 1) := by decide +kernel
theorem d1_57 : decode method_2_code 57 = .ok (.iconst 1, 1) := by decide +kernel
theorem d1_58 : decode method_2_code 58 = .ok (.iand, 1) := by decide +kernel
theorem d1_59 : decode method_2_code 59 = .ok (.iadd, 1) := by decide +kernel
theorem d1_60 : decode method_2_code 60 = .ok (.i2c, 1) := by decide +kernel
theorem d1_61 : decode method_2_code 61 = .ok (.invokestatic 14, 3) := by decide +kernel
theorem d1_64 : decode method_2_code 64 = .ok (.areturn, 1) := by decide +kernel
theorem pn_1 : plainFor (⟨"com/example/raja/raja/xml/BindingsValueOfPinLaw", "prefix", "(I)Ljava/lang/String;"⟩ : MethodName) = true := plainFor_of_name (by first | (simp [plainName, overriddenIn]; done) | decide +kernel)
theorem pd_1 : parseMethodDescriptor "(I)Ljava/lang/String;" = some ⟨[.int], some (.object "java/lang/String")⟩ := by decide +kernel
set_option maxRecDepth 65536 in
set_option maxHeartbeats 40000000 in
theorem rm_prefix {l : Launch} {Z : State} {a0 : Array Value} (hw : ∀ d ∈ tables_1, d.before a0 Z = true) {n0 : Nat} {h0 : Heap} (Z0 : n0 ≤ h0.size) (p1 : Int32) {zc : Int32} (S_c : Sta Z h0 "java/lang/String" "COMPACT_STRINGS" "Z" (.int zc)) (hzc : ¬ zc = (0 : Int32))  :
    ConW l Z own_EL n0 (⟨"com/example/raja/raja/xml/BindingsValueOfPinLaw", "prefix", "(I)Ljava/lang/String;"⟩ : MethodName) method_2_code 3 (some (.object "java/lang/String")) ({ frames := 4, cells := 3, slots := 8, locals := 66 } : Room) #[(.int p1)] h0 (Val (fun v h => ∃ (b : Addr) (bs : List Int32), v = .ref b ∧ Ext h0 h ∧ Str Z h b bs)) := by
  refine conW_intro pn_1 Z0 (fr := fun m => mkF m 0 #[.val (.int p1), .unset, .unset] []) (fun m => by first | (simp [entryFrame, mkF, argsToLocals, Value.category]; done) | rfl) ?_
  intro p e s m below s₁ hs0 F0 X0
  refine w_iloadN X0 (pc' := 1) d1_0 rfl rfl ?_
  refine w_iconst X0 (pc' := 2) (3 : Int32) d1_1 rfl rfl ?_
  refine w_iand X0 (pc' := 3) d1_2 rfl ?_
  refine w_istoreN X0 (pc' := 4) (l' := #[.val (.int p1), .val (.int (p1 &&& (3 : Int32))), .unset]) d1_3 rfl rfl ?_
  refine w_iloadN X0 (pc' := 5) d1_4 rfl rfl ?_
  refine w_if_ne X0 11 8 d1_5 (by decide) rfl rfl (fun hc5 => ?_) (fun hc5 => ?_)
  · skip
    refine w_iloadN X0 (pc' := 12) d1_11 rfl rfl ?_
    refine w_iconst X0 (pc' := 13) (3 : Int32) d1_12 rfl rfl ?_
    refine w_icmp_ne X0 52 16 d1_13 (by decide) rfl rfl (fun hc13 => ?_) (fun hc13 => ?_)
    · skip
      refine w_bipush X0 (pc' := 54) (97 : Int32) d1_52 rfl rfl ?_
      refine w_iloadN X0 (pc' := 55) d1_54 rfl rfl ?_
      refine w_iconst X0 (pc' := 56) (2 : Int32) d1_55 rfl rfl ?_
      refine w_iushr X0 (pc' := 57) d1_56 rfl ?_
      refine w_iconst X0 (pc' := 58) (1 : Int32) d1_57 rfl rfl ?_
      refine w_iand X0 (pc' := 59) d1_58 rfl ?_
      refine w_iadd X0 (pc' := 60) d1_59 rfl ?_
      refine w_i2c X0 (pc' := 61) d1_60 rfl ?_
      refine w_staticV X0 (pc' := 64) d1_61 (rm_val hw (h0 := h0) (sd_size X0) (((97 : Int32) + (((p1.toUInt32 >>> ((2 : Int32) &&& 31).toUInt32).toInt32) &&& (1 : Int32))).toUInt32.toUInt16.toUInt32.toInt32) S_c hzc (own_97 _)) (hw _ (List.mem_of_getElem? (i := 37) rfl)) (hw _ (List.mem_of_getElem? (i := 38) rfl)) (hw _ (List.mem_of_getElem? (i := 5) rfl)) (hw _ (List.mem_of_getElem? (i := 39) rfl)) (by decide) [(.int (((97 : Int32) + (((p1.toUInt32 >>> ((2 : Int32) &&& 31).toUInt32).toInt32) &&& (1 : Int32))).toUInt32.toUInt16.toUInt32.toInt32))] [] pd_8 rfl rfl rfl rfl 0 (Nat.le_refl _) (by decide) (by decide) (by decide) (by decide) rfl fun T1 h1 v1 X1 q1 => ?_
      obtain ⟨b1, rfl, E1, S1⟩ := q1
      have F0_2 := F0.ext E1
      have S_c_2 := Sta.ext E1 S_c
      have K_3r : Keep h0 _ [] := (Keep.refl h0 [])
      have K_3 : Keep h0 h1 [] := K_3r.ext E1
      exact w_areturnW X1 F0_2 (own_hEL hw) d1_64 rfl rfl rfl ⟨_, _, rfl, kext K_3, S1⟩ (by decide) (by decide)
    · skip
      refine w_iconst X0 (pc' := 17) (2 : Int32) d1_16 rfl rfl ?_
      refine w_newarray X0 (pc' := 19) 2 2 d1_17 (hw _ (List.mem_of_getElem? (i := 12) rfl)) (by decide) (by decide) (by decide) (by decide) (by decide) rfl fun T4 h4 b4 g4 gn4 X4 E4 A4 => ?_
      have K_b4 : Keep h0 _ [] := (Keep.refl h0 [])
      have sz_b4 : h0.size ≤ b4 := sz_fresh g4 K_b4
      have F0_5 := F0.ext E4
      have S_c_5 := Sta.ext E4 S_c
      have K_6 : Keep h0 h4 [] := K_b4.ext E4
      replace A4 : Ary Z h4 b4 .char 2 (fun _ => (.int (0 : Int32))) := A4
      refine w_astoreN X4 (pc' := 20) (l' := #[.val (.int p1), .val (.int (p1 &&& (3 : Int32))), .val (.ref b4)]) d1_19 rfl rfl rfl ?_
      refine w_aloadN X4 (pc' := 21) d1_20 rfl rfl rfl ?_
      refine w_iconst X4 (pc' := 22) (0 : Int32) d1_21 rfl rfl ?_
      refine w_iloadN X4 (pc' := 23) d1_22 rfl rfl ?_
      refine w_iconst X4 (pc' := 24) (2 : Int32) d1_23 rfl rfl ?_
      refine w_iushr X4 (pc' := 25) d1_24 rfl ?_
      refine w_sipush X4 (pc' := 28) (255 : Int32) d1_25 rfl rfl ?_
      refine w_iand X4 (pc' := 29) d1_28 rfl ?_
      refine w_i2c X4 (pc' := 30) d1_29 rfl ?_
      refine w_castore X4 (pc' := 31) 0 d1_30 A4 (by decide) (by decide) gn4 rfl fun T7 h7 X7 W7 A7 => ?_
      have F0_8 := F0_5.kp X7 (wr_keep W7) (ap1 (Apart.ary A4 (by decide)))
      have S_c_8 := Sta.wr W7 S_c_5
      have K_9 : Keep h0 h7 [] := K_6.wr W7 (Or.inr sz_b4)
      refine w_aloadN X7 (pc' := 32) d1_31 rfl rfl rfl ?_
      refine w_iconst X7 (pc' := 33) (1 : Int32) d1_32 rfl rfl ?_
      refine w_iloadN X7 (pc' := 34) d1_33 rfl rfl ?_
      refine w_bipush X7 (pc' := 36) (10 : Int32) d1_34 rfl rfl ?_
      refine w_iushr X7 (pc' := 37) d1_36 rfl ?_
      refine w_sipush X7 (pc' := 40) (255 : Int32) d1_37 rfl rfl ?_
      refine w_iand X7 (pc' := 41) d1_40 rfl ?_
      refine w_i2c X7 (pc' := 42) d1_41 rfl ?_
      refine w_castore X7 (pc' := 43) 1 d1_42 A7 (by decide) (by decide) gn4 rfl fun T10 h10 X10 W10 A10 => ?_
      have F0_11 := F0_8.kp X10 (wr_keep W10) (ap1 (Apart.ary A7 (by decide)))
      have S_c_11 := Sta.wr W10 S_c_8
      have K_12 : Keep h0 h10 [] := K_9.wr W10 (Or.inr sz_b4)
      have hf0 : (upd (upd (fun _ => (.int (0 : Int32))) 0 (.int (nar .char ((((p1.toUInt32 >>> ((2 : Int32) &&& 31).toUInt32).toInt32) &&& (255 : Int32)).toUInt32.toUInt16.toUInt32.toInt32)))) 1 (.int (nar .char ((((p1.toUInt32 >>> ((10 : Int32) &&& 31).toUInt32).toInt32) &&& (255 : Int32)).toUInt32.toUInt16.toUInt32.toInt32)))) 0 = .int (((p1.toUInt32 >>> ((2 : Int32) &&& 31).toUInt32).toInt32) &&& (255 : Int32)) := by show Value.int (nar .char ((((p1.toUInt32 >>> ((2 : Int32) &&& 31).toUInt32).toInt32) &&& (255 : Int32)).toUInt32.toUInt16.toUInt32.toInt32)) = _; rw [i2c_mask]; show Value.int ((((p1.toUInt32 >>> ((2 : Int32) &&& 31).toUInt32).toInt32) &&& (255 : Int32)).toUInt32.toUInt16.toUInt32.toInt32) = _; rw [i2c_mask]
      have hf1 : (upd (upd (fun _ => (.int (0 : Int32))) 0 (.int (nar .char ((((p1.toUInt32 >>> ((2 : Int32) &&& 31).toUInt32).toInt32) &&& (255 : Int32)).toUInt32.toUInt16.toUInt32.toInt32)))) 1 (.int (nar .char ((((p1.toUInt32 >>> ((10 : Int32) &&& 31).toUInt32).toInt32) &&& (255 : Int32)).toUInt32.toUInt16.toUInt32.toInt32)))) 1 = .int (((p1.toUInt32 >>> ((10 : Int32) &&& 31).toUInt32).toInt32) &&& (255 : Int32)) := by show Value.int (nar .char ((((p1.toUInt32 >>> ((10 : Int32) &&& 31).toUInt32).toInt32) &&& (255 : Int32)).toUInt32.toUInt16.toUInt32.toInt32)) = _; rw [i2c_mask]; show Value.int ((((p1.toUInt32 >>> ((10 : Int32) &&& 31).toUInt32).toInt32) &&& (255 : Int32)).toUInt32.toUInt16.toUInt32.toInt32) = _; rw [i2c_mask]
      refine w_new X10 (pc' := 46) d1_43 (hw _ (List.mem_of_getElem? (i := 13) rfl)) (hw _ (List.mem_of_getElem? (i := 6) rfl)) (hw _ (List.mem_of_getElem? (i := 5) rfl)) (by decide) (by decide) rfl fun T13 h13 b13 g13 gn13 X13 E13 A13 D13 => ?_
      have ne_b4_b13 : b4 ≠ b13 := ne_new g13 A10.lt
      have sz_b13 : h0.size ≤ b13 := sz_fresh g13 K_12
      have sf_b13 := F0_11.safe_new E13 g13
      have F0_14 := F0_11.ext E13
      have A10_14 := A10.ext E13
      have S_c_14 := Sta.ext E13 S_c_11
      have K_15 : Keep h0 h13 [] := K_12.ext E13
      have Fvalue_13 : Fld Z h13 b13 "java/lang/String" "value" "[B" .null := D13 (Or.inr (hw _ (List.mem_of_getElem? (i := 8) rfl))) (ty := (.array .byte)) (by decide)
      have Fcoder_13 : Fld Z h13 b13 "java/lang/String" "coder" "B" (.int (0 : Int32)) := D13 (Or.inr (hw _ (List.mem_of_getElem? (i := 9) rfl))) (ty := .byte) (by decide)
      refine w_dup X13 (pc' := 47) d1_46 rfl rfl ?_
      refine w_aloadN X13 (pc' := 48) d1_47 rfl rfl rfl ?_
      refine w_specialN X13 (pc' := 51) d1_48 (rm_sc2 hw (h0 := h13) (sd_size X13) b13 b4 A13 Fvalue_13 Fcoder_13 gn13 A10_14 (Ne.symm ne_b4_b13) S_c_14 hzc hf0 (own_m255 _) hf1 (own_m255 _)) (hw _ (List.mem_of_getElem? (i := 14) rfl)) (hw _ (List.mem_of_getElem? (i := 15) rfl)) (hw _ (List.mem_of_getElem? (i := 5) rfl)) (hw _ (List.mem_of_getElem? (i := 16) rfl)) rfl (by decide) [(.ref b4)] [(.ref b13)] pd_2 rfl rfl rfl rfl 1 (Nat.le_refl _) (by decide) (by decide) (by decide) (by decide) rfl fun T16 h16 X16 q16 => ?_
      obtain ⟨K16, S16⟩ := q16
      have F0_17 := F0_14.keep K16 (sf1 sf_b13)
      have A13_17 := A13.keep K16
      have A10_17 := A10_14.keep K16 (ninS ne_b4_b13 nin0)
      have K_18 : Keep h0 h16 [] := K_15.trans K16 (allS (Or.inr sz_b13) all0)
      exact w_areturnW X16 F0_17 (own_hEL hw) d1_51 rfl rfl rfl ⟨_, _, rfl, kext K_18, S16⟩ (by decide) (by decide)
  · skip
    refine w_ldcW X0 F0 (pc' := 10) (text := "") [] 0 d1_8 (hw _ (List.mem_of_getElem? (i := 4) rfl)) (own_wS hw) (own_hEL hw) (List.mem_of_getElem? (i := 0) rfl) (by decide) (by decide) (by decide) (by decide) (by decide) (by decide) rfl fun T19 h19 vm19 a19 X19 F19 E19 S19 => ?_
    have S_c_20 := Sta.ext E19 S_c
    have K_21r : Keep h0 _ [] := (Keep.refl h0 [])
    have K_21 : Keep h0 h19 [] := K_21r.ext E19
    exact w_areturnW X19 F19 (own_hEL hw) d1_10 rfl rfl rfl ⟨_, _, rfl, kext K_21, S19⟩ (by decide) (by decide)
theorem d13_0 : decode prog_69_method_1_code 0 = .ok (.aload_n 0, 1) := by decide +kernel
theorem d13_1 : decode prog_69_method_1_code 1 = .ok (.invokespecial 1, 3) := by decide +kernel
theorem d13_4 : decode prog_69_method_1_code 4 = .ok (.aload_n 0, 1) := by decide +kernel
theorem d13_5 : decode prog_69_method_1_code 5 = .ok (.bipush 32, 2) := by decide +kernel
theorem d13_7 : decode prog_69_method_1_code 7 = .ok (.anewarray 7, 3) := by decide +kernel
theorem d13_10 : decode prog_69_method_1_code 10 = .ok (.putfield 9, 3) := by decide +kernel
theorem d13_13 : decode prog_69_method_1_code 13 = .ok (.aload_n 0, 1) := by decide +kernel
theorem d13_14 : decode prog_69_method_1_code 14 = .ok (.bipush 16, 2) := by decide +kernel
theorem d13_16 : decode prog_69_method_1_code 16 = .ok (.newarray .int, 2) := by decide +kernel
theorem d13_18 : decode prog_69_method_1_code 18 = .ok (.putfield 15, 3) := by decide +kernel
theorem d13_21 : decode prog_69_method_1_code 21 = .ok (.return_, 1) := by decide +kernel
theorem pn_13 : plainFor (⟨"com/example/raja/raja/xml/CanonicalWriter$Bindings", "<init>", "()V"⟩ : MethodName) = true := plainFor_of_name (by first | (simp [plainName, overriddenIn]; done) | decide +kernel)
theorem pd_13 : parseMethodDescriptor "()V" = some ⟨[], none⟩ := by decide +kernel
set_option maxRecDepth 65536 in
set_option maxHeartbeats 40000000 in
theorem rm_init {l : Launch} {Z : State} {a0 : Array Value} (hw : ∀ d ∈ tables_1, d.before a0 Z = true) {n0 : Nat} {h0 : Heap} (Z0 : n0 ≤ h0.size) (a : Addr) (E_a : Exa Z h0 a "com/example/raja/raja/xml/CanonicalWriter$Bindings") (F_p : Fld Z h0 a "com/example/raja/raja/xml/CanonicalWriter$Bindings" "pairs" "[Ljava/lang/String;" .null) (F_m : Fld Z h0 a "com/example/raja/raja/xml/CanonicalWriter$Bindings" "marks" "[I" .null) (F_s : Fld Z h0 a "com/example/raja/raja/xml/CanonicalWriter$Bindings" "size" "I" (.int 0)) (F_d : Fld Z h0 a "com/example/raja/raja/xml/CanonicalWriter$Bindings" "depth" "I" (.int 0)) (g_a : n0 ≤ a) :
    Con l Z n0 (⟨"com/example/raja/raja/xml/CanonicalWriter$Bindings", "<init>", "()V"⟩ : MethodName) prog_69_method_1_code 1 none ({ frames := 1, cells := 2, slots := 48, locals := 12 } : Room) #[(.ref a)] h0 (Non (fun h => Keep h0 h [a] ∧ BD Z n0 h a [] 0 0 0)) := by
  refine con_intro pn_13 Z0 (fr := fun m => mkF m 0 #[.val (.ref a)] []) (fun m => by first | (simp [entryFrame, mkF, argsToLocals, Value.category]; done) | rfl) ?_
  intro p e s m below s₁ hs0 X0
  refine w_aloadN X0 (pc' := 1) d13_0 rfl rfl rfl ?_
  refine w_initO X0 (pc' := 4) d13_1 (hw _ (List.mem_of_getElem? (i := 61) rfl)) (hw _ (List.mem_of_getElem? (i := 22) rfl)) (hw _ (List.mem_of_getElem? (i := 23) rfl)) rfl (by decide) 0 (Nat.le_refl _) (by decide) rfl fun T1 X1 => ?_
  refine w_aloadN X1 (pc' := 5) d13_4 rfl rfl rfl ?_
  refine w_bipush X1 (pc' := 7) (32 : Int32) d13_5 rfl rfl ?_
  refine w_anewarray X1 (pc' := 10) 32 32 d13_7 (hw _ (List.mem_of_getElem? (i := 62) rfl)) (hw _ (List.mem_of_getElem? (i := 63) rfl)) (by decide) (by decide) (by decide) (by decide) (by decide) rfl fun T2 h2 b2 g2 gn2 X2 E2 O2 A2 => ?_
  have ne_a_b2 : a ≠ b2 := ne_new g2 F_p.lt
  have K_b2 : Keep h0 _ [a] := (Keep.refl h0 [a])
  have sz_b2 : h0.size ≤ b2 := sz_fresh g2 K_b2
  have F_p_3 := Fld.ext E2 F_p
  have F_m_3 := Fld.ext E2 F_m
  have F_s_3 := Fld.ext E2 F_s
  have F_d_3 := Fld.ext E2 F_d
  have E_a_3 := Exa.ext E2 E_a
  have K_4 : Keep h0 h2 [a] := K_b2.ext E2
  have Oa2 : Oar Z h2 b2 "java/lang/String" := O2
  replace A2 : Ary Z h2 b2 (.object "java/lang/String") 32 (fun _ => .null) := A2
  refine w_putfield X2 (pc' := 13) d13_10 (host := "") (Or.inl (hw _ (List.mem_of_getElem? (i := 64) rfl))) Via.refl F_p_3 E_a_3 (Or.inl (hw _ (List.mem_of_getElem? (i := 65) rfl))) (hw _ (List.mem_of_getElem? (i := 56) rfl)) (ty := (.array (.object "java/lang/String"))) (by decide) rfl rfl g_a rfl fun T5 h5 X5 W5 F5 => ?_
  have Oa2_6 := Oa2.wr W5
  have F_m_6 := Fld.other W5 F_m_3 (Or.inr (slot_ne (C := "com/example/raja/raja/xml/CanonicalWriter$Bindings") (Or.inl (hw _ (List.mem_of_getElem? (i := 68) rfl))) (Or.inl (hw _ (List.mem_of_getElem? (i := 65) rfl))) (by decide) (t := (.array .int)) (t' := (.array (.object "java/lang/String"))) (by decide) (by decide)))
  have F_s_6 := Fld.other W5 F_s_3 (Or.inr (slot_ne (C := "com/example/raja/raja/xml/CanonicalWriter$Bindings") (Or.inl (hw _ (List.mem_of_getElem? (i := 77) rfl))) (Or.inl (hw _ (List.mem_of_getElem? (i := 65) rfl))) (by decide) (t := .int) (t' := (.array (.object "java/lang/String"))) (by decide) (by decide)))
  have F_d_6 := Fld.other W5 F_d_3 (Or.inr (slot_ne (C := "com/example/raja/raja/xml/CanonicalWriter$Bindings") (Or.inl (hw _ (List.mem_of_getElem? (i := 75) rfl))) (Or.inl (hw _ (List.mem_of_getElem? (i := 65) rfl))) (by decide) (t := .int) (t' := (.array (.object "java/lang/String"))) (by decide) (by decide)))
  have E_a_6 := Exa.wr W5 E_a_3
  have A2_6 := A2.other W5 (Ne.symm ne_a_b2)
  have K_7 : Keep h0 h5 [a] := K_4.wr W5 (Or.inl (List.mem_of_getElem? (i := 0) rfl))
  refine w_aloadN X5 (pc' := 14) d13_13 rfl rfl rfl ?_
  refine w_bipush X5 (pc' := 16) (16 : Int32) d13_14 rfl rfl ?_
  refine w_newarray X5 (pc' := 18) 16 16 d13_16 (hw _ (List.mem_of_getElem? (i := 66) rfl)) (by decide) (by decide) (by decide) (by decide) (by decide) rfl fun T8 h8 b8 g8 gn8 X8 E8 A8 => ?_
  have ne_a_b8 : a ≠ b8 := ne_new g8 F_m_6.lt
  have ne_b2_b8 : b2 ≠ b8 := ne_new g8 A2_6.lt
  have sz_b8 : h0.size ≤ b8 := sz_fresh g8 K_7
  have Oa2_9 := Oa2_6.ext E8
  have F_m_9 := Fld.ext E8 F_m_6
  have F_s_9 := Fld.ext E8 F_s_6
  have F_d_9 := Fld.ext E8 F_d_6
  have F5_9 := Fld.ext E8 F5
  have E_a_9 := Exa.ext E8 E_a_6
  have A2_9 := A2_6.ext E8
  have K_10 : Keep h0 h8 [a] := K_7.ext E8
  replace A8 : Ary Z h8 b8 .int 16 (fun _ => (.int (0 : Int32))) := A8
  refine w_putfield X8 (pc' := 21) d13_18 (host := "") (Or.inl (hw _ (List.mem_of_getElem? (i := 67) rfl))) Via.refl F_m_9 E_a_9 (Or.inl (hw _ (List.mem_of_getElem? (i := 68) rfl))) (hw _ (List.mem_of_getElem? (i := 56) rfl)) (ty := (.array .int)) (by decide) rfl rfl g_a rfl fun T11 h11 X11 W11 F11 => ?_
  have Oa2_12 := Oa2_9.wr W11
  have F_s_12 := Fld.other W11 F_s_9 (Or.inr (slot_ne (C := "com/example/raja/raja/xml/CanonicalWriter$Bindings") (Or.inl (hw _ (List.mem_of_getElem? (i := 77) rfl))) (Or.inl (hw _ (List.mem_of_getElem? (i := 68) rfl))) (by decide) (t := .int) (t' := (.array .int)) (by decide) (by decide)))
  have F_d_12 := Fld.other W11 F_d_9 (Or.inr (slot_ne (C := "com/example/raja/raja/xml/CanonicalWriter$Bindings") (Or.inl (hw _ (List.mem_of_getElem? (i := 75) rfl))) (Or.inl (hw _ (List.mem_of_getElem? (i := 68) rfl))) (by decide) (t := .int) (t' := (.array .int)) (by decide) (by decide)))
  have F5_12 := Fld.other W11 F5_9 (Or.inr (slot_ne (C := "com/example/raja/raja/xml/CanonicalWriter$Bindings") (Or.inl (hw _ (List.mem_of_getElem? (i := 65) rfl))) (Or.inl (hw _ (List.mem_of_getElem? (i := 68) rfl))) (by decide) (t := (.array (.object "java/lang/String"))) (t' := (.array .int)) (by decide) (by decide)))
  have E_a_12 := Exa.wr W11 E_a_9
  have A2_12 := A2_9.other W11 (Ne.symm ne_a_b2)
  have A8_12 := A8.other W11 (Ne.symm ne_a_b8)
  have K_13 : Keep h0 h11 [a] := K_10.wr W11 (Or.inl (List.mem_of_getElem? (i := 0) rfl))
  exact w_return X11 d13_21 ⟨K_13, b2, _, b8, _, g_a, gn2, gn8, ne_a_b2, ne_a_b8, ne_b2_b8, E_a_12, F5_12, F_s_12, F11, F_d_12, Oa2_12, A2_12, A8_12, fun q => absurd q (by decide), fun j hj => absurd hj (Nat.not_lt_zero j)⟩ (by decide) (by decide)
theorem d14_0 : decode prog_69_method_4_code 0 = .ok (.aload_n 0, 1) := by decide +kernel
theorem d14_1 : decode prog_69_method_4_code 1 = .ok (.getfield 30, 3) := by decide +kernel
theorem d14_4 : decode prog_69_method_4_code 4 = .ok (.aload_n 0, 1) := by decide +kernel
theorem d14_5 : decode prog_69_method_4_code 5 = .ok (.getfield 15, 3) := by decide +kernel
theorem d14_8 : decode prog_69_method_4_code 8 = .ok (.arraylength, 1) := by decide +kernel
theorem d14_9 : decode prog_69_method_4_code 9 = .ok (.if_icmp .ne 21, 3) := by decide +kernel
theorem d14_12 : decode prog_69_method_4_code 12 = .ok (.aload_n 0, 1) := by decide +kernel
theorem d14_13 : decode prog_69_method_4_code 13 = .ok (.aload_n 0, 1) := by decide +kernel
theorem d14_14 : decode prog_69_method_4_code 14 = .ok (.getfield 15, 3) := by decide +kernel
theorem d14_17 : decode prog_69_method_4_code 17 = .ok (.iconst 2, 1) := by decide +kernel
theorem d14_18 : decode prog_69_method_4_code 18 = .ok (.aload_n 0, 1) := by decide +kernel
theorem d14_19 : decode prog_69_method_4_code 19 = .ok (.getfield 15, 3) := by decide +kernel
theorem d14_22 : decode prog_69_method_4_code 22 = .ok (.arraylength, 1) := by decide +kernel
theorem d14_23 : decode prog_69_method_4_code 23 = .ok (.imul, 1) := by decide +kernel
theorem d14_24 : decode prog_69_method_4_code 24 = .ok (.invokestatic 33, 3) := by decide +kernel
theorem d14_27 : decode prog_69_method_4_code 27 = .ok (.putfield 15, 3) := by decide +kernel
theorem d14_30 : decode prog_69_method_4_code 30 = .ok (.aload_n 0, 1) := by decide +kernel
theorem d14_31 : decode prog_69_method_4_code 31 = .ok (.getfield 15, 3) := by decide +kernel
theorem d14_34 : decode prog_69_method_4_code 34 = .ok (.aload_n 0, 1) := by decide +kernel
theorem d14_35 : decode prog_69_method_4_code 35 = .ok (.dup, 1) := by decide +kernel
theorem d14_36 : decode prog_69_method_4_code 36 = .ok (.getfield 30, 3) := by decide +kernel
theorem d14_39 : decode prog_69_method_4_code 39 = .ok (.dup_x1, 1) := by decide +kernel
theorem d14_40 : decode prog_69_method_4_code 40 = .ok (.iconst 1, 1) := by decide +kernel
theorem d14_41 : decode prog_69_method_4_code 41 = .ok (.iadd, 1) := by decide +kernel
theorem d14_42 : decode prog_69_method_4_code 42 = .ok (.putfield 30, 3) := by decide +kernel
theorem d14_45 : decode prog_69_method_4_code 45 = .ok (.aload_n 0, 1) := by decide +kernel
theorem d14_46 : decode prog_69_method_4_code 46 = .ok (.getfield 19, 3) := by decide +kernel
theorem d14_49 : decode prog_69_method_4_code 49 = .ok (.iastore, 1) := by decide +kernel
theorem d14_50 : decode prog_69_method_4_code 50 = .ok (.return_, 1) := by decide +kernel
theorem pn_14 : plainFor (⟨"com/example/raja/raja/xml/CanonicalWriter$Bindings", "open", "()V"⟩ : MethodName) = true := plainFor_of_name (by first | (simp [plainName, overriddenIn]; done) | decide +kernel)
theorem pd_14 : parseMethodDescriptor "()V" = some ⟨[], none⟩ := by decide +kernel
set_option maxRecDepth 65536 in
set_option maxHeartbeats 40000000 in
theorem rm_open {l : Launch} {Z : State} {a0 : Array Value} (hw : ∀ d ∈ tables_1, d.before a0 Z = true) {n0 : Nat} {h0 : Heap} (Z0 : n0 ≤ h0.size) (a : Addr) {es : List own_E} {sz mk : Nat} (B : BD Z n0 h0 a es sz 0 mk) :
    Con l Z n0 (⟨"com/example/raja/raja/xml/CanonicalWriter$Bindings", "open", "()V"⟩ : MethodName) prog_69_method_4_code 1 none ({ frames := 0, cells := 0, slots := 0, locals := 0 } : Room) #[(.ref a)] h0 (Non (fun h => (∃ ws, Keep h0 h ws ∧ ∀ x ∈ ws, Apart Z h0 x) ∧ BD Z n0 h a es sz 1 sz)) := by
  refine con_intro pn_14 Z0 (fr := fun m => mkF m 0 #[.val (.ref a)] []) (fun m => by first | (simp [entryFrame, mkF, argsToLocals, Value.category]; done) | rfl) ?_
  intro p e s m below s₁ hs0 X0
  obtain ⟨d, f, dm, fm, g_a, g_d, g_dm, ne_ad, ne_am, ne_dm, E_a, F_p, F_s, F_m, F_d, O_d, A_d, A_m, hmk, hs⟩ := B
  refine w_aloadN X0 (pc' := 1) d14_0 rfl rfl rfl ?_
  refine w_getfield X0 (pc' := 4) d14_1 (host := "") (Or.inl (hw _ (List.mem_of_getElem? (i := 74) rfl))) Via.refl F_d rfl fun T1 X1 => ?_
  refine w_aloadN X1 (pc' := 5) d14_4 rfl rfl rfl ?_
  refine w_getfield X1 (pc' := 8) d14_5 (host := "") (Or.inl (hw _ (List.mem_of_getElem? (i := 67) rfl))) Via.refl F_m rfl fun T2 X2 => ?_
  refine w_arraylength X2 (pc' := 9) (16 : Int32) d14_8 A_m (by decide) rfl ?_
  refine w_icmp_ne X2 30 12 d14_9 (by decide) rfl rfl (fun hc9 => ?_) (fun hc9 => by exfalso; revert hc9; decide)
  refine w_aloadN X2 (pc' := 31) d14_30 rfl rfl rfl ?_
  refine w_getfield X2 (pc' := 34) d14_31 (host := "") (Or.inl (hw _ (List.mem_of_getElem? (i := 67) rfl))) Via.refl F_m rfl fun T3 X3 => ?_
  refine w_aloadN X3 (pc' := 35) d14_34 rfl rfl rfl ?_
  refine w_dup X3 (pc' := 36) d14_35 rfl rfl ?_
  refine w_getfield X3 (pc' := 39) d14_36 (host := "") (Or.inl (hw _ (List.mem_of_getElem? (i := 74) rfl))) Via.refl F_d rfl fun T4 X4 => ?_
  refine w_dup_x1 X4 (pc' := 40) d14_39 rfl rfl rfl ?_
  refine w_iconst X4 (pc' := 41) (1 : Int32) d14_40 rfl rfl ?_
  refine w_iadd X4 (pc' := 42) d14_41 rfl ?_
  refine w_putfield X4 (pc' := 45) d14_42 (host := "") (Or.inl (hw _ (List.mem_of_getElem? (i := 74) rfl))) Via.refl F_d E_a (Or.inl (hw _ (List.mem_of_getElem? (i := 75) rfl))) (hw _ (List.mem_of_getElem? (i := 56) rfl)) (ty := .int) (by decide) rfl rfl g_a rfl fun T5 h5 X5 W5 F5 => ?_
  have O_d_6 := O_d.wr W5
  have F_p_6 := Fld.other W5 F_p (Or.inr (slot_ne (C := "com/example/raja/raja/xml/CanonicalWriter$Bindings") (Or.inl (hw _ (List.mem_of_getElem? (i := 65) rfl))) (Or.inl (hw _ (List.mem_of_getElem? (i := 75) rfl))) (by decide) (t := (.array (.object "java/lang/String"))) (t' := .int) (by decide) (by decide)))
  have F_s_6 := Fld.other W5 F_s (Or.inr (slot_ne (C := "com/example/raja/raja/xml/CanonicalWriter$Bindings") (Or.inl (hw _ (List.mem_of_getElem? (i := 77) rfl))) (Or.inl (hw _ (List.mem_of_getElem? (i := 75) rfl))) (by decide) (t := .int) (t' := .int) (by decide) (by decide)))
  have F_m_6 := Fld.other W5 F_m (Or.inr (slot_ne (C := "com/example/raja/raja/xml/CanonicalWriter$Bindings") (Or.inl (hw _ (List.mem_of_getElem? (i := 68) rfl))) (Or.inl (hw _ (List.mem_of_getElem? (i := 75) rfl))) (by decide) (t := (.array .int)) (t' := .int) (by decide) (by decide)))
  have E_a_6 := Exa.wr W5 E_a
  have A_d_6 := A_d.other W5 (Ne.symm ne_ad)
  have A_m_6 := A_m.other W5 (Ne.symm ne_am)
  have K_7r : Keep h0 _ [a, dm] := (Keep.refl h0 [a, dm])
  have K_7 : Keep h0 h5 [a, dm] := K_7r.wr W5 (Or.inl (List.mem_of_getElem? (i := 0) rfl))
  refine w_aloadN X5 (pc' := 46) d14_45 rfl rfl rfl ?_
  refine w_getfield X5 (pc' := 49) d14_46 (host := "") (Or.inl (hw _ (List.mem_of_getElem? (i := 76) rfl))) Via.refl F_s_6 rfl fun T8 X8 => ?_
  refine w_iastore X8 (pc' := 50) 0 d14_49 A_m_6 (by decide) (by decide) g_dm rfl fun T9 h9 X9 W9 A9 => ?_
  have O_d_10 := O_d_6.wr W9
  have F_p_10 := Fld.other W9 F_p_6 (Or.inl ne_am)
  have F_s_10 := Fld.other W9 F_s_6 (Or.inl ne_am)
  have F_m_10 := Fld.other W9 F_m_6 (Or.inl ne_am)
  have F5_10 := Fld.other W9 F5 (Or.inl ne_am)
  have E_a_10 := Exa.wr W9 E_a_6
  have A_d_10 := A_d_6.other W9 ne_dm
  have K_11 : Keep h0 h9 [a, dm] := K_7.wr W9 (Or.inl (List.mem_of_getElem? (i := 1) rfl))
  exact w_return X9 d14_50 ⟨⟨_, K_11, (ap2 (Apart.obj E_a (hw _ (List.mem_of_getElem? (i := 56) rfl)) (by decide) (by decide)) (Apart.ary A_m (by decide)))⟩, d, _, dm, _, g_a, g_d, g_dm, ne_ad, ne_am, ne_dm, E_a_10, F_p_10, F_s_10, F_m_10, F5_10, O_d_10, A_d_10, A9, fun _ => upd_same _ _ _, (fun j hj => by obtain ⟨r, r', q1, q2, q3, q4⟩ := hs j hj; exact ⟨r, r', q1, q2, q3.keep K_11 (ap2 (Apart.obj E_a (hw _ (List.mem_of_getElem? (i := 56) rfl)) (by decide) (by decide)) (Apart.ary A_m (by decide))), q4.keep K_11 (ap2 (Apart.obj E_a (hw _ (List.mem_of_getElem? (i := 56) rfl)) (by decide) (by decide)) (Apart.ary A_m (by decide)))⟩)⟩ (by decide) (by decide)
theorem d19_0 : decode prog_69_method_5_code 0 = .ok (.aload_n 0, 1) := by decide +kernel
theorem d19_1 : decode prog_69_method_5_code 1 = .ok (.aload_n 0, 1) := by decide +kernel
theorem d19_2 : decode prog_69_method_5_code 2 = .ok (.getfield 15, 3) := by decide +kernel
theorem d19_5 : decode prog_69_method_5_code 5 = .ok (.aload_n 0, 1) := by decide +kernel
theorem d19_6 : decode prog_69_method_5_code 6 = .ok (.dup, 1) := by decide +kernel
theorem d19_7 : decode prog_69_method_5_code 7 = .ok (.getfield 30, 3) := by decide +kernel
theorem d19_10 : decode prog_69_method_5_code 10 = .ok (.iconst 1, 1) := by decide +kernel
theorem d19_11 : decode prog_69_method_5_code 11 = .ok (.isub, 1) := by decide +kernel
theorem d19_12 : decode prog_69_method_5_code 12 = .ok (.dup_x1, 1) := by decide +kernel
theorem d19_13 : decode prog_69_method_5_code 13 = .ok (.putfield 30, 3) := by decide +kernel
theorem d19_16 : decode prog_69_method_5_code 16 = .ok (.iaload, 1) := by decide +kernel
theorem d19_17 : decode prog_69_method_5_code 17 = .ok (.putfield 19, 3) := by decide +kernel
theorem d19_20 : decode prog_69_method_5_code 20 = .ok (.return_, 1) := by decide +kernel
theorem pn_19 : plainFor (⟨"com/example/raja/raja/xml/CanonicalWriter$Bindings", "close", "()V"⟩ : MethodName) = true := plainFor_of_name (by first | (simp [plainName, overriddenIn]; done) | decide +kernel)
theorem pd_19 : parseMethodDescriptor "()V" = some ⟨[], none⟩ := by decide +kernel
set_option maxRecDepth 65536 in
set_option maxHeartbeats 40000000 in
theorem rm_close {l : Launch} {Z : State} {a0 : Array Value} (hw : ∀ d ∈ tables_1, d.before a0 Z = true) {n0 : Nat} {h0 : Heap} (Z0 : n0 ≤ h0.size) (a : Addr) {es : List own_E} {sz mk : Nat} (B : BD Z n0 h0 a es sz 1 mk) :
    Con l Z n0 (⟨"com/example/raja/raja/xml/CanonicalWriter$Bindings", "close", "()V"⟩ : MethodName) prog_69_method_5_code 1 none ({ frames := 0, cells := 0, slots := 0, locals := 0 } : Room) #[(.ref a)] h0 (Non (fun h => (∃ ws, Keep h0 h ws ∧ ∀ x ∈ ws, Apart Z h0 x) ∧ BD Z n0 h a es mk 0 mk)) := by
  refine con_intro pn_19 Z0 (fr := fun m => mkF m 0 #[.val (.ref a)] []) (fun m => by first | (simp [entryFrame, mkF, argsToLocals, Value.category]; done) | rfl) ?_
  intro p e s m below s₁ hs0 X0
  obtain ⟨d, f, dm, fm, g_a, g_d, g_dm, ne_ad, ne_am, ne_dm, E_a, F_p, F_s, F_m, F_d, O_d, A_d, A_m, hmk, hs⟩ := B
  refine w_aloadN X0 (pc' := 1) d19_0 rfl rfl rfl ?_
  refine w_aloadN X0 (pc' := 2) d19_1 rfl rfl rfl ?_
  refine w_getfield X0 (pc' := 5) d19_2 (host := "") (Or.inl (hw _ (List.mem_of_getElem? (i := 67) rfl))) Via.refl F_m rfl fun T1 X1 => ?_
  refine w_aloadN X1 (pc' := 6) d19_5 rfl rfl rfl ?_
  refine w_dup X1 (pc' := 7) d19_6 rfl rfl ?_
  refine w_getfield X1 (pc' := 10) d19_7 (host := "") (Or.inl (hw _ (List.mem_of_getElem? (i := 74) rfl))) Via.refl F_d rfl fun T2 X2 => ?_
  refine w_iconst X2 (pc' := 11) (1 : Int32) d19_10 rfl rfl ?_
  refine w_isub X2 (pc' := 12) d19_11 rfl ?_
  refine w_dup_x1 X2 (pc' := 13) d19_12 rfl rfl rfl ?_
  refine w_putfield X2 (pc' := 16) d19_13 (host := "") (Or.inl (hw _ (List.mem_of_getElem? (i := 74) rfl))) Via.refl F_d E_a (Or.inl (hw _ (List.mem_of_getElem? (i := 75) rfl))) (hw _ (List.mem_of_getElem? (i := 56) rfl)) (ty := .int) (by decide) rfl rfl g_a rfl fun T3 h3 X3 W3 F3 => ?_
  have O_d_4 := O_d.wr W3
  have F_p_4 := Fld.other W3 F_p (Or.inr (slot_ne (C := "com/example/raja/raja/xml/CanonicalWriter$Bindings") (Or.inl (hw _ (List.mem_of_getElem? (i := 65) rfl))) (Or.inl (hw _ (List.mem_of_getElem? (i := 75) rfl))) (by decide) (t := (.array (.object "java/lang/String"))) (t' := .int) (by decide) (by decide)))
  have F_s_4 := Fld.other W3 F_s (Or.inr (slot_ne (C := "com/example/raja/raja/xml/CanonicalWriter$Bindings") (Or.inl (hw _ (List.mem_of_getElem? (i := 77) rfl))) (Or.inl (hw _ (List.mem_of_getElem? (i := 75) rfl))) (by decide) (t := .int) (t' := .int) (by decide) (by decide)))
  have F_m_4 := Fld.other W3 F_m (Or.inr (slot_ne (C := "com/example/raja/raja/xml/CanonicalWriter$Bindings") (Or.inl (hw _ (List.mem_of_getElem? (i := 68) rfl))) (Or.inl (hw _ (List.mem_of_getElem? (i := 75) rfl))) (by decide) (t := (.array .int)) (t' := .int) (by decide) (by decide)))
  have E_a_4 := Exa.wr W3 E_a
  have A_d_4 := A_d.other W3 (Ne.symm ne_ad)
  have A_m_4 := A_m.other W3 (Ne.symm ne_am)
  have K_5r : Keep h0 _ [a] := (Keep.refl h0 [a])
  have K_5 : Keep h0 h3 [a] := K_5r.wr W3 (Or.inl (List.mem_of_getElem? (i := 0) rfl))
  refine w_iaload X3 (pc' := 17) 0 (v := (.int (Int32.ofNat mk))) d19_16 A_m_4 (by decide) (by decide) (hmk rfl) rfl ?_
  refine w_putfield X3 (pc' := 20) d19_17 (host := "") (Or.inl (hw _ (List.mem_of_getElem? (i := 76) rfl))) Via.refl F_s_4 E_a_4 (Or.inl (hw _ (List.mem_of_getElem? (i := 77) rfl))) (hw _ (List.mem_of_getElem? (i := 56) rfl)) (ty := .int) (by decide) rfl rfl g_a rfl fun T6 h6 X6 W6 F6 => ?_
  have O_d_7 := O_d_4.wr W6
  have F_p_7 := Fld.other W6 F_p_4 (Or.inr (slot_ne (C := "com/example/raja/raja/xml/CanonicalWriter$Bindings") (Or.inl (hw _ (List.mem_of_getElem? (i := 65) rfl))) (Or.inl (hw _ (List.mem_of_getElem? (i := 77) rfl))) (by decide) (t := (.array (.object "java/lang/String"))) (t' := .int) (by decide) (by decide)))
  have F_m_7 := Fld.other W6 F_m_4 (Or.inr (slot_ne (C := "com/example/raja/raja/xml/CanonicalWriter$Bindings") (Or.inl (hw _ (List.mem_of_getElem? (i := 68) rfl))) (Or.inl (hw _ (List.mem_of_getElem? (i := 77) rfl))) (by decide) (t := (.array .int)) (t' := .int) (by decide) (by decide)))
  have F3_7 := Fld.other W6 F3 (Or.inr (slot_ne (C := "com/example/raja/raja/xml/CanonicalWriter$Bindings") (Or.inl (hw _ (List.mem_of_getElem? (i := 75) rfl))) (Or.inl (hw _ (List.mem_of_getElem? (i := 77) rfl))) (by decide) (t := .int) (t' := .int) (by decide) (by decide)))
  have E_a_7 := Exa.wr W6 E_a_4
  have A_d_7 := A_d_4.other W6 (Ne.symm ne_ad)
  have A_m_7 := A_m_4.other W6 (Ne.symm ne_am)
  have K_8 : Keep h0 h6 [a] := K_5.wr W6 (Or.inl (List.mem_of_getElem? (i := 0) rfl))
  exact w_return X6 d19_20 ⟨⟨_, K_8, (ap1 (Apart.obj E_a (hw _ (List.mem_of_getElem? (i := 56) rfl)) (by decide) (by decide)))⟩, d, _, dm, _, g_a, g_d, g_dm, ne_ad, ne_am, ne_dm, E_a_7, F_p_7, F6, F_m_7, F3_7, O_d_7, A_d_7, A_m_7, fun q => absurd q (by decide), (fun j hj => by obtain ⟨r, r', q1, q2, q3, q4⟩ := hs j hj; exact ⟨r, r', q1, q2, q3.keep K_8 (ap1 (Apart.obj E_a (hw _ (List.mem_of_getElem? (i := 56) rfl)) (by decide) (by decide))), q4.keep K_8 (ap1 (Apart.obj E_a (hw _ (List.mem_of_getElem? (i := 56) rfl)) (by decide) (by decide)))⟩)⟩ (by decide) (by decide)
theorem d16_0 : decode prog_69_method_2_code 0 = .ok (.iconst 2, 1) := by decide +kernel
theorem d16_1 : decode prog_69_method_2_code 1 = .ok (.aload_n 0, 1) := by decide +kernel
theorem d16_2 : decode prog_69_method_2_code 2 = .ok (.getfield 19, 3) := by decide +kernel
theorem d16_5 : decode prog_69_method_2_code 5 = .ok (.imul, 1) := by decide +kernel
theorem d16_6 : decode prog_69_method_2_code 6 = .ok (.iconst 2, 1) := by decide +kernel
theorem d16_7 : decode prog_69_method_2_code 7 = .ok (.iadd, 1) := by decide +kernel
theorem d16_8 : decode prog_69_method_2_code 8 = .ok (.aload_n 0, 1) := by decide +kernel
theorem d16_9 : decode prog_69_method_2_code 9 = .ok (.getfield 9, 3) := by decide +kernel
theorem d16_12 : decode prog_69_method_2_code 12 = .ok (.arraylength, 1) := by decide +kernel
theorem d16_13 : decode prog_69_method_2_code 13 = .ok (.if_icmp .le 24, 3) := by decide +kernel
theorem d16_16 : decode prog_69_method_2_code 16 = .ok (.aload_n 0, 1) := by decide +kernel
theorem d16_17 : decode prog_69_method_2_code 17 = .ok (.aload_n 0, 1) := by decide +kernel
theorem d16_18 : decode prog_69_method_2_code 18 = .ok (.getfield 9, 3) := by decide +kernel
theorem d16_21 : decode prog_69_method_2_code 21 = .ok (.iconst 2, 1) := by decide +kernel
theorem d16_22 : decode prog_69_method_2_code 22 = .ok (.aload_n 0, 1) := by decide +kernel
theorem d16_23 : decode prog_69_method_2_code 23 = .ok (.getfield 9, 3) := by decide +kernel
theorem d16_26 : decode prog_69_method_2_code 26 = .ok (.arraylength, 1) := by decide +kernel
theorem d16_27 : decode prog_69_method_2_code 27 = .ok (.imul, 1) := by decide +kernel
theorem d16_28 : decode prog_69_method_2_code 28 = .ok (.invokestatic 23, 3) := by decide +kernel
theorem d16_31 : decode prog_69_method_2_code 31 = .ok (.checkcast 29, 3) := by decide +kernel
theorem d16_34 : decode prog_69_method_2_code 34 = .ok (.putfield 9, 3) := by decide +kernel
theorem d16_37 : decode prog_69_method_2_code 37 = .ok (.aload_n 0, 1) := by decide +kernel
theorem d16_38 : decode prog_69_method_2_code 38 = .ok (.getfield 9, 3) := by decide +kernel
theorem d16_41 : decode prog_69_method_2_code 41 = .ok (.iconst 2, 1) := by decide +kernel
theorem d16_42 : decode prog_69_method_2_code 42 = .ok (.aload_n 0, 1) := by decide +kernel
theorem d16_43 : decode prog_69_method_2_code 43 = .ok (.getfield 19, 3) := by decide +kernel
theorem d16_46 : decode prog_69_method_2_code 46 = .ok (.imul, 1) := by decide +kernel
theorem d16_47 : decode prog_69_method_2_code 47 = .ok (.aload_n 1, 1) := by decide +kernel
theorem d16_48 : decode prog_69_method_2_code 48 = .ok (.aastore, 1) := by decide +kernel
theorem d16_49 : decode prog_69_method_2_code 49 = .ok (.aload_n 0, 1) := by decide +kernel
theorem d16_50 : decode prog_69_method_2_code 50 = .ok (.getfield 9, 3) := by decide +kernel
theorem d16_53 : decode prog_69_method_2_code 53 = .ok (.iconst 2, 1) := by decide +kernel
theorem d16_54 : decode prog_69_method_2_code 54 = .ok (.aload_n 0, 1) := by decide +kernel
theorem d16_55 : decode prog_69_method_2_code 55 = .ok (.getfield 19, 3) := by decide +kernel
theorem d16_58 : decode prog_69_method_2_code 58 = .ok (.imul, 1) := by decide +kernel
theorem d16_59 : decode prog_69_method_2_code 59 = .ok (.iconst 1, 1) := by decide +kernel
theorem d16_60 : decode prog_69_method_2_code 60 = .ok (.iadd, 1) := by decide +kernel
theorem d16_61 : decode prog_69_method_2_code 61 = .ok (.aload_n 2, 1) := by decide +kernel
theorem d16_62 : decode prog_69_method_2_code 62 = .ok (.aastore, 1) := by decide +kernel
theorem d16_63 : decode prog_69_method_2_code 63 = .ok (.aload_n 0, 1) := by decide +kernel
theorem d16_64 : decode prog_69_method_2_code 64 = .ok (.dup, 1) := by decide +kernel
theorem d16_65 : decode prog_69_method_2_code 65 = .ok (.getfield 19, 3) := by decide +kernel
theorem d16_68 : decode prog_69_method_2_code 68 = .ok (.iconst 1, 1) := by decide +kernel
theorem d16_69 : decode prog_69_method_2_code 69 = .ok (.iadd, 1) := by decide +kernel
theorem d16_70 : decode prog_69_method_2_code 70 = .ok (.putfield 19, 3) := by decide +kernel
theorem d16_73 : decode prog_69_method_2_code 73 = .ok (.return_, 1) := by decide +kernel
theorem pn_16 : plainFor (⟨"com/example/raja/raja/xml/CanonicalWriter$Bindings", "push", "(Ljava/lang/String;Ljava/lang/String;)V"⟩ : MethodName) = true := plainFor_of_name (by first | (simp [plainName, overriddenIn]; done) | decide +kernel)
theorem pd_16 : parseMethodDescriptor "(Ljava/lang/String;Ljava/lang/String;)V" = some ⟨[(.object "java/lang/String"), (.object "java/lang/String")], none⟩ := by decide +kernel
set_option maxRecDepth 65536 in
set_option maxHeartbeats 40000000 in
theorem rm_push {l : Launch} {Z : State} {a0 : Array Value} (hw : ∀ d ∈ tables_1, d.before a0 Z = true) {n0 : Nat} {h0 : Heap} (Z0 : n0 ≤ h0.size) (a a1 a2 : Addr) {es : List own_E} {k u : List Int32} {dp mk : Nat} (B : BD Z n0 h0 a es es.length dp mk) (hn : es.length < 8) (S_1 : Str Z h0 a1 k) (S_2 : Str Z h0 a2 u) :
    Con l Z n0 (⟨"com/example/raja/raja/xml/CanonicalWriter$Bindings", "push", "(Ljava/lang/String;Ljava/lang/String;)V"⟩ : MethodName) prog_69_method_2_code 3 none ({ frames := 0, cells := 0, slots := 0, locals := 0 } : Room) #[(.ref a), (.ref a1), (.ref a2)] h0 (Non (fun h => (∃ ws, Keep h0 h ws ∧ ∀ x ∈ ws, Apart Z h0 x) ∧ BD Z n0 h a (es ++ [(k, u)]) (es.length + 1) dp mk)) := by
  refine con_intro pn_16 Z0 (fr := fun m => mkF m 0 #[.val (.ref a), .val (.ref a1), .val (.ref a2)] []) (fun m => by first | (simp [entryFrame, mkF, argsToLocals, Value.category]; done) | rfl) ?_
  intro p e s m below s₁ hs0 X0
  obtain ⟨d, f, dm, fm, g_a, g_d, g_dm, ne_ad, ne_am, ne_dm, E_a, F_p, F_s, F_m, F_d, O_d, A_d, A_m, hmk, hs⟩ := B
  have E_1 := S_1.exa
  have E_2 := S_2.exa
  have m2 : ((2 : Int32) * (Int32.ofNat es.length)).toInt = ((2 * es.length : Nat) : Int) := by rw [Jvm.Kit.i32_mul (by rw [own_nat _ (by omega), show (2 : Int32).toInt = 2 from by decide]; omega) (by rw [own_nat _ (by omega), show (2 : Int32).toInt = 2 from by decide]; omega), own_nat _ (by omega), show (2 : Int32).toInt = 2 from by decide]; omega
  have m3 : ((2 : Int32) * (Int32.ofNat es.length) + (1 : Int32)).toInt = ((2 * es.length + 1 : Nat) : Int) := by rw [Jvm.Kit.i32_add (by rw [m2, show (1 : Int32).toInt = 1 from by decide]; omega) (by rw [m2, show (1 : Int32).toInt = 1 from by decide]; omega), m2, show (1 : Int32).toInt = 1 from by decide]; omega
  have m4 : ((2 : Int32) * (Int32.ofNat es.length) + (2 : Int32)).toInt = ((2 * es.length + 2 : Nat) : Int) := by rw [Jvm.Kit.i32_add (by rw [m2, show (2 : Int32).toInt = 2 from by decide]; omega) (by rw [m2, show (2 : Int32).toInt = 2 from by decide]; omega), m2, show (2 : Int32).toInt = 2 from by decide]; omega
  refine w_iconst X0 (pc' := 1) (2 : Int32) d16_0 rfl rfl ?_
  refine w_aloadN X0 (pc' := 2) d16_1 rfl rfl rfl ?_
  refine w_getfield X0 (pc' := 5) d16_2 (host := "") (Or.inl (hw _ (List.mem_of_getElem? (i := 76) rfl))) Via.refl F_s rfl fun T1 X1 => ?_
  refine w_imul X1 (pc' := 6) d16_5 rfl ?_
  refine w_iconst X1 (pc' := 7) (2 : Int32) d16_6 rfl rfl ?_
  refine w_iadd X1 (pc' := 8) d16_7 rfl ?_
  refine w_aloadN X1 (pc' := 9) d16_8 rfl rfl rfl ?_
  refine w_getfield X1 (pc' := 12) d16_9 (host := "") (Or.inl (hw _ (List.mem_of_getElem? (i := 64) rfl))) Via.refl F_p rfl fun T2 X2 => ?_
  refine w_arraylength X2 (pc' := 13) (32 : Int32) d16_12 A_d (by decide) rfl ?_
  refine w_icmp_le X2 37 16 d16_13 (by decide) rfl rfl (fun hc13 => ?_) (fun hc13 => by exfalso; rw [Int32.lt_iff_toInt_lt, m4, show (32 : Int32).toInt = 32 from by decide] at hc13; omega)
  refine w_aloadN X2 (pc' := 38) d16_37 rfl rfl rfl ?_
  refine w_getfield X2 (pc' := 41) d16_38 (host := "") (Or.inl (hw _ (List.mem_of_getElem? (i := 64) rfl))) Via.refl F_p rfl fun T3 X3 => ?_
  refine w_iconst X3 (pc' := 42) (2 : Int32) d16_41 rfl rfl ?_
  refine w_aloadN X3 (pc' := 43) d16_42 rfl rfl rfl ?_
  refine w_getfield X3 (pc' := 46) d16_43 (host := "") (Or.inl (hw _ (List.mem_of_getElem? (i := 76) rfl))) Via.refl F_s rfl fun T4 X4 => ?_
  refine w_imul X4 (pc' := 47) d16_46 rfl ?_
  refine w_aloadN X4 (pc' := 48) d16_47 rfl rfl rfl ?_
  refine w_aastore X4 (pc' := 49) (2 * es.length) d16_48 A_d rfl (O_d.sto (Ins.self E_1)) m2 (by omega) g_d rfl fun T5 h5 X5 W5 A5 => ?_
  have O_d_6 := O_d.wr W5
  have F_p_6 := Fld.other W5 F_p (Or.inl ne_ad)
  have F_s_6 := Fld.other W5 F_s (Or.inl ne_ad)
  have F_m_6 := Fld.other W5 F_m (Or.inl ne_ad)
  have F_d_6 := Fld.other W5 F_d (Or.inl ne_ad)
  have E_a_6 := Exa.wr W5 E_a
  have E_6 := Exa.wr W5 E_1
  have E_6 := Exa.wr W5 E_2
  have A_m_6 := A_m.other W5 (Ne.symm ne_dm)
  have K_7r : Keep h0 _ [a, d] := (Keep.refl h0 [a, d])
  have K_7 : Keep h0 h5 [a, d] := K_7r.wr W5 (Or.inl (List.mem_of_getElem? (i := 1) rfl))
  refine w_aloadN X5 (pc' := 50) d16_49 rfl rfl rfl ?_
  refine w_getfield X5 (pc' := 53) d16_50 (host := "") (Or.inl (hw _ (List.mem_of_getElem? (i := 64) rfl))) Via.refl F_p_6 rfl fun T8 X8 => ?_
  refine w_iconst X8 (pc' := 54) (2 : Int32) d16_53 rfl rfl ?_
  refine w_aloadN X8 (pc' := 55) d16_54 rfl rfl rfl ?_
  refine w_getfield X8 (pc' := 58) d16_55 (host := "") (Or.inl (hw _ (List.mem_of_getElem? (i := 76) rfl))) Via.refl F_s_6 rfl fun T9 X9 => ?_
  refine w_imul X9 (pc' := 59) d16_58 rfl ?_
  refine w_iconst X9 (pc' := 60) (1 : Int32) d16_59 rfl rfl ?_
  refine w_iadd X9 (pc' := 61) d16_60 rfl ?_
  refine w_aloadN X9 (pc' := 62) d16_61 rfl rfl rfl ?_
  refine w_aastore X9 (pc' := 63) (2 * es.length + 1) d16_62 A5 rfl (O_d_6.sto (Ins.self E_6)) m3 (by omega) g_d rfl fun T10 h10 X10 W10 A10 => ?_
  have O_d_11 := O_d_6.wr W10
  have F_p_11 := Fld.other W10 F_p_6 (Or.inl ne_ad)
  have F_s_11 := Fld.other W10 F_s_6 (Or.inl ne_ad)
  have F_m_11 := Fld.other W10 F_m_6 (Or.inl ne_ad)
  have F_d_11 := Fld.other W10 F_d_6 (Or.inl ne_ad)
  have E_a_11 := Exa.wr W10 E_a_6
  have E_11 := Exa.wr W10 E_6
  have E_11 := Exa.wr W10 E_6
  have A_m_11 := A_m_6.other W10 (Ne.symm ne_dm)
  have K_12 : Keep h0 h10 [a, d] := K_7.wr W10 (Or.inl (List.mem_of_getElem? (i := 1) rfl))
  refine w_aloadN X10 (pc' := 64) d16_63 rfl rfl rfl ?_
  refine w_dup X10 (pc' := 65) d16_64 rfl rfl ?_
  refine w_getfield X10 (pc' := 68) d16_65 (host := "") (Or.inl (hw _ (List.mem_of_getElem? (i := 76) rfl))) Via.refl F_s_11 rfl fun T13 X13 => ?_
  refine w_iconst X13 (pc' := 69) (1 : Int32) d16_68 rfl rfl ?_
  refine w_iadd X13 (pc' := 70) d16_69 rfl ?_
  refine w_putfield X13 (pc' := 73) d16_70 (host := "") (Or.inl (hw _ (List.mem_of_getElem? (i := 76) rfl))) Via.refl F_s_11 E_a_11 (Or.inl (hw _ (List.mem_of_getElem? (i := 77) rfl))) (hw _ (List.mem_of_getElem? (i := 56) rfl)) (ty := .int) (by decide) rfl rfl g_a rfl fun T14 h14 X14 W14 F14 => ?_
  have O_d_15 := O_d_11.wr W14
  have F_p_15 := Fld.other W14 F_p_11 (Or.inr (slot_ne (C := "com/example/raja/raja/xml/CanonicalWriter$Bindings") (Or.inl (hw _ (List.mem_of_getElem? (i := 65) rfl))) (Or.inl (hw _ (List.mem_of_getElem? (i := 77) rfl))) (by decide) (t := (.array (.object "java/lang/String"))) (t' := .int) (by decide) (by decide)))
  have F_m_15 := Fld.other W14 F_m_11 (Or.inr (slot_ne (C := "com/example/raja/raja/xml/CanonicalWriter$Bindings") (Or.inl (hw _ (List.mem_of_getElem? (i := 68) rfl))) (Or.inl (hw _ (List.mem_of_getElem? (i := 77) rfl))) (by decide) (t := (.array .int)) (t' := .int) (by decide) (by decide)))
  have F_d_15 := Fld.other W14 F_d_11 (Or.inr (slot_ne (C := "com/example/raja/raja/xml/CanonicalWriter$Bindings") (Or.inl (hw _ (List.mem_of_getElem? (i := 75) rfl))) (Or.inl (hw _ (List.mem_of_getElem? (i := 77) rfl))) (by decide) (t := .int) (t' := .int) (by decide) (by decide)))
  have E_a_15 := Exa.wr W14 E_a_11
  have E_15 := Exa.wr W14 E_11
  have E_15 := Exa.wr W14 E_11
  have A_m_15 := A_m_11.other W14 (Ne.symm ne_am)
  have A10_15 := A10.other W14 (Ne.symm ne_ad)
  have K_16 : Keep h0 h14 [a, d] := K_12.wr W14 (Or.inl (List.mem_of_getElem? (i := 0) rfl))
  have hk : ∀ j, j < (es ++ [(k, u)]).length → ∃ r r', (upd (upd f (2 * es.length) (.ref a1)) (2 * es.length + 1) (.ref a2)) (2 * j) = .ref r ∧ (upd (upd f (2 * es.length) (.ref a1)) (2 * es.length + 1) (.ref a2)) (2 * j + 1) = .ref r' ∧ Str Z h14 r ((es ++ [(k, u)]).getD j ([], [])).1 ∧ Str Z h14 r' ((es ++ [(k, u)]).getD j ([], [])).2 := fun j hj => by
    rw [List.length_append, List.length_singleton] at hj
    by_cases q : j = es.length
    · subst q
      exact ⟨a1, a2, by rw [upd_other _ _ (by omega), upd_same], by rw [upd_same], by simpa using S_1.keep K_16 (ap2 (Apart.obj E_a (hw _ (List.mem_of_getElem? (i := 56) rfl)) (by decide) (by decide)) (Apart.ary A_d (by decide))), by simpa using S_2.keep K_16 (ap2 (Apart.obj E_a (hw _ (List.mem_of_getElem? (i := 56) rfl)) (by decide) (by decide)) (Apart.ary A_d (by decide)))⟩
    · obtain ⟨r, r', q1, q2, q3, q4⟩ := hs j (by omega)
      have e : (es ++ [(k, u)]).getD j ([], []) = es.getD j ([], []) := by simp [List.getD_eq_getElem?_getD, List.getElem?_append_left (show j < es.length by omega)]
      rw [e]
      exact ⟨r, r', by rw [upd_other _ _ (by omega), upd_other _ _ (by omega)]; exact q1, by rw [upd_other _ _ (by omega), upd_other _ _ (by omega)]; exact q2, q3.keep K_16 (ap2 (Apart.obj E_a (hw _ (List.mem_of_getElem? (i := 56) rfl)) (by decide) (by decide)) (Apart.ary A_d (by decide))), q4.keep K_16 (ap2 (Apart.obj E_a (hw _ (List.mem_of_getElem? (i := 56) rfl)) (by decide) (by decide)) (Apart.ary A_d (by decide)))⟩
  have hz : Fld Z h14 a "com/example/raja/raja/xml/CanonicalWriter$Bindings" "size" "I" (.int (Int32.ofNat (es.length + 1))) := by rw [← own_succ]; exact F14
  exact w_return X14 d16_73 ⟨⟨_, K_16, (ap2 (Apart.obj E_a (hw _ (List.mem_of_getElem? (i := 56) rfl)) (by decide) (by decide)) (Apart.ary A_d (by decide)))⟩, d, _, dm, _, g_a, g_d, g_dm, ne_ad, ne_am, ne_dm, E_a_15, F_p_15, hz, F_m_15, F_d_15, O_d_15, A10_15, A_m_15, hmk, hk⟩ (by decide) (by decide)
theorem d15_0 : decode prog_69_method_10_code 0 = .ok (.aload_n 0, 1) := by decide +kernel
theorem d15_1 : decode prog_69_method_10_code 1 = .ok (.getfield 19, 3) := by decide +kernel
theorem d15_4 : decode prog_69_method_10_code 4 = .ok (.iconst 1, 1) := by decide +kernel
theorem d15_5 : decode prog_69_method_10_code 5 = .ok (.isub, 1) := by decide +kernel
theorem d15_6 : decode prog_69_method_10_code 6 = .ok (.istore_n 2, 1) := by decide +kernel
theorem d15_7 : decode prog_69_method_10_code 7 = .ok (.iload_n 2, 1) := by decide +kernel
theorem d15_8 : decode prog_69_method_10_code 8 = .ok (.ifCond .lt 35, 3) := by decide +kernel
theorem d15_11 : decode prog_69_method_10_code 11 = .ok (.aload_n 0, 1) := by decide +kernel
theorem d15_12 : decode prog_69_method_10_code 12 = .ok (.getfield 9, 3) := by decide +kernel
theorem d15_15 : decode prog_69_method_10_code 15 = .ok (.iconst 2, 1) := by decide +kernel
theorem d15_16 : decode prog_69_method_10_code 16 = .ok (.iload_n 2, 1) := by decide +kernel
theorem d15_17 : decode prog_69_method_10_code 17 = .ok (.imul, 1) := by decide +kernel
theorem d15_18 : decode prog_69_method_10_code 18 = .ok (.aaload, 1) := by decide +kernel
theorem d15_19 : decode prog_69_method_10_code 19 = .ok (.aload_n 1, 1) := by decide +kernel
theorem d15_20 : decode prog_69_method_10_code 20 = .ok (.invokevirtual 36, 3) := by decide +kernel
theorem d15_23 : decode prog_69_method_10_code 23 = .ok (.ifCond .eq 14, 3) := by decide +kernel
theorem d15_26 : decode prog_69_method_10_code 26 = .ok (.aload_n 0, 1) := by decide +kernel
theorem d15_27 : decode prog_69_method_10_code 27 = .ok (.getfield 9, 3) := by decide +kernel
theorem d15_30 : decode prog_69_method_10_code 30 = .ok (.iconst 2, 1) := by decide +kernel
theorem d15_31 : decode prog_69_method_10_code 31 = .ok (.iload_n 2, 1) := by decide +kernel
theorem d15_32 : decode prog_69_method_10_code 32 = .ok (.imul, 1) := by decide +kernel
theorem d15_33 : decode prog_69_method_10_code 33 = .ok (.iconst 1, 1) := by decide +kernel
theorem d15_34 : decode prog_69_method_10_code 34 = .ok (.iadd, 1) := by decide +kernel
theorem d15_35 : decode prog_69_method_10_code 35 = .ok (.aaload, 1) := by decide +kernel
theorem d15_36 : decode prog_69_method_10_code 36 = .ok (.areturn, 1) := by decide +kernel
theorem d15_37 : decode prog_69_method_10_code 37 = .ok (.iinc 2 (-1), 3) := by decide +kernel
theorem d15_40 : decode prog_69_method_10_code 40 = .ok (.goto (-33), 3) := by decide +kernel
theorem d15_43 : decode prog_69_method_10_code 43 = .ok (.aconst_null, 1) := by decide +kernel
theorem d15_44 : decode prog_69_method_10_code 44 = .ok (.areturn, 1) := by decide +kernel
theorem pn_15 : plainFor (⟨"com/example/raja/raja/xml/CanonicalWriter$Bindings", "valueOf", "(Ljava/lang/String;)Ljava/lang/String;"⟩ : MethodName) = true := plainFor_of_name (by first | (simp [plainName, overriddenIn]; done) | decide +kernel)
theorem pd_15 : parseMethodDescriptor "(Ljava/lang/String;)Ljava/lang/String;" = some ⟨[(.object "java/lang/String")], some (.object "java/lang/String")⟩ := by decide +kernel
set_option maxRecDepth 65536 in
set_option maxHeartbeats 40000000 in
theorem rm_vo3 {l : Launch} {Z : State} {a0 : Array Value} (hw : ∀ d ∈ tables_1, d.before a0 Z = true) {n0 : Nat} {h0 : Heap} (Z0 : n0 ≤ h0.size) (a a1 : Addr) {es : List own_E} {q : List Int32} {dp mk : Nat} (B : BD Z n0 h0 a es 3 dp mk) (hn : 3 ≤ es.length) (S_q : Str Z h0 a1 q) {zc : Int32} (S_c : Sta Z h0 "java/lang/String" "COMPACT_STRINGS" "Z" (.int zc)) (hzc : ¬ zc = (0 : Int32))  :
    Con l Z n0 (⟨"com/example/raja/raja/xml/CanonicalWriter$Bindings", "valueOf", "(Ljava/lang/String;)Ljava/lang/String;"⟩ : MethodName) prog_69_method_10_code 3 (some (.object "java/lang/String")) ({ frames := 2, cells := 0, slots := 0, locals := 28 } : Room) #[(.ref a), (.ref a1)] h0 (Val (fun v h => (v = .null ∧ own_val es q 3 = none ∨ ∃ r bs, v = .ref r ∧ Str Z h0 r bs ∧ own_val es q 3 = some bs) ∧ h0 = h)) := by
  refine con_intro pn_15 Z0 (fr := fun m => mkF m 0 #[.val (.ref a), .val (.ref a1), .unset] []) (fun m => by first | (simp [entryFrame, mkF, argsToLocals, Value.category]; done) | rfl) ?_
  intro p e s m below s₁ hs0 X0
  obtain ⟨d, f, dm, fm, g_a, g_d, g_dm, ne_ad, ne_am, ne_dm, E_a, F_p, F_s, F_m, F_d, O_d, A_d, A_m, hmk, hs⟩ := B
  obtain ⟨r0, r'0, f0, f'0, S0_0, S'0_0⟩ := hs 0 (by omega)
  obtain ⟨r1, r'1, f1, f'1, S1_0, S'1_0⟩ := hs 1 (by omega)
  obtain ⟨r2, r'2, f2, f'2, S2_0, S'2_0⟩ := hs 2 (by omega)
  refine w_aloadN X0 (pc' := 1) d15_0 rfl rfl rfl ?_
  refine w_getfield X0 (pc' := 4) d15_1 (host := "") (Or.inl (hw _ (List.mem_of_getElem? (i := 76) rfl))) Via.refl F_s rfl fun T1 X1 => ?_
  refine w_iconst X1 (pc' := 5) (1 : Int32) d15_4 rfl rfl ?_
  refine w_isub X1 (pc' := 6) d15_5 rfl ?_
  refine w_istoreN X1 (pc' := 7) (l' := #[.val (.ref a), .val (.ref a1), .val (.int ((3 : Int32) - (1 : Int32)))]) d15_6 rfl rfl ?_
  refine w_iloadN X1 (pc' := 8) d15_7 rfl rfl ?_
  refine w_if_lt X1 43 11 d15_8 (by decide) rfl rfl (fun hc8 => by exfalso; revert hc8; decide) (fun hc8 => ?_)
  refine w_aloadN X1 (pc' := 12) d15_11 rfl rfl rfl ?_
  refine w_getfield X1 (pc' := 15) d15_12 (host := "") (Or.inl (hw _ (List.mem_of_getElem? (i := 64) rfl))) Via.refl F_p rfl fun T2 X2 => ?_
  refine w_iconst X2 (pc' := 16) (2 : Int32) d15_15 rfl rfl ?_
  refine w_iloadN X2 (pc' := 17) d15_16 rfl rfl ?_
  refine w_imul X2 (pc' := 18) d15_17 rfl ?_
  refine w_aaload X2 (pc' := 19) 4 (v := (.ref r2)) d15_18 A_d rfl (by decide) (by decide) f2 rfl ?_
  refine w_aloadN X2 (pc' := 20) d15_19 rfl rfl rfl ?_
  refine w_virtualV X2 (pc' := 23) d15_20 (rm_eq hw (h0 := h0) (sd_size X2) r2 a1 S2_0 S_q S_c hzc) (hw _ (List.mem_of_getElem? (i := 99) rfl)) (hw _ (List.mem_of_getElem? (i := 92) rfl)) (hw _ (List.mem_of_getElem? (i := 94) rfl)) (hw _ (List.mem_of_getElem? (i := 93) rfl)) (hw _ (List.mem_of_getElem? (i := 5) rfl)) (hw _ (List.mem_of_getElem? (i := 95) rfl)) S2_0.exa (by decide) [(.ref a1)] [] pd_17 rfl rfl rfl rfl 0 (Nat.le_refl _) (by decide) (by decide) (by decide) (by decide) rfl fun T3 h3 v3 X3 q3 => ?_
  obtain ⟨rfl, rfl⟩ := q3
  refine w_if_eq X3 37 26 d15_23 (by decide) rfl rfl (fun hc23 => ?_) (fun hc23 => ?_)
  · skip
    have hy2 := own_if0 hc23
    refine w_iinc X3 (pc' := 40) (((3 : Int32) - (1 : Int32)) + (-1 : Int32)) (l' := #[.val (.ref a), .val (.ref a1), .val (.int (((3 : Int32) - (1 : Int32)) + (-1 : Int32)))]) d15_37 rfl rfl rfl rfl ?_
    refine w_goto X3 (pc' := 7) d15_40 (by decide) rfl ?_
    refine w_iloadN X3 (pc' := 8) d15_7 rfl rfl ?_
    refine w_if_lt X3 43 11 d15_8 (by decide) rfl rfl (fun hc8 => by exfalso; revert hc8; decide) (fun hc8 => ?_)
    refine w_aloadN X3 (pc' := 12) d15_11 rfl rfl rfl ?_
    refine w_getfield X3 (pc' := 15) d15_12 (host := "") (Or.inl (hw _ (List.mem_of_getElem? (i := 64) rfl))) Via.refl F_p rfl fun T4 X4 => ?_
    refine w_iconst X4 (pc' := 16) (2 : Int32) d15_15 rfl rfl ?_
    refine w_iloadN X4 (pc' := 17) d15_16 rfl rfl ?_
    refine w_imul X4 (pc' := 18) d15_17 rfl ?_
    refine w_aaload X4 (pc' := 19) 2 (v := (.ref r1)) d15_18 A_d rfl (by decide) (by decide) f1 rfl ?_
    refine w_aloadN X4 (pc' := 20) d15_19 rfl rfl rfl ?_
    refine w_virtualV X4 (pc' := 23) d15_20 (rm_eq hw (h0 := h0) (sd_size X4) r1 a1 S1_0 S_q S_c hzc) (hw _ (List.mem_of_getElem? (i := 99) rfl)) (hw _ (List.mem_of_getElem? (i := 92) rfl)) (hw _ (List.mem_of_getElem? (i := 94) rfl)) (hw _ (List.mem_of_getElem? (i := 93) rfl)) (hw _ (List.mem_of_getElem? (i := 5) rfl)) (hw _ (List.mem_of_getElem? (i := 95) rfl)) S1_0.exa (by decide) [(.ref a1)] [] pd_17 rfl rfl rfl rfl 0 (Nat.le_refl _) (by decide) (by decide) (by decide) (by decide) rfl fun T5 h5 v5 X5 q5 => ?_
    obtain ⟨rfl, rfl⟩ := q5
    refine w_if_eq X5 37 26 d15_23 (by decide) rfl rfl (fun hc23 => ?_) (fun hc23 => ?_)
    · skip
      have hy1 := own_if0 hc23
      refine w_iinc X5 (pc' := 40) ((((3 : Int32) - (1 : Int32)) + (-1 : Int32)) + (-1 : Int32)) (l' := #[.val (.ref a), .val (.ref a1), .val (.int ((((3 : Int32) - (1 : Int32)) + (-1 : Int32)) + (-1 : Int32)))]) d15_37 rfl rfl rfl rfl ?_
      refine w_goto X5 (pc' := 7) d15_40 (by decide) rfl ?_
      refine w_iloadN X5 (pc' := 8) d15_7 rfl rfl ?_
      refine w_if_lt X5 43 11 d15_8 (by decide) rfl rfl (fun hc8 => by exfalso; revert hc8; decide) (fun hc8 => ?_)
      refine w_aloadN X5 (pc' := 12) d15_11 rfl rfl rfl ?_
      refine w_getfield X5 (pc' := 15) d15_12 (host := "") (Or.inl (hw _ (List.mem_of_getElem? (i := 64) rfl))) Via.refl F_p rfl fun T6 X6 => ?_
      refine w_iconst X6 (pc' := 16) (2 : Int32) d15_15 rfl rfl ?_
      refine w_iloadN X6 (pc' := 17) d15_16 rfl rfl ?_
      refine w_imul X6 (pc' := 18) d15_17 rfl ?_
      refine w_aaload X6 (pc' := 19) 0 (v := (.ref r0)) d15_18 A_d rfl (by decide) (by decide) f0 rfl ?_
      refine w_aloadN X6 (pc' := 20) d15_19 rfl rfl rfl ?_
      refine w_virtualV X6 (pc' := 23) d15_20 (rm_eq hw (h0 := h0) (sd_size X6) r0 a1 S0_0 S_q S_c hzc) (hw _ (List.mem_of_getElem? (i := 99) rfl)) (hw _ (List.mem_of_getElem? (i := 92) rfl)) (hw _ (List.mem_of_getElem? (i := 94) rfl)) (hw _ (List.mem_of_getElem? (i := 93) rfl)) (hw _ (List.mem_of_getElem? (i := 5) rfl)) (hw _ (List.mem_of_getElem? (i := 95) rfl)) S0_0.exa (by decide) [(.ref a1)] [] pd_17 rfl rfl rfl rfl 0 (Nat.le_refl _) (by decide) (by decide) (by decide) (by decide) rfl fun T7 h7 v7 X7 q7 => ?_
      obtain ⟨rfl, rfl⟩ := q7
      refine w_if_eq X7 37 26 d15_23 (by decide) rfl rfl (fun hc23 => ?_) (fun hc23 => ?_)
      · skip
        have hy0 := own_if0 hc23
        refine w_iinc X7 (pc' := 40) (((((3 : Int32) - (1 : Int32)) + (-1 : Int32)) + (-1 : Int32)) + (-1 : Int32)) (l' := #[.val (.ref a), .val (.ref a1), .val (.int (((((3 : Int32) - (1 : Int32)) + (-1 : Int32)) + (-1 : Int32)) + (-1 : Int32)))]) d15_37 rfl rfl rfl rfl ?_
        refine w_goto X7 (pc' := 7) d15_40 (by decide) rfl ?_
        refine w_iloadN X7 (pc' := 8) d15_7 rfl rfl ?_
        refine w_if_lt X7 43 11 d15_8 (by decide) rfl rfl (fun hc8 => ?_) (fun hc8 => by exfalso; revert hc8; decide)
        refine w_aconst_null X7 (pc' := 44) d15_43 rfl ?_
        exact w_areturn X7 d15_44 rfl rfl rfl ⟨Or.inl ⟨rfl, (own_vn 2 hy2).trans ((own_vn 1 hy1).trans ((own_vn 0 hy0).trans (rfl)))⟩, rfl⟩ (by decide) (by decide)
      · skip
        have hy0 := own_if1 hc23
        refine w_aloadN X7 (pc' := 27) d15_26 rfl rfl rfl ?_
        refine w_getfield X7 (pc' := 30) d15_27 (host := "") (Or.inl (hw _ (List.mem_of_getElem? (i := 64) rfl))) Via.refl F_p rfl fun T8 X8 => ?_
        refine w_iconst X8 (pc' := 31) (2 : Int32) d15_30 rfl rfl ?_
        refine w_iloadN X8 (pc' := 32) d15_31 rfl rfl ?_
        refine w_imul X8 (pc' := 33) d15_32 rfl ?_
        refine w_iconst X8 (pc' := 34) (1 : Int32) d15_33 rfl rfl ?_
        refine w_iadd X8 (pc' := 35) d15_34 rfl ?_
        refine w_aaload X8 (pc' := 36) 1 (v := (.ref r'0)) d15_35 A_d rfl (by decide) (by decide) f'0 rfl ?_
        exact w_areturn X8 d15_36 rfl rfl rfl ⟨Or.inr ⟨_, _, rfl, S'0_0, (own_vn 2 hy2).trans ((own_vn 1 hy1).trans (own_vp 0 hy0))⟩, rfl⟩ (by decide) (by decide)
    · skip
      have hy1 := own_if1 hc23
      refine w_aloadN X5 (pc' := 27) d15_26 rfl rfl rfl ?_
      refine w_getfield X5 (pc' := 30) d15_27 (host := "") (Or.inl (hw _ (List.mem_of_getElem? (i := 64) rfl))) Via.refl F_p rfl fun T9 X9 => ?_
      refine w_iconst X9 (pc' := 31) (2 : Int32) d15_30 rfl rfl ?_
      refine w_iloadN X9 (pc' := 32) d15_31 rfl rfl ?_
      refine w_imul X9 (pc' := 33) d15_32 rfl ?_
      refine w_iconst X9 (pc' := 34) (1 : Int32) d15_33 rfl rfl ?_
      refine w_iadd X9 (pc' := 35) d15_34 rfl ?_
      refine w_aaload X9 (pc' := 36) 3 (v := (.ref r'1)) d15_35 A_d rfl (by decide) (by decide) f'1 rfl ?_
      exact w_areturn X9 d15_36 rfl rfl rfl ⟨Or.inr ⟨_, _, rfl, S'1_0, (own_vn 2 hy2).trans (own_vp 1 hy1)⟩, rfl⟩ (by decide) (by decide)
  · skip
    have hy2 := own_if1 hc23
    refine w_aloadN X3 (pc' := 27) d15_26 rfl rfl rfl ?_
    refine w_getfield X3 (pc' := 30) d15_27 (host := "") (Or.inl (hw _ (List.mem_of_getElem? (i := 64) rfl))) Via.refl F_p rfl fun T10 X10 => ?_
    refine w_iconst X10 (pc' := 31) (2 : Int32) d15_30 rfl rfl ?_
    refine w_iloadN X10 (pc' := 32) d15_31 rfl rfl ?_
    refine w_imul X10 (pc' := 33) d15_32 rfl ?_
    refine w_iconst X10 (pc' := 34) (1 : Int32) d15_33 rfl rfl ?_
    refine w_iadd X10 (pc' := 35) d15_34 rfl ?_
    refine w_aaload X10 (pc' := 36) 5 (v := (.ref r'2)) d15_35 A_d rfl (by decide) (by decide) f'2 rfl ?_
    exact w_areturn X10 d15_36 rfl rfl rfl ⟨Or.inr ⟨_, _, rfl, S'2_0, own_vp 2 hy2⟩, rfl⟩ (by decide) (by decide)
set_option maxRecDepth 65536 in
set_option maxHeartbeats 40000000 in
theorem rm_vo2 {l : Launch} {Z : State} {a0 : Array Value} (hw : ∀ d ∈ tables_1, d.before a0 Z = true) {n0 : Nat} {h0 : Heap} (Z0 : n0 ≤ h0.size) (a a1 : Addr) {es : List own_E} {q : List Int32} {dp mk : Nat} (B : BD Z n0 h0 a es 2 dp mk) (hn : 2 ≤ es.length) (S_q : Str Z h0 a1 q) {zc : Int32} (S_c : Sta Z h0 "java/lang/String" "COMPACT_STRINGS" "Z" (.int zc)) (hzc : ¬ zc = (0 : Int32))  :
    Con l Z n0 (⟨"com/example/raja/raja/xml/CanonicalWriter$Bindings", "valueOf", "(Ljava/lang/String;)Ljava/lang/String;"⟩ : MethodName) prog_69_method_10_code 3 (some (.object "java/lang/String")) ({ frames := 2, cells := 0, slots := 0, locals := 28 } : Room) #[(.ref a), (.ref a1)] h0 (Val (fun v h => (v = .null ∧ own_val es q 2 = none ∨ ∃ r bs, v = .ref r ∧ Str Z h0 r bs ∧ own_val es q 2 = some bs) ∧ h0 = h)) := by
  refine con_intro pn_15 Z0 (fr := fun m => mkF m 0 #[.val (.ref a), .val (.ref a1), .unset] []) (fun m => by first | (simp [entryFrame, mkF, argsToLocals, Value.category]; done) | rfl) ?_
  intro p e s m below s₁ hs0 X0
  obtain ⟨d, f, dm, fm, g_a, g_d, g_dm, ne_ad, ne_am, ne_dm, E_a, F_p, F_s, F_m, F_d, O_d, A_d, A_m, hmk, hs⟩ := B
  obtain ⟨r0, r'0, f0, f'0, S0_0, S'0_0⟩ := hs 0 (by omega)
  obtain ⟨r1, r'1, f1, f'1, S1_0, S'1_0⟩ := hs 1 (by omega)
  refine w_aloadN X0 (pc' := 1) d15_0 rfl rfl rfl ?_
  refine w_getfield X0 (pc' := 4) d15_1 (host := "") (Or.inl (hw _ (List.mem_of_getElem? (i := 76) rfl))) Via.refl F_s rfl fun T1 X1 => ?_
  refine w_iconst X1 (pc' := 5) (1 : Int32) d15_4 rfl rfl ?_
  refine w_isub X1 (pc' := 6) d15_5 rfl ?_
  refine w_istoreN X1 (pc' := 7) (l' := #[.val (.ref a), .val (.ref a1), .val (.int ((2 : Int32) - (1 : Int32)))]) d15_6 rfl rfl ?_
  refine w_iloadN X1 (pc' := 8) d15_7 rfl rfl ?_
  refine w_if_lt X1 43 11 d15_8 (by decide) rfl rfl (fun hc8 => by exfalso; revert hc8; decide) (fun hc8 => ?_)
  refine w_aloadN X1 (pc' := 12) d15_11 rfl rfl rfl ?_
  refine w_getfield X1 (pc' := 15) d15_12 (host := "") (Or.inl (hw _ (List.mem_of_getElem? (i := 64) rfl))) Via.refl F_p rfl fun T2 X2 => ?_
  refine w_iconst X2 (pc' := 16) (2 : Int32) d15_15 rfl rfl ?_
  refine w_iloadN X2 (pc' := 17) d15_16 rfl rfl ?_
  refine w_imul X2 (pc' := 18) d15_17 rfl ?_
  refine w_aaload X2 (pc' := 19) 2 (v := (.ref r1)) d15_18 A_d rfl (by decide) (by decide) f1 rfl ?_
  refine w_aloadN X2 (pc' := 20) d15_19 rfl rfl rfl ?_
  refine w_virtualV X2 (pc' := 23) d15_20 (rm_eq hw (h0 := h0) (sd_size X2) r1 a1 S1_0 S_q S_c hzc) (hw _ (List.mem_of_getElem? (i := 99) rfl)) (hw _ (List.mem_of_getElem? (i := 92) rfl)) (hw _ (List.mem_of_getElem? (i := 94) rfl)) (hw _ (List.mem_of_getElem? (i := 93) rfl)) (hw _ (List.mem_of_getElem? (i := 5) rfl)) (hw _ (List.mem_of_getElem? (i := 95) rfl)) S1_0.exa (by decide) [(.ref a1)] [] pd_17 rfl rfl rfl rfl 0 (Nat.le_refl _) (by decide) (by decide) (by decide) (by decide) rfl fun T3 h3 v3 X3 q3 => ?_
  obtain ⟨rfl, rfl⟩ := q3
  refine w_if_eq X3 37 26 d15_23 (by decide) rfl rfl (fun hc23 => ?_) (fun hc23 => ?_)
  · skip
    have hy1 := own_if0 hc23
    refine w_iinc X3 (pc' := 40) (((2 : Int32) - (1 : Int32)) + (-1 : Int32)) (l' := #[.val (.ref a), .val (.ref a1), .val (.int (((2 : Int32) - (1 : Int32)) + (-1 : Int32)))]) d15_37 rfl rfl rfl rfl ?_
    refine w_goto X3 (pc' := 7) d15_40 (by decide) rfl ?_
    refine w_iloadN X3 (pc' := 8) d15_7 rfl rfl ?_
    refine w_if_lt X3 43 11 d15_8 (by decide) rfl rfl (fun hc8 => by exfalso; revert hc8; decide) (fun hc8 => ?_)
    refine w_aloadN X3 (pc' := 12) d15_11 rfl rfl rfl ?_
    refine w_getfield X3 (pc' := 15) d15_12 (host := "") (Or.inl (hw _ (List.mem_of_getElem? (i := 64) rfl))) Via.refl F_p rfl fun T4 X4 => ?_
    refine w_iconst X4 (pc' := 16) (2 : Int32) d15_15 rfl rfl ?_
    refine w_iloadN X4 (pc' := 17) d15_16 rfl rfl ?_
    refine w_imul X4 (pc' := 18) d15_17 rfl ?_
    refine w_aaload X4 (pc' := 19) 0 (v := (.ref r0)) d15_18 A_d rfl (by decide) (by decide) f0 rfl ?_
    refine w_aloadN X4 (pc' := 20) d15_19 rfl rfl rfl ?_
    refine w_virtualV X4 (pc' := 23) d15_20 (rm_eq hw (h0 := h0) (sd_size X4) r0 a1 S0_0 S_q S_c hzc) (hw _ (List.mem_of_getElem? (i := 99) rfl)) (hw _ (List.mem_of_getElem? (i := 92) rfl)) (hw _ (List.mem_of_getElem? (i := 94) rfl)) (hw _ (List.mem_of_getElem? (i := 93) rfl)) (hw _ (List.mem_of_getElem? (i := 5) rfl)) (hw _ (List.mem_of_getElem? (i := 95) rfl)) S0_0.exa (by decide) [(.ref a1)] [] pd_17 rfl rfl rfl rfl 0 (Nat.le_refl _) (by decide) (by decide) (by decide) (by decide) rfl fun T5 h5 v5 X5 q5 => ?_
    obtain ⟨rfl, rfl⟩ := q5
    refine w_if_eq X5 37 26 d15_23 (by decide) rfl rfl (fun hc23 => ?_) (fun hc23 => ?_)
    · skip
      have hy0 := own_if0 hc23
      refine w_iinc X5 (pc' := 40) ((((2 : Int32) - (1 : Int32)) + (-1 : Int32)) + (-1 : Int32)) (l' := #[.val (.ref a), .val (.ref a1), .val (.int ((((2 : Int32) - (1 : Int32)) + (-1 : Int32)) + (-1 : Int32)))]) d15_37 rfl rfl rfl rfl ?_
      refine w_goto X5 (pc' := 7) d15_40 (by decide) rfl ?_
      refine w_iloadN X5 (pc' := 8) d15_7 rfl rfl ?_
      refine w_if_lt X5 43 11 d15_8 (by decide) rfl rfl (fun hc8 => ?_) (fun hc8 => by exfalso; revert hc8; decide)
      refine w_aconst_null X5 (pc' := 44) d15_43 rfl ?_
      exact w_areturn X5 d15_44 rfl rfl rfl ⟨Or.inl ⟨rfl, (own_vn 1 hy1).trans ((own_vn 0 hy0).trans (rfl))⟩, rfl⟩ (by decide) (by decide)
    · skip
      have hy0 := own_if1 hc23
      refine w_aloadN X5 (pc' := 27) d15_26 rfl rfl rfl ?_
      refine w_getfield X5 (pc' := 30) d15_27 (host := "") (Or.inl (hw _ (List.mem_of_getElem? (i := 64) rfl))) Via.refl F_p rfl fun T6 X6 => ?_
      refine w_iconst X6 (pc' := 31) (2 : Int32) d15_30 rfl rfl ?_
      refine w_iloadN X6 (pc' := 32) d15_31 rfl rfl ?_
      refine w_imul X6 (pc' := 33) d15_32 rfl ?_
      refine w_iconst X6 (pc' := 34) (1 : Int32) d15_33 rfl rfl ?_
      refine w_iadd X6 (pc' := 35) d15_34 rfl ?_
      refine w_aaload X6 (pc' := 36) 1 (v := (.ref r'0)) d15_35 A_d rfl (by decide) (by decide) f'0 rfl ?_
      exact w_areturn X6 d15_36 rfl rfl rfl ⟨Or.inr ⟨_, _, rfl, S'0_0, (own_vn 1 hy1).trans (own_vp 0 hy0)⟩, rfl⟩ (by decide) (by decide)
  · skip
    have hy1 := own_if1 hc23
    refine w_aloadN X3 (pc' := 27) d15_26 rfl rfl rfl ?_
    refine w_getfield X3 (pc' := 30) d15_27 (host := "") (Or.inl (hw _ (List.mem_of_getElem? (i := 64) rfl))) Via.refl F_p rfl fun T7 X7 => ?_
    refine w_iconst X7 (pc' := 31) (2 : Int32) d15_30 rfl rfl ?_
    refine w_iloadN X7 (pc' := 32) d15_31 rfl rfl ?_
    refine w_imul X7 (pc' := 33) d15_32 rfl ?_
    refine w_iconst X7 (pc' := 34) (1 : Int32) d15_33 rfl rfl ?_
    refine w_iadd X7 (pc' := 35) d15_34 rfl ?_
    refine w_aaload X7 (pc' := 36) 3 (v := (.ref r'1)) d15_35 A_d rfl (by decide) (by decide) f'1 rfl ?_
    exact w_areturn X7 d15_36 rfl rfl rfl ⟨Or.inr ⟨_, _, rfl, S'1_0, own_vp 1 hy1⟩, rfl⟩ (by decide) (by decide)
set_option maxRecDepth 65536 in
set_option maxHeartbeats 40000000 in
theorem rm_vo1 {l : Launch} {Z : State} {a0 : Array Value} (hw : ∀ d ∈ tables_1, d.before a0 Z = true) {n0 : Nat} {h0 : Heap} (Z0 : n0 ≤ h0.size) (a a1 : Addr) {es : List own_E} {q : List Int32} {dp mk : Nat} (B : BD Z n0 h0 a es 1 dp mk) (hn : 1 ≤ es.length) (S_q : Str Z h0 a1 q) {zc : Int32} (S_c : Sta Z h0 "java/lang/String" "COMPACT_STRINGS" "Z" (.int zc)) (hzc : ¬ zc = (0 : Int32))  :
    Con l Z n0 (⟨"com/example/raja/raja/xml/CanonicalWriter$Bindings", "valueOf", "(Ljava/lang/String;)Ljava/lang/String;"⟩ : MethodName) prog_69_method_10_code 3 (some (.object "java/lang/String")) ({ frames := 2, cells := 0, slots := 0, locals := 28 } : Room) #[(.ref a), (.ref a1)] h0 (Val (fun v h => (v = .null ∧ own_val es q 1 = none ∨ ∃ r bs, v = .ref r ∧ Str Z h0 r bs ∧ own_val es q 1 = some bs) ∧ h0 = h)) := by
  refine con_intro pn_15 Z0 (fr := fun m => mkF m 0 #[.val (.ref a), .val (.ref a1), .unset] []) (fun m => by first | (simp [entryFrame, mkF, argsToLocals, Value.category]; done) | rfl) ?_
  intro p e s m below s₁ hs0 X0
  obtain ⟨d, f, dm, fm, g_a, g_d, g_dm, ne_ad, ne_am, ne_dm, E_a, F_p, F_s, F_m, F_d, O_d, A_d, A_m, hmk, hs⟩ := B
  obtain ⟨r0, r'0, f0, f'0, S0_0, S'0_0⟩ := hs 0 (by omega)
  refine w_aloadN X0 (pc' := 1) d15_0 rfl rfl rfl ?_
  refine w_getfield X0 (pc' := 4) d15_1 (host := "") (Or.inl (hw _ (List.mem_of_getElem? (i := 76) rfl))) Via.refl F_s rfl fun T1 X1 => ?_
  refine w_iconst X1 (pc' := 5) (1 : Int32) d15_4 rfl rfl ?_
  refine w_isub X1 (pc' := 6) d15_5 rfl ?_
  refine w_istoreN X1 (pc' := 7) (l' := #[.val (.ref a), .val (.ref a1), .val (.int ((1 : Int32) - (1 : Int32)))]) d15_6 rfl rfl ?_
  refine w_iloadN X1 (pc' := 8) d15_7 rfl rfl ?_
  refine w_if_lt X1 43 11 d15_8 (by decide) rfl rfl (fun hc8 => by exfalso; revert hc8; decide) (fun hc8 => ?_)
  refine w_aloadN X1 (pc' := 12) d15_11 rfl rfl rfl ?_
  refine w_getfield X1 (pc' := 15) d15_12 (host := "") (Or.inl (hw _ (List.mem_of_getElem? (i := 64) rfl))) Via.refl F_p rfl fun T2 X2 => ?_
  refine w_iconst X2 (pc' := 16) (2 : Int32) d15_15 rfl rfl ?_
  refine w_iloadN X2 (pc' := 17) d15_16 rfl rfl ?_
  refine w_imul X2 (pc' := 18) d15_17 rfl ?_
  refine w_aaload X2 (pc' := 19) 0 (v := (.ref r0)) d15_18 A_d rfl (by decide) (by decide) f0 rfl ?_
  refine w_aloadN X2 (pc' := 20) d15_19 rfl rfl rfl ?_
  refine w_virtualV X2 (pc' := 23) d15_20 (rm_eq hw (h0 := h0) (sd_size X2) r0 a1 S0_0 S_q S_c hzc) (hw _ (List.mem_of_getElem? (i := 99) rfl)) (hw _ (List.mem_of_getElem? (i := 92) rfl)) (hw _ (List.mem_of_getElem? (i := 94) rfl)) (hw _ (List.mem_of_getElem? (i := 93) rfl)) (hw _ (List.mem_of_getElem? (i := 5) rfl)) (hw _ (List.mem_of_getElem? (i := 95) rfl)) S0_0.exa (by decide) [(.ref a1)] [] pd_17 rfl rfl rfl rfl 0 (Nat.le_refl _) (by decide) (by decide) (by decide) (by decide) rfl fun T3 h3 v3 X3 q3 => ?_
  obtain ⟨rfl, rfl⟩ := q3
  refine w_if_eq X3 37 26 d15_23 (by decide) rfl rfl (fun hc23 => ?_) (fun hc23 => ?_)
  · skip
    have hy0 := own_if0 hc23
    refine w_iinc X3 (pc' := 40) (((1 : Int32) - (1 : Int32)) + (-1 : Int32)) (l' := #[.val (.ref a), .val (.ref a1), .val (.int (((1 : Int32) - (1 : Int32)) + (-1 : Int32)))]) d15_37 rfl rfl rfl rfl ?_
    refine w_goto X3 (pc' := 7) d15_40 (by decide) rfl ?_
    refine w_iloadN X3 (pc' := 8) d15_7 rfl rfl ?_
    refine w_if_lt X3 43 11 d15_8 (by decide) rfl rfl (fun hc8 => ?_) (fun hc8 => by exfalso; revert hc8; decide)
    refine w_aconst_null X3 (pc' := 44) d15_43 rfl ?_
    exact w_areturn X3 d15_44 rfl rfl rfl ⟨Or.inl ⟨rfl, (own_vn 0 hy0).trans (rfl)⟩, rfl⟩ (by decide) (by decide)
  · skip
    have hy0 := own_if1 hc23
    refine w_aloadN X3 (pc' := 27) d15_26 rfl rfl rfl ?_
    refine w_getfield X3 (pc' := 30) d15_27 (host := "") (Or.inl (hw _ (List.mem_of_getElem? (i := 64) rfl))) Via.refl F_p rfl fun T4 X4 => ?_
    refine w_iconst X4 (pc' := 31) (2 : Int32) d15_30 rfl rfl ?_
    refine w_iloadN X4 (pc' := 32) d15_31 rfl rfl ?_
    refine w_imul X4 (pc' := 33) d15_32 rfl ?_
    refine w_iconst X4 (pc' := 34) (1 : Int32) d15_33 rfl rfl ?_
    refine w_iadd X4 (pc' := 35) d15_34 rfl ?_
    refine w_aaload X4 (pc' := 36) 1 (v := (.ref r'0)) d15_35 A_d rfl (by decide) (by decide) f'0 rfl ?_
    exact w_areturn X4 d15_36 rfl rfl rfl ⟨Or.inr ⟨_, _, rfl, S'0_0, own_vp 0 hy0⟩, rfl⟩ (by decide) (by decide)
set_option maxRecDepth 65536 in
set_option maxHeartbeats 40000000 in
theorem rm_vo0 {l : Launch} {Z : State} {a0 : Array Value} (hw : ∀ d ∈ tables_1, d.before a0 Z = true) {n0 : Nat} {h0 : Heap} (Z0 : n0 ≤ h0.size) (a a1 : Addr) {es : List own_E} {q : List Int32} {dp mk : Nat} (B : BD Z n0 h0 a es 0 dp mk) (hn : 0 ≤ es.length) (S_q : Str Z h0 a1 q) {zc : Int32} (S_c : Sta Z h0 "java/lang/String" "COMPACT_STRINGS" "Z" (.int zc)) (hzc : ¬ zc = (0 : Int32))  :
    Con l Z n0 (⟨"com/example/raja/raja/xml/CanonicalWriter$Bindings", "valueOf", "(Ljava/lang/String;)Ljava/lang/String;"⟩ : MethodName) prog_69_method_10_code 3 (some (.object "java/lang/String")) ({ frames := 2, cells := 0, slots := 0, locals := 28 } : Room) #[(.ref a), (.ref a1)] h0 (Val (fun v h => (v = .null ∧ own_val es q 0 = none ∨ ∃ r bs, v = .ref r ∧ Str Z h0 r bs ∧ own_val es q 0 = some bs) ∧ h0 = h)) := by
  refine con_intro pn_15 Z0 (fr := fun m => mkF m 0 #[.val (.ref a), .val (.ref a1), .unset] []) (fun m => by first | (simp [entryFrame, mkF, argsToLocals, Value.category]; done) | rfl) ?_
  intro p e s m below s₁ hs0 X0
  obtain ⟨d, f, dm, fm, g_a, g_d, g_dm, ne_ad, ne_am, ne_dm, E_a, F_p, F_s, F_m, F_d, O_d, A_d, A_m, hmk, hs⟩ := B
  refine w_aloadN X0 (pc' := 1) d15_0 rfl rfl rfl ?_
  refine w_getfield X0 (pc' := 4) d15_1 (host := "") (Or.inl (hw _ (List.mem_of_getElem? (i := 76) rfl))) Via.refl F_s rfl fun T1 X1 => ?_
  refine w_iconst X1 (pc' := 5) (1 : Int32) d15_4 rfl rfl ?_
  refine w_isub X1 (pc' := 6) d15_5 rfl ?_
  refine w_istoreN X1 (pc' := 7) (l' := #[.val (.ref a), .val (.ref a1), .val (.int ((0 : Int32) - (1 : Int32)))]) d15_6 rfl rfl ?_
  refine w_iloadN X1 (pc' := 8) d15_7 rfl rfl ?_
  refine w_if_lt X1 43 11 d15_8 (by decide) rfl rfl (fun hc8 => ?_) (fun hc8 => by exfalso; revert hc8; decide)
  refine w_aconst_null X1 (pc' := 44) d15_43 rfl ?_
  exact w_areturn X1 d15_44 rfl rfl rfl ⟨Or.inl ⟨rfl, rfl⟩, rfl⟩ (by decide) (by decide)
theorem pn_0 : plainFor (⟨"com/example/raja/raja/xml/BindingsValueOfPinLaw", "law", "(IIIII)Z"⟩ : MethodName) = true := plainFor_of_name (by first | (simp [plainName, overriddenIn]; done) | decide +kernel)
theorem pd_0 : parseMethodDescriptor "(IIIII)Z" = some ⟨[.int, .int, .int, .int, .int], some .boolean⟩ := by decide +kernel
set_option maxRecDepth 65536 in
set_option maxHeartbeats 40000000 in
theorem rm0 {l : Launch} {Z : State} {a0 : Array Value} (hw : ∀ d ∈ tables_1, d.before a0 Z = true) {n0 : Nat} {h0 : Heap} (Z0 : n0 ≤ h0.size) (p1 p2 p3 p4 p5 : Int32) (Zn : h0.size ≤ n0) {zc : Int32} (S_c : Sta Z h0 "java/lang/String" "COMPACT_STRINGS" "Z" (.int zc)) (hzc : ¬ zc = (0 : Int32))  :
    ConW l Z own_EL n0 x code maxLocals ret room_1 #[(.int p1), (.int p2), (.int p3), (.int p4), (.int p5)] h0 (Val (fun v _ => v = .int 1)) := by
  refine conW_intro pn_0 Z0 (fr := fun m => mkF m 0 #[.val (.int p1), .val (.int p2), .val (.int p3), .val (.int p4), .val (.int p5), .unset, .unset, .unset, .unset, .unset, .unset, .unset, .unset, .unset, .unset, .unset] []) (fun m => by first | (simp [entryFrame, mkF, argsToLocals, Value.category, maxLocals]; done) | rfl) ?_
  intro p e s m below s₁ hs0 F0 X0
  refine w_iloadN X0 (pc' := 1) at_0 rfl rfl ?_
  refine w_staticVW X0 F0 (pc' := 4) at_1 (rm_prefix hw (h0 := h0) (sd_size X0) p1 (Sta.ext (sd_ext X0 hs0 Zn) S_c) hzc) (hw _ (List.mem_of_getElem? (i := 0) rfl)) (hw _ (List.mem_of_getElem? (i := 1) rfl)) (hw _ (List.mem_of_getElem? (i := 2) rfl)) (hw _ (List.mem_of_getElem? (i := 3) rfl)) (own_hEL hw) (by decide) [(.int p1)] [] pd_1 rfl rfl rfl rfl 0 (Nat.le_refl _) (by decide) (by decide) (by decide) (by decide) rfl fun T1 h1 vm1 v1 X1 F1 q1 => ?_
  obtain ⟨b1, bs1, rfl, E1, S1⟩ := q1
  refine w_astore X1 (pc' := 6) (l' := #[.val (.int p1), .val (.int p2), .val (.int p3), .val (.int p4), .val (.int p5), .val (.ref b1), .unset, .unset, .unset, .unset, .unset, .unset, .unset, .unset, .unset, .unset]) at_4 rfl rfl rfl ?_
  refine w_iloadN X1 (pc' := 7) at_6 rfl rfl ?_
  refine w_staticVW X1 F1 (pc' := 10) at_7 (rm_prefix hw (h0 := h1) (sd_size X1) p2 (Sta.ext (sd_ext X1 hs0 Zn) S_c) hzc) (hw _ (List.mem_of_getElem? (i := 0) rfl)) (hw _ (List.mem_of_getElem? (i := 1) rfl)) (hw _ (List.mem_of_getElem? (i := 2) rfl)) (hw _ (List.mem_of_getElem? (i := 3) rfl)) (own_hEL hw) (by decide) [(.int p2)] [] pd_1 rfl rfl rfl rfl 0 (Nat.le_refl _) (by decide) (by decide) (by decide) (by decide) rfl fun T3 h3 vm3 v3 X3 F3 q3 => ?_
  obtain ⟨b3, bs3, rfl, E3, S3⟩ := q3
  have S1_4 := S1.ext E3
  refine w_astore X3 (pc' := 12) (l' := #[.val (.int p1), .val (.int p2), .val (.int p3), .val (.int p4), .val (.int p5), .val (.ref b1), .val (.ref b3), .unset, .unset, .unset, .unset, .unset, .unset, .unset, .unset, .unset]) at_10 rfl rfl rfl ?_
  refine w_iloadN X3 (pc' := 13) at_12 rfl rfl ?_
  refine w_staticVW X3 F3 (pc' := 16) at_13 (rm_prefix hw (h0 := h3) (sd_size X3) p3 (Sta.ext (sd_ext X3 hs0 Zn) S_c) hzc) (hw _ (List.mem_of_getElem? (i := 0) rfl)) (hw _ (List.mem_of_getElem? (i := 1) rfl)) (hw _ (List.mem_of_getElem? (i := 2) rfl)) (hw _ (List.mem_of_getElem? (i := 3) rfl)) (own_hEL hw) (by decide) [(.int p3)] [] pd_1 rfl rfl rfl rfl 0 (Nat.le_refl _) (by decide) (by decide) (by decide) (by decide) rfl fun T5 h5 vm5 v5 X5 F5 q5 => ?_
  obtain ⟨b5, bs5, rfl, E5, S5⟩ := q5
  have S1_6 := S1_4.ext E5
  have S3_6 := S3.ext E5
  refine w_astore X5 (pc' := 18) (l' := #[.val (.int p1), .val (.int p2), .val (.int p3), .val (.int p4), .val (.int p5), .val (.ref b1), .val (.ref b3), .val (.ref b5), .unset, .unset, .unset, .unset, .unset, .unset, .unset, .unset]) at_16 rfl rfl rfl ?_
  refine w_iloadN X5 (pc' := 19) at_18 rfl rfl ?_
  refine w_staticVW X5 F5 (pc' := 22) at_19 (rm_prefix hw (h0 := h5) (sd_size X5) p4 (Sta.ext (sd_ext X5 hs0 Zn) S_c) hzc) (hw _ (List.mem_of_getElem? (i := 0) rfl)) (hw _ (List.mem_of_getElem? (i := 1) rfl)) (hw _ (List.mem_of_getElem? (i := 2) rfl)) (hw _ (List.mem_of_getElem? (i := 3) rfl)) (own_hEL hw) (by decide) [(.int p4)] [] pd_1 rfl rfl rfl rfl 0 (Nat.le_refl _) (by decide) (by decide) (by decide) (by decide) rfl fun T7 h7 vm7 v7 X7 F7 q7 => ?_
  obtain ⟨b7, bs7, rfl, E7, S7⟩ := q7
  have S1_8 := S1_6.ext E7
  have S3_8 := S3_6.ext E7
  have S5_8 := S5.ext E7
  refine w_astore X7 (pc' := 24) (l' := #[.val (.int p1), .val (.int p2), .val (.int p3), .val (.int p4), .val (.int p5), .val (.ref b1), .val (.ref b3), .val (.ref b5), .val (.ref b7), .unset, .unset, .unset, .unset, .unset, .unset, .unset]) at_22 rfl rfl rfl ?_
  refine w_iload X7 (pc' := 26) at_24 rfl rfl ?_
  refine w_iconst X7 (pc' := 27) (3 : Int32) at_26 rfl rfl ?_
  refine w_iand X7 (pc' := 28) at_27 rfl ?_
  refine w_istore X7 (pc' := 30) (l' := #[.val (.int p1), .val (.int p2), .val (.int p3), .val (.int p4), .val (.int p5), .val (.ref b1), .val (.ref b3), .val (.ref b5), .val (.ref b7), .val (.int (p5 &&& (3 : Int32))), .unset, .unset, .unset, .unset, .unset, .unset]) at_28 rfl rfl ?_
  have hz := own_and3 p5
  generalize (p5 &&& (3 : Int32)) = n9 at hz ⊢
  rcases hz with rfl | rfl | rfl | rfl
  · skip
    show Go p e below _ (T7.setTop (mkF m 30 #[.val (.int p1), .val (.int p2), .val (.int p3), .val (.int p4), .val (.int p5), .val (.ref b1), .val (.ref b3), .val (.ref b5), .val (.ref b7), .val (.int (0 : Int32)), .unset, .unset, .unset, .unset, .unset, .unset] []))
    refine w_iload X7 (pc' := 32) at_30 rfl rfl ?_
    refine w_iconst X7 (pc' := 33) (2 : Int32) at_32 rfl rfl ?_
    refine w_iushr X7 (pc' := 34) at_33 rfl ?_
    refine w_iconst X7 (pc' := 35) (3 : Int32) at_34 rfl rfl ?_
    refine w_iand X7 (pc' := 36) at_35 rfl ?_
    refine w_iload X7 (pc' := 38) at_36 rfl rfl ?_
    refine w_staticV X7 (pc' := 41) at_38 (rm_min hw (h0 := h7) (sd_size X7) (((p5.toUInt32 >>> ((2 : Int32) &&& 31).toUInt32).toInt32) &&& (3 : Int32)) (0 : Int32)) (hw _ (List.mem_of_getElem? (i := 51) rfl)) (hw _ (List.mem_of_getElem? (i := 52) rfl)) (hw _ (List.mem_of_getElem? (i := 53) rfl)) (hw _ (List.mem_of_getElem? (i := 54) rfl)) (by decide) [(.int (((p5.toUInt32 >>> ((2 : Int32) &&& 31).toUInt32).toInt32) &&& (3 : Int32))), (.int (0 : Int32))] [] pd_12 rfl rfl rfl rfl 0 (Nat.le_refl _) (by decide) (by decide) (by decide) (by decide) rfl fun T9 h9 v9 X9 q9 => ?_
    obtain ⟨rfl, rfl⟩ := q9
    refine w_istore X9 (pc' := 43) (l' := #[.val (.int p1), .val (.int p2), .val (.int p3), .val (.int p4), .val (.int p5), .val (.ref b1), .val (.ref b3), .val (.ref b5), .val (.ref b7), .val (.int (0 : Int32)), .val (.int (own_min (((p5.toUInt32 >>> ((2 : Int32) &&& 31).toUInt32).toInt32) &&& (3 : Int32)) (0 : Int32))), .unset, .unset, .unset, .unset, .unset]) at_41 rfl rfl ?_
    have hz : (own_min (((p5.toUInt32 >>> ((2 : Int32) &&& 31).toUInt32).toInt32) &&& (3 : Int32)) (0 : Int32)) = 0 := by
      rcases own_and3 ((p5.toUInt32 >>> ((2 : Int32) &&& 31).toUInt32).toInt32) with q | q | q | q <;> rw [q] <;> decide
    generalize (own_min (((p5.toUInt32 >>> ((2 : Int32) &&& 31).toUInt32).toInt32) &&& (3 : Int32)) (0 : Int32)) = m10 at hz ⊢
    subst hz
    · skip
      show Go p e below _ (T9.setTop (mkF m 43 #[.val (.int p1), .val (.int p2), .val (.int p3), .val (.int p4), .val (.int p5), .val (.ref b1), .val (.ref b3), .val (.ref b5), .val (.ref b7), .val (.int (0 : Int32)), .val (.int (0 : Int32)), .unset, .unset, .unset, .unset, .unset] []))
      refine w_iload X9 (pc' := 45) at_43 rfl rfl ?_
      refine w_iconst X9 (pc' := 46) (4 : Int32) at_45 rfl rfl ?_
      refine w_iushr X9 (pc' := 47) at_46 rfl ?_
      refine w_iconst X9 (pc' := 48) (1 : Int32) at_47 rfl rfl ?_
      refine w_iand X9 (pc' := 49) at_48 rfl ?_
      refine w_if_eq X9 56 52 at_49 (by decide) rfl rfl (fun hc49 => ?_) (fun hc49 => ?_)
      · skip
        refine w_iconst X9 (pc' := 57) (0 : Int32) at_56 rfl rfl ?_
        refine w_istore X9 (pc' := 59) (l' := #[.val (.int p1), .val (.int p2), .val (.int p3), .val (.int p4), .val (.int p5), .val (.ref b1), .val (.ref b3), .val (.ref b5), .val (.ref b7), .val (.int (0 : Int32)), .val (.int (0 : Int32)), .val (.int (0 : Int32)), .unset, .unset, .unset, .unset]) at_57 rfl rfl ?_
        refine w_new X9 (pc' := 62) at_59 (hw _ (List.mem_of_getElem? (i := 55) rfl)) (hw _ (List.mem_of_getElem? (i := 56) rfl)) (hw _ (List.mem_of_getElem? (i := 57) rfl)) (by decide) (by decide) rfl fun T10 h10 b10 g10 gn10 X10 E10 A10 D10 => ?_
        have sf_b10 := F7.safe_new E10 g10
        have S1_11 := S1_8.ext E10
        have S3_11 := S3_8.ext E10
        have S5_11 := S5_8.ext E10
        have S7_11 := S7.ext E10
        have F7_11 := F7.ext E10
        have Fpairs_10 : Fld Z h10 b10 "com/example/raja/raja/xml/CanonicalWriter$Bindings" "pairs" "[Ljava/lang/String;" .null := D10 (Or.inl (hw _ (List.mem_of_getElem? (i := 65) rfl))) (ty := (.array (.object "java/lang/String"))) (by decide)
        have Fmarks_10 : Fld Z h10 b10 "com/example/raja/raja/xml/CanonicalWriter$Bindings" "marks" "[I" .null := D10 (Or.inl (hw _ (List.mem_of_getElem? (i := 68) rfl))) (ty := (.array .int)) (by decide)
        have Fdepth_10 : Fld Z h10 b10 "com/example/raja/raja/xml/CanonicalWriter$Bindings" "depth" "I" (.int (0 : Int32)) := D10 (Or.inl (hw _ (List.mem_of_getElem? (i := 75) rfl))) (ty := .int) (by decide)
        have Fsize_10 : Fld Z h10 b10 "com/example/raja/raja/xml/CanonicalWriter$Bindings" "size" "I" (.int (0 : Int32)) := D10 (Or.inl (hw _ (List.mem_of_getElem? (i := 77) rfl))) (ty := .int) (by decide)
        refine w_dup X10 (pc' := 63) at_62 rfl rfl ?_
        refine w_specialN X10 (pc' := 66) at_63 (rm_init hw (h0 := h10) (sd_size X10) b10 A10 Fpairs_10 Fmarks_10 Fsize_10 Fdepth_10 gn10) (hw _ (List.mem_of_getElem? (i := 58) rfl)) (hw _ (List.mem_of_getElem? (i := 59) rfl)) (hw _ (List.mem_of_getElem? (i := 57) rfl)) (hw _ (List.mem_of_getElem? (i := 60) rfl)) rfl (by decide) [] [(.ref b10)] pd_13 rfl rfl rfl rfl 1 (Nat.le_refl _) (by decide) (by decide) (by decide) (by decide) rfl fun T12 h12 X12 q12 => ?_
        obtain ⟨K12, B12⟩ := q12
        have S1_13 := S1_11.keep K12 (ap1 (Apart.obj A10 (hw _ (List.mem_of_getElem? (i := 56) rfl)) (by decide) (by decide)))
        have S3_13 := S3_11.keep K12 (ap1 (Apart.obj A10 (hw _ (List.mem_of_getElem? (i := 56) rfl)) (by decide) (by decide)))
        have S5_13 := S5_11.keep K12 (ap1 (Apart.obj A10 (hw _ (List.mem_of_getElem? (i := 56) rfl)) (by decide) (by decide)))
        have S7_13 := S7_11.keep K12 (ap1 (Apart.obj A10 (hw _ (List.mem_of_getElem? (i := 56) rfl)) (by decide) (by decide)))
        have F7_13 := F7_11.kp X12 K12 (ap1 (Apart.obj A10 (hw _ (List.mem_of_getElem? (i := 56) rfl)) (by decide) (by decide)))
        have A10_13 := A10.keep K12
        refine w_astore X12 (pc' := 68) (l' := #[.val (.int p1), .val (.int p2), .val (.int p3), .val (.int p4), .val (.int p5), .val (.ref b1), .val (.ref b3), .val (.ref b5), .val (.ref b7), .val (.int (0 : Int32)), .val (.int (0 : Int32)), .val (.int (0 : Int32)), .val (.ref b10), .unset, .unset, .unset]) at_66 rfl rfl rfl ?_
        refine w_iload X12 (pc' := 70) at_68 rfl rfl ?_
        refine w_if_ne X12 78 73 at_70 (by decide) rfl rfl (fun hc70 => by exfalso; revert hc70; decide) (fun hc70 => ?_)
        refine w_aload X12 (pc' := 75) at_73 rfl rfl rfl ?_
        refine w_virtualN X12 (pc' := 78) at_75 (rm_open hw (h0 := h12) (sd_size X12) b10 B12) (hw _ (List.mem_of_getElem? (i := 69) rfl)) (hw _ (List.mem_of_getElem? (i := 70) rfl)) (hw _ (List.mem_of_getElem? (i := 72) rfl)) (hw _ (List.mem_of_getElem? (i := 71) rfl)) (hw _ (List.mem_of_getElem? (i := 57) rfl)) (hw _ (List.mem_of_getElem? (i := 73) rfl)) B12.exa (by decide) [] [] pd_14 rfl rfl rfl rfl 0 (Nat.le_refl _) (by decide) (by decide) (by decide) (by decide) rfl fun T14 h14 X14 q14 => ?_
        obtain ⟨⟨ws14, K14, P14⟩, B14⟩ := q14
        have S1_15 := S1_13.keep K14 P14
        have S3_15 := S3_13.keep K14 P14
        have S5_15 := S5_13.keep K14 P14
        have S7_15 := S7_13.keep K14 P14
        have F7_15 := F7_13.kp X14 K14 P14
        replace B14 : BD Z n0 h14 b10 [] 0 1 0 := B14
        refine w_iload X14 (pc' := 80) at_78 rfl rfl ?_
        refine w_iconst X14 (pc' := 81) (1 : Int32) at_80 rfl rfl ?_
        refine w_icmp_lt X14 93 84 at_81 (by decide) rfl rfl (fun hc81 => ?_) (fun hc81 => by exfalso; revert hc81; decide)
        refine w_iload X14 (pc' := 95) at_93 rfl rfl ?_
        refine w_iconst X14 (pc' := 96) (1 : Int32) at_95 rfl rfl ?_
        refine w_icmp_ne X14 104 99 at_96 (by decide) rfl rfl (fun hc96 => ?_) (fun hc96 => by exfalso; revert hc96; decide)
        refine w_iload X14 (pc' := 106) at_104 rfl rfl ?_
        refine w_iconst X14 (pc' := 107) (2 : Int32) at_106 rfl rfl ?_
        refine w_icmp_lt X14 119 110 at_107 (by decide) rfl rfl (fun hc107 => ?_) (fun hc107 => by exfalso; revert hc107; decide)
        refine w_iload X14 (pc' := 121) at_119 rfl rfl ?_
        refine w_iconst X14 (pc' := 122) (2 : Int32) at_121 rfl rfl ?_
        refine w_icmp_ne X14 130 125 at_122 (by decide) rfl rfl (fun hc122 => ?_) (fun hc122 => by exfalso; revert hc122; decide)
        refine w_iload X14 (pc' := 132) at_130 rfl rfl ?_
        refine w_iconst X14 (pc' := 133) (3 : Int32) at_132 rfl rfl ?_
        refine w_icmp_lt X14 145 136 at_133 (by decide) rfl rfl (fun hc133 => ?_) (fun hc133 => by exfalso; revert hc133; decide)
        refine w_iload X14 (pc' := 147) at_145 rfl rfl ?_
        refine w_iconst X14 (pc' := 148) (3 : Int32) at_147 rfl rfl ?_
        refine w_icmp_ne X14 156 151 at_148 (by decide) rfl rfl (fun hc148 => ?_) (fun hc148 => by exfalso; revert hc148; decide)
        refine w_iload X14 (pc' := 158) at_156 rfl rfl ?_
        refine w_if_eq X14 166 161 at_158 (by decide) rfl rfl (fun hc158 => ?_) (fun hc158 => by exfalso; revert hc158; decide)
        refine w_iload X14 (pc' := 168) at_166 rfl rfl ?_
        refine w_if_eq X14 176 171 at_168 (by decide) rfl rfl (fun hc168 => ?_) (fun hc168 => by exfalso; revert hc168; decide)
        refine w_iload X14 (pc' := 178) at_176 rfl rfl ?_
        refine w_istore X14 (pc' := 180) (l' := #[.val (.int p1), .val (.int p2), .val (.int p3), .val (.int p4), .val (.int p5), .val (.ref b1), .val (.ref b3), .val (.ref b5), .val (.ref b7), .val (.int (0 : Int32)), .val (.int (0 : Int32)), .val (.int (0 : Int32)), .val (.ref b10), .val (.int (0 : Int32)), .unset, .unset]) at_178 rfl rfl ?_
        refine w_aconst_null X14 (pc' := 181) at_180 rfl ?_
        refine w_astore X14 (pc' := 183) (l' := #[.val (.int p1), .val (.int p2), .val (.int p3), .val (.int p4), .val (.int p5), .val (.ref b1), .val (.ref b3), .val (.ref b5), .val (.ref b7), .val (.int (0 : Int32)), .val (.int (0 : Int32)), .val (.int (0 : Int32)), .val (.ref b10), .val (.int (0 : Int32)), .val .null, .unset]) at_181 rfl rfl rfl ?_
        refine w_iload X14 (pc' := 185) at_183 rfl rfl ?_
        refine w_iconst X14 (pc' := 186) (3 : Int32) at_185 rfl rfl ?_
        refine w_icmp_lt X14 206 189 at_186 (by decide) rfl rfl (fun hc186 => ?_) (fun hc186 => by exfalso; revert hc186; decide)
        refine w_iload X14 (pc' := 208) at_206 rfl rfl ?_
        refine w_iconst X14 (pc' := 209) (2 : Int32) at_208 rfl rfl ?_
        refine w_icmp_lt X14 229 212 at_209 (by decide) rfl rfl (fun hc209 => ?_) (fun hc209 => by exfalso; revert hc209; decide)
        refine w_iload X14 (pc' := 231) at_229 rfl rfl ?_
        refine w_iconst X14 (pc' := 232) (1 : Int32) at_231 rfl rfl ?_
        refine w_icmp_lt X14 249 235 at_232 (by decide) rfl rfl (fun hc232 => ?_) (fun hc232 => by exfalso; revert hc232; decide)
        refine w_aload X14 (pc' := 251) at_249 rfl rfl rfl ?_
        refine w_aload X14 (pc' := 253) at_251 rfl rfl rfl ?_
        refine w_virtualV X14 (pc' := 256) at_253 (rm_vo0 hw (h0 := h14) (sd_size X14) b10 b7 B14 (show 0 ≤ 0 by decide) S7_15 (Sta.ext (sd_ext X14 hs0 Zn) S_c) hzc) (hw _ (List.mem_of_getElem? (i := 78) rfl)) (hw _ (List.mem_of_getElem? (i := 79) rfl)) (hw _ (List.mem_of_getElem? (i := 81) rfl)) (hw _ (List.mem_of_getElem? (i := 80) rfl)) (hw _ (List.mem_of_getElem? (i := 57) rfl)) (hw _ (List.mem_of_getElem? (i := 82) rfl)) B14.exa (by decide) [(.ref b7)] [] pd_15 rfl rfl rfl rfl 0 (Nat.le_refl _) (by decide) (by decide) (by decide) (by decide) rfl fun T16 h16 v16 X16 q16 => ?_
        have hv : own_val [] bs7 0 = none := rfl
        obtain ⟨hq, rfl⟩ := q16
        rcases hq with ⟨rfl, -⟩ | ⟨r, bs, rfl, Sr, hr⟩
        rotate_left
        · exact absurd (hr.symm.trans hv) (by simp)
        refine w_astore X16 (pc' := 258) (l' := #[.val (.int p1), .val (.int p2), .val (.int p3), .val (.int p4), .val (.int p5), .val (.ref b1), .val (.ref b3), .val (.ref b5), .val (.ref b7), .val (.int (0 : Int32)), .val (.int (0 : Int32)), .val (.int (0 : Int32)), .val (.ref b10), .val (.int (0 : Int32)), .val .null, .val .null]) at_256 rfl rfl rfl ?_
        refine w_aload X16 (pc' := 260) at_258 rfl rfl rfl ?_
        refine w_ifnonnullN X16 (pc' := 263) at_260 rfl ?_
        refine w_aload X16 (pc' := 265) at_263 rfl rfl rfl ?_
        refine w_ifnonnullN X16 (pc' := 268) at_265 rfl ?_
        refine w_iconst X16 (pc' := 269) (1 : Int32) at_268 rfl rfl ?_
        refine w_goto X16 (pc' := 273) at_269 (by decide) rfl ?_
        exact w_zreturnW X16 F7_15 (own_hEL hw) at_273 rfl (by decide) (by decide)
      · skip
        refine w_iconst X9 (pc' := 53) (1 : Int32) at_52 rfl rfl ?_
        refine w_goto X9 (pc' := 57) at_53 (by decide) rfl ?_
        refine w_istore X9 (pc' := 59) (l' := #[.val (.int p1), .val (.int p2), .val (.int p3), .val (.int p4), .val (.int p5), .val (.ref b1), .val (.ref b3), .val (.ref b5), .val (.ref b7), .val (.int (0 : Int32)), .val (.int (0 : Int32)), .val (.int (1 : Int32)), .unset, .unset, .unset, .unset]) at_57 rfl rfl ?_
        refine w_new X9 (pc' := 62) at_59 (hw _ (List.mem_of_getElem? (i := 55) rfl)) (hw _ (List.mem_of_getElem? (i := 56) rfl)) (hw _ (List.mem_of_getElem? (i := 57) rfl)) (by decide) (by decide) rfl fun T17 h17 b17 g17 gn17 X17 E17 A17 D17 => ?_
        have sf_b17 := F7.safe_new E17 g17
        have S1_18 := S1_8.ext E17
        have S3_18 := S3_8.ext E17
        have S5_18 := S5_8.ext E17
        have S7_18 := S7.ext E17
        have F7_18 := F7.ext E17
        have Fpairs_17 : Fld Z h17 b17 "com/example/raja/raja/xml/CanonicalWriter$Bindings" "pairs" "[Ljava/lang/String;" .null := D17 (Or.inl (hw _ (List.mem_of_getElem? (i := 65) rfl))) (ty := (.array (.object "java/lang/String"))) (by decide)
        have Fmarks_17 : Fld Z h17 b17 "com/example/raja/raja/xml/CanonicalWriter$Bindings" "marks" "[I" .null := D17 (Or.inl (hw _ (List.mem_of_getElem? (i := 68) rfl))) (ty := (.array .int)) (by decide)
        have Fdepth_17 : Fld Z h17 b17 "com/example/raja/raja/xml/CanonicalWriter$Bindings" "depth" "I" (.int (0 : Int32)) := D17 (Or.inl (hw _ (List.mem_of_getElem? (i := 75) rfl))) (ty := .int) (by decide)
        have Fsize_17 : Fld Z h17 b17 "com/example/raja/raja/xml/CanonicalWriter$Bindings" "size" "I" (.int (0 : Int32)) := D17 (Or.inl (hw _ (List.mem_of_getElem? (i := 77) rfl))) (ty := .int) (by decide)
        refine w_dup X17 (pc' := 63) at_62 rfl rfl ?_
        refine w_specialN X17 (pc' := 66) at_63 (rm_init hw (h0 := h17) (sd_size X17) b17 A17 Fpairs_17 Fmarks_17 Fsize_17 Fdepth_17 gn17) (hw _ (List.mem_of_getElem? (i := 58) rfl)) (hw _ (List.mem_of_getElem? (i := 59) rfl)) (hw _ (List.mem_of_getElem? (i := 57) rfl)) (hw _ (List.mem_of_getElem? (i := 60) rfl)) rfl (by decide) [] [(.ref b17)] pd_13 rfl rfl rfl rfl 1 (Nat.le_refl _) (by decide) (by decide) (by decide) (by decide) rfl fun T19 h19 X19 q19 => ?_
        obtain ⟨K19, B19⟩ := q19
        have S1_20 := S1_18.keep K19 (ap1 (Apart.obj A17 (hw _ (List.mem_of_getElem? (i := 56) rfl)) (by decide) (by decide)))
        have S3_20 := S3_18.keep K19 (ap1 (Apart.obj A17 (hw _ (List.mem_of_getElem? (i := 56) rfl)) (by decide) (by decide)))
        have S5_20 := S5_18.keep K19 (ap1 (Apart.obj A17 (hw _ (List.mem_of_getElem? (i := 56) rfl)) (by decide) (by decide)))
        have S7_20 := S7_18.keep K19 (ap1 (Apart.obj A17 (hw _ (List.mem_of_getElem? (i := 56) rfl)) (by decide) (by decide)))
        have F7_20 := F7_18.kp X19 K19 (ap1 (Apart.obj A17 (hw _ (List.mem_of_getElem? (i := 56) rfl)) (by decide) (by decide)))
        have A17_20 := A17.keep K19
        refine w_astore X19 (pc' := 68) (l' := #[.val (.int p1), .val (.int p2), .val (.int p3), .val (.int p4), .val (.int p5), .val (.ref b1), .val (.ref b3), .val (.ref b5), .val (.ref b7), .val (.int (0 : Int32)), .val (.int (0 : Int32)), .val (.int (1 : Int32)), .val (.ref b17), .unset, .unset, .unset]) at_66 rfl rfl rfl ?_
        refine w_iload X19 (pc' := 70) at_68 rfl rfl ?_
        refine w_if_ne X19 78 73 at_70 (by decide) rfl rfl (fun hc70 => by exfalso; revert hc70; decide) (fun hc70 => ?_)
        refine w_aload X19 (pc' := 75) at_73 rfl rfl rfl ?_
        refine w_virtualN X19 (pc' := 78) at_75 (rm_open hw (h0 := h19) (sd_size X19) b17 B19) (hw _ (List.mem_of_getElem? (i := 69) rfl)) (hw _ (List.mem_of_getElem? (i := 70) rfl)) (hw _ (List.mem_of_getElem? (i := 72) rfl)) (hw _ (List.mem_of_getElem? (i := 71) rfl)) (hw _ (List.mem_of_getElem? (i := 57) rfl)) (hw _ (List.mem_of_getElem? (i := 73) rfl)) B19.exa (by decide) [] [] pd_14 rfl rfl rfl rfl 0 (Nat.le_refl _) (by decide) (by decide) (by decide) (by decide) rfl fun T21 h21 X21 q21 => ?_
        obtain ⟨⟨ws21, K21, P21⟩, B21⟩ := q21
        have S1_22 := S1_20.keep K21 P21
        have S3_22 := S3_20.keep K21 P21
        have S5_22 := S5_20.keep K21 P21
        have S7_22 := S7_20.keep K21 P21
        have F7_22 := F7_20.kp X21 K21 P21
        replace B21 : BD Z n0 h21 b17 [] 0 1 0 := B21
        refine w_iload X21 (pc' := 80) at_78 rfl rfl ?_
        refine w_iconst X21 (pc' := 81) (1 : Int32) at_80 rfl rfl ?_
        refine w_icmp_lt X21 93 84 at_81 (by decide) rfl rfl (fun hc81 => ?_) (fun hc81 => by exfalso; revert hc81; decide)
        refine w_iload X21 (pc' := 95) at_93 rfl rfl ?_
        refine w_iconst X21 (pc' := 96) (1 : Int32) at_95 rfl rfl ?_
        refine w_icmp_ne X21 104 99 at_96 (by decide) rfl rfl (fun hc96 => ?_) (fun hc96 => by exfalso; revert hc96; decide)
        refine w_iload X21 (pc' := 106) at_104 rfl rfl ?_
        refine w_iconst X21 (pc' := 107) (2 : Int32) at_106 rfl rfl ?_
        refine w_icmp_lt X21 119 110 at_107 (by decide) rfl rfl (fun hc107 => ?_) (fun hc107 => by exfalso; revert hc107; decide)
        refine w_iload X21 (pc' := 121) at_119 rfl rfl ?_
        refine w_iconst X21 (pc' := 122) (2 : Int32) at_121 rfl rfl ?_
        refine w_icmp_ne X21 130 125 at_122 (by decide) rfl rfl (fun hc122 => ?_) (fun hc122 => by exfalso; revert hc122; decide)
        refine w_iload X21 (pc' := 132) at_130 rfl rfl ?_
        refine w_iconst X21 (pc' := 133) (3 : Int32) at_132 rfl rfl ?_
        refine w_icmp_lt X21 145 136 at_133 (by decide) rfl rfl (fun hc133 => ?_) (fun hc133 => by exfalso; revert hc133; decide)
        refine w_iload X21 (pc' := 147) at_145 rfl rfl ?_
        refine w_iconst X21 (pc' := 148) (3 : Int32) at_147 rfl rfl ?_
        refine w_icmp_ne X21 156 151 at_148 (by decide) rfl rfl (fun hc148 => ?_) (fun hc148 => by exfalso; revert hc148; decide)
        refine w_iload X21 (pc' := 158) at_156 rfl rfl ?_
        refine w_if_eq X21 166 161 at_158 (by decide) rfl rfl (fun hc158 => by exfalso; revert hc158; decide) (fun hc158 => ?_)
        refine w_aload X21 (pc' := 163) at_161 rfl rfl rfl ?_
        refine w_virtualN X21 (pc' := 166) at_163 (rm_close hw (h0 := h21) (sd_size X21) b17 B21) (hw _ (List.mem_of_getElem? (i := 100) rfl)) (hw _ (List.mem_of_getElem? (i := 101) rfl)) (hw _ (List.mem_of_getElem? (i := 103) rfl)) (hw _ (List.mem_of_getElem? (i := 102) rfl)) (hw _ (List.mem_of_getElem? (i := 57) rfl)) (hw _ (List.mem_of_getElem? (i := 104) rfl)) B21.exa (by decide) [] [] pd_19 rfl rfl rfl rfl 0 (Nat.le_refl _) (by decide) (by decide) (by decide) (by decide) rfl fun T23 h23 X23 q23 => ?_
        obtain ⟨⟨ws23, K23, P23⟩, B23⟩ := q23
        have S1_24 := S1_22.keep K23 P23
        have S3_24 := S3_22.keep K23 P23
        have S5_24 := S5_22.keep K23 P23
        have S7_24 := S7_22.keep K23 P23
        have F7_24 := F7_22.kp X23 K23 P23
        replace B23 : BD Z n0 h23 b17 [] 0 0 0 := B23
        refine w_iload X23 (pc' := 168) at_166 rfl rfl ?_
        refine w_if_eq X23 176 171 at_168 (by decide) rfl rfl (fun hc168 => by exfalso; revert hc168; decide) (fun hc168 => ?_)
        refine w_iload X23 (pc' := 173) at_171 rfl rfl ?_
        refine w_goto X23 (pc' := 178) at_173 (by decide) rfl ?_
        refine w_istore X23 (pc' := 180) (l' := #[.val (.int p1), .val (.int p2), .val (.int p3), .val (.int p4), .val (.int p5), .val (.ref b1), .val (.ref b3), .val (.ref b5), .val (.ref b7), .val (.int (0 : Int32)), .val (.int (0 : Int32)), .val (.int (1 : Int32)), .val (.ref b17), .val (.int (0 : Int32)), .unset, .unset]) at_178 rfl rfl ?_
        refine w_aconst_null X23 (pc' := 181) at_180 rfl ?_
        refine w_astore X23 (pc' := 183) (l' := #[.val (.int p1), .val (.int p2), .val (.int p3), .val (.int p4), .val (.int p5), .val (.ref b1), .val (.ref b3), .val (.ref b5), .val (.ref b7), .val (.int (0 : Int32)), .val (.int (0 : Int32)), .val (.int (1 : Int32)), .val (.ref b17), .val (.int (0 : Int32)), .val .null, .unset]) at_181 rfl rfl rfl ?_
        refine w_iload X23 (pc' := 185) at_183 rfl rfl ?_
        refine w_iconst X23 (pc' := 186) (3 : Int32) at_185 rfl rfl ?_
        refine w_icmp_lt X23 206 189 at_186 (by decide) rfl rfl (fun hc186 => ?_) (fun hc186 => by exfalso; revert hc186; decide)
        refine w_iload X23 (pc' := 208) at_206 rfl rfl ?_
        refine w_iconst X23 (pc' := 209) (2 : Int32) at_208 rfl rfl ?_
        refine w_icmp_lt X23 229 212 at_209 (by decide) rfl rfl (fun hc209 => ?_) (fun hc209 => by exfalso; revert hc209; decide)
        refine w_iload X23 (pc' := 231) at_229 rfl rfl ?_
        refine w_iconst X23 (pc' := 232) (1 : Int32) at_231 rfl rfl ?_
        refine w_icmp_lt X23 249 235 at_232 (by decide) rfl rfl (fun hc232 => ?_) (fun hc232 => by exfalso; revert hc232; decide)
        refine w_aload X23 (pc' := 251) at_249 rfl rfl rfl ?_
        refine w_aload X23 (pc' := 253) at_251 rfl rfl rfl ?_
        refine w_virtualV X23 (pc' := 256) at_253 (rm_vo0 hw (h0 := h23) (sd_size X23) b17 b7 B23 (show 0 ≤ 0 by decide) S7_24 (Sta.ext (sd_ext X23 hs0 Zn) S_c) hzc) (hw _ (List.mem_of_getElem? (i := 78) rfl)) (hw _ (List.mem_of_getElem? (i := 79) rfl)) (hw _ (List.mem_of_getElem? (i := 81) rfl)) (hw _ (List.mem_of_getElem? (i := 80) rfl)) (hw _ (List.mem_of_getElem? (i := 57) rfl)) (hw _ (List.mem_of_getElem? (i := 82) rfl)) B23.exa (by decide) [(.ref b7)] [] pd_15 rfl rfl rfl rfl 0 (Nat.le_refl _) (by decide) (by decide) (by decide) (by decide) rfl fun T25 h25 v25 X25 q25 => ?_
        have hv : own_val [] bs7 0 = none := rfl
        obtain ⟨hq, rfl⟩ := q25
        rcases hq with ⟨rfl, -⟩ | ⟨r, bs, rfl, Sr, hr⟩
        rotate_left
        · exact absurd (hr.symm.trans hv) (by simp)
        refine w_astore X25 (pc' := 258) (l' := #[.val (.int p1), .val (.int p2), .val (.int p3), .val (.int p4), .val (.int p5), .val (.ref b1), .val (.ref b3), .val (.ref b5), .val (.ref b7), .val (.int (0 : Int32)), .val (.int (0 : Int32)), .val (.int (1 : Int32)), .val (.ref b17), .val (.int (0 : Int32)), .val .null, .val .null]) at_256 rfl rfl rfl ?_
        refine w_aload X25 (pc' := 260) at_258 rfl rfl rfl ?_
        refine w_ifnonnullN X25 (pc' := 263) at_260 rfl ?_
        refine w_aload X25 (pc' := 265) at_263 rfl rfl rfl ?_
        refine w_ifnonnullN X25 (pc' := 268) at_265 rfl ?_
        refine w_iconst X25 (pc' := 269) (1 : Int32) at_268 rfl rfl ?_
        refine w_goto X25 (pc' := 273) at_269 (by decide) rfl ?_
        exact w_zreturnW X25 F7_24 (own_hEL hw) at_273 rfl (by decide) (by decide)
  · skip
    show Go p e below _ (T7.setTop (mkF m 30 #[.val (.int p1), .val (.int p2), .val (.int p3), .val (.int p4), .val (.int p5), .val (.ref b1), .val (.ref b3), .val (.ref b5), .val (.ref b7), .val (.int (1 : Int32)), .unset, .unset, .unset, .unset, .unset, .unset] []))
    refine w_iload X7 (pc' := 32) at_30 rfl rfl ?_
    refine w_iconst X7 (pc' := 33) (2 : Int32) at_32 rfl rfl ?_
    refine w_iushr X7 (pc' := 34) at_33 rfl ?_
    refine w_iconst X7 (pc' := 35) (3 : Int32) at_34 rfl rfl ?_
    refine w_iand X7 (pc' := 36) at_35 rfl ?_
    refine w_iload X7 (pc' := 38) at_36 rfl rfl ?_
    refine w_staticV X7 (pc' := 41) at_38 (rm_min hw (h0 := h7) (sd_size X7) (((p5.toUInt32 >>> ((2 : Int32) &&& 31).toUInt32).toInt32) &&& (3 : Int32)) (1 : Int32)) (hw _ (List.mem_of_getElem? (i := 51) rfl)) (hw _ (List.mem_of_getElem? (i := 52) rfl)) (hw _ (List.mem_of_getElem? (i := 53) rfl)) (hw _ (List.mem_of_getElem? (i := 54) rfl)) (by decide) [(.int (((p5.toUInt32 >>> ((2 : Int32) &&& 31).toUInt32).toInt32) &&& (3 : Int32))), (.int (1 : Int32))] [] pd_12 rfl rfl rfl rfl 0 (Nat.le_refl _) (by decide) (by decide) (by decide) (by decide) rfl fun T26 h26 v26 X26 q26 => ?_
    obtain ⟨rfl, rfl⟩ := q26
    refine w_istore X26 (pc' := 43) (l' := #[.val (.int p1), .val (.int p2), .val (.int p3), .val (.int p4), .val (.int p5), .val (.ref b1), .val (.ref b3), .val (.ref b5), .val (.ref b7), .val (.int (1 : Int32)), .val (.int (own_min (((p5.toUInt32 >>> ((2 : Int32) &&& 31).toUInt32).toInt32) &&& (3 : Int32)) (1 : Int32))), .unset, .unset, .unset, .unset, .unset]) at_41 rfl rfl ?_
    have hz : (own_min (((p5.toUInt32 >>> ((2 : Int32) &&& 31).toUInt32).toInt32) &&& (3 : Int32)) (1 : Int32)) = 0 ∨ (own_min (((p5.toUInt32 >>> ((2 : Int32) &&& 31).toUInt32).toInt32) &&& (3 : Int32)) (1 : Int32)) = 1 := by
      rcases own_and3 ((p5.toUInt32 >>> ((2 : Int32) &&& 31).toUInt32).toInt32) with q | q | q | q <;> rw [q] <;> decide
    generalize (own_min (((p5.toUInt32 >>> ((2 : Int32) &&& 31).toUInt32).toInt32) &&& (3 : Int32)) (1 : Int32)) = m10 at hz ⊢
    rcases hz with rfl | rfl
    · skip
      show Go p e below _ (T26.setTop (mkF m 43 #[.val (.int p1), .val (.int p2), .val (.int p3), .val (.int p4), .val (.int p5), .val (.ref b1), .val (.ref b3), .val (.ref b5), .val (.ref b7), .val (.int (1 : Int32)), .val (.int (0 : Int32)), .unset, .unset, .unset, .unset, .unset] []))
      refine w_iload X26 (pc' := 45) at_43 rfl rfl ?_
      refine w_iconst X26 (pc' := 46) (4 : Int32) at_45 rfl rfl ?_
      refine w_iushr X26 (pc' := 47) at_46 rfl ?_
      refine w_iconst X26 (pc' := 48) (1 : Int32) at_47 rfl rfl ?_
      refine w_iand X26 (pc' := 49) at_48 rfl ?_
      refine w_if_eq X26 56 52 at_49 (by decide) rfl rfl (fun hc49 => ?_) (fun hc49 => ?_)
      · skip
        refine w_iconst X26 (pc' := 57) (0 : Int32) at_56 rfl rfl ?_
        refine w_istore X26 (pc' := 59) (l' := #[.val (.int p1), .val (.int p2), .val (.int p3), .val (.int p4), .val (.int p5), .val (.ref b1), .val (.ref b3), .val (.ref b5), .val (.ref b7), .val (.int (1 : Int32)), .val (.int (0 : Int32)), .val (.int (0 : Int32)), .unset, .unset, .unset, .unset]) at_57 rfl rfl ?_
        refine w_new X26 (pc' := 62) at_59 (hw _ (List.mem_of_getElem? (i := 55) rfl)) (hw _ (List.mem_of_getElem? (i := 56) rfl)) (hw _ (List.mem_of_getElem? (i := 57) rfl)) (by decide) (by decide) rfl fun T27 h27 b27 g27 gn27 X27 E27 A27 D27 => ?_
        have sf_b27 := F7.safe_new E27 g27
        have S1_28 := S1_8.ext E27
        have S3_28 := S3_8.ext E27
        have S5_28 := S5_8.ext E27
        have S7_28 := S7.ext E27
        have F7_28 := F7.ext E27
        have Fpairs_27 : Fld Z h27 b27 "com/example/raja/raja/xml/CanonicalWriter$Bindings" "pairs" "[Ljava/lang/String;" .null := D27 (Or.inl (hw _ (List.mem_of_getElem? (i := 65) rfl))) (ty := (.array (.object "java/lang/String"))) (by decide)
        have Fmarks_27 : Fld Z h27 b27 "com/example/raja/raja/xml/CanonicalWriter$Bindings" "marks" "[I" .null := D27 (Or.inl (hw _ (List.mem_of_getElem? (i := 68) rfl))) (ty := (.array .int)) (by decide)
        have Fdepth_27 : Fld Z h27 b27 "com/example/raja/raja/xml/CanonicalWriter$Bindings" "depth" "I" (.int (0 : Int32)) := D27 (Or.inl (hw _ (List.mem_of_getElem? (i := 75) rfl))) (ty := .int) (by decide)
        have Fsize_27 : Fld Z h27 b27 "com/example/raja/raja/xml/CanonicalWriter$Bindings" "size" "I" (.int (0 : Int32)) := D27 (Or.inl (hw _ (List.mem_of_getElem? (i := 77) rfl))) (ty := .int) (by decide)
        refine w_dup X27 (pc' := 63) at_62 rfl rfl ?_
        refine w_specialN X27 (pc' := 66) at_63 (rm_init hw (h0 := h27) (sd_size X27) b27 A27 Fpairs_27 Fmarks_27 Fsize_27 Fdepth_27 gn27) (hw _ (List.mem_of_getElem? (i := 58) rfl)) (hw _ (List.mem_of_getElem? (i := 59) rfl)) (hw _ (List.mem_of_getElem? (i := 57) rfl)) (hw _ (List.mem_of_getElem? (i := 60) rfl)) rfl (by decide) [] [(.ref b27)] pd_13 rfl rfl rfl rfl 1 (Nat.le_refl _) (by decide) (by decide) (by decide) (by decide) rfl fun T29 h29 X29 q29 => ?_
        obtain ⟨K29, B29⟩ := q29
        have S1_30 := S1_28.keep K29 (ap1 (Apart.obj A27 (hw _ (List.mem_of_getElem? (i := 56) rfl)) (by decide) (by decide)))
        have S3_30 := S3_28.keep K29 (ap1 (Apart.obj A27 (hw _ (List.mem_of_getElem? (i := 56) rfl)) (by decide) (by decide)))
        have S5_30 := S5_28.keep K29 (ap1 (Apart.obj A27 (hw _ (List.mem_of_getElem? (i := 56) rfl)) (by decide) (by decide)))
        have S7_30 := S7_28.keep K29 (ap1 (Apart.obj A27 (hw _ (List.mem_of_getElem? (i := 56) rfl)) (by decide) (by decide)))
        have F7_30 := F7_28.kp X29 K29 (ap1 (Apart.obj A27 (hw _ (List.mem_of_getElem? (i := 56) rfl)) (by decide) (by decide)))
        have A27_30 := A27.keep K29
        refine w_astore X29 (pc' := 68) (l' := #[.val (.int p1), .val (.int p2), .val (.int p3), .val (.int p4), .val (.int p5), .val (.ref b1), .val (.ref b3), .val (.ref b5), .val (.ref b7), .val (.int (1 : Int32)), .val (.int (0 : Int32)), .val (.int (0 : Int32)), .val (.ref b27), .unset, .unset, .unset]) at_66 rfl rfl rfl ?_
        refine w_iload X29 (pc' := 70) at_68 rfl rfl ?_
        refine w_if_ne X29 78 73 at_70 (by decide) rfl rfl (fun hc70 => by exfalso; revert hc70; decide) (fun hc70 => ?_)
        refine w_aload X29 (pc' := 75) at_73 rfl rfl rfl ?_
        refine w_virtualN X29 (pc' := 78) at_75 (rm_open hw (h0 := h29) (sd_size X29) b27 B29) (hw _ (List.mem_of_getElem? (i := 69) rfl)) (hw _ (List.mem_of_getElem? (i := 70) rfl)) (hw _ (List.mem_of_getElem? (i := 72) rfl)) (hw _ (List.mem_of_getElem? (i := 71) rfl)) (hw _ (List.mem_of_getElem? (i := 57) rfl)) (hw _ (List.mem_of_getElem? (i := 73) rfl)) B29.exa (by decide) [] [] pd_14 rfl rfl rfl rfl 0 (Nat.le_refl _) (by decide) (by decide) (by decide) (by decide) rfl fun T31 h31 X31 q31 => ?_
        obtain ⟨⟨ws31, K31, P31⟩, B31⟩ := q31
        have S1_32 := S1_30.keep K31 P31
        have S3_32 := S3_30.keep K31 P31
        have S5_32 := S5_30.keep K31 P31
        have S7_32 := S7_30.keep K31 P31
        have F7_32 := F7_30.kp X31 K31 P31
        replace B31 : BD Z n0 h31 b27 [] 0 1 0 := B31
        refine w_iload X31 (pc' := 80) at_78 rfl rfl ?_
        refine w_iconst X31 (pc' := 81) (1 : Int32) at_80 rfl rfl ?_
        refine w_icmp_lt X31 93 84 at_81 (by decide) rfl rfl (fun hc81 => by exfalso; revert hc81; decide) (fun hc81 => ?_)
        refine w_aload X31 (pc' := 86) at_84 rfl rfl rfl ?_
        refine w_aload X31 (pc' := 88) at_86 rfl rfl rfl ?_
        refine w_ldcW X31 F7_32 (pc' := 90) (text := "v0") [(118 : Int32), (48 : Int32)] 8 at_88 (hw _ (List.mem_of_getElem? (i := 83) rfl)) (own_wS hw) (own_hEL hw) (List.mem_of_getElem? (i := 1) rfl) (by decide) (by decide) (by decide) (by decide) (by decide) (by decide) rfl fun T33 h33 vm33 a33 X33 F33 E33 S33 => ?_
        have S1_34 := S1_32.ext E33
        have S3_34 := S3_32.ext E33
        have S5_34 := S5_32.ext E33
        have S7_34 := S7_32.ext E33
        have B31_34 := B31.ext E33
        refine w_virtualN X33 (pc' := 93) at_90 (rm_push hw (h0 := h33) (sd_size X33) b27 b1 a33 B31_34 (show 0 < 8 by decide) S1_34 S33) (hw _ (List.mem_of_getElem? (i := 84) rfl)) (hw _ (List.mem_of_getElem? (i := 85) rfl)) (hw _ (List.mem_of_getElem? (i := 87) rfl)) (hw _ (List.mem_of_getElem? (i := 86) rfl)) (hw _ (List.mem_of_getElem? (i := 57) rfl)) (hw _ (List.mem_of_getElem? (i := 88) rfl)) B31_34.exa (by decide) [(.ref b1), (.ref a33)] [] pd_16 rfl rfl rfl rfl 0 (Nat.le_refl _) (by decide) (by decide) (by decide) (by decide) rfl fun T35 h35 X35 q35 => ?_
        obtain ⟨⟨ws35, K35, P35⟩, B35⟩ := q35
        have S1_36 := S1_34.keep K35 P35
        have S3_36 := S3_34.keep K35 P35
        have S5_36 := S5_34.keep K35 P35
        have S7_36 := S7_34.keep K35 P35
        have F33_36 := F33.kp X35 K35 P35
        replace B35 : BD Z n0 h35 b27 [(bs1, [(118 : Int32), (48 : Int32)])] 1 1 0 := B35
        refine w_iload X35 (pc' := 95) at_93 rfl rfl ?_
        refine w_iconst X35 (pc' := 96) (1 : Int32) at_95 rfl rfl ?_
        refine w_icmp_ne X35 104 99 at_96 (by decide) rfl rfl (fun hc96 => ?_) (fun hc96 => by exfalso; revert hc96; decide)
        refine w_iload X35 (pc' := 106) at_104 rfl rfl ?_
        refine w_iconst X35 (pc' := 107) (2 : Int32) at_106 rfl rfl ?_
        refine w_icmp_lt X35 119 110 at_107 (by decide) rfl rfl (fun hc107 => ?_) (fun hc107 => by exfalso; revert hc107; decide)
        refine w_iload X35 (pc' := 121) at_119 rfl rfl ?_
        refine w_iconst X35 (pc' := 122) (2 : Int32) at_121 rfl rfl ?_
        refine w_icmp_ne X35 130 125 at_122 (by decide) rfl rfl (fun hc122 => ?_) (fun hc122 => by exfalso; revert hc122; decide)
        refine w_iload X35 (pc' := 132) at_130 rfl rfl ?_
        refine w_iconst X35 (pc' := 133) (3 : Int32) at_132 rfl rfl ?_
        refine w_icmp_lt X35 145 136 at_133 (by decide) rfl rfl (fun hc133 => ?_) (fun hc133 => by exfalso; revert hc133; decide)
        refine w_iload X35 (pc' := 147) at_145 rfl rfl ?_
        refine w_iconst X35 (pc' := 148) (3 : Int32) at_147 rfl rfl ?_
        refine w_icmp_ne X35 156 151 at_148 (by decide) rfl rfl (fun hc148 => ?_) (fun hc148 => by exfalso; revert hc148; decide)
        refine w_iload X35 (pc' := 158) at_156 rfl rfl ?_
        refine w_if_eq X35 166 161 at_158 (by decide) rfl rfl (fun hc158 => ?_) (fun hc158 => by exfalso; revert hc158; decide)
        refine w_iload X35 (pc' := 168) at_166 rfl rfl ?_
        refine w_if_eq X35 176 171 at_168 (by decide) rfl rfl (fun hc168 => ?_) (fun hc168 => by exfalso; revert hc168; decide)
        refine w_iload X35 (pc' := 178) at_176 rfl rfl ?_
        refine w_istore X35 (pc' := 180) (l' := #[.val (.int p1), .val (.int p2), .val (.int p3), .val (.int p4), .val (.int p5), .val (.ref b1), .val (.ref b3), .val (.ref b5), .val (.ref b7), .val (.int (1 : Int32)), .val (.int (0 : Int32)), .val (.int (0 : Int32)), .val (.ref b27), .val (.int (1 : Int32)), .unset, .unset]) at_178 rfl rfl ?_
        refine w_aconst_null X35 (pc' := 181) at_180 rfl ?_
        refine w_astore X35 (pc' := 183) (l' := #[.val (.int p1), .val (.int p2), .val (.int p3), .val (.int p4), .val (.int p5), .val (.ref b1), .val (.ref b3), .val (.ref b5), .val (.ref b7), .val (.int (1 : Int32)), .val (.int (0 : Int32)), .val (.int (0 : Int32)), .val (.ref b27), .val (.int (1 : Int32)), .val .null, .unset]) at_181 rfl rfl rfl ?_
        refine w_iload X35 (pc' := 185) at_183 rfl rfl ?_
        refine w_iconst X35 (pc' := 186) (3 : Int32) at_185 rfl rfl ?_
        refine w_icmp_lt X35 206 189 at_186 (by decide) rfl rfl (fun hc186 => ?_) (fun hc186 => by exfalso; revert hc186; decide)
        refine w_iload X35 (pc' := 208) at_206 rfl rfl ?_
        refine w_iconst X35 (pc' := 209) (2 : Int32) at_208 rfl rfl ?_
        refine w_icmp_lt X35 229 212 at_209 (by decide) rfl rfl (fun hc209 => ?_) (fun hc209 => by exfalso; revert hc209; decide)
        refine w_iload X35 (pc' := 231) at_229 rfl rfl ?_
        refine w_iconst X35 (pc' := 232) (1 : Int32) at_231 rfl rfl ?_
        refine w_icmp_lt X35 249 235 at_232 (by decide) rfl rfl (fun hc232 => by exfalso; revert hc232; decide) (fun hc232 => ?_)
        refine w_aload X35 (pc' := 237) at_235 rfl rfl rfl ?_
        refine w_aload X35 (pc' := 239) at_237 rfl rfl rfl ?_
        refine w_virtualV X35 (pc' := 242) at_239 (rm_eq hw (h0 := h35) (sd_size X35) b1 b7 S1_36 S7_36 (Sta.ext (sd_ext X35 hs0 Zn) S_c) hzc) (hw _ (List.mem_of_getElem? (i := 91) rfl)) (hw _ (List.mem_of_getElem? (i := 92) rfl)) (hw _ (List.mem_of_getElem? (i := 94) rfl)) (hw _ (List.mem_of_getElem? (i := 93) rfl)) (hw _ (List.mem_of_getElem? (i := 5) rfl)) (hw _ (List.mem_of_getElem? (i := 95) rfl)) S1_36.exa (by decide) [(.ref b7)] [] pd_17 rfl rfl rfl rfl 0 (Nat.le_refl _) (by decide) (by decide) (by decide) (by decide) rfl fun T37 h37 v37 X37 q37 => ?_
        obtain ⟨rfl, rfl⟩ := q37
        refine w_if_eq X37 249 245 at_242 (by decide) rfl rfl (fun hc242 => ?_) (fun hc242 => ?_)
        · skip
          refine w_aload X37 (pc' := 251) at_249 rfl rfl rfl ?_
          refine w_aload X37 (pc' := 253) at_251 rfl rfl rfl ?_
          refine w_virtualV X37 (pc' := 256) at_253 (rm_vo1 hw (h0 := h35) (sd_size X37) b27 b7 B35 (show 1 ≤ 1 by decide) S7_36 (Sta.ext (sd_ext X37 hs0 Zn) S_c) hzc) (hw _ (List.mem_of_getElem? (i := 78) rfl)) (hw _ (List.mem_of_getElem? (i := 79) rfl)) (hw _ (List.mem_of_getElem? (i := 81) rfl)) (hw _ (List.mem_of_getElem? (i := 80) rfl)) (hw _ (List.mem_of_getElem? (i := 57) rfl)) (hw _ (List.mem_of_getElem? (i := 82) rfl)) B35.exa (by decide) [(.ref b7)] [] pd_15 rfl rfl rfl rfl 0 (Nat.le_refl _) (by decide) (by decide) (by decide) (by decide) rfl fun T38 h38 v38 X38 q38 => ?_
          have hv : own_val [(bs1, [(118 : Int32), (48 : Int32)])] bs7 1 = none := (own_vn (es := [(bs1, [(118 : Int32), (48 : Int32)])]) (q := bs7) 0 (show ¬ bs1 = bs7 from own_if0 hc242)).trans (rfl)
          obtain ⟨hq, rfl⟩ := q38
          rcases hq with ⟨rfl, -⟩ | ⟨r, bs, rfl, Sr, hr⟩
          rotate_left
          · exact absurd (hr.symm.trans hv) (by simp)
          refine w_astore X38 (pc' := 258) (l' := #[.val (.int p1), .val (.int p2), .val (.int p3), .val (.int p4), .val (.int p5), .val (.ref b1), .val (.ref b3), .val (.ref b5), .val (.ref b7), .val (.int (1 : Int32)), .val (.int (0 : Int32)), .val (.int (0 : Int32)), .val (.ref b27), .val (.int (1 : Int32)), .val .null, .val .null]) at_256 rfl rfl rfl ?_
          refine w_aload X38 (pc' := 260) at_258 rfl rfl rfl ?_
          refine w_ifnonnullN X38 (pc' := 263) at_260 rfl ?_
          refine w_aload X38 (pc' := 265) at_263 rfl rfl rfl ?_
          refine w_ifnonnullN X38 (pc' := 268) at_265 rfl ?_
          refine w_iconst X38 (pc' := 269) (1 : Int32) at_268 rfl rfl ?_
          refine w_goto X38 (pc' := 273) at_269 (by decide) rfl ?_
          exact w_zreturnW X38 F33_36 (own_hEL hw) at_273 rfl (by decide) (by decide)
        · skip
          refine w_ldcW X37 F33_36 (pc' := 247) (text := "v0") [(118 : Int32), (48 : Int32)] 8 at_245 (hw _ (List.mem_of_getElem? (i := 83) rfl)) (own_wS hw) (own_hEL hw) (List.mem_of_getElem? (i := 1) rfl) (by decide) (by decide) (by decide) (by decide) (by decide) (by decide) rfl fun T39 h39 vm39 a39 X39 F39 E39 S39 => ?_
          have S1_40 := S1_36.ext E39
          have S3_40 := S3_36.ext E39
          have S5_40 := S5_36.ext E39
          have S7_40 := S7_36.ext E39
          have B35_40 := B35.ext E39
          refine w_astore X39 (pc' := 249) (l' := #[.val (.int p1), .val (.int p2), .val (.int p3), .val (.int p4), .val (.int p5), .val (.ref b1), .val (.ref b3), .val (.ref b5), .val (.ref b7), .val (.int (1 : Int32)), .val (.int (0 : Int32)), .val (.int (0 : Int32)), .val (.ref b27), .val (.int (1 : Int32)), .val (.ref a39), .unset]) at_247 rfl rfl rfl ?_
          refine w_aload X39 (pc' := 251) at_249 rfl rfl rfl ?_
          refine w_aload X39 (pc' := 253) at_251 rfl rfl rfl ?_
          refine w_virtualV X39 (pc' := 256) at_253 (rm_vo1 hw (h0 := h39) (sd_size X39) b27 b7 B35_40 (show 1 ≤ 1 by decide) S7_40 (Sta.ext (sd_ext X39 hs0 Zn) S_c) hzc) (hw _ (List.mem_of_getElem? (i := 78) rfl)) (hw _ (List.mem_of_getElem? (i := 79) rfl)) (hw _ (List.mem_of_getElem? (i := 81) rfl)) (hw _ (List.mem_of_getElem? (i := 80) rfl)) (hw _ (List.mem_of_getElem? (i := 57) rfl)) (hw _ (List.mem_of_getElem? (i := 82) rfl)) B35_40.exa (by decide) [(.ref b7)] [] pd_15 rfl rfl rfl rfl 0 (Nat.le_refl _) (by decide) (by decide) (by decide) (by decide) rfl fun T41 h41 v41 X41 q41 => ?_
          have hv : own_val [(bs1, [(118 : Int32), (48 : Int32)])] bs7 1 = some [(118 : Int32), (48 : Int32)] := own_vp (es := [(bs1, [(118 : Int32), (48 : Int32)])]) (q := bs7) 0 (show bs1 = bs7 from own_if1 hc242)
          obtain ⟨hq, rfl⟩ := q41
          rcases hq with ⟨rfl, hr⟩ | ⟨r, bs, rfl, Sr, hr⟩
          · exact absurd (hr.symm.trans hv) (by simp)
          obtain rfl : bs = [(118 : Int32), (48 : Int32)] := Option.some.inj (hr.symm.trans hv)
          refine w_astore X41 (pc' := 258) (l' := #[.val (.int p1), .val (.int p2), .val (.int p3), .val (.int p4), .val (.int p5), .val (.ref b1), .val (.ref b3), .val (.ref b5), .val (.ref b7), .val (.int (1 : Int32)), .val (.int (0 : Int32)), .val (.int (0 : Int32)), .val (.ref b27), .val (.int (1 : Int32)), .val (.ref a39), .val (.ref r)]) at_256 rfl rfl rfl ?_
          refine w_aload X41 (pc' := 260) at_258 rfl rfl rfl ?_
          refine w_ifnonnullY X41 (pc' := 274) at_260 (by decide) rfl ?_
          refine w_aload X41 (pc' := 276) at_274 rfl rfl rfl ?_
          refine w_aload X41 (pc' := 278) at_276 rfl rfl rfl ?_
          refine w_virtualV X41 (pc' := 281) at_278 (rm_eq hw (h0 := h39) (sd_size X41) a39 r S39 Sr (Sta.ext (sd_ext X41 hs0 Zn) S_c) hzc) (hw _ (List.mem_of_getElem? (i := 91) rfl)) (hw _ (List.mem_of_getElem? (i := 92) rfl)) (hw _ (List.mem_of_getElem? (i := 94) rfl)) (hw _ (List.mem_of_getElem? (i := 93) rfl)) (hw _ (List.mem_of_getElem? (i := 5) rfl)) (hw _ (List.mem_of_getElem? (i := 95) rfl)) S39.exa (by decide) [(.ref r)] [] pd_17 rfl rfl rfl rfl 0 (Nat.le_refl _) (by decide) (by decide) (by decide) (by decide) rfl fun T42 h42 v42 X42 q42 => ?_
          obtain ⟨rfl, rfl⟩ := q42
          exact w_zreturnW X42 F39 (own_hEL hw) at_281 (by rw [if_pos rfl]; rfl) (by decide) (by decide)
      · skip
        refine w_iconst X26 (pc' := 53) (1 : Int32) at_52 rfl rfl ?_
        refine w_goto X26 (pc' := 57) at_53 (by decide) rfl ?_
        refine w_istore X26 (pc' := 59) (l' := #[.val (.int p1), .val (.int p2), .val (.int p3), .val (.int p4), .val (.int p5), .val (.ref b1), .val (.ref b3), .val (.ref b5), .val (.ref b7), .val (.int (1 : Int32)), .val (.int (0 : Int32)), .val (.int (1 : Int32)), .unset, .unset, .unset, .unset]) at_57 rfl rfl ?_
        refine w_new X26 (pc' := 62) at_59 (hw _ (List.mem_of_getElem? (i := 55) rfl)) (hw _ (List.mem_of_getElem? (i := 56) rfl)) (hw _ (List.mem_of_getElem? (i := 57) rfl)) (by decide) (by decide) rfl fun T43 h43 b43 g43 gn43 X43 E43 A43 D43 => ?_
        have sf_b43 := F7.safe_new E43 g43
        have S1_44 := S1_8.ext E43
        have S3_44 := S3_8.ext E43
        have S5_44 := S5_8.ext E43
        have S7_44 := S7.ext E43
        have F7_44 := F7.ext E43
        have Fpairs_43 : Fld Z h43 b43 "com/example/raja/raja/xml/CanonicalWriter$Bindings" "pairs" "[Ljava/lang/String;" .null := D43 (Or.inl (hw _ (List.mem_of_getElem? (i := 65) rfl))) (ty := (.array (.object "java/lang/String"))) (by decide)
        have Fmarks_43 : Fld Z h43 b43 "com/example/raja/raja/xml/CanonicalWriter$Bindings" "marks" "[I" .null := D43 (Or.inl (hw _ (List.mem_of_getElem? (i := 68) rfl))) (ty := (.array .int)) (by decide)
        have Fdepth_43 : Fld Z h43 b43 "com/example/raja/raja/xml/CanonicalWriter$Bindings" "depth" "I" (.int (0 : Int32)) := D43 (Or.inl (hw _ (List.mem_of_getElem? (i := 75) rfl))) (ty := .int) (by decide)
        have Fsize_43 : Fld Z h43 b43 "com/example/raja/raja/xml/CanonicalWriter$Bindings" "size" "I" (.int (0 : Int32)) := D43 (Or.inl (hw _ (List.mem_of_getElem? (i := 77) rfl))) (ty := .int) (by decide)
        refine w_dup X43 (pc' := 63) at_62 rfl rfl ?_
        refine w_specialN X43 (pc' := 66) at_63 (rm_init hw (h0 := h43) (sd_size X43) b43 A43 Fpairs_43 Fmarks_43 Fsize_43 Fdepth_43 gn43) (hw _ (List.mem_of_getElem? (i := 58) rfl)) (hw _ (List.mem_of_getElem? (i := 59) rfl)) (hw _ (List.mem_of_getElem? (i := 57) rfl)) (hw _ (List.mem_of_getElem? (i := 60) rfl)) rfl (by decide) [] [(.ref b43)] pd_13 rfl rfl rfl rfl 1 (Nat.le_refl _) (by decide) (by decide) (by decide) (by decide) rfl fun T45 h45 X45 q45 => ?_
        obtain ⟨K45, B45⟩ := q45
        have S1_46 := S1_44.keep K45 (ap1 (Apart.obj A43 (hw _ (List.mem_of_getElem? (i := 56) rfl)) (by decide) (by decide)))
        have S3_46 := S3_44.keep K45 (ap1 (Apart.obj A43 (hw _ (List.mem_of_getElem? (i := 56) rfl)) (by decide) (by decide)))
        have S5_46 := S5_44.keep K45 (ap1 (Apart.obj A43 (hw _ (List.mem_of_getElem? (i := 56) rfl)) (by decide) (by decide)))
        have S7_46 := S7_44.keep K45 (ap1 (Apart.obj A43 (hw _ (List.mem_of_getElem? (i := 56) rfl)) (by decide) (by decide)))
        have F7_46 := F7_44.kp X45 K45 (ap1 (Apart.obj A43 (hw _ (List.mem_of_getElem? (i := 56) rfl)) (by decide) (by decide)))
        have A43_46 := A43.keep K45
        refine w_astore X45 (pc' := 68) (l' := #[.val (.int p1), .val (.int p2), .val (.int p3), .val (.int p4), .val (.int p5), .val (.ref b1), .val (.ref b3), .val (.ref b5), .val (.ref b7), .val (.int (1 : Int32)), .val (.int (0 : Int32)), .val (.int (1 : Int32)), .val (.ref b43), .unset, .unset, .unset]) at_66 rfl rfl rfl ?_
        refine w_iload X45 (pc' := 70) at_68 rfl rfl ?_
        refine w_if_ne X45 78 73 at_70 (by decide) rfl rfl (fun hc70 => by exfalso; revert hc70; decide) (fun hc70 => ?_)
        refine w_aload X45 (pc' := 75) at_73 rfl rfl rfl ?_
        refine w_virtualN X45 (pc' := 78) at_75 (rm_open hw (h0 := h45) (sd_size X45) b43 B45) (hw _ (List.mem_of_getElem? (i := 69) rfl)) (hw _ (List.mem_of_getElem? (i := 70) rfl)) (hw _ (List.mem_of_getElem? (i := 72) rfl)) (hw _ (List.mem_of_getElem? (i := 71) rfl)) (hw _ (List.mem_of_getElem? (i := 57) rfl)) (hw _ (List.mem_of_getElem? (i := 73) rfl)) B45.exa (by decide) [] [] pd_14 rfl rfl rfl rfl 0 (Nat.le_refl _) (by decide) (by decide) (by decide) (by decide) rfl fun T47 h47 X47 q47 => ?_
        obtain ⟨⟨ws47, K47, P47⟩, B47⟩ := q47
        have S1_48 := S1_46.keep K47 P47
        have S3_48 := S3_46.keep K47 P47
        have S5_48 := S5_46.keep K47 P47
        have S7_48 := S7_46.keep K47 P47
        have F7_48 := F7_46.kp X47 K47 P47
        replace B47 : BD Z n0 h47 b43 [] 0 1 0 := B47
        refine w_iload X47 (pc' := 80) at_78 rfl rfl ?_
        refine w_iconst X47 (pc' := 81) (1 : Int32) at_80 rfl rfl ?_
        refine w_icmp_lt X47 93 84 at_81 (by decide) rfl rfl (fun hc81 => by exfalso; revert hc81; decide) (fun hc81 => ?_)
        refine w_aload X47 (pc' := 86) at_84 rfl rfl rfl ?_
        refine w_aload X47 (pc' := 88) at_86 rfl rfl rfl ?_
        refine w_ldcW X47 F7_48 (pc' := 90) (text := "v0") [(118 : Int32), (48 : Int32)] 8 at_88 (hw _ (List.mem_of_getElem? (i := 83) rfl)) (own_wS hw) (own_hEL hw) (List.mem_of_getElem? (i := 1) rfl) (by decide) (by decide) (by decide) (by decide) (by decide) (by decide) rfl fun T49 h49 vm49 a49 X49 F49 E49 S49 => ?_
        have S1_50 := S1_48.ext E49
        have S3_50 := S3_48.ext E49
        have S5_50 := S5_48.ext E49
        have S7_50 := S7_48.ext E49
        have B47_50 := B47.ext E49
        refine w_virtualN X49 (pc' := 93) at_90 (rm_push hw (h0 := h49) (sd_size X49) b43 b1 a49 B47_50 (show 0 < 8 by decide) S1_50 S49) (hw _ (List.mem_of_getElem? (i := 84) rfl)) (hw _ (List.mem_of_getElem? (i := 85) rfl)) (hw _ (List.mem_of_getElem? (i := 87) rfl)) (hw _ (List.mem_of_getElem? (i := 86) rfl)) (hw _ (List.mem_of_getElem? (i := 57) rfl)) (hw _ (List.mem_of_getElem? (i := 88) rfl)) B47_50.exa (by decide) [(.ref b1), (.ref a49)] [] pd_16 rfl rfl rfl rfl 0 (Nat.le_refl _) (by decide) (by decide) (by decide) (by decide) rfl fun T51 h51 X51 q51 => ?_
        obtain ⟨⟨ws51, K51, P51⟩, B51⟩ := q51
        have S1_52 := S1_50.keep K51 P51
        have S3_52 := S3_50.keep K51 P51
        have S5_52 := S5_50.keep K51 P51
        have S7_52 := S7_50.keep K51 P51
        have F49_52 := F49.kp X51 K51 P51
        replace B51 : BD Z n0 h51 b43 [(bs1, [(118 : Int32), (48 : Int32)])] 1 1 0 := B51
        refine w_iload X51 (pc' := 95) at_93 rfl rfl ?_
        refine w_iconst X51 (pc' := 96) (1 : Int32) at_95 rfl rfl ?_
        refine w_icmp_ne X51 104 99 at_96 (by decide) rfl rfl (fun hc96 => ?_) (fun hc96 => by exfalso; revert hc96; decide)
        refine w_iload X51 (pc' := 106) at_104 rfl rfl ?_
        refine w_iconst X51 (pc' := 107) (2 : Int32) at_106 rfl rfl ?_
        refine w_icmp_lt X51 119 110 at_107 (by decide) rfl rfl (fun hc107 => ?_) (fun hc107 => by exfalso; revert hc107; decide)
        refine w_iload X51 (pc' := 121) at_119 rfl rfl ?_
        refine w_iconst X51 (pc' := 122) (2 : Int32) at_121 rfl rfl ?_
        refine w_icmp_ne X51 130 125 at_122 (by decide) rfl rfl (fun hc122 => ?_) (fun hc122 => by exfalso; revert hc122; decide)
        refine w_iload X51 (pc' := 132) at_130 rfl rfl ?_
        refine w_iconst X51 (pc' := 133) (3 : Int32) at_132 rfl rfl ?_
        refine w_icmp_lt X51 145 136 at_133 (by decide) rfl rfl (fun hc133 => ?_) (fun hc133 => by exfalso; revert hc133; decide)
        refine w_iload X51 (pc' := 147) at_145 rfl rfl ?_
        refine w_iconst X51 (pc' := 148) (3 : Int32) at_147 rfl rfl ?_
        refine w_icmp_ne X51 156 151 at_148 (by decide) rfl rfl (fun hc148 => ?_) (fun hc148 => by exfalso; revert hc148; decide)
        refine w_iload X51 (pc' := 158) at_156 rfl rfl ?_
        refine w_if_eq X51 166 161 at_158 (by decide) rfl rfl (fun hc158 => by exfalso; revert hc158; decide) (fun hc158 => ?_)
        refine w_aload X51 (pc' := 163) at_161 rfl rfl rfl ?_
        refine w_virtualN X51 (pc' := 166) at_163 (rm_close hw (h0 := h51) (sd_size X51) b43 B51) (hw _ (List.mem_of_getElem? (i := 100) rfl)) (hw _ (List.mem_of_getElem? (i := 101) rfl)) (hw _ (List.mem_of_getElem? (i := 103) rfl)) (hw _ (List.mem_of_getElem? (i := 102) rfl)) (hw _ (List.mem_of_getElem? (i := 57) rfl)) (hw _ (List.mem_of_getElem? (i := 104) rfl)) B51.exa (by decide) [] [] pd_19 rfl rfl rfl rfl 0 (Nat.le_refl _) (by decide) (by decide) (by decide) (by decide) rfl fun T53 h53 X53 q53 => ?_
        obtain ⟨⟨ws53, K53, P53⟩, B53⟩ := q53
        have S1_54 := S1_52.keep K53 P53
        have S3_54 := S3_52.keep K53 P53
        have S5_54 := S5_52.keep K53 P53
        have S7_54 := S7_52.keep K53 P53
        have F49_54 := F49_52.kp X53 K53 P53
        replace B53 : BD Z n0 h53 b43 [(bs1, [(118 : Int32), (48 : Int32)])] 0 0 0 := B53
        refine w_iload X53 (pc' := 168) at_166 rfl rfl ?_
        refine w_if_eq X53 176 171 at_168 (by decide) rfl rfl (fun hc168 => by exfalso; revert hc168; decide) (fun hc168 => ?_)
        refine w_iload X53 (pc' := 173) at_171 rfl rfl ?_
        refine w_goto X53 (pc' := 178) at_173 (by decide) rfl ?_
        refine w_istore X53 (pc' := 180) (l' := #[.val (.int p1), .val (.int p2), .val (.int p3), .val (.int p4), .val (.int p5), .val (.ref b1), .val (.ref b3), .val (.ref b5), .val (.ref b7), .val (.int (1 : Int32)), .val (.int (0 : Int32)), .val (.int (1 : Int32)), .val (.ref b43), .val (.int (0 : Int32)), .unset, .unset]) at_178 rfl rfl ?_
        refine w_aconst_null X53 (pc' := 181) at_180 rfl ?_
        refine w_astore X53 (pc' := 183) (l' := #[.val (.int p1), .val (.int p2), .val (.int p3), .val (.int p4), .val (.int p5), .val (.ref b1), .val (.ref b3), .val (.ref b5), .val (.ref b7), .val (.int (1 : Int32)), .val (.int (0 : Int32)), .val (.int (1 : Int32)), .val (.ref b43), .val (.int (0 : Int32)), .val .null, .unset]) at_181 rfl rfl rfl ?_
        refine w_iload X53 (pc' := 185) at_183 rfl rfl ?_
        refine w_iconst X53 (pc' := 186) (3 : Int32) at_185 rfl rfl ?_
        refine w_icmp_lt X53 206 189 at_186 (by decide) rfl rfl (fun hc186 => ?_) (fun hc186 => by exfalso; revert hc186; decide)
        refine w_iload X53 (pc' := 208) at_206 rfl rfl ?_
        refine w_iconst X53 (pc' := 209) (2 : Int32) at_208 rfl rfl ?_
        refine w_icmp_lt X53 229 212 at_209 (by decide) rfl rfl (fun hc209 => ?_) (fun hc209 => by exfalso; revert hc209; decide)
        refine w_iload X53 (pc' := 231) at_229 rfl rfl ?_
        refine w_iconst X53 (pc' := 232) (1 : Int32) at_231 rfl rfl ?_
        refine w_icmp_lt X53 249 235 at_232 (by decide) rfl rfl (fun hc232 => ?_) (fun hc232 => by exfalso; revert hc232; decide)
        refine w_aload X53 (pc' := 251) at_249 rfl rfl rfl ?_
        refine w_aload X53 (pc' := 253) at_251 rfl rfl rfl ?_
        refine w_virtualV X53 (pc' := 256) at_253 (rm_vo0 hw (h0 := h53) (sd_size X53) b43 b7 B53 (show 0 ≤ 1 by decide) S7_54 (Sta.ext (sd_ext X53 hs0 Zn) S_c) hzc) (hw _ (List.mem_of_getElem? (i := 78) rfl)) (hw _ (List.mem_of_getElem? (i := 79) rfl)) (hw _ (List.mem_of_getElem? (i := 81) rfl)) (hw _ (List.mem_of_getElem? (i := 80) rfl)) (hw _ (List.mem_of_getElem? (i := 57) rfl)) (hw _ (List.mem_of_getElem? (i := 82) rfl)) B53.exa (by decide) [(.ref b7)] [] pd_15 rfl rfl rfl rfl 0 (Nat.le_refl _) (by decide) (by decide) (by decide) (by decide) rfl fun T55 h55 v55 X55 q55 => ?_
        have hv : own_val [(bs1, [(118 : Int32), (48 : Int32)])] bs7 0 = none := rfl
        obtain ⟨hq, rfl⟩ := q55
        rcases hq with ⟨rfl, -⟩ | ⟨r, bs, rfl, Sr, hr⟩
        rotate_left
        · exact absurd (hr.symm.trans hv) (by simp)
        refine w_astore X55 (pc' := 258) (l' := #[.val (.int p1), .val (.int p2), .val (.int p3), .val (.int p4), .val (.int p5), .val (.ref b1), .val (.ref b3), .val (.ref b5), .val (.ref b7), .val (.int (1 : Int32)), .val (.int (0 : Int32)), .val (.int (1 : Int32)), .val (.ref b43), .val (.int (0 : Int32)), .val .null, .val .null]) at_256 rfl rfl rfl ?_
        refine w_aload X55 (pc' := 260) at_258 rfl rfl rfl ?_
        refine w_ifnonnullN X55 (pc' := 263) at_260 rfl ?_
        refine w_aload X55 (pc' := 265) at_263 rfl rfl rfl ?_
        refine w_ifnonnullN X55 (pc' := 268) at_265 rfl ?_
        refine w_iconst X55 (pc' := 269) (1 : Int32) at_268 rfl rfl ?_
        refine w_goto X55 (pc' := 273) at_269 (by decide) rfl ?_
        exact w_zreturnW X55 F49_54 (own_hEL hw) at_273 rfl (by decide) (by decide)
    · skip
      show Go p e below _ (T26.setTop (mkF m 43 #[.val (.int p1), .val (.int p2), .val (.int p3), .val (.int p4), .val (.int p5), .val (.ref b1), .val (.ref b3), .val (.ref b5), .val (.ref b7), .val (.int (1 : Int32)), .val (.int (1 : Int32)), .unset, .unset, .unset, .unset, .unset] []))
      refine w_iload X26 (pc' := 45) at_43 rfl rfl ?_
      refine w_iconst X26 (pc' := 46) (4 : Int32) at_45 rfl rfl ?_
      refine w_iushr X26 (pc' := 47) at_46 rfl ?_
      refine w_iconst X26 (pc' := 48) (1 : Int32) at_47 rfl rfl ?_
      refine w_iand X26 (pc' := 49) at_48 rfl ?_
      refine w_if_eq X26 56 52 at_49 (by decide) rfl rfl (fun hc49 => ?_) (fun hc49 => ?_)
      · skip
        refine w_iconst X26 (pc' := 57) (0 : Int32) at_56 rfl rfl ?_
        refine w_istore X26 (pc' := 59) (l' := #[.val (.int p1), .val (.int p2), .val (.int p3), .val (.int p4), .val (.int p5), .val (.ref b1), .val (.ref b3), .val (.ref b5), .val (.ref b7), .val (.int (1 : Int32)), .val (.int (1 : Int32)), .val (.int (0 : Int32)), .unset, .unset, .unset, .unset]) at_57 rfl rfl ?_
        refine w_new X26 (pc' := 62) at_59 (hw _ (List.mem_of_getElem? (i := 55) rfl)) (hw _ (List.mem_of_getElem? (i := 56) rfl)) (hw _ (List.mem_of_getElem? (i := 57) rfl)) (by decide) (by decide) rfl fun T56 h56 b56 g56 gn56 X56 E56 A56 D56 => ?_
        have sf_b56 := F7.safe_new E56 g56
        have S1_57 := S1_8.ext E56
        have S3_57 := S3_8.ext E56
        have S5_57 := S5_8.ext E56
        have S7_57 := S7.ext E56
        have F7_57 := F7.ext E56
        have Fpairs_56 : Fld Z h56 b56 "com/example/raja/raja/xml/CanonicalWriter$Bindings" "pairs" "[Ljava/lang/String;" .null := D56 (Or.inl (hw _ (List.mem_of_getElem? (i := 65) rfl))) (ty := (.array (.object "java/lang/String"))) (by decide)
        have Fmarks_56 : Fld Z h56 b56 "com/example/raja/raja/xml/CanonicalWriter$Bindings" "marks" "[I" .null := D56 (Or.inl (hw _ (List.mem_of_getElem? (i := 68) rfl))) (ty := (.array .int)) (by decide)
        have Fdepth_56 : Fld Z h56 b56 "com/example/raja/raja/xml/CanonicalWriter$Bindings" "depth" "I" (.int (0 : Int32)) := D56 (Or.inl (hw _ (List.mem_of_getElem? (i := 75) rfl))) (ty := .int) (by decide)
        have Fsize_56 : Fld Z h56 b56 "com/example/raja/raja/xml/CanonicalWriter$Bindings" "size" "I" (.int (0 : Int32)) := D56 (Or.inl (hw _ (List.mem_of_getElem? (i := 77) rfl))) (ty := .int) (by decide)
        refine w_dup X56 (pc' := 63) at_62 rfl rfl ?_
        refine w_specialN X56 (pc' := 66) at_63 (rm_init hw (h0 := h56) (sd_size X56) b56 A56 Fpairs_56 Fmarks_56 Fsize_56 Fdepth_56 gn56) (hw _ (List.mem_of_getElem? (i := 58) rfl)) (hw _ (List.mem_of_getElem? (i := 59) rfl)) (hw _ (List.mem_of_getElem? (i := 57) rfl)) (hw _ (List.mem_of_getElem? (i := 60) rfl)) rfl (by decide) [] [(.ref b56)] pd_13 rfl rfl rfl rfl 1 (Nat.le_refl _) (by decide) (by decide) (by decide) (by decide) rfl fun T58 h58 X58 q58 => ?_
        obtain ⟨K58, B58⟩ := q58
        have S1_59 := S1_57.keep K58 (ap1 (Apart.obj A56 (hw _ (List.mem_of_getElem? (i := 56) rfl)) (by decide) (by decide)))
        have S3_59 := S3_57.keep K58 (ap1 (Apart.obj A56 (hw _ (List.mem_of_getElem? (i := 56) rfl)) (by decide) (by decide)))
        have S5_59 := S5_57.keep K58 (ap1 (Apart.obj A56 (hw _ (List.mem_of_getElem? (i := 56) rfl)) (by decide) (by decide)))
        have S7_59 := S7_57.keep K58 (ap1 (Apart.obj A56 (hw _ (List.mem_of_getElem? (i := 56) rfl)) (by decide) (by decide)))
        have F7_59 := F7_57.kp X58 K58 (ap1 (Apart.obj A56 (hw _ (List.mem_of_getElem? (i := 56) rfl)) (by decide) (by decide)))
        have A56_59 := A56.keep K58
        refine w_astore X58 (pc' := 68) (l' := #[.val (.int p1), .val (.int p2), .val (.int p3), .val (.int p4), .val (.int p5), .val (.ref b1), .val (.ref b3), .val (.ref b5), .val (.ref b7), .val (.int (1 : Int32)), .val (.int (1 : Int32)), .val (.int (0 : Int32)), .val (.ref b56), .unset, .unset, .unset]) at_66 rfl rfl rfl ?_
        refine w_iload X58 (pc' := 70) at_68 rfl rfl ?_
        refine w_if_ne X58 78 73 at_70 (by decide) rfl rfl (fun hc70 => ?_) (fun hc70 => by exfalso; revert hc70; decide)
        refine w_iload X58 (pc' := 80) at_78 rfl rfl ?_
        refine w_iconst X58 (pc' := 81) (1 : Int32) at_80 rfl rfl ?_
        refine w_icmp_lt X58 93 84 at_81 (by decide) rfl rfl (fun hc81 => by exfalso; revert hc81; decide) (fun hc81 => ?_)
        refine w_aload X58 (pc' := 86) at_84 rfl rfl rfl ?_
        refine w_aload X58 (pc' := 88) at_86 rfl rfl rfl ?_
        refine w_ldcW X58 F7_59 (pc' := 90) (text := "v0") [(118 : Int32), (48 : Int32)] 8 at_88 (hw _ (List.mem_of_getElem? (i := 83) rfl)) (own_wS hw) (own_hEL hw) (List.mem_of_getElem? (i := 1) rfl) (by decide) (by decide) (by decide) (by decide) (by decide) (by decide) rfl fun T60 h60 vm60 a60 X60 F60 E60 S60 => ?_
        have S1_61 := S1_59.ext E60
        have S3_61 := S3_59.ext E60
        have S5_61 := S5_59.ext E60
        have S7_61 := S7_59.ext E60
        have B58_61 := B58.ext E60
        refine w_virtualN X60 (pc' := 93) at_90 (rm_push hw (h0 := h60) (sd_size X60) b56 b1 a60 B58_61 (show 0 < 8 by decide) S1_61 S60) (hw _ (List.mem_of_getElem? (i := 84) rfl)) (hw _ (List.mem_of_getElem? (i := 85) rfl)) (hw _ (List.mem_of_getElem? (i := 87) rfl)) (hw _ (List.mem_of_getElem? (i := 86) rfl)) (hw _ (List.mem_of_getElem? (i := 57) rfl)) (hw _ (List.mem_of_getElem? (i := 88) rfl)) B58_61.exa (by decide) [(.ref b1), (.ref a60)] [] pd_16 rfl rfl rfl rfl 0 (Nat.le_refl _) (by decide) (by decide) (by decide) (by decide) rfl fun T62 h62 X62 q62 => ?_
        obtain ⟨⟨ws62, K62, P62⟩, B62⟩ := q62
        have S1_63 := S1_61.keep K62 P62
        have S3_63 := S3_61.keep K62 P62
        have S5_63 := S5_61.keep K62 P62
        have S7_63 := S7_61.keep K62 P62
        have F60_63 := F60.kp X62 K62 P62
        replace B62 : BD Z n0 h62 b56 [(bs1, [(118 : Int32), (48 : Int32)])] 1 0 0 := B62
        refine w_iload X62 (pc' := 95) at_93 rfl rfl ?_
        refine w_iconst X62 (pc' := 96) (1 : Int32) at_95 rfl rfl ?_
        refine w_icmp_ne X62 104 99 at_96 (by decide) rfl rfl (fun hc96 => by exfalso; revert hc96; decide) (fun hc96 => ?_)
        refine w_aload X62 (pc' := 101) at_99 rfl rfl rfl ?_
        refine w_virtualN X62 (pc' := 104) at_101 (rm_open hw (h0 := h62) (sd_size X62) b56 B62) (hw _ (List.mem_of_getElem? (i := 69) rfl)) (hw _ (List.mem_of_getElem? (i := 70) rfl)) (hw _ (List.mem_of_getElem? (i := 72) rfl)) (hw _ (List.mem_of_getElem? (i := 71) rfl)) (hw _ (List.mem_of_getElem? (i := 57) rfl)) (hw _ (List.mem_of_getElem? (i := 73) rfl)) B62.exa (by decide) [] [] pd_14 rfl rfl rfl rfl 0 (Nat.le_refl _) (by decide) (by decide) (by decide) (by decide) rfl fun T64 h64 X64 q64 => ?_
        obtain ⟨⟨ws64, K64, P64⟩, B64⟩ := q64
        have S1_65 := S1_63.keep K64 P64
        have S3_65 := S3_63.keep K64 P64
        have S5_65 := S5_63.keep K64 P64
        have S7_65 := S7_63.keep K64 P64
        have F60_65 := F60_63.kp X64 K64 P64
        replace B64 : BD Z n0 h64 b56 [(bs1, [(118 : Int32), (48 : Int32)])] 1 1 1 := B64
        refine w_iload X64 (pc' := 106) at_104 rfl rfl ?_
        refine w_iconst X64 (pc' := 107) (2 : Int32) at_106 rfl rfl ?_
        refine w_icmp_lt X64 119 110 at_107 (by decide) rfl rfl (fun hc107 => ?_) (fun hc107 => by exfalso; revert hc107; decide)
        refine w_iload X64 (pc' := 121) at_119 rfl rfl ?_
        refine w_iconst X64 (pc' := 122) (2 : Int32) at_121 rfl rfl ?_
        refine w_icmp_ne X64 130 125 at_122 (by decide) rfl rfl (fun hc122 => ?_) (fun hc122 => by exfalso; revert hc122; decide)
        refine w_iload X64 (pc' := 132) at_130 rfl rfl ?_
        refine w_iconst X64 (pc' := 133) (3 : Int32) at_132 rfl rfl ?_
        refine w_icmp_lt X64 145 136 at_133 (by decide) rfl rfl (fun hc133 => ?_) (fun hc133 => by exfalso; revert hc133; decide)
        refine w_iload X64 (pc' := 147) at_145 rfl rfl ?_
        refine w_iconst X64 (pc' := 148) (3 : Int32) at_147 rfl rfl ?_
        refine w_icmp_ne X64 156 151 at_148 (by decide) rfl rfl (fun hc148 => ?_) (fun hc148 => by exfalso; revert hc148; decide)
        refine w_iload X64 (pc' := 158) at_156 rfl rfl ?_
        refine w_if_eq X64 166 161 at_158 (by decide) rfl rfl (fun hc158 => ?_) (fun hc158 => by exfalso; revert hc158; decide)
        refine w_iload X64 (pc' := 168) at_166 rfl rfl ?_
        refine w_if_eq X64 176 171 at_168 (by decide) rfl rfl (fun hc168 => ?_) (fun hc168 => by exfalso; revert hc168; decide)
        refine w_iload X64 (pc' := 178) at_176 rfl rfl ?_
        refine w_istore X64 (pc' := 180) (l' := #[.val (.int p1), .val (.int p2), .val (.int p3), .val (.int p4), .val (.int p5), .val (.ref b1), .val (.ref b3), .val (.ref b5), .val (.ref b7), .val (.int (1 : Int32)), .val (.int (1 : Int32)), .val (.int (0 : Int32)), .val (.ref b56), .val (.int (1 : Int32)), .unset, .unset]) at_178 rfl rfl ?_
        refine w_aconst_null X64 (pc' := 181) at_180 rfl ?_
        refine w_astore X64 (pc' := 183) (l' := #[.val (.int p1), .val (.int p2), .val (.int p3), .val (.int p4), .val (.int p5), .val (.ref b1), .val (.ref b3), .val (.ref b5), .val (.ref b7), .val (.int (1 : Int32)), .val (.int (1 : Int32)), .val (.int (0 : Int32)), .val (.ref b56), .val (.int (1 : Int32)), .val .null, .unset]) at_181 rfl rfl rfl ?_
        refine w_iload X64 (pc' := 185) at_183 rfl rfl ?_
        refine w_iconst X64 (pc' := 186) (3 : Int32) at_185 rfl rfl ?_
        refine w_icmp_lt X64 206 189 at_186 (by decide) rfl rfl (fun hc186 => ?_) (fun hc186 => by exfalso; revert hc186; decide)
        refine w_iload X64 (pc' := 208) at_206 rfl rfl ?_
        refine w_iconst X64 (pc' := 209) (2 : Int32) at_208 rfl rfl ?_
        refine w_icmp_lt X64 229 212 at_209 (by decide) rfl rfl (fun hc209 => ?_) (fun hc209 => by exfalso; revert hc209; decide)
        refine w_iload X64 (pc' := 231) at_229 rfl rfl ?_
        refine w_iconst X64 (pc' := 232) (1 : Int32) at_231 rfl rfl ?_
        refine w_icmp_lt X64 249 235 at_232 (by decide) rfl rfl (fun hc232 => by exfalso; revert hc232; decide) (fun hc232 => ?_)
        refine w_aload X64 (pc' := 237) at_235 rfl rfl rfl ?_
        refine w_aload X64 (pc' := 239) at_237 rfl rfl rfl ?_
        refine w_virtualV X64 (pc' := 242) at_239 (rm_eq hw (h0 := h64) (sd_size X64) b1 b7 S1_65 S7_65 (Sta.ext (sd_ext X64 hs0 Zn) S_c) hzc) (hw _ (List.mem_of_getElem? (i := 91) rfl)) (hw _ (List.mem_of_getElem? (i := 92) rfl)) (hw _ (List.mem_of_getElem? (i := 94) rfl)) (hw _ (List.mem_of_getElem? (i := 93) rfl)) (hw _ (List.mem_of_getElem? (i := 5) rfl)) (hw _ (List.mem_of_getElem? (i := 95) rfl)) S1_65.exa (by decide) [(.ref b7)] [] pd_17 rfl rfl rfl rfl 0 (Nat.le_refl _) (by decide) (by decide) (by decide) (by decide) rfl fun T66 h66 v66 X66 q66 => ?_
        obtain ⟨rfl, rfl⟩ := q66
        refine w_if_eq X66 249 245 at_242 (by decide) rfl rfl (fun hc242 => ?_) (fun hc242 => ?_)
        · skip
          refine w_aload X66 (pc' := 251) at_249 rfl rfl rfl ?_
          refine w_aload X66 (pc' := 253) at_251 rfl rfl rfl ?_
          refine w_virtualV X66 (pc' := 256) at_253 (rm_vo1 hw (h0 := h64) (sd_size X66) b56 b7 B64 (show 1 ≤ 1 by decide) S7_65 (Sta.ext (sd_ext X66 hs0 Zn) S_c) hzc) (hw _ (List.mem_of_getElem? (i := 78) rfl)) (hw _ (List.mem_of_getElem? (i := 79) rfl)) (hw _ (List.mem_of_getElem? (i := 81) rfl)) (hw _ (List.mem_of_getElem? (i := 80) rfl)) (hw _ (List.mem_of_getElem? (i := 57) rfl)) (hw _ (List.mem_of_getElem? (i := 82) rfl)) B64.exa (by decide) [(.ref b7)] [] pd_15 rfl rfl rfl rfl 0 (Nat.le_refl _) (by decide) (by decide) (by decide) (by decide) rfl fun T67 h67 v67 X67 q67 => ?_
          have hv : own_val [(bs1, [(118 : Int32), (48 : Int32)])] bs7 1 = none := (own_vn (es := [(bs1, [(118 : Int32), (48 : Int32)])]) (q := bs7) 0 (show ¬ bs1 = bs7 from own_if0 hc242)).trans (rfl)
          obtain ⟨hq, rfl⟩ := q67
          rcases hq with ⟨rfl, -⟩ | ⟨r, bs, rfl, Sr, hr⟩
          rotate_left
          · exact absurd (hr.symm.trans hv) (by simp)
          refine w_astore X67 (pc' := 258) (l' := #[.val (.int p1), .val (.int p2), .val (.int p3), .val (.int p4), .val (.int p5), .val (.ref b1), .val (.ref b3), .val (.ref b5), .val (.ref b7), .val (.int (1 : Int32)), .val (.int (1 : Int32)), .val (.int (0 : Int32)), .val (.ref b56), .val (.int (1 : Int32)), .val .null, .val .null]) at_256 rfl rfl rfl ?_
          refine w_aload X67 (pc' := 260) at_258 rfl rfl rfl ?_
          refine w_ifnonnullN X67 (pc' := 263) at_260 rfl ?_
          refine w_aload X67 (pc' := 265) at_263 rfl rfl rfl ?_
          refine w_ifnonnullN X67 (pc' := 268) at_265 rfl ?_
          refine w_iconst X67 (pc' := 269) (1 : Int32) at_268 rfl rfl ?_
          refine w_goto X67 (pc' := 273) at_269 (by decide) rfl ?_
          exact w_zreturnW X67 F60_65 (own_hEL hw) at_273 rfl (by decide) (by decide)
        · skip
          refine w_ldcW X66 F60_65 (pc' := 247) (text := "v0") [(118 : Int32), (48 : Int32)] 8 at_245 (hw _ (List.mem_of_getElem? (i := 83) rfl)) (own_wS hw) (own_hEL hw) (List.mem_of_getElem? (i := 1) rfl) (by decide) (by decide) (by decide) (by decide) (by decide) (by decide) rfl fun T68 h68 vm68 a68 X68 F68 E68 S68 => ?_
          have S1_69 := S1_65.ext E68
          have S3_69 := S3_65.ext E68
          have S5_69 := S5_65.ext E68
          have S7_69 := S7_65.ext E68
          have B64_69 := B64.ext E68
          refine w_astore X68 (pc' := 249) (l' := #[.val (.int p1), .val (.int p2), .val (.int p3), .val (.int p4), .val (.int p5), .val (.ref b1), .val (.ref b3), .val (.ref b5), .val (.ref b7), .val (.int (1 : Int32)), .val (.int (1 : Int32)), .val (.int (0 : Int32)), .val (.ref b56), .val (.int (1 : Int32)), .val (.ref a68), .unset]) at_247 rfl rfl rfl ?_
          refine w_aload X68 (pc' := 251) at_249 rfl rfl rfl ?_
          refine w_aload X68 (pc' := 253) at_251 rfl rfl rfl ?_
          refine w_virtualV X68 (pc' := 256) at_253 (rm_vo1 hw (h0 := h68) (sd_size X68) b56 b7 B64_69 (show 1 ≤ 1 by decide) S7_69 (Sta.ext (sd_ext X68 hs0 Zn) S_c) hzc) (hw _ (List.mem_of_getElem? (i := 78) rfl)) (hw _ (List.mem_of_getElem? (i := 79) rfl)) (hw _ (List.mem_of_getElem? (i := 81) rfl)) (hw _ (List.mem_of_getElem? (i := 80) rfl)) (hw _ (List.mem_of_getElem? (i := 57) rfl)) (hw _ (List.mem_of_getElem? (i := 82) rfl)) B64_69.exa (by decide) [(.ref b7)] [] pd_15 rfl rfl rfl rfl 0 (Nat.le_refl _) (by decide) (by decide) (by decide) (by decide) rfl fun T70 h70 v70 X70 q70 => ?_
          have hv : own_val [(bs1, [(118 : Int32), (48 : Int32)])] bs7 1 = some [(118 : Int32), (48 : Int32)] := own_vp (es := [(bs1, [(118 : Int32), (48 : Int32)])]) (q := bs7) 0 (show bs1 = bs7 from own_if1 hc242)
          obtain ⟨hq, rfl⟩ := q70
          rcases hq with ⟨rfl, hr⟩ | ⟨r, bs, rfl, Sr, hr⟩
          · exact absurd (hr.symm.trans hv) (by simp)
          obtain rfl : bs = [(118 : Int32), (48 : Int32)] := Option.some.inj (hr.symm.trans hv)
          refine w_astore X70 (pc' := 258) (l' := #[.val (.int p1), .val (.int p2), .val (.int p3), .val (.int p4), .val (.int p5), .val (.ref b1), .val (.ref b3), .val (.ref b5), .val (.ref b7), .val (.int (1 : Int32)), .val (.int (1 : Int32)), .val (.int (0 : Int32)), .val (.ref b56), .val (.int (1 : Int32)), .val (.ref a68), .val (.ref r)]) at_256 rfl rfl rfl ?_
          refine w_aload X70 (pc' := 260) at_258 rfl rfl rfl ?_
          refine w_ifnonnullY X70 (pc' := 274) at_260 (by decide) rfl ?_
          refine w_aload X70 (pc' := 276) at_274 rfl rfl rfl ?_
          refine w_aload X70 (pc' := 278) at_276 rfl rfl rfl ?_
          refine w_virtualV X70 (pc' := 281) at_278 (rm_eq hw (h0 := h68) (sd_size X70) a68 r S68 Sr (Sta.ext (sd_ext X70 hs0 Zn) S_c) hzc) (hw _ (List.mem_of_getElem? (i := 91) rfl)) (hw _ (List.mem_of_getElem? (i := 92) rfl)) (hw _ (List.mem_of_getElem? (i := 94) rfl)) (hw _ (List.mem_of_getElem? (i := 93) rfl)) (hw _ (List.mem_of_getElem? (i := 5) rfl)) (hw _ (List.mem_of_getElem? (i := 95) rfl)) S68.exa (by decide) [(.ref r)] [] pd_17 rfl rfl rfl rfl 0 (Nat.le_refl _) (by decide) (by decide) (by decide) (by decide) rfl fun T71 h71 v71 X71 q71 => ?_
          obtain ⟨rfl, rfl⟩ := q71
          exact w_zreturnW X71 F68 (own_hEL hw) at_281 (by rw [if_pos rfl]; rfl) (by decide) (by decide)
      · skip
        refine w_iconst X26 (pc' := 53) (1 : Int32) at_52 rfl rfl ?_
        refine w_goto X26 (pc' := 57) at_53 (by decide) rfl ?_
        refine w_istore X26 (pc' := 59) (l' := #[.val (.int p1), .val (.int p2), .val (.int p3), .val (.int p4), .val (.int p5), .val (.ref b1), .val (.ref b3), .val (.ref b5), .val (.ref b7), .val (.int (1 : Int32)), .val (.int (1 : Int32)), .val (.int (1 : Int32)), .unset, .unset, .unset, .unset]) at_57 rfl rfl ?_
        refine w_new X26 (pc' := 62) at_59 (hw _ (List.mem_of_getElem? (i := 55) rfl)) (hw _ (List.mem_of_getElem? (i := 56) rfl)) (hw _ (List.mem_of_getElem? (i := 57) rfl)) (by decide) (by decide) rfl fun T72 h72 b72 g72 gn72 X72 E72 A72 D72 => ?_
        have sf_b72 := F7.safe_new E72 g72
        have S1_73 := S1_8.ext E72
        have S3_73 := S3_8.ext E72
        have S5_73 := S5_8.ext E72
        have S7_73 := S7.ext E72
        have F7_73 := F7.ext E72
        have Fpairs_72 : Fld Z h72 b72 "com/example/raja/raja/xml/CanonicalWriter$Bindings" "pairs" "[Ljava/lang/String;" .null := D72 (Or.inl (hw _ (List.mem_of_getElem? (i := 65) rfl))) (ty := (.array (.object "java/lang/String"))) (by decide)
        have Fmarks_72 : Fld Z h72 b72 "com/example/raja/raja/xml/CanonicalWriter$Bindings" "marks" "[I" .null := D72 (Or.inl (hw _ (List.mem_of_getElem? (i := 68) rfl))) (ty := (.array .int)) (by decide)
        have Fdepth_72 : Fld Z h72 b72 "com/example/raja/raja/xml/CanonicalWriter$Bindings" "depth" "I" (.int (0 : Int32)) := D72 (Or.inl (hw _ (List.mem_of_getElem? (i := 75) rfl))) (ty := .int) (by decide)
        have Fsize_72 : Fld Z h72 b72 "com/example/raja/raja/xml/CanonicalWriter$Bindings" "size" "I" (.int (0 : Int32)) := D72 (Or.inl (hw _ (List.mem_of_getElem? (i := 77) rfl))) (ty := .int) (by decide)
        refine w_dup X72 (pc' := 63) at_62 rfl rfl ?_
        refine w_specialN X72 (pc' := 66) at_63 (rm_init hw (h0 := h72) (sd_size X72) b72 A72 Fpairs_72 Fmarks_72 Fsize_72 Fdepth_72 gn72) (hw _ (List.mem_of_getElem? (i := 58) rfl)) (hw _ (List.mem_of_getElem? (i := 59) rfl)) (hw _ (List.mem_of_getElem? (i := 57) rfl)) (hw _ (List.mem_of_getElem? (i := 60) rfl)) rfl (by decide) [] [(.ref b72)] pd_13 rfl rfl rfl rfl 1 (Nat.le_refl _) (by decide) (by decide) (by decide) (by decide) rfl fun T74 h74 X74 q74 => ?_
        obtain ⟨K74, B74⟩ := q74
        have S1_75 := S1_73.keep K74 (ap1 (Apart.obj A72 (hw _ (List.mem_of_getElem? (i := 56) rfl)) (by decide) (by decide)))
        have S3_75 := S3_73.keep K74 (ap1 (Apart.obj A72 (hw _ (List.mem_of_getElem? (i := 56) rfl)) (by decide) (by decide)))
        have S5_75 := S5_73.keep K74 (ap1 (Apart.obj A72 (hw _ (List.mem_of_getElem? (i := 56) rfl)) (by decide) (by decide)))
        have S7_75 := S7_73.keep K74 (ap1 (Apart.obj A72 (hw _ (List.mem_of_getElem? (i := 56) rfl)) (by decide) (by decide)))
        have F7_75 := F7_73.kp X74 K74 (ap1 (Apart.obj A72 (hw _ (List.mem_of_getElem? (i := 56) rfl)) (by decide) (by decide)))
        have A72_75 := A72.keep K74
        refine w_astore X74 (pc' := 68) (l' := #[.val (.int p1), .val (.int p2), .val (.int p3), .val (.int p4), .val (.int p5), .val (.ref b1), .val (.ref b3), .val (.ref b5), .val (.ref b7), .val (.int (1 : Int32)), .val (.int (1 : Int32)), .val (.int (1 : Int32)), .val (.ref b72), .unset, .unset, .unset]) at_66 rfl rfl rfl ?_
        refine w_iload X74 (pc' := 70) at_68 rfl rfl ?_
        refine w_if_ne X74 78 73 at_70 (by decide) rfl rfl (fun hc70 => ?_) (fun hc70 => by exfalso; revert hc70; decide)
        refine w_iload X74 (pc' := 80) at_78 rfl rfl ?_
        refine w_iconst X74 (pc' := 81) (1 : Int32) at_80 rfl rfl ?_
        refine w_icmp_lt X74 93 84 at_81 (by decide) rfl rfl (fun hc81 => by exfalso; revert hc81; decide) (fun hc81 => ?_)
        refine w_aload X74 (pc' := 86) at_84 rfl rfl rfl ?_
        refine w_aload X74 (pc' := 88) at_86 rfl rfl rfl ?_
        refine w_ldcW X74 F7_75 (pc' := 90) (text := "v0") [(118 : Int32), (48 : Int32)] 8 at_88 (hw _ (List.mem_of_getElem? (i := 83) rfl)) (own_wS hw) (own_hEL hw) (List.mem_of_getElem? (i := 1) rfl) (by decide) (by decide) (by decide) (by decide) (by decide) (by decide) rfl fun T76 h76 vm76 a76 X76 F76 E76 S76 => ?_
        have S1_77 := S1_75.ext E76
        have S3_77 := S3_75.ext E76
        have S5_77 := S5_75.ext E76
        have S7_77 := S7_75.ext E76
        have B74_77 := B74.ext E76
        refine w_virtualN X76 (pc' := 93) at_90 (rm_push hw (h0 := h76) (sd_size X76) b72 b1 a76 B74_77 (show 0 < 8 by decide) S1_77 S76) (hw _ (List.mem_of_getElem? (i := 84) rfl)) (hw _ (List.mem_of_getElem? (i := 85) rfl)) (hw _ (List.mem_of_getElem? (i := 87) rfl)) (hw _ (List.mem_of_getElem? (i := 86) rfl)) (hw _ (List.mem_of_getElem? (i := 57) rfl)) (hw _ (List.mem_of_getElem? (i := 88) rfl)) B74_77.exa (by decide) [(.ref b1), (.ref a76)] [] pd_16 rfl rfl rfl rfl 0 (Nat.le_refl _) (by decide) (by decide) (by decide) (by decide) rfl fun T78 h78 X78 q78 => ?_
        obtain ⟨⟨ws78, K78, P78⟩, B78⟩ := q78
        have S1_79 := S1_77.keep K78 P78
        have S3_79 := S3_77.keep K78 P78
        have S5_79 := S5_77.keep K78 P78
        have S7_79 := S7_77.keep K78 P78
        have F76_79 := F76.kp X78 K78 P78
        replace B78 : BD Z n0 h78 b72 [(bs1, [(118 : Int32), (48 : Int32)])] 1 0 0 := B78
        refine w_iload X78 (pc' := 95) at_93 rfl rfl ?_
        refine w_iconst X78 (pc' := 96) (1 : Int32) at_95 rfl rfl ?_
        refine w_icmp_ne X78 104 99 at_96 (by decide) rfl rfl (fun hc96 => by exfalso; revert hc96; decide) (fun hc96 => ?_)
        refine w_aload X78 (pc' := 101) at_99 rfl rfl rfl ?_
        refine w_virtualN X78 (pc' := 104) at_101 (rm_open hw (h0 := h78) (sd_size X78) b72 B78) (hw _ (List.mem_of_getElem? (i := 69) rfl)) (hw _ (List.mem_of_getElem? (i := 70) rfl)) (hw _ (List.mem_of_getElem? (i := 72) rfl)) (hw _ (List.mem_of_getElem? (i := 71) rfl)) (hw _ (List.mem_of_getElem? (i := 57) rfl)) (hw _ (List.mem_of_getElem? (i := 73) rfl)) B78.exa (by decide) [] [] pd_14 rfl rfl rfl rfl 0 (Nat.le_refl _) (by decide) (by decide) (by decide) (by decide) rfl fun T80 h80 X80 q80 => ?_
        obtain ⟨⟨ws80, K80, P80⟩, B80⟩ := q80
        have S1_81 := S1_79.keep K80 P80
        have S3_81 := S3_79.keep K80 P80
        have S5_81 := S5_79.keep K80 P80
        have S7_81 := S7_79.keep K80 P80
        have F76_81 := F76_79.kp X80 K80 P80
        replace B80 : BD Z n0 h80 b72 [(bs1, [(118 : Int32), (48 : Int32)])] 1 1 1 := B80
        refine w_iload X80 (pc' := 106) at_104 rfl rfl ?_
        refine w_iconst X80 (pc' := 107) (2 : Int32) at_106 rfl rfl ?_
        refine w_icmp_lt X80 119 110 at_107 (by decide) rfl rfl (fun hc107 => ?_) (fun hc107 => by exfalso; revert hc107; decide)
        refine w_iload X80 (pc' := 121) at_119 rfl rfl ?_
        refine w_iconst X80 (pc' := 122) (2 : Int32) at_121 rfl rfl ?_
        refine w_icmp_ne X80 130 125 at_122 (by decide) rfl rfl (fun hc122 => ?_) (fun hc122 => by exfalso; revert hc122; decide)
        refine w_iload X80 (pc' := 132) at_130 rfl rfl ?_
        refine w_iconst X80 (pc' := 133) (3 : Int32) at_132 rfl rfl ?_
        refine w_icmp_lt X80 145 136 at_133 (by decide) rfl rfl (fun hc133 => ?_) (fun hc133 => by exfalso; revert hc133; decide)
        refine w_iload X80 (pc' := 147) at_145 rfl rfl ?_
        refine w_iconst X80 (pc' := 148) (3 : Int32) at_147 rfl rfl ?_
        refine w_icmp_ne X80 156 151 at_148 (by decide) rfl rfl (fun hc148 => ?_) (fun hc148 => by exfalso; revert hc148; decide)
        refine w_iload X80 (pc' := 158) at_156 rfl rfl ?_
        refine w_if_eq X80 166 161 at_158 (by decide) rfl rfl (fun hc158 => by exfalso; revert hc158; decide) (fun hc158 => ?_)
        refine w_aload X80 (pc' := 163) at_161 rfl rfl rfl ?_
        refine w_virtualN X80 (pc' := 166) at_163 (rm_close hw (h0 := h80) (sd_size X80) b72 B80) (hw _ (List.mem_of_getElem? (i := 100) rfl)) (hw _ (List.mem_of_getElem? (i := 101) rfl)) (hw _ (List.mem_of_getElem? (i := 103) rfl)) (hw _ (List.mem_of_getElem? (i := 102) rfl)) (hw _ (List.mem_of_getElem? (i := 57) rfl)) (hw _ (List.mem_of_getElem? (i := 104) rfl)) B80.exa (by decide) [] [] pd_19 rfl rfl rfl rfl 0 (Nat.le_refl _) (by decide) (by decide) (by decide) (by decide) rfl fun T82 h82 X82 q82 => ?_
        obtain ⟨⟨ws82, K82, P82⟩, B82⟩ := q82
        have S1_83 := S1_81.keep K82 P82
        have S3_83 := S3_81.keep K82 P82
        have S5_83 := S5_81.keep K82 P82
        have S7_83 := S7_81.keep K82 P82
        have F76_83 := F76_81.kp X82 K82 P82
        replace B82 : BD Z n0 h82 b72 [(bs1, [(118 : Int32), (48 : Int32)])] 1 0 1 := B82
        refine w_iload X82 (pc' := 168) at_166 rfl rfl ?_
        refine w_if_eq X82 176 171 at_168 (by decide) rfl rfl (fun hc168 => by exfalso; revert hc168; decide) (fun hc168 => ?_)
        refine w_iload X82 (pc' := 173) at_171 rfl rfl ?_
        refine w_goto X82 (pc' := 178) at_173 (by decide) rfl ?_
        refine w_istore X82 (pc' := 180) (l' := #[.val (.int p1), .val (.int p2), .val (.int p3), .val (.int p4), .val (.int p5), .val (.ref b1), .val (.ref b3), .val (.ref b5), .val (.ref b7), .val (.int (1 : Int32)), .val (.int (1 : Int32)), .val (.int (1 : Int32)), .val (.ref b72), .val (.int (1 : Int32)), .unset, .unset]) at_178 rfl rfl ?_
        refine w_aconst_null X82 (pc' := 181) at_180 rfl ?_
        refine w_astore X82 (pc' := 183) (l' := #[.val (.int p1), .val (.int p2), .val (.int p3), .val (.int p4), .val (.int p5), .val (.ref b1), .val (.ref b3), .val (.ref b5), .val (.ref b7), .val (.int (1 : Int32)), .val (.int (1 : Int32)), .val (.int (1 : Int32)), .val (.ref b72), .val (.int (1 : Int32)), .val .null, .unset]) at_181 rfl rfl rfl ?_
        refine w_iload X82 (pc' := 185) at_183 rfl rfl ?_
        refine w_iconst X82 (pc' := 186) (3 : Int32) at_185 rfl rfl ?_
        refine w_icmp_lt X82 206 189 at_186 (by decide) rfl rfl (fun hc186 => ?_) (fun hc186 => by exfalso; revert hc186; decide)
        refine w_iload X82 (pc' := 208) at_206 rfl rfl ?_
        refine w_iconst X82 (pc' := 209) (2 : Int32) at_208 rfl rfl ?_
        refine w_icmp_lt X82 229 212 at_209 (by decide) rfl rfl (fun hc209 => ?_) (fun hc209 => by exfalso; revert hc209; decide)
        refine w_iload X82 (pc' := 231) at_229 rfl rfl ?_
        refine w_iconst X82 (pc' := 232) (1 : Int32) at_231 rfl rfl ?_
        refine w_icmp_lt X82 249 235 at_232 (by decide) rfl rfl (fun hc232 => by exfalso; revert hc232; decide) (fun hc232 => ?_)
        refine w_aload X82 (pc' := 237) at_235 rfl rfl rfl ?_
        refine w_aload X82 (pc' := 239) at_237 rfl rfl rfl ?_
        refine w_virtualV X82 (pc' := 242) at_239 (rm_eq hw (h0 := h82) (sd_size X82) b1 b7 S1_83 S7_83 (Sta.ext (sd_ext X82 hs0 Zn) S_c) hzc) (hw _ (List.mem_of_getElem? (i := 91) rfl)) (hw _ (List.mem_of_getElem? (i := 92) rfl)) (hw _ (List.mem_of_getElem? (i := 94) rfl)) (hw _ (List.mem_of_getElem? (i := 93) rfl)) (hw _ (List.mem_of_getElem? (i := 5) rfl)) (hw _ (List.mem_of_getElem? (i := 95) rfl)) S1_83.exa (by decide) [(.ref b7)] [] pd_17 rfl rfl rfl rfl 0 (Nat.le_refl _) (by decide) (by decide) (by decide) (by decide) rfl fun T84 h84 v84 X84 q84 => ?_
        obtain ⟨rfl, rfl⟩ := q84
        refine w_if_eq X84 249 245 at_242 (by decide) rfl rfl (fun hc242 => ?_) (fun hc242 => ?_)
        · skip
          refine w_aload X84 (pc' := 251) at_249 rfl rfl rfl ?_
          refine w_aload X84 (pc' := 253) at_251 rfl rfl rfl ?_
          refine w_virtualV X84 (pc' := 256) at_253 (rm_vo1 hw (h0 := h82) (sd_size X84) b72 b7 B82 (show 1 ≤ 1 by decide) S7_83 (Sta.ext (sd_ext X84 hs0 Zn) S_c) hzc) (hw _ (List.mem_of_getElem? (i := 78) rfl)) (hw _ (List.mem_of_getElem? (i := 79) rfl)) (hw _ (List.mem_of_getElem? (i := 81) rfl)) (hw _ (List.mem_of_getElem? (i := 80) rfl)) (hw _ (List.mem_of_getElem? (i := 57) rfl)) (hw _ (List.mem_of_getElem? (i := 82) rfl)) B82.exa (by decide) [(.ref b7)] [] pd_15 rfl rfl rfl rfl 0 (Nat.le_refl _) (by decide) (by decide) (by decide) (by decide) rfl fun T85 h85 v85 X85 q85 => ?_
          have hv : own_val [(bs1, [(118 : Int32), (48 : Int32)])] bs7 1 = none := (own_vn (es := [(bs1, [(118 : Int32), (48 : Int32)])]) (q := bs7) 0 (show ¬ bs1 = bs7 from own_if0 hc242)).trans (rfl)
          obtain ⟨hq, rfl⟩ := q85
          rcases hq with ⟨rfl, -⟩ | ⟨r, bs, rfl, Sr, hr⟩
          rotate_left
          · exact absurd (hr.symm.trans hv) (by simp)
          refine w_astore X85 (pc' := 258) (l' := #[.val (.int p1), .val (.int p2), .val (.int p3), .val (.int p4), .val (.int p5), .val (.ref b1), .val (.ref b3), .val (.ref b5), .val (.ref b7), .val (.int (1 : Int32)), .val (.int (1 : Int32)), .val (.int (1 : Int32)), .val (.ref b72), .val (.int (1 : Int32)), .val .null, .val .null]) at_256 rfl rfl rfl ?_
          refine w_aload X85 (pc' := 260) at_258 rfl rfl rfl ?_
          refine w_ifnonnullN X85 (pc' := 263) at_260 rfl ?_
          refine w_aload X85 (pc' := 265) at_263 rfl rfl rfl ?_
          refine w_ifnonnullN X85 (pc' := 268) at_265 rfl ?_
          refine w_iconst X85 (pc' := 269) (1 : Int32) at_268 rfl rfl ?_
          refine w_goto X85 (pc' := 273) at_269 (by decide) rfl ?_
          exact w_zreturnW X85 F76_83 (own_hEL hw) at_273 rfl (by decide) (by decide)
        · skip
          refine w_ldcW X84 F76_83 (pc' := 247) (text := "v0") [(118 : Int32), (48 : Int32)] 8 at_245 (hw _ (List.mem_of_getElem? (i := 83) rfl)) (own_wS hw) (own_hEL hw) (List.mem_of_getElem? (i := 1) rfl) (by decide) (by decide) (by decide) (by decide) (by decide) (by decide) rfl fun T86 h86 vm86 a86 X86 F86 E86 S86 => ?_
          have S1_87 := S1_83.ext E86
          have S3_87 := S3_83.ext E86
          have S5_87 := S5_83.ext E86
          have S7_87 := S7_83.ext E86
          have B82_87 := B82.ext E86
          refine w_astore X86 (pc' := 249) (l' := #[.val (.int p1), .val (.int p2), .val (.int p3), .val (.int p4), .val (.int p5), .val (.ref b1), .val (.ref b3), .val (.ref b5), .val (.ref b7), .val (.int (1 : Int32)), .val (.int (1 : Int32)), .val (.int (1 : Int32)), .val (.ref b72), .val (.int (1 : Int32)), .val (.ref a86), .unset]) at_247 rfl rfl rfl ?_
          refine w_aload X86 (pc' := 251) at_249 rfl rfl rfl ?_
          refine w_aload X86 (pc' := 253) at_251 rfl rfl rfl ?_
          refine w_virtualV X86 (pc' := 256) at_253 (rm_vo1 hw (h0 := h86) (sd_size X86) b72 b7 B82_87 (show 1 ≤ 1 by decide) S7_87 (Sta.ext (sd_ext X86 hs0 Zn) S_c) hzc) (hw _ (List.mem_of_getElem? (i := 78) rfl)) (hw _ (List.mem_of_getElem? (i := 79) rfl)) (hw _ (List.mem_of_getElem? (i := 81) rfl)) (hw _ (List.mem_of_getElem? (i := 80) rfl)) (hw _ (List.mem_of_getElem? (i := 57) rfl)) (hw _ (List.mem_of_getElem? (i := 82) rfl)) B82_87.exa (by decide) [(.ref b7)] [] pd_15 rfl rfl rfl rfl 0 (Nat.le_refl _) (by decide) (by decide) (by decide) (by decide) rfl fun T88 h88 v88 X88 q88 => ?_
          have hv : own_val [(bs1, [(118 : Int32), (48 : Int32)])] bs7 1 = some [(118 : Int32), (48 : Int32)] := own_vp (es := [(bs1, [(118 : Int32), (48 : Int32)])]) (q := bs7) 0 (show bs1 = bs7 from own_if1 hc242)
          obtain ⟨hq, rfl⟩ := q88
          rcases hq with ⟨rfl, hr⟩ | ⟨r, bs, rfl, Sr, hr⟩
          · exact absurd (hr.symm.trans hv) (by simp)
          obtain rfl : bs = [(118 : Int32), (48 : Int32)] := Option.some.inj (hr.symm.trans hv)
          refine w_astore X88 (pc' := 258) (l' := #[.val (.int p1), .val (.int p2), .val (.int p3), .val (.int p4), .val (.int p5), .val (.ref b1), .val (.ref b3), .val (.ref b5), .val (.ref b7), .val (.int (1 : Int32)), .val (.int (1 : Int32)), .val (.int (1 : Int32)), .val (.ref b72), .val (.int (1 : Int32)), .val (.ref a86), .val (.ref r)]) at_256 rfl rfl rfl ?_
          refine w_aload X88 (pc' := 260) at_258 rfl rfl rfl ?_
          refine w_ifnonnullY X88 (pc' := 274) at_260 (by decide) rfl ?_
          refine w_aload X88 (pc' := 276) at_274 rfl rfl rfl ?_
          refine w_aload X88 (pc' := 278) at_276 rfl rfl rfl ?_
          refine w_virtualV X88 (pc' := 281) at_278 (rm_eq hw (h0 := h86) (sd_size X88) a86 r S86 Sr (Sta.ext (sd_ext X88 hs0 Zn) S_c) hzc) (hw _ (List.mem_of_getElem? (i := 91) rfl)) (hw _ (List.mem_of_getElem? (i := 92) rfl)) (hw _ (List.mem_of_getElem? (i := 94) rfl)) (hw _ (List.mem_of_getElem? (i := 93) rfl)) (hw _ (List.mem_of_getElem? (i := 5) rfl)) (hw _ (List.mem_of_getElem? (i := 95) rfl)) S86.exa (by decide) [(.ref r)] [] pd_17 rfl rfl rfl rfl 0 (Nat.le_refl _) (by decide) (by decide) (by decide) (by decide) rfl fun T89 h89 v89 X89 q89 => ?_
          obtain ⟨rfl, rfl⟩ := q89
          exact w_zreturnW X89 F86 (own_hEL hw) at_281 (by rw [if_pos rfl]; rfl) (by decide) (by decide)
  · skip
    show Go p e below _ (T7.setTop (mkF m 30 #[.val (.int p1), .val (.int p2), .val (.int p3), .val (.int p4), .val (.int p5), .val (.ref b1), .val (.ref b3), .val (.ref b5), .val (.ref b7), .val (.int (2 : Int32)), .unset, .unset, .unset, .unset, .unset, .unset] []))
    refine w_iload X7 (pc' := 32) at_30 rfl rfl ?_
    refine w_iconst X7 (pc' := 33) (2 : Int32) at_32 rfl rfl ?_
    refine w_iushr X7 (pc' := 34) at_33 rfl ?_
    refine w_iconst X7 (pc' := 35) (3 : Int32) at_34 rfl rfl ?_
    refine w_iand X7 (pc' := 36) at_35 rfl ?_
    refine w_iload X7 (pc' := 38) at_36 rfl rfl ?_
    refine w_staticV X7 (pc' := 41) at_38 (rm_min hw (h0 := h7) (sd_size X7) (((p5.toUInt32 >>> ((2 : Int32) &&& 31).toUInt32).toInt32) &&& (3 : Int32)) (2 : Int32)) (hw _ (List.mem_of_getElem? (i := 51) rfl)) (hw _ (List.mem_of_getElem? (i := 52) rfl)) (hw _ (List.mem_of_getElem? (i := 53) rfl)) (hw _ (List.mem_of_getElem? (i := 54) rfl)) (by decide) [(.int (((p5.toUInt32 >>> ((2 : Int32) &&& 31).toUInt32).toInt32) &&& (3 : Int32))), (.int (2 : Int32))] [] pd_12 rfl rfl rfl rfl 0 (Nat.le_refl _) (by decide) (by decide) (by decide) (by decide) rfl fun T90 h90 v90 X90 q90 => ?_
    obtain ⟨rfl, rfl⟩ := q90
    refine w_istore X90 (pc' := 43) (l' := #[.val (.int p1), .val (.int p2), .val (.int p3), .val (.int p4), .val (.int p5), .val (.ref b1), .val (.ref b3), .val (.ref b5), .val (.ref b7), .val (.int (2 : Int32)), .val (.int (own_min (((p5.toUInt32 >>> ((2 : Int32) &&& 31).toUInt32).toInt32) &&& (3 : Int32)) (2 : Int32))), .unset, .unset, .unset, .unset, .unset]) at_41 rfl rfl ?_
    have hz : (own_min (((p5.toUInt32 >>> ((2 : Int32) &&& 31).toUInt32).toInt32) &&& (3 : Int32)) (2 : Int32)) = 0 ∨ (own_min (((p5.toUInt32 >>> ((2 : Int32) &&& 31).toUInt32).toInt32) &&& (3 : Int32)) (2 : Int32)) = 1 ∨ (own_min (((p5.toUInt32 >>> ((2 : Int32) &&& 31).toUInt32).toInt32) &&& (3 : Int32)) (2 : Int32)) = 2 := by
      rcases own_and3 ((p5.toUInt32 >>> ((2 : Int32) &&& 31).toUInt32).toInt32) with q | q | q | q <;> rw [q] <;> decide
    generalize (own_min (((p5.toUInt32 >>> ((2 : Int32) &&& 31).toUInt32).toInt32) &&& (3 : Int32)) (2 : Int32)) = m10 at hz ⊢
    rcases hz with rfl | rfl | rfl
    · skip
      show Go p e below _ (T90.setTop (mkF m 43 #[.val (.int p1), .val (.int p2), .val (.int p3), .val (.int p4), .val (.int p5), .val (.ref b1), .val (.ref b3), .val (.ref b5), .val (.ref b7), .val (.int (2 : Int32)), .val (.int (0 : Int32)), .unset, .unset, .unset, .unset, .unset] []))
      refine w_iload X90 (pc' := 45) at_43 rfl rfl ?_
      refine w_iconst X90 (pc' := 46) (4 : Int32) at_45 rfl rfl ?_
      refine w_iushr X90 (pc' := 47) at_46 rfl ?_
      refine w_iconst X90 (pc' := 48) (1 : Int32) at_47 rfl rfl ?_
      refine w_iand X90 (pc' := 49) at_48 rfl ?_
      refine w_if_eq X90 56 52 at_49 (by decide) rfl rfl (fun hc49 => ?_) (fun hc49 => ?_)
      · skip
        refine w_iconst X90 (pc' := 57) (0 : Int32) at_56 rfl rfl ?_
        refine w_istore X90 (pc' := 59) (l' := #[.val (.int p1), .val (.int p2), .val (.int p3), .val (.int p4), .val (.int p5), .val (.ref b1), .val (.ref b3), .val (.ref b5), .val (.ref b7), .val (.int (2 : Int32)), .val (.int (0 : Int32)), .val (.int (0 : Int32)), .unset, .unset, .unset, .unset]) at_57 rfl rfl ?_
        refine w_new X90 (pc' := 62) at_59 (hw _ (List.mem_of_getElem? (i := 55) rfl)) (hw _ (List.mem_of_getElem? (i := 56) rfl)) (hw _ (List.mem_of_getElem? (i := 57) rfl)) (by decide) (by decide) rfl fun T91 h91 b91 g91 gn91 X91 E91 A91 D91 => ?_
        have sf_b91 := F7.safe_new E91 g91
        have S1_92 := S1_8.ext E91
        have S3_92 := S3_8.ext E91
        have S5_92 := S5_8.ext E91
        have S7_92 := S7.ext E91
        have F7_92 := F7.ext E91
        have Fpairs_91 : Fld Z h91 b91 "com/example/raja/raja/xml/CanonicalWriter$Bindings" "pairs" "[Ljava/lang/String;" .null := D91 (Or.inl (hw _ (List.mem_of_getElem? (i := 65) rfl))) (ty := (.array (.object "java/lang/String"))) (by decide)
        have Fmarks_91 : Fld Z h91 b91 "com/example/raja/raja/xml/CanonicalWriter$Bindings" "marks" "[I" .null := D91 (Or.inl (hw _ (List.mem_of_getElem? (i := 68) rfl))) (ty := (.array .int)) (by decide)
        have Fdepth_91 : Fld Z h91 b91 "com/example/raja/raja/xml/CanonicalWriter$Bindings" "depth" "I" (.int (0 : Int32)) := D91 (Or.inl (hw _ (List.mem_of_getElem? (i := 75) rfl))) (ty := .int) (by decide)
        have Fsize_91 : Fld Z h91 b91 "com/example/raja/raja/xml/CanonicalWriter$Bindings" "size" "I" (.int (0 : Int32)) := D91 (Or.inl (hw _ (List.mem_of_getElem? (i := 77) rfl))) (ty := .int) (by decide)
        refine w_dup X91 (pc' := 63) at_62 rfl rfl ?_
        refine w_specialN X91 (pc' := 66) at_63 (rm_init hw (h0 := h91) (sd_size X91) b91 A91 Fpairs_91 Fmarks_91 Fsize_91 Fdepth_91 gn91) (hw _ (List.mem_of_getElem? (i := 58) rfl)) (hw _ (List.mem_of_getElem? (i := 59) rfl)) (hw _ (List.mem_of_getElem? (i := 57) rfl)) (hw _ (List.mem_of_getElem? (i := 60) rfl)) rfl (by decide) [] [(.ref b91)] pd_13 rfl rfl rfl rfl 1 (Nat.le_refl _) (by decide) (by decide) (by decide) (by decide) rfl fun T93 h93 X93 q93 => ?_
        obtain ⟨K93, B93⟩ := q93
        have S1_94 := S1_92.keep K93 (ap1 (Apart.obj A91 (hw _ (List.mem_of_getElem? (i := 56) rfl)) (by decide) (by decide)))
        have S3_94 := S3_92.keep K93 (ap1 (Apart.obj A91 (hw _ (List.mem_of_getElem? (i := 56) rfl)) (by decide) (by decide)))
        have S5_94 := S5_92.keep K93 (ap1 (Apart.obj A91 (hw _ (List.mem_of_getElem? (i := 56) rfl)) (by decide) (by decide)))
        have S7_94 := S7_92.keep K93 (ap1 (Apart.obj A91 (hw _ (List.mem_of_getElem? (i := 56) rfl)) (by decide) (by decide)))
        have F7_94 := F7_92.kp X93 K93 (ap1 (Apart.obj A91 (hw _ (List.mem_of_getElem? (i := 56) rfl)) (by decide) (by decide)))
        have A91_94 := A91.keep K93
        refine w_astore X93 (pc' := 68) (l' := #[.val (.int p1), .val (.int p2), .val (.int p3), .val (.int p4), .val (.int p5), .val (.ref b1), .val (.ref b3), .val (.ref b5), .val (.ref b7), .val (.int (2 : Int32)), .val (.int (0 : Int32)), .val (.int (0 : Int32)), .val (.ref b91), .unset, .unset, .unset]) at_66 rfl rfl rfl ?_
        refine w_iload X93 (pc' := 70) at_68 rfl rfl ?_
        refine w_if_ne X93 78 73 at_70 (by decide) rfl rfl (fun hc70 => by exfalso; revert hc70; decide) (fun hc70 => ?_)
        refine w_aload X93 (pc' := 75) at_73 rfl rfl rfl ?_
        refine w_virtualN X93 (pc' := 78) at_75 (rm_open hw (h0 := h93) (sd_size X93) b91 B93) (hw _ (List.mem_of_getElem? (i := 69) rfl)) (hw _ (List.mem_of_getElem? (i := 70) rfl)) (hw _ (List.mem_of_getElem? (i := 72) rfl)) (hw _ (List.mem_of_getElem? (i := 71) rfl)) (hw _ (List.mem_of_getElem? (i := 57) rfl)) (hw _ (List.mem_of_getElem? (i := 73) rfl)) B93.exa (by decide) [] [] pd_14 rfl rfl rfl rfl 0 (Nat.le_refl _) (by decide) (by decide) (by decide) (by decide) rfl fun T95 h95 X95 q95 => ?_
        obtain ⟨⟨ws95, K95, P95⟩, B95⟩ := q95
        have S1_96 := S1_94.keep K95 P95
        have S3_96 := S3_94.keep K95 P95
        have S5_96 := S5_94.keep K95 P95
        have S7_96 := S7_94.keep K95 P95
        have F7_96 := F7_94.kp X95 K95 P95
        replace B95 : BD Z n0 h95 b91 [] 0 1 0 := B95
        refine w_iload X95 (pc' := 80) at_78 rfl rfl ?_
        refine w_iconst X95 (pc' := 81) (1 : Int32) at_80 rfl rfl ?_
        refine w_icmp_lt X95 93 84 at_81 (by decide) rfl rfl (fun hc81 => by exfalso; revert hc81; decide) (fun hc81 => ?_)
        refine w_aload X95 (pc' := 86) at_84 rfl rfl rfl ?_
        refine w_aload X95 (pc' := 88) at_86 rfl rfl rfl ?_
        refine w_ldcW X95 F7_96 (pc' := 90) (text := "v0") [(118 : Int32), (48 : Int32)] 8 at_88 (hw _ (List.mem_of_getElem? (i := 83) rfl)) (own_wS hw) (own_hEL hw) (List.mem_of_getElem? (i := 1) rfl) (by decide) (by decide) (by decide) (by decide) (by decide) (by decide) rfl fun T97 h97 vm97 a97 X97 F97 E97 S97 => ?_
        have S1_98 := S1_96.ext E97
        have S3_98 := S3_96.ext E97
        have S5_98 := S5_96.ext E97
        have S7_98 := S7_96.ext E97
        have B95_98 := B95.ext E97
        refine w_virtualN X97 (pc' := 93) at_90 (rm_push hw (h0 := h97) (sd_size X97) b91 b1 a97 B95_98 (show 0 < 8 by decide) S1_98 S97) (hw _ (List.mem_of_getElem? (i := 84) rfl)) (hw _ (List.mem_of_getElem? (i := 85) rfl)) (hw _ (List.mem_of_getElem? (i := 87) rfl)) (hw _ (List.mem_of_getElem? (i := 86) rfl)) (hw _ (List.mem_of_getElem? (i := 57) rfl)) (hw _ (List.mem_of_getElem? (i := 88) rfl)) B95_98.exa (by decide) [(.ref b1), (.ref a97)] [] pd_16 rfl rfl rfl rfl 0 (Nat.le_refl _) (by decide) (by decide) (by decide) (by decide) rfl fun T99 h99 X99 q99 => ?_
        obtain ⟨⟨ws99, K99, P99⟩, B99⟩ := q99
        have S1_100 := S1_98.keep K99 P99
        have S3_100 := S3_98.keep K99 P99
        have S5_100 := S5_98.keep K99 P99
        have S7_100 := S7_98.keep K99 P99
        have F97_100 := F97.kp X99 K99 P99
        replace B99 : BD Z n0 h99 b91 [(bs1, [(118 : Int32), (48 : Int32)])] 1 1 0 := B99
        refine w_iload X99 (pc' := 95) at_93 rfl rfl ?_
        refine w_iconst X99 (pc' := 96) (1 : Int32) at_95 rfl rfl ?_
        refine w_icmp_ne X99 104 99 at_96 (by decide) rfl rfl (fun hc96 => ?_) (fun hc96 => by exfalso; revert hc96; decide)
        refine w_iload X99 (pc' := 106) at_104 rfl rfl ?_
        refine w_iconst X99 (pc' := 107) (2 : Int32) at_106 rfl rfl ?_
        refine w_icmp_lt X99 119 110 at_107 (by decide) rfl rfl (fun hc107 => by exfalso; revert hc107; decide) (fun hc107 => ?_)
        refine w_aload X99 (pc' := 112) at_110 rfl rfl rfl ?_
        refine w_aload X99 (pc' := 114) at_112 rfl rfl rfl ?_
        refine w_ldcW X99 F97_100 (pc' := 116) (text := "v1") [(118 : Int32), (49 : Int32)] 8 at_114 (hw _ (List.mem_of_getElem? (i := 89) rfl)) (own_wS hw) (own_hEL hw) (List.mem_of_getElem? (i := 2) rfl) (by decide) (by decide) (by decide) (by decide) (by decide) (by decide) rfl fun T101 h101 vm101 a101 X101 F101 E101 S101 => ?_
        have S1_102 := S1_100.ext E101
        have S3_102 := S3_100.ext E101
        have S5_102 := S5_100.ext E101
        have S7_102 := S7_100.ext E101
        have B99_102 := B99.ext E101
        refine w_virtualN X101 (pc' := 119) at_116 (rm_push hw (h0 := h101) (sd_size X101) b91 b3 a101 B99_102 (show 1 < 8 by decide) S3_102 S101) (hw _ (List.mem_of_getElem? (i := 84) rfl)) (hw _ (List.mem_of_getElem? (i := 85) rfl)) (hw _ (List.mem_of_getElem? (i := 87) rfl)) (hw _ (List.mem_of_getElem? (i := 86) rfl)) (hw _ (List.mem_of_getElem? (i := 57) rfl)) (hw _ (List.mem_of_getElem? (i := 88) rfl)) B99_102.exa (by decide) [(.ref b3), (.ref a101)] [] pd_16 rfl rfl rfl rfl 0 (Nat.le_refl _) (by decide) (by decide) (by decide) (by decide) rfl fun T103 h103 X103 q103 => ?_
        obtain ⟨⟨ws103, K103, P103⟩, B103⟩ := q103
        have S1_104 := S1_102.keep K103 P103
        have S3_104 := S3_102.keep K103 P103
        have S5_104 := S5_102.keep K103 P103
        have S7_104 := S7_102.keep K103 P103
        have F101_104 := F101.kp X103 K103 P103
        replace B103 : BD Z n0 h103 b91 [(bs1, [(118 : Int32), (48 : Int32)]), (bs3, [(118 : Int32), (49 : Int32)])] 2 1 0 := B103
        refine w_iload X103 (pc' := 121) at_119 rfl rfl ?_
        refine w_iconst X103 (pc' := 122) (2 : Int32) at_121 rfl rfl ?_
        refine w_icmp_ne X103 130 125 at_122 (by decide) rfl rfl (fun hc122 => ?_) (fun hc122 => by exfalso; revert hc122; decide)
        refine w_iload X103 (pc' := 132) at_130 rfl rfl ?_
        refine w_iconst X103 (pc' := 133) (3 : Int32) at_132 rfl rfl ?_
        refine w_icmp_lt X103 145 136 at_133 (by decide) rfl rfl (fun hc133 => ?_) (fun hc133 => by exfalso; revert hc133; decide)
        refine w_iload X103 (pc' := 147) at_145 rfl rfl ?_
        refine w_iconst X103 (pc' := 148) (3 : Int32) at_147 rfl rfl ?_
        refine w_icmp_ne X103 156 151 at_148 (by decide) rfl rfl (fun hc148 => ?_) (fun hc148 => by exfalso; revert hc148; decide)
        refine w_iload X103 (pc' := 158) at_156 rfl rfl ?_
        refine w_if_eq X103 166 161 at_158 (by decide) rfl rfl (fun hc158 => ?_) (fun hc158 => by exfalso; revert hc158; decide)
        refine w_iload X103 (pc' := 168) at_166 rfl rfl ?_
        refine w_if_eq X103 176 171 at_168 (by decide) rfl rfl (fun hc168 => ?_) (fun hc168 => by exfalso; revert hc168; decide)
        refine w_iload X103 (pc' := 178) at_176 rfl rfl ?_
        refine w_istore X103 (pc' := 180) (l' := #[.val (.int p1), .val (.int p2), .val (.int p3), .val (.int p4), .val (.int p5), .val (.ref b1), .val (.ref b3), .val (.ref b5), .val (.ref b7), .val (.int (2 : Int32)), .val (.int (0 : Int32)), .val (.int (0 : Int32)), .val (.ref b91), .val (.int (2 : Int32)), .unset, .unset]) at_178 rfl rfl ?_
        refine w_aconst_null X103 (pc' := 181) at_180 rfl ?_
        refine w_astore X103 (pc' := 183) (l' := #[.val (.int p1), .val (.int p2), .val (.int p3), .val (.int p4), .val (.int p5), .val (.ref b1), .val (.ref b3), .val (.ref b5), .val (.ref b7), .val (.int (2 : Int32)), .val (.int (0 : Int32)), .val (.int (0 : Int32)), .val (.ref b91), .val (.int (2 : Int32)), .val .null, .unset]) at_181 rfl rfl rfl ?_
        refine w_iload X103 (pc' := 185) at_183 rfl rfl ?_
        refine w_iconst X103 (pc' := 186) (3 : Int32) at_185 rfl rfl ?_
        refine w_icmp_lt X103 206 189 at_186 (by decide) rfl rfl (fun hc186 => ?_) (fun hc186 => by exfalso; revert hc186; decide)
        refine w_iload X103 (pc' := 208) at_206 rfl rfl ?_
        refine w_iconst X103 (pc' := 209) (2 : Int32) at_208 rfl rfl ?_
        refine w_icmp_lt X103 229 212 at_209 (by decide) rfl rfl (fun hc209 => by exfalso; revert hc209; decide) (fun hc209 => ?_)
        refine w_aload X103 (pc' := 214) at_212 rfl rfl rfl ?_
        refine w_aload X103 (pc' := 216) at_214 rfl rfl rfl ?_
        refine w_virtualV X103 (pc' := 219) at_216 (rm_eq hw (h0 := h103) (sd_size X103) b3 b7 S3_104 S7_104 (Sta.ext (sd_ext X103 hs0 Zn) S_c) hzc) (hw _ (List.mem_of_getElem? (i := 91) rfl)) (hw _ (List.mem_of_getElem? (i := 92) rfl)) (hw _ (List.mem_of_getElem? (i := 94) rfl)) (hw _ (List.mem_of_getElem? (i := 93) rfl)) (hw _ (List.mem_of_getElem? (i := 5) rfl)) (hw _ (List.mem_of_getElem? (i := 95) rfl)) S3_104.exa (by decide) [(.ref b7)] [] pd_17 rfl rfl rfl rfl 0 (Nat.le_refl _) (by decide) (by decide) (by decide) (by decide) rfl fun T105 h105 v105 X105 q105 => ?_
        obtain ⟨rfl, rfl⟩ := q105
        refine w_if_eq X105 229 222 at_219 (by decide) rfl rfl (fun hc219 => ?_) (fun hc219 => ?_)
        · skip
          refine w_iload X105 (pc' := 231) at_229 rfl rfl ?_
          refine w_iconst X105 (pc' := 232) (1 : Int32) at_231 rfl rfl ?_
          refine w_icmp_lt X105 249 235 at_232 (by decide) rfl rfl (fun hc232 => by exfalso; revert hc232; decide) (fun hc232 => ?_)
          refine w_aload X105 (pc' := 237) at_235 rfl rfl rfl ?_
          refine w_aload X105 (pc' := 239) at_237 rfl rfl rfl ?_
          refine w_virtualV X105 (pc' := 242) at_239 (rm_eq hw (h0 := h103) (sd_size X105) b1 b7 S1_104 S7_104 (Sta.ext (sd_ext X105 hs0 Zn) S_c) hzc) (hw _ (List.mem_of_getElem? (i := 91) rfl)) (hw _ (List.mem_of_getElem? (i := 92) rfl)) (hw _ (List.mem_of_getElem? (i := 94) rfl)) (hw _ (List.mem_of_getElem? (i := 93) rfl)) (hw _ (List.mem_of_getElem? (i := 5) rfl)) (hw _ (List.mem_of_getElem? (i := 95) rfl)) S1_104.exa (by decide) [(.ref b7)] [] pd_17 rfl rfl rfl rfl 0 (Nat.le_refl _) (by decide) (by decide) (by decide) (by decide) rfl fun T106 h106 v106 X106 q106 => ?_
          obtain ⟨rfl, rfl⟩ := q106
          refine w_if_eq X106 249 245 at_242 (by decide) rfl rfl (fun hc242 => ?_) (fun hc242 => ?_)
          · skip
            refine w_aload X106 (pc' := 251) at_249 rfl rfl rfl ?_
            refine w_aload X106 (pc' := 253) at_251 rfl rfl rfl ?_
            refine w_virtualV X106 (pc' := 256) at_253 (rm_vo2 hw (h0 := h103) (sd_size X106) b91 b7 B103 (show 2 ≤ 2 by decide) S7_104 (Sta.ext (sd_ext X106 hs0 Zn) S_c) hzc) (hw _ (List.mem_of_getElem? (i := 78) rfl)) (hw _ (List.mem_of_getElem? (i := 79) rfl)) (hw _ (List.mem_of_getElem? (i := 81) rfl)) (hw _ (List.mem_of_getElem? (i := 80) rfl)) (hw _ (List.mem_of_getElem? (i := 57) rfl)) (hw _ (List.mem_of_getElem? (i := 82) rfl)) B103.exa (by decide) [(.ref b7)] [] pd_15 rfl rfl rfl rfl 0 (Nat.le_refl _) (by decide) (by decide) (by decide) (by decide) rfl fun T107 h107 v107 X107 q107 => ?_
            have hv : own_val [(bs1, [(118 : Int32), (48 : Int32)]), (bs3, [(118 : Int32), (49 : Int32)])] bs7 2 = none := (own_vn (es := [(bs1, [(118 : Int32), (48 : Int32)]), (bs3, [(118 : Int32), (49 : Int32)])]) (q := bs7) 1 (show ¬ bs3 = bs7 from own_if0 hc219)).trans ((own_vn (es := [(bs1, [(118 : Int32), (48 : Int32)]), (bs3, [(118 : Int32), (49 : Int32)])]) (q := bs7) 0 (show ¬ bs1 = bs7 from own_if0 hc242)).trans (rfl))
            obtain ⟨hq, rfl⟩ := q107
            rcases hq with ⟨rfl, -⟩ | ⟨r, bs, rfl, Sr, hr⟩
            rotate_left
            · exact absurd (hr.symm.trans hv) (by simp)
            refine w_astore X107 (pc' := 258) (l' := #[.val (.int p1), .val (.int p2), .val (.int p3), .val (.int p4), .val (.int p5), .val (.ref b1), .val (.ref b3), .val (.ref b5), .val (.ref b7), .val (.int (2 : Int32)), .val (.int (0 : Int32)), .val (.int (0 : Int32)), .val (.ref b91), .val (.int (2 : Int32)), .val .null, .val .null]) at_256 rfl rfl rfl ?_
            refine w_aload X107 (pc' := 260) at_258 rfl rfl rfl ?_
            refine w_ifnonnullN X107 (pc' := 263) at_260 rfl ?_
            refine w_aload X107 (pc' := 265) at_263 rfl rfl rfl ?_
            refine w_ifnonnullN X107 (pc' := 268) at_265 rfl ?_
            refine w_iconst X107 (pc' := 269) (1 : Int32) at_268 rfl rfl ?_
            refine w_goto X107 (pc' := 273) at_269 (by decide) rfl ?_
            exact w_zreturnW X107 F101_104 (own_hEL hw) at_273 rfl (by decide) (by decide)
          · skip
            refine w_ldcW X106 F101_104 (pc' := 247) (text := "v0") [(118 : Int32), (48 : Int32)] 8 at_245 (hw _ (List.mem_of_getElem? (i := 83) rfl)) (own_wS hw) (own_hEL hw) (List.mem_of_getElem? (i := 1) rfl) (by decide) (by decide) (by decide) (by decide) (by decide) (by decide) rfl fun T108 h108 vm108 a108 X108 F108 E108 S108 => ?_
            have S1_109 := S1_104.ext E108
            have S3_109 := S3_104.ext E108
            have S5_109 := S5_104.ext E108
            have S7_109 := S7_104.ext E108
            have B103_109 := B103.ext E108
            refine w_astore X108 (pc' := 249) (l' := #[.val (.int p1), .val (.int p2), .val (.int p3), .val (.int p4), .val (.int p5), .val (.ref b1), .val (.ref b3), .val (.ref b5), .val (.ref b7), .val (.int (2 : Int32)), .val (.int (0 : Int32)), .val (.int (0 : Int32)), .val (.ref b91), .val (.int (2 : Int32)), .val (.ref a108), .unset]) at_247 rfl rfl rfl ?_
            refine w_aload X108 (pc' := 251) at_249 rfl rfl rfl ?_
            refine w_aload X108 (pc' := 253) at_251 rfl rfl rfl ?_
            refine w_virtualV X108 (pc' := 256) at_253 (rm_vo2 hw (h0 := h108) (sd_size X108) b91 b7 B103_109 (show 2 ≤ 2 by decide) S7_109 (Sta.ext (sd_ext X108 hs0 Zn) S_c) hzc) (hw _ (List.mem_of_getElem? (i := 78) rfl)) (hw _ (List.mem_of_getElem? (i := 79) rfl)) (hw _ (List.mem_of_getElem? (i := 81) rfl)) (hw _ (List.mem_of_getElem? (i := 80) rfl)) (hw _ (List.mem_of_getElem? (i := 57) rfl)) (hw _ (List.mem_of_getElem? (i := 82) rfl)) B103_109.exa (by decide) [(.ref b7)] [] pd_15 rfl rfl rfl rfl 0 (Nat.le_refl _) (by decide) (by decide) (by decide) (by decide) rfl fun T110 h110 v110 X110 q110 => ?_
            have hv : own_val [(bs1, [(118 : Int32), (48 : Int32)]), (bs3, [(118 : Int32), (49 : Int32)])] bs7 2 = some [(118 : Int32), (48 : Int32)] := (own_vn (es := [(bs1, [(118 : Int32), (48 : Int32)]), (bs3, [(118 : Int32), (49 : Int32)])]) (q := bs7) 1 (show ¬ bs3 = bs7 from own_if0 hc219)).trans (own_vp (es := [(bs1, [(118 : Int32), (48 : Int32)]), (bs3, [(118 : Int32), (49 : Int32)])]) (q := bs7) 0 (show bs1 = bs7 from own_if1 hc242))
            obtain ⟨hq, rfl⟩ := q110
            rcases hq with ⟨rfl, hr⟩ | ⟨r, bs, rfl, Sr, hr⟩
            · exact absurd (hr.symm.trans hv) (by simp)
            obtain rfl : bs = [(118 : Int32), (48 : Int32)] := Option.some.inj (hr.symm.trans hv)
            refine w_astore X110 (pc' := 258) (l' := #[.val (.int p1), .val (.int p2), .val (.int p3), .val (.int p4), .val (.int p5), .val (.ref b1), .val (.ref b3), .val (.ref b5), .val (.ref b7), .val (.int (2 : Int32)), .val (.int (0 : Int32)), .val (.int (0 : Int32)), .val (.ref b91), .val (.int (2 : Int32)), .val (.ref a108), .val (.ref r)]) at_256 rfl rfl rfl ?_
            refine w_aload X110 (pc' := 260) at_258 rfl rfl rfl ?_
            refine w_ifnonnullY X110 (pc' := 274) at_260 (by decide) rfl ?_
            refine w_aload X110 (pc' := 276) at_274 rfl rfl rfl ?_
            refine w_aload X110 (pc' := 278) at_276 rfl rfl rfl ?_
            refine w_virtualV X110 (pc' := 281) at_278 (rm_eq hw (h0 := h108) (sd_size X110) a108 r S108 Sr (Sta.ext (sd_ext X110 hs0 Zn) S_c) hzc) (hw _ (List.mem_of_getElem? (i := 91) rfl)) (hw _ (List.mem_of_getElem? (i := 92) rfl)) (hw _ (List.mem_of_getElem? (i := 94) rfl)) (hw _ (List.mem_of_getElem? (i := 93) rfl)) (hw _ (List.mem_of_getElem? (i := 5) rfl)) (hw _ (List.mem_of_getElem? (i := 95) rfl)) S108.exa (by decide) [(.ref r)] [] pd_17 rfl rfl rfl rfl 0 (Nat.le_refl _) (by decide) (by decide) (by decide) (by decide) rfl fun T111 h111 v111 X111 q111 => ?_
            obtain ⟨rfl, rfl⟩ := q111
            exact w_zreturnW X111 F108 (own_hEL hw) at_281 (by rw [if_pos rfl]; rfl) (by decide) (by decide)
        · skip
          refine w_ldcW X105 F101_104 (pc' := 224) (text := "v1") [(118 : Int32), (49 : Int32)] 8 at_222 (hw _ (List.mem_of_getElem? (i := 89) rfl)) (own_wS hw) (own_hEL hw) (List.mem_of_getElem? (i := 2) rfl) (by decide) (by decide) (by decide) (by decide) (by decide) (by decide) rfl fun T112 h112 vm112 a112 X112 F112 E112 S112 => ?_
          have S1_113 := S1_104.ext E112
          have S3_113 := S3_104.ext E112
          have S5_113 := S5_104.ext E112
          have S7_113 := S7_104.ext E112
          have B103_113 := B103.ext E112
          refine w_astore X112 (pc' := 226) (l' := #[.val (.int p1), .val (.int p2), .val (.int p3), .val (.int p4), .val (.int p5), .val (.ref b1), .val (.ref b3), .val (.ref b5), .val (.ref b7), .val (.int (2 : Int32)), .val (.int (0 : Int32)), .val (.int (0 : Int32)), .val (.ref b91), .val (.int (2 : Int32)), .val (.ref a112), .unset]) at_224 rfl rfl rfl ?_
          refine w_goto X112 (pc' := 249) at_226 (by decide) rfl ?_
          refine w_aload X112 (pc' := 251) at_249 rfl rfl rfl ?_
          refine w_aload X112 (pc' := 253) at_251 rfl rfl rfl ?_
          refine w_virtualV X112 (pc' := 256) at_253 (rm_vo2 hw (h0 := h112) (sd_size X112) b91 b7 B103_113 (show 2 ≤ 2 by decide) S7_113 (Sta.ext (sd_ext X112 hs0 Zn) S_c) hzc) (hw _ (List.mem_of_getElem? (i := 78) rfl)) (hw _ (List.mem_of_getElem? (i := 79) rfl)) (hw _ (List.mem_of_getElem? (i := 81) rfl)) (hw _ (List.mem_of_getElem? (i := 80) rfl)) (hw _ (List.mem_of_getElem? (i := 57) rfl)) (hw _ (List.mem_of_getElem? (i := 82) rfl)) B103_113.exa (by decide) [(.ref b7)] [] pd_15 rfl rfl rfl rfl 0 (Nat.le_refl _) (by decide) (by decide) (by decide) (by decide) rfl fun T114 h114 v114 X114 q114 => ?_
          have hv : own_val [(bs1, [(118 : Int32), (48 : Int32)]), (bs3, [(118 : Int32), (49 : Int32)])] bs7 2 = some [(118 : Int32), (49 : Int32)] := own_vp (es := [(bs1, [(118 : Int32), (48 : Int32)]), (bs3, [(118 : Int32), (49 : Int32)])]) (q := bs7) 1 (show bs3 = bs7 from own_if1 hc219)
          obtain ⟨hq, rfl⟩ := q114
          rcases hq with ⟨rfl, hr⟩ | ⟨r, bs, rfl, Sr, hr⟩
          · exact absurd (hr.symm.trans hv) (by simp)
          obtain rfl : bs = [(118 : Int32), (49 : Int32)] := Option.some.inj (hr.symm.trans hv)
          refine w_astore X114 (pc' := 258) (l' := #[.val (.int p1), .val (.int p2), .val (.int p3), .val (.int p4), .val (.int p5), .val (.ref b1), .val (.ref b3), .val (.ref b5), .val (.ref b7), .val (.int (2 : Int32)), .val (.int (0 : Int32)), .val (.int (0 : Int32)), .val (.ref b91), .val (.int (2 : Int32)), .val (.ref a112), .val (.ref r)]) at_256 rfl rfl rfl ?_
          refine w_aload X114 (pc' := 260) at_258 rfl rfl rfl ?_
          refine w_ifnonnullY X114 (pc' := 274) at_260 (by decide) rfl ?_
          refine w_aload X114 (pc' := 276) at_274 rfl rfl rfl ?_
          refine w_aload X114 (pc' := 278) at_276 rfl rfl rfl ?_
          refine w_virtualV X114 (pc' := 281) at_278 (rm_eq hw (h0 := h112) (sd_size X114) a112 r S112 Sr (Sta.ext (sd_ext X114 hs0 Zn) S_c) hzc) (hw _ (List.mem_of_getElem? (i := 91) rfl)) (hw _ (List.mem_of_getElem? (i := 92) rfl)) (hw _ (List.mem_of_getElem? (i := 94) rfl)) (hw _ (List.mem_of_getElem? (i := 93) rfl)) (hw _ (List.mem_of_getElem? (i := 5) rfl)) (hw _ (List.mem_of_getElem? (i := 95) rfl)) S112.exa (by decide) [(.ref r)] [] pd_17 rfl rfl rfl rfl 0 (Nat.le_refl _) (by decide) (by decide) (by decide) (by decide) rfl fun T115 h115 v115 X115 q115 => ?_
          obtain ⟨rfl, rfl⟩ := q115
          exact w_zreturnW X115 F112 (own_hEL hw) at_281 (by rw [if_pos rfl]; rfl) (by decide) (by decide)
      · skip
        refine w_iconst X90 (pc' := 53) (1 : Int32) at_52 rfl rfl ?_
        refine w_goto X90 (pc' := 57) at_53 (by decide) rfl ?_
        refine w_istore X90 (pc' := 59) (l' := #[.val (.int p1), .val (.int p2), .val (.int p3), .val (.int p4), .val (.int p5), .val (.ref b1), .val (.ref b3), .val (.ref b5), .val (.ref b7), .val (.int (2 : Int32)), .val (.int (0 : Int32)), .val (.int (1 : Int32)), .unset, .unset, .unset, .unset]) at_57 rfl rfl ?_
        refine w_new X90 (pc' := 62) at_59 (hw _ (List.mem_of_getElem? (i := 55) rfl)) (hw _ (List.mem_of_getElem? (i := 56) rfl)) (hw _ (List.mem_of_getElem? (i := 57) rfl)) (by decide) (by decide) rfl fun T116 h116 b116 g116 gn116 X116 E116 A116 D116 => ?_
        have sf_b116 := F7.safe_new E116 g116
        have S1_117 := S1_8.ext E116
        have S3_117 := S3_8.ext E116
        have S5_117 := S5_8.ext E116
        have S7_117 := S7.ext E116
        have F7_117 := F7.ext E116
        have Fpairs_116 : Fld Z h116 b116 "com/example/raja/raja/xml/CanonicalWriter$Bindings" "pairs" "[Ljava/lang/String;" .null := D116 (Or.inl (hw _ (List.mem_of_getElem? (i := 65) rfl))) (ty := (.array (.object "java/lang/String"))) (by decide)
        have Fmarks_116 : Fld Z h116 b116 "com/example/raja/raja/xml/CanonicalWriter$Bindings" "marks" "[I" .null := D116 (Or.inl (hw _ (List.mem_of_getElem? (i := 68) rfl))) (ty := (.array .int)) (by decide)
        have Fdepth_116 : Fld Z h116 b116 "com/example/raja/raja/xml/CanonicalWriter$Bindings" "depth" "I" (.int (0 : Int32)) := D116 (Or.inl (hw _ (List.mem_of_getElem? (i := 75) rfl))) (ty := .int) (by decide)
        have Fsize_116 : Fld Z h116 b116 "com/example/raja/raja/xml/CanonicalWriter$Bindings" "size" "I" (.int (0 : Int32)) := D116 (Or.inl (hw _ (List.mem_of_getElem? (i := 77) rfl))) (ty := .int) (by decide)
        refine w_dup X116 (pc' := 63) at_62 rfl rfl ?_
        refine w_specialN X116 (pc' := 66) at_63 (rm_init hw (h0 := h116) (sd_size X116) b116 A116 Fpairs_116 Fmarks_116 Fsize_116 Fdepth_116 gn116) (hw _ (List.mem_of_getElem? (i := 58) rfl)) (hw _ (List.mem_of_getElem? (i := 59) rfl)) (hw _ (List.mem_of_getElem? (i := 57) rfl)) (hw _ (List.mem_of_getElem? (i := 60) rfl)) rfl (by decide) [] [(.ref b116)] pd_13 rfl rfl rfl rfl 1 (Nat.le_refl _) (by decide) (by decide) (by decide) (by decide) rfl fun T118 h118 X118 q118 => ?_
        obtain ⟨K118, B118⟩ := q118
        have S1_119 := S1_117.keep K118 (ap1 (Apart.obj A116 (hw _ (List.mem_of_getElem? (i := 56) rfl)) (by decide) (by decide)))
        have S3_119 := S3_117.keep K118 (ap1 (Apart.obj A116 (hw _ (List.mem_of_getElem? (i := 56) rfl)) (by decide) (by decide)))
        have S5_119 := S5_117.keep K118 (ap1 (Apart.obj A116 (hw _ (List.mem_of_getElem? (i := 56) rfl)) (by decide) (by decide)))
        have S7_119 := S7_117.keep K118 (ap1 (Apart.obj A116 (hw _ (List.mem_of_getElem? (i := 56) rfl)) (by decide) (by decide)))
        have F7_119 := F7_117.kp X118 K118 (ap1 (Apart.obj A116 (hw _ (List.mem_of_getElem? (i := 56) rfl)) (by decide) (by decide)))
        have A116_119 := A116.keep K118
        refine w_astore X118 (pc' := 68) (l' := #[.val (.int p1), .val (.int p2), .val (.int p3), .val (.int p4), .val (.int p5), .val (.ref b1), .val (.ref b3), .val (.ref b5), .val (.ref b7), .val (.int (2 : Int32)), .val (.int (0 : Int32)), .val (.int (1 : Int32)), .val (.ref b116), .unset, .unset, .unset]) at_66 rfl rfl rfl ?_
        refine w_iload X118 (pc' := 70) at_68 rfl rfl ?_
        refine w_if_ne X118 78 73 at_70 (by decide) rfl rfl (fun hc70 => by exfalso; revert hc70; decide) (fun hc70 => ?_)
        refine w_aload X118 (pc' := 75) at_73 rfl rfl rfl ?_
        refine w_virtualN X118 (pc' := 78) at_75 (rm_open hw (h0 := h118) (sd_size X118) b116 B118) (hw _ (List.mem_of_getElem? (i := 69) rfl)) (hw _ (List.mem_of_getElem? (i := 70) rfl)) (hw _ (List.mem_of_getElem? (i := 72) rfl)) (hw _ (List.mem_of_getElem? (i := 71) rfl)) (hw _ (List.mem_of_getElem? (i := 57) rfl)) (hw _ (List.mem_of_getElem? (i := 73) rfl)) B118.exa (by decide) [] [] pd_14 rfl rfl rfl rfl 0 (Nat.le_refl _) (by decide) (by decide) (by decide) (by decide) rfl fun T120 h120 X120 q120 => ?_
        obtain ⟨⟨ws120, K120, P120⟩, B120⟩ := q120
        have S1_121 := S1_119.keep K120 P120
        have S3_121 := S3_119.keep K120 P120
        have S5_121 := S5_119.keep K120 P120
        have S7_121 := S7_119.keep K120 P120
        have F7_121 := F7_119.kp X120 K120 P120
        replace B120 : BD Z n0 h120 b116 [] 0 1 0 := B120
        refine w_iload X120 (pc' := 80) at_78 rfl rfl ?_
        refine w_iconst X120 (pc' := 81) (1 : Int32) at_80 rfl rfl ?_
        refine w_icmp_lt X120 93 84 at_81 (by decide) rfl rfl (fun hc81 => by exfalso; revert hc81; decide) (fun hc81 => ?_)
        refine w_aload X120 (pc' := 86) at_84 rfl rfl rfl ?_
        refine w_aload X120 (pc' := 88) at_86 rfl rfl rfl ?_
        refine w_ldcW X120 F7_121 (pc' := 90) (text := "v0") [(118 : Int32), (48 : Int32)] 8 at_88 (hw _ (List.mem_of_getElem? (i := 83) rfl)) (own_wS hw) (own_hEL hw) (List.mem_of_getElem? (i := 1) rfl) (by decide) (by decide) (by decide) (by decide) (by decide) (by decide) rfl fun T122 h122 vm122 a122 X122 F122 E122 S122 => ?_
        have S1_123 := S1_121.ext E122
        have S3_123 := S3_121.ext E122
        have S5_123 := S5_121.ext E122
        have S7_123 := S7_121.ext E122
        have B120_123 := B120.ext E122
        refine w_virtualN X122 (pc' := 93) at_90 (rm_push hw (h0 := h122) (sd_size X122) b116 b1 a122 B120_123 (show 0 < 8 by decide) S1_123 S122) (hw _ (List.mem_of_getElem? (i := 84) rfl)) (hw _ (List.mem_of_getElem? (i := 85) rfl)) (hw _ (List.mem_of_getElem? (i := 87) rfl)) (hw _ (List.mem_of_getElem? (i := 86) rfl)) (hw _ (List.mem_of_getElem? (i := 57) rfl)) (hw _ (List.mem_of_getElem? (i := 88) rfl)) B120_123.exa (by decide) [(.ref b1), (.ref a122)] [] pd_16 rfl rfl rfl rfl 0 (Nat.le_refl _) (by decide) (by decide) (by decide) (by decide) rfl fun T124 h124 X124 q124 => ?_
        obtain ⟨⟨ws124, K124, P124⟩, B124⟩ := q124
        have S1_125 := S1_123.keep K124 P124
        have S3_125 := S3_123.keep K124 P124
        have S5_125 := S5_123.keep K124 P124
        have S7_125 := S7_123.keep K124 P124
        have F122_125 := F122.kp X124 K124 P124
        replace B124 : BD Z n0 h124 b116 [(bs1, [(118 : Int32), (48 : Int32)])] 1 1 0 := B124
        refine w_iload X124 (pc' := 95) at_93 rfl rfl ?_
        refine w_iconst X124 (pc' := 96) (1 : Int32) at_95 rfl rfl ?_
        refine w_icmp_ne X124 104 99 at_96 (by decide) rfl rfl (fun hc96 => ?_) (fun hc96 => by exfalso; revert hc96; decide)
        refine w_iload X124 (pc' := 106) at_104 rfl rfl ?_
        refine w_iconst X124 (pc' := 107) (2 : Int32) at_106 rfl rfl ?_
        refine w_icmp_lt X124 119 110 at_107 (by decide) rfl rfl (fun hc107 => by exfalso; revert hc107; decide) (fun hc107 => ?_)
        refine w_aload X124 (pc' := 112) at_110 rfl rfl rfl ?_
        refine w_aload X124 (pc' := 114) at_112 rfl rfl rfl ?_
        refine w_ldcW X124 F122_125 (pc' := 116) (text := "v1") [(118 : Int32), (49 : Int32)] 8 at_114 (hw _ (List.mem_of_getElem? (i := 89) rfl)) (own_wS hw) (own_hEL hw) (List.mem_of_getElem? (i := 2) rfl) (by decide) (by decide) (by decide) (by decide) (by decide) (by decide) rfl fun T126 h126 vm126 a126 X126 F126 E126 S126 => ?_
        have S1_127 := S1_125.ext E126
        have S3_127 := S3_125.ext E126
        have S5_127 := S5_125.ext E126
        have S7_127 := S7_125.ext E126
        have B124_127 := B124.ext E126
        refine w_virtualN X126 (pc' := 119) at_116 (rm_push hw (h0 := h126) (sd_size X126) b116 b3 a126 B124_127 (show 1 < 8 by decide) S3_127 S126) (hw _ (List.mem_of_getElem? (i := 84) rfl)) (hw _ (List.mem_of_getElem? (i := 85) rfl)) (hw _ (List.mem_of_getElem? (i := 87) rfl)) (hw _ (List.mem_of_getElem? (i := 86) rfl)) (hw _ (List.mem_of_getElem? (i := 57) rfl)) (hw _ (List.mem_of_getElem? (i := 88) rfl)) B124_127.exa (by decide) [(.ref b3), (.ref a126)] [] pd_16 rfl rfl rfl rfl 0 (Nat.le_refl _) (by decide) (by decide) (by decide) (by decide) rfl fun T128 h128 X128 q128 => ?_
        obtain ⟨⟨ws128, K128, P128⟩, B128⟩ := q128
        have S1_129 := S1_127.keep K128 P128
        have S3_129 := S3_127.keep K128 P128
        have S5_129 := S5_127.keep K128 P128
        have S7_129 := S7_127.keep K128 P128
        have F126_129 := F126.kp X128 K128 P128
        replace B128 : BD Z n0 h128 b116 [(bs1, [(118 : Int32), (48 : Int32)]), (bs3, [(118 : Int32), (49 : Int32)])] 2 1 0 := B128
        refine w_iload X128 (pc' := 121) at_119 rfl rfl ?_
        refine w_iconst X128 (pc' := 122) (2 : Int32) at_121 rfl rfl ?_
        refine w_icmp_ne X128 130 125 at_122 (by decide) rfl rfl (fun hc122 => ?_) (fun hc122 => by exfalso; revert hc122; decide)
        refine w_iload X128 (pc' := 132) at_130 rfl rfl ?_
        refine w_iconst X128 (pc' := 133) (3 : Int32) at_132 rfl rfl ?_
        refine w_icmp_lt X128 145 136 at_133 (by decide) rfl rfl (fun hc133 => ?_) (fun hc133 => by exfalso; revert hc133; decide)
        refine w_iload X128 (pc' := 147) at_145 rfl rfl ?_
        refine w_iconst X128 (pc' := 148) (3 : Int32) at_147 rfl rfl ?_
        refine w_icmp_ne X128 156 151 at_148 (by decide) rfl rfl (fun hc148 => ?_) (fun hc148 => by exfalso; revert hc148; decide)
        refine w_iload X128 (pc' := 158) at_156 rfl rfl ?_
        refine w_if_eq X128 166 161 at_158 (by decide) rfl rfl (fun hc158 => by exfalso; revert hc158; decide) (fun hc158 => ?_)
        refine w_aload X128 (pc' := 163) at_161 rfl rfl rfl ?_
        refine w_virtualN X128 (pc' := 166) at_163 (rm_close hw (h0 := h128) (sd_size X128) b116 B128) (hw _ (List.mem_of_getElem? (i := 100) rfl)) (hw _ (List.mem_of_getElem? (i := 101) rfl)) (hw _ (List.mem_of_getElem? (i := 103) rfl)) (hw _ (List.mem_of_getElem? (i := 102) rfl)) (hw _ (List.mem_of_getElem? (i := 57) rfl)) (hw _ (List.mem_of_getElem? (i := 104) rfl)) B128.exa (by decide) [] [] pd_19 rfl rfl rfl rfl 0 (Nat.le_refl _) (by decide) (by decide) (by decide) (by decide) rfl fun T130 h130 X130 q130 => ?_
        obtain ⟨⟨ws130, K130, P130⟩, B130⟩ := q130
        have S1_131 := S1_129.keep K130 P130
        have S3_131 := S3_129.keep K130 P130
        have S5_131 := S5_129.keep K130 P130
        have S7_131 := S7_129.keep K130 P130
        have F126_131 := F126_129.kp X130 K130 P130
        replace B130 : BD Z n0 h130 b116 [(bs1, [(118 : Int32), (48 : Int32)]), (bs3, [(118 : Int32), (49 : Int32)])] 0 0 0 := B130
        refine w_iload X130 (pc' := 168) at_166 rfl rfl ?_
        refine w_if_eq X130 176 171 at_168 (by decide) rfl rfl (fun hc168 => by exfalso; revert hc168; decide) (fun hc168 => ?_)
        refine w_iload X130 (pc' := 173) at_171 rfl rfl ?_
        refine w_goto X130 (pc' := 178) at_173 (by decide) rfl ?_
        refine w_istore X130 (pc' := 180) (l' := #[.val (.int p1), .val (.int p2), .val (.int p3), .val (.int p4), .val (.int p5), .val (.ref b1), .val (.ref b3), .val (.ref b5), .val (.ref b7), .val (.int (2 : Int32)), .val (.int (0 : Int32)), .val (.int (1 : Int32)), .val (.ref b116), .val (.int (0 : Int32)), .unset, .unset]) at_178 rfl rfl ?_
        refine w_aconst_null X130 (pc' := 181) at_180 rfl ?_
        refine w_astore X130 (pc' := 183) (l' := #[.val (.int p1), .val (.int p2), .val (.int p3), .val (.int p4), .val (.int p5), .val (.ref b1), .val (.ref b3), .val (.ref b5), .val (.ref b7), .val (.int (2 : Int32)), .val (.int (0 : Int32)), .val (.int (1 : Int32)), .val (.ref b116), .val (.int (0 : Int32)), .val .null, .unset]) at_181 rfl rfl rfl ?_
        refine w_iload X130 (pc' := 185) at_183 rfl rfl ?_
        refine w_iconst X130 (pc' := 186) (3 : Int32) at_185 rfl rfl ?_
        refine w_icmp_lt X130 206 189 at_186 (by decide) rfl rfl (fun hc186 => ?_) (fun hc186 => by exfalso; revert hc186; decide)
        refine w_iload X130 (pc' := 208) at_206 rfl rfl ?_
        refine w_iconst X130 (pc' := 209) (2 : Int32) at_208 rfl rfl ?_
        refine w_icmp_lt X130 229 212 at_209 (by decide) rfl rfl (fun hc209 => ?_) (fun hc209 => by exfalso; revert hc209; decide)
        refine w_iload X130 (pc' := 231) at_229 rfl rfl ?_
        refine w_iconst X130 (pc' := 232) (1 : Int32) at_231 rfl rfl ?_
        refine w_icmp_lt X130 249 235 at_232 (by decide) rfl rfl (fun hc232 => ?_) (fun hc232 => by exfalso; revert hc232; decide)
        refine w_aload X130 (pc' := 251) at_249 rfl rfl rfl ?_
        refine w_aload X130 (pc' := 253) at_251 rfl rfl rfl ?_
        refine w_virtualV X130 (pc' := 256) at_253 (rm_vo0 hw (h0 := h130) (sd_size X130) b116 b7 B130 (show 0 ≤ 2 by decide) S7_131 (Sta.ext (sd_ext X130 hs0 Zn) S_c) hzc) (hw _ (List.mem_of_getElem? (i := 78) rfl)) (hw _ (List.mem_of_getElem? (i := 79) rfl)) (hw _ (List.mem_of_getElem? (i := 81) rfl)) (hw _ (List.mem_of_getElem? (i := 80) rfl)) (hw _ (List.mem_of_getElem? (i := 57) rfl)) (hw _ (List.mem_of_getElem? (i := 82) rfl)) B130.exa (by decide) [(.ref b7)] [] pd_15 rfl rfl rfl rfl 0 (Nat.le_refl _) (by decide) (by decide) (by decide) (by decide) rfl fun T132 h132 v132 X132 q132 => ?_
        have hv : own_val [(bs1, [(118 : Int32), (48 : Int32)]), (bs3, [(118 : Int32), (49 : Int32)])] bs7 0 = none := rfl
        obtain ⟨hq, rfl⟩ := q132
        rcases hq with ⟨rfl, -⟩ | ⟨r, bs, rfl, Sr, hr⟩
        rotate_left
        · exact absurd (hr.symm.trans hv) (by simp)
        refine w_astore X132 (pc' := 258) (l' := #[.val (.int p1), .val (.int p2), .val (.int p3), .val (.int p4), .val (.int p5), .val (.ref b1), .val (.ref b3), .val (.ref b5), .val (.ref b7), .val (.int (2 : Int32)), .val (.int (0 : Int32)), .val (.int (1 : Int32)), .val (.ref b116), .val (.int (0 : Int32)), .val .null, .val .null]) at_256 rfl rfl rfl ?_
        refine w_aload X132 (pc' := 260) at_258 rfl rfl rfl ?_
        refine w_ifnonnullN X132 (pc' := 263) at_260 rfl ?_
        refine w_aload X132 (pc' := 265) at_263 rfl rfl rfl ?_
        refine w_ifnonnullN X132 (pc' := 268) at_265 rfl ?_
        refine w_iconst X132 (pc' := 269) (1 : Int32) at_268 rfl rfl ?_
        refine w_goto X132 (pc' := 273) at_269 (by decide) rfl ?_
        exact w_zreturnW X132 F126_131 (own_hEL hw) at_273 rfl (by decide) (by decide)
    · skip
      show Go p e below _ (T90.setTop (mkF m 43 #[.val (.int p1), .val (.int p2), .val (.int p3), .val (.int p4), .val (.int p5), .val (.ref b1), .val (.ref b3), .val (.ref b5), .val (.ref b7), .val (.int (2 : Int32)), .val (.int (1 : Int32)), .unset, .unset, .unset, .unset, .unset] []))
      refine w_iload X90 (pc' := 45) at_43 rfl rfl ?_
      refine w_iconst X90 (pc' := 46) (4 : Int32) at_45 rfl rfl ?_
      refine w_iushr X90 (pc' := 47) at_46 rfl ?_
      refine w_iconst X90 (pc' := 48) (1 : Int32) at_47 rfl rfl ?_
      refine w_iand X90 (pc' := 49) at_48 rfl ?_
      refine w_if_eq X90 56 52 at_49 (by decide) rfl rfl (fun hc49 => ?_) (fun hc49 => ?_)
      · skip
        refine w_iconst X90 (pc' := 57) (0 : Int32) at_56 rfl rfl ?_
        refine w_istore X90 (pc' := 59) (l' := #[.val (.int p1), .val (.int p2), .val (.int p3), .val (.int p4), .val (.int p5), .val (.ref b1), .val (.ref b3), .val (.ref b5), .val (.ref b7), .val (.int (2 : Int32)), .val (.int (1 : Int32)), .val (.int (0 : Int32)), .unset, .unset, .unset, .unset]) at_57 rfl rfl ?_
        refine w_new X90 (pc' := 62) at_59 (hw _ (List.mem_of_getElem? (i := 55) rfl)) (hw _ (List.mem_of_getElem? (i := 56) rfl)) (hw _ (List.mem_of_getElem? (i := 57) rfl)) (by decide) (by decide) rfl fun T133 h133 b133 g133 gn133 X133 E133 A133 D133 => ?_
        have sf_b133 := F7.safe_new E133 g133
        have S1_134 := S1_8.ext E133
        have S3_134 := S3_8.ext E133
        have S5_134 := S5_8.ext E133
        have S7_134 := S7.ext E133
        have F7_134 := F7.ext E133
        have Fpairs_133 : Fld Z h133 b133 "com/example/raja/raja/xml/CanonicalWriter$Bindings" "pairs" "[Ljava/lang/String;" .null := D133 (Or.inl (hw _ (List.mem_of_getElem? (i := 65) rfl))) (ty := (.array (.object "java/lang/String"))) (by decide)
        have Fmarks_133 : Fld Z h133 b133 "com/example/raja/raja/xml/CanonicalWriter$Bindings" "marks" "[I" .null := D133 (Or.inl (hw _ (List.mem_of_getElem? (i := 68) rfl))) (ty := (.array .int)) (by decide)
        have Fdepth_133 : Fld Z h133 b133 "com/example/raja/raja/xml/CanonicalWriter$Bindings" "depth" "I" (.int (0 : Int32)) := D133 (Or.inl (hw _ (List.mem_of_getElem? (i := 75) rfl))) (ty := .int) (by decide)
        have Fsize_133 : Fld Z h133 b133 "com/example/raja/raja/xml/CanonicalWriter$Bindings" "size" "I" (.int (0 : Int32)) := D133 (Or.inl (hw _ (List.mem_of_getElem? (i := 77) rfl))) (ty := .int) (by decide)
        refine w_dup X133 (pc' := 63) at_62 rfl rfl ?_
        refine w_specialN X133 (pc' := 66) at_63 (rm_init hw (h0 := h133) (sd_size X133) b133 A133 Fpairs_133 Fmarks_133 Fsize_133 Fdepth_133 gn133) (hw _ (List.mem_of_getElem? (i := 58) rfl)) (hw _ (List.mem_of_getElem? (i := 59) rfl)) (hw _ (List.mem_of_getElem? (i := 57) rfl)) (hw _ (List.mem_of_getElem? (i := 60) rfl)) rfl (by decide) [] [(.ref b133)] pd_13 rfl rfl rfl rfl 1 (Nat.le_refl _) (by decide) (by decide) (by decide) (by decide) rfl fun T135 h135 X135 q135 => ?_
        obtain ⟨K135, B135⟩ := q135
        have S1_136 := S1_134.keep K135 (ap1 (Apart.obj A133 (hw _ (List.mem_of_getElem? (i := 56) rfl)) (by decide) (by decide)))
        have S3_136 := S3_134.keep K135 (ap1 (Apart.obj A133 (hw _ (List.mem_of_getElem? (i := 56) rfl)) (by decide) (by decide)))
        have S5_136 := S5_134.keep K135 (ap1 (Apart.obj A133 (hw _ (List.mem_of_getElem? (i := 56) rfl)) (by decide) (by decide)))
        have S7_136 := S7_134.keep K135 (ap1 (Apart.obj A133 (hw _ (List.mem_of_getElem? (i := 56) rfl)) (by decide) (by decide)))
        have F7_136 := F7_134.kp X135 K135 (ap1 (Apart.obj A133 (hw _ (List.mem_of_getElem? (i := 56) rfl)) (by decide) (by decide)))
        have A133_136 := A133.keep K135
        refine w_astore X135 (pc' := 68) (l' := #[.val (.int p1), .val (.int p2), .val (.int p3), .val (.int p4), .val (.int p5), .val (.ref b1), .val (.ref b3), .val (.ref b5), .val (.ref b7), .val (.int (2 : Int32)), .val (.int (1 : Int32)), .val (.int (0 : Int32)), .val (.ref b133), .unset, .unset, .unset]) at_66 rfl rfl rfl ?_
        refine w_iload X135 (pc' := 70) at_68 rfl rfl ?_
        refine w_if_ne X135 78 73 at_70 (by decide) rfl rfl (fun hc70 => ?_) (fun hc70 => by exfalso; revert hc70; decide)
        refine w_iload X135 (pc' := 80) at_78 rfl rfl ?_
        refine w_iconst X135 (pc' := 81) (1 : Int32) at_80 rfl rfl ?_
        refine w_icmp_lt X135 93 84 at_81 (by decide) rfl rfl (fun hc81 => by exfalso; revert hc81; decide) (fun hc81 => ?_)
        refine w_aload X135 (pc' := 86) at_84 rfl rfl rfl ?_
        refine w_aload X135 (pc' := 88) at_86 rfl rfl rfl ?_
        refine w_ldcW X135 F7_136 (pc' := 90) (text := "v0") [(118 : Int32), (48 : Int32)] 8 at_88 (hw _ (List.mem_of_getElem? (i := 83) rfl)) (own_wS hw) (own_hEL hw) (List.mem_of_getElem? (i := 1) rfl) (by decide) (by decide) (by decide) (by decide) (by decide) (by decide) rfl fun T137 h137 vm137 a137 X137 F137 E137 S137 => ?_
        have S1_138 := S1_136.ext E137
        have S3_138 := S3_136.ext E137
        have S5_138 := S5_136.ext E137
        have S7_138 := S7_136.ext E137
        have B135_138 := B135.ext E137
        refine w_virtualN X137 (pc' := 93) at_90 (rm_push hw (h0 := h137) (sd_size X137) b133 b1 a137 B135_138 (show 0 < 8 by decide) S1_138 S137) (hw _ (List.mem_of_getElem? (i := 84) rfl)) (hw _ (List.mem_of_getElem? (i := 85) rfl)) (hw _ (List.mem_of_getElem? (i := 87) rfl)) (hw _ (List.mem_of_getElem? (i := 86) rfl)) (hw _ (List.mem_of_getElem? (i := 57) rfl)) (hw _ (List.mem_of_getElem? (i := 88) rfl)) B135_138.exa (by decide) [(.ref b1), (.ref a137)] [] pd_16 rfl rfl rfl rfl 0 (Nat.le_refl _) (by decide) (by decide) (by decide) (by decide) rfl fun T139 h139 X139 q139 => ?_
        obtain ⟨⟨ws139, K139, P139⟩, B139⟩ := q139
        have S1_140 := S1_138.keep K139 P139
        have S3_140 := S3_138.keep K139 P139
        have S5_140 := S5_138.keep K139 P139
        have S7_140 := S7_138.keep K139 P139
        have F137_140 := F137.kp X139 K139 P139
        replace B139 : BD Z n0 h139 b133 [(bs1, [(118 : Int32), (48 : Int32)])] 1 0 0 := B139
        refine w_iload X139 (pc' := 95) at_93 rfl rfl ?_
        refine w_iconst X139 (pc' := 96) (1 : Int32) at_95 rfl rfl ?_
        refine w_icmp_ne X139 104 99 at_96 (by decide) rfl rfl (fun hc96 => by exfalso; revert hc96; decide) (fun hc96 => ?_)
        refine w_aload X139 (pc' := 101) at_99 rfl rfl rfl ?_
        refine w_virtualN X139 (pc' := 104) at_101 (rm_open hw (h0 := h139) (sd_size X139) b133 B139) (hw _ (List.mem_of_getElem? (i := 69) rfl)) (hw _ (List.mem_of_getElem? (i := 70) rfl)) (hw _ (List.mem_of_getElem? (i := 72) rfl)) (hw _ (List.mem_of_getElem? (i := 71) rfl)) (hw _ (List.mem_of_getElem? (i := 57) rfl)) (hw _ (List.mem_of_getElem? (i := 73) rfl)) B139.exa (by decide) [] [] pd_14 rfl rfl rfl rfl 0 (Nat.le_refl _) (by decide) (by decide) (by decide) (by decide) rfl fun T141 h141 X141 q141 => ?_
        obtain ⟨⟨ws141, K141, P141⟩, B141⟩ := q141
        have S1_142 := S1_140.keep K141 P141
        have S3_142 := S3_140.keep K141 P141
        have S5_142 := S5_140.keep K141 P141
        have S7_142 := S7_140.keep K141 P141
        have F137_142 := F137_140.kp X141 K141 P141
        replace B141 : BD Z n0 h141 b133 [(bs1, [(118 : Int32), (48 : Int32)])] 1 1 1 := B141
        refine w_iload X141 (pc' := 106) at_104 rfl rfl ?_
        refine w_iconst X141 (pc' := 107) (2 : Int32) at_106 rfl rfl ?_
        refine w_icmp_lt X141 119 110 at_107 (by decide) rfl rfl (fun hc107 => by exfalso; revert hc107; decide) (fun hc107 => ?_)
        refine w_aload X141 (pc' := 112) at_110 rfl rfl rfl ?_
        refine w_aload X141 (pc' := 114) at_112 rfl rfl rfl ?_
        refine w_ldcW X141 F137_142 (pc' := 116) (text := "v1") [(118 : Int32), (49 : Int32)] 8 at_114 (hw _ (List.mem_of_getElem? (i := 89) rfl)) (own_wS hw) (own_hEL hw) (List.mem_of_getElem? (i := 2) rfl) (by decide) (by decide) (by decide) (by decide) (by decide) (by decide) rfl fun T143 h143 vm143 a143 X143 F143 E143 S143 => ?_
        have S1_144 := S1_142.ext E143
        have S3_144 := S3_142.ext E143
        have S5_144 := S5_142.ext E143
        have S7_144 := S7_142.ext E143
        have B141_144 := B141.ext E143
        refine w_virtualN X143 (pc' := 119) at_116 (rm_push hw (h0 := h143) (sd_size X143) b133 b3 a143 B141_144 (show 1 < 8 by decide) S3_144 S143) (hw _ (List.mem_of_getElem? (i := 84) rfl)) (hw _ (List.mem_of_getElem? (i := 85) rfl)) (hw _ (List.mem_of_getElem? (i := 87) rfl)) (hw _ (List.mem_of_getElem? (i := 86) rfl)) (hw _ (List.mem_of_getElem? (i := 57) rfl)) (hw _ (List.mem_of_getElem? (i := 88) rfl)) B141_144.exa (by decide) [(.ref b3), (.ref a143)] [] pd_16 rfl rfl rfl rfl 0 (Nat.le_refl _) (by decide) (by decide) (by decide) (by decide) rfl fun T145 h145 X145 q145 => ?_
        obtain ⟨⟨ws145, K145, P145⟩, B145⟩ := q145
        have S1_146 := S1_144.keep K145 P145
        have S3_146 := S3_144.keep K145 P145
        have S5_146 := S5_144.keep K145 P145
        have S7_146 := S7_144.keep K145 P145
        have F143_146 := F143.kp X145 K145 P145
        replace B145 : BD Z n0 h145 b133 [(bs1, [(118 : Int32), (48 : Int32)]), (bs3, [(118 : Int32), (49 : Int32)])] 2 1 1 := B145
        refine w_iload X145 (pc' := 121) at_119 rfl rfl ?_
        refine w_iconst X145 (pc' := 122) (2 : Int32) at_121 rfl rfl ?_
        refine w_icmp_ne X145 130 125 at_122 (by decide) rfl rfl (fun hc122 => ?_) (fun hc122 => by exfalso; revert hc122; decide)
        refine w_iload X145 (pc' := 132) at_130 rfl rfl ?_
        refine w_iconst X145 (pc' := 133) (3 : Int32) at_132 rfl rfl ?_
        refine w_icmp_lt X145 145 136 at_133 (by decide) rfl rfl (fun hc133 => ?_) (fun hc133 => by exfalso; revert hc133; decide)
        refine w_iload X145 (pc' := 147) at_145 rfl rfl ?_
        refine w_iconst X145 (pc' := 148) (3 : Int32) at_147 rfl rfl ?_
        refine w_icmp_ne X145 156 151 at_148 (by decide) rfl rfl (fun hc148 => ?_) (fun hc148 => by exfalso; revert hc148; decide)
        refine w_iload X145 (pc' := 158) at_156 rfl rfl ?_
        refine w_if_eq X145 166 161 at_158 (by decide) rfl rfl (fun hc158 => ?_) (fun hc158 => by exfalso; revert hc158; decide)
        refine w_iload X145 (pc' := 168) at_166 rfl rfl ?_
        refine w_if_eq X145 176 171 at_168 (by decide) rfl rfl (fun hc168 => ?_) (fun hc168 => by exfalso; revert hc168; decide)
        refine w_iload X145 (pc' := 178) at_176 rfl rfl ?_
        refine w_istore X145 (pc' := 180) (l' := #[.val (.int p1), .val (.int p2), .val (.int p3), .val (.int p4), .val (.int p5), .val (.ref b1), .val (.ref b3), .val (.ref b5), .val (.ref b7), .val (.int (2 : Int32)), .val (.int (1 : Int32)), .val (.int (0 : Int32)), .val (.ref b133), .val (.int (2 : Int32)), .unset, .unset]) at_178 rfl rfl ?_
        refine w_aconst_null X145 (pc' := 181) at_180 rfl ?_
        refine w_astore X145 (pc' := 183) (l' := #[.val (.int p1), .val (.int p2), .val (.int p3), .val (.int p4), .val (.int p5), .val (.ref b1), .val (.ref b3), .val (.ref b5), .val (.ref b7), .val (.int (2 : Int32)), .val (.int (1 : Int32)), .val (.int (0 : Int32)), .val (.ref b133), .val (.int (2 : Int32)), .val .null, .unset]) at_181 rfl rfl rfl ?_
        refine w_iload X145 (pc' := 185) at_183 rfl rfl ?_
        refine w_iconst X145 (pc' := 186) (3 : Int32) at_185 rfl rfl ?_
        refine w_icmp_lt X145 206 189 at_186 (by decide) rfl rfl (fun hc186 => ?_) (fun hc186 => by exfalso; revert hc186; decide)
        refine w_iload X145 (pc' := 208) at_206 rfl rfl ?_
        refine w_iconst X145 (pc' := 209) (2 : Int32) at_208 rfl rfl ?_
        refine w_icmp_lt X145 229 212 at_209 (by decide) rfl rfl (fun hc209 => by exfalso; revert hc209; decide) (fun hc209 => ?_)
        refine w_aload X145 (pc' := 214) at_212 rfl rfl rfl ?_
        refine w_aload X145 (pc' := 216) at_214 rfl rfl rfl ?_
        refine w_virtualV X145 (pc' := 219) at_216 (rm_eq hw (h0 := h145) (sd_size X145) b3 b7 S3_146 S7_146 (Sta.ext (sd_ext X145 hs0 Zn) S_c) hzc) (hw _ (List.mem_of_getElem? (i := 91) rfl)) (hw _ (List.mem_of_getElem? (i := 92) rfl)) (hw _ (List.mem_of_getElem? (i := 94) rfl)) (hw _ (List.mem_of_getElem? (i := 93) rfl)) (hw _ (List.mem_of_getElem? (i := 5) rfl)) (hw _ (List.mem_of_getElem? (i := 95) rfl)) S3_146.exa (by decide) [(.ref b7)] [] pd_17 rfl rfl rfl rfl 0 (Nat.le_refl _) (by decide) (by decide) (by decide) (by decide) rfl fun T147 h147 v147 X147 q147 => ?_
        obtain ⟨rfl, rfl⟩ := q147
        refine w_if_eq X147 229 222 at_219 (by decide) rfl rfl (fun hc219 => ?_) (fun hc219 => ?_)
        · skip
          refine w_iload X147 (pc' := 231) at_229 rfl rfl ?_
          refine w_iconst X147 (pc' := 232) (1 : Int32) at_231 rfl rfl ?_
          refine w_icmp_lt X147 249 235 at_232 (by decide) rfl rfl (fun hc232 => by exfalso; revert hc232; decide) (fun hc232 => ?_)
          refine w_aload X147 (pc' := 237) at_235 rfl rfl rfl ?_
          refine w_aload X147 (pc' := 239) at_237 rfl rfl rfl ?_
          refine w_virtualV X147 (pc' := 242) at_239 (rm_eq hw (h0 := h145) (sd_size X147) b1 b7 S1_146 S7_146 (Sta.ext (sd_ext X147 hs0 Zn) S_c) hzc) (hw _ (List.mem_of_getElem? (i := 91) rfl)) (hw _ (List.mem_of_getElem? (i := 92) rfl)) (hw _ (List.mem_of_getElem? (i := 94) rfl)) (hw _ (List.mem_of_getElem? (i := 93) rfl)) (hw _ (List.mem_of_getElem? (i := 5) rfl)) (hw _ (List.mem_of_getElem? (i := 95) rfl)) S1_146.exa (by decide) [(.ref b7)] [] pd_17 rfl rfl rfl rfl 0 (Nat.le_refl _) (by decide) (by decide) (by decide) (by decide) rfl fun T148 h148 v148 X148 q148 => ?_
          obtain ⟨rfl, rfl⟩ := q148
          refine w_if_eq X148 249 245 at_242 (by decide) rfl rfl (fun hc242 => ?_) (fun hc242 => ?_)
          · skip
            refine w_aload X148 (pc' := 251) at_249 rfl rfl rfl ?_
            refine w_aload X148 (pc' := 253) at_251 rfl rfl rfl ?_
            refine w_virtualV X148 (pc' := 256) at_253 (rm_vo2 hw (h0 := h145) (sd_size X148) b133 b7 B145 (show 2 ≤ 2 by decide) S7_146 (Sta.ext (sd_ext X148 hs0 Zn) S_c) hzc) (hw _ (List.mem_of_getElem? (i := 78) rfl)) (hw _ (List.mem_of_getElem? (i := 79) rfl)) (hw _ (List.mem_of_getElem? (i := 81) rfl)) (hw _ (List.mem_of_getElem? (i := 80) rfl)) (hw _ (List.mem_of_getElem? (i := 57) rfl)) (hw _ (List.mem_of_getElem? (i := 82) rfl)) B145.exa (by decide) [(.ref b7)] [] pd_15 rfl rfl rfl rfl 0 (Nat.le_refl _) (by decide) (by decide) (by decide) (by decide) rfl fun T149 h149 v149 X149 q149 => ?_
            have hv : own_val [(bs1, [(118 : Int32), (48 : Int32)]), (bs3, [(118 : Int32), (49 : Int32)])] bs7 2 = none := (own_vn (es := [(bs1, [(118 : Int32), (48 : Int32)]), (bs3, [(118 : Int32), (49 : Int32)])]) (q := bs7) 1 (show ¬ bs3 = bs7 from own_if0 hc219)).trans ((own_vn (es := [(bs1, [(118 : Int32), (48 : Int32)]), (bs3, [(118 : Int32), (49 : Int32)])]) (q := bs7) 0 (show ¬ bs1 = bs7 from own_if0 hc242)).trans (rfl))
            obtain ⟨hq, rfl⟩ := q149
            rcases hq with ⟨rfl, -⟩ | ⟨r, bs, rfl, Sr, hr⟩
            rotate_left
            · exact absurd (hr.symm.trans hv) (by simp)
            refine w_astore X149 (pc' := 258) (l' := #[.val (.int p1), .val (.int p2), .val (.int p3), .val (.int p4), .val (.int p5), .val (.ref b1), .val (.ref b3), .val (.ref b5), .val (.ref b7), .val (.int (2 : Int32)), .val (.int (1 : Int32)), .val (.int (0 : Int32)), .val (.ref b133), .val (.int (2 : Int32)), .val .null, .val .null]) at_256 rfl rfl rfl ?_
            refine w_aload X149 (pc' := 260) at_258 rfl rfl rfl ?_
            refine w_ifnonnullN X149 (pc' := 263) at_260 rfl ?_
            refine w_aload X149 (pc' := 265) at_263 rfl rfl rfl ?_
            refine w_ifnonnullN X149 (pc' := 268) at_265 rfl ?_
            refine w_iconst X149 (pc' := 269) (1 : Int32) at_268 rfl rfl ?_
            refine w_goto X149 (pc' := 273) at_269 (by decide) rfl ?_
            exact w_zreturnW X149 F143_146 (own_hEL hw) at_273 rfl (by decide) (by decide)
          · skip
            refine w_ldcW X148 F143_146 (pc' := 247) (text := "v0") [(118 : Int32), (48 : Int32)] 8 at_245 (hw _ (List.mem_of_getElem? (i := 83) rfl)) (own_wS hw) (own_hEL hw) (List.mem_of_getElem? (i := 1) rfl) (by decide) (by decide) (by decide) (by decide) (by decide) (by decide) rfl fun T150 h150 vm150 a150 X150 F150 E150 S150 => ?_
            have S1_151 := S1_146.ext E150
            have S3_151 := S3_146.ext E150
            have S5_151 := S5_146.ext E150
            have S7_151 := S7_146.ext E150
            have B145_151 := B145.ext E150
            refine w_astore X150 (pc' := 249) (l' := #[.val (.int p1), .val (.int p2), .val (.int p3), .val (.int p4), .val (.int p5), .val (.ref b1), .val (.ref b3), .val (.ref b5), .val (.ref b7), .val (.int (2 : Int32)), .val (.int (1 : Int32)), .val (.int (0 : Int32)), .val (.ref b133), .val (.int (2 : Int32)), .val (.ref a150), .unset]) at_247 rfl rfl rfl ?_
            refine w_aload X150 (pc' := 251) at_249 rfl rfl rfl ?_
            refine w_aload X150 (pc' := 253) at_251 rfl rfl rfl ?_
            refine w_virtualV X150 (pc' := 256) at_253 (rm_vo2 hw (h0 := h150) (sd_size X150) b133 b7 B145_151 (show 2 ≤ 2 by decide) S7_151 (Sta.ext (sd_ext X150 hs0 Zn) S_c) hzc) (hw _ (List.mem_of_getElem? (i := 78) rfl)) (hw _ (List.mem_of_getElem? (i := 79) rfl)) (hw _ (List.mem_of_getElem? (i := 81) rfl)) (hw _ (List.mem_of_getElem? (i := 80) rfl)) (hw _ (List.mem_of_getElem? (i := 57) rfl)) (hw _ (List.mem_of_getElem? (i := 82) rfl)) B145_151.exa (by decide) [(.ref b7)] [] pd_15 rfl rfl rfl rfl 0 (Nat.le_refl _) (by decide) (by decide) (by decide) (by decide) rfl fun T152 h152 v152 X152 q152 => ?_
            have hv : own_val [(bs1, [(118 : Int32), (48 : Int32)]), (bs3, [(118 : Int32), (49 : Int32)])] bs7 2 = some [(118 : Int32), (48 : Int32)] := (own_vn (es := [(bs1, [(118 : Int32), (48 : Int32)]), (bs3, [(118 : Int32), (49 : Int32)])]) (q := bs7) 1 (show ¬ bs3 = bs7 from own_if0 hc219)).trans (own_vp (es := [(bs1, [(118 : Int32), (48 : Int32)]), (bs3, [(118 : Int32), (49 : Int32)])]) (q := bs7) 0 (show bs1 = bs7 from own_if1 hc242))
            obtain ⟨hq, rfl⟩ := q152
            rcases hq with ⟨rfl, hr⟩ | ⟨r, bs, rfl, Sr, hr⟩
            · exact absurd (hr.symm.trans hv) (by simp)
            obtain rfl : bs = [(118 : Int32), (48 : Int32)] := Option.some.inj (hr.symm.trans hv)
            refine w_astore X152 (pc' := 258) (l' := #[.val (.int p1), .val (.int p2), .val (.int p3), .val (.int p4), .val (.int p5), .val (.ref b1), .val (.ref b3), .val (.ref b5), .val (.ref b7), .val (.int (2 : Int32)), .val (.int (1 : Int32)), .val (.int (0 : Int32)), .val (.ref b133), .val (.int (2 : Int32)), .val (.ref a150), .val (.ref r)]) at_256 rfl rfl rfl ?_
            refine w_aload X152 (pc' := 260) at_258 rfl rfl rfl ?_
            refine w_ifnonnullY X152 (pc' := 274) at_260 (by decide) rfl ?_
            refine w_aload X152 (pc' := 276) at_274 rfl rfl rfl ?_
            refine w_aload X152 (pc' := 278) at_276 rfl rfl rfl ?_
            refine w_virtualV X152 (pc' := 281) at_278 (rm_eq hw (h0 := h150) (sd_size X152) a150 r S150 Sr (Sta.ext (sd_ext X152 hs0 Zn) S_c) hzc) (hw _ (List.mem_of_getElem? (i := 91) rfl)) (hw _ (List.mem_of_getElem? (i := 92) rfl)) (hw _ (List.mem_of_getElem? (i := 94) rfl)) (hw _ (List.mem_of_getElem? (i := 93) rfl)) (hw _ (List.mem_of_getElem? (i := 5) rfl)) (hw _ (List.mem_of_getElem? (i := 95) rfl)) S150.exa (by decide) [(.ref r)] [] pd_17 rfl rfl rfl rfl 0 (Nat.le_refl _) (by decide) (by decide) (by decide) (by decide) rfl fun T153 h153 v153 X153 q153 => ?_
            obtain ⟨rfl, rfl⟩ := q153
            exact w_zreturnW X153 F150 (own_hEL hw) at_281 (by rw [if_pos rfl]; rfl) (by decide) (by decide)
        · skip
          refine w_ldcW X147 F143_146 (pc' := 224) (text := "v1") [(118 : Int32), (49 : Int32)] 8 at_222 (hw _ (List.mem_of_getElem? (i := 89) rfl)) (own_wS hw) (own_hEL hw) (List.mem_of_getElem? (i := 2) rfl) (by decide) (by decide) (by decide) (by decide) (by decide) (by decide) rfl fun T154 h154 vm154 a154 X154 F154 E154 S154 => ?_
          have S1_155 := S1_146.ext E154
          have S3_155 := S3_146.ext E154
          have S5_155 := S5_146.ext E154
          have S7_155 := S7_146.ext E154
          have B145_155 := B145.ext E154
          refine w_astore X154 (pc' := 226) (l' := #[.val (.int p1), .val (.int p2), .val (.int p3), .val (.int p4), .val (.int p5), .val (.ref b1), .val (.ref b3), .val (.ref b5), .val (.ref b7), .val (.int (2 : Int32)), .val (.int (1 : Int32)), .val (.int (0 : Int32)), .val (.ref b133), .val (.int (2 : Int32)), .val (.ref a154), .unset]) at_224 rfl rfl rfl ?_
          refine w_goto X154 (pc' := 249) at_226 (by decide) rfl ?_
          refine w_aload X154 (pc' := 251) at_249 rfl rfl rfl ?_
          refine w_aload X154 (pc' := 253) at_251 rfl rfl rfl ?_
          refine w_virtualV X154 (pc' := 256) at_253 (rm_vo2 hw (h0 := h154) (sd_size X154) b133 b7 B145_155 (show 2 ≤ 2 by decide) S7_155 (Sta.ext (sd_ext X154 hs0 Zn) S_c) hzc) (hw _ (List.mem_of_getElem? (i := 78) rfl)) (hw _ (List.mem_of_getElem? (i := 79) rfl)) (hw _ (List.mem_of_getElem? (i := 81) rfl)) (hw _ (List.mem_of_getElem? (i := 80) rfl)) (hw _ (List.mem_of_getElem? (i := 57) rfl)) (hw _ (List.mem_of_getElem? (i := 82) rfl)) B145_155.exa (by decide) [(.ref b7)] [] pd_15 rfl rfl rfl rfl 0 (Nat.le_refl _) (by decide) (by decide) (by decide) (by decide) rfl fun T156 h156 v156 X156 q156 => ?_
          have hv : own_val [(bs1, [(118 : Int32), (48 : Int32)]), (bs3, [(118 : Int32), (49 : Int32)])] bs7 2 = some [(118 : Int32), (49 : Int32)] := own_vp (es := [(bs1, [(118 : Int32), (48 : Int32)]), (bs3, [(118 : Int32), (49 : Int32)])]) (q := bs7) 1 (show bs3 = bs7 from own_if1 hc219)
          obtain ⟨hq, rfl⟩ := q156
          rcases hq with ⟨rfl, hr⟩ | ⟨r, bs, rfl, Sr, hr⟩
          · exact absurd (hr.symm.trans hv) (by simp)
          obtain rfl : bs = [(118 : Int32), (49 : Int32)] := Option.some.inj (hr.symm.trans hv)
          refine w_astore X156 (pc' := 258) (l' := #[.val (.int p1), .val (.int p2), .val (.int p3), .val (.int p4), .val (.int p5), .val (.ref b1), .val (.ref b3), .val (.ref b5), .val (.ref b7), .val (.int (2 : Int32)), .val (.int (1 : Int32)), .val (.int (0 : Int32)), .val (.ref b133), .val (.int (2 : Int32)), .val (.ref a154), .val (.ref r)]) at_256 rfl rfl rfl ?_
          refine w_aload X156 (pc' := 260) at_258 rfl rfl rfl ?_
          refine w_ifnonnullY X156 (pc' := 274) at_260 (by decide) rfl ?_
          refine w_aload X156 (pc' := 276) at_274 rfl rfl rfl ?_
          refine w_aload X156 (pc' := 278) at_276 rfl rfl rfl ?_
          refine w_virtualV X156 (pc' := 281) at_278 (rm_eq hw (h0 := h154) (sd_size X156) a154 r S154 Sr (Sta.ext (sd_ext X156 hs0 Zn) S_c) hzc) (hw _ (List.mem_of_getElem? (i := 91) rfl)) (hw _ (List.mem_of_getElem? (i := 92) rfl)) (hw _ (List.mem_of_getElem? (i := 94) rfl)) (hw _ (List.mem_of_getElem? (i := 93) rfl)) (hw _ (List.mem_of_getElem? (i := 5) rfl)) (hw _ (List.mem_of_getElem? (i := 95) rfl)) S154.exa (by decide) [(.ref r)] [] pd_17 rfl rfl rfl rfl 0 (Nat.le_refl _) (by decide) (by decide) (by decide) (by decide) rfl fun T157 h157 v157 X157 q157 => ?_
          obtain ⟨rfl, rfl⟩ := q157
          exact w_zreturnW X157 F154 (own_hEL hw) at_281 (by rw [if_pos rfl]; rfl) (by decide) (by decide)
      · skip
        refine w_iconst X90 (pc' := 53) (1 : Int32) at_52 rfl rfl ?_
        refine w_goto X90 (pc' := 57) at_53 (by decide) rfl ?_
        refine w_istore X90 (pc' := 59) (l' := #[.val (.int p1), .val (.int p2), .val (.int p3), .val (.int p4), .val (.int p5), .val (.ref b1), .val (.ref b3), .val (.ref b5), .val (.ref b7), .val (.int (2 : Int32)), .val (.int (1 : Int32)), .val (.int (1 : Int32)), .unset, .unset, .unset, .unset]) at_57 rfl rfl ?_
        refine w_new X90 (pc' := 62) at_59 (hw _ (List.mem_of_getElem? (i := 55) rfl)) (hw _ (List.mem_of_getElem? (i := 56) rfl)) (hw _ (List.mem_of_getElem? (i := 57) rfl)) (by decide) (by decide) rfl fun T158 h158 b158 g158 gn158 X158 E158 A158 D158 => ?_
        have sf_b158 := F7.safe_new E158 g158
        have S1_159 := S1_8.ext E158
        have S3_159 := S3_8.ext E158
        have S5_159 := S5_8.ext E158
        have S7_159 := S7.ext E158
        have F7_159 := F7.ext E158
        have Fpairs_158 : Fld Z h158 b158 "com/example/raja/raja/xml/CanonicalWriter$Bindings" "pairs" "[Ljava/lang/String;" .null := D158 (Or.inl (hw _ (List.mem_of_getElem? (i := 65) rfl))) (ty := (.array (.object "java/lang/String"))) (by decide)
        have Fmarks_158 : Fld Z h158 b158 "com/example/raja/raja/xml/CanonicalWriter$Bindings" "marks" "[I" .null := D158 (Or.inl (hw _ (List.mem_of_getElem? (i := 68) rfl))) (ty := (.array .int)) (by decide)
        have Fdepth_158 : Fld Z h158 b158 "com/example/raja/raja/xml/CanonicalWriter$Bindings" "depth" "I" (.int (0 : Int32)) := D158 (Or.inl (hw _ (List.mem_of_getElem? (i := 75) rfl))) (ty := .int) (by decide)
        have Fsize_158 : Fld Z h158 b158 "com/example/raja/raja/xml/CanonicalWriter$Bindings" "size" "I" (.int (0 : Int32)) := D158 (Or.inl (hw _ (List.mem_of_getElem? (i := 77) rfl))) (ty := .int) (by decide)
        refine w_dup X158 (pc' := 63) at_62 rfl rfl ?_
        refine w_specialN X158 (pc' := 66) at_63 (rm_init hw (h0 := h158) (sd_size X158) b158 A158 Fpairs_158 Fmarks_158 Fsize_158 Fdepth_158 gn158) (hw _ (List.mem_of_getElem? (i := 58) rfl)) (hw _ (List.mem_of_getElem? (i := 59) rfl)) (hw _ (List.mem_of_getElem? (i := 57) rfl)) (hw _ (List.mem_of_getElem? (i := 60) rfl)) rfl (by decide) [] [(.ref b158)] pd_13 rfl rfl rfl rfl 1 (Nat.le_refl _) (by decide) (by decide) (by decide) (by decide) rfl fun T160 h160 X160 q160 => ?_
        obtain ⟨K160, B160⟩ := q160
        have S1_161 := S1_159.keep K160 (ap1 (Apart.obj A158 (hw _ (List.mem_of_getElem? (i := 56) rfl)) (by decide) (by decide)))
        have S3_161 := S3_159.keep K160 (ap1 (Apart.obj A158 (hw _ (List.mem_of_getElem? (i := 56) rfl)) (by decide) (by decide)))
        have S5_161 := S5_159.keep K160 (ap1 (Apart.obj A158 (hw _ (List.mem_of_getElem? (i := 56) rfl)) (by decide) (by decide)))
        have S7_161 := S7_159.keep K160 (ap1 (Apart.obj A158 (hw _ (List.mem_of_getElem? (i := 56) rfl)) (by decide) (by decide)))
        have F7_161 := F7_159.kp X160 K160 (ap1 (Apart.obj A158 (hw _ (List.mem_of_getElem? (i := 56) rfl)) (by decide) (by decide)))
        have A158_161 := A158.keep K160
        refine w_astore X160 (pc' := 68) (l' := #[.val (.int p1), .val (.int p2), .val (.int p3), .val (.int p4), .val (.int p5), .val (.ref b1), .val (.ref b3), .val (.ref b5), .val (.ref b7), .val (.int (2 : Int32)), .val (.int (1 : Int32)), .val (.int (1 : Int32)), .val (.ref b158), .unset, .unset, .unset]) at_66 rfl rfl rfl ?_
        refine w_iload X160 (pc' := 70) at_68 rfl rfl ?_
        refine w_if_ne X160 78 73 at_70 (by decide) rfl rfl (fun hc70 => ?_) (fun hc70 => by exfalso; revert hc70; decide)
        refine w_iload X160 (pc' := 80) at_78 rfl rfl ?_
        refine w_iconst X160 (pc' := 81) (1 : Int32) at_80 rfl rfl ?_
        refine w_icmp_lt X160 93 84 at_81 (by decide) rfl rfl (fun hc81 => by exfalso; revert hc81; decide) (fun hc81 => ?_)
        refine w_aload X160 (pc' := 86) at_84 rfl rfl rfl ?_
        refine w_aload X160 (pc' := 88) at_86 rfl rfl rfl ?_
        refine w_ldcW X160 F7_161 (pc' := 90) (text := "v0") [(118 : Int32), (48 : Int32)] 8 at_88 (hw _ (List.mem_of_getElem? (i := 83) rfl)) (own_wS hw) (own_hEL hw) (List.mem_of_getElem? (i := 1) rfl) (by decide) (by decide) (by decide) (by decide) (by decide) (by decide) rfl fun T162 h162 vm162 a162 X162 F162 E162 S162 => ?_
        have S1_163 := S1_161.ext E162
        have S3_163 := S3_161.ext E162
        have S5_163 := S5_161.ext E162
        have S7_163 := S7_161.ext E162
        have B160_163 := B160.ext E162
        refine w_virtualN X162 (pc' := 93) at_90 (rm_push hw (h0 := h162) (sd_size X162) b158 b1 a162 B160_163 (show 0 < 8 by decide) S1_163 S162) (hw _ (List.mem_of_getElem? (i := 84) rfl)) (hw _ (List.mem_of_getElem? (i := 85) rfl)) (hw _ (List.mem_of_getElem? (i := 87) rfl)) (hw _ (List.mem_of_getElem? (i := 86) rfl)) (hw _ (List.mem_of_getElem? (i := 57) rfl)) (hw _ (List.mem_of_getElem? (i := 88) rfl)) B160_163.exa (by decide) [(.ref b1), (.ref a162)] [] pd_16 rfl rfl rfl rfl 0 (Nat.le_refl _) (by decide) (by decide) (by decide) (by decide) rfl fun T164 h164 X164 q164 => ?_
        obtain ⟨⟨ws164, K164, P164⟩, B164⟩ := q164
        have S1_165 := S1_163.keep K164 P164
        have S3_165 := S3_163.keep K164 P164
        have S5_165 := S5_163.keep K164 P164
        have S7_165 := S7_163.keep K164 P164
        have F162_165 := F162.kp X164 K164 P164
        replace B164 : BD Z n0 h164 b158 [(bs1, [(118 : Int32), (48 : Int32)])] 1 0 0 := B164
        refine w_iload X164 (pc' := 95) at_93 rfl rfl ?_
        refine w_iconst X164 (pc' := 96) (1 : Int32) at_95 rfl rfl ?_
        refine w_icmp_ne X164 104 99 at_96 (by decide) rfl rfl (fun hc96 => by exfalso; revert hc96; decide) (fun hc96 => ?_)
        refine w_aload X164 (pc' := 101) at_99 rfl rfl rfl ?_
        refine w_virtualN X164 (pc' := 104) at_101 (rm_open hw (h0 := h164) (sd_size X164) b158 B164) (hw _ (List.mem_of_getElem? (i := 69) rfl)) (hw _ (List.mem_of_getElem? (i := 70) rfl)) (hw _ (List.mem_of_getElem? (i := 72) rfl)) (hw _ (List.mem_of_getElem? (i := 71) rfl)) (hw _ (List.mem_of_getElem? (i := 57) rfl)) (hw _ (List.mem_of_getElem? (i := 73) rfl)) B164.exa (by decide) [] [] pd_14 rfl rfl rfl rfl 0 (Nat.le_refl _) (by decide) (by decide) (by decide) (by decide) rfl fun T166 h166 X166 q166 => ?_
        obtain ⟨⟨ws166, K166, P166⟩, B166⟩ := q166
        have S1_167 := S1_165.keep K166 P166
        have S3_167 := S3_165.keep K166 P166
        have S5_167 := S5_165.keep K166 P166
        have S7_167 := S7_165.keep K166 P166
        have F162_167 := F162_165.kp X166 K166 P166
        replace B166 : BD Z n0 h166 b158 [(bs1, [(118 : Int32), (48 : Int32)])] 1 1 1 := B166
        refine w_iload X166 (pc' := 106) at_104 rfl rfl ?_
        refine w_iconst X166 (pc' := 107) (2 : Int32) at_106 rfl rfl ?_
        refine w_icmp_lt X166 119 110 at_107 (by decide) rfl rfl (fun hc107 => by exfalso; revert hc107; decide) (fun hc107 => ?_)
        refine w_aload X166 (pc' := 112) at_110 rfl rfl rfl ?_
        refine w_aload X166 (pc' := 114) at_112 rfl rfl rfl ?_
        refine w_ldcW X166 F162_167 (pc' := 116) (text := "v1") [(118 : Int32), (49 : Int32)] 8 at_114 (hw _ (List.mem_of_getElem? (i := 89) rfl)) (own_wS hw) (own_hEL hw) (List.mem_of_getElem? (i := 2) rfl) (by decide) (by decide) (by decide) (by decide) (by decide) (by decide) rfl fun T168 h168 vm168 a168 X168 F168 E168 S168 => ?_
        have S1_169 := S1_167.ext E168
        have S3_169 := S3_167.ext E168
        have S5_169 := S5_167.ext E168
        have S7_169 := S7_167.ext E168
        have B166_169 := B166.ext E168
        refine w_virtualN X168 (pc' := 119) at_116 (rm_push hw (h0 := h168) (sd_size X168) b158 b3 a168 B166_169 (show 1 < 8 by decide) S3_169 S168) (hw _ (List.mem_of_getElem? (i := 84) rfl)) (hw _ (List.mem_of_getElem? (i := 85) rfl)) (hw _ (List.mem_of_getElem? (i := 87) rfl)) (hw _ (List.mem_of_getElem? (i := 86) rfl)) (hw _ (List.mem_of_getElem? (i := 57) rfl)) (hw _ (List.mem_of_getElem? (i := 88) rfl)) B166_169.exa (by decide) [(.ref b3), (.ref a168)] [] pd_16 rfl rfl rfl rfl 0 (Nat.le_refl _) (by decide) (by decide) (by decide) (by decide) rfl fun T170 h170 X170 q170 => ?_
        obtain ⟨⟨ws170, K170, P170⟩, B170⟩ := q170
        have S1_171 := S1_169.keep K170 P170
        have S3_171 := S3_169.keep K170 P170
        have S5_171 := S5_169.keep K170 P170
        have S7_171 := S7_169.keep K170 P170
        have F168_171 := F168.kp X170 K170 P170
        replace B170 : BD Z n0 h170 b158 [(bs1, [(118 : Int32), (48 : Int32)]), (bs3, [(118 : Int32), (49 : Int32)])] 2 1 1 := B170
        refine w_iload X170 (pc' := 121) at_119 rfl rfl ?_
        refine w_iconst X170 (pc' := 122) (2 : Int32) at_121 rfl rfl ?_
        refine w_icmp_ne X170 130 125 at_122 (by decide) rfl rfl (fun hc122 => ?_) (fun hc122 => by exfalso; revert hc122; decide)
        refine w_iload X170 (pc' := 132) at_130 rfl rfl ?_
        refine w_iconst X170 (pc' := 133) (3 : Int32) at_132 rfl rfl ?_
        refine w_icmp_lt X170 145 136 at_133 (by decide) rfl rfl (fun hc133 => ?_) (fun hc133 => by exfalso; revert hc133; decide)
        refine w_iload X170 (pc' := 147) at_145 rfl rfl ?_
        refine w_iconst X170 (pc' := 148) (3 : Int32) at_147 rfl rfl ?_
        refine w_icmp_ne X170 156 151 at_148 (by decide) rfl rfl (fun hc148 => ?_) (fun hc148 => by exfalso; revert hc148; decide)
        refine w_iload X170 (pc' := 158) at_156 rfl rfl ?_
        refine w_if_eq X170 166 161 at_158 (by decide) rfl rfl (fun hc158 => by exfalso; revert hc158; decide) (fun hc158 => ?_)
        refine w_aload X170 (pc' := 163) at_161 rfl rfl rfl ?_
        refine w_virtualN X170 (pc' := 166) at_163 (rm_close hw (h0 := h170) (sd_size X170) b158 B170) (hw _ (List.mem_of_getElem? (i := 100) rfl)) (hw _ (List.mem_of_getElem? (i := 101) rfl)) (hw _ (List.mem_of_getElem? (i := 103) rfl)) (hw _ (List.mem_of_getElem? (i := 102) rfl)) (hw _ (List.mem_of_getElem? (i := 57) rfl)) (hw _ (List.mem_of_getElem? (i := 104) rfl)) B170.exa (by decide) [] [] pd_19 rfl rfl rfl rfl 0 (Nat.le_refl _) (by decide) (by decide) (by decide) (by decide) rfl fun T172 h172 X172 q172 => ?_
        obtain ⟨⟨ws172, K172, P172⟩, B172⟩ := q172
        have S1_173 := S1_171.keep K172 P172
        have S3_173 := S3_171.keep K172 P172
        have S5_173 := S5_171.keep K172 P172
        have S7_173 := S7_171.keep K172 P172
        have F168_173 := F168_171.kp X172 K172 P172
        replace B172 : BD Z n0 h172 b158 [(bs1, [(118 : Int32), (48 : Int32)]), (bs3, [(118 : Int32), (49 : Int32)])] 1 0 1 := B172
        refine w_iload X172 (pc' := 168) at_166 rfl rfl ?_
        refine w_if_eq X172 176 171 at_168 (by decide) rfl rfl (fun hc168 => by exfalso; revert hc168; decide) (fun hc168 => ?_)
        refine w_iload X172 (pc' := 173) at_171 rfl rfl ?_
        refine w_goto X172 (pc' := 178) at_173 (by decide) rfl ?_
        refine w_istore X172 (pc' := 180) (l' := #[.val (.int p1), .val (.int p2), .val (.int p3), .val (.int p4), .val (.int p5), .val (.ref b1), .val (.ref b3), .val (.ref b5), .val (.ref b7), .val (.int (2 : Int32)), .val (.int (1 : Int32)), .val (.int (1 : Int32)), .val (.ref b158), .val (.int (1 : Int32)), .unset, .unset]) at_178 rfl rfl ?_
        refine w_aconst_null X172 (pc' := 181) at_180 rfl ?_
        refine w_astore X172 (pc' := 183) (l' := #[.val (.int p1), .val (.int p2), .val (.int p3), .val (.int p4), .val (.int p5), .val (.ref b1), .val (.ref b3), .val (.ref b5), .val (.ref b7), .val (.int (2 : Int32)), .val (.int (1 : Int32)), .val (.int (1 : Int32)), .val (.ref b158), .val (.int (1 : Int32)), .val .null, .unset]) at_181 rfl rfl rfl ?_
        refine w_iload X172 (pc' := 185) at_183 rfl rfl ?_
        refine w_iconst X172 (pc' := 186) (3 : Int32) at_185 rfl rfl ?_
        refine w_icmp_lt X172 206 189 at_186 (by decide) rfl rfl (fun hc186 => ?_) (fun hc186 => by exfalso; revert hc186; decide)
        refine w_iload X172 (pc' := 208) at_206 rfl rfl ?_
        refine w_iconst X172 (pc' := 209) (2 : Int32) at_208 rfl rfl ?_
        refine w_icmp_lt X172 229 212 at_209 (by decide) rfl rfl (fun hc209 => ?_) (fun hc209 => by exfalso; revert hc209; decide)
        refine w_iload X172 (pc' := 231) at_229 rfl rfl ?_
        refine w_iconst X172 (pc' := 232) (1 : Int32) at_231 rfl rfl ?_
        refine w_icmp_lt X172 249 235 at_232 (by decide) rfl rfl (fun hc232 => by exfalso; revert hc232; decide) (fun hc232 => ?_)
        refine w_aload X172 (pc' := 237) at_235 rfl rfl rfl ?_
        refine w_aload X172 (pc' := 239) at_237 rfl rfl rfl ?_
        refine w_virtualV X172 (pc' := 242) at_239 (rm_eq hw (h0 := h172) (sd_size X172) b1 b7 S1_173 S7_173 (Sta.ext (sd_ext X172 hs0 Zn) S_c) hzc) (hw _ (List.mem_of_getElem? (i := 91) rfl)) (hw _ (List.mem_of_getElem? (i := 92) rfl)) (hw _ (List.mem_of_getElem? (i := 94) rfl)) (hw _ (List.mem_of_getElem? (i := 93) rfl)) (hw _ (List.mem_of_getElem? (i := 5) rfl)) (hw _ (List.mem_of_getElem? (i := 95) rfl)) S1_173.exa (by decide) [(.ref b7)] [] pd_17 rfl rfl rfl rfl 0 (Nat.le_refl _) (by decide) (by decide) (by decide) (by decide) rfl fun T174 h174 v174 X174 q174 => ?_
        obtain ⟨rfl, rfl⟩ := q174
        refine w_if_eq X174 249 245 at_242 (by decide) rfl rfl (fun hc242 => ?_) (fun hc242 => ?_)
        · skip
          refine w_aload X174 (pc' := 251) at_249 rfl rfl rfl ?_
          refine w_aload X174 (pc' := 253) at_251 rfl rfl rfl ?_
          refine w_virtualV X174 (pc' := 256) at_253 (rm_vo1 hw (h0 := h172) (sd_size X174) b158 b7 B172 (show 1 ≤ 2 by decide) S7_173 (Sta.ext (sd_ext X174 hs0 Zn) S_c) hzc) (hw _ (List.mem_of_getElem? (i := 78) rfl)) (hw _ (List.mem_of_getElem? (i := 79) rfl)) (hw _ (List.mem_of_getElem? (i := 81) rfl)) (hw _ (List.mem_of_getElem? (i := 80) rfl)) (hw _ (List.mem_of_getElem? (i := 57) rfl)) (hw _ (List.mem_of_getElem? (i := 82) rfl)) B172.exa (by decide) [(.ref b7)] [] pd_15 rfl rfl rfl rfl 0 (Nat.le_refl _) (by decide) (by decide) (by decide) (by decide) rfl fun T175 h175 v175 X175 q175 => ?_
          have hv : own_val [(bs1, [(118 : Int32), (48 : Int32)]), (bs3, [(118 : Int32), (49 : Int32)])] bs7 1 = none := (own_vn (es := [(bs1, [(118 : Int32), (48 : Int32)]), (bs3, [(118 : Int32), (49 : Int32)])]) (q := bs7) 0 (show ¬ bs1 = bs7 from own_if0 hc242)).trans (rfl)
          obtain ⟨hq, rfl⟩ := q175
          rcases hq with ⟨rfl, -⟩ | ⟨r, bs, rfl, Sr, hr⟩
          rotate_left
          · exact absurd (hr.symm.trans hv) (by simp)
          refine w_astore X175 (pc' := 258) (l' := #[.val (.int p1), .val (.int p2), .val (.int p3), .val (.int p4), .val (.int p5), .val (.ref b1), .val (.ref b3), .val (.ref b5), .val (.ref b7), .val (.int (2 : Int32)), .val (.int (1 : Int32)), .val (.int (1 : Int32)), .val (.ref b158), .val (.int (1 : Int32)), .val .null, .val .null]) at_256 rfl rfl rfl ?_
          refine w_aload X175 (pc' := 260) at_258 rfl rfl rfl ?_
          refine w_ifnonnullN X175 (pc' := 263) at_260 rfl ?_
          refine w_aload X175 (pc' := 265) at_263 rfl rfl rfl ?_
          refine w_ifnonnullN X175 (pc' := 268) at_265 rfl ?_
          refine w_iconst X175 (pc' := 269) (1 : Int32) at_268 rfl rfl ?_
          refine w_goto X175 (pc' := 273) at_269 (by decide) rfl ?_
          exact w_zreturnW X175 F168_173 (own_hEL hw) at_273 rfl (by decide) (by decide)
        · skip
          refine w_ldcW X174 F168_173 (pc' := 247) (text := "v0") [(118 : Int32), (48 : Int32)] 8 at_245 (hw _ (List.mem_of_getElem? (i := 83) rfl)) (own_wS hw) (own_hEL hw) (List.mem_of_getElem? (i := 1) rfl) (by decide) (by decide) (by decide) (by decide) (by decide) (by decide) rfl fun T176 h176 vm176 a176 X176 F176 E176 S176 => ?_
          have S1_177 := S1_173.ext E176
          have S3_177 := S3_173.ext E176
          have S5_177 := S5_173.ext E176
          have S7_177 := S7_173.ext E176
          have B172_177 := B172.ext E176
          refine w_astore X176 (pc' := 249) (l' := #[.val (.int p1), .val (.int p2), .val (.int p3), .val (.int p4), .val (.int p5), .val (.ref b1), .val (.ref b3), .val (.ref b5), .val (.ref b7), .val (.int (2 : Int32)), .val (.int (1 : Int32)), .val (.int (1 : Int32)), .val (.ref b158), .val (.int (1 : Int32)), .val (.ref a176), .unset]) at_247 rfl rfl rfl ?_
          refine w_aload X176 (pc' := 251) at_249 rfl rfl rfl ?_
          refine w_aload X176 (pc' := 253) at_251 rfl rfl rfl ?_
          refine w_virtualV X176 (pc' := 256) at_253 (rm_vo1 hw (h0 := h176) (sd_size X176) b158 b7 B172_177 (show 1 ≤ 2 by decide) S7_177 (Sta.ext (sd_ext X176 hs0 Zn) S_c) hzc) (hw _ (List.mem_of_getElem? (i := 78) rfl)) (hw _ (List.mem_of_getElem? (i := 79) rfl)) (hw _ (List.mem_of_getElem? (i := 81) rfl)) (hw _ (List.mem_of_getElem? (i := 80) rfl)) (hw _ (List.mem_of_getElem? (i := 57) rfl)) (hw _ (List.mem_of_getElem? (i := 82) rfl)) B172_177.exa (by decide) [(.ref b7)] [] pd_15 rfl rfl rfl rfl 0 (Nat.le_refl _) (by decide) (by decide) (by decide) (by decide) rfl fun T178 h178 v178 X178 q178 => ?_
          have hv : own_val [(bs1, [(118 : Int32), (48 : Int32)]), (bs3, [(118 : Int32), (49 : Int32)])] bs7 1 = some [(118 : Int32), (48 : Int32)] := own_vp (es := [(bs1, [(118 : Int32), (48 : Int32)]), (bs3, [(118 : Int32), (49 : Int32)])]) (q := bs7) 0 (show bs1 = bs7 from own_if1 hc242)
          obtain ⟨hq, rfl⟩ := q178
          rcases hq with ⟨rfl, hr⟩ | ⟨r, bs, rfl, Sr, hr⟩
          · exact absurd (hr.symm.trans hv) (by simp)
          obtain rfl : bs = [(118 : Int32), (48 : Int32)] := Option.some.inj (hr.symm.trans hv)
          refine w_astore X178 (pc' := 258) (l' := #[.val (.int p1), .val (.int p2), .val (.int p3), .val (.int p4), .val (.int p5), .val (.ref b1), .val (.ref b3), .val (.ref b5), .val (.ref b7), .val (.int (2 : Int32)), .val (.int (1 : Int32)), .val (.int (1 : Int32)), .val (.ref b158), .val (.int (1 : Int32)), .val (.ref a176), .val (.ref r)]) at_256 rfl rfl rfl ?_
          refine w_aload X178 (pc' := 260) at_258 rfl rfl rfl ?_
          refine w_ifnonnullY X178 (pc' := 274) at_260 (by decide) rfl ?_
          refine w_aload X178 (pc' := 276) at_274 rfl rfl rfl ?_
          refine w_aload X178 (pc' := 278) at_276 rfl rfl rfl ?_
          refine w_virtualV X178 (pc' := 281) at_278 (rm_eq hw (h0 := h176) (sd_size X178) a176 r S176 Sr (Sta.ext (sd_ext X178 hs0 Zn) S_c) hzc) (hw _ (List.mem_of_getElem? (i := 91) rfl)) (hw _ (List.mem_of_getElem? (i := 92) rfl)) (hw _ (List.mem_of_getElem? (i := 94) rfl)) (hw _ (List.mem_of_getElem? (i := 93) rfl)) (hw _ (List.mem_of_getElem? (i := 5) rfl)) (hw _ (List.mem_of_getElem? (i := 95) rfl)) S176.exa (by decide) [(.ref r)] [] pd_17 rfl rfl rfl rfl 0 (Nat.le_refl _) (by decide) (by decide) (by decide) (by decide) rfl fun T179 h179 v179 X179 q179 => ?_
          obtain ⟨rfl, rfl⟩ := q179
          exact w_zreturnW X179 F176 (own_hEL hw) at_281 (by rw [if_pos rfl]; rfl) (by decide) (by decide)
    · skip
      show Go p e below _ (T90.setTop (mkF m 43 #[.val (.int p1), .val (.int p2), .val (.int p3), .val (.int p4), .val (.int p5), .val (.ref b1), .val (.ref b3), .val (.ref b5), .val (.ref b7), .val (.int (2 : Int32)), .val (.int (2 : Int32)), .unset, .unset, .unset, .unset, .unset] []))
      refine w_iload X90 (pc' := 45) at_43 rfl rfl ?_
      refine w_iconst X90 (pc' := 46) (4 : Int32) at_45 rfl rfl ?_
      refine w_iushr X90 (pc' := 47) at_46 rfl ?_
      refine w_iconst X90 (pc' := 48) (1 : Int32) at_47 rfl rfl ?_
      refine w_iand X90 (pc' := 49) at_48 rfl ?_
      refine w_if_eq X90 56 52 at_49 (by decide) rfl rfl (fun hc49 => ?_) (fun hc49 => ?_)
      · skip
        refine w_iconst X90 (pc' := 57) (0 : Int32) at_56 rfl rfl ?_
        refine w_istore X90 (pc' := 59) (l' := #[.val (.int p1), .val (.int p2), .val (.int p3), .val (.int p4), .val (.int p5), .val (.ref b1), .val (.ref b3), .val (.ref b5), .val (.ref b7), .val (.int (2 : Int32)), .val (.int (2 : Int32)), .val (.int (0 : Int32)), .unset, .unset, .unset, .unset]) at_57 rfl rfl ?_
        refine w_new X90 (pc' := 62) at_59 (hw _ (List.mem_of_getElem? (i := 55) rfl)) (hw _ (List.mem_of_getElem? (i := 56) rfl)) (hw _ (List.mem_of_getElem? (i := 57) rfl)) (by decide) (by decide) rfl fun T180 h180 b180 g180 gn180 X180 E180 A180 D180 => ?_
        have sf_b180 := F7.safe_new E180 g180
        have S1_181 := S1_8.ext E180
        have S3_181 := S3_8.ext E180
        have S5_181 := S5_8.ext E180
        have S7_181 := S7.ext E180
        have F7_181 := F7.ext E180
        have Fpairs_180 : Fld Z h180 b180 "com/example/raja/raja/xml/CanonicalWriter$Bindings" "pairs" "[Ljava/lang/String;" .null := D180 (Or.inl (hw _ (List.mem_of_getElem? (i := 65) rfl))) (ty := (.array (.object "java/lang/String"))) (by decide)
        have Fmarks_180 : Fld Z h180 b180 "com/example/raja/raja/xml/CanonicalWriter$Bindings" "marks" "[I" .null := D180 (Or.inl (hw _ (List.mem_of_getElem? (i := 68) rfl))) (ty := (.array .int)) (by decide)
        have Fdepth_180 : Fld Z h180 b180 "com/example/raja/raja/xml/CanonicalWriter$Bindings" "depth" "I" (.int (0 : Int32)) := D180 (Or.inl (hw _ (List.mem_of_getElem? (i := 75) rfl))) (ty := .int) (by decide)
        have Fsize_180 : Fld Z h180 b180 "com/example/raja/raja/xml/CanonicalWriter$Bindings" "size" "I" (.int (0 : Int32)) := D180 (Or.inl (hw _ (List.mem_of_getElem? (i := 77) rfl))) (ty := .int) (by decide)
        refine w_dup X180 (pc' := 63) at_62 rfl rfl ?_
        refine w_specialN X180 (pc' := 66) at_63 (rm_init hw (h0 := h180) (sd_size X180) b180 A180 Fpairs_180 Fmarks_180 Fsize_180 Fdepth_180 gn180) (hw _ (List.mem_of_getElem? (i := 58) rfl)) (hw _ (List.mem_of_getElem? (i := 59) rfl)) (hw _ (List.mem_of_getElem? (i := 57) rfl)) (hw _ (List.mem_of_getElem? (i := 60) rfl)) rfl (by decide) [] [(.ref b180)] pd_13 rfl rfl rfl rfl 1 (Nat.le_refl _) (by decide) (by decide) (by decide) (by decide) rfl fun T182 h182 X182 q182 => ?_
        obtain ⟨K182, B182⟩ := q182
        have S1_183 := S1_181.keep K182 (ap1 (Apart.obj A180 (hw _ (List.mem_of_getElem? (i := 56) rfl)) (by decide) (by decide)))
        have S3_183 := S3_181.keep K182 (ap1 (Apart.obj A180 (hw _ (List.mem_of_getElem? (i := 56) rfl)) (by decide) (by decide)))
        have S5_183 := S5_181.keep K182 (ap1 (Apart.obj A180 (hw _ (List.mem_of_getElem? (i := 56) rfl)) (by decide) (by decide)))
        have S7_183 := S7_181.keep K182 (ap1 (Apart.obj A180 (hw _ (List.mem_of_getElem? (i := 56) rfl)) (by decide) (by decide)))
        have F7_183 := F7_181.kp X182 K182 (ap1 (Apart.obj A180 (hw _ (List.mem_of_getElem? (i := 56) rfl)) (by decide) (by decide)))
        have A180_183 := A180.keep K182
        refine w_astore X182 (pc' := 68) (l' := #[.val (.int p1), .val (.int p2), .val (.int p3), .val (.int p4), .val (.int p5), .val (.ref b1), .val (.ref b3), .val (.ref b5), .val (.ref b7), .val (.int (2 : Int32)), .val (.int (2 : Int32)), .val (.int (0 : Int32)), .val (.ref b180), .unset, .unset, .unset]) at_66 rfl rfl rfl ?_
        refine w_iload X182 (pc' := 70) at_68 rfl rfl ?_
        refine w_if_ne X182 78 73 at_70 (by decide) rfl rfl (fun hc70 => ?_) (fun hc70 => by exfalso; revert hc70; decide)
        refine w_iload X182 (pc' := 80) at_78 rfl rfl ?_
        refine w_iconst X182 (pc' := 81) (1 : Int32) at_80 rfl rfl ?_
        refine w_icmp_lt X182 93 84 at_81 (by decide) rfl rfl (fun hc81 => by exfalso; revert hc81; decide) (fun hc81 => ?_)
        refine w_aload X182 (pc' := 86) at_84 rfl rfl rfl ?_
        refine w_aload X182 (pc' := 88) at_86 rfl rfl rfl ?_
        refine w_ldcW X182 F7_183 (pc' := 90) (text := "v0") [(118 : Int32), (48 : Int32)] 8 at_88 (hw _ (List.mem_of_getElem? (i := 83) rfl)) (own_wS hw) (own_hEL hw) (List.mem_of_getElem? (i := 1) rfl) (by decide) (by decide) (by decide) (by decide) (by decide) (by decide) rfl fun T184 h184 vm184 a184 X184 F184 E184 S184 => ?_
        have S1_185 := S1_183.ext E184
        have S3_185 := S3_183.ext E184
        have S5_185 := S5_183.ext E184
        have S7_185 := S7_183.ext E184
        have B182_185 := B182.ext E184
        refine w_virtualN X184 (pc' := 93) at_90 (rm_push hw (h0 := h184) (sd_size X184) b180 b1 a184 B182_185 (show 0 < 8 by decide) S1_185 S184) (hw _ (List.mem_of_getElem? (i := 84) rfl)) (hw _ (List.mem_of_getElem? (i := 85) rfl)) (hw _ (List.mem_of_getElem? (i := 87) rfl)) (hw _ (List.mem_of_getElem? (i := 86) rfl)) (hw _ (List.mem_of_getElem? (i := 57) rfl)) (hw _ (List.mem_of_getElem? (i := 88) rfl)) B182_185.exa (by decide) [(.ref b1), (.ref a184)] [] pd_16 rfl rfl rfl rfl 0 (Nat.le_refl _) (by decide) (by decide) (by decide) (by decide) rfl fun T186 h186 X186 q186 => ?_
        obtain ⟨⟨ws186, K186, P186⟩, B186⟩ := q186
        have S1_187 := S1_185.keep K186 P186
        have S3_187 := S3_185.keep K186 P186
        have S5_187 := S5_185.keep K186 P186
        have S7_187 := S7_185.keep K186 P186
        have F184_187 := F184.kp X186 K186 P186
        replace B186 : BD Z n0 h186 b180 [(bs1, [(118 : Int32), (48 : Int32)])] 1 0 0 := B186
        refine w_iload X186 (pc' := 95) at_93 rfl rfl ?_
        refine w_iconst X186 (pc' := 96) (1 : Int32) at_95 rfl rfl ?_
        refine w_icmp_ne X186 104 99 at_96 (by decide) rfl rfl (fun hc96 => ?_) (fun hc96 => by exfalso; revert hc96; decide)
        refine w_iload X186 (pc' := 106) at_104 rfl rfl ?_
        refine w_iconst X186 (pc' := 107) (2 : Int32) at_106 rfl rfl ?_
        refine w_icmp_lt X186 119 110 at_107 (by decide) rfl rfl (fun hc107 => by exfalso; revert hc107; decide) (fun hc107 => ?_)
        refine w_aload X186 (pc' := 112) at_110 rfl rfl rfl ?_
        refine w_aload X186 (pc' := 114) at_112 rfl rfl rfl ?_
        refine w_ldcW X186 F184_187 (pc' := 116) (text := "v1") [(118 : Int32), (49 : Int32)] 8 at_114 (hw _ (List.mem_of_getElem? (i := 89) rfl)) (own_wS hw) (own_hEL hw) (List.mem_of_getElem? (i := 2) rfl) (by decide) (by decide) (by decide) (by decide) (by decide) (by decide) rfl fun T188 h188 vm188 a188 X188 F188 E188 S188 => ?_
        have S1_189 := S1_187.ext E188
        have S3_189 := S3_187.ext E188
        have S5_189 := S5_187.ext E188
        have S7_189 := S7_187.ext E188
        have B186_189 := B186.ext E188
        refine w_virtualN X188 (pc' := 119) at_116 (rm_push hw (h0 := h188) (sd_size X188) b180 b3 a188 B186_189 (show 1 < 8 by decide) S3_189 S188) (hw _ (List.mem_of_getElem? (i := 84) rfl)) (hw _ (List.mem_of_getElem? (i := 85) rfl)) (hw _ (List.mem_of_getElem? (i := 87) rfl)) (hw _ (List.mem_of_getElem? (i := 86) rfl)) (hw _ (List.mem_of_getElem? (i := 57) rfl)) (hw _ (List.mem_of_getElem? (i := 88) rfl)) B186_189.exa (by decide) [(.ref b3), (.ref a188)] [] pd_16 rfl rfl rfl rfl 0 (Nat.le_refl _) (by decide) (by decide) (by decide) (by decide) rfl fun T190 h190 X190 q190 => ?_
        obtain ⟨⟨ws190, K190, P190⟩, B190⟩ := q190
        have S1_191 := S1_189.keep K190 P190
        have S3_191 := S3_189.keep K190 P190
        have S5_191 := S5_189.keep K190 P190
        have S7_191 := S7_189.keep K190 P190
        have F188_191 := F188.kp X190 K190 P190
        replace B190 : BD Z n0 h190 b180 [(bs1, [(118 : Int32), (48 : Int32)]), (bs3, [(118 : Int32), (49 : Int32)])] 2 0 0 := B190
        refine w_iload X190 (pc' := 121) at_119 rfl rfl ?_
        refine w_iconst X190 (pc' := 122) (2 : Int32) at_121 rfl rfl ?_
        refine w_icmp_ne X190 130 125 at_122 (by decide) rfl rfl (fun hc122 => by exfalso; revert hc122; decide) (fun hc122 => ?_)
        refine w_aload X190 (pc' := 127) at_125 rfl rfl rfl ?_
        refine w_virtualN X190 (pc' := 130) at_127 (rm_open hw (h0 := h190) (sd_size X190) b180 B190) (hw _ (List.mem_of_getElem? (i := 69) rfl)) (hw _ (List.mem_of_getElem? (i := 70) rfl)) (hw _ (List.mem_of_getElem? (i := 72) rfl)) (hw _ (List.mem_of_getElem? (i := 71) rfl)) (hw _ (List.mem_of_getElem? (i := 57) rfl)) (hw _ (List.mem_of_getElem? (i := 73) rfl)) B190.exa (by decide) [] [] pd_14 rfl rfl rfl rfl 0 (Nat.le_refl _) (by decide) (by decide) (by decide) (by decide) rfl fun T192 h192 X192 q192 => ?_
        obtain ⟨⟨ws192, K192, P192⟩, B192⟩ := q192
        have S1_193 := S1_191.keep K192 P192
        have S3_193 := S3_191.keep K192 P192
        have S5_193 := S5_191.keep K192 P192
        have S7_193 := S7_191.keep K192 P192
        have F188_193 := F188_191.kp X192 K192 P192
        replace B192 : BD Z n0 h192 b180 [(bs1, [(118 : Int32), (48 : Int32)]), (bs3, [(118 : Int32), (49 : Int32)])] 2 1 2 := B192
        refine w_iload X192 (pc' := 132) at_130 rfl rfl ?_
        refine w_iconst X192 (pc' := 133) (3 : Int32) at_132 rfl rfl ?_
        refine w_icmp_lt X192 145 136 at_133 (by decide) rfl rfl (fun hc133 => ?_) (fun hc133 => by exfalso; revert hc133; decide)
        refine w_iload X192 (pc' := 147) at_145 rfl rfl ?_
        refine w_iconst X192 (pc' := 148) (3 : Int32) at_147 rfl rfl ?_
        refine w_icmp_ne X192 156 151 at_148 (by decide) rfl rfl (fun hc148 => ?_) (fun hc148 => by exfalso; revert hc148; decide)
        refine w_iload X192 (pc' := 158) at_156 rfl rfl ?_
        refine w_if_eq X192 166 161 at_158 (by decide) rfl rfl (fun hc158 => ?_) (fun hc158 => by exfalso; revert hc158; decide)
        refine w_iload X192 (pc' := 168) at_166 rfl rfl ?_
        refine w_if_eq X192 176 171 at_168 (by decide) rfl rfl (fun hc168 => ?_) (fun hc168 => by exfalso; revert hc168; decide)
        refine w_iload X192 (pc' := 178) at_176 rfl rfl ?_
        refine w_istore X192 (pc' := 180) (l' := #[.val (.int p1), .val (.int p2), .val (.int p3), .val (.int p4), .val (.int p5), .val (.ref b1), .val (.ref b3), .val (.ref b5), .val (.ref b7), .val (.int (2 : Int32)), .val (.int (2 : Int32)), .val (.int (0 : Int32)), .val (.ref b180), .val (.int (2 : Int32)), .unset, .unset]) at_178 rfl rfl ?_
        refine w_aconst_null X192 (pc' := 181) at_180 rfl ?_
        refine w_astore X192 (pc' := 183) (l' := #[.val (.int p1), .val (.int p2), .val (.int p3), .val (.int p4), .val (.int p5), .val (.ref b1), .val (.ref b3), .val (.ref b5), .val (.ref b7), .val (.int (2 : Int32)), .val (.int (2 : Int32)), .val (.int (0 : Int32)), .val (.ref b180), .val (.int (2 : Int32)), .val .null, .unset]) at_181 rfl rfl rfl ?_
        refine w_iload X192 (pc' := 185) at_183 rfl rfl ?_
        refine w_iconst X192 (pc' := 186) (3 : Int32) at_185 rfl rfl ?_
        refine w_icmp_lt X192 206 189 at_186 (by decide) rfl rfl (fun hc186 => ?_) (fun hc186 => by exfalso; revert hc186; decide)
        refine w_iload X192 (pc' := 208) at_206 rfl rfl ?_
        refine w_iconst X192 (pc' := 209) (2 : Int32) at_208 rfl rfl ?_
        refine w_icmp_lt X192 229 212 at_209 (by decide) rfl rfl (fun hc209 => by exfalso; revert hc209; decide) (fun hc209 => ?_)
        refine w_aload X192 (pc' := 214) at_212 rfl rfl rfl ?_
        refine w_aload X192 (pc' := 216) at_214 rfl rfl rfl ?_
        refine w_virtualV X192 (pc' := 219) at_216 (rm_eq hw (h0 := h192) (sd_size X192) b3 b7 S3_193 S7_193 (Sta.ext (sd_ext X192 hs0 Zn) S_c) hzc) (hw _ (List.mem_of_getElem? (i := 91) rfl)) (hw _ (List.mem_of_getElem? (i := 92) rfl)) (hw _ (List.mem_of_getElem? (i := 94) rfl)) (hw _ (List.mem_of_getElem? (i := 93) rfl)) (hw _ (List.mem_of_getElem? (i := 5) rfl)) (hw _ (List.mem_of_getElem? (i := 95) rfl)) S3_193.exa (by decide) [(.ref b7)] [] pd_17 rfl rfl rfl rfl 0 (Nat.le_refl _) (by decide) (by decide) (by decide) (by decide) rfl fun T194 h194 v194 X194 q194 => ?_
        obtain ⟨rfl, rfl⟩ := q194
        refine w_if_eq X194 229 222 at_219 (by decide) rfl rfl (fun hc219 => ?_) (fun hc219 => ?_)
        · skip
          refine w_iload X194 (pc' := 231) at_229 rfl rfl ?_
          refine w_iconst X194 (pc' := 232) (1 : Int32) at_231 rfl rfl ?_
          refine w_icmp_lt X194 249 235 at_232 (by decide) rfl rfl (fun hc232 => by exfalso; revert hc232; decide) (fun hc232 => ?_)
          refine w_aload X194 (pc' := 237) at_235 rfl rfl rfl ?_
          refine w_aload X194 (pc' := 239) at_237 rfl rfl rfl ?_
          refine w_virtualV X194 (pc' := 242) at_239 (rm_eq hw (h0 := h192) (sd_size X194) b1 b7 S1_193 S7_193 (Sta.ext (sd_ext X194 hs0 Zn) S_c) hzc) (hw _ (List.mem_of_getElem? (i := 91) rfl)) (hw _ (List.mem_of_getElem? (i := 92) rfl)) (hw _ (List.mem_of_getElem? (i := 94) rfl)) (hw _ (List.mem_of_getElem? (i := 93) rfl)) (hw _ (List.mem_of_getElem? (i := 5) rfl)) (hw _ (List.mem_of_getElem? (i := 95) rfl)) S1_193.exa (by decide) [(.ref b7)] [] pd_17 rfl rfl rfl rfl 0 (Nat.le_refl _) (by decide) (by decide) (by decide) (by decide) rfl fun T195 h195 v195 X195 q195 => ?_
          obtain ⟨rfl, rfl⟩ := q195
          refine w_if_eq X195 249 245 at_242 (by decide) rfl rfl (fun hc242 => ?_) (fun hc242 => ?_)
          · skip
            refine w_aload X195 (pc' := 251) at_249 rfl rfl rfl ?_
            refine w_aload X195 (pc' := 253) at_251 rfl rfl rfl ?_
            refine w_virtualV X195 (pc' := 256) at_253 (rm_vo2 hw (h0 := h192) (sd_size X195) b180 b7 B192 (show 2 ≤ 2 by decide) S7_193 (Sta.ext (sd_ext X195 hs0 Zn) S_c) hzc) (hw _ (List.mem_of_getElem? (i := 78) rfl)) (hw _ (List.mem_of_getElem? (i := 79) rfl)) (hw _ (List.mem_of_getElem? (i := 81) rfl)) (hw _ (List.mem_of_getElem? (i := 80) rfl)) (hw _ (List.mem_of_getElem? (i := 57) rfl)) (hw _ (List.mem_of_getElem? (i := 82) rfl)) B192.exa (by decide) [(.ref b7)] [] pd_15 rfl rfl rfl rfl 0 (Nat.le_refl _) (by decide) (by decide) (by decide) (by decide) rfl fun T196 h196 v196 X196 q196 => ?_
            have hv : own_val [(bs1, [(118 : Int32), (48 : Int32)]), (bs3, [(118 : Int32), (49 : Int32)])] bs7 2 = none := (own_vn (es := [(bs1, [(118 : Int32), (48 : Int32)]), (bs3, [(118 : Int32), (49 : Int32)])]) (q := bs7) 1 (show ¬ bs3 = bs7 from own_if0 hc219)).trans ((own_vn (es := [(bs1, [(118 : Int32), (48 : Int32)]), (bs3, [(118 : Int32), (49 : Int32)])]) (q := bs7) 0 (show ¬ bs1 = bs7 from own_if0 hc242)).trans (rfl))
            obtain ⟨hq, rfl⟩ := q196
            rcases hq with ⟨rfl, -⟩ | ⟨r, bs, rfl, Sr, hr⟩
            rotate_left
            · exact absurd (hr.symm.trans hv) (by simp)
            refine w_astore X196 (pc' := 258) (l' := #[.val (.int p1), .val (.int p2), .val (.int p3), .val (.int p4), .val (.int p5), .val (.ref b1), .val (.ref b3), .val (.ref b5), .val (.ref b7), .val (.int (2 : Int32)), .val (.int (2 : Int32)), .val (.int (0 : Int32)), .val (.ref b180), .val (.int (2 : Int32)), .val .null, .val .null]) at_256 rfl rfl rfl ?_
            refine w_aload X196 (pc' := 260) at_258 rfl rfl rfl ?_
            refine w_ifnonnullN X196 (pc' := 263) at_260 rfl ?_
            refine w_aload X196 (pc' := 265) at_263 rfl rfl rfl ?_
            refine w_ifnonnullN X196 (pc' := 268) at_265 rfl ?_
            refine w_iconst X196 (pc' := 269) (1 : Int32) at_268 rfl rfl ?_
            refine w_goto X196 (pc' := 273) at_269 (by decide) rfl ?_
            exact w_zreturnW X196 F188_193 (own_hEL hw) at_273 rfl (by decide) (by decide)
          · skip
            refine w_ldcW X195 F188_193 (pc' := 247) (text := "v0") [(118 : Int32), (48 : Int32)] 8 at_245 (hw _ (List.mem_of_getElem? (i := 83) rfl)) (own_wS hw) (own_hEL hw) (List.mem_of_getElem? (i := 1) rfl) (by decide) (by decide) (by decide) (by decide) (by decide) (by decide) rfl fun T197 h197 vm197 a197 X197 F197 E197 S197 => ?_
            have S1_198 := S1_193.ext E197
            have S3_198 := S3_193.ext E197
            have S5_198 := S5_193.ext E197
            have S7_198 := S7_193.ext E197
            have B192_198 := B192.ext E197
            refine w_astore X197 (pc' := 249) (l' := #[.val (.int p1), .val (.int p2), .val (.int p3), .val (.int p4), .val (.int p5), .val (.ref b1), .val (.ref b3), .val (.ref b5), .val (.ref b7), .val (.int (2 : Int32)), .val (.int (2 : Int32)), .val (.int (0 : Int32)), .val (.ref b180), .val (.int (2 : Int32)), .val (.ref a197), .unset]) at_247 rfl rfl rfl ?_
            refine w_aload X197 (pc' := 251) at_249 rfl rfl rfl ?_
            refine w_aload X197 (pc' := 253) at_251 rfl rfl rfl ?_
            refine w_virtualV X197 (pc' := 256) at_253 (rm_vo2 hw (h0 := h197) (sd_size X197) b180 b7 B192_198 (show 2 ≤ 2 by decide) S7_198 (Sta.ext (sd_ext X197 hs0 Zn) S_c) hzc) (hw _ (List.mem_of_getElem? (i := 78) rfl)) (hw _ (List.mem_of_getElem? (i := 79) rfl)) (hw _ (List.mem_of_getElem? (i := 81) rfl)) (hw _ (List.mem_of_getElem? (i := 80) rfl)) (hw _ (List.mem_of_getElem? (i := 57) rfl)) (hw _ (List.mem_of_getElem? (i := 82) rfl)) B192_198.exa (by decide) [(.ref b7)] [] pd_15 rfl rfl rfl rfl 0 (Nat.le_refl _) (by decide) (by decide) (by decide) (by decide) rfl fun T199 h199 v199 X199 q199 => ?_
            have hv : own_val [(bs1, [(118 : Int32), (48 : Int32)]), (bs3, [(118 : Int32), (49 : Int32)])] bs7 2 = some [(118 : Int32), (48 : Int32)] := (own_vn (es := [(bs1, [(118 : Int32), (48 : Int32)]), (bs3, [(118 : Int32), (49 : Int32)])]) (q := bs7) 1 (show ¬ bs3 = bs7 from own_if0 hc219)).trans (own_vp (es := [(bs1, [(118 : Int32), (48 : Int32)]), (bs3, [(118 : Int32), (49 : Int32)])]) (q := bs7) 0 (show bs1 = bs7 from own_if1 hc242))
            obtain ⟨hq, rfl⟩ := q199
            rcases hq with ⟨rfl, hr⟩ | ⟨r, bs, rfl, Sr, hr⟩
            · exact absurd (hr.symm.trans hv) (by simp)
            obtain rfl : bs = [(118 : Int32), (48 : Int32)] := Option.some.inj (hr.symm.trans hv)
            refine w_astore X199 (pc' := 258) (l' := #[.val (.int p1), .val (.int p2), .val (.int p3), .val (.int p4), .val (.int p5), .val (.ref b1), .val (.ref b3), .val (.ref b5), .val (.ref b7), .val (.int (2 : Int32)), .val (.int (2 : Int32)), .val (.int (0 : Int32)), .val (.ref b180), .val (.int (2 : Int32)), .val (.ref a197), .val (.ref r)]) at_256 rfl rfl rfl ?_
            refine w_aload X199 (pc' := 260) at_258 rfl rfl rfl ?_
            refine w_ifnonnullY X199 (pc' := 274) at_260 (by decide) rfl ?_
            refine w_aload X199 (pc' := 276) at_274 rfl rfl rfl ?_
            refine w_aload X199 (pc' := 278) at_276 rfl rfl rfl ?_
            refine w_virtualV X199 (pc' := 281) at_278 (rm_eq hw (h0 := h197) (sd_size X199) a197 r S197 Sr (Sta.ext (sd_ext X199 hs0 Zn) S_c) hzc) (hw _ (List.mem_of_getElem? (i := 91) rfl)) (hw _ (List.mem_of_getElem? (i := 92) rfl)) (hw _ (List.mem_of_getElem? (i := 94) rfl)) (hw _ (List.mem_of_getElem? (i := 93) rfl)) (hw _ (List.mem_of_getElem? (i := 5) rfl)) (hw _ (List.mem_of_getElem? (i := 95) rfl)) S197.exa (by decide) [(.ref r)] [] pd_17 rfl rfl rfl rfl 0 (Nat.le_refl _) (by decide) (by decide) (by decide) (by decide) rfl fun T200 h200 v200 X200 q200 => ?_
            obtain ⟨rfl, rfl⟩ := q200
            exact w_zreturnW X200 F197 (own_hEL hw) at_281 (by rw [if_pos rfl]; rfl) (by decide) (by decide)
        · skip
          refine w_ldcW X194 F188_193 (pc' := 224) (text := "v1") [(118 : Int32), (49 : Int32)] 8 at_222 (hw _ (List.mem_of_getElem? (i := 89) rfl)) (own_wS hw) (own_hEL hw) (List.mem_of_getElem? (i := 2) rfl) (by decide) (by decide) (by decide) (by decide) (by decide) (by decide) rfl fun T201 h201 vm201 a201 X201 F201 E201 S201 => ?_
          have S1_202 := S1_193.ext E201
          have S3_202 := S3_193.ext E201
          have S5_202 := S5_193.ext E201
          have S7_202 := S7_193.ext E201
          have B192_202 := B192.ext E201
          refine w_astore X201 (pc' := 226) (l' := #[.val (.int p1), .val (.int p2), .val (.int p3), .val (.int p4), .val (.int p5), .val (.ref b1), .val (.ref b3), .val (.ref b5), .val (.ref b7), .val (.int (2 : Int32)), .val (.int (2 : Int32)), .val (.int (0 : Int32)), .val (.ref b180), .val (.int (2 : Int32)), .val (.ref a201), .unset]) at_224 rfl rfl rfl ?_
          refine w_goto X201 (pc' := 249) at_226 (by decide) rfl ?_
          refine w_aload X201 (pc' := 251) at_249 rfl rfl rfl ?_
          refine w_aload X201 (pc' := 253) at_251 rfl rfl rfl ?_
          refine w_virtualV X201 (pc' := 256) at_253 (rm_vo2 hw (h0 := h201) (sd_size X201) b180 b7 B192_202 (show 2 ≤ 2 by decide) S7_202 (Sta.ext (sd_ext X201 hs0 Zn) S_c) hzc) (hw _ (List.mem_of_getElem? (i := 78) rfl)) (hw _ (List.mem_of_getElem? (i := 79) rfl)) (hw _ (List.mem_of_getElem? (i := 81) rfl)) (hw _ (List.mem_of_getElem? (i := 80) rfl)) (hw _ (List.mem_of_getElem? (i := 57) rfl)) (hw _ (List.mem_of_getElem? (i := 82) rfl)) B192_202.exa (by decide) [(.ref b7)] [] pd_15 rfl rfl rfl rfl 0 (Nat.le_refl _) (by decide) (by decide) (by decide) (by decide) rfl fun T203 h203 v203 X203 q203 => ?_
          have hv : own_val [(bs1, [(118 : Int32), (48 : Int32)]), (bs3, [(118 : Int32), (49 : Int32)])] bs7 2 = some [(118 : Int32), (49 : Int32)] := own_vp (es := [(bs1, [(118 : Int32), (48 : Int32)]), (bs3, [(118 : Int32), (49 : Int32)])]) (q := bs7) 1 (show bs3 = bs7 from own_if1 hc219)
          obtain ⟨hq, rfl⟩ := q203
          rcases hq with ⟨rfl, hr⟩ | ⟨r, bs, rfl, Sr, hr⟩
          · exact absurd (hr.symm.trans hv) (by simp)
          obtain rfl : bs = [(118 : Int32), (49 : Int32)] := Option.some.inj (hr.symm.trans hv)
          refine w_astore X203 (pc' := 258) (l' := #[.val (.int p1), .val (.int p2), .val (.int p3), .val (.int p4), .val (.int p5), .val (.ref b1), .val (.ref b3), .val (.ref b5), .val (.ref b7), .val (.int (2 : Int32)), .val (.int (2 : Int32)), .val (.int (0 : Int32)), .val (.ref b180), .val (.int (2 : Int32)), .val (.ref a201), .val (.ref r)]) at_256 rfl rfl rfl ?_
          refine w_aload X203 (pc' := 260) at_258 rfl rfl rfl ?_
          refine w_ifnonnullY X203 (pc' := 274) at_260 (by decide) rfl ?_
          refine w_aload X203 (pc' := 276) at_274 rfl rfl rfl ?_
          refine w_aload X203 (pc' := 278) at_276 rfl rfl rfl ?_
          refine w_virtualV X203 (pc' := 281) at_278 (rm_eq hw (h0 := h201) (sd_size X203) a201 r S201 Sr (Sta.ext (sd_ext X203 hs0 Zn) S_c) hzc) (hw _ (List.mem_of_getElem? (i := 91) rfl)) (hw _ (List.mem_of_getElem? (i := 92) rfl)) (hw _ (List.mem_of_getElem? (i := 94) rfl)) (hw _ (List.mem_of_getElem? (i := 93) rfl)) (hw _ (List.mem_of_getElem? (i := 5) rfl)) (hw _ (List.mem_of_getElem? (i := 95) rfl)) S201.exa (by decide) [(.ref r)] [] pd_17 rfl rfl rfl rfl 0 (Nat.le_refl _) (by decide) (by decide) (by decide) (by decide) rfl fun T204 h204 v204 X204 q204 => ?_
          obtain ⟨rfl, rfl⟩ := q204
          exact w_zreturnW X204 F201 (own_hEL hw) at_281 (by rw [if_pos rfl]; rfl) (by decide) (by decide)
      · skip
        refine w_iconst X90 (pc' := 53) (1 : Int32) at_52 rfl rfl ?_
        refine w_goto X90 (pc' := 57) at_53 (by decide) rfl ?_
        refine w_istore X90 (pc' := 59) (l' := #[.val (.int p1), .val (.int p2), .val (.int p3), .val (.int p4), .val (.int p5), .val (.ref b1), .val (.ref b3), .val (.ref b5), .val (.ref b7), .val (.int (2 : Int32)), .val (.int (2 : Int32)), .val (.int (1 : Int32)), .unset, .unset, .unset, .unset]) at_57 rfl rfl ?_
        refine w_new X90 (pc' := 62) at_59 (hw _ (List.mem_of_getElem? (i := 55) rfl)) (hw _ (List.mem_of_getElem? (i := 56) rfl)) (hw _ (List.mem_of_getElem? (i := 57) rfl)) (by decide) (by decide) rfl fun T205 h205 b205 g205 gn205 X205 E205 A205 D205 => ?_
        have sf_b205 := F7.safe_new E205 g205
        have S1_206 := S1_8.ext E205
        have S3_206 := S3_8.ext E205
        have S5_206 := S5_8.ext E205
        have S7_206 := S7.ext E205
        have F7_206 := F7.ext E205
        have Fpairs_205 : Fld Z h205 b205 "com/example/raja/raja/xml/CanonicalWriter$Bindings" "pairs" "[Ljava/lang/String;" .null := D205 (Or.inl (hw _ (List.mem_of_getElem? (i := 65) rfl))) (ty := (.array (.object "java/lang/String"))) (by decide)
        have Fmarks_205 : Fld Z h205 b205 "com/example/raja/raja/xml/CanonicalWriter$Bindings" "marks" "[I" .null := D205 (Or.inl (hw _ (List.mem_of_getElem? (i := 68) rfl))) (ty := (.array .int)) (by decide)
        have Fdepth_205 : Fld Z h205 b205 "com/example/raja/raja/xml/CanonicalWriter$Bindings" "depth" "I" (.int (0 : Int32)) := D205 (Or.inl (hw _ (List.mem_of_getElem? (i := 75) rfl))) (ty := .int) (by decide)
        have Fsize_205 : Fld Z h205 b205 "com/example/raja/raja/xml/CanonicalWriter$Bindings" "size" "I" (.int (0 : Int32)) := D205 (Or.inl (hw _ (List.mem_of_getElem? (i := 77) rfl))) (ty := .int) (by decide)
        refine w_dup X205 (pc' := 63) at_62 rfl rfl ?_
        refine w_specialN X205 (pc' := 66) at_63 (rm_init hw (h0 := h205) (sd_size X205) b205 A205 Fpairs_205 Fmarks_205 Fsize_205 Fdepth_205 gn205) (hw _ (List.mem_of_getElem? (i := 58) rfl)) (hw _ (List.mem_of_getElem? (i := 59) rfl)) (hw _ (List.mem_of_getElem? (i := 57) rfl)) (hw _ (List.mem_of_getElem? (i := 60) rfl)) rfl (by decide) [] [(.ref b205)] pd_13 rfl rfl rfl rfl 1 (Nat.le_refl _) (by decide) (by decide) (by decide) (by decide) rfl fun T207 h207 X207 q207 => ?_
        obtain ⟨K207, B207⟩ := q207
        have S1_208 := S1_206.keep K207 (ap1 (Apart.obj A205 (hw _ (List.mem_of_getElem? (i := 56) rfl)) (by decide) (by decide)))
        have S3_208 := S3_206.keep K207 (ap1 (Apart.obj A205 (hw _ (List.mem_of_getElem? (i := 56) rfl)) (by decide) (by decide)))
        have S5_208 := S5_206.keep K207 (ap1 (Apart.obj A205 (hw _ (List.mem_of_getElem? (i := 56) rfl)) (by decide) (by decide)))
        have S7_208 := S7_206.keep K207 (ap1 (Apart.obj A205 (hw _ (List.mem_of_getElem? (i := 56) rfl)) (by decide) (by decide)))
        have F7_208 := F7_206.kp X207 K207 (ap1 (Apart.obj A205 (hw _ (List.mem_of_getElem? (i := 56) rfl)) (by decide) (by decide)))
        have A205_208 := A205.keep K207
        refine w_astore X207 (pc' := 68) (l' := #[.val (.int p1), .val (.int p2), .val (.int p3), .val (.int p4), .val (.int p5), .val (.ref b1), .val (.ref b3), .val (.ref b5), .val (.ref b7), .val (.int (2 : Int32)), .val (.int (2 : Int32)), .val (.int (1 : Int32)), .val (.ref b205), .unset, .unset, .unset]) at_66 rfl rfl rfl ?_
        refine w_iload X207 (pc' := 70) at_68 rfl rfl ?_
        refine w_if_ne X207 78 73 at_70 (by decide) rfl rfl (fun hc70 => ?_) (fun hc70 => by exfalso; revert hc70; decide)
        refine w_iload X207 (pc' := 80) at_78 rfl rfl ?_
        refine w_iconst X207 (pc' := 81) (1 : Int32) at_80 rfl rfl ?_
        refine w_icmp_lt X207 93 84 at_81 (by decide) rfl rfl (fun hc81 => by exfalso; revert hc81; decide) (fun hc81 => ?_)
        refine w_aload X207 (pc' := 86) at_84 rfl rfl rfl ?_
        refine w_aload X207 (pc' := 88) at_86 rfl rfl rfl ?_
        refine w_ldcW X207 F7_208 (pc' := 90) (text := "v0") [(118 : Int32), (48 : Int32)] 8 at_88 (hw _ (List.mem_of_getElem? (i := 83) rfl)) (own_wS hw) (own_hEL hw) (List.mem_of_getElem? (i := 1) rfl) (by decide) (by decide) (by decide) (by decide) (by decide) (by decide) rfl fun T209 h209 vm209 a209 X209 F209 E209 S209 => ?_
        have S1_210 := S1_208.ext E209
        have S3_210 := S3_208.ext E209
        have S5_210 := S5_208.ext E209
        have S7_210 := S7_208.ext E209
        have B207_210 := B207.ext E209
        refine w_virtualN X209 (pc' := 93) at_90 (rm_push hw (h0 := h209) (sd_size X209) b205 b1 a209 B207_210 (show 0 < 8 by decide) S1_210 S209) (hw _ (List.mem_of_getElem? (i := 84) rfl)) (hw _ (List.mem_of_getElem? (i := 85) rfl)) (hw _ (List.mem_of_getElem? (i := 87) rfl)) (hw _ (List.mem_of_getElem? (i := 86) rfl)) (hw _ (List.mem_of_getElem? (i := 57) rfl)) (hw _ (List.mem_of_getElem? (i := 88) rfl)) B207_210.exa (by decide) [(.ref b1), (.ref a209)] [] pd_16 rfl rfl rfl rfl 0 (Nat.le_refl _) (by decide) (by decide) (by decide) (by decide) rfl fun T211 h211 X211 q211 => ?_
        obtain ⟨⟨ws211, K211, P211⟩, B211⟩ := q211
        have S1_212 := S1_210.keep K211 P211
        have S3_212 := S3_210.keep K211 P211
        have S5_212 := S5_210.keep K211 P211
        have S7_212 := S7_210.keep K211 P211
        have F209_212 := F209.kp X211 K211 P211
        replace B211 : BD Z n0 h211 b205 [(bs1, [(118 : Int32), (48 : Int32)])] 1 0 0 := B211
        refine w_iload X211 (pc' := 95) at_93 rfl rfl ?_
        refine w_iconst X211 (pc' := 96) (1 : Int32) at_95 rfl rfl ?_
        refine w_icmp_ne X211 104 99 at_96 (by decide) rfl rfl (fun hc96 => ?_) (fun hc96 => by exfalso; revert hc96; decide)
        refine w_iload X211 (pc' := 106) at_104 rfl rfl ?_
        refine w_iconst X211 (pc' := 107) (2 : Int32) at_106 rfl rfl ?_
        refine w_icmp_lt X211 119 110 at_107 (by decide) rfl rfl (fun hc107 => by exfalso; revert hc107; decide) (fun hc107 => ?_)
        refine w_aload X211 (pc' := 112) at_110 rfl rfl rfl ?_
        refine w_aload X211 (pc' := 114) at_112 rfl rfl rfl ?_
        refine w_ldcW X211 F209_212 (pc' := 116) (text := "v1") [(118 : Int32), (49 : Int32)] 8 at_114 (hw _ (List.mem_of_getElem? (i := 89) rfl)) (own_wS hw) (own_hEL hw) (List.mem_of_getElem? (i := 2) rfl) (by decide) (by decide) (by decide) (by decide) (by decide) (by decide) rfl fun T213 h213 vm213 a213 X213 F213 E213 S213 => ?_
        have S1_214 := S1_212.ext E213
        have S3_214 := S3_212.ext E213
        have S5_214 := S5_212.ext E213
        have S7_214 := S7_212.ext E213
        have B211_214 := B211.ext E213
        refine w_virtualN X213 (pc' := 119) at_116 (rm_push hw (h0 := h213) (sd_size X213) b205 b3 a213 B211_214 (show 1 < 8 by decide) S3_214 S213) (hw _ (List.mem_of_getElem? (i := 84) rfl)) (hw _ (List.mem_of_getElem? (i := 85) rfl)) (hw _ (List.mem_of_getElem? (i := 87) rfl)) (hw _ (List.mem_of_getElem? (i := 86) rfl)) (hw _ (List.mem_of_getElem? (i := 57) rfl)) (hw _ (List.mem_of_getElem? (i := 88) rfl)) B211_214.exa (by decide) [(.ref b3), (.ref a213)] [] pd_16 rfl rfl rfl rfl 0 (Nat.le_refl _) (by decide) (by decide) (by decide) (by decide) rfl fun T215 h215 X215 q215 => ?_
        obtain ⟨⟨ws215, K215, P215⟩, B215⟩ := q215
        have S1_216 := S1_214.keep K215 P215
        have S3_216 := S3_214.keep K215 P215
        have S5_216 := S5_214.keep K215 P215
        have S7_216 := S7_214.keep K215 P215
        have F213_216 := F213.kp X215 K215 P215
        replace B215 : BD Z n0 h215 b205 [(bs1, [(118 : Int32), (48 : Int32)]), (bs3, [(118 : Int32), (49 : Int32)])] 2 0 0 := B215
        refine w_iload X215 (pc' := 121) at_119 rfl rfl ?_
        refine w_iconst X215 (pc' := 122) (2 : Int32) at_121 rfl rfl ?_
        refine w_icmp_ne X215 130 125 at_122 (by decide) rfl rfl (fun hc122 => by exfalso; revert hc122; decide) (fun hc122 => ?_)
        refine w_aload X215 (pc' := 127) at_125 rfl rfl rfl ?_
        refine w_virtualN X215 (pc' := 130) at_127 (rm_open hw (h0 := h215) (sd_size X215) b205 B215) (hw _ (List.mem_of_getElem? (i := 69) rfl)) (hw _ (List.mem_of_getElem? (i := 70) rfl)) (hw _ (List.mem_of_getElem? (i := 72) rfl)) (hw _ (List.mem_of_getElem? (i := 71) rfl)) (hw _ (List.mem_of_getElem? (i := 57) rfl)) (hw _ (List.mem_of_getElem? (i := 73) rfl)) B215.exa (by decide) [] [] pd_14 rfl rfl rfl rfl 0 (Nat.le_refl _) (by decide) (by decide) (by decide) (by decide) rfl fun T217 h217 X217 q217 => ?_
        obtain ⟨⟨ws217, K217, P217⟩, B217⟩ := q217
        have S1_218 := S1_216.keep K217 P217
        have S3_218 := S3_216.keep K217 P217
        have S5_218 := S5_216.keep K217 P217
        have S7_218 := S7_216.keep K217 P217
        have F213_218 := F213_216.kp X217 K217 P217
        replace B217 : BD Z n0 h217 b205 [(bs1, [(118 : Int32), (48 : Int32)]), (bs3, [(118 : Int32), (49 : Int32)])] 2 1 2 := B217
        refine w_iload X217 (pc' := 132) at_130 rfl rfl ?_
        refine w_iconst X217 (pc' := 133) (3 : Int32) at_132 rfl rfl ?_
        refine w_icmp_lt X217 145 136 at_133 (by decide) rfl rfl (fun hc133 => ?_) (fun hc133 => by exfalso; revert hc133; decide)
        refine w_iload X217 (pc' := 147) at_145 rfl rfl ?_
        refine w_iconst X217 (pc' := 148) (3 : Int32) at_147 rfl rfl ?_
        refine w_icmp_ne X217 156 151 at_148 (by decide) rfl rfl (fun hc148 => ?_) (fun hc148 => by exfalso; revert hc148; decide)
        refine w_iload X217 (pc' := 158) at_156 rfl rfl ?_
        refine w_if_eq X217 166 161 at_158 (by decide) rfl rfl (fun hc158 => by exfalso; revert hc158; decide) (fun hc158 => ?_)
        refine w_aload X217 (pc' := 163) at_161 rfl rfl rfl ?_
        refine w_virtualN X217 (pc' := 166) at_163 (rm_close hw (h0 := h217) (sd_size X217) b205 B217) (hw _ (List.mem_of_getElem? (i := 100) rfl)) (hw _ (List.mem_of_getElem? (i := 101) rfl)) (hw _ (List.mem_of_getElem? (i := 103) rfl)) (hw _ (List.mem_of_getElem? (i := 102) rfl)) (hw _ (List.mem_of_getElem? (i := 57) rfl)) (hw _ (List.mem_of_getElem? (i := 104) rfl)) B217.exa (by decide) [] [] pd_19 rfl rfl rfl rfl 0 (Nat.le_refl _) (by decide) (by decide) (by decide) (by decide) rfl fun T219 h219 X219 q219 => ?_
        obtain ⟨⟨ws219, K219, P219⟩, B219⟩ := q219
        have S1_220 := S1_218.keep K219 P219
        have S3_220 := S3_218.keep K219 P219
        have S5_220 := S5_218.keep K219 P219
        have S7_220 := S7_218.keep K219 P219
        have F213_220 := F213_218.kp X219 K219 P219
        replace B219 : BD Z n0 h219 b205 [(bs1, [(118 : Int32), (48 : Int32)]), (bs3, [(118 : Int32), (49 : Int32)])] 2 0 2 := B219
        refine w_iload X219 (pc' := 168) at_166 rfl rfl ?_
        refine w_if_eq X219 176 171 at_168 (by decide) rfl rfl (fun hc168 => by exfalso; revert hc168; decide) (fun hc168 => ?_)
        refine w_iload X219 (pc' := 173) at_171 rfl rfl ?_
        refine w_goto X219 (pc' := 178) at_173 (by decide) rfl ?_
        refine w_istore X219 (pc' := 180) (l' := #[.val (.int p1), .val (.int p2), .val (.int p3), .val (.int p4), .val (.int p5), .val (.ref b1), .val (.ref b3), .val (.ref b5), .val (.ref b7), .val (.int (2 : Int32)), .val (.int (2 : Int32)), .val (.int (1 : Int32)), .val (.ref b205), .val (.int (2 : Int32)), .unset, .unset]) at_178 rfl rfl ?_
        refine w_aconst_null X219 (pc' := 181) at_180 rfl ?_
        refine w_astore X219 (pc' := 183) (l' := #[.val (.int p1), .val (.int p2), .val (.int p3), .val (.int p4), .val (.int p5), .val (.ref b1), .val (.ref b3), .val (.ref b5), .val (.ref b7), .val (.int (2 : Int32)), .val (.int (2 : Int32)), .val (.int (1 : Int32)), .val (.ref b205), .val (.int (2 : Int32)), .val .null, .unset]) at_181 rfl rfl rfl ?_
        refine w_iload X219 (pc' := 185) at_183 rfl rfl ?_
        refine w_iconst X219 (pc' := 186) (3 : Int32) at_185 rfl rfl ?_
        refine w_icmp_lt X219 206 189 at_186 (by decide) rfl rfl (fun hc186 => ?_) (fun hc186 => by exfalso; revert hc186; decide)
        refine w_iload X219 (pc' := 208) at_206 rfl rfl ?_
        refine w_iconst X219 (pc' := 209) (2 : Int32) at_208 rfl rfl ?_
        refine w_icmp_lt X219 229 212 at_209 (by decide) rfl rfl (fun hc209 => by exfalso; revert hc209; decide) (fun hc209 => ?_)
        refine w_aload X219 (pc' := 214) at_212 rfl rfl rfl ?_
        refine w_aload X219 (pc' := 216) at_214 rfl rfl rfl ?_
        refine w_virtualV X219 (pc' := 219) at_216 (rm_eq hw (h0 := h219) (sd_size X219) b3 b7 S3_220 S7_220 (Sta.ext (sd_ext X219 hs0 Zn) S_c) hzc) (hw _ (List.mem_of_getElem? (i := 91) rfl)) (hw _ (List.mem_of_getElem? (i := 92) rfl)) (hw _ (List.mem_of_getElem? (i := 94) rfl)) (hw _ (List.mem_of_getElem? (i := 93) rfl)) (hw _ (List.mem_of_getElem? (i := 5) rfl)) (hw _ (List.mem_of_getElem? (i := 95) rfl)) S3_220.exa (by decide) [(.ref b7)] [] pd_17 rfl rfl rfl rfl 0 (Nat.le_refl _) (by decide) (by decide) (by decide) (by decide) rfl fun T221 h221 v221 X221 q221 => ?_
        obtain ⟨rfl, rfl⟩ := q221
        refine w_if_eq X221 229 222 at_219 (by decide) rfl rfl (fun hc219 => ?_) (fun hc219 => ?_)
        · skip
          refine w_iload X221 (pc' := 231) at_229 rfl rfl ?_
          refine w_iconst X221 (pc' := 232) (1 : Int32) at_231 rfl rfl ?_
          refine w_icmp_lt X221 249 235 at_232 (by decide) rfl rfl (fun hc232 => by exfalso; revert hc232; decide) (fun hc232 => ?_)
          refine w_aload X221 (pc' := 237) at_235 rfl rfl rfl ?_
          refine w_aload X221 (pc' := 239) at_237 rfl rfl rfl ?_
          refine w_virtualV X221 (pc' := 242) at_239 (rm_eq hw (h0 := h219) (sd_size X221) b1 b7 S1_220 S7_220 (Sta.ext (sd_ext X221 hs0 Zn) S_c) hzc) (hw _ (List.mem_of_getElem? (i := 91) rfl)) (hw _ (List.mem_of_getElem? (i := 92) rfl)) (hw _ (List.mem_of_getElem? (i := 94) rfl)) (hw _ (List.mem_of_getElem? (i := 93) rfl)) (hw _ (List.mem_of_getElem? (i := 5) rfl)) (hw _ (List.mem_of_getElem? (i := 95) rfl)) S1_220.exa (by decide) [(.ref b7)] [] pd_17 rfl rfl rfl rfl 0 (Nat.le_refl _) (by decide) (by decide) (by decide) (by decide) rfl fun T222 h222 v222 X222 q222 => ?_
          obtain ⟨rfl, rfl⟩ := q222
          refine w_if_eq X222 249 245 at_242 (by decide) rfl rfl (fun hc242 => ?_) (fun hc242 => ?_)
          · skip
            refine w_aload X222 (pc' := 251) at_249 rfl rfl rfl ?_
            refine w_aload X222 (pc' := 253) at_251 rfl rfl rfl ?_
            refine w_virtualV X222 (pc' := 256) at_253 (rm_vo2 hw (h0 := h219) (sd_size X222) b205 b7 B219 (show 2 ≤ 2 by decide) S7_220 (Sta.ext (sd_ext X222 hs0 Zn) S_c) hzc) (hw _ (List.mem_of_getElem? (i := 78) rfl)) (hw _ (List.mem_of_getElem? (i := 79) rfl)) (hw _ (List.mem_of_getElem? (i := 81) rfl)) (hw _ (List.mem_of_getElem? (i := 80) rfl)) (hw _ (List.mem_of_getElem? (i := 57) rfl)) (hw _ (List.mem_of_getElem? (i := 82) rfl)) B219.exa (by decide) [(.ref b7)] [] pd_15 rfl rfl rfl rfl 0 (Nat.le_refl _) (by decide) (by decide) (by decide) (by decide) rfl fun T223 h223 v223 X223 q223 => ?_
            have hv : own_val [(bs1, [(118 : Int32), (48 : Int32)]), (bs3, [(118 : Int32), (49 : Int32)])] bs7 2 = none := (own_vn (es := [(bs1, [(118 : Int32), (48 : Int32)]), (bs3, [(118 : Int32), (49 : Int32)])]) (q := bs7) 1 (show ¬ bs3 = bs7 from own_if0 hc219)).trans ((own_vn (es := [(bs1, [(118 : Int32), (48 : Int32)]), (bs3, [(118 : Int32), (49 : Int32)])]) (q := bs7) 0 (show ¬ bs1 = bs7 from own_if0 hc242)).trans (rfl))
            obtain ⟨hq, rfl⟩ := q223
            rcases hq with ⟨rfl, -⟩ | ⟨r, bs, rfl, Sr, hr⟩
            rotate_left
            · exact absurd (hr.symm.trans hv) (by simp)
            refine w_astore X223 (pc' := 258) (l' := #[.val (.int p1), .val (.int p2), .val (.int p3), .val (.int p4), .val (.int p5), .val (.ref b1), .val (.ref b3), .val (.ref b5), .val (.ref b7), .val (.int (2 : Int32)), .val (.int (2 : Int32)), .val (.int (1 : Int32)), .val (.ref b205), .val (.int (2 : Int32)), .val .null, .val .null]) at_256 rfl rfl rfl ?_
            refine w_aload X223 (pc' := 260) at_258 rfl rfl rfl ?_
            refine w_ifnonnullN X223 (pc' := 263) at_260 rfl ?_
            refine w_aload X223 (pc' := 265) at_263 rfl rfl rfl ?_
            refine w_ifnonnullN X223 (pc' := 268) at_265 rfl ?_
            refine w_iconst X223 (pc' := 269) (1 : Int32) at_268 rfl rfl ?_
            refine w_goto X223 (pc' := 273) at_269 (by decide) rfl ?_
            exact w_zreturnW X223 F213_220 (own_hEL hw) at_273 rfl (by decide) (by decide)
          · skip
            refine w_ldcW X222 F213_220 (pc' := 247) (text := "v0") [(118 : Int32), (48 : Int32)] 8 at_245 (hw _ (List.mem_of_getElem? (i := 83) rfl)) (own_wS hw) (own_hEL hw) (List.mem_of_getElem? (i := 1) rfl) (by decide) (by decide) (by decide) (by decide) (by decide) (by decide) rfl fun T224 h224 vm224 a224 X224 F224 E224 S224 => ?_
            have S1_225 := S1_220.ext E224
            have S3_225 := S3_220.ext E224
            have S5_225 := S5_220.ext E224
            have S7_225 := S7_220.ext E224
            have B219_225 := B219.ext E224
            refine w_astore X224 (pc' := 249) (l' := #[.val (.int p1), .val (.int p2), .val (.int p3), .val (.int p4), .val (.int p5), .val (.ref b1), .val (.ref b3), .val (.ref b5), .val (.ref b7), .val (.int (2 : Int32)), .val (.int (2 : Int32)), .val (.int (1 : Int32)), .val (.ref b205), .val (.int (2 : Int32)), .val (.ref a224), .unset]) at_247 rfl rfl rfl ?_
            refine w_aload X224 (pc' := 251) at_249 rfl rfl rfl ?_
            refine w_aload X224 (pc' := 253) at_251 rfl rfl rfl ?_
            refine w_virtualV X224 (pc' := 256) at_253 (rm_vo2 hw (h0 := h224) (sd_size X224) b205 b7 B219_225 (show 2 ≤ 2 by decide) S7_225 (Sta.ext (sd_ext X224 hs0 Zn) S_c) hzc) (hw _ (List.mem_of_getElem? (i := 78) rfl)) (hw _ (List.mem_of_getElem? (i := 79) rfl)) (hw _ (List.mem_of_getElem? (i := 81) rfl)) (hw _ (List.mem_of_getElem? (i := 80) rfl)) (hw _ (List.mem_of_getElem? (i := 57) rfl)) (hw _ (List.mem_of_getElem? (i := 82) rfl)) B219_225.exa (by decide) [(.ref b7)] [] pd_15 rfl rfl rfl rfl 0 (Nat.le_refl _) (by decide) (by decide) (by decide) (by decide) rfl fun T226 h226 v226 X226 q226 => ?_
            have hv : own_val [(bs1, [(118 : Int32), (48 : Int32)]), (bs3, [(118 : Int32), (49 : Int32)])] bs7 2 = some [(118 : Int32), (48 : Int32)] := (own_vn (es := [(bs1, [(118 : Int32), (48 : Int32)]), (bs3, [(118 : Int32), (49 : Int32)])]) (q := bs7) 1 (show ¬ bs3 = bs7 from own_if0 hc219)).trans (own_vp (es := [(bs1, [(118 : Int32), (48 : Int32)]), (bs3, [(118 : Int32), (49 : Int32)])]) (q := bs7) 0 (show bs1 = bs7 from own_if1 hc242))
            obtain ⟨hq, rfl⟩ := q226
            rcases hq with ⟨rfl, hr⟩ | ⟨r, bs, rfl, Sr, hr⟩
            · exact absurd (hr.symm.trans hv) (by simp)
            obtain rfl : bs = [(118 : Int32), (48 : Int32)] := Option.some.inj (hr.symm.trans hv)
            refine w_astore X226 (pc' := 258) (l' := #[.val (.int p1), .val (.int p2), .val (.int p3), .val (.int p4), .val (.int p5), .val (.ref b1), .val (.ref b3), .val (.ref b5), .val (.ref b7), .val (.int (2 : Int32)), .val (.int (2 : Int32)), .val (.int (1 : Int32)), .val (.ref b205), .val (.int (2 : Int32)), .val (.ref a224), .val (.ref r)]) at_256 rfl rfl rfl ?_
            refine w_aload X226 (pc' := 260) at_258 rfl rfl rfl ?_
            refine w_ifnonnullY X226 (pc' := 274) at_260 (by decide) rfl ?_
            refine w_aload X226 (pc' := 276) at_274 rfl rfl rfl ?_
            refine w_aload X226 (pc' := 278) at_276 rfl rfl rfl ?_
            refine w_virtualV X226 (pc' := 281) at_278 (rm_eq hw (h0 := h224) (sd_size X226) a224 r S224 Sr (Sta.ext (sd_ext X226 hs0 Zn) S_c) hzc) (hw _ (List.mem_of_getElem? (i := 91) rfl)) (hw _ (List.mem_of_getElem? (i := 92) rfl)) (hw _ (List.mem_of_getElem? (i := 94) rfl)) (hw _ (List.mem_of_getElem? (i := 93) rfl)) (hw _ (List.mem_of_getElem? (i := 5) rfl)) (hw _ (List.mem_of_getElem? (i := 95) rfl)) S224.exa (by decide) [(.ref r)] [] pd_17 rfl rfl rfl rfl 0 (Nat.le_refl _) (by decide) (by decide) (by decide) (by decide) rfl fun T227 h227 v227 X227 q227 => ?_
            obtain ⟨rfl, rfl⟩ := q227
            exact w_zreturnW X227 F224 (own_hEL hw) at_281 (by rw [if_pos rfl]; rfl) (by decide) (by decide)
        · skip
          refine w_ldcW X221 F213_220 (pc' := 224) (text := "v1") [(118 : Int32), (49 : Int32)] 8 at_222 (hw _ (List.mem_of_getElem? (i := 89) rfl)) (own_wS hw) (own_hEL hw) (List.mem_of_getElem? (i := 2) rfl) (by decide) (by decide) (by decide) (by decide) (by decide) (by decide) rfl fun T228 h228 vm228 a228 X228 F228 E228 S228 => ?_
          have S1_229 := S1_220.ext E228
          have S3_229 := S3_220.ext E228
          have S5_229 := S5_220.ext E228
          have S7_229 := S7_220.ext E228
          have B219_229 := B219.ext E228
          refine w_astore X228 (pc' := 226) (l' := #[.val (.int p1), .val (.int p2), .val (.int p3), .val (.int p4), .val (.int p5), .val (.ref b1), .val (.ref b3), .val (.ref b5), .val (.ref b7), .val (.int (2 : Int32)), .val (.int (2 : Int32)), .val (.int (1 : Int32)), .val (.ref b205), .val (.int (2 : Int32)), .val (.ref a228), .unset]) at_224 rfl rfl rfl ?_
          refine w_goto X228 (pc' := 249) at_226 (by decide) rfl ?_
          refine w_aload X228 (pc' := 251) at_249 rfl rfl rfl ?_
          refine w_aload X228 (pc' := 253) at_251 rfl rfl rfl ?_
          refine w_virtualV X228 (pc' := 256) at_253 (rm_vo2 hw (h0 := h228) (sd_size X228) b205 b7 B219_229 (show 2 ≤ 2 by decide) S7_229 (Sta.ext (sd_ext X228 hs0 Zn) S_c) hzc) (hw _ (List.mem_of_getElem? (i := 78) rfl)) (hw _ (List.mem_of_getElem? (i := 79) rfl)) (hw _ (List.mem_of_getElem? (i := 81) rfl)) (hw _ (List.mem_of_getElem? (i := 80) rfl)) (hw _ (List.mem_of_getElem? (i := 57) rfl)) (hw _ (List.mem_of_getElem? (i := 82) rfl)) B219_229.exa (by decide) [(.ref b7)] [] pd_15 rfl rfl rfl rfl 0 (Nat.le_refl _) (by decide) (by decide) (by decide) (by decide) rfl fun T230 h230 v230 X230 q230 => ?_
          have hv : own_val [(bs1, [(118 : Int32), (48 : Int32)]), (bs3, [(118 : Int32), (49 : Int32)])] bs7 2 = some [(118 : Int32), (49 : Int32)] := own_vp (es := [(bs1, [(118 : Int32), (48 : Int32)]), (bs3, [(118 : Int32), (49 : Int32)])]) (q := bs7) 1 (show bs3 = bs7 from own_if1 hc219)
          obtain ⟨hq, rfl⟩ := q230
          rcases hq with ⟨rfl, hr⟩ | ⟨r, bs, rfl, Sr, hr⟩
          · exact absurd (hr.symm.trans hv) (by simp)
          obtain rfl : bs = [(118 : Int32), (49 : Int32)] := Option.some.inj (hr.symm.trans hv)
          refine w_astore X230 (pc' := 258) (l' := #[.val (.int p1), .val (.int p2), .val (.int p3), .val (.int p4), .val (.int p5), .val (.ref b1), .val (.ref b3), .val (.ref b5), .val (.ref b7), .val (.int (2 : Int32)), .val (.int (2 : Int32)), .val (.int (1 : Int32)), .val (.ref b205), .val (.int (2 : Int32)), .val (.ref a228), .val (.ref r)]) at_256 rfl rfl rfl ?_
          refine w_aload X230 (pc' := 260) at_258 rfl rfl rfl ?_
          refine w_ifnonnullY X230 (pc' := 274) at_260 (by decide) rfl ?_
          refine w_aload X230 (pc' := 276) at_274 rfl rfl rfl ?_
          refine w_aload X230 (pc' := 278) at_276 rfl rfl rfl ?_
          refine w_virtualV X230 (pc' := 281) at_278 (rm_eq hw (h0 := h228) (sd_size X230) a228 r S228 Sr (Sta.ext (sd_ext X230 hs0 Zn) S_c) hzc) (hw _ (List.mem_of_getElem? (i := 91) rfl)) (hw _ (List.mem_of_getElem? (i := 92) rfl)) (hw _ (List.mem_of_getElem? (i := 94) rfl)) (hw _ (List.mem_of_getElem? (i := 93) rfl)) (hw _ (List.mem_of_getElem? (i := 5) rfl)) (hw _ (List.mem_of_getElem? (i := 95) rfl)) S228.exa (by decide) [(.ref r)] [] pd_17 rfl rfl rfl rfl 0 (Nat.le_refl _) (by decide) (by decide) (by decide) (by decide) rfl fun T231 h231 v231 X231 q231 => ?_
          obtain ⟨rfl, rfl⟩ := q231
          exact w_zreturnW X231 F228 (own_hEL hw) at_281 (by rw [if_pos rfl]; rfl) (by decide) (by decide)
  · skip
    show Go p e below _ (T7.setTop (mkF m 30 #[.val (.int p1), .val (.int p2), .val (.int p3), .val (.int p4), .val (.int p5), .val (.ref b1), .val (.ref b3), .val (.ref b5), .val (.ref b7), .val (.int (3 : Int32)), .unset, .unset, .unset, .unset, .unset, .unset] []))
    refine w_iload X7 (pc' := 32) at_30 rfl rfl ?_
    refine w_iconst X7 (pc' := 33) (2 : Int32) at_32 rfl rfl ?_
    refine w_iushr X7 (pc' := 34) at_33 rfl ?_
    refine w_iconst X7 (pc' := 35) (3 : Int32) at_34 rfl rfl ?_
    refine w_iand X7 (pc' := 36) at_35 rfl ?_
    refine w_iload X7 (pc' := 38) at_36 rfl rfl ?_
    refine w_staticV X7 (pc' := 41) at_38 (rm_min hw (h0 := h7) (sd_size X7) (((p5.toUInt32 >>> ((2 : Int32) &&& 31).toUInt32).toInt32) &&& (3 : Int32)) (3 : Int32)) (hw _ (List.mem_of_getElem? (i := 51) rfl)) (hw _ (List.mem_of_getElem? (i := 52) rfl)) (hw _ (List.mem_of_getElem? (i := 53) rfl)) (hw _ (List.mem_of_getElem? (i := 54) rfl)) (by decide) [(.int (((p5.toUInt32 >>> ((2 : Int32) &&& 31).toUInt32).toInt32) &&& (3 : Int32))), (.int (3 : Int32))] [] pd_12 rfl rfl rfl rfl 0 (Nat.le_refl _) (by decide) (by decide) (by decide) (by decide) rfl fun T232 h232 v232 X232 q232 => ?_
    obtain ⟨rfl, rfl⟩ := q232
    refine w_istore X232 (pc' := 43) (l' := #[.val (.int p1), .val (.int p2), .val (.int p3), .val (.int p4), .val (.int p5), .val (.ref b1), .val (.ref b3), .val (.ref b5), .val (.ref b7), .val (.int (3 : Int32)), .val (.int (own_min (((p5.toUInt32 >>> ((2 : Int32) &&& 31).toUInt32).toInt32) &&& (3 : Int32)) (3 : Int32))), .unset, .unset, .unset, .unset, .unset]) at_41 rfl rfl ?_
    have hz : (own_min (((p5.toUInt32 >>> ((2 : Int32) &&& 31).toUInt32).toInt32) &&& (3 : Int32)) (3 : Int32)) = 0 ∨ (own_min (((p5.toUInt32 >>> ((2 : Int32) &&& 31).toUInt32).toInt32) &&& (3 : Int32)) (3 : Int32)) = 1 ∨ (own_min (((p5.toUInt32 >>> ((2 : Int32) &&& 31).toUInt32).toInt32) &&& (3 : Int32)) (3 : Int32)) = 2 ∨ (own_min (((p5.toUInt32 >>> ((2 : Int32) &&& 31).toUInt32).toInt32) &&& (3 : Int32)) (3 : Int32)) = 3 := by
      rcases own_and3 ((p5.toUInt32 >>> ((2 : Int32) &&& 31).toUInt32).toInt32) with q | q | q | q <;> rw [q] <;> decide
    generalize (own_min (((p5.toUInt32 >>> ((2 : Int32) &&& 31).toUInt32).toInt32) &&& (3 : Int32)) (3 : Int32)) = m10 at hz ⊢
    rcases hz with rfl | rfl | rfl | rfl
    · skip
      show Go p e below _ (T232.setTop (mkF m 43 #[.val (.int p1), .val (.int p2), .val (.int p3), .val (.int p4), .val (.int p5), .val (.ref b1), .val (.ref b3), .val (.ref b5), .val (.ref b7), .val (.int (3 : Int32)), .val (.int (0 : Int32)), .unset, .unset, .unset, .unset, .unset] []))
      refine w_iload X232 (pc' := 45) at_43 rfl rfl ?_
      refine w_iconst X232 (pc' := 46) (4 : Int32) at_45 rfl rfl ?_
      refine w_iushr X232 (pc' := 47) at_46 rfl ?_
      refine w_iconst X232 (pc' := 48) (1 : Int32) at_47 rfl rfl ?_
      refine w_iand X232 (pc' := 49) at_48 rfl ?_
      refine w_if_eq X232 56 52 at_49 (by decide) rfl rfl (fun hc49 => ?_) (fun hc49 => ?_)
      · skip
        refine w_iconst X232 (pc' := 57) (0 : Int32) at_56 rfl rfl ?_
        refine w_istore X232 (pc' := 59) (l' := #[.val (.int p1), .val (.int p2), .val (.int p3), .val (.int p4), .val (.int p5), .val (.ref b1), .val (.ref b3), .val (.ref b5), .val (.ref b7), .val (.int (3 : Int32)), .val (.int (0 : Int32)), .val (.int (0 : Int32)), .unset, .unset, .unset, .unset]) at_57 rfl rfl ?_
        refine w_new X232 (pc' := 62) at_59 (hw _ (List.mem_of_getElem? (i := 55) rfl)) (hw _ (List.mem_of_getElem? (i := 56) rfl)) (hw _ (List.mem_of_getElem? (i := 57) rfl)) (by decide) (by decide) rfl fun T233 h233 b233 g233 gn233 X233 E233 A233 D233 => ?_
        have sf_b233 := F7.safe_new E233 g233
        have S1_234 := S1_8.ext E233
        have S3_234 := S3_8.ext E233
        have S5_234 := S5_8.ext E233
        have S7_234 := S7.ext E233
        have F7_234 := F7.ext E233
        have Fpairs_233 : Fld Z h233 b233 "com/example/raja/raja/xml/CanonicalWriter$Bindings" "pairs" "[Ljava/lang/String;" .null := D233 (Or.inl (hw _ (List.mem_of_getElem? (i := 65) rfl))) (ty := (.array (.object "java/lang/String"))) (by decide)
        have Fmarks_233 : Fld Z h233 b233 "com/example/raja/raja/xml/CanonicalWriter$Bindings" "marks" "[I" .null := D233 (Or.inl (hw _ (List.mem_of_getElem? (i := 68) rfl))) (ty := (.array .int)) (by decide)
        have Fdepth_233 : Fld Z h233 b233 "com/example/raja/raja/xml/CanonicalWriter$Bindings" "depth" "I" (.int (0 : Int32)) := D233 (Or.inl (hw _ (List.mem_of_getElem? (i := 75) rfl))) (ty := .int) (by decide)
        have Fsize_233 : Fld Z h233 b233 "com/example/raja/raja/xml/CanonicalWriter$Bindings" "size" "I" (.int (0 : Int32)) := D233 (Or.inl (hw _ (List.mem_of_getElem? (i := 77) rfl))) (ty := .int) (by decide)
        refine w_dup X233 (pc' := 63) at_62 rfl rfl ?_
        refine w_specialN X233 (pc' := 66) at_63 (rm_init hw (h0 := h233) (sd_size X233) b233 A233 Fpairs_233 Fmarks_233 Fsize_233 Fdepth_233 gn233) (hw _ (List.mem_of_getElem? (i := 58) rfl)) (hw _ (List.mem_of_getElem? (i := 59) rfl)) (hw _ (List.mem_of_getElem? (i := 57) rfl)) (hw _ (List.mem_of_getElem? (i := 60) rfl)) rfl (by decide) [] [(.ref b233)] pd_13 rfl rfl rfl rfl 1 (Nat.le_refl _) (by decide) (by decide) (by decide) (by decide) rfl fun T235 h235 X235 q235 => ?_
        obtain ⟨K235, B235⟩ := q235
        have S1_236 := S1_234.keep K235 (ap1 (Apart.obj A233 (hw _ (List.mem_of_getElem? (i := 56) rfl)) (by decide) (by decide)))
        have S3_236 := S3_234.keep K235 (ap1 (Apart.obj A233 (hw _ (List.mem_of_getElem? (i := 56) rfl)) (by decide) (by decide)))
        have S5_236 := S5_234.keep K235 (ap1 (Apart.obj A233 (hw _ (List.mem_of_getElem? (i := 56) rfl)) (by decide) (by decide)))
        have S7_236 := S7_234.keep K235 (ap1 (Apart.obj A233 (hw _ (List.mem_of_getElem? (i := 56) rfl)) (by decide) (by decide)))
        have F7_236 := F7_234.kp X235 K235 (ap1 (Apart.obj A233 (hw _ (List.mem_of_getElem? (i := 56) rfl)) (by decide) (by decide)))
        have A233_236 := A233.keep K235
        refine w_astore X235 (pc' := 68) (l' := #[.val (.int p1), .val (.int p2), .val (.int p3), .val (.int p4), .val (.int p5), .val (.ref b1), .val (.ref b3), .val (.ref b5), .val (.ref b7), .val (.int (3 : Int32)), .val (.int (0 : Int32)), .val (.int (0 : Int32)), .val (.ref b233), .unset, .unset, .unset]) at_66 rfl rfl rfl ?_
        refine w_iload X235 (pc' := 70) at_68 rfl rfl ?_
        refine w_if_ne X235 78 73 at_70 (by decide) rfl rfl (fun hc70 => by exfalso; revert hc70; decide) (fun hc70 => ?_)
        refine w_aload X235 (pc' := 75) at_73 rfl rfl rfl ?_
        refine w_virtualN X235 (pc' := 78) at_75 (rm_open hw (h0 := h235) (sd_size X235) b233 B235) (hw _ (List.mem_of_getElem? (i := 69) rfl)) (hw _ (List.mem_of_getElem? (i := 70) rfl)) (hw _ (List.mem_of_getElem? (i := 72) rfl)) (hw _ (List.mem_of_getElem? (i := 71) rfl)) (hw _ (List.mem_of_getElem? (i := 57) rfl)) (hw _ (List.mem_of_getElem? (i := 73) rfl)) B235.exa (by decide) [] [] pd_14 rfl rfl rfl rfl 0 (Nat.le_refl _) (by decide) (by decide) (by decide) (by decide) rfl fun T237 h237 X237 q237 => ?_
        obtain ⟨⟨ws237, K237, P237⟩, B237⟩ := q237
        have S1_238 := S1_236.keep K237 P237
        have S3_238 := S3_236.keep K237 P237
        have S5_238 := S5_236.keep K237 P237
        have S7_238 := S7_236.keep K237 P237
        have F7_238 := F7_236.kp X237 K237 P237
        replace B237 : BD Z n0 h237 b233 [] 0 1 0 := B237
        refine w_iload X237 (pc' := 80) at_78 rfl rfl ?_
        refine w_iconst X237 (pc' := 81) (1 : Int32) at_80 rfl rfl ?_
        refine w_icmp_lt X237 93 84 at_81 (by decide) rfl rfl (fun hc81 => by exfalso; revert hc81; decide) (fun hc81 => ?_)
        refine w_aload X237 (pc' := 86) at_84 rfl rfl rfl ?_
        refine w_aload X237 (pc' := 88) at_86 rfl rfl rfl ?_
        refine w_ldcW X237 F7_238 (pc' := 90) (text := "v0") [(118 : Int32), (48 : Int32)] 8 at_88 (hw _ (List.mem_of_getElem? (i := 83) rfl)) (own_wS hw) (own_hEL hw) (List.mem_of_getElem? (i := 1) rfl) (by decide) (by decide) (by decide) (by decide) (by decide) (by decide) rfl fun T239 h239 vm239 a239 X239 F239 E239 S239 => ?_
        have S1_240 := S1_238.ext E239
        have S3_240 := S3_238.ext E239
        have S5_240 := S5_238.ext E239
        have S7_240 := S7_238.ext E239
        have B237_240 := B237.ext E239
        refine w_virtualN X239 (pc' := 93) at_90 (rm_push hw (h0 := h239) (sd_size X239) b233 b1 a239 B237_240 (show 0 < 8 by decide) S1_240 S239) (hw _ (List.mem_of_getElem? (i := 84) rfl)) (hw _ (List.mem_of_getElem? (i := 85) rfl)) (hw _ (List.mem_of_getElem? (i := 87) rfl)) (hw _ (List.mem_of_getElem? (i := 86) rfl)) (hw _ (List.mem_of_getElem? (i := 57) rfl)) (hw _ (List.mem_of_getElem? (i := 88) rfl)) B237_240.exa (by decide) [(.ref b1), (.ref a239)] [] pd_16 rfl rfl rfl rfl 0 (Nat.le_refl _) (by decide) (by decide) (by decide) (by decide) rfl fun T241 h241 X241 q241 => ?_
        obtain ⟨⟨ws241, K241, P241⟩, B241⟩ := q241
        have S1_242 := S1_240.keep K241 P241
        have S3_242 := S3_240.keep K241 P241
        have S5_242 := S5_240.keep K241 P241
        have S7_242 := S7_240.keep K241 P241
        have F239_242 := F239.kp X241 K241 P241
        replace B241 : BD Z n0 h241 b233 [(bs1, [(118 : Int32), (48 : Int32)])] 1 1 0 := B241
        refine w_iload X241 (pc' := 95) at_93 rfl rfl ?_
        refine w_iconst X241 (pc' := 96) (1 : Int32) at_95 rfl rfl ?_
        refine w_icmp_ne X241 104 99 at_96 (by decide) rfl rfl (fun hc96 => ?_) (fun hc96 => by exfalso; revert hc96; decide)
        refine w_iload X241 (pc' := 106) at_104 rfl rfl ?_
        refine w_iconst X241 (pc' := 107) (2 : Int32) at_106 rfl rfl ?_
        refine w_icmp_lt X241 119 110 at_107 (by decide) rfl rfl (fun hc107 => by exfalso; revert hc107; decide) (fun hc107 => ?_)
        refine w_aload X241 (pc' := 112) at_110 rfl rfl rfl ?_
        refine w_aload X241 (pc' := 114) at_112 rfl rfl rfl ?_
        refine w_ldcW X241 F239_242 (pc' := 116) (text := "v1") [(118 : Int32), (49 : Int32)] 8 at_114 (hw _ (List.mem_of_getElem? (i := 89) rfl)) (own_wS hw) (own_hEL hw) (List.mem_of_getElem? (i := 2) rfl) (by decide) (by decide) (by decide) (by decide) (by decide) (by decide) rfl fun T243 h243 vm243 a243 X243 F243 E243 S243 => ?_
        have S1_244 := S1_242.ext E243
        have S3_244 := S3_242.ext E243
        have S5_244 := S5_242.ext E243
        have S7_244 := S7_242.ext E243
        have B241_244 := B241.ext E243
        refine w_virtualN X243 (pc' := 119) at_116 (rm_push hw (h0 := h243) (sd_size X243) b233 b3 a243 B241_244 (show 1 < 8 by decide) S3_244 S243) (hw _ (List.mem_of_getElem? (i := 84) rfl)) (hw _ (List.mem_of_getElem? (i := 85) rfl)) (hw _ (List.mem_of_getElem? (i := 87) rfl)) (hw _ (List.mem_of_getElem? (i := 86) rfl)) (hw _ (List.mem_of_getElem? (i := 57) rfl)) (hw _ (List.mem_of_getElem? (i := 88) rfl)) B241_244.exa (by decide) [(.ref b3), (.ref a243)] [] pd_16 rfl rfl rfl rfl 0 (Nat.le_refl _) (by decide) (by decide) (by decide) (by decide) rfl fun T245 h245 X245 q245 => ?_
        obtain ⟨⟨ws245, K245, P245⟩, B245⟩ := q245
        have S1_246 := S1_244.keep K245 P245
        have S3_246 := S3_244.keep K245 P245
        have S5_246 := S5_244.keep K245 P245
        have S7_246 := S7_244.keep K245 P245
        have F243_246 := F243.kp X245 K245 P245
        replace B245 : BD Z n0 h245 b233 [(bs1, [(118 : Int32), (48 : Int32)]), (bs3, [(118 : Int32), (49 : Int32)])] 2 1 0 := B245
        refine w_iload X245 (pc' := 121) at_119 rfl rfl ?_
        refine w_iconst X245 (pc' := 122) (2 : Int32) at_121 rfl rfl ?_
        refine w_icmp_ne X245 130 125 at_122 (by decide) rfl rfl (fun hc122 => ?_) (fun hc122 => by exfalso; revert hc122; decide)
        refine w_iload X245 (pc' := 132) at_130 rfl rfl ?_
        refine w_iconst X245 (pc' := 133) (3 : Int32) at_132 rfl rfl ?_
        refine w_icmp_lt X245 145 136 at_133 (by decide) rfl rfl (fun hc133 => by exfalso; revert hc133; decide) (fun hc133 => ?_)
        refine w_aload X245 (pc' := 138) at_136 rfl rfl rfl ?_
        refine w_aload X245 (pc' := 140) at_138 rfl rfl rfl ?_
        refine w_ldcW X245 F243_246 (pc' := 142) (text := "v2") [(118 : Int32), (50 : Int32)] 8 at_140 (hw _ (List.mem_of_getElem? (i := 90) rfl)) (own_wS hw) (own_hEL hw) (List.mem_of_getElem? (i := 3) rfl) (by decide) (by decide) (by decide) (by decide) (by decide) (by decide) rfl fun T247 h247 vm247 a247 X247 F247 E247 S247 => ?_
        have S1_248 := S1_246.ext E247
        have S3_248 := S3_246.ext E247
        have S5_248 := S5_246.ext E247
        have S7_248 := S7_246.ext E247
        have B245_248 := B245.ext E247
        refine w_virtualN X247 (pc' := 145) at_142 (rm_push hw (h0 := h247) (sd_size X247) b233 b5 a247 B245_248 (show 2 < 8 by decide) S5_248 S247) (hw _ (List.mem_of_getElem? (i := 84) rfl)) (hw _ (List.mem_of_getElem? (i := 85) rfl)) (hw _ (List.mem_of_getElem? (i := 87) rfl)) (hw _ (List.mem_of_getElem? (i := 86) rfl)) (hw _ (List.mem_of_getElem? (i := 57) rfl)) (hw _ (List.mem_of_getElem? (i := 88) rfl)) B245_248.exa (by decide) [(.ref b5), (.ref a247)] [] pd_16 rfl rfl rfl rfl 0 (Nat.le_refl _) (by decide) (by decide) (by decide) (by decide) rfl fun T249 h249 X249 q249 => ?_
        obtain ⟨⟨ws249, K249, P249⟩, B249⟩ := q249
        have S1_250 := S1_248.keep K249 P249
        have S3_250 := S3_248.keep K249 P249
        have S5_250 := S5_248.keep K249 P249
        have S7_250 := S7_248.keep K249 P249
        have F247_250 := F247.kp X249 K249 P249
        replace B249 : BD Z n0 h249 b233 [(bs1, [(118 : Int32), (48 : Int32)]), (bs3, [(118 : Int32), (49 : Int32)]), (bs5, [(118 : Int32), (50 : Int32)])] 3 1 0 := B249
        refine w_iload X249 (pc' := 147) at_145 rfl rfl ?_
        refine w_iconst X249 (pc' := 148) (3 : Int32) at_147 rfl rfl ?_
        refine w_icmp_ne X249 156 151 at_148 (by decide) rfl rfl (fun hc148 => ?_) (fun hc148 => by exfalso; revert hc148; decide)
        refine w_iload X249 (pc' := 158) at_156 rfl rfl ?_
        refine w_if_eq X249 166 161 at_158 (by decide) rfl rfl (fun hc158 => ?_) (fun hc158 => by exfalso; revert hc158; decide)
        refine w_iload X249 (pc' := 168) at_166 rfl rfl ?_
        refine w_if_eq X249 176 171 at_168 (by decide) rfl rfl (fun hc168 => ?_) (fun hc168 => by exfalso; revert hc168; decide)
        refine w_iload X249 (pc' := 178) at_176 rfl rfl ?_
        refine w_istore X249 (pc' := 180) (l' := #[.val (.int p1), .val (.int p2), .val (.int p3), .val (.int p4), .val (.int p5), .val (.ref b1), .val (.ref b3), .val (.ref b5), .val (.ref b7), .val (.int (3 : Int32)), .val (.int (0 : Int32)), .val (.int (0 : Int32)), .val (.ref b233), .val (.int (3 : Int32)), .unset, .unset]) at_178 rfl rfl ?_
        refine w_aconst_null X249 (pc' := 181) at_180 rfl ?_
        refine w_astore X249 (pc' := 183) (l' := #[.val (.int p1), .val (.int p2), .val (.int p3), .val (.int p4), .val (.int p5), .val (.ref b1), .val (.ref b3), .val (.ref b5), .val (.ref b7), .val (.int (3 : Int32)), .val (.int (0 : Int32)), .val (.int (0 : Int32)), .val (.ref b233), .val (.int (3 : Int32)), .val .null, .unset]) at_181 rfl rfl rfl ?_
        refine w_iload X249 (pc' := 185) at_183 rfl rfl ?_
        refine w_iconst X249 (pc' := 186) (3 : Int32) at_185 rfl rfl ?_
        refine w_icmp_lt X249 206 189 at_186 (by decide) rfl rfl (fun hc186 => by exfalso; revert hc186; decide) (fun hc186 => ?_)
        refine w_aload X249 (pc' := 191) at_189 rfl rfl rfl ?_
        refine w_aload X249 (pc' := 193) at_191 rfl rfl rfl ?_
        refine w_virtualV X249 (pc' := 196) at_193 (rm_eq hw (h0 := h249) (sd_size X249) b5 b7 S5_250 S7_250 (Sta.ext (sd_ext X249 hs0 Zn) S_c) hzc) (hw _ (List.mem_of_getElem? (i := 91) rfl)) (hw _ (List.mem_of_getElem? (i := 92) rfl)) (hw _ (List.mem_of_getElem? (i := 94) rfl)) (hw _ (List.mem_of_getElem? (i := 93) rfl)) (hw _ (List.mem_of_getElem? (i := 5) rfl)) (hw _ (List.mem_of_getElem? (i := 95) rfl)) S5_250.exa (by decide) [(.ref b7)] [] pd_17 rfl rfl rfl rfl 0 (Nat.le_refl _) (by decide) (by decide) (by decide) (by decide) rfl fun T251 h251 v251 X251 q251 => ?_
        obtain ⟨rfl, rfl⟩ := q251
        refine w_if_eq X251 206 199 at_196 (by decide) rfl rfl (fun hc196 => ?_) (fun hc196 => ?_)
        · skip
          refine w_iload X251 (pc' := 208) at_206 rfl rfl ?_
          refine w_iconst X251 (pc' := 209) (2 : Int32) at_208 rfl rfl ?_
          refine w_icmp_lt X251 229 212 at_209 (by decide) rfl rfl (fun hc209 => by exfalso; revert hc209; decide) (fun hc209 => ?_)
          refine w_aload X251 (pc' := 214) at_212 rfl rfl rfl ?_
          refine w_aload X251 (pc' := 216) at_214 rfl rfl rfl ?_
          refine w_virtualV X251 (pc' := 219) at_216 (rm_eq hw (h0 := h249) (sd_size X251) b3 b7 S3_250 S7_250 (Sta.ext (sd_ext X251 hs0 Zn) S_c) hzc) (hw _ (List.mem_of_getElem? (i := 91) rfl)) (hw _ (List.mem_of_getElem? (i := 92) rfl)) (hw _ (List.mem_of_getElem? (i := 94) rfl)) (hw _ (List.mem_of_getElem? (i := 93) rfl)) (hw _ (List.mem_of_getElem? (i := 5) rfl)) (hw _ (List.mem_of_getElem? (i := 95) rfl)) S3_250.exa (by decide) [(.ref b7)] [] pd_17 rfl rfl rfl rfl 0 (Nat.le_refl _) (by decide) (by decide) (by decide) (by decide) rfl fun T252 h252 v252 X252 q252 => ?_
          obtain ⟨rfl, rfl⟩ := q252
          refine w_if_eq X252 229 222 at_219 (by decide) rfl rfl (fun hc219 => ?_) (fun hc219 => ?_)
          · skip
            refine w_iload X252 (pc' := 231) at_229 rfl rfl ?_
            refine w_iconst X252 (pc' := 232) (1 : Int32) at_231 rfl rfl ?_
            refine w_icmp_lt X252 249 235 at_232 (by decide) rfl rfl (fun hc232 => by exfalso; revert hc232; decide) (fun hc232 => ?_)
            refine w_aload X252 (pc' := 237) at_235 rfl rfl rfl ?_
            refine w_aload X252 (pc' := 239) at_237 rfl rfl rfl ?_
            refine w_virtualV X252 (pc' := 242) at_239 (rm_eq hw (h0 := h249) (sd_size X252) b1 b7 S1_250 S7_250 (Sta.ext (sd_ext X252 hs0 Zn) S_c) hzc) (hw _ (List.mem_of_getElem? (i := 91) rfl)) (hw _ (List.mem_of_getElem? (i := 92) rfl)) (hw _ (List.mem_of_getElem? (i := 94) rfl)) (hw _ (List.mem_of_getElem? (i := 93) rfl)) (hw _ (List.mem_of_getElem? (i := 5) rfl)) (hw _ (List.mem_of_getElem? (i := 95) rfl)) S1_250.exa (by decide) [(.ref b7)] [] pd_17 rfl rfl rfl rfl 0 (Nat.le_refl _) (by decide) (by decide) (by decide) (by decide) rfl fun T253 h253 v253 X253 q253 => ?_
            obtain ⟨rfl, rfl⟩ := q253
            refine w_if_eq X253 249 245 at_242 (by decide) rfl rfl (fun hc242 => ?_) (fun hc242 => ?_)
            · skip
              refine w_aload X253 (pc' := 251) at_249 rfl rfl rfl ?_
              refine w_aload X253 (pc' := 253) at_251 rfl rfl rfl ?_
              refine w_virtualV X253 (pc' := 256) at_253 (rm_vo3 hw (h0 := h249) (sd_size X253) b233 b7 B249 (show 3 ≤ 3 by decide) S7_250 (Sta.ext (sd_ext X253 hs0 Zn) S_c) hzc) (hw _ (List.mem_of_getElem? (i := 78) rfl)) (hw _ (List.mem_of_getElem? (i := 79) rfl)) (hw _ (List.mem_of_getElem? (i := 81) rfl)) (hw _ (List.mem_of_getElem? (i := 80) rfl)) (hw _ (List.mem_of_getElem? (i := 57) rfl)) (hw _ (List.mem_of_getElem? (i := 82) rfl)) B249.exa (by decide) [(.ref b7)] [] pd_15 rfl rfl rfl rfl 0 (Nat.le_refl _) (by decide) (by decide) (by decide) (by decide) rfl fun T254 h254 v254 X254 q254 => ?_
              have hv : own_val [(bs1, [(118 : Int32), (48 : Int32)]), (bs3, [(118 : Int32), (49 : Int32)]), (bs5, [(118 : Int32), (50 : Int32)])] bs7 3 = none := (own_vn (es := [(bs1, [(118 : Int32), (48 : Int32)]), (bs3, [(118 : Int32), (49 : Int32)]), (bs5, [(118 : Int32), (50 : Int32)])]) (q := bs7) 2 (show ¬ bs5 = bs7 from own_if0 hc196)).trans ((own_vn (es := [(bs1, [(118 : Int32), (48 : Int32)]), (bs3, [(118 : Int32), (49 : Int32)]), (bs5, [(118 : Int32), (50 : Int32)])]) (q := bs7) 1 (show ¬ bs3 = bs7 from own_if0 hc219)).trans ((own_vn (es := [(bs1, [(118 : Int32), (48 : Int32)]), (bs3, [(118 : Int32), (49 : Int32)]), (bs5, [(118 : Int32), (50 : Int32)])]) (q := bs7) 0 (show ¬ bs1 = bs7 from own_if0 hc242)).trans (rfl)))
              obtain ⟨hq, rfl⟩ := q254
              rcases hq with ⟨rfl, -⟩ | ⟨r, bs, rfl, Sr, hr⟩
              rotate_left
              · exact absurd (hr.symm.trans hv) (by simp)
              refine w_astore X254 (pc' := 258) (l' := #[.val (.int p1), .val (.int p2), .val (.int p3), .val (.int p4), .val (.int p5), .val (.ref b1), .val (.ref b3), .val (.ref b5), .val (.ref b7), .val (.int (3 : Int32)), .val (.int (0 : Int32)), .val (.int (0 : Int32)), .val (.ref b233), .val (.int (3 : Int32)), .val .null, .val .null]) at_256 rfl rfl rfl ?_
              refine w_aload X254 (pc' := 260) at_258 rfl rfl rfl ?_
              refine w_ifnonnullN X254 (pc' := 263) at_260 rfl ?_
              refine w_aload X254 (pc' := 265) at_263 rfl rfl rfl ?_
              refine w_ifnonnullN X254 (pc' := 268) at_265 rfl ?_
              refine w_iconst X254 (pc' := 269) (1 : Int32) at_268 rfl rfl ?_
              refine w_goto X254 (pc' := 273) at_269 (by decide) rfl ?_
              exact w_zreturnW X254 F247_250 (own_hEL hw) at_273 rfl (by decide) (by decide)
            · skip
              refine w_ldcW X253 F247_250 (pc' := 247) (text := "v0") [(118 : Int32), (48 : Int32)] 8 at_245 (hw _ (List.mem_of_getElem? (i := 83) rfl)) (own_wS hw) (own_hEL hw) (List.mem_of_getElem? (i := 1) rfl) (by decide) (by decide) (by decide) (by decide) (by decide) (by decide) rfl fun T255 h255 vm255 a255 X255 F255 E255 S255 => ?_
              have S1_256 := S1_250.ext E255
              have S3_256 := S3_250.ext E255
              have S5_256 := S5_250.ext E255
              have S7_256 := S7_250.ext E255
              have B249_256 := B249.ext E255
              refine w_astore X255 (pc' := 249) (l' := #[.val (.int p1), .val (.int p2), .val (.int p3), .val (.int p4), .val (.int p5), .val (.ref b1), .val (.ref b3), .val (.ref b5), .val (.ref b7), .val (.int (3 : Int32)), .val (.int (0 : Int32)), .val (.int (0 : Int32)), .val (.ref b233), .val (.int (3 : Int32)), .val (.ref a255), .unset]) at_247 rfl rfl rfl ?_
              refine w_aload X255 (pc' := 251) at_249 rfl rfl rfl ?_
              refine w_aload X255 (pc' := 253) at_251 rfl rfl rfl ?_
              refine w_virtualV X255 (pc' := 256) at_253 (rm_vo3 hw (h0 := h255) (sd_size X255) b233 b7 B249_256 (show 3 ≤ 3 by decide) S7_256 (Sta.ext (sd_ext X255 hs0 Zn) S_c) hzc) (hw _ (List.mem_of_getElem? (i := 78) rfl)) (hw _ (List.mem_of_getElem? (i := 79) rfl)) (hw _ (List.mem_of_getElem? (i := 81) rfl)) (hw _ (List.mem_of_getElem? (i := 80) rfl)) (hw _ (List.mem_of_getElem? (i := 57) rfl)) (hw _ (List.mem_of_getElem? (i := 82) rfl)) B249_256.exa (by decide) [(.ref b7)] [] pd_15 rfl rfl rfl rfl 0 (Nat.le_refl _) (by decide) (by decide) (by decide) (by decide) rfl fun T257 h257 v257 X257 q257 => ?_
              have hv : own_val [(bs1, [(118 : Int32), (48 : Int32)]), (bs3, [(118 : Int32), (49 : Int32)]), (bs5, [(118 : Int32), (50 : Int32)])] bs7 3 = some [(118 : Int32), (48 : Int32)] := (own_vn (es := [(bs1, [(118 : Int32), (48 : Int32)]), (bs3, [(118 : Int32), (49 : Int32)]), (bs5, [(118 : Int32), (50 : Int32)])]) (q := bs7) 2 (show ¬ bs5 = bs7 from own_if0 hc196)).trans ((own_vn (es := [(bs1, [(118 : Int32), (48 : Int32)]), (bs3, [(118 : Int32), (49 : Int32)]), (bs5, [(118 : Int32), (50 : Int32)])]) (q := bs7) 1 (show ¬ bs3 = bs7 from own_if0 hc219)).trans (own_vp (es := [(bs1, [(118 : Int32), (48 : Int32)]), (bs3, [(118 : Int32), (49 : Int32)]), (bs5, [(118 : Int32), (50 : Int32)])]) (q := bs7) 0 (show bs1 = bs7 from own_if1 hc242)))
              obtain ⟨hq, rfl⟩ := q257
              rcases hq with ⟨rfl, hr⟩ | ⟨r, bs, rfl, Sr, hr⟩
              · exact absurd (hr.symm.trans hv) (by simp)
              obtain rfl : bs = [(118 : Int32), (48 : Int32)] := Option.some.inj (hr.symm.trans hv)
              refine w_astore X257 (pc' := 258) (l' := #[.val (.int p1), .val (.int p2), .val (.int p3), .val (.int p4), .val (.int p5), .val (.ref b1), .val (.ref b3), .val (.ref b5), .val (.ref b7), .val (.int (3 : Int32)), .val (.int (0 : Int32)), .val (.int (0 : Int32)), .val (.ref b233), .val (.int (3 : Int32)), .val (.ref a255), .val (.ref r)]) at_256 rfl rfl rfl ?_
              refine w_aload X257 (pc' := 260) at_258 rfl rfl rfl ?_
              refine w_ifnonnullY X257 (pc' := 274) at_260 (by decide) rfl ?_
              refine w_aload X257 (pc' := 276) at_274 rfl rfl rfl ?_
              refine w_aload X257 (pc' := 278) at_276 rfl rfl rfl ?_
              refine w_virtualV X257 (pc' := 281) at_278 (rm_eq hw (h0 := h255) (sd_size X257) a255 r S255 Sr (Sta.ext (sd_ext X257 hs0 Zn) S_c) hzc) (hw _ (List.mem_of_getElem? (i := 91) rfl)) (hw _ (List.mem_of_getElem? (i := 92) rfl)) (hw _ (List.mem_of_getElem? (i := 94) rfl)) (hw _ (List.mem_of_getElem? (i := 93) rfl)) (hw _ (List.mem_of_getElem? (i := 5) rfl)) (hw _ (List.mem_of_getElem? (i := 95) rfl)) S255.exa (by decide) [(.ref r)] [] pd_17 rfl rfl rfl rfl 0 (Nat.le_refl _) (by decide) (by decide) (by decide) (by decide) rfl fun T258 h258 v258 X258 q258 => ?_
              obtain ⟨rfl, rfl⟩ := q258
              exact w_zreturnW X258 F255 (own_hEL hw) at_281 (by rw [if_pos rfl]; rfl) (by decide) (by decide)
          · skip
            refine w_ldcW X252 F247_250 (pc' := 224) (text := "v1") [(118 : Int32), (49 : Int32)] 8 at_222 (hw _ (List.mem_of_getElem? (i := 89) rfl)) (own_wS hw) (own_hEL hw) (List.mem_of_getElem? (i := 2) rfl) (by decide) (by decide) (by decide) (by decide) (by decide) (by decide) rfl fun T259 h259 vm259 a259 X259 F259 E259 S259 => ?_
            have S1_260 := S1_250.ext E259
            have S3_260 := S3_250.ext E259
            have S5_260 := S5_250.ext E259
            have S7_260 := S7_250.ext E259
            have B249_260 := B249.ext E259
            refine w_astore X259 (pc' := 226) (l' := #[.val (.int p1), .val (.int p2), .val (.int p3), .val (.int p4), .val (.int p5), .val (.ref b1), .val (.ref b3), .val (.ref b5), .val (.ref b7), .val (.int (3 : Int32)), .val (.int (0 : Int32)), .val (.int (0 : Int32)), .val (.ref b233), .val (.int (3 : Int32)), .val (.ref a259), .unset]) at_224 rfl rfl rfl ?_
            refine w_goto X259 (pc' := 249) at_226 (by decide) rfl ?_
            refine w_aload X259 (pc' := 251) at_249 rfl rfl rfl ?_
            refine w_aload X259 (pc' := 253) at_251 rfl rfl rfl ?_
            refine w_virtualV X259 (pc' := 256) at_253 (rm_vo3 hw (h0 := h259) (sd_size X259) b233 b7 B249_260 (show 3 ≤ 3 by decide) S7_260 (Sta.ext (sd_ext X259 hs0 Zn) S_c) hzc) (hw _ (List.mem_of_getElem? (i := 78) rfl)) (hw _ (List.mem_of_getElem? (i := 79) rfl)) (hw _ (List.mem_of_getElem? (i := 81) rfl)) (hw _ (List.mem_of_getElem? (i := 80) rfl)) (hw _ (List.mem_of_getElem? (i := 57) rfl)) (hw _ (List.mem_of_getElem? (i := 82) rfl)) B249_260.exa (by decide) [(.ref b7)] [] pd_15 rfl rfl rfl rfl 0 (Nat.le_refl _) (by decide) (by decide) (by decide) (by decide) rfl fun T261 h261 v261 X261 q261 => ?_
            have hv : own_val [(bs1, [(118 : Int32), (48 : Int32)]), (bs3, [(118 : Int32), (49 : Int32)]), (bs5, [(118 : Int32), (50 : Int32)])] bs7 3 = some [(118 : Int32), (49 : Int32)] := (own_vn (es := [(bs1, [(118 : Int32), (48 : Int32)]), (bs3, [(118 : Int32), (49 : Int32)]), (bs5, [(118 : Int32), (50 : Int32)])]) (q := bs7) 2 (show ¬ bs5 = bs7 from own_if0 hc196)).trans (own_vp (es := [(bs1, [(118 : Int32), (48 : Int32)]), (bs3, [(118 : Int32), (49 : Int32)]), (bs5, [(118 : Int32), (50 : Int32)])]) (q := bs7) 1 (show bs3 = bs7 from own_if1 hc219))
            obtain ⟨hq, rfl⟩ := q261
            rcases hq with ⟨rfl, hr⟩ | ⟨r, bs, rfl, Sr, hr⟩
            · exact absurd (hr.symm.trans hv) (by simp)
            obtain rfl : bs = [(118 : Int32), (49 : Int32)] := Option.some.inj (hr.symm.trans hv)
            refine w_astore X261 (pc' := 258) (l' := #[.val (.int p1), .val (.int p2), .val (.int p3), .val (.int p4), .val (.int p5), .val (.ref b1), .val (.ref b3), .val (.ref b5), .val (.ref b7), .val (.int (3 : Int32)), .val (.int (0 : Int32)), .val (.int (0 : Int32)), .val (.ref b233), .val (.int (3 : Int32)), .val (.ref a259), .val (.ref r)]) at_256 rfl rfl rfl ?_
            refine w_aload X261 (pc' := 260) at_258 rfl rfl rfl ?_
            refine w_ifnonnullY X261 (pc' := 274) at_260 (by decide) rfl ?_
            refine w_aload X261 (pc' := 276) at_274 rfl rfl rfl ?_
            refine w_aload X261 (pc' := 278) at_276 rfl rfl rfl ?_
            refine w_virtualV X261 (pc' := 281) at_278 (rm_eq hw (h0 := h259) (sd_size X261) a259 r S259 Sr (Sta.ext (sd_ext X261 hs0 Zn) S_c) hzc) (hw _ (List.mem_of_getElem? (i := 91) rfl)) (hw _ (List.mem_of_getElem? (i := 92) rfl)) (hw _ (List.mem_of_getElem? (i := 94) rfl)) (hw _ (List.mem_of_getElem? (i := 93) rfl)) (hw _ (List.mem_of_getElem? (i := 5) rfl)) (hw _ (List.mem_of_getElem? (i := 95) rfl)) S259.exa (by decide) [(.ref r)] [] pd_17 rfl rfl rfl rfl 0 (Nat.le_refl _) (by decide) (by decide) (by decide) (by decide) rfl fun T262 h262 v262 X262 q262 => ?_
            obtain ⟨rfl, rfl⟩ := q262
            exact w_zreturnW X262 F259 (own_hEL hw) at_281 (by rw [if_pos rfl]; rfl) (by decide) (by decide)
        · skip
          refine w_ldcW X251 F247_250 (pc' := 201) (text := "v2") [(118 : Int32), (50 : Int32)] 8 at_199 (hw _ (List.mem_of_getElem? (i := 90) rfl)) (own_wS hw) (own_hEL hw) (List.mem_of_getElem? (i := 3) rfl) (by decide) (by decide) (by decide) (by decide) (by decide) (by decide) rfl fun T263 h263 vm263 a263 X263 F263 E263 S263 => ?_
          have S1_264 := S1_250.ext E263
          have S3_264 := S3_250.ext E263
          have S5_264 := S5_250.ext E263
          have S7_264 := S7_250.ext E263
          have B249_264 := B249.ext E263
          refine w_astore X263 (pc' := 203) (l' := #[.val (.int p1), .val (.int p2), .val (.int p3), .val (.int p4), .val (.int p5), .val (.ref b1), .val (.ref b3), .val (.ref b5), .val (.ref b7), .val (.int (3 : Int32)), .val (.int (0 : Int32)), .val (.int (0 : Int32)), .val (.ref b233), .val (.int (3 : Int32)), .val (.ref a263), .unset]) at_201 rfl rfl rfl ?_
          refine w_goto X263 (pc' := 249) at_203 (by decide) rfl ?_
          refine w_aload X263 (pc' := 251) at_249 rfl rfl rfl ?_
          refine w_aload X263 (pc' := 253) at_251 rfl rfl rfl ?_
          refine w_virtualV X263 (pc' := 256) at_253 (rm_vo3 hw (h0 := h263) (sd_size X263) b233 b7 B249_264 (show 3 ≤ 3 by decide) S7_264 (Sta.ext (sd_ext X263 hs0 Zn) S_c) hzc) (hw _ (List.mem_of_getElem? (i := 78) rfl)) (hw _ (List.mem_of_getElem? (i := 79) rfl)) (hw _ (List.mem_of_getElem? (i := 81) rfl)) (hw _ (List.mem_of_getElem? (i := 80) rfl)) (hw _ (List.mem_of_getElem? (i := 57) rfl)) (hw _ (List.mem_of_getElem? (i := 82) rfl)) B249_264.exa (by decide) [(.ref b7)] [] pd_15 rfl rfl rfl rfl 0 (Nat.le_refl _) (by decide) (by decide) (by decide) (by decide) rfl fun T265 h265 v265 X265 q265 => ?_
          have hv : own_val [(bs1, [(118 : Int32), (48 : Int32)]), (bs3, [(118 : Int32), (49 : Int32)]), (bs5, [(118 : Int32), (50 : Int32)])] bs7 3 = some [(118 : Int32), (50 : Int32)] := own_vp (es := [(bs1, [(118 : Int32), (48 : Int32)]), (bs3, [(118 : Int32), (49 : Int32)]), (bs5, [(118 : Int32), (50 : Int32)])]) (q := bs7) 2 (show bs5 = bs7 from own_if1 hc196)
          obtain ⟨hq, rfl⟩ := q265
          rcases hq with ⟨rfl, hr⟩ | ⟨r, bs, rfl, Sr, hr⟩
          · exact absurd (hr.symm.trans hv) (by simp)
          obtain rfl : bs = [(118 : Int32), (50 : Int32)] := Option.some.inj (hr.symm.trans hv)
          refine w_astore X265 (pc' := 258) (l' := #[.val (.int p1), .val (.int p2), .val (.int p3), .val (.int p4), .val (.int p5), .val (.ref b1), .val (.ref b3), .val (.ref b5), .val (.ref b7), .val (.int (3 : Int32)), .val (.int (0 : Int32)), .val (.int (0 : Int32)), .val (.ref b233), .val (.int (3 : Int32)), .val (.ref a263), .val (.ref r)]) at_256 rfl rfl rfl ?_
          refine w_aload X265 (pc' := 260) at_258 rfl rfl rfl ?_
          refine w_ifnonnullY X265 (pc' := 274) at_260 (by decide) rfl ?_
          refine w_aload X265 (pc' := 276) at_274 rfl rfl rfl ?_
          refine w_aload X265 (pc' := 278) at_276 rfl rfl rfl ?_
          refine w_virtualV X265 (pc' := 281) at_278 (rm_eq hw (h0 := h263) (sd_size X265) a263 r S263 Sr (Sta.ext (sd_ext X265 hs0 Zn) S_c) hzc) (hw _ (List.mem_of_getElem? (i := 91) rfl)) (hw _ (List.mem_of_getElem? (i := 92) rfl)) (hw _ (List.mem_of_getElem? (i := 94) rfl)) (hw _ (List.mem_of_getElem? (i := 93) rfl)) (hw _ (List.mem_of_getElem? (i := 5) rfl)) (hw _ (List.mem_of_getElem? (i := 95) rfl)) S263.exa (by decide) [(.ref r)] [] pd_17 rfl rfl rfl rfl 0 (Nat.le_refl _) (by decide) (by decide) (by decide) (by decide) rfl fun T266 h266 v266 X266 q266 => ?_
          obtain ⟨rfl, rfl⟩ := q266
          exact w_zreturnW X266 F263 (own_hEL hw) at_281 (by rw [if_pos rfl]; rfl) (by decide) (by decide)
      · skip
        refine w_iconst X232 (pc' := 53) (1 : Int32) at_52 rfl rfl ?_
        refine w_goto X232 (pc' := 57) at_53 (by decide) rfl ?_
        refine w_istore X232 (pc' := 59) (l' := #[.val (.int p1), .val (.int p2), .val (.int p3), .val (.int p4), .val (.int p5), .val (.ref b1), .val (.ref b3), .val (.ref b5), .val (.ref b7), .val (.int (3 : Int32)), .val (.int (0 : Int32)), .val (.int (1 : Int32)), .unset, .unset, .unset, .unset]) at_57 rfl rfl ?_
        refine w_new X232 (pc' := 62) at_59 (hw _ (List.mem_of_getElem? (i := 55) rfl)) (hw _ (List.mem_of_getElem? (i := 56) rfl)) (hw _ (List.mem_of_getElem? (i := 57) rfl)) (by decide) (by decide) rfl fun T267 h267 b267 g267 gn267 X267 E267 A267 D267 => ?_
        have sf_b267 := F7.safe_new E267 g267
        have S1_268 := S1_8.ext E267
        have S3_268 := S3_8.ext E267
        have S5_268 := S5_8.ext E267
        have S7_268 := S7.ext E267
        have F7_268 := F7.ext E267
        have Fpairs_267 : Fld Z h267 b267 "com/example/raja/raja/xml/CanonicalWriter$Bindings" "pairs" "[Ljava/lang/String;" .null := D267 (Or.inl (hw _ (List.mem_of_getElem? (i := 65) rfl))) (ty := (.array (.object "java/lang/String"))) (by decide)
        have Fmarks_267 : Fld Z h267 b267 "com/example/raja/raja/xml/CanonicalWriter$Bindings" "marks" "[I" .null := D267 (Or.inl (hw _ (List.mem_of_getElem? (i := 68) rfl))) (ty := (.array .int)) (by decide)
        have Fdepth_267 : Fld Z h267 b267 "com/example/raja/raja/xml/CanonicalWriter$Bindings" "depth" "I" (.int (0 : Int32)) := D267 (Or.inl (hw _ (List.mem_of_getElem? (i := 75) rfl))) (ty := .int) (by decide)
        have Fsize_267 : Fld Z h267 b267 "com/example/raja/raja/xml/CanonicalWriter$Bindings" "size" "I" (.int (0 : Int32)) := D267 (Or.inl (hw _ (List.mem_of_getElem? (i := 77) rfl))) (ty := .int) (by decide)
        refine w_dup X267 (pc' := 63) at_62 rfl rfl ?_
        refine w_specialN X267 (pc' := 66) at_63 (rm_init hw (h0 := h267) (sd_size X267) b267 A267 Fpairs_267 Fmarks_267 Fsize_267 Fdepth_267 gn267) (hw _ (List.mem_of_getElem? (i := 58) rfl)) (hw _ (List.mem_of_getElem? (i := 59) rfl)) (hw _ (List.mem_of_getElem? (i := 57) rfl)) (hw _ (List.mem_of_getElem? (i := 60) rfl)) rfl (by decide) [] [(.ref b267)] pd_13 rfl rfl rfl rfl 1 (Nat.le_refl _) (by decide) (by decide) (by decide) (by decide) rfl fun T269 h269 X269 q269 => ?_
        obtain ⟨K269, B269⟩ := q269
        have S1_270 := S1_268.keep K269 (ap1 (Apart.obj A267 (hw _ (List.mem_of_getElem? (i := 56) rfl)) (by decide) (by decide)))
        have S3_270 := S3_268.keep K269 (ap1 (Apart.obj A267 (hw _ (List.mem_of_getElem? (i := 56) rfl)) (by decide) (by decide)))
        have S5_270 := S5_268.keep K269 (ap1 (Apart.obj A267 (hw _ (List.mem_of_getElem? (i := 56) rfl)) (by decide) (by decide)))
        have S7_270 := S7_268.keep K269 (ap1 (Apart.obj A267 (hw _ (List.mem_of_getElem? (i := 56) rfl)) (by decide) (by decide)))
        have F7_270 := F7_268.kp X269 K269 (ap1 (Apart.obj A267 (hw _ (List.mem_of_getElem? (i := 56) rfl)) (by decide) (by decide)))
        have A267_270 := A267.keep K269
        refine w_astore X269 (pc' := 68) (l' := #[.val (.int p1), .val (.int p2), .val (.int p3), .val (.int p4), .val (.int p5), .val (.ref b1), .val (.ref b3), .val (.ref b5), .val (.ref b7), .val (.int (3 : Int32)), .val (.int (0 : Int32)), .val (.int (1 : Int32)), .val (.ref b267), .unset, .unset, .unset]) at_66 rfl rfl rfl ?_
        refine w_iload X269 (pc' := 70) at_68 rfl rfl ?_
        refine w_if_ne X269 78 73 at_70 (by decide) rfl rfl (fun hc70 => by exfalso; revert hc70; decide) (fun hc70 => ?_)
        refine w_aload X269 (pc' := 75) at_73 rfl rfl rfl ?_
        refine w_virtualN X269 (pc' := 78) at_75 (rm_open hw (h0 := h269) (sd_size X269) b267 B269) (hw _ (List.mem_of_getElem? (i := 69) rfl)) (hw _ (List.mem_of_getElem? (i := 70) rfl)) (hw _ (List.mem_of_getElem? (i := 72) rfl)) (hw _ (List.mem_of_getElem? (i := 71) rfl)) (hw _ (List.mem_of_getElem? (i := 57) rfl)) (hw _ (List.mem_of_getElem? (i := 73) rfl)) B269.exa (by decide) [] [] pd_14 rfl rfl rfl rfl 0 (Nat.le_refl _) (by decide) (by decide) (by decide) (by decide) rfl fun T271 h271 X271 q271 => ?_
        obtain ⟨⟨ws271, K271, P271⟩, B271⟩ := q271
        have S1_272 := S1_270.keep K271 P271
        have S3_272 := S3_270.keep K271 P271
        have S5_272 := S5_270.keep K271 P271
        have S7_272 := S7_270.keep K271 P271
        have F7_272 := F7_270.kp X271 K271 P271
        replace B271 : BD Z n0 h271 b267 [] 0 1 0 := B271
        refine w_iload X271 (pc' := 80) at_78 rfl rfl ?_
        refine w_iconst X271 (pc' := 81) (1 : Int32) at_80 rfl rfl ?_
        refine w_icmp_lt X271 93 84 at_81 (by decide) rfl rfl (fun hc81 => by exfalso; revert hc81; decide) (fun hc81 => ?_)
        refine w_aload X271 (pc' := 86) at_84 rfl rfl rfl ?_
        refine w_aload X271 (pc' := 88) at_86 rfl rfl rfl ?_
        refine w_ldcW X271 F7_272 (pc' := 90) (text := "v0") [(118 : Int32), (48 : Int32)] 8 at_88 (hw _ (List.mem_of_getElem? (i := 83) rfl)) (own_wS hw) (own_hEL hw) (List.mem_of_getElem? (i := 1) rfl) (by decide) (by decide) (by decide) (by decide) (by decide) (by decide) rfl fun T273 h273 vm273 a273 X273 F273 E273 S273 => ?_
        have S1_274 := S1_272.ext E273
        have S3_274 := S3_272.ext E273
        have S5_274 := S5_272.ext E273
        have S7_274 := S7_272.ext E273
        have B271_274 := B271.ext E273
        refine w_virtualN X273 (pc' := 93) at_90 (rm_push hw (h0 := h273) (sd_size X273) b267 b1 a273 B271_274 (show 0 < 8 by decide) S1_274 S273) (hw _ (List.mem_of_getElem? (i := 84) rfl)) (hw _ (List.mem_of_getElem? (i := 85) rfl)) (hw _ (List.mem_of_getElem? (i := 87) rfl)) (hw _ (List.mem_of_getElem? (i := 86) rfl)) (hw _ (List.mem_of_getElem? (i := 57) rfl)) (hw _ (List.mem_of_getElem? (i := 88) rfl)) B271_274.exa (by decide) [(.ref b1), (.ref a273)] [] pd_16 rfl rfl rfl rfl 0 (Nat.le_refl _) (by decide) (by decide) (by decide) (by decide) rfl fun T275 h275 X275 q275 => ?_
        obtain ⟨⟨ws275, K275, P275⟩, B275⟩ := q275
        have S1_276 := S1_274.keep K275 P275
        have S3_276 := S3_274.keep K275 P275
        have S5_276 := S5_274.keep K275 P275
        have S7_276 := S7_274.keep K275 P275
        have F273_276 := F273.kp X275 K275 P275
        replace B275 : BD Z n0 h275 b267 [(bs1, [(118 : Int32), (48 : Int32)])] 1 1 0 := B275
        refine w_iload X275 (pc' := 95) at_93 rfl rfl ?_
        refine w_iconst X275 (pc' := 96) (1 : Int32) at_95 rfl rfl ?_
        refine w_icmp_ne X275 104 99 at_96 (by decide) rfl rfl (fun hc96 => ?_) (fun hc96 => by exfalso; revert hc96; decide)
        refine w_iload X275 (pc' := 106) at_104 rfl rfl ?_
        refine w_iconst X275 (pc' := 107) (2 : Int32) at_106 rfl rfl ?_
        refine w_icmp_lt X275 119 110 at_107 (by decide) rfl rfl (fun hc107 => by exfalso; revert hc107; decide) (fun hc107 => ?_)
        refine w_aload X275 (pc' := 112) at_110 rfl rfl rfl ?_
        refine w_aload X275 (pc' := 114) at_112 rfl rfl rfl ?_
        refine w_ldcW X275 F273_276 (pc' := 116) (text := "v1") [(118 : Int32), (49 : Int32)] 8 at_114 (hw _ (List.mem_of_getElem? (i := 89) rfl)) (own_wS hw) (own_hEL hw) (List.mem_of_getElem? (i := 2) rfl) (by decide) (by decide) (by decide) (by decide) (by decide) (by decide) rfl fun T277 h277 vm277 a277 X277 F277 E277 S277 => ?_
        have S1_278 := S1_276.ext E277
        have S3_278 := S3_276.ext E277
        have S5_278 := S5_276.ext E277
        have S7_278 := S7_276.ext E277
        have B275_278 := B275.ext E277
        refine w_virtualN X277 (pc' := 119) at_116 (rm_push hw (h0 := h277) (sd_size X277) b267 b3 a277 B275_278 (show 1 < 8 by decide) S3_278 S277) (hw _ (List.mem_of_getElem? (i := 84) rfl)) (hw _ (List.mem_of_getElem? (i := 85) rfl)) (hw _ (List.mem_of_getElem? (i := 87) rfl)) (hw _ (List.mem_of_getElem? (i := 86) rfl)) (hw _ (List.mem_of_getElem? (i := 57) rfl)) (hw _ (List.mem_of_getElem? (i := 88) rfl)) B275_278.exa (by decide) [(.ref b3), (.ref a277)] [] pd_16 rfl rfl rfl rfl 0 (Nat.le_refl _) (by decide) (by decide) (by decide) (by decide) rfl fun T279 h279 X279 q279 => ?_
        obtain ⟨⟨ws279, K279, P279⟩, B279⟩ := q279
        have S1_280 := S1_278.keep K279 P279
        have S3_280 := S3_278.keep K279 P279
        have S5_280 := S5_278.keep K279 P279
        have S7_280 := S7_278.keep K279 P279
        have F277_280 := F277.kp X279 K279 P279
        replace B279 : BD Z n0 h279 b267 [(bs1, [(118 : Int32), (48 : Int32)]), (bs3, [(118 : Int32), (49 : Int32)])] 2 1 0 := B279
        refine w_iload X279 (pc' := 121) at_119 rfl rfl ?_
        refine w_iconst X279 (pc' := 122) (2 : Int32) at_121 rfl rfl ?_
        refine w_icmp_ne X279 130 125 at_122 (by decide) rfl rfl (fun hc122 => ?_) (fun hc122 => by exfalso; revert hc122; decide)
        refine w_iload X279 (pc' := 132) at_130 rfl rfl ?_
        refine w_iconst X279 (pc' := 133) (3 : Int32) at_132 rfl rfl ?_
        refine w_icmp_lt X279 145 136 at_133 (by decide) rfl rfl (fun hc133 => by exfalso; revert hc133; decide) (fun hc133 => ?_)
        refine w_aload X279 (pc' := 138) at_136 rfl rfl rfl ?_
        refine w_aload X279 (pc' := 140) at_138 rfl rfl rfl ?_
        refine w_ldcW X279 F277_280 (pc' := 142) (text := "v2") [(118 : Int32), (50 : Int32)] 8 at_140 (hw _ (List.mem_of_getElem? (i := 90) rfl)) (own_wS hw) (own_hEL hw) (List.mem_of_getElem? (i := 3) rfl) (by decide) (by decide) (by decide) (by decide) (by decide) (by decide) rfl fun T281 h281 vm281 a281 X281 F281 E281 S281 => ?_
        have S1_282 := S1_280.ext E281
        have S3_282 := S3_280.ext E281
        have S5_282 := S5_280.ext E281
        have S7_282 := S7_280.ext E281
        have B279_282 := B279.ext E281
        refine w_virtualN X281 (pc' := 145) at_142 (rm_push hw (h0 := h281) (sd_size X281) b267 b5 a281 B279_282 (show 2 < 8 by decide) S5_282 S281) (hw _ (List.mem_of_getElem? (i := 84) rfl)) (hw _ (List.mem_of_getElem? (i := 85) rfl)) (hw _ (List.mem_of_getElem? (i := 87) rfl)) (hw _ (List.mem_of_getElem? (i := 86) rfl)) (hw _ (List.mem_of_getElem? (i := 57) rfl)) (hw _ (List.mem_of_getElem? (i := 88) rfl)) B279_282.exa (by decide) [(.ref b5), (.ref a281)] [] pd_16 rfl rfl rfl rfl 0 (Nat.le_refl _) (by decide) (by decide) (by decide) (by decide) rfl fun T283 h283 X283 q283 => ?_
        obtain ⟨⟨ws283, K283, P283⟩, B283⟩ := q283
        have S1_284 := S1_282.keep K283 P283
        have S3_284 := S3_282.keep K283 P283
        have S5_284 := S5_282.keep K283 P283
        have S7_284 := S7_282.keep K283 P283
        have F281_284 := F281.kp X283 K283 P283
        replace B283 : BD Z n0 h283 b267 [(bs1, [(118 : Int32), (48 : Int32)]), (bs3, [(118 : Int32), (49 : Int32)]), (bs5, [(118 : Int32), (50 : Int32)])] 3 1 0 := B283
        refine w_iload X283 (pc' := 147) at_145 rfl rfl ?_
        refine w_iconst X283 (pc' := 148) (3 : Int32) at_147 rfl rfl ?_
        refine w_icmp_ne X283 156 151 at_148 (by decide) rfl rfl (fun hc148 => ?_) (fun hc148 => by exfalso; revert hc148; decide)
        refine w_iload X283 (pc' := 158) at_156 rfl rfl ?_
        refine w_if_eq X283 166 161 at_158 (by decide) rfl rfl (fun hc158 => by exfalso; revert hc158; decide) (fun hc158 => ?_)
        refine w_aload X283 (pc' := 163) at_161 rfl rfl rfl ?_
        refine w_virtualN X283 (pc' := 166) at_163 (rm_close hw (h0 := h283) (sd_size X283) b267 B283) (hw _ (List.mem_of_getElem? (i := 100) rfl)) (hw _ (List.mem_of_getElem? (i := 101) rfl)) (hw _ (List.mem_of_getElem? (i := 103) rfl)) (hw _ (List.mem_of_getElem? (i := 102) rfl)) (hw _ (List.mem_of_getElem? (i := 57) rfl)) (hw _ (List.mem_of_getElem? (i := 104) rfl)) B283.exa (by decide) [] [] pd_19 rfl rfl rfl rfl 0 (Nat.le_refl _) (by decide) (by decide) (by decide) (by decide) rfl fun T285 h285 X285 q285 => ?_
        obtain ⟨⟨ws285, K285, P285⟩, B285⟩ := q285
        have S1_286 := S1_284.keep K285 P285
        have S3_286 := S3_284.keep K285 P285
        have S5_286 := S5_284.keep K285 P285
        have S7_286 := S7_284.keep K285 P285
        have F281_286 := F281_284.kp X285 K285 P285
        replace B285 : BD Z n0 h285 b267 [(bs1, [(118 : Int32), (48 : Int32)]), (bs3, [(118 : Int32), (49 : Int32)]), (bs5, [(118 : Int32), (50 : Int32)])] 0 0 0 := B285
        refine w_iload X285 (pc' := 168) at_166 rfl rfl ?_
        refine w_if_eq X285 176 171 at_168 (by decide) rfl rfl (fun hc168 => by exfalso; revert hc168; decide) (fun hc168 => ?_)
        refine w_iload X285 (pc' := 173) at_171 rfl rfl ?_
        refine w_goto X285 (pc' := 178) at_173 (by decide) rfl ?_
        refine w_istore X285 (pc' := 180) (l' := #[.val (.int p1), .val (.int p2), .val (.int p3), .val (.int p4), .val (.int p5), .val (.ref b1), .val (.ref b3), .val (.ref b5), .val (.ref b7), .val (.int (3 : Int32)), .val (.int (0 : Int32)), .val (.int (1 : Int32)), .val (.ref b267), .val (.int (0 : Int32)), .unset, .unset]) at_178 rfl rfl ?_
        refine w_aconst_null X285 (pc' := 181) at_180 rfl ?_
        refine w_astore X285 (pc' := 183) (l' := #[.val (.int p1), .val (.int p2), .val (.int p3), .val (.int p4), .val (.int p5), .val (.ref b1), .val (.ref b3), .val (.ref b5), .val (.ref b7), .val (.int (3 : Int32)), .val (.int (0 : Int32)), .val (.int (1 : Int32)), .val (.ref b267), .val (.int (0 : Int32)), .val .null, .unset]) at_181 rfl rfl rfl ?_
        refine w_iload X285 (pc' := 185) at_183 rfl rfl ?_
        refine w_iconst X285 (pc' := 186) (3 : Int32) at_185 rfl rfl ?_
        refine w_icmp_lt X285 206 189 at_186 (by decide) rfl rfl (fun hc186 => ?_) (fun hc186 => by exfalso; revert hc186; decide)
        refine w_iload X285 (pc' := 208) at_206 rfl rfl ?_
        refine w_iconst X285 (pc' := 209) (2 : Int32) at_208 rfl rfl ?_
        refine w_icmp_lt X285 229 212 at_209 (by decide) rfl rfl (fun hc209 => ?_) (fun hc209 => by exfalso; revert hc209; decide)
        refine w_iload X285 (pc' := 231) at_229 rfl rfl ?_
        refine w_iconst X285 (pc' := 232) (1 : Int32) at_231 rfl rfl ?_
        refine w_icmp_lt X285 249 235 at_232 (by decide) rfl rfl (fun hc232 => ?_) (fun hc232 => by exfalso; revert hc232; decide)
        refine w_aload X285 (pc' := 251) at_249 rfl rfl rfl ?_
        refine w_aload X285 (pc' := 253) at_251 rfl rfl rfl ?_
        refine w_virtualV X285 (pc' := 256) at_253 (rm_vo0 hw (h0 := h285) (sd_size X285) b267 b7 B285 (show 0 ≤ 3 by decide) S7_286 (Sta.ext (sd_ext X285 hs0 Zn) S_c) hzc) (hw _ (List.mem_of_getElem? (i := 78) rfl)) (hw _ (List.mem_of_getElem? (i := 79) rfl)) (hw _ (List.mem_of_getElem? (i := 81) rfl)) (hw _ (List.mem_of_getElem? (i := 80) rfl)) (hw _ (List.mem_of_getElem? (i := 57) rfl)) (hw _ (List.mem_of_getElem? (i := 82) rfl)) B285.exa (by decide) [(.ref b7)] [] pd_15 rfl rfl rfl rfl 0 (Nat.le_refl _) (by decide) (by decide) (by decide) (by decide) rfl fun T287 h287 v287 X287 q287 => ?_
        have hv : own_val [(bs1, [(118 : Int32), (48 : Int32)]), (bs3, [(118 : Int32), (49 : Int32)]), (bs5, [(118 : Int32), (50 : Int32)])] bs7 0 = none := rfl
        obtain ⟨hq, rfl⟩ := q287
        rcases hq with ⟨rfl, -⟩ | ⟨r, bs, rfl, Sr, hr⟩
        rotate_left
        · exact absurd (hr.symm.trans hv) (by simp)
        refine w_astore X287 (pc' := 258) (l' := #[.val (.int p1), .val (.int p2), .val (.int p3), .val (.int p4), .val (.int p5), .val (.ref b1), .val (.ref b3), .val (.ref b5), .val (.ref b7), .val (.int (3 : Int32)), .val (.int (0 : Int32)), .val (.int (1 : Int32)), .val (.ref b267), .val (.int (0 : Int32)), .val .null, .val .null]) at_256 rfl rfl rfl ?_
        refine w_aload X287 (pc' := 260) at_258 rfl rfl rfl ?_
        refine w_ifnonnullN X287 (pc' := 263) at_260 rfl ?_
        refine w_aload X287 (pc' := 265) at_263 rfl rfl rfl ?_
        refine w_ifnonnullN X287 (pc' := 268) at_265 rfl ?_
        refine w_iconst X287 (pc' := 269) (1 : Int32) at_268 rfl rfl ?_
        refine w_goto X287 (pc' := 273) at_269 (by decide) rfl ?_
        exact w_zreturnW X287 F281_286 (own_hEL hw) at_273 rfl (by decide) (by decide)
    · skip
      show Go p e below _ (T232.setTop (mkF m 43 #[.val (.int p1), .val (.int p2), .val (.int p3), .val (.int p4), .val (.int p5), .val (.ref b1), .val (.ref b3), .val (.ref b5), .val (.ref b7), .val (.int (3 : Int32)), .val (.int (1 : Int32)), .unset, .unset, .unset, .unset, .unset] []))
      refine w_iload X232 (pc' := 45) at_43 rfl rfl ?_
      refine w_iconst X232 (pc' := 46) (4 : Int32) at_45 rfl rfl ?_
      refine w_iushr X232 (pc' := 47) at_46 rfl ?_
      refine w_iconst X232 (pc' := 48) (1 : Int32) at_47 rfl rfl ?_
      refine w_iand X232 (pc' := 49) at_48 rfl ?_
      refine w_if_eq X232 56 52 at_49 (by decide) rfl rfl (fun hc49 => ?_) (fun hc49 => ?_)
      · skip
        refine w_iconst X232 (pc' := 57) (0 : Int32) at_56 rfl rfl ?_
        refine w_istore X232 (pc' := 59) (l' := #[.val (.int p1), .val (.int p2), .val (.int p3), .val (.int p4), .val (.int p5), .val (.ref b1), .val (.ref b3), .val (.ref b5), .val (.ref b7), .val (.int (3 : Int32)), .val (.int (1 : Int32)), .val (.int (0 : Int32)), .unset, .unset, .unset, .unset]) at_57 rfl rfl ?_
        refine w_new X232 (pc' := 62) at_59 (hw _ (List.mem_of_getElem? (i := 55) rfl)) (hw _ (List.mem_of_getElem? (i := 56) rfl)) (hw _ (List.mem_of_getElem? (i := 57) rfl)) (by decide) (by decide) rfl fun T288 h288 b288 g288 gn288 X288 E288 A288 D288 => ?_
        have sf_b288 := F7.safe_new E288 g288
        have S1_289 := S1_8.ext E288
        have S3_289 := S3_8.ext E288
        have S5_289 := S5_8.ext E288
        have S7_289 := S7.ext E288
        have F7_289 := F7.ext E288
        have Fpairs_288 : Fld Z h288 b288 "com/example/raja/raja/xml/CanonicalWriter$Bindings" "pairs" "[Ljava/lang/String;" .null := D288 (Or.inl (hw _ (List.mem_of_getElem? (i := 65) rfl))) (ty := (.array (.object "java/lang/String"))) (by decide)
        have Fmarks_288 : Fld Z h288 b288 "com/example/raja/raja/xml/CanonicalWriter$Bindings" "marks" "[I" .null := D288 (Or.inl (hw _ (List.mem_of_getElem? (i := 68) rfl))) (ty := (.array .int)) (by decide)
        have Fdepth_288 : Fld Z h288 b288 "com/example/raja/raja/xml/CanonicalWriter$Bindings" "depth" "I" (.int (0 : Int32)) := D288 (Or.inl (hw _ (List.mem_of_getElem? (i := 75) rfl))) (ty := .int) (by decide)
        have Fsize_288 : Fld Z h288 b288 "com/example/raja/raja/xml/CanonicalWriter$Bindings" "size" "I" (.int (0 : Int32)) := D288 (Or.inl (hw _ (List.mem_of_getElem? (i := 77) rfl))) (ty := .int) (by decide)
        refine w_dup X288 (pc' := 63) at_62 rfl rfl ?_
        refine w_specialN X288 (pc' := 66) at_63 (rm_init hw (h0 := h288) (sd_size X288) b288 A288 Fpairs_288 Fmarks_288 Fsize_288 Fdepth_288 gn288) (hw _ (List.mem_of_getElem? (i := 58) rfl)) (hw _ (List.mem_of_getElem? (i := 59) rfl)) (hw _ (List.mem_of_getElem? (i := 57) rfl)) (hw _ (List.mem_of_getElem? (i := 60) rfl)) rfl (by decide) [] [(.ref b288)] pd_13 rfl rfl rfl rfl 1 (Nat.le_refl _) (by decide) (by decide) (by decide) (by decide) rfl fun T290 h290 X290 q290 => ?_
        obtain ⟨K290, B290⟩ := q290
        have S1_291 := S1_289.keep K290 (ap1 (Apart.obj A288 (hw _ (List.mem_of_getElem? (i := 56) rfl)) (by decide) (by decide)))
        have S3_291 := S3_289.keep K290 (ap1 (Apart.obj A288 (hw _ (List.mem_of_getElem? (i := 56) rfl)) (by decide) (by decide)))
        have S5_291 := S5_289.keep K290 (ap1 (Apart.obj A288 (hw _ (List.mem_of_getElem? (i := 56) rfl)) (by decide) (by decide)))
        have S7_291 := S7_289.keep K290 (ap1 (Apart.obj A288 (hw _ (List.mem_of_getElem? (i := 56) rfl)) (by decide) (by decide)))
        have F7_291 := F7_289.kp X290 K290 (ap1 (Apart.obj A288 (hw _ (List.mem_of_getElem? (i := 56) rfl)) (by decide) (by decide)))
        have A288_291 := A288.keep K290
        refine w_astore X290 (pc' := 68) (l' := #[.val (.int p1), .val (.int p2), .val (.int p3), .val (.int p4), .val (.int p5), .val (.ref b1), .val (.ref b3), .val (.ref b5), .val (.ref b7), .val (.int (3 : Int32)), .val (.int (1 : Int32)), .val (.int (0 : Int32)), .val (.ref b288), .unset, .unset, .unset]) at_66 rfl rfl rfl ?_
        refine w_iload X290 (pc' := 70) at_68 rfl rfl ?_
        refine w_if_ne X290 78 73 at_70 (by decide) rfl rfl (fun hc70 => ?_) (fun hc70 => by exfalso; revert hc70; decide)
        refine w_iload X290 (pc' := 80) at_78 rfl rfl ?_
        refine w_iconst X290 (pc' := 81) (1 : Int32) at_80 rfl rfl ?_
        refine w_icmp_lt X290 93 84 at_81 (by decide) rfl rfl (fun hc81 => by exfalso; revert hc81; decide) (fun hc81 => ?_)
        refine w_aload X290 (pc' := 86) at_84 rfl rfl rfl ?_
        refine w_aload X290 (pc' := 88) at_86 rfl rfl rfl ?_
        refine w_ldcW X290 F7_291 (pc' := 90) (text := "v0") [(118 : Int32), (48 : Int32)] 8 at_88 (hw _ (List.mem_of_getElem? (i := 83) rfl)) (own_wS hw) (own_hEL hw) (List.mem_of_getElem? (i := 1) rfl) (by decide) (by decide) (by decide) (by decide) (by decide) (by decide) rfl fun T292 h292 vm292 a292 X292 F292 E292 S292 => ?_
        have S1_293 := S1_291.ext E292
        have S3_293 := S3_291.ext E292
        have S5_293 := S5_291.ext E292
        have S7_293 := S7_291.ext E292
        have B290_293 := B290.ext E292
        refine w_virtualN X292 (pc' := 93) at_90 (rm_push hw (h0 := h292) (sd_size X292) b288 b1 a292 B290_293 (show 0 < 8 by decide) S1_293 S292) (hw _ (List.mem_of_getElem? (i := 84) rfl)) (hw _ (List.mem_of_getElem? (i := 85) rfl)) (hw _ (List.mem_of_getElem? (i := 87) rfl)) (hw _ (List.mem_of_getElem? (i := 86) rfl)) (hw _ (List.mem_of_getElem? (i := 57) rfl)) (hw _ (List.mem_of_getElem? (i := 88) rfl)) B290_293.exa (by decide) [(.ref b1), (.ref a292)] [] pd_16 rfl rfl rfl rfl 0 (Nat.le_refl _) (by decide) (by decide) (by decide) (by decide) rfl fun T294 h294 X294 q294 => ?_
        obtain ⟨⟨ws294, K294, P294⟩, B294⟩ := q294
        have S1_295 := S1_293.keep K294 P294
        have S3_295 := S3_293.keep K294 P294
        have S5_295 := S5_293.keep K294 P294
        have S7_295 := S7_293.keep K294 P294
        have F292_295 := F292.kp X294 K294 P294
        replace B294 : BD Z n0 h294 b288 [(bs1, [(118 : Int32), (48 : Int32)])] 1 0 0 := B294
        refine w_iload X294 (pc' := 95) at_93 rfl rfl ?_
        refine w_iconst X294 (pc' := 96) (1 : Int32) at_95 rfl rfl ?_
        refine w_icmp_ne X294 104 99 at_96 (by decide) rfl rfl (fun hc96 => by exfalso; revert hc96; decide) (fun hc96 => ?_)
        refine w_aload X294 (pc' := 101) at_99 rfl rfl rfl ?_
        refine w_virtualN X294 (pc' := 104) at_101 (rm_open hw (h0 := h294) (sd_size X294) b288 B294) (hw _ (List.mem_of_getElem? (i := 69) rfl)) (hw _ (List.mem_of_getElem? (i := 70) rfl)) (hw _ (List.mem_of_getElem? (i := 72) rfl)) (hw _ (List.mem_of_getElem? (i := 71) rfl)) (hw _ (List.mem_of_getElem? (i := 57) rfl)) (hw _ (List.mem_of_getElem? (i := 73) rfl)) B294.exa (by decide) [] [] pd_14 rfl rfl rfl rfl 0 (Nat.le_refl _) (by decide) (by decide) (by decide) (by decide) rfl fun T296 h296 X296 q296 => ?_
        obtain ⟨⟨ws296, K296, P296⟩, B296⟩ := q296
        have S1_297 := S1_295.keep K296 P296
        have S3_297 := S3_295.keep K296 P296
        have S5_297 := S5_295.keep K296 P296
        have S7_297 := S7_295.keep K296 P296
        have F292_297 := F292_295.kp X296 K296 P296
        replace B296 : BD Z n0 h296 b288 [(bs1, [(118 : Int32), (48 : Int32)])] 1 1 1 := B296
        refine w_iload X296 (pc' := 106) at_104 rfl rfl ?_
        refine w_iconst X296 (pc' := 107) (2 : Int32) at_106 rfl rfl ?_
        refine w_icmp_lt X296 119 110 at_107 (by decide) rfl rfl (fun hc107 => by exfalso; revert hc107; decide) (fun hc107 => ?_)
        refine w_aload X296 (pc' := 112) at_110 rfl rfl rfl ?_
        refine w_aload X296 (pc' := 114) at_112 rfl rfl rfl ?_
        refine w_ldcW X296 F292_297 (pc' := 116) (text := "v1") [(118 : Int32), (49 : Int32)] 8 at_114 (hw _ (List.mem_of_getElem? (i := 89) rfl)) (own_wS hw) (own_hEL hw) (List.mem_of_getElem? (i := 2) rfl) (by decide) (by decide) (by decide) (by decide) (by decide) (by decide) rfl fun T298 h298 vm298 a298 X298 F298 E298 S298 => ?_
        have S1_299 := S1_297.ext E298
        have S3_299 := S3_297.ext E298
        have S5_299 := S5_297.ext E298
        have S7_299 := S7_297.ext E298
        have B296_299 := B296.ext E298
        refine w_virtualN X298 (pc' := 119) at_116 (rm_push hw (h0 := h298) (sd_size X298) b288 b3 a298 B296_299 (show 1 < 8 by decide) S3_299 S298) (hw _ (List.mem_of_getElem? (i := 84) rfl)) (hw _ (List.mem_of_getElem? (i := 85) rfl)) (hw _ (List.mem_of_getElem? (i := 87) rfl)) (hw _ (List.mem_of_getElem? (i := 86) rfl)) (hw _ (List.mem_of_getElem? (i := 57) rfl)) (hw _ (List.mem_of_getElem? (i := 88) rfl)) B296_299.exa (by decide) [(.ref b3), (.ref a298)] [] pd_16 rfl rfl rfl rfl 0 (Nat.le_refl _) (by decide) (by decide) (by decide) (by decide) rfl fun T300 h300 X300 q300 => ?_
        obtain ⟨⟨ws300, K300, P300⟩, B300⟩ := q300
        have S1_301 := S1_299.keep K300 P300
        have S3_301 := S3_299.keep K300 P300
        have S5_301 := S5_299.keep K300 P300
        have S7_301 := S7_299.keep K300 P300
        have F298_301 := F298.kp X300 K300 P300
        replace B300 : BD Z n0 h300 b288 [(bs1, [(118 : Int32), (48 : Int32)]), (bs3, [(118 : Int32), (49 : Int32)])] 2 1 1 := B300
        refine w_iload X300 (pc' := 121) at_119 rfl rfl ?_
        refine w_iconst X300 (pc' := 122) (2 : Int32) at_121 rfl rfl ?_
        refine w_icmp_ne X300 130 125 at_122 (by decide) rfl rfl (fun hc122 => ?_) (fun hc122 => by exfalso; revert hc122; decide)
        refine w_iload X300 (pc' := 132) at_130 rfl rfl ?_
        refine w_iconst X300 (pc' := 133) (3 : Int32) at_132 rfl rfl ?_
        refine w_icmp_lt X300 145 136 at_133 (by decide) rfl rfl (fun hc133 => by exfalso; revert hc133; decide) (fun hc133 => ?_)
        refine w_aload X300 (pc' := 138) at_136 rfl rfl rfl ?_
        refine w_aload X300 (pc' := 140) at_138 rfl rfl rfl ?_
        refine w_ldcW X300 F298_301 (pc' := 142) (text := "v2") [(118 : Int32), (50 : Int32)] 8 at_140 (hw _ (List.mem_of_getElem? (i := 90) rfl)) (own_wS hw) (own_hEL hw) (List.mem_of_getElem? (i := 3) rfl) (by decide) (by decide) (by decide) (by decide) (by decide) (by decide) rfl fun T302 h302 vm302 a302 X302 F302 E302 S302 => ?_
        have S1_303 := S1_301.ext E302
        have S3_303 := S3_301.ext E302
        have S5_303 := S5_301.ext E302
        have S7_303 := S7_301.ext E302
        have B300_303 := B300.ext E302
        refine w_virtualN X302 (pc' := 145) at_142 (rm_push hw (h0 := h302) (sd_size X302) b288 b5 a302 B300_303 (show 2 < 8 by decide) S5_303 S302) (hw _ (List.mem_of_getElem? (i := 84) rfl)) (hw _ (List.mem_of_getElem? (i := 85) rfl)) (hw _ (List.mem_of_getElem? (i := 87) rfl)) (hw _ (List.mem_of_getElem? (i := 86) rfl)) (hw _ (List.mem_of_getElem? (i := 57) rfl)) (hw _ (List.mem_of_getElem? (i := 88) rfl)) B300_303.exa (by decide) [(.ref b5), (.ref a302)] [] pd_16 rfl rfl rfl rfl 0 (Nat.le_refl _) (by decide) (by decide) (by decide) (by decide) rfl fun T304 h304 X304 q304 => ?_
        obtain ⟨⟨ws304, K304, P304⟩, B304⟩ := q304
        have S1_305 := S1_303.keep K304 P304
        have S3_305 := S3_303.keep K304 P304
        have S5_305 := S5_303.keep K304 P304
        have S7_305 := S7_303.keep K304 P304
        have F302_305 := F302.kp X304 K304 P304
        replace B304 : BD Z n0 h304 b288 [(bs1, [(118 : Int32), (48 : Int32)]), (bs3, [(118 : Int32), (49 : Int32)]), (bs5, [(118 : Int32), (50 : Int32)])] 3 1 1 := B304
        refine w_iload X304 (pc' := 147) at_145 rfl rfl ?_
        refine w_iconst X304 (pc' := 148) (3 : Int32) at_147 rfl rfl ?_
        refine w_icmp_ne X304 156 151 at_148 (by decide) rfl rfl (fun hc148 => ?_) (fun hc148 => by exfalso; revert hc148; decide)
        refine w_iload X304 (pc' := 158) at_156 rfl rfl ?_
        refine w_if_eq X304 166 161 at_158 (by decide) rfl rfl (fun hc158 => ?_) (fun hc158 => by exfalso; revert hc158; decide)
        refine w_iload X304 (pc' := 168) at_166 rfl rfl ?_
        refine w_if_eq X304 176 171 at_168 (by decide) rfl rfl (fun hc168 => ?_) (fun hc168 => by exfalso; revert hc168; decide)
        refine w_iload X304 (pc' := 178) at_176 rfl rfl ?_
        refine w_istore X304 (pc' := 180) (l' := #[.val (.int p1), .val (.int p2), .val (.int p3), .val (.int p4), .val (.int p5), .val (.ref b1), .val (.ref b3), .val (.ref b5), .val (.ref b7), .val (.int (3 : Int32)), .val (.int (1 : Int32)), .val (.int (0 : Int32)), .val (.ref b288), .val (.int (3 : Int32)), .unset, .unset]) at_178 rfl rfl ?_
        refine w_aconst_null X304 (pc' := 181) at_180 rfl ?_
        refine w_astore X304 (pc' := 183) (l' := #[.val (.int p1), .val (.int p2), .val (.int p3), .val (.int p4), .val (.int p5), .val (.ref b1), .val (.ref b3), .val (.ref b5), .val (.ref b7), .val (.int (3 : Int32)), .val (.int (1 : Int32)), .val (.int (0 : Int32)), .val (.ref b288), .val (.int (3 : Int32)), .val .null, .unset]) at_181 rfl rfl rfl ?_
        refine w_iload X304 (pc' := 185) at_183 rfl rfl ?_
        refine w_iconst X304 (pc' := 186) (3 : Int32) at_185 rfl rfl ?_
        refine w_icmp_lt X304 206 189 at_186 (by decide) rfl rfl (fun hc186 => by exfalso; revert hc186; decide) (fun hc186 => ?_)
        refine w_aload X304 (pc' := 191) at_189 rfl rfl rfl ?_
        refine w_aload X304 (pc' := 193) at_191 rfl rfl rfl ?_
        refine w_virtualV X304 (pc' := 196) at_193 (rm_eq hw (h0 := h304) (sd_size X304) b5 b7 S5_305 S7_305 (Sta.ext (sd_ext X304 hs0 Zn) S_c) hzc) (hw _ (List.mem_of_getElem? (i := 91) rfl)) (hw _ (List.mem_of_getElem? (i := 92) rfl)) (hw _ (List.mem_of_getElem? (i := 94) rfl)) (hw _ (List.mem_of_getElem? (i := 93) rfl)) (hw _ (List.mem_of_getElem? (i := 5) rfl)) (hw _ (List.mem_of_getElem? (i := 95) rfl)) S5_305.exa (by decide) [(.ref b7)] [] pd_17 rfl rfl rfl rfl 0 (Nat.le_refl _) (by decide) (by decide) (by decide) (by decide) rfl fun T306 h306 v306 X306 q306 => ?_
        obtain ⟨rfl, rfl⟩ := q306
        refine w_if_eq X306 206 199 at_196 (by decide) rfl rfl (fun hc196 => ?_) (fun hc196 => ?_)
        · skip
          refine w_iload X306 (pc' := 208) at_206 rfl rfl ?_
          refine w_iconst X306 (pc' := 209) (2 : Int32) at_208 rfl rfl ?_
          refine w_icmp_lt X306 229 212 at_209 (by decide) rfl rfl (fun hc209 => by exfalso; revert hc209; decide) (fun hc209 => ?_)
          refine w_aload X306 (pc' := 214) at_212 rfl rfl rfl ?_
          refine w_aload X306 (pc' := 216) at_214 rfl rfl rfl ?_
          refine w_virtualV X306 (pc' := 219) at_216 (rm_eq hw (h0 := h304) (sd_size X306) b3 b7 S3_305 S7_305 (Sta.ext (sd_ext X306 hs0 Zn) S_c) hzc) (hw _ (List.mem_of_getElem? (i := 91) rfl)) (hw _ (List.mem_of_getElem? (i := 92) rfl)) (hw _ (List.mem_of_getElem? (i := 94) rfl)) (hw _ (List.mem_of_getElem? (i := 93) rfl)) (hw _ (List.mem_of_getElem? (i := 5) rfl)) (hw _ (List.mem_of_getElem? (i := 95) rfl)) S3_305.exa (by decide) [(.ref b7)] [] pd_17 rfl rfl rfl rfl 0 (Nat.le_refl _) (by decide) (by decide) (by decide) (by decide) rfl fun T307 h307 v307 X307 q307 => ?_
          obtain ⟨rfl, rfl⟩ := q307
          refine w_if_eq X307 229 222 at_219 (by decide) rfl rfl (fun hc219 => ?_) (fun hc219 => ?_)
          · skip
            refine w_iload X307 (pc' := 231) at_229 rfl rfl ?_
            refine w_iconst X307 (pc' := 232) (1 : Int32) at_231 rfl rfl ?_
            refine w_icmp_lt X307 249 235 at_232 (by decide) rfl rfl (fun hc232 => by exfalso; revert hc232; decide) (fun hc232 => ?_)
            refine w_aload X307 (pc' := 237) at_235 rfl rfl rfl ?_
            refine w_aload X307 (pc' := 239) at_237 rfl rfl rfl ?_
            refine w_virtualV X307 (pc' := 242) at_239 (rm_eq hw (h0 := h304) (sd_size X307) b1 b7 S1_305 S7_305 (Sta.ext (sd_ext X307 hs0 Zn) S_c) hzc) (hw _ (List.mem_of_getElem? (i := 91) rfl)) (hw _ (List.mem_of_getElem? (i := 92) rfl)) (hw _ (List.mem_of_getElem? (i := 94) rfl)) (hw _ (List.mem_of_getElem? (i := 93) rfl)) (hw _ (List.mem_of_getElem? (i := 5) rfl)) (hw _ (List.mem_of_getElem? (i := 95) rfl)) S1_305.exa (by decide) [(.ref b7)] [] pd_17 rfl rfl rfl rfl 0 (Nat.le_refl _) (by decide) (by decide) (by decide) (by decide) rfl fun T308 h308 v308 X308 q308 => ?_
            obtain ⟨rfl, rfl⟩ := q308
            refine w_if_eq X308 249 245 at_242 (by decide) rfl rfl (fun hc242 => ?_) (fun hc242 => ?_)
            · skip
              refine w_aload X308 (pc' := 251) at_249 rfl rfl rfl ?_
              refine w_aload X308 (pc' := 253) at_251 rfl rfl rfl ?_
              refine w_virtualV X308 (pc' := 256) at_253 (rm_vo3 hw (h0 := h304) (sd_size X308) b288 b7 B304 (show 3 ≤ 3 by decide) S7_305 (Sta.ext (sd_ext X308 hs0 Zn) S_c) hzc) (hw _ (List.mem_of_getElem? (i := 78) rfl)) (hw _ (List.mem_of_getElem? (i := 79) rfl)) (hw _ (List.mem_of_getElem? (i := 81) rfl)) (hw _ (List.mem_of_getElem? (i := 80) rfl)) (hw _ (List.mem_of_getElem? (i := 57) rfl)) (hw _ (List.mem_of_getElem? (i := 82) rfl)) B304.exa (by decide) [(.ref b7)] [] pd_15 rfl rfl rfl rfl 0 (Nat.le_refl _) (by decide) (by decide) (by decide) (by decide) rfl fun T309 h309 v309 X309 q309 => ?_
              have hv : own_val [(bs1, [(118 : Int32), (48 : Int32)]), (bs3, [(118 : Int32), (49 : Int32)]), (bs5, [(118 : Int32), (50 : Int32)])] bs7 3 = none := (own_vn (es := [(bs1, [(118 : Int32), (48 : Int32)]), (bs3, [(118 : Int32), (49 : Int32)]), (bs5, [(118 : Int32), (50 : Int32)])]) (q := bs7) 2 (show ¬ bs5 = bs7 from own_if0 hc196)).trans ((own_vn (es := [(bs1, [(118 : Int32), (48 : Int32)]), (bs3, [(118 : Int32), (49 : Int32)]), (bs5, [(118 : Int32), (50 : Int32)])]) (q := bs7) 1 (show ¬ bs3 = bs7 from own_if0 hc219)).trans ((own_vn (es := [(bs1, [(118 : Int32), (48 : Int32)]), (bs3, [(118 : Int32), (49 : Int32)]), (bs5, [(118 : Int32), (50 : Int32)])]) (q := bs7) 0 (show ¬ bs1 = bs7 from own_if0 hc242)).trans (rfl)))
              obtain ⟨hq, rfl⟩ := q309
              rcases hq with ⟨rfl, -⟩ | ⟨r, bs, rfl, Sr, hr⟩
              rotate_left
              · exact absurd (hr.symm.trans hv) (by simp)
              refine w_astore X309 (pc' := 258) (l' := #[.val (.int p1), .val (.int p2), .val (.int p3), .val (.int p4), .val (.int p5), .val (.ref b1), .val (.ref b3), .val (.ref b5), .val (.ref b7), .val (.int (3 : Int32)), .val (.int (1 : Int32)), .val (.int (0 : Int32)), .val (.ref b288), .val (.int (3 : Int32)), .val .null, .val .null]) at_256 rfl rfl rfl ?_
              refine w_aload X309 (pc' := 260) at_258 rfl rfl rfl ?_
              refine w_ifnonnullN X309 (pc' := 263) at_260 rfl ?_
              refine w_aload X309 (pc' := 265) at_263 rfl rfl rfl ?_
              refine w_ifnonnullN X309 (pc' := 268) at_265 rfl ?_
              refine w_iconst X309 (pc' := 269) (1 : Int32) at_268 rfl rfl ?_
              refine w_goto X309 (pc' := 273) at_269 (by decide) rfl ?_
              exact w_zreturnW X309 F302_305 (own_hEL hw) at_273 rfl (by decide) (by decide)
            · skip
              refine w_ldcW X308 F302_305 (pc' := 247) (text := "v0") [(118 : Int32), (48 : Int32)] 8 at_245 (hw _ (List.mem_of_getElem? (i := 83) rfl)) (own_wS hw) (own_hEL hw) (List.mem_of_getElem? (i := 1) rfl) (by decide) (by decide) (by decide) (by decide) (by decide) (by decide) rfl fun T310 h310 vm310 a310 X310 F310 E310 S310 => ?_
              have S1_311 := S1_305.ext E310
              have S3_311 := S3_305.ext E310
              have S5_311 := S5_305.ext E310
              have S7_311 := S7_305.ext E310
              have B304_311 := B304.ext E310
              refine w_astore X310 (pc' := 249) (l' := #[.val (.int p1), .val (.int p2), .val (.int p3), .val (.int p4), .val (.int p5), .val (.ref b1), .val (.ref b3), .val (.ref b5), .val (.ref b7), .val (.int (3 : Int32)), .val (.int (1 : Int32)), .val (.int (0 : Int32)), .val (.ref b288), .val (.int (3 : Int32)), .val (.ref a310), .unset]) at_247 rfl rfl rfl ?_
              refine w_aload X310 (pc' := 251) at_249 rfl rfl rfl ?_
              refine w_aload X310 (pc' := 253) at_251 rfl rfl rfl ?_
              refine w_virtualV X310 (pc' := 256) at_253 (rm_vo3 hw (h0 := h310) (sd_size X310) b288 b7 B304_311 (show 3 ≤ 3 by decide) S7_311 (Sta.ext (sd_ext X310 hs0 Zn) S_c) hzc) (hw _ (List.mem_of_getElem? (i := 78) rfl)) (hw _ (List.mem_of_getElem? (i := 79) rfl)) (hw _ (List.mem_of_getElem? (i := 81) rfl)) (hw _ (List.mem_of_getElem? (i := 80) rfl)) (hw _ (List.mem_of_getElem? (i := 57) rfl)) (hw _ (List.mem_of_getElem? (i := 82) rfl)) B304_311.exa (by decide) [(.ref b7)] [] pd_15 rfl rfl rfl rfl 0 (Nat.le_refl _) (by decide) (by decide) (by decide) (by decide) rfl fun T312 h312 v312 X312 q312 => ?_
              have hv : own_val [(bs1, [(118 : Int32), (48 : Int32)]), (bs3, [(118 : Int32), (49 : Int32)]), (bs5, [(118 : Int32), (50 : Int32)])] bs7 3 = some [(118 : Int32), (48 : Int32)] := (own_vn (es := [(bs1, [(118 : Int32), (48 : Int32)]), (bs3, [(118 : Int32), (49 : Int32)]), (bs5, [(118 : Int32), (50 : Int32)])]) (q := bs7) 2 (show ¬ bs5 = bs7 from own_if0 hc196)).trans ((own_vn (es := [(bs1, [(118 : Int32), (48 : Int32)]), (bs3, [(118 : Int32), (49 : Int32)]), (bs5, [(118 : Int32), (50 : Int32)])]) (q := bs7) 1 (show ¬ bs3 = bs7 from own_if0 hc219)).trans (own_vp (es := [(bs1, [(118 : Int32), (48 : Int32)]), (bs3, [(118 : Int32), (49 : Int32)]), (bs5, [(118 : Int32), (50 : Int32)])]) (q := bs7) 0 (show bs1 = bs7 from own_if1 hc242)))
              obtain ⟨hq, rfl⟩ := q312
              rcases hq with ⟨rfl, hr⟩ | ⟨r, bs, rfl, Sr, hr⟩
              · exact absurd (hr.symm.trans hv) (by simp)
              obtain rfl : bs = [(118 : Int32), (48 : Int32)] := Option.some.inj (hr.symm.trans hv)
              refine w_astore X312 (pc' := 258) (l' := #[.val (.int p1), .val (.int p2), .val (.int p3), .val (.int p4), .val (.int p5), .val (.ref b1), .val (.ref b3), .val (.ref b5), .val (.ref b7), .val (.int (3 : Int32)), .val (.int (1 : Int32)), .val (.int (0 : Int32)), .val (.ref b288), .val (.int (3 : Int32)), .val (.ref a310), .val (.ref r)]) at_256 rfl rfl rfl ?_
              refine w_aload X312 (pc' := 260) at_258 rfl rfl rfl ?_
              refine w_ifnonnullY X312 (pc' := 274) at_260 (by decide) rfl ?_
              refine w_aload X312 (pc' := 276) at_274 rfl rfl rfl ?_
              refine w_aload X312 (pc' := 278) at_276 rfl rfl rfl ?_
              refine w_virtualV X312 (pc' := 281) at_278 (rm_eq hw (h0 := h310) (sd_size X312) a310 r S310 Sr (Sta.ext (sd_ext X312 hs0 Zn) S_c) hzc) (hw _ (List.mem_of_getElem? (i := 91) rfl)) (hw _ (List.mem_of_getElem? (i := 92) rfl)) (hw _ (List.mem_of_getElem? (i := 94) rfl)) (hw _ (List.mem_of_getElem? (i := 93) rfl)) (hw _ (List.mem_of_getElem? (i := 5) rfl)) (hw _ (List.mem_of_getElem? (i := 95) rfl)) S310.exa (by decide) [(.ref r)] [] pd_17 rfl rfl rfl rfl 0 (Nat.le_refl _) (by decide) (by decide) (by decide) (by decide) rfl fun T313 h313 v313 X313 q313 => ?_
              obtain ⟨rfl, rfl⟩ := q313
              exact w_zreturnW X313 F310 (own_hEL hw) at_281 (by rw [if_pos rfl]; rfl) (by decide) (by decide)
          · skip
            refine w_ldcW X307 F302_305 (pc' := 224) (text := "v1") [(118 : Int32), (49 : Int32)] 8 at_222 (hw _ (List.mem_of_getElem? (i := 89) rfl)) (own_wS hw) (own_hEL hw) (List.mem_of_getElem? (i := 2) rfl) (by decide) (by decide) (by decide) (by decide) (by decide) (by decide) rfl fun T314 h314 vm314 a314 X314 F314 E314 S314 => ?_
            have S1_315 := S1_305.ext E314
            have S3_315 := S3_305.ext E314
            have S5_315 := S5_305.ext E314
            have S7_315 := S7_305.ext E314
            have B304_315 := B304.ext E314
            refine w_astore X314 (pc' := 226) (l' := #[.val (.int p1), .val (.int p2), .val (.int p3), .val (.int p4), .val (.int p5), .val (.ref b1), .val (.ref b3), .val (.ref b5), .val (.ref b7), .val (.int (3 : Int32)), .val (.int (1 : Int32)), .val (.int (0 : Int32)), .val (.ref b288), .val (.int (3 : Int32)), .val (.ref a314), .unset]) at_224 rfl rfl rfl ?_
            refine w_goto X314 (pc' := 249) at_226 (by decide) rfl ?_
            refine w_aload X314 (pc' := 251) at_249 rfl rfl rfl ?_
            refine w_aload X314 (pc' := 253) at_251 rfl rfl rfl ?_
            refine w_virtualV X314 (pc' := 256) at_253 (rm_vo3 hw (h0 := h314) (sd_size X314) b288 b7 B304_315 (show 3 ≤ 3 by decide) S7_315 (Sta.ext (sd_ext X314 hs0 Zn) S_c) hzc) (hw _ (List.mem_of_getElem? (i := 78) rfl)) (hw _ (List.mem_of_getElem? (i := 79) rfl)) (hw _ (List.mem_of_getElem? (i := 81) rfl)) (hw _ (List.mem_of_getElem? (i := 80) rfl)) (hw _ (List.mem_of_getElem? (i := 57) rfl)) (hw _ (List.mem_of_getElem? (i := 82) rfl)) B304_315.exa (by decide) [(.ref b7)] [] pd_15 rfl rfl rfl rfl 0 (Nat.le_refl _) (by decide) (by decide) (by decide) (by decide) rfl fun T316 h316 v316 X316 q316 => ?_
            have hv : own_val [(bs1, [(118 : Int32), (48 : Int32)]), (bs3, [(118 : Int32), (49 : Int32)]), (bs5, [(118 : Int32), (50 : Int32)])] bs7 3 = some [(118 : Int32), (49 : Int32)] := (own_vn (es := [(bs1, [(118 : Int32), (48 : Int32)]), (bs3, [(118 : Int32), (49 : Int32)]), (bs5, [(118 : Int32), (50 : Int32)])]) (q := bs7) 2 (show ¬ bs5 = bs7 from own_if0 hc196)).trans (own_vp (es := [(bs1, [(118 : Int32), (48 : Int32)]), (bs3, [(118 : Int32), (49 : Int32)]), (bs5, [(118 : Int32), (50 : Int32)])]) (q := bs7) 1 (show bs3 = bs7 from own_if1 hc219))
            obtain ⟨hq, rfl⟩ := q316
            rcases hq with ⟨rfl, hr⟩ | ⟨r, bs, rfl, Sr, hr⟩
            · exact absurd (hr.symm.trans hv) (by simp)
            obtain rfl : bs = [(118 : Int32), (49 : Int32)] := Option.some.inj (hr.symm.trans hv)
            refine w_astore X316 (pc' := 258) (l' := #[.val (.int p1), .val (.int p2), .val (.int p3), .val (.int p4), .val (.int p5), .val (.ref b1), .val (.ref b3), .val (.ref b5), .val (.ref b7), .val (.int (3 : Int32)), .val (.int (1 : Int32)), .val (.int (0 : Int32)), .val (.ref b288), .val (.int (3 : Int32)), .val (.ref a314), .val (.ref r)]) at_256 rfl rfl rfl ?_
            refine w_aload X316 (pc' := 260) at_258 rfl rfl rfl ?_
            refine w_ifnonnullY X316 (pc' := 274) at_260 (by decide) rfl ?_
            refine w_aload X316 (pc' := 276) at_274 rfl rfl rfl ?_
            refine w_aload X316 (pc' := 278) at_276 rfl rfl rfl ?_
            refine w_virtualV X316 (pc' := 281) at_278 (rm_eq hw (h0 := h314) (sd_size X316) a314 r S314 Sr (Sta.ext (sd_ext X316 hs0 Zn) S_c) hzc) (hw _ (List.mem_of_getElem? (i := 91) rfl)) (hw _ (List.mem_of_getElem? (i := 92) rfl)) (hw _ (List.mem_of_getElem? (i := 94) rfl)) (hw _ (List.mem_of_getElem? (i := 93) rfl)) (hw _ (List.mem_of_getElem? (i := 5) rfl)) (hw _ (List.mem_of_getElem? (i := 95) rfl)) S314.exa (by decide) [(.ref r)] [] pd_17 rfl rfl rfl rfl 0 (Nat.le_refl _) (by decide) (by decide) (by decide) (by decide) rfl fun T317 h317 v317 X317 q317 => ?_
            obtain ⟨rfl, rfl⟩ := q317
            exact w_zreturnW X317 F314 (own_hEL hw) at_281 (by rw [if_pos rfl]; rfl) (by decide) (by decide)
        · skip
          refine w_ldcW X306 F302_305 (pc' := 201) (text := "v2") [(118 : Int32), (50 : Int32)] 8 at_199 (hw _ (List.mem_of_getElem? (i := 90) rfl)) (own_wS hw) (own_hEL hw) (List.mem_of_getElem? (i := 3) rfl) (by decide) (by decide) (by decide) (by decide) (by decide) (by decide) rfl fun T318 h318 vm318 a318 X318 F318 E318 S318 => ?_
          have S1_319 := S1_305.ext E318
          have S3_319 := S3_305.ext E318
          have S5_319 := S5_305.ext E318
          have S7_319 := S7_305.ext E318
          have B304_319 := B304.ext E318
          refine w_astore X318 (pc' := 203) (l' := #[.val (.int p1), .val (.int p2), .val (.int p3), .val (.int p4), .val (.int p5), .val (.ref b1), .val (.ref b3), .val (.ref b5), .val (.ref b7), .val (.int (3 : Int32)), .val (.int (1 : Int32)), .val (.int (0 : Int32)), .val (.ref b288), .val (.int (3 : Int32)), .val (.ref a318), .unset]) at_201 rfl rfl rfl ?_
          refine w_goto X318 (pc' := 249) at_203 (by decide) rfl ?_
          refine w_aload X318 (pc' := 251) at_249 rfl rfl rfl ?_
          refine w_aload X318 (pc' := 253) at_251 rfl rfl rfl ?_
          refine w_virtualV X318 (pc' := 256) at_253 (rm_vo3 hw (h0 := h318) (sd_size X318) b288 b7 B304_319 (show 3 ≤ 3 by decide) S7_319 (Sta.ext (sd_ext X318 hs0 Zn) S_c) hzc) (hw _ (List.mem_of_getElem? (i := 78) rfl)) (hw _ (List.mem_of_getElem? (i := 79) rfl)) (hw _ (List.mem_of_getElem? (i := 81) rfl)) (hw _ (List.mem_of_getElem? (i := 80) rfl)) (hw _ (List.mem_of_getElem? (i := 57) rfl)) (hw _ (List.mem_of_getElem? (i := 82) rfl)) B304_319.exa (by decide) [(.ref b7)] [] pd_15 rfl rfl rfl rfl 0 (Nat.le_refl _) (by decide) (by decide) (by decide) (by decide) rfl fun T320 h320 v320 X320 q320 => ?_
          have hv : own_val [(bs1, [(118 : Int32), (48 : Int32)]), (bs3, [(118 : Int32), (49 : Int32)]), (bs5, [(118 : Int32), (50 : Int32)])] bs7 3 = some [(118 : Int32), (50 : Int32)] := own_vp (es := [(bs1, [(118 : Int32), (48 : Int32)]), (bs3, [(118 : Int32), (49 : Int32)]), (bs5, [(118 : Int32), (50 : Int32)])]) (q := bs7) 2 (show bs5 = bs7 from own_if1 hc196)
          obtain ⟨hq, rfl⟩ := q320
          rcases hq with ⟨rfl, hr⟩ | ⟨r, bs, rfl, Sr, hr⟩
          · exact absurd (hr.symm.trans hv) (by simp)
          obtain rfl : bs = [(118 : Int32), (50 : Int32)] := Option.some.inj (hr.symm.trans hv)
          refine w_astore X320 (pc' := 258) (l' := #[.val (.int p1), .val (.int p2), .val (.int p3), .val (.int p4), .val (.int p5), .val (.ref b1), .val (.ref b3), .val (.ref b5), .val (.ref b7), .val (.int (3 : Int32)), .val (.int (1 : Int32)), .val (.int (0 : Int32)), .val (.ref b288), .val (.int (3 : Int32)), .val (.ref a318), .val (.ref r)]) at_256 rfl rfl rfl ?_
          refine w_aload X320 (pc' := 260) at_258 rfl rfl rfl ?_
          refine w_ifnonnullY X320 (pc' := 274) at_260 (by decide) rfl ?_
          refine w_aload X320 (pc' := 276) at_274 rfl rfl rfl ?_
          refine w_aload X320 (pc' := 278) at_276 rfl rfl rfl ?_
          refine w_virtualV X320 (pc' := 281) at_278 (rm_eq hw (h0 := h318) (sd_size X320) a318 r S318 Sr (Sta.ext (sd_ext X320 hs0 Zn) S_c) hzc) (hw _ (List.mem_of_getElem? (i := 91) rfl)) (hw _ (List.mem_of_getElem? (i := 92) rfl)) (hw _ (List.mem_of_getElem? (i := 94) rfl)) (hw _ (List.mem_of_getElem? (i := 93) rfl)) (hw _ (List.mem_of_getElem? (i := 5) rfl)) (hw _ (List.mem_of_getElem? (i := 95) rfl)) S318.exa (by decide) [(.ref r)] [] pd_17 rfl rfl rfl rfl 0 (Nat.le_refl _) (by decide) (by decide) (by decide) (by decide) rfl fun T321 h321 v321 X321 q321 => ?_
          obtain ⟨rfl, rfl⟩ := q321
          exact w_zreturnW X321 F318 (own_hEL hw) at_281 (by rw [if_pos rfl]; rfl) (by decide) (by decide)
      · skip
        refine w_iconst X232 (pc' := 53) (1 : Int32) at_52 rfl rfl ?_
        refine w_goto X232 (pc' := 57) at_53 (by decide) rfl ?_
        refine w_istore X232 (pc' := 59) (l' := #[.val (.int p1), .val (.int p2), .val (.int p3), .val (.int p4), .val (.int p5), .val (.ref b1), .val (.ref b3), .val (.ref b5), .val (.ref b7), .val (.int (3 : Int32)), .val (.int (1 : Int32)), .val (.int (1 : Int32)), .unset, .unset, .unset, .unset]) at_57 rfl rfl ?_
        refine w_new X232 (pc' := 62) at_59 (hw _ (List.mem_of_getElem? (i := 55) rfl)) (hw _ (List.mem_of_getElem? (i := 56) rfl)) (hw _ (List.mem_of_getElem? (i := 57) rfl)) (by decide) (by decide) rfl fun T322 h322 b322 g322 gn322 X322 E322 A322 D322 => ?_
        have sf_b322 := F7.safe_new E322 g322
        have S1_323 := S1_8.ext E322
        have S3_323 := S3_8.ext E322
        have S5_323 := S5_8.ext E322
        have S7_323 := S7.ext E322
        have F7_323 := F7.ext E322
        have Fpairs_322 : Fld Z h322 b322 "com/example/raja/raja/xml/CanonicalWriter$Bindings" "pairs" "[Ljava/lang/String;" .null := D322 (Or.inl (hw _ (List.mem_of_getElem? (i := 65) rfl))) (ty := (.array (.object "java/lang/String"))) (by decide)
        have Fmarks_322 : Fld Z h322 b322 "com/example/raja/raja/xml/CanonicalWriter$Bindings" "marks" "[I" .null := D322 (Or.inl (hw _ (List.mem_of_getElem? (i := 68) rfl))) (ty := (.array .int)) (by decide)
        have Fdepth_322 : Fld Z h322 b322 "com/example/raja/raja/xml/CanonicalWriter$Bindings" "depth" "I" (.int (0 : Int32)) := D322 (Or.inl (hw _ (List.mem_of_getElem? (i := 75) rfl))) (ty := .int) (by decide)
        have Fsize_322 : Fld Z h322 b322 "com/example/raja/raja/xml/CanonicalWriter$Bindings" "size" "I" (.int (0 : Int32)) := D322 (Or.inl (hw _ (List.mem_of_getElem? (i := 77) rfl))) (ty := .int) (by decide)
        refine w_dup X322 (pc' := 63) at_62 rfl rfl ?_
        refine w_specialN X322 (pc' := 66) at_63 (rm_init hw (h0 := h322) (sd_size X322) b322 A322 Fpairs_322 Fmarks_322 Fsize_322 Fdepth_322 gn322) (hw _ (List.mem_of_getElem? (i := 58) rfl)) (hw _ (List.mem_of_getElem? (i := 59) rfl)) (hw _ (List.mem_of_getElem? (i := 57) rfl)) (hw _ (List.mem_of_getElem? (i := 60) rfl)) rfl (by decide) [] [(.ref b322)] pd_13 rfl rfl rfl rfl 1 (Nat.le_refl _) (by decide) (by decide) (by decide) (by decide) rfl fun T324 h324 X324 q324 => ?_
        obtain ⟨K324, B324⟩ := q324
        have S1_325 := S1_323.keep K324 (ap1 (Apart.obj A322 (hw _ (List.mem_of_getElem? (i := 56) rfl)) (by decide) (by decide)))
        have S3_325 := S3_323.keep K324 (ap1 (Apart.obj A322 (hw _ (List.mem_of_getElem? (i := 56) rfl)) (by decide) (by decide)))
        have S5_325 := S5_323.keep K324 (ap1 (Apart.obj A322 (hw _ (List.mem_of_getElem? (i := 56) rfl)) (by decide) (by decide)))
        have S7_325 := S7_323.keep K324 (ap1 (Apart.obj A322 (hw _ (List.mem_of_getElem? (i := 56) rfl)) (by decide) (by decide)))
        have F7_325 := F7_323.kp X324 K324 (ap1 (Apart.obj A322 (hw _ (List.mem_of_getElem? (i := 56) rfl)) (by decide) (by decide)))
        have A322_325 := A322.keep K324
        refine w_astore X324 (pc' := 68) (l' := #[.val (.int p1), .val (.int p2), .val (.int p3), .val (.int p4), .val (.int p5), .val (.ref b1), .val (.ref b3), .val (.ref b5), .val (.ref b7), .val (.int (3 : Int32)), .val (.int (1 : Int32)), .val (.int (1 : Int32)), .val (.ref b322), .unset, .unset, .unset]) at_66 rfl rfl rfl ?_
        refine w_iload X324 (pc' := 70) at_68 rfl rfl ?_
        refine w_if_ne X324 78 73 at_70 (by decide) rfl rfl (fun hc70 => ?_) (fun hc70 => by exfalso; revert hc70; decide)
        refine w_iload X324 (pc' := 80) at_78 rfl rfl ?_
        refine w_iconst X324 (pc' := 81) (1 : Int32) at_80 rfl rfl ?_
        refine w_icmp_lt X324 93 84 at_81 (by decide) rfl rfl (fun hc81 => by exfalso; revert hc81; decide) (fun hc81 => ?_)
        refine w_aload X324 (pc' := 86) at_84 rfl rfl rfl ?_
        refine w_aload X324 (pc' := 88) at_86 rfl rfl rfl ?_
        refine w_ldcW X324 F7_325 (pc' := 90) (text := "v0") [(118 : Int32), (48 : Int32)] 8 at_88 (hw _ (List.mem_of_getElem? (i := 83) rfl)) (own_wS hw) (own_hEL hw) (List.mem_of_getElem? (i := 1) rfl) (by decide) (by decide) (by decide) (by decide) (by decide) (by decide) rfl fun T326 h326 vm326 a326 X326 F326 E326 S326 => ?_
        have S1_327 := S1_325.ext E326
        have S3_327 := S3_325.ext E326
        have S5_327 := S5_325.ext E326
        have S7_327 := S7_325.ext E326
        have B324_327 := B324.ext E326
        refine w_virtualN X326 (pc' := 93) at_90 (rm_push hw (h0 := h326) (sd_size X326) b322 b1 a326 B324_327 (show 0 < 8 by decide) S1_327 S326) (hw _ (List.mem_of_getElem? (i := 84) rfl)) (hw _ (List.mem_of_getElem? (i := 85) rfl)) (hw _ (List.mem_of_getElem? (i := 87) rfl)) (hw _ (List.mem_of_getElem? (i := 86) rfl)) (hw _ (List.mem_of_getElem? (i := 57) rfl)) (hw _ (List.mem_of_getElem? (i := 88) rfl)) B324_327.exa (by decide) [(.ref b1), (.ref a326)] [] pd_16 rfl rfl rfl rfl 0 (Nat.le_refl _) (by decide) (by decide) (by decide) (by decide) rfl fun T328 h328 X328 q328 => ?_
        obtain ⟨⟨ws328, K328, P328⟩, B328⟩ := q328
        have S1_329 := S1_327.keep K328 P328
        have S3_329 := S3_327.keep K328 P328
        have S5_329 := S5_327.keep K328 P328
        have S7_329 := S7_327.keep K328 P328
        have F326_329 := F326.kp X328 K328 P328
        replace B328 : BD Z n0 h328 b322 [(bs1, [(118 : Int32), (48 : Int32)])] 1 0 0 := B328
        refine w_iload X328 (pc' := 95) at_93 rfl rfl ?_
        refine w_iconst X328 (pc' := 96) (1 : Int32) at_95 rfl rfl ?_
        refine w_icmp_ne X328 104 99 at_96 (by decide) rfl rfl (fun hc96 => by exfalso; revert hc96; decide) (fun hc96 => ?_)
        refine w_aload X328 (pc' := 101) at_99 rfl rfl rfl ?_
        refine w_virtualN X328 (pc' := 104) at_101 (rm_open hw (h0 := h328) (sd_size X328) b322 B328) (hw _ (List.mem_of_getElem? (i := 69) rfl)) (hw _ (List.mem_of_getElem? (i := 70) rfl)) (hw _ (List.mem_of_getElem? (i := 72) rfl)) (hw _ (List.mem_of_getElem? (i := 71) rfl)) (hw _ (List.mem_of_getElem? (i := 57) rfl)) (hw _ (List.mem_of_getElem? (i := 73) rfl)) B328.exa (by decide) [] [] pd_14 rfl rfl rfl rfl 0 (Nat.le_refl _) (by decide) (by decide) (by decide) (by decide) rfl fun T330 h330 X330 q330 => ?_
        obtain ⟨⟨ws330, K330, P330⟩, B330⟩ := q330
        have S1_331 := S1_329.keep K330 P330
        have S3_331 := S3_329.keep K330 P330
        have S5_331 := S5_329.keep K330 P330
        have S7_331 := S7_329.keep K330 P330
        have F326_331 := F326_329.kp X330 K330 P330
        replace B330 : BD Z n0 h330 b322 [(bs1, [(118 : Int32), (48 : Int32)])] 1 1 1 := B330
        refine w_iload X330 (pc' := 106) at_104 rfl rfl ?_
        refine w_iconst X330 (pc' := 107) (2 : Int32) at_106 rfl rfl ?_
        refine w_icmp_lt X330 119 110 at_107 (by decide) rfl rfl (fun hc107 => by exfalso; revert hc107; decide) (fun hc107 => ?_)
        refine w_aload X330 (pc' := 112) at_110 rfl rfl rfl ?_
        refine w_aload X330 (pc' := 114) at_112 rfl rfl rfl ?_
        refine w_ldcW X330 F326_331 (pc' := 116) (text := "v1") [(118 : Int32), (49 : Int32)] 8 at_114 (hw _ (List.mem_of_getElem? (i := 89) rfl)) (own_wS hw) (own_hEL hw) (List.mem_of_getElem? (i := 2) rfl) (by decide) (by decide) (by decide) (by decide) (by decide) (by decide) rfl fun T332 h332 vm332 a332 X332 F332 E332 S332 => ?_
        have S1_333 := S1_331.ext E332
        have S3_333 := S3_331.ext E332
        have S5_333 := S5_331.ext E332
        have S7_333 := S7_331.ext E332
        have B330_333 := B330.ext E332
        refine w_virtualN X332 (pc' := 119) at_116 (rm_push hw (h0 := h332) (sd_size X332) b322 b3 a332 B330_333 (show 1 < 8 by decide) S3_333 S332) (hw _ (List.mem_of_getElem? (i := 84) rfl)) (hw _ (List.mem_of_getElem? (i := 85) rfl)) (hw _ (List.mem_of_getElem? (i := 87) rfl)) (hw _ (List.mem_of_getElem? (i := 86) rfl)) (hw _ (List.mem_of_getElem? (i := 57) rfl)) (hw _ (List.mem_of_getElem? (i := 88) rfl)) B330_333.exa (by decide) [(.ref b3), (.ref a332)] [] pd_16 rfl rfl rfl rfl 0 (Nat.le_refl _) (by decide) (by decide) (by decide) (by decide) rfl fun T334 h334 X334 q334 => ?_
        obtain ⟨⟨ws334, K334, P334⟩, B334⟩ := q334
        have S1_335 := S1_333.keep K334 P334
        have S3_335 := S3_333.keep K334 P334
        have S5_335 := S5_333.keep K334 P334
        have S7_335 := S7_333.keep K334 P334
        have F332_335 := F332.kp X334 K334 P334
        replace B334 : BD Z n0 h334 b322 [(bs1, [(118 : Int32), (48 : Int32)]), (bs3, [(118 : Int32), (49 : Int32)])] 2 1 1 := B334
        refine w_iload X334 (pc' := 121) at_119 rfl rfl ?_
        refine w_iconst X334 (pc' := 122) (2 : Int32) at_121 rfl rfl ?_
        refine w_icmp_ne X334 130 125 at_122 (by decide) rfl rfl (fun hc122 => ?_) (fun hc122 => by exfalso; revert hc122; decide)
        refine w_iload X334 (pc' := 132) at_130 rfl rfl ?_
        refine w_iconst X334 (pc' := 133) (3 : Int32) at_132 rfl rfl ?_
        refine w_icmp_lt X334 145 136 at_133 (by decide) rfl rfl (fun hc133 => by exfalso; revert hc133; decide) (fun hc133 => ?_)
        refine w_aload X334 (pc' := 138) at_136 rfl rfl rfl ?_
        refine w_aload X334 (pc' := 140) at_138 rfl rfl rfl ?_
        refine w_ldcW X334 F332_335 (pc' := 142) (text := "v2") [(118 : Int32), (50 : Int32)] 8 at_140 (hw _ (List.mem_of_getElem? (i := 90) rfl)) (own_wS hw) (own_hEL hw) (List.mem_of_getElem? (i := 3) rfl) (by decide) (by decide) (by decide) (by decide) (by decide) (by decide) rfl fun T336 h336 vm336 a336 X336 F336 E336 S336 => ?_
        have S1_337 := S1_335.ext E336
        have S3_337 := S3_335.ext E336
        have S5_337 := S5_335.ext E336
        have S7_337 := S7_335.ext E336
        have B334_337 := B334.ext E336
        refine w_virtualN X336 (pc' := 145) at_142 (rm_push hw (h0 := h336) (sd_size X336) b322 b5 a336 B334_337 (show 2 < 8 by decide) S5_337 S336) (hw _ (List.mem_of_getElem? (i := 84) rfl)) (hw _ (List.mem_of_getElem? (i := 85) rfl)) (hw _ (List.mem_of_getElem? (i := 87) rfl)) (hw _ (List.mem_of_getElem? (i := 86) rfl)) (hw _ (List.mem_of_getElem? (i := 57) rfl)) (hw _ (List.mem_of_getElem? (i := 88) rfl)) B334_337.exa (by decide) [(.ref b5), (.ref a336)] [] pd_16 rfl rfl rfl rfl 0 (Nat.le_refl _) (by decide) (by decide) (by decide) (by decide) rfl fun T338 h338 X338 q338 => ?_
        obtain ⟨⟨ws338, K338, P338⟩, B338⟩ := q338
        have S1_339 := S1_337.keep K338 P338
        have S3_339 := S3_337.keep K338 P338
        have S5_339 := S5_337.keep K338 P338
        have S7_339 := S7_337.keep K338 P338
        have F336_339 := F336.kp X338 K338 P338
        replace B338 : BD Z n0 h338 b322 [(bs1, [(118 : Int32), (48 : Int32)]), (bs3, [(118 : Int32), (49 : Int32)]), (bs5, [(118 : Int32), (50 : Int32)])] 3 1 1 := B338
        refine w_iload X338 (pc' := 147) at_145 rfl rfl ?_
        refine w_iconst X338 (pc' := 148) (3 : Int32) at_147 rfl rfl ?_
        refine w_icmp_ne X338 156 151 at_148 (by decide) rfl rfl (fun hc148 => ?_) (fun hc148 => by exfalso; revert hc148; decide)
        refine w_iload X338 (pc' := 158) at_156 rfl rfl ?_
        refine w_if_eq X338 166 161 at_158 (by decide) rfl rfl (fun hc158 => by exfalso; revert hc158; decide) (fun hc158 => ?_)
        refine w_aload X338 (pc' := 163) at_161 rfl rfl rfl ?_
        refine w_virtualN X338 (pc' := 166) at_163 (rm_close hw (h0 := h338) (sd_size X338) b322 B338) (hw _ (List.mem_of_getElem? (i := 100) rfl)) (hw _ (List.mem_of_getElem? (i := 101) rfl)) (hw _ (List.mem_of_getElem? (i := 103) rfl)) (hw _ (List.mem_of_getElem? (i := 102) rfl)) (hw _ (List.mem_of_getElem? (i := 57) rfl)) (hw _ (List.mem_of_getElem? (i := 104) rfl)) B338.exa (by decide) [] [] pd_19 rfl rfl rfl rfl 0 (Nat.le_refl _) (by decide) (by decide) (by decide) (by decide) rfl fun T340 h340 X340 q340 => ?_
        obtain ⟨⟨ws340, K340, P340⟩, B340⟩ := q340
        have S1_341 := S1_339.keep K340 P340
        have S3_341 := S3_339.keep K340 P340
        have S5_341 := S5_339.keep K340 P340
        have S7_341 := S7_339.keep K340 P340
        have F336_341 := F336_339.kp X340 K340 P340
        replace B340 : BD Z n0 h340 b322 [(bs1, [(118 : Int32), (48 : Int32)]), (bs3, [(118 : Int32), (49 : Int32)]), (bs5, [(118 : Int32), (50 : Int32)])] 1 0 1 := B340
        refine w_iload X340 (pc' := 168) at_166 rfl rfl ?_
        refine w_if_eq X340 176 171 at_168 (by decide) rfl rfl (fun hc168 => by exfalso; revert hc168; decide) (fun hc168 => ?_)
        refine w_iload X340 (pc' := 173) at_171 rfl rfl ?_
        refine w_goto X340 (pc' := 178) at_173 (by decide) rfl ?_
        refine w_istore X340 (pc' := 180) (l' := #[.val (.int p1), .val (.int p2), .val (.int p3), .val (.int p4), .val (.int p5), .val (.ref b1), .val (.ref b3), .val (.ref b5), .val (.ref b7), .val (.int (3 : Int32)), .val (.int (1 : Int32)), .val (.int (1 : Int32)), .val (.ref b322), .val (.int (1 : Int32)), .unset, .unset]) at_178 rfl rfl ?_
        refine w_aconst_null X340 (pc' := 181) at_180 rfl ?_
        refine w_astore X340 (pc' := 183) (l' := #[.val (.int p1), .val (.int p2), .val (.int p3), .val (.int p4), .val (.int p5), .val (.ref b1), .val (.ref b3), .val (.ref b5), .val (.ref b7), .val (.int (3 : Int32)), .val (.int (1 : Int32)), .val (.int (1 : Int32)), .val (.ref b322), .val (.int (1 : Int32)), .val .null, .unset]) at_181 rfl rfl rfl ?_
        refine w_iload X340 (pc' := 185) at_183 rfl rfl ?_
        refine w_iconst X340 (pc' := 186) (3 : Int32) at_185 rfl rfl ?_
        refine w_icmp_lt X340 206 189 at_186 (by decide) rfl rfl (fun hc186 => ?_) (fun hc186 => by exfalso; revert hc186; decide)
        refine w_iload X340 (pc' := 208) at_206 rfl rfl ?_
        refine w_iconst X340 (pc' := 209) (2 : Int32) at_208 rfl rfl ?_
        refine w_icmp_lt X340 229 212 at_209 (by decide) rfl rfl (fun hc209 => ?_) (fun hc209 => by exfalso; revert hc209; decide)
        refine w_iload X340 (pc' := 231) at_229 rfl rfl ?_
        refine w_iconst X340 (pc' := 232) (1 : Int32) at_231 rfl rfl ?_
        refine w_icmp_lt X340 249 235 at_232 (by decide) rfl rfl (fun hc232 => by exfalso; revert hc232; decide) (fun hc232 => ?_)
        refine w_aload X340 (pc' := 237) at_235 rfl rfl rfl ?_
        refine w_aload X340 (pc' := 239) at_237 rfl rfl rfl ?_
        refine w_virtualV X340 (pc' := 242) at_239 (rm_eq hw (h0 := h340) (sd_size X340) b1 b7 S1_341 S7_341 (Sta.ext (sd_ext X340 hs0 Zn) S_c) hzc) (hw _ (List.mem_of_getElem? (i := 91) rfl)) (hw _ (List.mem_of_getElem? (i := 92) rfl)) (hw _ (List.mem_of_getElem? (i := 94) rfl)) (hw _ (List.mem_of_getElem? (i := 93) rfl)) (hw _ (List.mem_of_getElem? (i := 5) rfl)) (hw _ (List.mem_of_getElem? (i := 95) rfl)) S1_341.exa (by decide) [(.ref b7)] [] pd_17 rfl rfl rfl rfl 0 (Nat.le_refl _) (by decide) (by decide) (by decide) (by decide) rfl fun T342 h342 v342 X342 q342 => ?_
        obtain ⟨rfl, rfl⟩ := q342
        refine w_if_eq X342 249 245 at_242 (by decide) rfl rfl (fun hc242 => ?_) (fun hc242 => ?_)
        · skip
          refine w_aload X342 (pc' := 251) at_249 rfl rfl rfl ?_
          refine w_aload X342 (pc' := 253) at_251 rfl rfl rfl ?_
          refine w_virtualV X342 (pc' := 256) at_253 (rm_vo1 hw (h0 := h340) (sd_size X342) b322 b7 B340 (show 1 ≤ 3 by decide) S7_341 (Sta.ext (sd_ext X342 hs0 Zn) S_c) hzc) (hw _ (List.mem_of_getElem? (i := 78) rfl)) (hw _ (List.mem_of_getElem? (i := 79) rfl)) (hw _ (List.mem_of_getElem? (i := 81) rfl)) (hw _ (List.mem_of_getElem? (i := 80) rfl)) (hw _ (List.mem_of_getElem? (i := 57) rfl)) (hw _ (List.mem_of_getElem? (i := 82) rfl)) B340.exa (by decide) [(.ref b7)] [] pd_15 rfl rfl rfl rfl 0 (Nat.le_refl _) (by decide) (by decide) (by decide) (by decide) rfl fun T343 h343 v343 X343 q343 => ?_
          have hv : own_val [(bs1, [(118 : Int32), (48 : Int32)]), (bs3, [(118 : Int32), (49 : Int32)]), (bs5, [(118 : Int32), (50 : Int32)])] bs7 1 = none := (own_vn (es := [(bs1, [(118 : Int32), (48 : Int32)]), (bs3, [(118 : Int32), (49 : Int32)]), (bs5, [(118 : Int32), (50 : Int32)])]) (q := bs7) 0 (show ¬ bs1 = bs7 from own_if0 hc242)).trans (rfl)
          obtain ⟨hq, rfl⟩ := q343
          rcases hq with ⟨rfl, -⟩ | ⟨r, bs, rfl, Sr, hr⟩
          rotate_left
          · exact absurd (hr.symm.trans hv) (by simp)
          refine w_astore X343 (pc' := 258) (l' := #[.val (.int p1), .val (.int p2), .val (.int p3), .val (.int p4), .val (.int p5), .val (.ref b1), .val (.ref b3), .val (.ref b5), .val (.ref b7), .val (.int (3 : Int32)), .val (.int (1 : Int32)), .val (.int (1 : Int32)), .val (.ref b322), .val (.int (1 : Int32)), .val .null, .val .null]) at_256 rfl rfl rfl ?_
          refine w_aload X343 (pc' := 260) at_258 rfl rfl rfl ?_
          refine w_ifnonnullN X343 (pc' := 263) at_260 rfl ?_
          refine w_aload X343 (pc' := 265) at_263 rfl rfl rfl ?_
          refine w_ifnonnullN X343 (pc' := 268) at_265 rfl ?_
          refine w_iconst X343 (pc' := 269) (1 : Int32) at_268 rfl rfl ?_
          refine w_goto X343 (pc' := 273) at_269 (by decide) rfl ?_
          exact w_zreturnW X343 F336_341 (own_hEL hw) at_273 rfl (by decide) (by decide)
        · skip
          refine w_ldcW X342 F336_341 (pc' := 247) (text := "v0") [(118 : Int32), (48 : Int32)] 8 at_245 (hw _ (List.mem_of_getElem? (i := 83) rfl)) (own_wS hw) (own_hEL hw) (List.mem_of_getElem? (i := 1) rfl) (by decide) (by decide) (by decide) (by decide) (by decide) (by decide) rfl fun T344 h344 vm344 a344 X344 F344 E344 S344 => ?_
          have S1_345 := S1_341.ext E344
          have S3_345 := S3_341.ext E344
          have S5_345 := S5_341.ext E344
          have S7_345 := S7_341.ext E344
          have B340_345 := B340.ext E344
          refine w_astore X344 (pc' := 249) (l' := #[.val (.int p1), .val (.int p2), .val (.int p3), .val (.int p4), .val (.int p5), .val (.ref b1), .val (.ref b3), .val (.ref b5), .val (.ref b7), .val (.int (3 : Int32)), .val (.int (1 : Int32)), .val (.int (1 : Int32)), .val (.ref b322), .val (.int (1 : Int32)), .val (.ref a344), .unset]) at_247 rfl rfl rfl ?_
          refine w_aload X344 (pc' := 251) at_249 rfl rfl rfl ?_
          refine w_aload X344 (pc' := 253) at_251 rfl rfl rfl ?_
          refine w_virtualV X344 (pc' := 256) at_253 (rm_vo1 hw (h0 := h344) (sd_size X344) b322 b7 B340_345 (show 1 ≤ 3 by decide) S7_345 (Sta.ext (sd_ext X344 hs0 Zn) S_c) hzc) (hw _ (List.mem_of_getElem? (i := 78) rfl)) (hw _ (List.mem_of_getElem? (i := 79) rfl)) (hw _ (List.mem_of_getElem? (i := 81) rfl)) (hw _ (List.mem_of_getElem? (i := 80) rfl)) (hw _ (List.mem_of_getElem? (i := 57) rfl)) (hw _ (List.mem_of_getElem? (i := 82) rfl)) B340_345.exa (by decide) [(.ref b7)] [] pd_15 rfl rfl rfl rfl 0 (Nat.le_refl _) (by decide) (by decide) (by decide) (by decide) rfl fun T346 h346 v346 X346 q346 => ?_
          have hv : own_val [(bs1, [(118 : Int32), (48 : Int32)]), (bs3, [(118 : Int32), (49 : Int32)]), (bs5, [(118 : Int32), (50 : Int32)])] bs7 1 = some [(118 : Int32), (48 : Int32)] := own_vp (es := [(bs1, [(118 : Int32), (48 : Int32)]), (bs3, [(118 : Int32), (49 : Int32)]), (bs5, [(118 : Int32), (50 : Int32)])]) (q := bs7) 0 (show bs1 = bs7 from own_if1 hc242)
          obtain ⟨hq, rfl⟩ := q346
          rcases hq with ⟨rfl, hr⟩ | ⟨r, bs, rfl, Sr, hr⟩
          · exact absurd (hr.symm.trans hv) (by simp)
          obtain rfl : bs = [(118 : Int32), (48 : Int32)] := Option.some.inj (hr.symm.trans hv)
          refine w_astore X346 (pc' := 258) (l' := #[.val (.int p1), .val (.int p2), .val (.int p3), .val (.int p4), .val (.int p5), .val (.ref b1), .val (.ref b3), .val (.ref b5), .val (.ref b7), .val (.int (3 : Int32)), .val (.int (1 : Int32)), .val (.int (1 : Int32)), .val (.ref b322), .val (.int (1 : Int32)), .val (.ref a344), .val (.ref r)]) at_256 rfl rfl rfl ?_
          refine w_aload X346 (pc' := 260) at_258 rfl rfl rfl ?_
          refine w_ifnonnullY X346 (pc' := 274) at_260 (by decide) rfl ?_
          refine w_aload X346 (pc' := 276) at_274 rfl rfl rfl ?_
          refine w_aload X346 (pc' := 278) at_276 rfl rfl rfl ?_
          refine w_virtualV X346 (pc' := 281) at_278 (rm_eq hw (h0 := h344) (sd_size X346) a344 r S344 Sr (Sta.ext (sd_ext X346 hs0 Zn) S_c) hzc) (hw _ (List.mem_of_getElem? (i := 91) rfl)) (hw _ (List.mem_of_getElem? (i := 92) rfl)) (hw _ (List.mem_of_getElem? (i := 94) rfl)) (hw _ (List.mem_of_getElem? (i := 93) rfl)) (hw _ (List.mem_of_getElem? (i := 5) rfl)) (hw _ (List.mem_of_getElem? (i := 95) rfl)) S344.exa (by decide) [(.ref r)] [] pd_17 rfl rfl rfl rfl 0 (Nat.le_refl _) (by decide) (by decide) (by decide) (by decide) rfl fun T347 h347 v347 X347 q347 => ?_
          obtain ⟨rfl, rfl⟩ := q347
          exact w_zreturnW X347 F344 (own_hEL hw) at_281 (by rw [if_pos rfl]; rfl) (by decide) (by decide)
    · skip
      show Go p e below _ (T232.setTop (mkF m 43 #[.val (.int p1), .val (.int p2), .val (.int p3), .val (.int p4), .val (.int p5), .val (.ref b1), .val (.ref b3), .val (.ref b5), .val (.ref b7), .val (.int (3 : Int32)), .val (.int (2 : Int32)), .unset, .unset, .unset, .unset, .unset] []))
      refine w_iload X232 (pc' := 45) at_43 rfl rfl ?_
      refine w_iconst X232 (pc' := 46) (4 : Int32) at_45 rfl rfl ?_
      refine w_iushr X232 (pc' := 47) at_46 rfl ?_
      refine w_iconst X232 (pc' := 48) (1 : Int32) at_47 rfl rfl ?_
      refine w_iand X232 (pc' := 49) at_48 rfl ?_
      refine w_if_eq X232 56 52 at_49 (by decide) rfl rfl (fun hc49 => ?_) (fun hc49 => ?_)
      · skip
        refine w_iconst X232 (pc' := 57) (0 : Int32) at_56 rfl rfl ?_
        refine w_istore X232 (pc' := 59) (l' := #[.val (.int p1), .val (.int p2), .val (.int p3), .val (.int p4), .val (.int p5), .val (.ref b1), .val (.ref b3), .val (.ref b5), .val (.ref b7), .val (.int (3 : Int32)), .val (.int (2 : Int32)), .val (.int (0 : Int32)), .unset, .unset, .unset, .unset]) at_57 rfl rfl ?_
        refine w_new X232 (pc' := 62) at_59 (hw _ (List.mem_of_getElem? (i := 55) rfl)) (hw _ (List.mem_of_getElem? (i := 56) rfl)) (hw _ (List.mem_of_getElem? (i := 57) rfl)) (by decide) (by decide) rfl fun T348 h348 b348 g348 gn348 X348 E348 A348 D348 => ?_
        have sf_b348 := F7.safe_new E348 g348
        have S1_349 := S1_8.ext E348
        have S3_349 := S3_8.ext E348
        have S5_349 := S5_8.ext E348
        have S7_349 := S7.ext E348
        have F7_349 := F7.ext E348
        have Fpairs_348 : Fld Z h348 b348 "com/example/raja/raja/xml/CanonicalWriter$Bindings" "pairs" "[Ljava/lang/String;" .null := D348 (Or.inl (hw _ (List.mem_of_getElem? (i := 65) rfl))) (ty := (.array (.object "java/lang/String"))) (by decide)
        have Fmarks_348 : Fld Z h348 b348 "com/example/raja/raja/xml/CanonicalWriter$Bindings" "marks" "[I" .null := D348 (Or.inl (hw _ (List.mem_of_getElem? (i := 68) rfl))) (ty := (.array .int)) (by decide)
        have Fdepth_348 : Fld Z h348 b348 "com/example/raja/raja/xml/CanonicalWriter$Bindings" "depth" "I" (.int (0 : Int32)) := D348 (Or.inl (hw _ (List.mem_of_getElem? (i := 75) rfl))) (ty := .int) (by decide)
        have Fsize_348 : Fld Z h348 b348 "com/example/raja/raja/xml/CanonicalWriter$Bindings" "size" "I" (.int (0 : Int32)) := D348 (Or.inl (hw _ (List.mem_of_getElem? (i := 77) rfl))) (ty := .int) (by decide)
        refine w_dup X348 (pc' := 63) at_62 rfl rfl ?_
        refine w_specialN X348 (pc' := 66) at_63 (rm_init hw (h0 := h348) (sd_size X348) b348 A348 Fpairs_348 Fmarks_348 Fsize_348 Fdepth_348 gn348) (hw _ (List.mem_of_getElem? (i := 58) rfl)) (hw _ (List.mem_of_getElem? (i := 59) rfl)) (hw _ (List.mem_of_getElem? (i := 57) rfl)) (hw _ (List.mem_of_getElem? (i := 60) rfl)) rfl (by decide) [] [(.ref b348)] pd_13 rfl rfl rfl rfl 1 (Nat.le_refl _) (by decide) (by decide) (by decide) (by decide) rfl fun T350 h350 X350 q350 => ?_
        obtain ⟨K350, B350⟩ := q350
        have S1_351 := S1_349.keep K350 (ap1 (Apart.obj A348 (hw _ (List.mem_of_getElem? (i := 56) rfl)) (by decide) (by decide)))
        have S3_351 := S3_349.keep K350 (ap1 (Apart.obj A348 (hw _ (List.mem_of_getElem? (i := 56) rfl)) (by decide) (by decide)))
        have S5_351 := S5_349.keep K350 (ap1 (Apart.obj A348 (hw _ (List.mem_of_getElem? (i := 56) rfl)) (by decide) (by decide)))
        have S7_351 := S7_349.keep K350 (ap1 (Apart.obj A348 (hw _ (List.mem_of_getElem? (i := 56) rfl)) (by decide) (by decide)))
        have F7_351 := F7_349.kp X350 K350 (ap1 (Apart.obj A348 (hw _ (List.mem_of_getElem? (i := 56) rfl)) (by decide) (by decide)))
        have A348_351 := A348.keep K350
        refine w_astore X350 (pc' := 68) (l' := #[.val (.int p1), .val (.int p2), .val (.int p3), .val (.int p4), .val (.int p5), .val (.ref b1), .val (.ref b3), .val (.ref b5), .val (.ref b7), .val (.int (3 : Int32)), .val (.int (2 : Int32)), .val (.int (0 : Int32)), .val (.ref b348), .unset, .unset, .unset]) at_66 rfl rfl rfl ?_
        refine w_iload X350 (pc' := 70) at_68 rfl rfl ?_
        refine w_if_ne X350 78 73 at_70 (by decide) rfl rfl (fun hc70 => ?_) (fun hc70 => by exfalso; revert hc70; decide)
        refine w_iload X350 (pc' := 80) at_78 rfl rfl ?_
        refine w_iconst X350 (pc' := 81) (1 : Int32) at_80 rfl rfl ?_
        refine w_icmp_lt X350 93 84 at_81 (by decide) rfl rfl (fun hc81 => by exfalso; revert hc81; decide) (fun hc81 => ?_)
        refine w_aload X350 (pc' := 86) at_84 rfl rfl rfl ?_
        refine w_aload X350 (pc' := 88) at_86 rfl rfl rfl ?_
        refine w_ldcW X350 F7_351 (pc' := 90) (text := "v0") [(118 : Int32), (48 : Int32)] 8 at_88 (hw _ (List.mem_of_getElem? (i := 83) rfl)) (own_wS hw) (own_hEL hw) (List.mem_of_getElem? (i := 1) rfl) (by decide) (by decide) (by decide) (by decide) (by decide) (by decide) rfl fun T352 h352 vm352 a352 X352 F352 E352 S352 => ?_
        have S1_353 := S1_351.ext E352
        have S3_353 := S3_351.ext E352
        have S5_353 := S5_351.ext E352
        have S7_353 := S7_351.ext E352
        have B350_353 := B350.ext E352
        refine w_virtualN X352 (pc' := 93) at_90 (rm_push hw (h0 := h352) (sd_size X352) b348 b1 a352 B350_353 (show 0 < 8 by decide) S1_353 S352) (hw _ (List.mem_of_getElem? (i := 84) rfl)) (hw _ (List.mem_of_getElem? (i := 85) rfl)) (hw _ (List.mem_of_getElem? (i := 87) rfl)) (hw _ (List.mem_of_getElem? (i := 86) rfl)) (hw _ (List.mem_of_getElem? (i := 57) rfl)) (hw _ (List.mem_of_getElem? (i := 88) rfl)) B350_353.exa (by decide) [(.ref b1), (.ref a352)] [] pd_16 rfl rfl rfl rfl 0 (Nat.le_refl _) (by decide) (by decide) (by decide) (by decide) rfl fun T354 h354 X354 q354 => ?_
        obtain ⟨⟨ws354, K354, P354⟩, B354⟩ := q354
        have S1_355 := S1_353.keep K354 P354
        have S3_355 := S3_353.keep K354 P354
        have S5_355 := S5_353.keep K354 P354
        have S7_355 := S7_353.keep K354 P354
        have F352_355 := F352.kp X354 K354 P354
        replace B354 : BD Z n0 h354 b348 [(bs1, [(118 : Int32), (48 : Int32)])] 1 0 0 := B354
        refine w_iload X354 (pc' := 95) at_93 rfl rfl ?_
        refine w_iconst X354 (pc' := 96) (1 : Int32) at_95 rfl rfl ?_
        refine w_icmp_ne X354 104 99 at_96 (by decide) rfl rfl (fun hc96 => ?_) (fun hc96 => by exfalso; revert hc96; decide)
        refine w_iload X354 (pc' := 106) at_104 rfl rfl ?_
        refine w_iconst X354 (pc' := 107) (2 : Int32) at_106 rfl rfl ?_
        refine w_icmp_lt X354 119 110 at_107 (by decide) rfl rfl (fun hc107 => by exfalso; revert hc107; decide) (fun hc107 => ?_)
        refine w_aload X354 (pc' := 112) at_110 rfl rfl rfl ?_
        refine w_aload X354 (pc' := 114) at_112 rfl rfl rfl ?_
        refine w_ldcW X354 F352_355 (pc' := 116) (text := "v1") [(118 : Int32), (49 : Int32)] 8 at_114 (hw _ (List.mem_of_getElem? (i := 89) rfl)) (own_wS hw) (own_hEL hw) (List.mem_of_getElem? (i := 2) rfl) (by decide) (by decide) (by decide) (by decide) (by decide) (by decide) rfl fun T356 h356 vm356 a356 X356 F356 E356 S356 => ?_
        have S1_357 := S1_355.ext E356
        have S3_357 := S3_355.ext E356
        have S5_357 := S5_355.ext E356
        have S7_357 := S7_355.ext E356
        have B354_357 := B354.ext E356
        refine w_virtualN X356 (pc' := 119) at_116 (rm_push hw (h0 := h356) (sd_size X356) b348 b3 a356 B354_357 (show 1 < 8 by decide) S3_357 S356) (hw _ (List.mem_of_getElem? (i := 84) rfl)) (hw _ (List.mem_of_getElem? (i := 85) rfl)) (hw _ (List.mem_of_getElem? (i := 87) rfl)) (hw _ (List.mem_of_getElem? (i := 86) rfl)) (hw _ (List.mem_of_getElem? (i := 57) rfl)) (hw _ (List.mem_of_getElem? (i := 88) rfl)) B354_357.exa (by decide) [(.ref b3), (.ref a356)] [] pd_16 rfl rfl rfl rfl 0 (Nat.le_refl _) (by decide) (by decide) (by decide) (by decide) rfl fun T358 h358 X358 q358 => ?_
        obtain ⟨⟨ws358, K358, P358⟩, B358⟩ := q358
        have S1_359 := S1_357.keep K358 P358
        have S3_359 := S3_357.keep K358 P358
        have S5_359 := S5_357.keep K358 P358
        have S7_359 := S7_357.keep K358 P358
        have F356_359 := F356.kp X358 K358 P358
        replace B358 : BD Z n0 h358 b348 [(bs1, [(118 : Int32), (48 : Int32)]), (bs3, [(118 : Int32), (49 : Int32)])] 2 0 0 := B358
        refine w_iload X358 (pc' := 121) at_119 rfl rfl ?_
        refine w_iconst X358 (pc' := 122) (2 : Int32) at_121 rfl rfl ?_
        refine w_icmp_ne X358 130 125 at_122 (by decide) rfl rfl (fun hc122 => by exfalso; revert hc122; decide) (fun hc122 => ?_)
        refine w_aload X358 (pc' := 127) at_125 rfl rfl rfl ?_
        refine w_virtualN X358 (pc' := 130) at_127 (rm_open hw (h0 := h358) (sd_size X358) b348 B358) (hw _ (List.mem_of_getElem? (i := 69) rfl)) (hw _ (List.mem_of_getElem? (i := 70) rfl)) (hw _ (List.mem_of_getElem? (i := 72) rfl)) (hw _ (List.mem_of_getElem? (i := 71) rfl)) (hw _ (List.mem_of_getElem? (i := 57) rfl)) (hw _ (List.mem_of_getElem? (i := 73) rfl)) B358.exa (by decide) [] [] pd_14 rfl rfl rfl rfl 0 (Nat.le_refl _) (by decide) (by decide) (by decide) (by decide) rfl fun T360 h360 X360 q360 => ?_
        obtain ⟨⟨ws360, K360, P360⟩, B360⟩ := q360
        have S1_361 := S1_359.keep K360 P360
        have S3_361 := S3_359.keep K360 P360
        have S5_361 := S5_359.keep K360 P360
        have S7_361 := S7_359.keep K360 P360
        have F356_361 := F356_359.kp X360 K360 P360
        replace B360 : BD Z n0 h360 b348 [(bs1, [(118 : Int32), (48 : Int32)]), (bs3, [(118 : Int32), (49 : Int32)])] 2 1 2 := B360
        refine w_iload X360 (pc' := 132) at_130 rfl rfl ?_
        refine w_iconst X360 (pc' := 133) (3 : Int32) at_132 rfl rfl ?_
        refine w_icmp_lt X360 145 136 at_133 (by decide) rfl rfl (fun hc133 => by exfalso; revert hc133; decide) (fun hc133 => ?_)
        refine w_aload X360 (pc' := 138) at_136 rfl rfl rfl ?_
        refine w_aload X360 (pc' := 140) at_138 rfl rfl rfl ?_
        refine w_ldcW X360 F356_361 (pc' := 142) (text := "v2") [(118 : Int32), (50 : Int32)] 8 at_140 (hw _ (List.mem_of_getElem? (i := 90) rfl)) (own_wS hw) (own_hEL hw) (List.mem_of_getElem? (i := 3) rfl) (by decide) (by decide) (by decide) (by decide) (by decide) (by decide) rfl fun T362 h362 vm362 a362 X362 F362 E362 S362 => ?_
        have S1_363 := S1_361.ext E362
        have S3_363 := S3_361.ext E362
        have S5_363 := S5_361.ext E362
        have S7_363 := S7_361.ext E362
        have B360_363 := B360.ext E362
        refine w_virtualN X362 (pc' := 145) at_142 (rm_push hw (h0 := h362) (sd_size X362) b348 b5 a362 B360_363 (show 2 < 8 by decide) S5_363 S362) (hw _ (List.mem_of_getElem? (i := 84) rfl)) (hw _ (List.mem_of_getElem? (i := 85) rfl)) (hw _ (List.mem_of_getElem? (i := 87) rfl)) (hw _ (List.mem_of_getElem? (i := 86) rfl)) (hw _ (List.mem_of_getElem? (i := 57) rfl)) (hw _ (List.mem_of_getElem? (i := 88) rfl)) B360_363.exa (by decide) [(.ref b5), (.ref a362)] [] pd_16 rfl rfl rfl rfl 0 (Nat.le_refl _) (by decide) (by decide) (by decide) (by decide) rfl fun T364 h364 X364 q364 => ?_
        obtain ⟨⟨ws364, K364, P364⟩, B364⟩ := q364
        have S1_365 := S1_363.keep K364 P364
        have S3_365 := S3_363.keep K364 P364
        have S5_365 := S5_363.keep K364 P364
        have S7_365 := S7_363.keep K364 P364
        have F362_365 := F362.kp X364 K364 P364
        replace B364 : BD Z n0 h364 b348 [(bs1, [(118 : Int32), (48 : Int32)]), (bs3, [(118 : Int32), (49 : Int32)]), (bs5, [(118 : Int32), (50 : Int32)])] 3 1 2 := B364
        refine w_iload X364 (pc' := 147) at_145 rfl rfl ?_
        refine w_iconst X364 (pc' := 148) (3 : Int32) at_147 rfl rfl ?_
        refine w_icmp_ne X364 156 151 at_148 (by decide) rfl rfl (fun hc148 => ?_) (fun hc148 => by exfalso; revert hc148; decide)
        refine w_iload X364 (pc' := 158) at_156 rfl rfl ?_
        refine w_if_eq X364 166 161 at_158 (by decide) rfl rfl (fun hc158 => ?_) (fun hc158 => by exfalso; revert hc158; decide)
        refine w_iload X364 (pc' := 168) at_166 rfl rfl ?_
        refine w_if_eq X364 176 171 at_168 (by decide) rfl rfl (fun hc168 => ?_) (fun hc168 => by exfalso; revert hc168; decide)
        refine w_iload X364 (pc' := 178) at_176 rfl rfl ?_
        refine w_istore X364 (pc' := 180) (l' := #[.val (.int p1), .val (.int p2), .val (.int p3), .val (.int p4), .val (.int p5), .val (.ref b1), .val (.ref b3), .val (.ref b5), .val (.ref b7), .val (.int (3 : Int32)), .val (.int (2 : Int32)), .val (.int (0 : Int32)), .val (.ref b348), .val (.int (3 : Int32)), .unset, .unset]) at_178 rfl rfl ?_
        refine w_aconst_null X364 (pc' := 181) at_180 rfl ?_
        refine w_astore X364 (pc' := 183) (l' := #[.val (.int p1), .val (.int p2), .val (.int p3), .val (.int p4), .val (.int p5), .val (.ref b1), .val (.ref b3), .val (.ref b5), .val (.ref b7), .val (.int (3 : Int32)), .val (.int (2 : Int32)), .val (.int (0 : Int32)), .val (.ref b348), .val (.int (3 : Int32)), .val .null, .unset]) at_181 rfl rfl rfl ?_
        refine w_iload X364 (pc' := 185) at_183 rfl rfl ?_
        refine w_iconst X364 (pc' := 186) (3 : Int32) at_185 rfl rfl ?_
        refine w_icmp_lt X364 206 189 at_186 (by decide) rfl rfl (fun hc186 => by exfalso; revert hc186; decide) (fun hc186 => ?_)
        refine w_aload X364 (pc' := 191) at_189 rfl rfl rfl ?_
        refine w_aload X364 (pc' := 193) at_191 rfl rfl rfl ?_
        refine w_virtualV X364 (pc' := 196) at_193 (rm_eq hw (h0 := h364) (sd_size X364) b5 b7 S5_365 S7_365 (Sta.ext (sd_ext X364 hs0 Zn) S_c) hzc) (hw _ (List.mem_of_getElem? (i := 91) rfl)) (hw _ (List.mem_of_getElem? (i := 92) rfl)) (hw _ (List.mem_of_getElem? (i := 94) rfl)) (hw _ (List.mem_of_getElem? (i := 93) rfl)) (hw _ (List.mem_of_getElem? (i := 5) rfl)) (hw _ (List.mem_of_getElem? (i := 95) rfl)) S5_365.exa (by decide) [(.ref b7)] [] pd_17 rfl rfl rfl rfl 0 (Nat.le_refl _) (by decide) (by decide) (by decide) (by decide) rfl fun T366 h366 v366 X366 q366 => ?_
        obtain ⟨rfl, rfl⟩ := q366
        refine w_if_eq X366 206 199 at_196 (by decide) rfl rfl (fun hc196 => ?_) (fun hc196 => ?_)
        · skip
          refine w_iload X366 (pc' := 208) at_206 rfl rfl ?_
          refine w_iconst X366 (pc' := 209) (2 : Int32) at_208 rfl rfl ?_
          refine w_icmp_lt X366 229 212 at_209 (by decide) rfl rfl (fun hc209 => by exfalso; revert hc209; decide) (fun hc209 => ?_)
          refine w_aload X366 (pc' := 214) at_212 rfl rfl rfl ?_
          refine w_aload X366 (pc' := 216) at_214 rfl rfl rfl ?_
          refine w_virtualV X366 (pc' := 219) at_216 (rm_eq hw (h0 := h364) (sd_size X366) b3 b7 S3_365 S7_365 (Sta.ext (sd_ext X366 hs0 Zn) S_c) hzc) (hw _ (List.mem_of_getElem? (i := 91) rfl)) (hw _ (List.mem_of_getElem? (i := 92) rfl)) (hw _ (List.mem_of_getElem? (i := 94) rfl)) (hw _ (List.mem_of_getElem? (i := 93) rfl)) (hw _ (List.mem_of_getElem? (i := 5) rfl)) (hw _ (List.mem_of_getElem? (i := 95) rfl)) S3_365.exa (by decide) [(.ref b7)] [] pd_17 rfl rfl rfl rfl 0 (Nat.le_refl _) (by decide) (by decide) (by decide) (by decide) rfl fun T367 h367 v367 X367 q367 => ?_
          obtain ⟨rfl, rfl⟩ := q367
          refine w_if_eq X367 229 222 at_219 (by decide) rfl rfl (fun hc219 => ?_) (fun hc219 => ?_)
          · skip
            refine w_iload X367 (pc' := 231) at_229 rfl rfl ?_
            refine w_iconst X367 (pc' := 232) (1 : Int32) at_231 rfl rfl ?_
            refine w_icmp_lt X367 249 235 at_232 (by decide) rfl rfl (fun hc232 => by exfalso; revert hc232; decide) (fun hc232 => ?_)
            refine w_aload X367 (pc' := 237) at_235 rfl rfl rfl ?_
            refine w_aload X367 (pc' := 239) at_237 rfl rfl rfl ?_
            refine w_virtualV X367 (pc' := 242) at_239 (rm_eq hw (h0 := h364) (sd_size X367) b1 b7 S1_365 S7_365 (Sta.ext (sd_ext X367 hs0 Zn) S_c) hzc) (hw _ (List.mem_of_getElem? (i := 91) rfl)) (hw _ (List.mem_of_getElem? (i := 92) rfl)) (hw _ (List.mem_of_getElem? (i := 94) rfl)) (hw _ (List.mem_of_getElem? (i := 93) rfl)) (hw _ (List.mem_of_getElem? (i := 5) rfl)) (hw _ (List.mem_of_getElem? (i := 95) rfl)) S1_365.exa (by decide) [(.ref b7)] [] pd_17 rfl rfl rfl rfl 0 (Nat.le_refl _) (by decide) (by decide) (by decide) (by decide) rfl fun T368 h368 v368 X368 q368 => ?_
            obtain ⟨rfl, rfl⟩ := q368
            refine w_if_eq X368 249 245 at_242 (by decide) rfl rfl (fun hc242 => ?_) (fun hc242 => ?_)
            · skip
              refine w_aload X368 (pc' := 251) at_249 rfl rfl rfl ?_
              refine w_aload X368 (pc' := 253) at_251 rfl rfl rfl ?_
              refine w_virtualV X368 (pc' := 256) at_253 (rm_vo3 hw (h0 := h364) (sd_size X368) b348 b7 B364 (show 3 ≤ 3 by decide) S7_365 (Sta.ext (sd_ext X368 hs0 Zn) S_c) hzc) (hw _ (List.mem_of_getElem? (i := 78) rfl)) (hw _ (List.mem_of_getElem? (i := 79) rfl)) (hw _ (List.mem_of_getElem? (i := 81) rfl)) (hw _ (List.mem_of_getElem? (i := 80) rfl)) (hw _ (List.mem_of_getElem? (i := 57) rfl)) (hw _ (List.mem_of_getElem? (i := 82) rfl)) B364.exa (by decide) [(.ref b7)] [] pd_15 rfl rfl rfl rfl 0 (Nat.le_refl _) (by decide) (by decide) (by decide) (by decide) rfl fun T369 h369 v369 X369 q369 => ?_
              have hv : own_val [(bs1, [(118 : Int32), (48 : Int32)]), (bs3, [(118 : Int32), (49 : Int32)]), (bs5, [(118 : Int32), (50 : Int32)])] bs7 3 = none := (own_vn (es := [(bs1, [(118 : Int32), (48 : Int32)]), (bs3, [(118 : Int32), (49 : Int32)]), (bs5, [(118 : Int32), (50 : Int32)])]) (q := bs7) 2 (show ¬ bs5 = bs7 from own_if0 hc196)).trans ((own_vn (es := [(bs1, [(118 : Int32), (48 : Int32)]), (bs3, [(118 : Int32), (49 : Int32)]), (bs5, [(118 : Int32), (50 : Int32)])]) (q := bs7) 1 (show ¬ bs3 = bs7 from own_if0 hc219)).trans ((own_vn (es := [(bs1, [(118 : Int32), (48 : Int32)]), (bs3, [(118 : Int32), (49 : Int32)]), (bs5, [(118 : Int32), (50 : Int32)])]) (q := bs7) 0 (show ¬ bs1 = bs7 from own_if0 hc242)).trans (rfl)))
              obtain ⟨hq, rfl⟩ := q369
              rcases hq with ⟨rfl, -⟩ | ⟨r, bs, rfl, Sr, hr⟩
              rotate_left
              · exact absurd (hr.symm.trans hv) (by simp)
              refine w_astore X369 (pc' := 258) (l' := #[.val (.int p1), .val (.int p2), .val (.int p3), .val (.int p4), .val (.int p5), .val (.ref b1), .val (.ref b3), .val (.ref b5), .val (.ref b7), .val (.int (3 : Int32)), .val (.int (2 : Int32)), .val (.int (0 : Int32)), .val (.ref b348), .val (.int (3 : Int32)), .val .null, .val .null]) at_256 rfl rfl rfl ?_
              refine w_aload X369 (pc' := 260) at_258 rfl rfl rfl ?_
              refine w_ifnonnullN X369 (pc' := 263) at_260 rfl ?_
              refine w_aload X369 (pc' := 265) at_263 rfl rfl rfl ?_
              refine w_ifnonnullN X369 (pc' := 268) at_265 rfl ?_
              refine w_iconst X369 (pc' := 269) (1 : Int32) at_268 rfl rfl ?_
              refine w_goto X369 (pc' := 273) at_269 (by decide) rfl ?_
              exact w_zreturnW X369 F362_365 (own_hEL hw) at_273 rfl (by decide) (by decide)
            · skip
              refine w_ldcW X368 F362_365 (pc' := 247) (text := "v0") [(118 : Int32), (48 : Int32)] 8 at_245 (hw _ (List.mem_of_getElem? (i := 83) rfl)) (own_wS hw) (own_hEL hw) (List.mem_of_getElem? (i := 1) rfl) (by decide) (by decide) (by decide) (by decide) (by decide) (by decide) rfl fun T370 h370 vm370 a370 X370 F370 E370 S370 => ?_
              have S1_371 := S1_365.ext E370
              have S3_371 := S3_365.ext E370
              have S5_371 := S5_365.ext E370
              have S7_371 := S7_365.ext E370
              have B364_371 := B364.ext E370
              refine w_astore X370 (pc' := 249) (l' := #[.val (.int p1), .val (.int p2), .val (.int p3), .val (.int p4), .val (.int p5), .val (.ref b1), .val (.ref b3), .val (.ref b5), .val (.ref b7), .val (.int (3 : Int32)), .val (.int (2 : Int32)), .val (.int (0 : Int32)), .val (.ref b348), .val (.int (3 : Int32)), .val (.ref a370), .unset]) at_247 rfl rfl rfl ?_
              refine w_aload X370 (pc' := 251) at_249 rfl rfl rfl ?_
              refine w_aload X370 (pc' := 253) at_251 rfl rfl rfl ?_
              refine w_virtualV X370 (pc' := 256) at_253 (rm_vo3 hw (h0 := h370) (sd_size X370) b348 b7 B364_371 (show 3 ≤ 3 by decide) S7_371 (Sta.ext (sd_ext X370 hs0 Zn) S_c) hzc) (hw _ (List.mem_of_getElem? (i := 78) rfl)) (hw _ (List.mem_of_getElem? (i := 79) rfl)) (hw _ (List.mem_of_getElem? (i := 81) rfl)) (hw _ (List.mem_of_getElem? (i := 80) rfl)) (hw _ (List.mem_of_getElem? (i := 57) rfl)) (hw _ (List.mem_of_getElem? (i := 82) rfl)) B364_371.exa (by decide) [(.ref b7)] [] pd_15 rfl rfl rfl rfl 0 (Nat.le_refl _) (by decide) (by decide) (by decide) (by decide) rfl fun T372 h372 v372 X372 q372 => ?_
              have hv : own_val [(bs1, [(118 : Int32), (48 : Int32)]), (bs3, [(118 : Int32), (49 : Int32)]), (bs5, [(118 : Int32), (50 : Int32)])] bs7 3 = some [(118 : Int32), (48 : Int32)] := (own_vn (es := [(bs1, [(118 : Int32), (48 : Int32)]), (bs3, [(118 : Int32), (49 : Int32)]), (bs5, [(118 : Int32), (50 : Int32)])]) (q := bs7) 2 (show ¬ bs5 = bs7 from own_if0 hc196)).trans ((own_vn (es := [(bs1, [(118 : Int32), (48 : Int32)]), (bs3, [(118 : Int32), (49 : Int32)]), (bs5, [(118 : Int32), (50 : Int32)])]) (q := bs7) 1 (show ¬ bs3 = bs7 from own_if0 hc219)).trans (own_vp (es := [(bs1, [(118 : Int32), (48 : Int32)]), (bs3, [(118 : Int32), (49 : Int32)]), (bs5, [(118 : Int32), (50 : Int32)])]) (q := bs7) 0 (show bs1 = bs7 from own_if1 hc242)))
              obtain ⟨hq, rfl⟩ := q372
              rcases hq with ⟨rfl, hr⟩ | ⟨r, bs, rfl, Sr, hr⟩
              · exact absurd (hr.symm.trans hv) (by simp)
              obtain rfl : bs = [(118 : Int32), (48 : Int32)] := Option.some.inj (hr.symm.trans hv)
              refine w_astore X372 (pc' := 258) (l' := #[.val (.int p1), .val (.int p2), .val (.int p3), .val (.int p4), .val (.int p5), .val (.ref b1), .val (.ref b3), .val (.ref b5), .val (.ref b7), .val (.int (3 : Int32)), .val (.int (2 : Int32)), .val (.int (0 : Int32)), .val (.ref b348), .val (.int (3 : Int32)), .val (.ref a370), .val (.ref r)]) at_256 rfl rfl rfl ?_
              refine w_aload X372 (pc' := 260) at_258 rfl rfl rfl ?_
              refine w_ifnonnullY X372 (pc' := 274) at_260 (by decide) rfl ?_
              refine w_aload X372 (pc' := 276) at_274 rfl rfl rfl ?_
              refine w_aload X372 (pc' := 278) at_276 rfl rfl rfl ?_
              refine w_virtualV X372 (pc' := 281) at_278 (rm_eq hw (h0 := h370) (sd_size X372) a370 r S370 Sr (Sta.ext (sd_ext X372 hs0 Zn) S_c) hzc) (hw _ (List.mem_of_getElem? (i := 91) rfl)) (hw _ (List.mem_of_getElem? (i := 92) rfl)) (hw _ (List.mem_of_getElem? (i := 94) rfl)) (hw _ (List.mem_of_getElem? (i := 93) rfl)) (hw _ (List.mem_of_getElem? (i := 5) rfl)) (hw _ (List.mem_of_getElem? (i := 95) rfl)) S370.exa (by decide) [(.ref r)] [] pd_17 rfl rfl rfl rfl 0 (Nat.le_refl _) (by decide) (by decide) (by decide) (by decide) rfl fun T373 h373 v373 X373 q373 => ?_
              obtain ⟨rfl, rfl⟩ := q373
              exact w_zreturnW X373 F370 (own_hEL hw) at_281 (by rw [if_pos rfl]; rfl) (by decide) (by decide)
          · skip
            refine w_ldcW X367 F362_365 (pc' := 224) (text := "v1") [(118 : Int32), (49 : Int32)] 8 at_222 (hw _ (List.mem_of_getElem? (i := 89) rfl)) (own_wS hw) (own_hEL hw) (List.mem_of_getElem? (i := 2) rfl) (by decide) (by decide) (by decide) (by decide) (by decide) (by decide) rfl fun T374 h374 vm374 a374 X374 F374 E374 S374 => ?_
            have S1_375 := S1_365.ext E374
            have S3_375 := S3_365.ext E374
            have S5_375 := S5_365.ext E374
            have S7_375 := S7_365.ext E374
            have B364_375 := B364.ext E374
            refine w_astore X374 (pc' := 226) (l' := #[.val (.int p1), .val (.int p2), .val (.int p3), .val (.int p4), .val (.int p5), .val (.ref b1), .val (.ref b3), .val (.ref b5), .val (.ref b7), .val (.int (3 : Int32)), .val (.int (2 : Int32)), .val (.int (0 : Int32)), .val (.ref b348), .val (.int (3 : Int32)), .val (.ref a374), .unset]) at_224 rfl rfl rfl ?_
            refine w_goto X374 (pc' := 249) at_226 (by decide) rfl ?_
            refine w_aload X374 (pc' := 251) at_249 rfl rfl rfl ?_
            refine w_aload X374 (pc' := 253) at_251 rfl rfl rfl ?_
            refine w_virtualV X374 (pc' := 256) at_253 (rm_vo3 hw (h0 := h374) (sd_size X374) b348 b7 B364_375 (show 3 ≤ 3 by decide) S7_375 (Sta.ext (sd_ext X374 hs0 Zn) S_c) hzc) (hw _ (List.mem_of_getElem? (i := 78) rfl)) (hw _ (List.mem_of_getElem? (i := 79) rfl)) (hw _ (List.mem_of_getElem? (i := 81) rfl)) (hw _ (List.mem_of_getElem? (i := 80) rfl)) (hw _ (List.mem_of_getElem? (i := 57) rfl)) (hw _ (List.mem_of_getElem? (i := 82) rfl)) B364_375.exa (by decide) [(.ref b7)] [] pd_15 rfl rfl rfl rfl 0 (Nat.le_refl _) (by decide) (by decide) (by decide) (by decide) rfl fun T376 h376 v376 X376 q376 => ?_
            have hv : own_val [(bs1, [(118 : Int32), (48 : Int32)]), (bs3, [(118 : Int32), (49 : Int32)]), (bs5, [(118 : Int32), (50 : Int32)])] bs7 3 = some [(118 : Int32), (49 : Int32)] := (own_vn (es := [(bs1, [(118 : Int32), (48 : Int32)]), (bs3, [(118 : Int32), (49 : Int32)]), (bs5, [(118 : Int32), (50 : Int32)])]) (q := bs7) 2 (show ¬ bs5 = bs7 from own_if0 hc196)).trans (own_vp (es := [(bs1, [(118 : Int32), (48 : Int32)]), (bs3, [(118 : Int32), (49 : Int32)]), (bs5, [(118 : Int32), (50 : Int32)])]) (q := bs7) 1 (show bs3 = bs7 from own_if1 hc219))
            obtain ⟨hq, rfl⟩ := q376
            rcases hq with ⟨rfl, hr⟩ | ⟨r, bs, rfl, Sr, hr⟩
            · exact absurd (hr.symm.trans hv) (by simp)
            obtain rfl : bs = [(118 : Int32), (49 : Int32)] := Option.some.inj (hr.symm.trans hv)
            refine w_astore X376 (pc' := 258) (l' := #[.val (.int p1), .val (.int p2), .val (.int p3), .val (.int p4), .val (.int p5), .val (.ref b1), .val (.ref b3), .val (.ref b5), .val (.ref b7), .val (.int (3 : Int32)), .val (.int (2 : Int32)), .val (.int (0 : Int32)), .val (.ref b348), .val (.int (3 : Int32)), .val (.ref a374), .val (.ref r)]) at_256 rfl rfl rfl ?_
            refine w_aload X376 (pc' := 260) at_258 rfl rfl rfl ?_
            refine w_ifnonnullY X376 (pc' := 274) at_260 (by decide) rfl ?_
            refine w_aload X376 (pc' := 276) at_274 rfl rfl rfl ?_
            refine w_aload X376 (pc' := 278) at_276 rfl rfl rfl ?_
            refine w_virtualV X376 (pc' := 281) at_278 (rm_eq hw (h0 := h374) (sd_size X376) a374 r S374 Sr (Sta.ext (sd_ext X376 hs0 Zn) S_c) hzc) (hw _ (List.mem_of_getElem? (i := 91) rfl)) (hw _ (List.mem_of_getElem? (i := 92) rfl)) (hw _ (List.mem_of_getElem? (i := 94) rfl)) (hw _ (List.mem_of_getElem? (i := 93) rfl)) (hw _ (List.mem_of_getElem? (i := 5) rfl)) (hw _ (List.mem_of_getElem? (i := 95) rfl)) S374.exa (by decide) [(.ref r)] [] pd_17 rfl rfl rfl rfl 0 (Nat.le_refl _) (by decide) (by decide) (by decide) (by decide) rfl fun T377 h377 v377 X377 q377 => ?_
            obtain ⟨rfl, rfl⟩ := q377
            exact w_zreturnW X377 F374 (own_hEL hw) at_281 (by rw [if_pos rfl]; rfl) (by decide) (by decide)
        · skip
          refine w_ldcW X366 F362_365 (pc' := 201) (text := "v2") [(118 : Int32), (50 : Int32)] 8 at_199 (hw _ (List.mem_of_getElem? (i := 90) rfl)) (own_wS hw) (own_hEL hw) (List.mem_of_getElem? (i := 3) rfl) (by decide) (by decide) (by decide) (by decide) (by decide) (by decide) rfl fun T378 h378 vm378 a378 X378 F378 E378 S378 => ?_
          have S1_379 := S1_365.ext E378
          have S3_379 := S3_365.ext E378
          have S5_379 := S5_365.ext E378
          have S7_379 := S7_365.ext E378
          have B364_379 := B364.ext E378
          refine w_astore X378 (pc' := 203) (l' := #[.val (.int p1), .val (.int p2), .val (.int p3), .val (.int p4), .val (.int p5), .val (.ref b1), .val (.ref b3), .val (.ref b5), .val (.ref b7), .val (.int (3 : Int32)), .val (.int (2 : Int32)), .val (.int (0 : Int32)), .val (.ref b348), .val (.int (3 : Int32)), .val (.ref a378), .unset]) at_201 rfl rfl rfl ?_
          refine w_goto X378 (pc' := 249) at_203 (by decide) rfl ?_
          refine w_aload X378 (pc' := 251) at_249 rfl rfl rfl ?_
          refine w_aload X378 (pc' := 253) at_251 rfl rfl rfl ?_
          refine w_virtualV X378 (pc' := 256) at_253 (rm_vo3 hw (h0 := h378) (sd_size X378) b348 b7 B364_379 (show 3 ≤ 3 by decide) S7_379 (Sta.ext (sd_ext X378 hs0 Zn) S_c) hzc) (hw _ (List.mem_of_getElem? (i := 78) rfl)) (hw _ (List.mem_of_getElem? (i := 79) rfl)) (hw _ (List.mem_of_getElem? (i := 81) rfl)) (hw _ (List.mem_of_getElem? (i := 80) rfl)) (hw _ (List.mem_of_getElem? (i := 57) rfl)) (hw _ (List.mem_of_getElem? (i := 82) rfl)) B364_379.exa (by decide) [(.ref b7)] [] pd_15 rfl rfl rfl rfl 0 (Nat.le_refl _) (by decide) (by decide) (by decide) (by decide) rfl fun T380 h380 v380 X380 q380 => ?_
          have hv : own_val [(bs1, [(118 : Int32), (48 : Int32)]), (bs3, [(118 : Int32), (49 : Int32)]), (bs5, [(118 : Int32), (50 : Int32)])] bs7 3 = some [(118 : Int32), (50 : Int32)] := own_vp (es := [(bs1, [(118 : Int32), (48 : Int32)]), (bs3, [(118 : Int32), (49 : Int32)]), (bs5, [(118 : Int32), (50 : Int32)])]) (q := bs7) 2 (show bs5 = bs7 from own_if1 hc196)
          obtain ⟨hq, rfl⟩ := q380
          rcases hq with ⟨rfl, hr⟩ | ⟨r, bs, rfl, Sr, hr⟩
          · exact absurd (hr.symm.trans hv) (by simp)
          obtain rfl : bs = [(118 : Int32), (50 : Int32)] := Option.some.inj (hr.symm.trans hv)
          refine w_astore X380 (pc' := 258) (l' := #[.val (.int p1), .val (.int p2), .val (.int p3), .val (.int p4), .val (.int p5), .val (.ref b1), .val (.ref b3), .val (.ref b5), .val (.ref b7), .val (.int (3 : Int32)), .val (.int (2 : Int32)), .val (.int (0 : Int32)), .val (.ref b348), .val (.int (3 : Int32)), .val (.ref a378), .val (.ref r)]) at_256 rfl rfl rfl ?_
          refine w_aload X380 (pc' := 260) at_258 rfl rfl rfl ?_
          refine w_ifnonnullY X380 (pc' := 274) at_260 (by decide) rfl ?_
          refine w_aload X380 (pc' := 276) at_274 rfl rfl rfl ?_
          refine w_aload X380 (pc' := 278) at_276 rfl rfl rfl ?_
          refine w_virtualV X380 (pc' := 281) at_278 (rm_eq hw (h0 := h378) (sd_size X380) a378 r S378 Sr (Sta.ext (sd_ext X380 hs0 Zn) S_c) hzc) (hw _ (List.mem_of_getElem? (i := 91) rfl)) (hw _ (List.mem_of_getElem? (i := 92) rfl)) (hw _ (List.mem_of_getElem? (i := 94) rfl)) (hw _ (List.mem_of_getElem? (i := 93) rfl)) (hw _ (List.mem_of_getElem? (i := 5) rfl)) (hw _ (List.mem_of_getElem? (i := 95) rfl)) S378.exa (by decide) [(.ref r)] [] pd_17 rfl rfl rfl rfl 0 (Nat.le_refl _) (by decide) (by decide) (by decide) (by decide) rfl fun T381 h381 v381 X381 q381 => ?_
          obtain ⟨rfl, rfl⟩ := q381
          exact w_zreturnW X381 F378 (own_hEL hw) at_281 (by rw [if_pos rfl]; rfl) (by decide) (by decide)
      · skip
        refine w_iconst X232 (pc' := 53) (1 : Int32) at_52 rfl rfl ?_
        refine w_goto X232 (pc' := 57) at_53 (by decide) rfl ?_
        refine w_istore X232 (pc' := 59) (l' := #[.val (.int p1), .val (.int p2), .val (.int p3), .val (.int p4), .val (.int p5), .val (.ref b1), .val (.ref b3), .val (.ref b5), .val (.ref b7), .val (.int (3 : Int32)), .val (.int (2 : Int32)), .val (.int (1 : Int32)), .unset, .unset, .unset, .unset]) at_57 rfl rfl ?_
        refine w_new X232 (pc' := 62) at_59 (hw _ (List.mem_of_getElem? (i := 55) rfl)) (hw _ (List.mem_of_getElem? (i := 56) rfl)) (hw _ (List.mem_of_getElem? (i := 57) rfl)) (by decide) (by decide) rfl fun T382 h382 b382 g382 gn382 X382 E382 A382 D382 => ?_
        have sf_b382 := F7.safe_new E382 g382
        have S1_383 := S1_8.ext E382
        have S3_383 := S3_8.ext E382
        have S5_383 := S5_8.ext E382
        have S7_383 := S7.ext E382
        have F7_383 := F7.ext E382
        have Fpairs_382 : Fld Z h382 b382 "com/example/raja/raja/xml/CanonicalWriter$Bindings" "pairs" "[Ljava/lang/String;" .null := D382 (Or.inl (hw _ (List.mem_of_getElem? (i := 65) rfl))) (ty := (.array (.object "java/lang/String"))) (by decide)
        have Fmarks_382 : Fld Z h382 b382 "com/example/raja/raja/xml/CanonicalWriter$Bindings" "marks" "[I" .null := D382 (Or.inl (hw _ (List.mem_of_getElem? (i := 68) rfl))) (ty := (.array .int)) (by decide)
        have Fdepth_382 : Fld Z h382 b382 "com/example/raja/raja/xml/CanonicalWriter$Bindings" "depth" "I" (.int (0 : Int32)) := D382 (Or.inl (hw _ (List.mem_of_getElem? (i := 75) rfl))) (ty := .int) (by decide)
        have Fsize_382 : Fld Z h382 b382 "com/example/raja/raja/xml/CanonicalWriter$Bindings" "size" "I" (.int (0 : Int32)) := D382 (Or.inl (hw _ (List.mem_of_getElem? (i := 77) rfl))) (ty := .int) (by decide)
        refine w_dup X382 (pc' := 63) at_62 rfl rfl ?_
        refine w_specialN X382 (pc' := 66) at_63 (rm_init hw (h0 := h382) (sd_size X382) b382 A382 Fpairs_382 Fmarks_382 Fsize_382 Fdepth_382 gn382) (hw _ (List.mem_of_getElem? (i := 58) rfl)) (hw _ (List.mem_of_getElem? (i := 59) rfl)) (hw _ (List.mem_of_getElem? (i := 57) rfl)) (hw _ (List.mem_of_getElem? (i := 60) rfl)) rfl (by decide) [] [(.ref b382)] pd_13 rfl rfl rfl rfl 1 (Nat.le_refl _) (by decide) (by decide) (by decide) (by decide) rfl fun T384 h384 X384 q384 => ?_
        obtain ⟨K384, B384⟩ := q384
        have S1_385 := S1_383.keep K384 (ap1 (Apart.obj A382 (hw _ (List.mem_of_getElem? (i := 56) rfl)) (by decide) (by decide)))
        have S3_385 := S3_383.keep K384 (ap1 (Apart.obj A382 (hw _ (List.mem_of_getElem? (i := 56) rfl)) (by decide) (by decide)))
        have S5_385 := S5_383.keep K384 (ap1 (Apart.obj A382 (hw _ (List.mem_of_getElem? (i := 56) rfl)) (by decide) (by decide)))
        have S7_385 := S7_383.keep K384 (ap1 (Apart.obj A382 (hw _ (List.mem_of_getElem? (i := 56) rfl)) (by decide) (by decide)))
        have F7_385 := F7_383.kp X384 K384 (ap1 (Apart.obj A382 (hw _ (List.mem_of_getElem? (i := 56) rfl)) (by decide) (by decide)))
        have A382_385 := A382.keep K384
        refine w_astore X384 (pc' := 68) (l' := #[.val (.int p1), .val (.int p2), .val (.int p3), .val (.int p4), .val (.int p5), .val (.ref b1), .val (.ref b3), .val (.ref b5), .val (.ref b7), .val (.int (3 : Int32)), .val (.int (2 : Int32)), .val (.int (1 : Int32)), .val (.ref b382), .unset, .unset, .unset]) at_66 rfl rfl rfl ?_
        refine w_iload X384 (pc' := 70) at_68 rfl rfl ?_
        refine w_if_ne X384 78 73 at_70 (by decide) rfl rfl (fun hc70 => ?_) (fun hc70 => by exfalso; revert hc70; decide)
        refine w_iload X384 (pc' := 80) at_78 rfl rfl ?_
        refine w_iconst X384 (pc' := 81) (1 : Int32) at_80 rfl rfl ?_
        refine w_icmp_lt X384 93 84 at_81 (by decide) rfl rfl (fun hc81 => by exfalso; revert hc81; decide) (fun hc81 => ?_)
        refine w_aload X384 (pc' := 86) at_84 rfl rfl rfl ?_
        refine w_aload X384 (pc' := 88) at_86 rfl rfl rfl ?_
        refine w_ldcW X384 F7_385 (pc' := 90) (text := "v0") [(118 : Int32), (48 : Int32)] 8 at_88 (hw _ (List.mem_of_getElem? (i := 83) rfl)) (own_wS hw) (own_hEL hw) (List.mem_of_getElem? (i := 1) rfl) (by decide) (by decide) (by decide) (by decide) (by decide) (by decide) rfl fun T386 h386 vm386 a386 X386 F386 E386 S386 => ?_
        have S1_387 := S1_385.ext E386
        have S3_387 := S3_385.ext E386
        have S5_387 := S5_385.ext E386
        have S7_387 := S7_385.ext E386
        have B384_387 := B384.ext E386
        refine w_virtualN X386 (pc' := 93) at_90 (rm_push hw (h0 := h386) (sd_size X386) b382 b1 a386 B384_387 (show 0 < 8 by decide) S1_387 S386) (hw _ (List.mem_of_getElem? (i := 84) rfl)) (hw _ (List.mem_of_getElem? (i := 85) rfl)) (hw _ (List.mem_of_getElem? (i := 87) rfl)) (hw _ (List.mem_of_getElem? (i := 86) rfl)) (hw _ (List.mem_of_getElem? (i := 57) rfl)) (hw _ (List.mem_of_getElem? (i := 88) rfl)) B384_387.exa (by decide) [(.ref b1), (.ref a386)] [] pd_16 rfl rfl rfl rfl 0 (Nat.le_refl _) (by decide) (by decide) (by decide) (by decide) rfl fun T388 h388 X388 q388 => ?_
        obtain ⟨⟨ws388, K388, P388⟩, B388⟩ := q388
        have S1_389 := S1_387.keep K388 P388
        have S3_389 := S3_387.keep K388 P388
        have S5_389 := S5_387.keep K388 P388
        have S7_389 := S7_387.keep K388 P388
        have F386_389 := F386.kp X388 K388 P388
        replace B388 : BD Z n0 h388 b382 [(bs1, [(118 : Int32), (48 : Int32)])] 1 0 0 := B388
        refine w_iload X388 (pc' := 95) at_93 rfl rfl ?_
        refine w_iconst X388 (pc' := 96) (1 : Int32) at_95 rfl rfl ?_
        refine w_icmp_ne X388 104 99 at_96 (by decide) rfl rfl (fun hc96 => ?_) (fun hc96 => by exfalso; revert hc96; decide)
        refine w_iload X388 (pc' := 106) at_104 rfl rfl ?_
        refine w_iconst X388 (pc' := 107) (2 : Int32) at_106 rfl rfl ?_
        refine w_icmp_lt X388 119 110 at_107 (by decide) rfl rfl (fun hc107 => by exfalso; revert hc107; decide) (fun hc107 => ?_)
        refine w_aload X388 (pc' := 112) at_110 rfl rfl rfl ?_
        refine w_aload X388 (pc' := 114) at_112 rfl rfl rfl ?_
        refine w_ldcW X388 F386_389 (pc' := 116) (text := "v1") [(118 : Int32), (49 : Int32)] 8 at_114 (hw _ (List.mem_of_getElem? (i := 89) rfl)) (own_wS hw) (own_hEL hw) (List.mem_of_getElem? (i := 2) rfl) (by decide) (by decide) (by decide) (by decide) (by decide) (by decide) rfl fun T390 h390 vm390 a390 X390 F390 E390 S390 => ?_
        have S1_391 := S1_389.ext E390
        have S3_391 := S3_389.ext E390
        have S5_391 := S5_389.ext E390
        have S7_391 := S7_389.ext E390
        have B388_391 := B388.ext E390
        refine w_virtualN X390 (pc' := 119) at_116 (rm_push hw (h0 := h390) (sd_size X390) b382 b3 a390 B388_391 (show 1 < 8 by decide) S3_391 S390) (hw _ (List.mem_of_getElem? (i := 84) rfl)) (hw _ (List.mem_of_getElem? (i := 85) rfl)) (hw _ (List.mem_of_getElem? (i := 87) rfl)) (hw _ (List.mem_of_getElem? (i := 86) rfl)) (hw _ (List.mem_of_getElem? (i := 57) rfl)) (hw _ (List.mem_of_getElem? (i := 88) rfl)) B388_391.exa (by decide) [(.ref b3), (.ref a390)] [] pd_16 rfl rfl rfl rfl 0 (Nat.le_refl _) (by decide) (by decide) (by decide) (by decide) rfl fun T392 h392 X392 q392 => ?_
        obtain ⟨⟨ws392, K392, P392⟩, B392⟩ := q392
        have S1_393 := S1_391.keep K392 P392
        have S3_393 := S3_391.keep K392 P392
        have S5_393 := S5_391.keep K392 P392
        have S7_393 := S7_391.keep K392 P392
        have F390_393 := F390.kp X392 K392 P392
        replace B392 : BD Z n0 h392 b382 [(bs1, [(118 : Int32), (48 : Int32)]), (bs3, [(118 : Int32), (49 : Int32)])] 2 0 0 := B392
        refine w_iload X392 (pc' := 121) at_119 rfl rfl ?_
        refine w_iconst X392 (pc' := 122) (2 : Int32) at_121 rfl rfl ?_
        refine w_icmp_ne X392 130 125 at_122 (by decide) rfl rfl (fun hc122 => by exfalso; revert hc122; decide) (fun hc122 => ?_)
        refine w_aload X392 (pc' := 127) at_125 rfl rfl rfl ?_
        refine w_virtualN X392 (pc' := 130) at_127 (rm_open hw (h0 := h392) (sd_size X392) b382 B392) (hw _ (List.mem_of_getElem? (i := 69) rfl)) (hw _ (List.mem_of_getElem? (i := 70) rfl)) (hw _ (List.mem_of_getElem? (i := 72) rfl)) (hw _ (List.mem_of_getElem? (i := 71) rfl)) (hw _ (List.mem_of_getElem? (i := 57) rfl)) (hw _ (List.mem_of_getElem? (i := 73) rfl)) B392.exa (by decide) [] [] pd_14 rfl rfl rfl rfl 0 (Nat.le_refl _) (by decide) (by decide) (by decide) (by decide) rfl fun T394 h394 X394 q394 => ?_
        obtain ⟨⟨ws394, K394, P394⟩, B394⟩ := q394
        have S1_395 := S1_393.keep K394 P394
        have S3_395 := S3_393.keep K394 P394
        have S5_395 := S5_393.keep K394 P394
        have S7_395 := S7_393.keep K394 P394
        have F390_395 := F390_393.kp X394 K394 P394
        replace B394 : BD Z n0 h394 b382 [(bs1, [(118 : Int32), (48 : Int32)]), (bs3, [(118 : Int32), (49 : Int32)])] 2 1 2 := B394
        refine w_iload X394 (pc' := 132) at_130 rfl rfl ?_
        refine w_iconst X394 (pc' := 133) (3 : Int32) at_132 rfl rfl ?_
        refine w_icmp_lt X394 145 136 at_133 (by decide) rfl rfl (fun hc133 => by exfalso; revert hc133; decide) (fun hc133 => ?_)
        refine w_aload X394 (pc' := 138) at_136 rfl rfl rfl ?_
        refine w_aload X394 (pc' := 140) at_138 rfl rfl rfl ?_
        refine w_ldcW X394 F390_395 (pc' := 142) (text := "v2") [(118 : Int32), (50 : Int32)] 8 at_140 (hw _ (List.mem_of_getElem? (i := 90) rfl)) (own_wS hw) (own_hEL hw) (List.mem_of_getElem? (i := 3) rfl) (by decide) (by decide) (by decide) (by decide) (by decide) (by decide) rfl fun T396 h396 vm396 a396 X396 F396 E396 S396 => ?_
        have S1_397 := S1_395.ext E396
        have S3_397 := S3_395.ext E396
        have S5_397 := S5_395.ext E396
        have S7_397 := S7_395.ext E396
        have B394_397 := B394.ext E396
        refine w_virtualN X396 (pc' := 145) at_142 (rm_push hw (h0 := h396) (sd_size X396) b382 b5 a396 B394_397 (show 2 < 8 by decide) S5_397 S396) (hw _ (List.mem_of_getElem? (i := 84) rfl)) (hw _ (List.mem_of_getElem? (i := 85) rfl)) (hw _ (List.mem_of_getElem? (i := 87) rfl)) (hw _ (List.mem_of_getElem? (i := 86) rfl)) (hw _ (List.mem_of_getElem? (i := 57) rfl)) (hw _ (List.mem_of_getElem? (i := 88) rfl)) B394_397.exa (by decide) [(.ref b5), (.ref a396)] [] pd_16 rfl rfl rfl rfl 0 (Nat.le_refl _) (by decide) (by decide) (by decide) (by decide) rfl fun T398 h398 X398 q398 => ?_
        obtain ⟨⟨ws398, K398, P398⟩, B398⟩ := q398
        have S1_399 := S1_397.keep K398 P398
        have S3_399 := S3_397.keep K398 P398
        have S5_399 := S5_397.keep K398 P398
        have S7_399 := S7_397.keep K398 P398
        have F396_399 := F396.kp X398 K398 P398
        replace B398 : BD Z n0 h398 b382 [(bs1, [(118 : Int32), (48 : Int32)]), (bs3, [(118 : Int32), (49 : Int32)]), (bs5, [(118 : Int32), (50 : Int32)])] 3 1 2 := B398
        refine w_iload X398 (pc' := 147) at_145 rfl rfl ?_
        refine w_iconst X398 (pc' := 148) (3 : Int32) at_147 rfl rfl ?_
        refine w_icmp_ne X398 156 151 at_148 (by decide) rfl rfl (fun hc148 => ?_) (fun hc148 => by exfalso; revert hc148; decide)
        refine w_iload X398 (pc' := 158) at_156 rfl rfl ?_
        refine w_if_eq X398 166 161 at_158 (by decide) rfl rfl (fun hc158 => by exfalso; revert hc158; decide) (fun hc158 => ?_)
        refine w_aload X398 (pc' := 163) at_161 rfl rfl rfl ?_
        refine w_virtualN X398 (pc' := 166) at_163 (rm_close hw (h0 := h398) (sd_size X398) b382 B398) (hw _ (List.mem_of_getElem? (i := 100) rfl)) (hw _ (List.mem_of_getElem? (i := 101) rfl)) (hw _ (List.mem_of_getElem? (i := 103) rfl)) (hw _ (List.mem_of_getElem? (i := 102) rfl)) (hw _ (List.mem_of_getElem? (i := 57) rfl)) (hw _ (List.mem_of_getElem? (i := 104) rfl)) B398.exa (by decide) [] [] pd_19 rfl rfl rfl rfl 0 (Nat.le_refl _) (by decide) (by decide) (by decide) (by decide) rfl fun T400 h400 X400 q400 => ?_
        obtain ⟨⟨ws400, K400, P400⟩, B400⟩ := q400
        have S1_401 := S1_399.keep K400 P400
        have S3_401 := S3_399.keep K400 P400
        have S5_401 := S5_399.keep K400 P400
        have S7_401 := S7_399.keep K400 P400
        have F396_401 := F396_399.kp X400 K400 P400
        replace B400 : BD Z n0 h400 b382 [(bs1, [(118 : Int32), (48 : Int32)]), (bs3, [(118 : Int32), (49 : Int32)]), (bs5, [(118 : Int32), (50 : Int32)])] 2 0 2 := B400
        refine w_iload X400 (pc' := 168) at_166 rfl rfl ?_
        refine w_if_eq X400 176 171 at_168 (by decide) rfl rfl (fun hc168 => by exfalso; revert hc168; decide) (fun hc168 => ?_)
        refine w_iload X400 (pc' := 173) at_171 rfl rfl ?_
        refine w_goto X400 (pc' := 178) at_173 (by decide) rfl ?_
        refine w_istore X400 (pc' := 180) (l' := #[.val (.int p1), .val (.int p2), .val (.int p3), .val (.int p4), .val (.int p5), .val (.ref b1), .val (.ref b3), .val (.ref b5), .val (.ref b7), .val (.int (3 : Int32)), .val (.int (2 : Int32)), .val (.int (1 : Int32)), .val (.ref b382), .val (.int (2 : Int32)), .unset, .unset]) at_178 rfl rfl ?_
        refine w_aconst_null X400 (pc' := 181) at_180 rfl ?_
        refine w_astore X400 (pc' := 183) (l' := #[.val (.int p1), .val (.int p2), .val (.int p3), .val (.int p4), .val (.int p5), .val (.ref b1), .val (.ref b3), .val (.ref b5), .val (.ref b7), .val (.int (3 : Int32)), .val (.int (2 : Int32)), .val (.int (1 : Int32)), .val (.ref b382), .val (.int (2 : Int32)), .val .null, .unset]) at_181 rfl rfl rfl ?_
        refine w_iload X400 (pc' := 185) at_183 rfl rfl ?_
        refine w_iconst X400 (pc' := 186) (3 : Int32) at_185 rfl rfl ?_
        refine w_icmp_lt X400 206 189 at_186 (by decide) rfl rfl (fun hc186 => ?_) (fun hc186 => by exfalso; revert hc186; decide)
        refine w_iload X400 (pc' := 208) at_206 rfl rfl ?_
        refine w_iconst X400 (pc' := 209) (2 : Int32) at_208 rfl rfl ?_
        refine w_icmp_lt X400 229 212 at_209 (by decide) rfl rfl (fun hc209 => by exfalso; revert hc209; decide) (fun hc209 => ?_)
        refine w_aload X400 (pc' := 214) at_212 rfl rfl rfl ?_
        refine w_aload X400 (pc' := 216) at_214 rfl rfl rfl ?_
        refine w_virtualV X400 (pc' := 219) at_216 (rm_eq hw (h0 := h400) (sd_size X400) b3 b7 S3_401 S7_401 (Sta.ext (sd_ext X400 hs0 Zn) S_c) hzc) (hw _ (List.mem_of_getElem? (i := 91) rfl)) (hw _ (List.mem_of_getElem? (i := 92) rfl)) (hw _ (List.mem_of_getElem? (i := 94) rfl)) (hw _ (List.mem_of_getElem? (i := 93) rfl)) (hw _ (List.mem_of_getElem? (i := 5) rfl)) (hw _ (List.mem_of_getElem? (i := 95) rfl)) S3_401.exa (by decide) [(.ref b7)] [] pd_17 rfl rfl rfl rfl 0 (Nat.le_refl _) (by decide) (by decide) (by decide) (by decide) rfl fun T402 h402 v402 X402 q402 => ?_
        obtain ⟨rfl, rfl⟩ := q402
        refine w_if_eq X402 229 222 at_219 (by decide) rfl rfl (fun hc219 => ?_) (fun hc219 => ?_)
        · skip
          refine w_iload X402 (pc' := 231) at_229 rfl rfl ?_
          refine w_iconst X402 (pc' := 232) (1 : Int32) at_231 rfl rfl ?_
          refine w_icmp_lt X402 249 235 at_232 (by decide) rfl rfl (fun hc232 => by exfalso; revert hc232; decide) (fun hc232 => ?_)
          refine w_aload X402 (pc' := 237) at_235 rfl rfl rfl ?_
          refine w_aload X402 (pc' := 239) at_237 rfl rfl rfl ?_
          refine w_virtualV X402 (pc' := 242) at_239 (rm_eq hw (h0 := h400) (sd_size X402) b1 b7 S1_401 S7_401 (Sta.ext (sd_ext X402 hs0 Zn) S_c) hzc) (hw _ (List.mem_of_getElem? (i := 91) rfl)) (hw _ (List.mem_of_getElem? (i := 92) rfl)) (hw _ (List.mem_of_getElem? (i := 94) rfl)) (hw _ (List.mem_of_getElem? (i := 93) rfl)) (hw _ (List.mem_of_getElem? (i := 5) rfl)) (hw _ (List.mem_of_getElem? (i := 95) rfl)) S1_401.exa (by decide) [(.ref b7)] [] pd_17 rfl rfl rfl rfl 0 (Nat.le_refl _) (by decide) (by decide) (by decide) (by decide) rfl fun T403 h403 v403 X403 q403 => ?_
          obtain ⟨rfl, rfl⟩ := q403
          refine w_if_eq X403 249 245 at_242 (by decide) rfl rfl (fun hc242 => ?_) (fun hc242 => ?_)
          · skip
            refine w_aload X403 (pc' := 251) at_249 rfl rfl rfl ?_
            refine w_aload X403 (pc' := 253) at_251 rfl rfl rfl ?_
            refine w_virtualV X403 (pc' := 256) at_253 (rm_vo2 hw (h0 := h400) (sd_size X403) b382 b7 B400 (show 2 ≤ 3 by decide) S7_401 (Sta.ext (sd_ext X403 hs0 Zn) S_c) hzc) (hw _ (List.mem_of_getElem? (i := 78) rfl)) (hw _ (List.mem_of_getElem? (i := 79) rfl)) (hw _ (List.mem_of_getElem? (i := 81) rfl)) (hw _ (List.mem_of_getElem? (i := 80) rfl)) (hw _ (List.mem_of_getElem? (i := 57) rfl)) (hw _ (List.mem_of_getElem? (i := 82) rfl)) B400.exa (by decide) [(.ref b7)] [] pd_15 rfl rfl rfl rfl 0 (Nat.le_refl _) (by decide) (by decide) (by decide) (by decide) rfl fun T404 h404 v404 X404 q404 => ?_
            have hv : own_val [(bs1, [(118 : Int32), (48 : Int32)]), (bs3, [(118 : Int32), (49 : Int32)]), (bs5, [(118 : Int32), (50 : Int32)])] bs7 2 = none := (own_vn (es := [(bs1, [(118 : Int32), (48 : Int32)]), (bs3, [(118 : Int32), (49 : Int32)]), (bs5, [(118 : Int32), (50 : Int32)])]) (q := bs7) 1 (show ¬ bs3 = bs7 from own_if0 hc219)).trans ((own_vn (es := [(bs1, [(118 : Int32), (48 : Int32)]), (bs3, [(118 : Int32), (49 : Int32)]), (bs5, [(118 : Int32), (50 : Int32)])]) (q := bs7) 0 (show ¬ bs1 = bs7 from own_if0 hc242)).trans (rfl))
            obtain ⟨hq, rfl⟩ := q404
            rcases hq with ⟨rfl, -⟩ | ⟨r, bs, rfl, Sr, hr⟩
            rotate_left
            · exact absurd (hr.symm.trans hv) (by simp)
            refine w_astore X404 (pc' := 258) (l' := #[.val (.int p1), .val (.int p2), .val (.int p3), .val (.int p4), .val (.int p5), .val (.ref b1), .val (.ref b3), .val (.ref b5), .val (.ref b7), .val (.int (3 : Int32)), .val (.int (2 : Int32)), .val (.int (1 : Int32)), .val (.ref b382), .val (.int (2 : Int32)), .val .null, .val .null]) at_256 rfl rfl rfl ?_
            refine w_aload X404 (pc' := 260) at_258 rfl rfl rfl ?_
            refine w_ifnonnullN X404 (pc' := 263) at_260 rfl ?_
            refine w_aload X404 (pc' := 265) at_263 rfl rfl rfl ?_
            refine w_ifnonnullN X404 (pc' := 268) at_265 rfl ?_
            refine w_iconst X404 (pc' := 269) (1 : Int32) at_268 rfl rfl ?_
            refine w_goto X404 (pc' := 273) at_269 (by decide) rfl ?_
            exact w_zreturnW X404 F396_401 (own_hEL hw) at_273 rfl (by decide) (by decide)
          · skip
            refine w_ldcW X403 F396_401 (pc' := 247) (text := "v0") [(118 : Int32), (48 : Int32)] 8 at_245 (hw _ (List.mem_of_getElem? (i := 83) rfl)) (own_wS hw) (own_hEL hw) (List.mem_of_getElem? (i := 1) rfl) (by decide) (by decide) (by decide) (by decide) (by decide) (by decide) rfl fun T405 h405 vm405 a405 X405 F405 E405 S405 => ?_
            have S1_406 := S1_401.ext E405
            have S3_406 := S3_401.ext E405
            have S5_406 := S5_401.ext E405
            have S7_406 := S7_401.ext E405
            have B400_406 := B400.ext E405
            refine w_astore X405 (pc' := 249) (l' := #[.val (.int p1), .val (.int p2), .val (.int p3), .val (.int p4), .val (.int p5), .val (.ref b1), .val (.ref b3), .val (.ref b5), .val (.ref b7), .val (.int (3 : Int32)), .val (.int (2 : Int32)), .val (.int (1 : Int32)), .val (.ref b382), .val (.int (2 : Int32)), .val (.ref a405), .unset]) at_247 rfl rfl rfl ?_
            refine w_aload X405 (pc' := 251) at_249 rfl rfl rfl ?_
            refine w_aload X405 (pc' := 253) at_251 rfl rfl rfl ?_
            refine w_virtualV X405 (pc' := 256) at_253 (rm_vo2 hw (h0 := h405) (sd_size X405) b382 b7 B400_406 (show 2 ≤ 3 by decide) S7_406 (Sta.ext (sd_ext X405 hs0 Zn) S_c) hzc) (hw _ (List.mem_of_getElem? (i := 78) rfl)) (hw _ (List.mem_of_getElem? (i := 79) rfl)) (hw _ (List.mem_of_getElem? (i := 81) rfl)) (hw _ (List.mem_of_getElem? (i := 80) rfl)) (hw _ (List.mem_of_getElem? (i := 57) rfl)) (hw _ (List.mem_of_getElem? (i := 82) rfl)) B400_406.exa (by decide) [(.ref b7)] [] pd_15 rfl rfl rfl rfl 0 (Nat.le_refl _) (by decide) (by decide) (by decide) (by decide) rfl fun T407 h407 v407 X407 q407 => ?_
            have hv : own_val [(bs1, [(118 : Int32), (48 : Int32)]), (bs3, [(118 : Int32), (49 : Int32)]), (bs5, [(118 : Int32), (50 : Int32)])] bs7 2 = some [(118 : Int32), (48 : Int32)] := (own_vn (es := [(bs1, [(118 : Int32), (48 : Int32)]), (bs3, [(118 : Int32), (49 : Int32)]), (bs5, [(118 : Int32), (50 : Int32)])]) (q := bs7) 1 (show ¬ bs3 = bs7 from own_if0 hc219)).trans (own_vp (es := [(bs1, [(118 : Int32), (48 : Int32)]), (bs3, [(118 : Int32), (49 : Int32)]), (bs5, [(118 : Int32), (50 : Int32)])]) (q := bs7) 0 (show bs1 = bs7 from own_if1 hc242))
            obtain ⟨hq, rfl⟩ := q407
            rcases hq with ⟨rfl, hr⟩ | ⟨r, bs, rfl, Sr, hr⟩
            · exact absurd (hr.symm.trans hv) (by simp)
            obtain rfl : bs = [(118 : Int32), (48 : Int32)] := Option.some.inj (hr.symm.trans hv)
            refine w_astore X407 (pc' := 258) (l' := #[.val (.int p1), .val (.int p2), .val (.int p3), .val (.int p4), .val (.int p5), .val (.ref b1), .val (.ref b3), .val (.ref b5), .val (.ref b7), .val (.int (3 : Int32)), .val (.int (2 : Int32)), .val (.int (1 : Int32)), .val (.ref b382), .val (.int (2 : Int32)), .val (.ref a405), .val (.ref r)]) at_256 rfl rfl rfl ?_
            refine w_aload X407 (pc' := 260) at_258 rfl rfl rfl ?_
            refine w_ifnonnullY X407 (pc' := 274) at_260 (by decide) rfl ?_
            refine w_aload X407 (pc' := 276) at_274 rfl rfl rfl ?_
            refine w_aload X407 (pc' := 278) at_276 rfl rfl rfl ?_
            refine w_virtualV X407 (pc' := 281) at_278 (rm_eq hw (h0 := h405) (sd_size X407) a405 r S405 Sr (Sta.ext (sd_ext X407 hs0 Zn) S_c) hzc) (hw _ (List.mem_of_getElem? (i := 91) rfl)) (hw _ (List.mem_of_getElem? (i := 92) rfl)) (hw _ (List.mem_of_getElem? (i := 94) rfl)) (hw _ (List.mem_of_getElem? (i := 93) rfl)) (hw _ (List.mem_of_getElem? (i := 5) rfl)) (hw _ (List.mem_of_getElem? (i := 95) rfl)) S405.exa (by decide) [(.ref r)] [] pd_17 rfl rfl rfl rfl 0 (Nat.le_refl _) (by decide) (by decide) (by decide) (by decide) rfl fun T408 h408 v408 X408 q408 => ?_
            obtain ⟨rfl, rfl⟩ := q408
            exact w_zreturnW X408 F405 (own_hEL hw) at_281 (by rw [if_pos rfl]; rfl) (by decide) (by decide)
        · skip
          refine w_ldcW X402 F396_401 (pc' := 224) (text := "v1") [(118 : Int32), (49 : Int32)] 8 at_222 (hw _ (List.mem_of_getElem? (i := 89) rfl)) (own_wS hw) (own_hEL hw) (List.mem_of_getElem? (i := 2) rfl) (by decide) (by decide) (by decide) (by decide) (by decide) (by decide) rfl fun T409 h409 vm409 a409 X409 F409 E409 S409 => ?_
          have S1_410 := S1_401.ext E409
          have S3_410 := S3_401.ext E409
          have S5_410 := S5_401.ext E409
          have S7_410 := S7_401.ext E409
          have B400_410 := B400.ext E409
          refine w_astore X409 (pc' := 226) (l' := #[.val (.int p1), .val (.int p2), .val (.int p3), .val (.int p4), .val (.int p5), .val (.ref b1), .val (.ref b3), .val (.ref b5), .val (.ref b7), .val (.int (3 : Int32)), .val (.int (2 : Int32)), .val (.int (1 : Int32)), .val (.ref b382), .val (.int (2 : Int32)), .val (.ref a409), .unset]) at_224 rfl rfl rfl ?_
          refine w_goto X409 (pc' := 249) at_226 (by decide) rfl ?_
          refine w_aload X409 (pc' := 251) at_249 rfl rfl rfl ?_
          refine w_aload X409 (pc' := 253) at_251 rfl rfl rfl ?_
          refine w_virtualV X409 (pc' := 256) at_253 (rm_vo2 hw (h0 := h409) (sd_size X409) b382 b7 B400_410 (show 2 ≤ 3 by decide) S7_410 (Sta.ext (sd_ext X409 hs0 Zn) S_c) hzc) (hw _ (List.mem_of_getElem? (i := 78) rfl)) (hw _ (List.mem_of_getElem? (i := 79) rfl)) (hw _ (List.mem_of_getElem? (i := 81) rfl)) (hw _ (List.mem_of_getElem? (i := 80) rfl)) (hw _ (List.mem_of_getElem? (i := 57) rfl)) (hw _ (List.mem_of_getElem? (i := 82) rfl)) B400_410.exa (by decide) [(.ref b7)] [] pd_15 rfl rfl rfl rfl 0 (Nat.le_refl _) (by decide) (by decide) (by decide) (by decide) rfl fun T411 h411 v411 X411 q411 => ?_
          have hv : own_val [(bs1, [(118 : Int32), (48 : Int32)]), (bs3, [(118 : Int32), (49 : Int32)]), (bs5, [(118 : Int32), (50 : Int32)])] bs7 2 = some [(118 : Int32), (49 : Int32)] := own_vp (es := [(bs1, [(118 : Int32), (48 : Int32)]), (bs3, [(118 : Int32), (49 : Int32)]), (bs5, [(118 : Int32), (50 : Int32)])]) (q := bs7) 1 (show bs3 = bs7 from own_if1 hc219)
          obtain ⟨hq, rfl⟩ := q411
          rcases hq with ⟨rfl, hr⟩ | ⟨r, bs, rfl, Sr, hr⟩
          · exact absurd (hr.symm.trans hv) (by simp)
          obtain rfl : bs = [(118 : Int32), (49 : Int32)] := Option.some.inj (hr.symm.trans hv)
          refine w_astore X411 (pc' := 258) (l' := #[.val (.int p1), .val (.int p2), .val (.int p3), .val (.int p4), .val (.int p5), .val (.ref b1), .val (.ref b3), .val (.ref b5), .val (.ref b7), .val (.int (3 : Int32)), .val (.int (2 : Int32)), .val (.int (1 : Int32)), .val (.ref b382), .val (.int (2 : Int32)), .val (.ref a409), .val (.ref r)]) at_256 rfl rfl rfl ?_
          refine w_aload X411 (pc' := 260) at_258 rfl rfl rfl ?_
          refine w_ifnonnullY X411 (pc' := 274) at_260 (by decide) rfl ?_
          refine w_aload X411 (pc' := 276) at_274 rfl rfl rfl ?_
          refine w_aload X411 (pc' := 278) at_276 rfl rfl rfl ?_
          refine w_virtualV X411 (pc' := 281) at_278 (rm_eq hw (h0 := h409) (sd_size X411) a409 r S409 Sr (Sta.ext (sd_ext X411 hs0 Zn) S_c) hzc) (hw _ (List.mem_of_getElem? (i := 91) rfl)) (hw _ (List.mem_of_getElem? (i := 92) rfl)) (hw _ (List.mem_of_getElem? (i := 94) rfl)) (hw _ (List.mem_of_getElem? (i := 93) rfl)) (hw _ (List.mem_of_getElem? (i := 5) rfl)) (hw _ (List.mem_of_getElem? (i := 95) rfl)) S409.exa (by decide) [(.ref r)] [] pd_17 rfl rfl rfl rfl 0 (Nat.le_refl _) (by decide) (by decide) (by decide) (by decide) rfl fun T412 h412 v412 X412 q412 => ?_
          obtain ⟨rfl, rfl⟩ := q412
          exact w_zreturnW X412 F409 (own_hEL hw) at_281 (by rw [if_pos rfl]; rfl) (by decide) (by decide)
    · skip
      show Go p e below _ (T232.setTop (mkF m 43 #[.val (.int p1), .val (.int p2), .val (.int p3), .val (.int p4), .val (.int p5), .val (.ref b1), .val (.ref b3), .val (.ref b5), .val (.ref b7), .val (.int (3 : Int32)), .val (.int (3 : Int32)), .unset, .unset, .unset, .unset, .unset] []))
      refine w_iload X232 (pc' := 45) at_43 rfl rfl ?_
      refine w_iconst X232 (pc' := 46) (4 : Int32) at_45 rfl rfl ?_
      refine w_iushr X232 (pc' := 47) at_46 rfl ?_
      refine w_iconst X232 (pc' := 48) (1 : Int32) at_47 rfl rfl ?_
      refine w_iand X232 (pc' := 49) at_48 rfl ?_
      refine w_if_eq X232 56 52 at_49 (by decide) rfl rfl (fun hc49 => ?_) (fun hc49 => ?_)
      · skip
        refine w_iconst X232 (pc' := 57) (0 : Int32) at_56 rfl rfl ?_
        refine w_istore X232 (pc' := 59) (l' := #[.val (.int p1), .val (.int p2), .val (.int p3), .val (.int p4), .val (.int p5), .val (.ref b1), .val (.ref b3), .val (.ref b5), .val (.ref b7), .val (.int (3 : Int32)), .val (.int (3 : Int32)), .val (.int (0 : Int32)), .unset, .unset, .unset, .unset]) at_57 rfl rfl ?_
        refine w_new X232 (pc' := 62) at_59 (hw _ (List.mem_of_getElem? (i := 55) rfl)) (hw _ (List.mem_of_getElem? (i := 56) rfl)) (hw _ (List.mem_of_getElem? (i := 57) rfl)) (by decide) (by decide) rfl fun T413 h413 b413 g413 gn413 X413 E413 A413 D413 => ?_
        have sf_b413 := F7.safe_new E413 g413
        have S1_414 := S1_8.ext E413
        have S3_414 := S3_8.ext E413
        have S5_414 := S5_8.ext E413
        have S7_414 := S7.ext E413
        have F7_414 := F7.ext E413
        have Fpairs_413 : Fld Z h413 b413 "com/example/raja/raja/xml/CanonicalWriter$Bindings" "pairs" "[Ljava/lang/String;" .null := D413 (Or.inl (hw _ (List.mem_of_getElem? (i := 65) rfl))) (ty := (.array (.object "java/lang/String"))) (by decide)
        have Fmarks_413 : Fld Z h413 b413 "com/example/raja/raja/xml/CanonicalWriter$Bindings" "marks" "[I" .null := D413 (Or.inl (hw _ (List.mem_of_getElem? (i := 68) rfl))) (ty := (.array .int)) (by decide)
        have Fdepth_413 : Fld Z h413 b413 "com/example/raja/raja/xml/CanonicalWriter$Bindings" "depth" "I" (.int (0 : Int32)) := D413 (Or.inl (hw _ (List.mem_of_getElem? (i := 75) rfl))) (ty := .int) (by decide)
        have Fsize_413 : Fld Z h413 b413 "com/example/raja/raja/xml/CanonicalWriter$Bindings" "size" "I" (.int (0 : Int32)) := D413 (Or.inl (hw _ (List.mem_of_getElem? (i := 77) rfl))) (ty := .int) (by decide)
        refine w_dup X413 (pc' := 63) at_62 rfl rfl ?_
        refine w_specialN X413 (pc' := 66) at_63 (rm_init hw (h0 := h413) (sd_size X413) b413 A413 Fpairs_413 Fmarks_413 Fsize_413 Fdepth_413 gn413) (hw _ (List.mem_of_getElem? (i := 58) rfl)) (hw _ (List.mem_of_getElem? (i := 59) rfl)) (hw _ (List.mem_of_getElem? (i := 57) rfl)) (hw _ (List.mem_of_getElem? (i := 60) rfl)) rfl (by decide) [] [(.ref b413)] pd_13 rfl rfl rfl rfl 1 (Nat.le_refl _) (by decide) (by decide) (by decide) (by decide) rfl fun T415 h415 X415 q415 => ?_
        obtain ⟨K415, B415⟩ := q415
        have S1_416 := S1_414.keep K415 (ap1 (Apart.obj A413 (hw _ (List.mem_of_getElem? (i := 56) rfl)) (by decide) (by decide)))
        have S3_416 := S3_414.keep K415 (ap1 (Apart.obj A413 (hw _ (List.mem_of_getElem? (i := 56) rfl)) (by decide) (by decide)))
        have S5_416 := S5_414.keep K415 (ap1 (Apart.obj A413 (hw _ (List.mem_of_getElem? (i := 56) rfl)) (by decide) (by decide)))
        have S7_416 := S7_414.keep K415 (ap1 (Apart.obj A413 (hw _ (List.mem_of_getElem? (i := 56) rfl)) (by decide) (by decide)))
        have F7_416 := F7_414.kp X415 K415 (ap1 (Apart.obj A413 (hw _ (List.mem_of_getElem? (i := 56) rfl)) (by decide) (by decide)))
        have A413_416 := A413.keep K415
        refine w_astore X415 (pc' := 68) (l' := #[.val (.int p1), .val (.int p2), .val (.int p3), .val (.int p4), .val (.int p5), .val (.ref b1), .val (.ref b3), .val (.ref b5), .val (.ref b7), .val (.int (3 : Int32)), .val (.int (3 : Int32)), .val (.int (0 : Int32)), .val (.ref b413), .unset, .unset, .unset]) at_66 rfl rfl rfl ?_
        refine w_iload X415 (pc' := 70) at_68 rfl rfl ?_
        refine w_if_ne X415 78 73 at_70 (by decide) rfl rfl (fun hc70 => ?_) (fun hc70 => by exfalso; revert hc70; decide)
        refine w_iload X415 (pc' := 80) at_78 rfl rfl ?_
        refine w_iconst X415 (pc' := 81) (1 : Int32) at_80 rfl rfl ?_
        refine w_icmp_lt X415 93 84 at_81 (by decide) rfl rfl (fun hc81 => by exfalso; revert hc81; decide) (fun hc81 => ?_)
        refine w_aload X415 (pc' := 86) at_84 rfl rfl rfl ?_
        refine w_aload X415 (pc' := 88) at_86 rfl rfl rfl ?_
        refine w_ldcW X415 F7_416 (pc' := 90) (text := "v0") [(118 : Int32), (48 : Int32)] 8 at_88 (hw _ (List.mem_of_getElem? (i := 83) rfl)) (own_wS hw) (own_hEL hw) (List.mem_of_getElem? (i := 1) rfl) (by decide) (by decide) (by decide) (by decide) (by decide) (by decide) rfl fun T417 h417 vm417 a417 X417 F417 E417 S417 => ?_
        have S1_418 := S1_416.ext E417
        have S3_418 := S3_416.ext E417
        have S5_418 := S5_416.ext E417
        have S7_418 := S7_416.ext E417
        have B415_418 := B415.ext E417
        refine w_virtualN X417 (pc' := 93) at_90 (rm_push hw (h0 := h417) (sd_size X417) b413 b1 a417 B415_418 (show 0 < 8 by decide) S1_418 S417) (hw _ (List.mem_of_getElem? (i := 84) rfl)) (hw _ (List.mem_of_getElem? (i := 85) rfl)) (hw _ (List.mem_of_getElem? (i := 87) rfl)) (hw _ (List.mem_of_getElem? (i := 86) rfl)) (hw _ (List.mem_of_getElem? (i := 57) rfl)) (hw _ (List.mem_of_getElem? (i := 88) rfl)) B415_418.exa (by decide) [(.ref b1), (.ref a417)] [] pd_16 rfl rfl rfl rfl 0 (Nat.le_refl _) (by decide) (by decide) (by decide) (by decide) rfl fun T419 h419 X419 q419 => ?_
        obtain ⟨⟨ws419, K419, P419⟩, B419⟩ := q419
        have S1_420 := S1_418.keep K419 P419
        have S3_420 := S3_418.keep K419 P419
        have S5_420 := S5_418.keep K419 P419
        have S7_420 := S7_418.keep K419 P419
        have F417_420 := F417.kp X419 K419 P419
        replace B419 : BD Z n0 h419 b413 [(bs1, [(118 : Int32), (48 : Int32)])] 1 0 0 := B419
        refine w_iload X419 (pc' := 95) at_93 rfl rfl ?_
        refine w_iconst X419 (pc' := 96) (1 : Int32) at_95 rfl rfl ?_
        refine w_icmp_ne X419 104 99 at_96 (by decide) rfl rfl (fun hc96 => ?_) (fun hc96 => by exfalso; revert hc96; decide)
        refine w_iload X419 (pc' := 106) at_104 rfl rfl ?_
        refine w_iconst X419 (pc' := 107) (2 : Int32) at_106 rfl rfl ?_
        refine w_icmp_lt X419 119 110 at_107 (by decide) rfl rfl (fun hc107 => by exfalso; revert hc107; decide) (fun hc107 => ?_)
        refine w_aload X419 (pc' := 112) at_110 rfl rfl rfl ?_
        refine w_aload X419 (pc' := 114) at_112 rfl rfl rfl ?_
        refine w_ldcW X419 F417_420 (pc' := 116) (text := "v1") [(118 : Int32), (49 : Int32)] 8 at_114 (hw _ (List.mem_of_getElem? (i := 89) rfl)) (own_wS hw) (own_hEL hw) (List.mem_of_getElem? (i := 2) rfl) (by decide) (by decide) (by decide) (by decide) (by decide) (by decide) rfl fun T421 h421 vm421 a421 X421 F421 E421 S421 => ?_
        have S1_422 := S1_420.ext E421
        have S3_422 := S3_420.ext E421
        have S5_422 := S5_420.ext E421
        have S7_422 := S7_420.ext E421
        have B419_422 := B419.ext E421
        refine w_virtualN X421 (pc' := 119) at_116 (rm_push hw (h0 := h421) (sd_size X421) b413 b3 a421 B419_422 (show 1 < 8 by decide) S3_422 S421) (hw _ (List.mem_of_getElem? (i := 84) rfl)) (hw _ (List.mem_of_getElem? (i := 85) rfl)) (hw _ (List.mem_of_getElem? (i := 87) rfl)) (hw _ (List.mem_of_getElem? (i := 86) rfl)) (hw _ (List.mem_of_getElem? (i := 57) rfl)) (hw _ (List.mem_of_getElem? (i := 88) rfl)) B419_422.exa (by decide) [(.ref b3), (.ref a421)] [] pd_16 rfl rfl rfl rfl 0 (Nat.le_refl _) (by decide) (by decide) (by decide) (by decide) rfl fun T423 h423 X423 q423 => ?_
        obtain ⟨⟨ws423, K423, P423⟩, B423⟩ := q423
        have S1_424 := S1_422.keep K423 P423
        have S3_424 := S3_422.keep K423 P423
        have S5_424 := S5_422.keep K423 P423
        have S7_424 := S7_422.keep K423 P423
        have F421_424 := F421.kp X423 K423 P423
        replace B423 : BD Z n0 h423 b413 [(bs1, [(118 : Int32), (48 : Int32)]), (bs3, [(118 : Int32), (49 : Int32)])] 2 0 0 := B423
        refine w_iload X423 (pc' := 121) at_119 rfl rfl ?_
        refine w_iconst X423 (pc' := 122) (2 : Int32) at_121 rfl rfl ?_
        refine w_icmp_ne X423 130 125 at_122 (by decide) rfl rfl (fun hc122 => ?_) (fun hc122 => by exfalso; revert hc122; decide)
        refine w_iload X423 (pc' := 132) at_130 rfl rfl ?_
        refine w_iconst X423 (pc' := 133) (3 : Int32) at_132 rfl rfl ?_
        refine w_icmp_lt X423 145 136 at_133 (by decide) rfl rfl (fun hc133 => by exfalso; revert hc133; decide) (fun hc133 => ?_)
        refine w_aload X423 (pc' := 138) at_136 rfl rfl rfl ?_
        refine w_aload X423 (pc' := 140) at_138 rfl rfl rfl ?_
        refine w_ldcW X423 F421_424 (pc' := 142) (text := "v2") [(118 : Int32), (50 : Int32)] 8 at_140 (hw _ (List.mem_of_getElem? (i := 90) rfl)) (own_wS hw) (own_hEL hw) (List.mem_of_getElem? (i := 3) rfl) (by decide) (by decide) (by decide) (by decide) (by decide) (by decide) rfl fun T425 h425 vm425 a425 X425 F425 E425 S425 => ?_
        have S1_426 := S1_424.ext E425
        have S3_426 := S3_424.ext E425
        have S5_426 := S5_424.ext E425
        have S7_426 := S7_424.ext E425
        have B423_426 := B423.ext E425
        refine w_virtualN X425 (pc' := 145) at_142 (rm_push hw (h0 := h425) (sd_size X425) b413 b5 a425 B423_426 (show 2 < 8 by decide) S5_426 S425) (hw _ (List.mem_of_getElem? (i := 84) rfl)) (hw _ (List.mem_of_getElem? (i := 85) rfl)) (hw _ (List.mem_of_getElem? (i := 87) rfl)) (hw _ (List.mem_of_getElem? (i := 86) rfl)) (hw _ (List.mem_of_getElem? (i := 57) rfl)) (hw _ (List.mem_of_getElem? (i := 88) rfl)) B423_426.exa (by decide) [(.ref b5), (.ref a425)] [] pd_16 rfl rfl rfl rfl 0 (Nat.le_refl _) (by decide) (by decide) (by decide) (by decide) rfl fun T427 h427 X427 q427 => ?_
        obtain ⟨⟨ws427, K427, P427⟩, B427⟩ := q427
        have S1_428 := S1_426.keep K427 P427
        have S3_428 := S3_426.keep K427 P427
        have S5_428 := S5_426.keep K427 P427
        have S7_428 := S7_426.keep K427 P427
        have F425_428 := F425.kp X427 K427 P427
        replace B427 : BD Z n0 h427 b413 [(bs1, [(118 : Int32), (48 : Int32)]), (bs3, [(118 : Int32), (49 : Int32)]), (bs5, [(118 : Int32), (50 : Int32)])] 3 0 0 := B427
        refine w_iload X427 (pc' := 147) at_145 rfl rfl ?_
        refine w_iconst X427 (pc' := 148) (3 : Int32) at_147 rfl rfl ?_
        refine w_icmp_ne X427 156 151 at_148 (by decide) rfl rfl (fun hc148 => by exfalso; revert hc148; decide) (fun hc148 => ?_)
        refine w_aload X427 (pc' := 153) at_151 rfl rfl rfl ?_
        refine w_virtualN X427 (pc' := 156) at_153 (rm_open hw (h0 := h427) (sd_size X427) b413 B427) (hw _ (List.mem_of_getElem? (i := 69) rfl)) (hw _ (List.mem_of_getElem? (i := 70) rfl)) (hw _ (List.mem_of_getElem? (i := 72) rfl)) (hw _ (List.mem_of_getElem? (i := 71) rfl)) (hw _ (List.mem_of_getElem? (i := 57) rfl)) (hw _ (List.mem_of_getElem? (i := 73) rfl)) B427.exa (by decide) [] [] pd_14 rfl rfl rfl rfl 0 (Nat.le_refl _) (by decide) (by decide) (by decide) (by decide) rfl fun T429 h429 X429 q429 => ?_
        obtain ⟨⟨ws429, K429, P429⟩, B429⟩ := q429
        have S1_430 := S1_428.keep K429 P429
        have S3_430 := S3_428.keep K429 P429
        have S5_430 := S5_428.keep K429 P429
        have S7_430 := S7_428.keep K429 P429
        have F425_430 := F425_428.kp X429 K429 P429
        replace B429 : BD Z n0 h429 b413 [(bs1, [(118 : Int32), (48 : Int32)]), (bs3, [(118 : Int32), (49 : Int32)]), (bs5, [(118 : Int32), (50 : Int32)])] 3 1 3 := B429
        refine w_iload X429 (pc' := 158) at_156 rfl rfl ?_
        refine w_if_eq X429 166 161 at_158 (by decide) rfl rfl (fun hc158 => ?_) (fun hc158 => by exfalso; revert hc158; decide)
        refine w_iload X429 (pc' := 168) at_166 rfl rfl ?_
        refine w_if_eq X429 176 171 at_168 (by decide) rfl rfl (fun hc168 => ?_) (fun hc168 => by exfalso; revert hc168; decide)
        refine w_iload X429 (pc' := 178) at_176 rfl rfl ?_
        refine w_istore X429 (pc' := 180) (l' := #[.val (.int p1), .val (.int p2), .val (.int p3), .val (.int p4), .val (.int p5), .val (.ref b1), .val (.ref b3), .val (.ref b5), .val (.ref b7), .val (.int (3 : Int32)), .val (.int (3 : Int32)), .val (.int (0 : Int32)), .val (.ref b413), .val (.int (3 : Int32)), .unset, .unset]) at_178 rfl rfl ?_
        refine w_aconst_null X429 (pc' := 181) at_180 rfl ?_
        refine w_astore X429 (pc' := 183) (l' := #[.val (.int p1), .val (.int p2), .val (.int p3), .val (.int p4), .val (.int p5), .val (.ref b1), .val (.ref b3), .val (.ref b5), .val (.ref b7), .val (.int (3 : Int32)), .val (.int (3 : Int32)), .val (.int (0 : Int32)), .val (.ref b413), .val (.int (3 : Int32)), .val .null, .unset]) at_181 rfl rfl rfl ?_
        refine w_iload X429 (pc' := 185) at_183 rfl rfl ?_
        refine w_iconst X429 (pc' := 186) (3 : Int32) at_185 rfl rfl ?_
        refine w_icmp_lt X429 206 189 at_186 (by decide) rfl rfl (fun hc186 => by exfalso; revert hc186; decide) (fun hc186 => ?_)
        refine w_aload X429 (pc' := 191) at_189 rfl rfl rfl ?_
        refine w_aload X429 (pc' := 193) at_191 rfl rfl rfl ?_
        refine w_virtualV X429 (pc' := 196) at_193 (rm_eq hw (h0 := h429) (sd_size X429) b5 b7 S5_430 S7_430 (Sta.ext (sd_ext X429 hs0 Zn) S_c) hzc) (hw _ (List.mem_of_getElem? (i := 91) rfl)) (hw _ (List.mem_of_getElem? (i := 92) rfl)) (hw _ (List.mem_of_getElem? (i := 94) rfl)) (hw _ (List.mem_of_getElem? (i := 93) rfl)) (hw _ (List.mem_of_getElem? (i := 5) rfl)) (hw _ (List.mem_of_getElem? (i := 95) rfl)) S5_430.exa (by decide) [(.ref b7)] [] pd_17 rfl rfl rfl rfl 0 (Nat.le_refl _) (by decide) (by decide) (by decide) (by decide) rfl fun T431 h431 v431 X431 q431 => ?_
        obtain ⟨rfl, rfl⟩ := q431
        refine w_if_eq X431 206 199 at_196 (by decide) rfl rfl (fun hc196 => ?_) (fun hc196 => ?_)
        · skip
          refine w_iload X431 (pc' := 208) at_206 rfl rfl ?_
          refine w_iconst X431 (pc' := 209) (2 : Int32) at_208 rfl rfl ?_
          refine w_icmp_lt X431 229 212 at_209 (by decide) rfl rfl (fun hc209 => by exfalso; revert hc209; decide) (fun hc209 => ?_)
          refine w_aload X431 (pc' := 214) at_212 rfl rfl rfl ?_
          refine w_aload X431 (pc' := 216) at_214 rfl rfl rfl ?_
          refine w_virtualV X431 (pc' := 219) at_216 (rm_eq hw (h0 := h429) (sd_size X431) b3 b7 S3_430 S7_430 (Sta.ext (sd_ext X431 hs0 Zn) S_c) hzc) (hw _ (List.mem_of_getElem? (i := 91) rfl)) (hw _ (List.mem_of_getElem? (i := 92) rfl)) (hw _ (List.mem_of_getElem? (i := 94) rfl)) (hw _ (List.mem_of_getElem? (i := 93) rfl)) (hw _ (List.mem_of_getElem? (i := 5) rfl)) (hw _ (List.mem_of_getElem? (i := 95) rfl)) S3_430.exa (by decide) [(.ref b7)] [] pd_17 rfl rfl rfl rfl 0 (Nat.le_refl _) (by decide) (by decide) (by decide) (by decide) rfl fun T432 h432 v432 X432 q432 => ?_
          obtain ⟨rfl, rfl⟩ := q432
          refine w_if_eq X432 229 222 at_219 (by decide) rfl rfl (fun hc219 => ?_) (fun hc219 => ?_)
          · skip
            refine w_iload X432 (pc' := 231) at_229 rfl rfl ?_
            refine w_iconst X432 (pc' := 232) (1 : Int32) at_231 rfl rfl ?_
            refine w_icmp_lt X432 249 235 at_232 (by decide) rfl rfl (fun hc232 => by exfalso; revert hc232; decide) (fun hc232 => ?_)
            refine w_aload X432 (pc' := 237) at_235 rfl rfl rfl ?_
            refine w_aload X432 (pc' := 239) at_237 rfl rfl rfl ?_
            refine w_virtualV X432 (pc' := 242) at_239 (rm_eq hw (h0 := h429) (sd_size X432) b1 b7 S1_430 S7_430 (Sta.ext (sd_ext X432 hs0 Zn) S_c) hzc) (hw _ (List.mem_of_getElem? (i := 91) rfl)) (hw _ (List.mem_of_getElem? (i := 92) rfl)) (hw _ (List.mem_of_getElem? (i := 94) rfl)) (hw _ (List.mem_of_getElem? (i := 93) rfl)) (hw _ (List.mem_of_getElem? (i := 5) rfl)) (hw _ (List.mem_of_getElem? (i := 95) rfl)) S1_430.exa (by decide) [(.ref b7)] [] pd_17 rfl rfl rfl rfl 0 (Nat.le_refl _) (by decide) (by decide) (by decide) (by decide) rfl fun T433 h433 v433 X433 q433 => ?_
            obtain ⟨rfl, rfl⟩ := q433
            refine w_if_eq X433 249 245 at_242 (by decide) rfl rfl (fun hc242 => ?_) (fun hc242 => ?_)
            · skip
              refine w_aload X433 (pc' := 251) at_249 rfl rfl rfl ?_
              refine w_aload X433 (pc' := 253) at_251 rfl rfl rfl ?_
              refine w_virtualV X433 (pc' := 256) at_253 (rm_vo3 hw (h0 := h429) (sd_size X433) b413 b7 B429 (show 3 ≤ 3 by decide) S7_430 (Sta.ext (sd_ext X433 hs0 Zn) S_c) hzc) (hw _ (List.mem_of_getElem? (i := 78) rfl)) (hw _ (List.mem_of_getElem? (i := 79) rfl)) (hw _ (List.mem_of_getElem? (i := 81) rfl)) (hw _ (List.mem_of_getElem? (i := 80) rfl)) (hw _ (List.mem_of_getElem? (i := 57) rfl)) (hw _ (List.mem_of_getElem? (i := 82) rfl)) B429.exa (by decide) [(.ref b7)] [] pd_15 rfl rfl rfl rfl 0 (Nat.le_refl _) (by decide) (by decide) (by decide) (by decide) rfl fun T434 h434 v434 X434 q434 => ?_
              have hv : own_val [(bs1, [(118 : Int32), (48 : Int32)]), (bs3, [(118 : Int32), (49 : Int32)]), (bs5, [(118 : Int32), (50 : Int32)])] bs7 3 = none := (own_vn (es := [(bs1, [(118 : Int32), (48 : Int32)]), (bs3, [(118 : Int32), (49 : Int32)]), (bs5, [(118 : Int32), (50 : Int32)])]) (q := bs7) 2 (show ¬ bs5 = bs7 from own_if0 hc196)).trans ((own_vn (es := [(bs1, [(118 : Int32), (48 : Int32)]), (bs3, [(118 : Int32), (49 : Int32)]), (bs5, [(118 : Int32), (50 : Int32)])]) (q := bs7) 1 (show ¬ bs3 = bs7 from own_if0 hc219)).trans ((own_vn (es := [(bs1, [(118 : Int32), (48 : Int32)]), (bs3, [(118 : Int32), (49 : Int32)]), (bs5, [(118 : Int32), (50 : Int32)])]) (q := bs7) 0 (show ¬ bs1 = bs7 from own_if0 hc242)).trans (rfl)))
              obtain ⟨hq, rfl⟩ := q434
              rcases hq with ⟨rfl, -⟩ | ⟨r, bs, rfl, Sr, hr⟩
              rotate_left
              · exact absurd (hr.symm.trans hv) (by simp)
              refine w_astore X434 (pc' := 258) (l' := #[.val (.int p1), .val (.int p2), .val (.int p3), .val (.int p4), .val (.int p5), .val (.ref b1), .val (.ref b3), .val (.ref b5), .val (.ref b7), .val (.int (3 : Int32)), .val (.int (3 : Int32)), .val (.int (0 : Int32)), .val (.ref b413), .val (.int (3 : Int32)), .val .null, .val .null]) at_256 rfl rfl rfl ?_
              refine w_aload X434 (pc' := 260) at_258 rfl rfl rfl ?_
              refine w_ifnonnullN X434 (pc' := 263) at_260 rfl ?_
              refine w_aload X434 (pc' := 265) at_263 rfl rfl rfl ?_
              refine w_ifnonnullN X434 (pc' := 268) at_265 rfl ?_
              refine w_iconst X434 (pc' := 269) (1 : Int32) at_268 rfl rfl ?_
              refine w_goto X434 (pc' := 273) at_269 (by decide) rfl ?_
              exact w_zreturnW X434 F425_430 (own_hEL hw) at_273 rfl (by decide) (by decide)
            · skip
              refine w_ldcW X433 F425_430 (pc' := 247) (text := "v0") [(118 : Int32), (48 : Int32)] 8 at_245 (hw _ (List.mem_of_getElem? (i := 83) rfl)) (own_wS hw) (own_hEL hw) (List.mem_of_getElem? (i := 1) rfl) (by decide) (by decide) (by decide) (by decide) (by decide) (by decide) rfl fun T435 h435 vm435 a435 X435 F435 E435 S435 => ?_
              have S1_436 := S1_430.ext E435
              have S3_436 := S3_430.ext E435
              have S5_436 := S5_430.ext E435
              have S7_436 := S7_430.ext E435
              have B429_436 := B429.ext E435
              refine w_astore X435 (pc' := 249) (l' := #[.val (.int p1), .val (.int p2), .val (.int p3), .val (.int p4), .val (.int p5), .val (.ref b1), .val (.ref b3), .val (.ref b5), .val (.ref b7), .val (.int (3 : Int32)), .val (.int (3 : Int32)), .val (.int (0 : Int32)), .val (.ref b413), .val (.int (3 : Int32)), .val (.ref a435), .unset]) at_247 rfl rfl rfl ?_
              refine w_aload X435 (pc' := 251) at_249 rfl rfl rfl ?_
              refine w_aload X435 (pc' := 253) at_251 rfl rfl rfl ?_
              refine w_virtualV X435 (pc' := 256) at_253 (rm_vo3 hw (h0 := h435) (sd_size X435) b413 b7 B429_436 (show 3 ≤ 3 by decide) S7_436 (Sta.ext (sd_ext X435 hs0 Zn) S_c) hzc) (hw _ (List.mem_of_getElem? (i := 78) rfl)) (hw _ (List.mem_of_getElem? (i := 79) rfl)) (hw _ (List.mem_of_getElem? (i := 81) rfl)) (hw _ (List.mem_of_getElem? (i := 80) rfl)) (hw _ (List.mem_of_getElem? (i := 57) rfl)) (hw _ (List.mem_of_getElem? (i := 82) rfl)) B429_436.exa (by decide) [(.ref b7)] [] pd_15 rfl rfl rfl rfl 0 (Nat.le_refl _) (by decide) (by decide) (by decide) (by decide) rfl fun T437 h437 v437 X437 q437 => ?_
              have hv : own_val [(bs1, [(118 : Int32), (48 : Int32)]), (bs3, [(118 : Int32), (49 : Int32)]), (bs5, [(118 : Int32), (50 : Int32)])] bs7 3 = some [(118 : Int32), (48 : Int32)] := (own_vn (es := [(bs1, [(118 : Int32), (48 : Int32)]), (bs3, [(118 : Int32), (49 : Int32)]), (bs5, [(118 : Int32), (50 : Int32)])]) (q := bs7) 2 (show ¬ bs5 = bs7 from own_if0 hc196)).trans ((own_vn (es := [(bs1, [(118 : Int32), (48 : Int32)]), (bs3, [(118 : Int32), (49 : Int32)]), (bs5, [(118 : Int32), (50 : Int32)])]) (q := bs7) 1 (show ¬ bs3 = bs7 from own_if0 hc219)).trans (own_vp (es := [(bs1, [(118 : Int32), (48 : Int32)]), (bs3, [(118 : Int32), (49 : Int32)]), (bs5, [(118 : Int32), (50 : Int32)])]) (q := bs7) 0 (show bs1 = bs7 from own_if1 hc242)))
              obtain ⟨hq, rfl⟩ := q437
              rcases hq with ⟨rfl, hr⟩ | ⟨r, bs, rfl, Sr, hr⟩
              · exact absurd (hr.symm.trans hv) (by simp)
              obtain rfl : bs = [(118 : Int32), (48 : Int32)] := Option.some.inj (hr.symm.trans hv)
              refine w_astore X437 (pc' := 258) (l' := #[.val (.int p1), .val (.int p2), .val (.int p3), .val (.int p4), .val (.int p5), .val (.ref b1), .val (.ref b3), .val (.ref b5), .val (.ref b7), .val (.int (3 : Int32)), .val (.int (3 : Int32)), .val (.int (0 : Int32)), .val (.ref b413), .val (.int (3 : Int32)), .val (.ref a435), .val (.ref r)]) at_256 rfl rfl rfl ?_
              refine w_aload X437 (pc' := 260) at_258 rfl rfl rfl ?_
              refine w_ifnonnullY X437 (pc' := 274) at_260 (by decide) rfl ?_
              refine w_aload X437 (pc' := 276) at_274 rfl rfl rfl ?_
              refine w_aload X437 (pc' := 278) at_276 rfl rfl rfl ?_
              refine w_virtualV X437 (pc' := 281) at_278 (rm_eq hw (h0 := h435) (sd_size X437) a435 r S435 Sr (Sta.ext (sd_ext X437 hs0 Zn) S_c) hzc) (hw _ (List.mem_of_getElem? (i := 91) rfl)) (hw _ (List.mem_of_getElem? (i := 92) rfl)) (hw _ (List.mem_of_getElem? (i := 94) rfl)) (hw _ (List.mem_of_getElem? (i := 93) rfl)) (hw _ (List.mem_of_getElem? (i := 5) rfl)) (hw _ (List.mem_of_getElem? (i := 95) rfl)) S435.exa (by decide) [(.ref r)] [] pd_17 rfl rfl rfl rfl 0 (Nat.le_refl _) (by decide) (by decide) (by decide) (by decide) rfl fun T438 h438 v438 X438 q438 => ?_
              obtain ⟨rfl, rfl⟩ := q438
              exact w_zreturnW X438 F435 (own_hEL hw) at_281 (by rw [if_pos rfl]; rfl) (by decide) (by decide)
          · skip
            refine w_ldcW X432 F425_430 (pc' := 224) (text := "v1") [(118 : Int32), (49 : Int32)] 8 at_222 (hw _ (List.mem_of_getElem? (i := 89) rfl)) (own_wS hw) (own_hEL hw) (List.mem_of_getElem? (i := 2) rfl) (by decide) (by decide) (by decide) (by decide) (by decide) (by decide) rfl fun T439 h439 vm439 a439 X439 F439 E439 S439 => ?_
            have S1_440 := S1_430.ext E439
            have S3_440 := S3_430.ext E439
            have S5_440 := S5_430.ext E439
            have S7_440 := S7_430.ext E439
            have B429_440 := B429.ext E439
            refine w_astore X439 (pc' := 226) (l' := #[.val (.int p1), .val (.int p2), .val (.int p3), .val (.int p4), .val (.int p5), .val (.ref b1), .val (.ref b3), .val (.ref b5), .val (.ref b7), .val (.int (3 : Int32)), .val (.int (3 : Int32)), .val (.int (0 : Int32)), .val (.ref b413), .val (.int (3 : Int32)), .val (.ref a439), .unset]) at_224 rfl rfl rfl ?_
            refine w_goto X439 (pc' := 249) at_226 (by decide) rfl ?_
            refine w_aload X439 (pc' := 251) at_249 rfl rfl rfl ?_
            refine w_aload X439 (pc' := 253) at_251 rfl rfl rfl ?_
            refine w_virtualV X439 (pc' := 256) at_253 (rm_vo3 hw (h0 := h439) (sd_size X439) b413 b7 B429_440 (show 3 ≤ 3 by decide) S7_440 (Sta.ext (sd_ext X439 hs0 Zn) S_c) hzc) (hw _ (List.mem_of_getElem? (i := 78) rfl)) (hw _ (List.mem_of_getElem? (i := 79) rfl)) (hw _ (List.mem_of_getElem? (i := 81) rfl)) (hw _ (List.mem_of_getElem? (i := 80) rfl)) (hw _ (List.mem_of_getElem? (i := 57) rfl)) (hw _ (List.mem_of_getElem? (i := 82) rfl)) B429_440.exa (by decide) [(.ref b7)] [] pd_15 rfl rfl rfl rfl 0 (Nat.le_refl _) (by decide) (by decide) (by decide) (by decide) rfl fun T441 h441 v441 X441 q441 => ?_
            have hv : own_val [(bs1, [(118 : Int32), (48 : Int32)]), (bs3, [(118 : Int32), (49 : Int32)]), (bs5, [(118 : Int32), (50 : Int32)])] bs7 3 = some [(118 : Int32), (49 : Int32)] := (own_vn (es := [(bs1, [(118 : Int32), (48 : Int32)]), (bs3, [(118 : Int32), (49 : Int32)]), (bs5, [(118 : Int32), (50 : Int32)])]) (q := bs7) 2 (show ¬ bs5 = bs7 from own_if0 hc196)).trans (own_vp (es := [(bs1, [(118 : Int32), (48 : Int32)]), (bs3, [(118 : Int32), (49 : Int32)]), (bs5, [(118 : Int32), (50 : Int32)])]) (q := bs7) 1 (show bs3 = bs7 from own_if1 hc219))
            obtain ⟨hq, rfl⟩ := q441
            rcases hq with ⟨rfl, hr⟩ | ⟨r, bs, rfl, Sr, hr⟩
            · exact absurd (hr.symm.trans hv) (by simp)
            obtain rfl : bs = [(118 : Int32), (49 : Int32)] := Option.some.inj (hr.symm.trans hv)
            refine w_astore X441 (pc' := 258) (l' := #[.val (.int p1), .val (.int p2), .val (.int p3), .val (.int p4), .val (.int p5), .val (.ref b1), .val (.ref b3), .val (.ref b5), .val (.ref b7), .val (.int (3 : Int32)), .val (.int (3 : Int32)), .val (.int (0 : Int32)), .val (.ref b413), .val (.int (3 : Int32)), .val (.ref a439), .val (.ref r)]) at_256 rfl rfl rfl ?_
            refine w_aload X441 (pc' := 260) at_258 rfl rfl rfl ?_
            refine w_ifnonnullY X441 (pc' := 274) at_260 (by decide) rfl ?_
            refine w_aload X441 (pc' := 276) at_274 rfl rfl rfl ?_
            refine w_aload X441 (pc' := 278) at_276 rfl rfl rfl ?_
            refine w_virtualV X441 (pc' := 281) at_278 (rm_eq hw (h0 := h439) (sd_size X441) a439 r S439 Sr (Sta.ext (sd_ext X441 hs0 Zn) S_c) hzc) (hw _ (List.mem_of_getElem? (i := 91) rfl)) (hw _ (List.mem_of_getElem? (i := 92) rfl)) (hw _ (List.mem_of_getElem? (i := 94) rfl)) (hw _ (List.mem_of_getElem? (i := 93) rfl)) (hw _ (List.mem_of_getElem? (i := 5) rfl)) (hw _ (List.mem_of_getElem? (i := 95) rfl)) S439.exa (by decide) [(.ref r)] [] pd_17 rfl rfl rfl rfl 0 (Nat.le_refl _) (by decide) (by decide) (by decide) (by decide) rfl fun T442 h442 v442 X442 q442 => ?_
            obtain ⟨rfl, rfl⟩ := q442
            exact w_zreturnW X442 F439 (own_hEL hw) at_281 (by rw [if_pos rfl]; rfl) (by decide) (by decide)
        · skip
          refine w_ldcW X431 F425_430 (pc' := 201) (text := "v2") [(118 : Int32), (50 : Int32)] 8 at_199 (hw _ (List.mem_of_getElem? (i := 90) rfl)) (own_wS hw) (own_hEL hw) (List.mem_of_getElem? (i := 3) rfl) (by decide) (by decide) (by decide) (by decide) (by decide) (by decide) rfl fun T443 h443 vm443 a443 X443 F443 E443 S443 => ?_
          have S1_444 := S1_430.ext E443
          have S3_444 := S3_430.ext E443
          have S5_444 := S5_430.ext E443
          have S7_444 := S7_430.ext E443
          have B429_444 := B429.ext E443
          refine w_astore X443 (pc' := 203) (l' := #[.val (.int p1), .val (.int p2), .val (.int p3), .val (.int p4), .val (.int p5), .val (.ref b1), .val (.ref b3), .val (.ref b5), .val (.ref b7), .val (.int (3 : Int32)), .val (.int (3 : Int32)), .val (.int (0 : Int32)), .val (.ref b413), .val (.int (3 : Int32)), .val (.ref a443), .unset]) at_201 rfl rfl rfl ?_
          refine w_goto X443 (pc' := 249) at_203 (by decide) rfl ?_
          refine w_aload X443 (pc' := 251) at_249 rfl rfl rfl ?_
          refine w_aload X443 (pc' := 253) at_251 rfl rfl rfl ?_
          refine w_virtualV X443 (pc' := 256) at_253 (rm_vo3 hw (h0 := h443) (sd_size X443) b413 b7 B429_444 (show 3 ≤ 3 by decide) S7_444 (Sta.ext (sd_ext X443 hs0 Zn) S_c) hzc) (hw _ (List.mem_of_getElem? (i := 78) rfl)) (hw _ (List.mem_of_getElem? (i := 79) rfl)) (hw _ (List.mem_of_getElem? (i := 81) rfl)) (hw _ (List.mem_of_getElem? (i := 80) rfl)) (hw _ (List.mem_of_getElem? (i := 57) rfl)) (hw _ (List.mem_of_getElem? (i := 82) rfl)) B429_444.exa (by decide) [(.ref b7)] [] pd_15 rfl rfl rfl rfl 0 (Nat.le_refl _) (by decide) (by decide) (by decide) (by decide) rfl fun T445 h445 v445 X445 q445 => ?_
          have hv : own_val [(bs1, [(118 : Int32), (48 : Int32)]), (bs3, [(118 : Int32), (49 : Int32)]), (bs5, [(118 : Int32), (50 : Int32)])] bs7 3 = some [(118 : Int32), (50 : Int32)] := own_vp (es := [(bs1, [(118 : Int32), (48 : Int32)]), (bs3, [(118 : Int32), (49 : Int32)]), (bs5, [(118 : Int32), (50 : Int32)])]) (q := bs7) 2 (show bs5 = bs7 from own_if1 hc196)
          obtain ⟨hq, rfl⟩ := q445
          rcases hq with ⟨rfl, hr⟩ | ⟨r, bs, rfl, Sr, hr⟩
          · exact absurd (hr.symm.trans hv) (by simp)
          obtain rfl : bs = [(118 : Int32), (50 : Int32)] := Option.some.inj (hr.symm.trans hv)
          refine w_astore X445 (pc' := 258) (l' := #[.val (.int p1), .val (.int p2), .val (.int p3), .val (.int p4), .val (.int p5), .val (.ref b1), .val (.ref b3), .val (.ref b5), .val (.ref b7), .val (.int (3 : Int32)), .val (.int (3 : Int32)), .val (.int (0 : Int32)), .val (.ref b413), .val (.int (3 : Int32)), .val (.ref a443), .val (.ref r)]) at_256 rfl rfl rfl ?_
          refine w_aload X445 (pc' := 260) at_258 rfl rfl rfl ?_
          refine w_ifnonnullY X445 (pc' := 274) at_260 (by decide) rfl ?_
          refine w_aload X445 (pc' := 276) at_274 rfl rfl rfl ?_
          refine w_aload X445 (pc' := 278) at_276 rfl rfl rfl ?_
          refine w_virtualV X445 (pc' := 281) at_278 (rm_eq hw (h0 := h443) (sd_size X445) a443 r S443 Sr (Sta.ext (sd_ext X445 hs0 Zn) S_c) hzc) (hw _ (List.mem_of_getElem? (i := 91) rfl)) (hw _ (List.mem_of_getElem? (i := 92) rfl)) (hw _ (List.mem_of_getElem? (i := 94) rfl)) (hw _ (List.mem_of_getElem? (i := 93) rfl)) (hw _ (List.mem_of_getElem? (i := 5) rfl)) (hw _ (List.mem_of_getElem? (i := 95) rfl)) S443.exa (by decide) [(.ref r)] [] pd_17 rfl rfl rfl rfl 0 (Nat.le_refl _) (by decide) (by decide) (by decide) (by decide) rfl fun T446 h446 v446 X446 q446 => ?_
          obtain ⟨rfl, rfl⟩ := q446
          exact w_zreturnW X446 F443 (own_hEL hw) at_281 (by rw [if_pos rfl]; rfl) (by decide) (by decide)
      · skip
        refine w_iconst X232 (pc' := 53) (1 : Int32) at_52 rfl rfl ?_
        refine w_goto X232 (pc' := 57) at_53 (by decide) rfl ?_
        refine w_istore X232 (pc' := 59) (l' := #[.val (.int p1), .val (.int p2), .val (.int p3), .val (.int p4), .val (.int p5), .val (.ref b1), .val (.ref b3), .val (.ref b5), .val (.ref b7), .val (.int (3 : Int32)), .val (.int (3 : Int32)), .val (.int (1 : Int32)), .unset, .unset, .unset, .unset]) at_57 rfl rfl ?_
        refine w_new X232 (pc' := 62) at_59 (hw _ (List.mem_of_getElem? (i := 55) rfl)) (hw _ (List.mem_of_getElem? (i := 56) rfl)) (hw _ (List.mem_of_getElem? (i := 57) rfl)) (by decide) (by decide) rfl fun T447 h447 b447 g447 gn447 X447 E447 A447 D447 => ?_
        have sf_b447 := F7.safe_new E447 g447
        have S1_448 := S1_8.ext E447
        have S3_448 := S3_8.ext E447
        have S5_448 := S5_8.ext E447
        have S7_448 := S7.ext E447
        have F7_448 := F7.ext E447
        have Fpairs_447 : Fld Z h447 b447 "com/example/raja/raja/xml/CanonicalWriter$Bindings" "pairs" "[Ljava/lang/String;" .null := D447 (Or.inl (hw _ (List.mem_of_getElem? (i := 65) rfl))) (ty := (.array (.object "java/lang/String"))) (by decide)
        have Fmarks_447 : Fld Z h447 b447 "com/example/raja/raja/xml/CanonicalWriter$Bindings" "marks" "[I" .null := D447 (Or.inl (hw _ (List.mem_of_getElem? (i := 68) rfl))) (ty := (.array .int)) (by decide)
        have Fdepth_447 : Fld Z h447 b447 "com/example/raja/raja/xml/CanonicalWriter$Bindings" "depth" "I" (.int (0 : Int32)) := D447 (Or.inl (hw _ (List.mem_of_getElem? (i := 75) rfl))) (ty := .int) (by decide)
        have Fsize_447 : Fld Z h447 b447 "com/example/raja/raja/xml/CanonicalWriter$Bindings" "size" "I" (.int (0 : Int32)) := D447 (Or.inl (hw _ (List.mem_of_getElem? (i := 77) rfl))) (ty := .int) (by decide)
        refine w_dup X447 (pc' := 63) at_62 rfl rfl ?_
        refine w_specialN X447 (pc' := 66) at_63 (rm_init hw (h0 := h447) (sd_size X447) b447 A447 Fpairs_447 Fmarks_447 Fsize_447 Fdepth_447 gn447) (hw _ (List.mem_of_getElem? (i := 58) rfl)) (hw _ (List.mem_of_getElem? (i := 59) rfl)) (hw _ (List.mem_of_getElem? (i := 57) rfl)) (hw _ (List.mem_of_getElem? (i := 60) rfl)) rfl (by decide) [] [(.ref b447)] pd_13 rfl rfl rfl rfl 1 (Nat.le_refl _) (by decide) (by decide) (by decide) (by decide) rfl fun T449 h449 X449 q449 => ?_
        obtain ⟨K449, B449⟩ := q449
        have S1_450 := S1_448.keep K449 (ap1 (Apart.obj A447 (hw _ (List.mem_of_getElem? (i := 56) rfl)) (by decide) (by decide)))
        have S3_450 := S3_448.keep K449 (ap1 (Apart.obj A447 (hw _ (List.mem_of_getElem? (i := 56) rfl)) (by decide) (by decide)))
        have S5_450 := S5_448.keep K449 (ap1 (Apart.obj A447 (hw _ (List.mem_of_getElem? (i := 56) rfl)) (by decide) (by decide)))
        have S7_450 := S7_448.keep K449 (ap1 (Apart.obj A447 (hw _ (List.mem_of_getElem? (i := 56) rfl)) (by decide) (by decide)))
        have F7_450 := F7_448.kp X449 K449 (ap1 (Apart.obj A447 (hw _ (List.mem_of_getElem? (i := 56) rfl)) (by decide) (by decide)))
        have A447_450 := A447.keep K449
        refine w_astore X449 (pc' := 68) (l' := #[.val (.int p1), .val (.int p2), .val (.int p3), .val (.int p4), .val (.int p5), .val (.ref b1), .val (.ref b3), .val (.ref b5), .val (.ref b7), .val (.int (3 : Int32)), .val (.int (3 : Int32)), .val (.int (1 : Int32)), .val (.ref b447), .unset, .unset, .unset]) at_66 rfl rfl rfl ?_
        refine w_iload X449 (pc' := 70) at_68 rfl rfl ?_
        refine w_if_ne X449 78 73 at_70 (by decide) rfl rfl (fun hc70 => ?_) (fun hc70 => by exfalso; revert hc70; decide)
        refine w_iload X449 (pc' := 80) at_78 rfl rfl ?_
        refine w_iconst X449 (pc' := 81) (1 : Int32) at_80 rfl rfl ?_
        refine w_icmp_lt X449 93 84 at_81 (by decide) rfl rfl (fun hc81 => by exfalso; revert hc81; decide) (fun hc81 => ?_)
        refine w_aload X449 (pc' := 86) at_84 rfl rfl rfl ?_
        refine w_aload X449 (pc' := 88) at_86 rfl rfl rfl ?_
        refine w_ldcW X449 F7_450 (pc' := 90) (text := "v0") [(118 : Int32), (48 : Int32)] 8 at_88 (hw _ (List.mem_of_getElem? (i := 83) rfl)) (own_wS hw) (own_hEL hw) (List.mem_of_getElem? (i := 1) rfl) (by decide) (by decide) (by decide) (by decide) (by decide) (by decide) rfl fun T451 h451 vm451 a451 X451 F451 E451 S451 => ?_
        have S1_452 := S1_450.ext E451
        have S3_452 := S3_450.ext E451
        have S5_452 := S5_450.ext E451
        have S7_452 := S7_450.ext E451
        have B449_452 := B449.ext E451
        refine w_virtualN X451 (pc' := 93) at_90 (rm_push hw (h0 := h451) (sd_size X451) b447 b1 a451 B449_452 (show 0 < 8 by decide) S1_452 S451) (hw _ (List.mem_of_getElem? (i := 84) rfl)) (hw _ (List.mem_of_getElem? (i := 85) rfl)) (hw _ (List.mem_of_getElem? (i := 87) rfl)) (hw _ (List.mem_of_getElem? (i := 86) rfl)) (hw _ (List.mem_of_getElem? (i := 57) rfl)) (hw _ (List.mem_of_getElem? (i := 88) rfl)) B449_452.exa (by decide) [(.ref b1), (.ref a451)] [] pd_16 rfl rfl rfl rfl 0 (Nat.le_refl _) (by decide) (by decide) (by decide) (by decide) rfl fun T453 h453 X453 q453 => ?_
        obtain ⟨⟨ws453, K453, P453⟩, B453⟩ := q453
        have S1_454 := S1_452.keep K453 P453
        have S3_454 := S3_452.keep K453 P453
        have S5_454 := S5_452.keep K453 P453
        have S7_454 := S7_452.keep K453 P453
        have F451_454 := F451.kp X453 K453 P453
        replace B453 : BD Z n0 h453 b447 [(bs1, [(118 : Int32), (48 : Int32)])] 1 0 0 := B453
        refine w_iload X453 (pc' := 95) at_93 rfl rfl ?_
        refine w_iconst X453 (pc' := 96) (1 : Int32) at_95 rfl rfl ?_
        refine w_icmp_ne X453 104 99 at_96 (by decide) rfl rfl (fun hc96 => ?_) (fun hc96 => by exfalso; revert hc96; decide)
        refine w_iload X453 (pc' := 106) at_104 rfl rfl ?_
        refine w_iconst X453 (pc' := 107) (2 : Int32) at_106 rfl rfl ?_
        refine w_icmp_lt X453 119 110 at_107 (by decide) rfl rfl (fun hc107 => by exfalso; revert hc107; decide) (fun hc107 => ?_)
        refine w_aload X453 (pc' := 112) at_110 rfl rfl rfl ?_
        refine w_aload X453 (pc' := 114) at_112 rfl rfl rfl ?_
        refine w_ldcW X453 F451_454 (pc' := 116) (text := "v1") [(118 : Int32), (49 : Int32)] 8 at_114 (hw _ (List.mem_of_getElem? (i := 89) rfl)) (own_wS hw) (own_hEL hw) (List.mem_of_getElem? (i := 2) rfl) (by decide) (by decide) (by decide) (by decide) (by decide) (by decide) rfl fun T455 h455 vm455 a455 X455 F455 E455 S455 => ?_
        have S1_456 := S1_454.ext E455
        have S3_456 := S3_454.ext E455
        have S5_456 := S5_454.ext E455
        have S7_456 := S7_454.ext E455
        have B453_456 := B453.ext E455
        refine w_virtualN X455 (pc' := 119) at_116 (rm_push hw (h0 := h455) (sd_size X455) b447 b3 a455 B453_456 (show 1 < 8 by decide) S3_456 S455) (hw _ (List.mem_of_getElem? (i := 84) rfl)) (hw _ (List.mem_of_getElem? (i := 85) rfl)) (hw _ (List.mem_of_getElem? (i := 87) rfl)) (hw _ (List.mem_of_getElem? (i := 86) rfl)) (hw _ (List.mem_of_getElem? (i := 57) rfl)) (hw _ (List.mem_of_getElem? (i := 88) rfl)) B453_456.exa (by decide) [(.ref b3), (.ref a455)] [] pd_16 rfl rfl rfl rfl 0 (Nat.le_refl _) (by decide) (by decide) (by decide) (by decide) rfl fun T457 h457 X457 q457 => ?_
        obtain ⟨⟨ws457, K457, P457⟩, B457⟩ := q457
        have S1_458 := S1_456.keep K457 P457
        have S3_458 := S3_456.keep K457 P457
        have S5_458 := S5_456.keep K457 P457
        have S7_458 := S7_456.keep K457 P457
        have F455_458 := F455.kp X457 K457 P457
        replace B457 : BD Z n0 h457 b447 [(bs1, [(118 : Int32), (48 : Int32)]), (bs3, [(118 : Int32), (49 : Int32)])] 2 0 0 := B457
        refine w_iload X457 (pc' := 121) at_119 rfl rfl ?_
        refine w_iconst X457 (pc' := 122) (2 : Int32) at_121 rfl rfl ?_
        refine w_icmp_ne X457 130 125 at_122 (by decide) rfl rfl (fun hc122 => ?_) (fun hc122 => by exfalso; revert hc122; decide)
        refine w_iload X457 (pc' := 132) at_130 rfl rfl ?_
        refine w_iconst X457 (pc' := 133) (3 : Int32) at_132 rfl rfl ?_
        refine w_icmp_lt X457 145 136 at_133 (by decide) rfl rfl (fun hc133 => by exfalso; revert hc133; decide) (fun hc133 => ?_)
        refine w_aload X457 (pc' := 138) at_136 rfl rfl rfl ?_
        refine w_aload X457 (pc' := 140) at_138 rfl rfl rfl ?_
        refine w_ldcW X457 F455_458 (pc' := 142) (text := "v2") [(118 : Int32), (50 : Int32)] 8 at_140 (hw _ (List.mem_of_getElem? (i := 90) rfl)) (own_wS hw) (own_hEL hw) (List.mem_of_getElem? (i := 3) rfl) (by decide) (by decide) (by decide) (by decide) (by decide) (by decide) rfl fun T459 h459 vm459 a459 X459 F459 E459 S459 => ?_
        have S1_460 := S1_458.ext E459
        have S3_460 := S3_458.ext E459
        have S5_460 := S5_458.ext E459
        have S7_460 := S7_458.ext E459
        have B457_460 := B457.ext E459
        refine w_virtualN X459 (pc' := 145) at_142 (rm_push hw (h0 := h459) (sd_size X459) b447 b5 a459 B457_460 (show 2 < 8 by decide) S5_460 S459) (hw _ (List.mem_of_getElem? (i := 84) rfl)) (hw _ (List.mem_of_getElem? (i := 85) rfl)) (hw _ (List.mem_of_getElem? (i := 87) rfl)) (hw _ (List.mem_of_getElem? (i := 86) rfl)) (hw _ (List.mem_of_getElem? (i := 57) rfl)) (hw _ (List.mem_of_getElem? (i := 88) rfl)) B457_460.exa (by decide) [(.ref b5), (.ref a459)] [] pd_16 rfl rfl rfl rfl 0 (Nat.le_refl _) (by decide) (by decide) (by decide) (by decide) rfl fun T461 h461 X461 q461 => ?_
        obtain ⟨⟨ws461, K461, P461⟩, B461⟩ := q461
        have S1_462 := S1_460.keep K461 P461
        have S3_462 := S3_460.keep K461 P461
        have S5_462 := S5_460.keep K461 P461
        have S7_462 := S7_460.keep K461 P461
        have F459_462 := F459.kp X461 K461 P461
        replace B461 : BD Z n0 h461 b447 [(bs1, [(118 : Int32), (48 : Int32)]), (bs3, [(118 : Int32), (49 : Int32)]), (bs5, [(118 : Int32), (50 : Int32)])] 3 0 0 := B461
        refine w_iload X461 (pc' := 147) at_145 rfl rfl ?_
        refine w_iconst X461 (pc' := 148) (3 : Int32) at_147 rfl rfl ?_
        refine w_icmp_ne X461 156 151 at_148 (by decide) rfl rfl (fun hc148 => by exfalso; revert hc148; decide) (fun hc148 => ?_)
        refine w_aload X461 (pc' := 153) at_151 rfl rfl rfl ?_
        refine w_virtualN X461 (pc' := 156) at_153 (rm_open hw (h0 := h461) (sd_size X461) b447 B461) (hw _ (List.mem_of_getElem? (i := 69) rfl)) (hw _ (List.mem_of_getElem? (i := 70) rfl)) (hw _ (List.mem_of_getElem? (i := 72) rfl)) (hw _ (List.mem_of_getElem? (i := 71) rfl)) (hw _ (List.mem_of_getElem? (i := 57) rfl)) (hw _ (List.mem_of_getElem? (i := 73) rfl)) B461.exa (by decide) [] [] pd_14 rfl rfl rfl rfl 0 (Nat.le_refl _) (by decide) (by decide) (by decide) (by decide) rfl fun T463 h463 X463 q463 => ?_
        obtain ⟨⟨ws463, K463, P463⟩, B463⟩ := q463
        have S1_464 := S1_462.keep K463 P463
        have S3_464 := S3_462.keep K463 P463
        have S5_464 := S5_462.keep K463 P463
        have S7_464 := S7_462.keep K463 P463
        have F459_464 := F459_462.kp X463 K463 P463
        replace B463 : BD Z n0 h463 b447 [(bs1, [(118 : Int32), (48 : Int32)]), (bs3, [(118 : Int32), (49 : Int32)]), (bs5, [(118 : Int32), (50 : Int32)])] 3 1 3 := B463
        refine w_iload X463 (pc' := 158) at_156 rfl rfl ?_
        refine w_if_eq X463 166 161 at_158 (by decide) rfl rfl (fun hc158 => by exfalso; revert hc158; decide) (fun hc158 => ?_)
        refine w_aload X463 (pc' := 163) at_161 rfl rfl rfl ?_
        refine w_virtualN X463 (pc' := 166) at_163 (rm_close hw (h0 := h463) (sd_size X463) b447 B463) (hw _ (List.mem_of_getElem? (i := 100) rfl)) (hw _ (List.mem_of_getElem? (i := 101) rfl)) (hw _ (List.mem_of_getElem? (i := 103) rfl)) (hw _ (List.mem_of_getElem? (i := 102) rfl)) (hw _ (List.mem_of_getElem? (i := 57) rfl)) (hw _ (List.mem_of_getElem? (i := 104) rfl)) B463.exa (by decide) [] [] pd_19 rfl rfl rfl rfl 0 (Nat.le_refl _) (by decide) (by decide) (by decide) (by decide) rfl fun T465 h465 X465 q465 => ?_
        obtain ⟨⟨ws465, K465, P465⟩, B465⟩ := q465
        have S1_466 := S1_464.keep K465 P465
        have S3_466 := S3_464.keep K465 P465
        have S5_466 := S5_464.keep K465 P465
        have S7_466 := S7_464.keep K465 P465
        have F459_466 := F459_464.kp X465 K465 P465
        replace B465 : BD Z n0 h465 b447 [(bs1, [(118 : Int32), (48 : Int32)]), (bs3, [(118 : Int32), (49 : Int32)]), (bs5, [(118 : Int32), (50 : Int32)])] 3 0 3 := B465
        refine w_iload X465 (pc' := 168) at_166 rfl rfl ?_
        refine w_if_eq X465 176 171 at_168 (by decide) rfl rfl (fun hc168 => by exfalso; revert hc168; decide) (fun hc168 => ?_)
        refine w_iload X465 (pc' := 173) at_171 rfl rfl ?_
        refine w_goto X465 (pc' := 178) at_173 (by decide) rfl ?_
        refine w_istore X465 (pc' := 180) (l' := #[.val (.int p1), .val (.int p2), .val (.int p3), .val (.int p4), .val (.int p5), .val (.ref b1), .val (.ref b3), .val (.ref b5), .val (.ref b7), .val (.int (3 : Int32)), .val (.int (3 : Int32)), .val (.int (1 : Int32)), .val (.ref b447), .val (.int (3 : Int32)), .unset, .unset]) at_178 rfl rfl ?_
        refine w_aconst_null X465 (pc' := 181) at_180 rfl ?_
        refine w_astore X465 (pc' := 183) (l' := #[.val (.int p1), .val (.int p2), .val (.int p3), .val (.int p4), .val (.int p5), .val (.ref b1), .val (.ref b3), .val (.ref b5), .val (.ref b7), .val (.int (3 : Int32)), .val (.int (3 : Int32)), .val (.int (1 : Int32)), .val (.ref b447), .val (.int (3 : Int32)), .val .null, .unset]) at_181 rfl rfl rfl ?_
        refine w_iload X465 (pc' := 185) at_183 rfl rfl ?_
        refine w_iconst X465 (pc' := 186) (3 : Int32) at_185 rfl rfl ?_
        refine w_icmp_lt X465 206 189 at_186 (by decide) rfl rfl (fun hc186 => by exfalso; revert hc186; decide) (fun hc186 => ?_)
        refine w_aload X465 (pc' := 191) at_189 rfl rfl rfl ?_
        refine w_aload X465 (pc' := 193) at_191 rfl rfl rfl ?_
        refine w_virtualV X465 (pc' := 196) at_193 (rm_eq hw (h0 := h465) (sd_size X465) b5 b7 S5_466 S7_466 (Sta.ext (sd_ext X465 hs0 Zn) S_c) hzc) (hw _ (List.mem_of_getElem? (i := 91) rfl)) (hw _ (List.mem_of_getElem? (i := 92) rfl)) (hw _ (List.mem_of_getElem? (i := 94) rfl)) (hw _ (List.mem_of_getElem? (i := 93) rfl)) (hw _ (List.mem_of_getElem? (i := 5) rfl)) (hw _ (List.mem_of_getElem? (i := 95) rfl)) S5_466.exa (by decide) [(.ref b7)] [] pd_17 rfl rfl rfl rfl 0 (Nat.le_refl _) (by decide) (by decide) (by decide) (by decide) rfl fun T467 h467 v467 X467 q467 => ?_
        obtain ⟨rfl, rfl⟩ := q467
        refine w_if_eq X467 206 199 at_196 (by decide) rfl rfl (fun hc196 => ?_) (fun hc196 => ?_)
        · skip
          refine w_iload X467 (pc' := 208) at_206 rfl rfl ?_
          refine w_iconst X467 (pc' := 209) (2 : Int32) at_208 rfl rfl ?_
          refine w_icmp_lt X467 229 212 at_209 (by decide) rfl rfl (fun hc209 => by exfalso; revert hc209; decide) (fun hc209 => ?_)
          refine w_aload X467 (pc' := 214) at_212 rfl rfl rfl ?_
          refine w_aload X467 (pc' := 216) at_214 rfl rfl rfl ?_
          refine w_virtualV X467 (pc' := 219) at_216 (rm_eq hw (h0 := h465) (sd_size X467) b3 b7 S3_466 S7_466 (Sta.ext (sd_ext X467 hs0 Zn) S_c) hzc) (hw _ (List.mem_of_getElem? (i := 91) rfl)) (hw _ (List.mem_of_getElem? (i := 92) rfl)) (hw _ (List.mem_of_getElem? (i := 94) rfl)) (hw _ (List.mem_of_getElem? (i := 93) rfl)) (hw _ (List.mem_of_getElem? (i := 5) rfl)) (hw _ (List.mem_of_getElem? (i := 95) rfl)) S3_466.exa (by decide) [(.ref b7)] [] pd_17 rfl rfl rfl rfl 0 (Nat.le_refl _) (by decide) (by decide) (by decide) (by decide) rfl fun T468 h468 v468 X468 q468 => ?_
          obtain ⟨rfl, rfl⟩ := q468
          refine w_if_eq X468 229 222 at_219 (by decide) rfl rfl (fun hc219 => ?_) (fun hc219 => ?_)
          · skip
            refine w_iload X468 (pc' := 231) at_229 rfl rfl ?_
            refine w_iconst X468 (pc' := 232) (1 : Int32) at_231 rfl rfl ?_
            refine w_icmp_lt X468 249 235 at_232 (by decide) rfl rfl (fun hc232 => by exfalso; revert hc232; decide) (fun hc232 => ?_)
            refine w_aload X468 (pc' := 237) at_235 rfl rfl rfl ?_
            refine w_aload X468 (pc' := 239) at_237 rfl rfl rfl ?_
            refine w_virtualV X468 (pc' := 242) at_239 (rm_eq hw (h0 := h465) (sd_size X468) b1 b7 S1_466 S7_466 (Sta.ext (sd_ext X468 hs0 Zn) S_c) hzc) (hw _ (List.mem_of_getElem? (i := 91) rfl)) (hw _ (List.mem_of_getElem? (i := 92) rfl)) (hw _ (List.mem_of_getElem? (i := 94) rfl)) (hw _ (List.mem_of_getElem? (i := 93) rfl)) (hw _ (List.mem_of_getElem? (i := 5) rfl)) (hw _ (List.mem_of_getElem? (i := 95) rfl)) S1_466.exa (by decide) [(.ref b7)] [] pd_17 rfl rfl rfl rfl 0 (Nat.le_refl _) (by decide) (by decide) (by decide) (by decide) rfl fun T469 h469 v469 X469 q469 => ?_
            obtain ⟨rfl, rfl⟩ := q469
            refine w_if_eq X469 249 245 at_242 (by decide) rfl rfl (fun hc242 => ?_) (fun hc242 => ?_)
            · skip
              refine w_aload X469 (pc' := 251) at_249 rfl rfl rfl ?_
              refine w_aload X469 (pc' := 253) at_251 rfl rfl rfl ?_
              refine w_virtualV X469 (pc' := 256) at_253 (rm_vo3 hw (h0 := h465) (sd_size X469) b447 b7 B465 (show 3 ≤ 3 by decide) S7_466 (Sta.ext (sd_ext X469 hs0 Zn) S_c) hzc) (hw _ (List.mem_of_getElem? (i := 78) rfl)) (hw _ (List.mem_of_getElem? (i := 79) rfl)) (hw _ (List.mem_of_getElem? (i := 81) rfl)) (hw _ (List.mem_of_getElem? (i := 80) rfl)) (hw _ (List.mem_of_getElem? (i := 57) rfl)) (hw _ (List.mem_of_getElem? (i := 82) rfl)) B465.exa (by decide) [(.ref b7)] [] pd_15 rfl rfl rfl rfl 0 (Nat.le_refl _) (by decide) (by decide) (by decide) (by decide) rfl fun T470 h470 v470 X470 q470 => ?_
              have hv : own_val [(bs1, [(118 : Int32), (48 : Int32)]), (bs3, [(118 : Int32), (49 : Int32)]), (bs5, [(118 : Int32), (50 : Int32)])] bs7 3 = none := (own_vn (es := [(bs1, [(118 : Int32), (48 : Int32)]), (bs3, [(118 : Int32), (49 : Int32)]), (bs5, [(118 : Int32), (50 : Int32)])]) (q := bs7) 2 (show ¬ bs5 = bs7 from own_if0 hc196)).trans ((own_vn (es := [(bs1, [(118 : Int32), (48 : Int32)]), (bs3, [(118 : Int32), (49 : Int32)]), (bs5, [(118 : Int32), (50 : Int32)])]) (q := bs7) 1 (show ¬ bs3 = bs7 from own_if0 hc219)).trans ((own_vn (es := [(bs1, [(118 : Int32), (48 : Int32)]), (bs3, [(118 : Int32), (49 : Int32)]), (bs5, [(118 : Int32), (50 : Int32)])]) (q := bs7) 0 (show ¬ bs1 = bs7 from own_if0 hc242)).trans (rfl)))
              obtain ⟨hq, rfl⟩ := q470
              rcases hq with ⟨rfl, -⟩ | ⟨r, bs, rfl, Sr, hr⟩
              rotate_left
              · exact absurd (hr.symm.trans hv) (by simp)
              refine w_astore X470 (pc' := 258) (l' := #[.val (.int p1), .val (.int p2), .val (.int p3), .val (.int p4), .val (.int p5), .val (.ref b1), .val (.ref b3), .val (.ref b5), .val (.ref b7), .val (.int (3 : Int32)), .val (.int (3 : Int32)), .val (.int (1 : Int32)), .val (.ref b447), .val (.int (3 : Int32)), .val .null, .val .null]) at_256 rfl rfl rfl ?_
              refine w_aload X470 (pc' := 260) at_258 rfl rfl rfl ?_
              refine w_ifnonnullN X470 (pc' := 263) at_260 rfl ?_
              refine w_aload X470 (pc' := 265) at_263 rfl rfl rfl ?_
              refine w_ifnonnullN X470 (pc' := 268) at_265 rfl ?_
              refine w_iconst X470 (pc' := 269) (1 : Int32) at_268 rfl rfl ?_
              refine w_goto X470 (pc' := 273) at_269 (by decide) rfl ?_
              exact w_zreturnW X470 F459_466 (own_hEL hw) at_273 rfl (by decide) (by decide)
            · skip
              refine w_ldcW X469 F459_466 (pc' := 247) (text := "v0") [(118 : Int32), (48 : Int32)] 8 at_245 (hw _ (List.mem_of_getElem? (i := 83) rfl)) (own_wS hw) (own_hEL hw) (List.mem_of_getElem? (i := 1) rfl) (by decide) (by decide) (by decide) (by decide) (by decide) (by decide) rfl fun T471 h471 vm471 a471 X471 F471 E471 S471 => ?_
              have S1_472 := S1_466.ext E471
              have S3_472 := S3_466.ext E471
              have S5_472 := S5_466.ext E471
              have S7_472 := S7_466.ext E471
              have B465_472 := B465.ext E471
              refine w_astore X471 (pc' := 249) (l' := #[.val (.int p1), .val (.int p2), .val (.int p3), .val (.int p4), .val (.int p5), .val (.ref b1), .val (.ref b3), .val (.ref b5), .val (.ref b7), .val (.int (3 : Int32)), .val (.int (3 : Int32)), .val (.int (1 : Int32)), .val (.ref b447), .val (.int (3 : Int32)), .val (.ref a471), .unset]) at_247 rfl rfl rfl ?_
              refine w_aload X471 (pc' := 251) at_249 rfl rfl rfl ?_
              refine w_aload X471 (pc' := 253) at_251 rfl rfl rfl ?_
              refine w_virtualV X471 (pc' := 256) at_253 (rm_vo3 hw (h0 := h471) (sd_size X471) b447 b7 B465_472 (show 3 ≤ 3 by decide) S7_472 (Sta.ext (sd_ext X471 hs0 Zn) S_c) hzc) (hw _ (List.mem_of_getElem? (i := 78) rfl)) (hw _ (List.mem_of_getElem? (i := 79) rfl)) (hw _ (List.mem_of_getElem? (i := 81) rfl)) (hw _ (List.mem_of_getElem? (i := 80) rfl)) (hw _ (List.mem_of_getElem? (i := 57) rfl)) (hw _ (List.mem_of_getElem? (i := 82) rfl)) B465_472.exa (by decide) [(.ref b7)] [] pd_15 rfl rfl rfl rfl 0 (Nat.le_refl _) (by decide) (by decide) (by decide) (by decide) rfl fun T473 h473 v473 X473 q473 => ?_
              have hv : own_val [(bs1, [(118 : Int32), (48 : Int32)]), (bs3, [(118 : Int32), (49 : Int32)]), (bs5, [(118 : Int32), (50 : Int32)])] bs7 3 = some [(118 : Int32), (48 : Int32)] := (own_vn (es := [(bs1, [(118 : Int32), (48 : Int32)]), (bs3, [(118 : Int32), (49 : Int32)]), (bs5, [(118 : Int32), (50 : Int32)])]) (q := bs7) 2 (show ¬ bs5 = bs7 from own_if0 hc196)).trans ((own_vn (es := [(bs1, [(118 : Int32), (48 : Int32)]), (bs3, [(118 : Int32), (49 : Int32)]), (bs5, [(118 : Int32), (50 : Int32)])]) (q := bs7) 1 (show ¬ bs3 = bs7 from own_if0 hc219)).trans (own_vp (es := [(bs1, [(118 : Int32), (48 : Int32)]), (bs3, [(118 : Int32), (49 : Int32)]), (bs5, [(118 : Int32), (50 : Int32)])]) (q := bs7) 0 (show bs1 = bs7 from own_if1 hc242)))
              obtain ⟨hq, rfl⟩ := q473
              rcases hq with ⟨rfl, hr⟩ | ⟨r, bs, rfl, Sr, hr⟩
              · exact absurd (hr.symm.trans hv) (by simp)
              obtain rfl : bs = [(118 : Int32), (48 : Int32)] := Option.some.inj (hr.symm.trans hv)
              refine w_astore X473 (pc' := 258) (l' := #[.val (.int p1), .val (.int p2), .val (.int p3), .val (.int p4), .val (.int p5), .val (.ref b1), .val (.ref b3), .val (.ref b5), .val (.ref b7), .val (.int (3 : Int32)), .val (.int (3 : Int32)), .val (.int (1 : Int32)), .val (.ref b447), .val (.int (3 : Int32)), .val (.ref a471), .val (.ref r)]) at_256 rfl rfl rfl ?_
              refine w_aload X473 (pc' := 260) at_258 rfl rfl rfl ?_
              refine w_ifnonnullY X473 (pc' := 274) at_260 (by decide) rfl ?_
              refine w_aload X473 (pc' := 276) at_274 rfl rfl rfl ?_
              refine w_aload X473 (pc' := 278) at_276 rfl rfl rfl ?_
              refine w_virtualV X473 (pc' := 281) at_278 (rm_eq hw (h0 := h471) (sd_size X473) a471 r S471 Sr (Sta.ext (sd_ext X473 hs0 Zn) S_c) hzc) (hw _ (List.mem_of_getElem? (i := 91) rfl)) (hw _ (List.mem_of_getElem? (i := 92) rfl)) (hw _ (List.mem_of_getElem? (i := 94) rfl)) (hw _ (List.mem_of_getElem? (i := 93) rfl)) (hw _ (List.mem_of_getElem? (i := 5) rfl)) (hw _ (List.mem_of_getElem? (i := 95) rfl)) S471.exa (by decide) [(.ref r)] [] pd_17 rfl rfl rfl rfl 0 (Nat.le_refl _) (by decide) (by decide) (by decide) (by decide) rfl fun T474 h474 v474 X474 q474 => ?_
              obtain ⟨rfl, rfl⟩ := q474
              exact w_zreturnW X474 F471 (own_hEL hw) at_281 (by rw [if_pos rfl]; rfl) (by decide) (by decide)
          · skip
            refine w_ldcW X468 F459_466 (pc' := 224) (text := "v1") [(118 : Int32), (49 : Int32)] 8 at_222 (hw _ (List.mem_of_getElem? (i := 89) rfl)) (own_wS hw) (own_hEL hw) (List.mem_of_getElem? (i := 2) rfl) (by decide) (by decide) (by decide) (by decide) (by decide) (by decide) rfl fun T475 h475 vm475 a475 X475 F475 E475 S475 => ?_
            have S1_476 := S1_466.ext E475
            have S3_476 := S3_466.ext E475
            have S5_476 := S5_466.ext E475
            have S7_476 := S7_466.ext E475
            have B465_476 := B465.ext E475
            refine w_astore X475 (pc' := 226) (l' := #[.val (.int p1), .val (.int p2), .val (.int p3), .val (.int p4), .val (.int p5), .val (.ref b1), .val (.ref b3), .val (.ref b5), .val (.ref b7), .val (.int (3 : Int32)), .val (.int (3 : Int32)), .val (.int (1 : Int32)), .val (.ref b447), .val (.int (3 : Int32)), .val (.ref a475), .unset]) at_224 rfl rfl rfl ?_
            refine w_goto X475 (pc' := 249) at_226 (by decide) rfl ?_
            refine w_aload X475 (pc' := 251) at_249 rfl rfl rfl ?_
            refine w_aload X475 (pc' := 253) at_251 rfl rfl rfl ?_
            refine w_virtualV X475 (pc' := 256) at_253 (rm_vo3 hw (h0 := h475) (sd_size X475) b447 b7 B465_476 (show 3 ≤ 3 by decide) S7_476 (Sta.ext (sd_ext X475 hs0 Zn) S_c) hzc) (hw _ (List.mem_of_getElem? (i := 78) rfl)) (hw _ (List.mem_of_getElem? (i := 79) rfl)) (hw _ (List.mem_of_getElem? (i := 81) rfl)) (hw _ (List.mem_of_getElem? (i := 80) rfl)) (hw _ (List.mem_of_getElem? (i := 57) rfl)) (hw _ (List.mem_of_getElem? (i := 82) rfl)) B465_476.exa (by decide) [(.ref b7)] [] pd_15 rfl rfl rfl rfl 0 (Nat.le_refl _) (by decide) (by decide) (by decide) (by decide) rfl fun T477 h477 v477 X477 q477 => ?_
            have hv : own_val [(bs1, [(118 : Int32), (48 : Int32)]), (bs3, [(118 : Int32), (49 : Int32)]), (bs5, [(118 : Int32), (50 : Int32)])] bs7 3 = some [(118 : Int32), (49 : Int32)] := (own_vn (es := [(bs1, [(118 : Int32), (48 : Int32)]), (bs3, [(118 : Int32), (49 : Int32)]), (bs5, [(118 : Int32), (50 : Int32)])]) (q := bs7) 2 (show ¬ bs5 = bs7 from own_if0 hc196)).trans (own_vp (es := [(bs1, [(118 : Int32), (48 : Int32)]), (bs3, [(118 : Int32), (49 : Int32)]), (bs5, [(118 : Int32), (50 : Int32)])]) (q := bs7) 1 (show bs3 = bs7 from own_if1 hc219))
            obtain ⟨hq, rfl⟩ := q477
            rcases hq with ⟨rfl, hr⟩ | ⟨r, bs, rfl, Sr, hr⟩
            · exact absurd (hr.symm.trans hv) (by simp)
            obtain rfl : bs = [(118 : Int32), (49 : Int32)] := Option.some.inj (hr.symm.trans hv)
            refine w_astore X477 (pc' := 258) (l' := #[.val (.int p1), .val (.int p2), .val (.int p3), .val (.int p4), .val (.int p5), .val (.ref b1), .val (.ref b3), .val (.ref b5), .val (.ref b7), .val (.int (3 : Int32)), .val (.int (3 : Int32)), .val (.int (1 : Int32)), .val (.ref b447), .val (.int (3 : Int32)), .val (.ref a475), .val (.ref r)]) at_256 rfl rfl rfl ?_
            refine w_aload X477 (pc' := 260) at_258 rfl rfl rfl ?_
            refine w_ifnonnullY X477 (pc' := 274) at_260 (by decide) rfl ?_
            refine w_aload X477 (pc' := 276) at_274 rfl rfl rfl ?_
            refine w_aload X477 (pc' := 278) at_276 rfl rfl rfl ?_
            refine w_virtualV X477 (pc' := 281) at_278 (rm_eq hw (h0 := h475) (sd_size X477) a475 r S475 Sr (Sta.ext (sd_ext X477 hs0 Zn) S_c) hzc) (hw _ (List.mem_of_getElem? (i := 91) rfl)) (hw _ (List.mem_of_getElem? (i := 92) rfl)) (hw _ (List.mem_of_getElem? (i := 94) rfl)) (hw _ (List.mem_of_getElem? (i := 93) rfl)) (hw _ (List.mem_of_getElem? (i := 5) rfl)) (hw _ (List.mem_of_getElem? (i := 95) rfl)) S475.exa (by decide) [(.ref r)] [] pd_17 rfl rfl rfl rfl 0 (Nat.le_refl _) (by decide) (by decide) (by decide) (by decide) rfl fun T478 h478 v478 X478 q478 => ?_
            obtain ⟨rfl, rfl⟩ := q478
            exact w_zreturnW X478 F475 (own_hEL hw) at_281 (by rw [if_pos rfl]; rfl) (by decide) (by decide)
        · skip
          refine w_ldcW X467 F459_466 (pc' := 201) (text := "v2") [(118 : Int32), (50 : Int32)] 8 at_199 (hw _ (List.mem_of_getElem? (i := 90) rfl)) (own_wS hw) (own_hEL hw) (List.mem_of_getElem? (i := 3) rfl) (by decide) (by decide) (by decide) (by decide) (by decide) (by decide) rfl fun T479 h479 vm479 a479 X479 F479 E479 S479 => ?_
          have S1_480 := S1_466.ext E479
          have S3_480 := S3_466.ext E479
          have S5_480 := S5_466.ext E479
          have S7_480 := S7_466.ext E479
          have B465_480 := B465.ext E479
          refine w_astore X479 (pc' := 203) (l' := #[.val (.int p1), .val (.int p2), .val (.int p3), .val (.int p4), .val (.int p5), .val (.ref b1), .val (.ref b3), .val (.ref b5), .val (.ref b7), .val (.int (3 : Int32)), .val (.int (3 : Int32)), .val (.int (1 : Int32)), .val (.ref b447), .val (.int (3 : Int32)), .val (.ref a479), .unset]) at_201 rfl rfl rfl ?_
          refine w_goto X479 (pc' := 249) at_203 (by decide) rfl ?_
          refine w_aload X479 (pc' := 251) at_249 rfl rfl rfl ?_
          refine w_aload X479 (pc' := 253) at_251 rfl rfl rfl ?_
          refine w_virtualV X479 (pc' := 256) at_253 (rm_vo3 hw (h0 := h479) (sd_size X479) b447 b7 B465_480 (show 3 ≤ 3 by decide) S7_480 (Sta.ext (sd_ext X479 hs0 Zn) S_c) hzc) (hw _ (List.mem_of_getElem? (i := 78) rfl)) (hw _ (List.mem_of_getElem? (i := 79) rfl)) (hw _ (List.mem_of_getElem? (i := 81) rfl)) (hw _ (List.mem_of_getElem? (i := 80) rfl)) (hw _ (List.mem_of_getElem? (i := 57) rfl)) (hw _ (List.mem_of_getElem? (i := 82) rfl)) B465_480.exa (by decide) [(.ref b7)] [] pd_15 rfl rfl rfl rfl 0 (Nat.le_refl _) (by decide) (by decide) (by decide) (by decide) rfl fun T481 h481 v481 X481 q481 => ?_
          have hv : own_val [(bs1, [(118 : Int32), (48 : Int32)]), (bs3, [(118 : Int32), (49 : Int32)]), (bs5, [(118 : Int32), (50 : Int32)])] bs7 3 = some [(118 : Int32), (50 : Int32)] := own_vp (es := [(bs1, [(118 : Int32), (48 : Int32)]), (bs3, [(118 : Int32), (49 : Int32)]), (bs5, [(118 : Int32), (50 : Int32)])]) (q := bs7) 2 (show bs5 = bs7 from own_if1 hc196)
          obtain ⟨hq, rfl⟩ := q481
          rcases hq with ⟨rfl, hr⟩ | ⟨r, bs, rfl, Sr, hr⟩
          · exact absurd (hr.symm.trans hv) (by simp)
          obtain rfl : bs = [(118 : Int32), (50 : Int32)] := Option.some.inj (hr.symm.trans hv)
          refine w_astore X481 (pc' := 258) (l' := #[.val (.int p1), .val (.int p2), .val (.int p3), .val (.int p4), .val (.int p5), .val (.ref b1), .val (.ref b3), .val (.ref b5), .val (.ref b7), .val (.int (3 : Int32)), .val (.int (3 : Int32)), .val (.int (1 : Int32)), .val (.ref b447), .val (.int (3 : Int32)), .val (.ref a479), .val (.ref r)]) at_256 rfl rfl rfl ?_
          refine w_aload X481 (pc' := 260) at_258 rfl rfl rfl ?_
          refine w_ifnonnullY X481 (pc' := 274) at_260 (by decide) rfl ?_
          refine w_aload X481 (pc' := 276) at_274 rfl rfl rfl ?_
          refine w_aload X481 (pc' := 278) at_276 rfl rfl rfl ?_
          refine w_virtualV X481 (pc' := 281) at_278 (rm_eq hw (h0 := h479) (sd_size X481) a479 r S479 Sr (Sta.ext (sd_ext X481 hs0 Zn) S_c) hzc) (hw _ (List.mem_of_getElem? (i := 91) rfl)) (hw _ (List.mem_of_getElem? (i := 92) rfl)) (hw _ (List.mem_of_getElem? (i := 94) rfl)) (hw _ (List.mem_of_getElem? (i := 93) rfl)) (hw _ (List.mem_of_getElem? (i := 5) rfl)) (hw _ (List.mem_of_getElem? (i := 95) rfl)) S479.exa (by decide) [(.ref r)] [] pd_17 rfl rfl rfl rfl 0 (Nat.le_refl _) (by decide) (by decide) (by decide) (by decide) rfl fun T482 h482 v482 X482 q482 => ?_
          obtain ⟨rfl, rfl⟩ := q482
          exact w_zreturnW X482 F479 (own_hEL hw) at_281 (by rw [if_pos rfl]; rfl) (by decide) (by decide)
set_option maxRecDepth 65536 in
set_option maxHeartbeats 40000000 in
theorem comes_1 {Post : Tables → Env → Array Value → State → Outcome → State → Prop} (hpost : ∀ tb e args s v u, (limb_1_1.after args s (.returned v) u = true ∧ limb_1_2.after args s (.returned v) u = true ∧ True) → FramedW s (.returned v) u (Jvm.fieldLocs frame_1_writes args s ++ Jvm.arrayLocs frame_1_arrays args s ++ Jvm.staticLocs frame_1_statics s) 48 4352 → Post tb e args s (.returned v) u) :
    ArmFor flags0 classFile x code maxLocals ret World_1 tables_1 room_1 Calls_1 rest_1 Pre_1 Post := by
  intro l hfl _ _ p e ha hc hk s m args below hf hA hF happ hP
  obtain ⟨hcalls, hrest, hpre⟩ := hP
  obtain ⟨-, -, -, hnamed, -, -, -, hat⟩ := (Spec.applies_iff hf).mp happ
  obtain ⟨hg, hn⟩ := and_e (Cond.before_iff.mp (show (Jvm.Cond.and given_1 narrow_1).before args s = true from hpre))
  obtain ⟨hcount, k0⟩ := and_e hg
  obtain ⟨ka0, k1⟩ := and_e k0
  obtain ⟨ka1, k2⟩ := and_e k1
  obtain ⟨ka2, k3⟩ := and_e k2
  obtain ⟨ka3, k4⟩ := and_e k3
  obtain ⟨w0, w1, w2, w3, w4, rfl⟩ : ∃ w0 w1 w2 w3 w4 : Value, args = #[w0, w1, w2, w3, w4] := by
    have hs : args.size = 5 := by simpa [Cond.value, given_1] using hcount
    obtain ⟨L⟩ := args
    match L, hs with
    | [w0, w1, w2, w3, w4], _ => exact ⟨w0, w1, w2, w3, w4, rfl⟩
  have hw := fun d (hd : d ∈ tables_1) => atoms_spec (ws := Jvm.Cond.code x code maxLocals ret :: tables_1) hat d (List.mem_cons_of_mem _ hd)
  have hfit : Fit s := fun {y c} hc i hi => by
    obtain ⟨ha, rfl⟩ := Array.getElem?_eq_some_iff.mp hc
    have q := List.all_eq_true.mp ((Array.all_eq_true_iff_forall_mem.mp hF) _ (Array.getElem_mem ha)) i (List.mem_range.mpr hi)
    simpa [Array.getElem?_eq_getElem hi] using q
  obtain ⟨hsets, hown0⟩ := atoms_of _ (rest_1_c_eq ▸ (show rest_1_c.before _ s = true from hrest))
  have hr0 := Cond.before_iff.mp hown0
  obtain ⟨i0, ei0⟩ := is_v ka0
  obtain rfl : w0 = (.int i0) := Option.some.inj ei0
  obtain ⟨i1, ei1⟩ := is_v ka1
  obtain rfl : w1 = (.int i1) := Option.some.inj ei1
  obtain ⟨i2, ei2⟩ := is_v ka2
  obtain rfl : w2 = (.int i2) := Option.some.inj ei2
  obtain ⟨i3, ei3⟩ := is_v ka3
  obtain rfl : w3 = (.int i3) := Option.some.inj ei3
  obtain ⟨i4, ei4⟩ := is_v k4
  obtain rfl : w4 = (.int i4) := Option.some.inj ei4
  have z1 := Cond.before_iff.mp (hsets _ (List.mem_of_getElem? (i := 1) rfl))
  obtain ⟨zc, e_c⟩ := is_v z1
  have S_c : Sta s s.heap "java/lang/String" "COMPACT_STRINGS" "Z" (.int zc) := Sta.start e_c (Or.inl (hsets _ (List.mem_of_getElem? (i := 0) rfl)))
  have z2 := not_v (Cond.before_iff.mp (hsets _ (List.mem_of_getElem? (i := 2) rfl)))
  have hzc : ¬ zc = (0 : Int32) := fun q => by
    have t := eq_i e_c (Term.int_eval (0 : Int32)) (by rw [q])
    rw [t] at z2; cases z2
  have hC : CHv s own_EL s.vm s.heap := CHv.start (own_hEL hw) (fun p hp => hcalls.1 p hp) (hsets _ (List.mem_of_getElem? (i := 2) rfl)) (hw _ (List.mem_of_getElem? (i := 7) rfl)) (hw _ (List.mem_of_getElem? (i := 6) rfl))
  obtain ⟨n, o, h1, h2, h3, _, L, rfl, ⟨N, _, rfl, rfl⟩, -, hq⟩ := rm0 (l := l) hw (Nat.le_refl s.heap.size) i0 i1 i2 i3 i4 (Nat.le_refl _) S_c hzc tables_1 p e ha hc hk s m _ below hf ((Spec.applies_iff_loose hf).mp happ).1 ⟨rfl, State.Warmed39.refl s, rfl, hC⟩ trivial
  exact ⟨n, _, h1, h2, h3, hpost _ _ _ _ _ _ ⟨Cond.after_iff.mpr rfl, Cond.after_iff.mpr (eq_i res_at (Term.int_eval (1)) rfl), trivial⟩ ⟨hq.1, hq.2.1, hq.2.2.1, (hq.2.2.2.sift fun y hy => Or.inr (N y hy)).mono (by decide) (by decide)⟩⟩
theorem main_1_1 : Claimed_1_1 := comes_1 fun _ _ _ _ _ _ h hF => ⟨h.1, hF⟩
theorem main_1_2 : Claimed_1_2 := comes_1 fun _ _ _ _ _ _ h hF => ⟨h.2.1, hF⟩
end Jvm.Pilot.@@N@@
namespace Jvm.Pilot.@@N@@
open Jvm Jvm.ClassFile Sem Op Lib Jvm.Free Jvm.Stand Jvm.Pilot.@@N@@.Jvm.D
/-! MADE BY PROGRAM (witnessworld.py) out of the Statement's table words and the real class files: 22 classes; the members and pool entries that the words name. The judged class is class 1, her method 2. -/
namespace start1
open Jvm.ClassFile
def u (s : String) : CpInfo := .utf8 (stringToUtf16 s)
/-- a pool by its gaps: so many unusable entries, then the entry; so many at the end -/
def gap : Nat → List CpInfo → List CpInfo
  | 0, r => r
  | n + 1, r => .unusable :: gap n r
def poolList (es : List (Nat × CpInfo)) (last : Nat) : List CpInfo := es.foldr (fun e r => gap e.1 (e.2 :: r)) (gap last [])
def pool (es : List (Nat × CpInfo)) (last : Nat) : Array CpInfo := ⟨poolList es last⟩
def fileOf (pool : Array CpInfo) (this : Nat) (attrs : Array Attribute := #[]) (ms : Array MethodInfo := #[]) (fl : Nat := 33) (sup : Nat := 0) (ifs : Array Nat := #[]) (fds : Array FieldInfo := #[]) : ClassFile where
  minorVersion := 0
  majorVersion := 65
  constantPool := pool
  accessFlags := fl
  thisClass := this
  superClass := sup
  interfaces := ifs
  fields := fds
  methods := ms
  attributes := attrs
def plain (name : String) (sup : Option ClassId) : Class where
  name := name
  kind := .ordinary
  loader := none
  accessFlags := 33
  super := sup
  interfaces := #[]
  cf := none
  fields := #[]
  methods := #[]
  instanceTypes := #[]
  staticTypes := #[]
  resolved := #[]
  callSites := []
  init := .initialized
  statics := none
  mirror := none

def pool0 : Array CpInfo := pool [(5, u "<init>"), (0, u "()V"), (1, .class_ 10), (1, u "java/lang/Object")] 113

def k0c0 : Code := { maxStack := 0, maxLocals := 1, code := object_method_1_code, exceptionTable := #[], attributes := #[] }
def k0m0 : Method := { name := "<init>", desc := "()V", sig := { parameters := [], returnType := none }, accessFlags := 1, code := some k0c0 }
/-- java/lang/Object -/
def k0 : Class := { plain "java/lang/Object" none with
  accessFlags := 33
  interfaces := #[]
  cf := some (fileOf pool0 8 #[] #[{ accessFlags := 1, nameIndex := 5, descriptorIndex := 6, attributes := #[] }] 33 0 #[] #[])
  fields := #[]
  methods := #[k0m0]
  instanceTypes := #[]
  staticTypes := #[]
  resolved := Array.replicate 124 none
  statics := none }

def pool1 : Array CpInfo := pool [(2, .class_ 4), (0, .nameAndType 5 6), (0, u "java/lang/Object"), (0, u "<init>"), (0, u "()V"), (0, .string 8), (0, u ""), (0, .class_ 10), (0, u "java/lang/String"), (0, .methodref 9 12), (0, .nameAndType 5 13), (0, u "([C)V"), (0, .methodref 9 15), (0, .nameAndType 16 17), (0, u "valueOf"), (0, u "(C)Ljava/lang/String;"), (0, .methodref 19 20), (0, .class_ 21), (0, .nameAndType 22 23), (0, u "com/example/raja/raja/xml/BindingsValueOfPinLaw"), (0, u "prefix"), (0, u "(I)Ljava/lang/String;"), (0, .methodref 25 26), (0, .class_ 27), (0, .nameAndType 28 29), (0, u "java/lang/Math"), (0, u "min"), (0, u "(II)I"), (0, .class_ 31), (0, u "com/example/raja/raja/xml/CanonicalWriter$Bindings"), (0, .methodref 30 3), (0, .methodref 30 34), (0, .nameAndType 35 6), (0, u "open"), (0, .string 37), (0, u "v0"), (0, .methodref 30 39), (0, .nameAndType 40 41), (0, u "push"), (0, u "(Ljava/lang/String;Ljava/lang/String;)V"), (0, .string 43), (0, u "v1"), (0, .string 45), (0, u "v2"), (0, .methodref 30 47), (0, .nameAndType 48 6), (0, u "close"), (0, .methodref 9 50), (0, .nameAndType 51 52), (0, u "equals"), (0, u "(Ljava/lang/Object;)Z"), (0, .methodref 30 54), (0, .nameAndType 16 55), (0, u "(Ljava/lang/String;)Ljava/lang/String;"), (3, u "law"), (0, u "(IIIII)Z")] 6

def k1m0 : Method := { name := "<init>", desc := "()V", sig := { parameters := [], returnType := none }, accessFlags := 2, code := none }
def k1c1 : Code := { maxStack := 4, maxLocals := 3, code := method_2_code, exceptionTable := #[], attributes := #[] }
def k1m1 : Method := { name := "prefix", desc := "(I)Ljava/lang/String;", sig := { parameters := [.int], returnType := some (.object "java/lang/String") }, accessFlags := 10, code := some k1c1 }
def k1c2 : Code := { maxStack := 3, maxLocals := 16, code := code, exceptionTable := #[], attributes := #[] }
def k1m2 : Method := { name := "law", desc := "(IIIII)Z", sig := { parameters := [.int, .int, .int, .int, .int], returnType := some .boolean }, accessFlags := 9, code := some k1c2 }
/-- com/example/raja/raja/xml/BindingsValueOfPinLaw -/
def k1 : Class := { plain "com/example/raja/raja/xml/BindingsValueOfPinLaw" (some 0) with
  accessFlags := 49
  interfaces := #[]
  cf := some (fileOf pool1 19 #[] #[{ accessFlags := 2, nameIndex := 5, descriptorIndex := 6, attributes := #[] }, { accessFlags := 10, nameIndex := 22, descriptorIndex := 23, attributes := #[] }, { accessFlags := 9, nameIndex := 59, descriptorIndex := 60, attributes := #[] }] 49 2 #[] #[])
  fields := #[]
  methods := #[k1m0, k1m1, k1m2]
  instanceTypes := #[]
  staticTypes := #[]
  resolved := Array.replicate 67 none
  statics := none }

def pool2 : Array CpInfo := pool [(1, .class_ 2), (0, u "java/io/Serializable"), (0, .class_ 4), (0, u "java/lang/Object")] 2

/-- java/io/Serializable -/
def k2 : Class := { plain "java/io/Serializable" (some 0) with
  accessFlags := 1537
  interfaces := #[]
  cf := some (fileOf pool2 1 #[] #[] 1537 3 #[] #[])
  fields := #[]
  methods := #[]
  instanceTypes := #[]
  staticTypes := #[]
  resolved := Array.replicate 7 none
  statics := none }

def pool3 : Array CpInfo := pool [(1, .class_ 2), (0, u "java/lang/Comparable"), (0, .class_ 4), (0, u "java/lang/Object")] 7

/-- java/lang/Comparable -/
def k3 : Class := { plain "java/lang/Comparable" (some 0) with
  accessFlags := 1537
  interfaces := #[]
  cf := some (fileOf pool3 1 #[] #[] 1537 3 #[] #[])
  fields := #[]
  methods := #[]
  instanceTypes := #[]
  staticTypes := #[]
  resolved := Array.replicate 12 none
  statics := none }

def pool4 : Array CpInfo := pool [(2, .class_ 4), (1, u "java/lang/CharSequence"), (42, .class_ 48), (0, u "java/lang/CharSequence$1CodePointIterator"), (10, .class_ 60), (0, u "java/lang/CharSequence$1CharIterator"), (5, .class_ 67), (0, u "java/lang/Object")] 63

/-- java/lang/CharSequence -/
def k4 : Class := { plain "java/lang/CharSequence" (some 0) with
  accessFlags := 1537
  interfaces := #[]
  cf := some (fileOf pool4 2 #[.nestMembers #[47, 59]] #[] 1537 66 #[] #[])
  fields := #[]
  methods := #[]
  instanceTypes := #[]
  staticTypes := #[]
  resolved := Array.replicate 131 none
  statics := none }

def pool5 : Array CpInfo := pool [(1, .class_ 2), (0, u "java/lang/constant/Constable"), (0, .class_ 4), (0, u "java/lang/Object")] 6

/-- java/lang/constant/Constable -/
def k5 : Class := { plain "java/lang/constant/Constable" (some 0) with
  accessFlags := 1537
  interfaces := #[]
  cf := some (fileOf pool5 1 #[] #[] 1537 3 #[] #[])
  fields := #[]
  methods := #[]
  instanceTypes := #[]
  staticTypes := #[]
  resolved := Array.replicate 11 none
  statics := none }

def pool6 : Array CpInfo := pool [(1, .class_ 2), (0, u "java/lang/constant/ConstantDesc"), (0, .class_ 4), (0, u "java/lang/Object")] 32

/-- java/lang/constant/ConstantDesc -/
def k6 : Class := { plain "java/lang/constant/ConstantDesc" (some 0) with
  accessFlags := 1537
  interfaces := #[]
  cf := some (fileOf pool6 1 #[] #[] 1537 3 #[] #[])
  fields := #[]
  methods := #[]
  instanceTypes := #[]
  staticTypes := #[]
  resolved := Array.replicate 37 none
  statics := none }

def pool7 : Array CpInfo := pool [(1, .methodref 2 3), (0, .class_ 4), (0, .nameAndType 5 6), (0, u "java/lang/Object"), (0, u "<init>"), (0, u "()V"), (2, .fieldref 10 11), (0, .class_ 12), (0, .nameAndType 13 14), (0, u "java/lang/String"), (0, u "value"), (0, u "[B"), (0, .fieldref 10 16), (0, .nameAndType 17 18), (0, u "coder"), (0, u "B"), (2, u "hash"), (0, u "I"), (2, u "hashIsZero"), (0, u "Z"), (0, .methodref 10 28), (0, .nameAndType 5 29), (0, u "([CIILjava/lang/Void;)V"), (8, .fieldref 10 39), (0, .nameAndType 40 26), (0, u "COMPACT_STRINGS"), (1, .class_ 44), (1, u "java/lang/StringUTF16"), (0, u "compress"), (1, .methodref 42 48), (0, .nameAndType 49 50), (0, u "coderFromArrayLen"), (0, u "([BI)B"), (2, u "toBytes"), (53, .class_ 109), (1, u "java/lang/StringLatin1"), (67, .methodref 42 178), (0, .nameAndType 45 179), (0, u "([CII)[B"), (29, .methodref 10 210), (0, .nameAndType 5 211), (0, u "([BB)V"), (157, u "(C)Z"), (171, .methodref 107 542), (0, .nameAndType 543 544), (0, u "equals"), (0, u "([B[B)Z"), (28, u "(Ljava/lang/Object;)Z"), (1, .class_ 576), (0, u "java/lang/CharSequence"), (22, u "CASE_INSENSITIVE_ORDER"), (0, u "Ljava/util/Comparator;"), (181, u "valueOf"), (0, u "(C)Ljava/lang/String;"), (226, u "([C)V"), (4, .methodref 107 1016), (0, .nameAndType 1017 369), (0, u "canEncode"), (0, .methodref 107 1019), (0, .nameAndType 53 1020), (0, u "(C)[B"), (80, u "serialPersistentFields"), (0, u "[Ljava/io/ObjectStreamField;"), (0, .class_ 1104), (0, u "java/lang/String$CaseInsensitiveComparator"), (1, .class_ 1107), (0, u "java/io/Serializable"), (0, .class_ 1109), (0, u "java/lang/Comparable"), (0, .class_ 1111), (0, u "java/lang/constant/Constable"), (0, .class_ 1113), (0, u "java/lang/constant/ConstantDesc"), (2, u "serialVersionUID"), (0, u "J"), (3, u "REPL"), (0, u "C"), (2, u "LATIN1"), (1, u "UTF16")] 323

def k7m0 : Method := { name := "<init>", desc := "()V", sig := { parameters := [], returnType := none }, accessFlags := 1, code := none }
def k7c1 : Code := { maxStack := 5, maxLocals := 2, code := jdk_42_method_3_code, exceptionTable := #[], attributes := #[] }
def k7m1 : Method := { name := "<init>", desc := "([C)V", sig := { parameters := [(.array .char)], returnType := none }, accessFlags := 1, code := some k7c1 }
def k7c2 : Code := { maxStack := 2, maxLocals := 3, code := jdk_42_method_66_code, exceptionTable := #[], attributes := #[] }
def k7m2 : Method := { name := "equals", desc := "(Ljava/lang/Object;)Z", sig := { parameters := [(.object "java/lang/Object")], returnType := some .boolean }, accessFlags := 1, code := some k7c2 }
def k7c3 : Code := { maxStack := 4, maxLocals := 1, code := jdk_42_method_139_code, exceptionTable := #[], attributes := #[] }
def k7m3 : Method := { name := "valueOf", desc := "(C)Ljava/lang/String;", sig := { parameters := [.char], returnType := some (.object "java/lang/String") }, accessFlags := 9, code := some k7c3 }
def k7c4 : Code := { maxStack := 4, maxLocals := 6, code := jdk_42_method_149_code, exceptionTable := #[], attributes := #[] }
def k7m4 : Method := { name := "<init>", desc := "([CIILjava/lang/Void;)V", sig := { parameters := [(.array .char), .int, .int, (.object "java/lang/Void")], returnType := none }, accessFlags := 2, code := some k7c4 }
def k7c5 : Code := { maxStack := 2, maxLocals := 3, code := jdk_42_method_151_code, exceptionTable := #[], attributes := #[] }
def k7m5 : Method := { name := "<init>", desc := "([BB)V", sig := { parameters := [(.array .byte), .byte], returnType := none }, accessFlags := 0, code := some k7c5 }
/-- java/lang/String -/
def k7 : Class := { plain "java/lang/String" (some 0) with
  accessFlags := 49
  interfaces := #[2, 3, 4, 5, 6]
  cf := some (fileOf pool7 10 #[.nestMembers #[1103]] #[{ accessFlags := 1, nameIndex := 5, descriptorIndex := 6, attributes := #[] }, { accessFlags := 1, nameIndex := 5, descriptorIndex := 1010, attributes := #[] }, { accessFlags := 1, nameIndex := 543, descriptorIndex := 573, attributes := #[] }, { accessFlags := 9, nameIndex := 782, descriptorIndex := 783, attributes := #[] }, { accessFlags := 2, nameIndex := 5, descriptorIndex := 29, attributes := #[] }, { accessFlags := 0, nameIndex := 5, descriptorIndex := 211, attributes := #[] }] 49 2 #[1106, 1108, 575, 1110, 1112] #[{ accessFlags := 18, nameIndex := 13, descriptorIndex := 14, attributes := #[] }, { accessFlags := 18, nameIndex := 17, descriptorIndex := 18, attributes := #[] }, { accessFlags := 2, nameIndex := 21, descriptorIndex := 22, attributes := #[] }, { accessFlags := 2, nameIndex := 25, descriptorIndex := 26, attributes := #[] }, { accessFlags := 26, nameIndex := 1116, descriptorIndex := 1117, attributes := #[] }, { accessFlags := 24, nameIndex := 40, descriptorIndex := 26, attributes := #[] }, { accessFlags := 26, nameIndex := 1101, descriptorIndex := 1102, attributes := #[] }, { accessFlags := 26, nameIndex := 1121, descriptorIndex := 1122, attributes := #[] }, { accessFlags := 25, nameIndex := 599, descriptorIndex := 600, attributes := #[] }, { accessFlags := 24, nameIndex := 1125, descriptorIndex := 18, attributes := #[] }, { accessFlags := 24, nameIndex := 1127, descriptorIndex := 18, attributes := #[] }])
  fields := #[{ name := "value", type := (.array .byte), accessFlags := 18, slot := 0, constantValue := 0 }, { name := "coder", type := .byte, accessFlags := 18, slot := 1, constantValue := 0 }, { name := "hash", type := .int, accessFlags := 2, slot := 2, constantValue := 0 }, { name := "hashIsZero", type := .boolean, accessFlags := 2, slot := 3, constantValue := 0 }, { name := "serialVersionUID", type := .long, accessFlags := 26, slot := 0, constantValue := 0 }, { name := "COMPACT_STRINGS", type := .boolean, accessFlags := 24, slot := 1, constantValue := 0 }, { name := "serialPersistentFields", type := (.array (.object "java/io/ObjectStreamField")), accessFlags := 26, slot := 2, constantValue := 0 }, { name := "REPL", type := .char, accessFlags := 26, slot := 3, constantValue := 0 }, { name := "CASE_INSENSITIVE_ORDER", type := (.object "java/util/Comparator"), accessFlags := 25, slot := 4, constantValue := 0 }, { name := "LATIN1", type := .byte, accessFlags := 24, slot := 5, constantValue := 0 }, { name := "UTF16", type := .byte, accessFlags := 24, slot := 6, constantValue := 0 }]
  methods := #[k7m0, k7m1, k7m2, k7m3, k7m4, k7m5]
  instanceTypes := #[(.array .byte), .byte, .int, .boolean]
  staticTypes := #[.long, .boolean, (.array (.object "java/io/ObjectStreamField")), .char, (.object "java/util/Comparator"), .byte, .byte]
  resolved := Array.replicate 1451 none
  statics := some 0 }

def pool8 : Array CpInfo := pool [(6, .class_ 8), (1, u "java/lang/Object"), (0, u "<init>"), (0, u "()V"), (1, .class_ 14), (1, u "java/lang/StringUTF16"), (31, u "$assertionsDisabled"), (0, u "Z"), (13, u "HI_BYTE_SHIFT"), (0, u "I"), (2, u "LO_BYTE_SHIFT"), (49, .methodref 12 116), (0, .nameAndType 117 118), (0, u "compress"), (0, u "([CI[BII)I"), (3, u "([CII)[B"), (138, u "coderFromArrayLen"), (0, u "([BI)B"), (106, .class_ 371), (1, u "java/lang/StringUTF16$LinesSpliterator"), (58, u "MAX_LENGTH"), (196, .class_ 628), (0, u "java/lang/StringUTF16$CodePointsSpliterator"), (0, .class_ 630), (0, u "java/lang/StringUTF16$CharsSpliterator")] 4

def k8m0 : Method := { name := "<init>", desc := "()V", sig := { parameters := [], returnType := none }, accessFlags := 0, code := none }
def k8c1 : Code := { maxStack := 2, maxLocals := 2, code := jdk_52_method_15_code, exceptionTable := #[], attributes := #[] }
def k8m1 : Method := { name := "coderFromArrayLen", desc := "([BI)B", sig := { parameters := [(.array .byte), .int], returnType := some .byte }, accessFlags := 8, code := some k8c1 }
def k8c2 : Code := { maxStack := 5, maxLocals := 6, code := jdk_52_method_16_code, exceptionTable := #[], attributes := #[] }
def k8m2 : Method := { name := "compress", desc := "([CII)[B", sig := { parameters := [(.array .char), .int, .int], returnType := some (.array .byte) }, accessFlags := 9, code := some k8c2 }
def k8c3 : Code := { maxStack := 3, maxLocals := 7, code := jdk_52_method_21_code, exceptionTable := #[], attributes := #[] }
def k8m3 : Method := { name := "compress", desc := "([CI[BII)I", sig := { parameters := [(.array .char), .int, (.array .byte), .int, .int], returnType := some .int }, accessFlags := 9, code := some k8c3 }
/-- java/lang/StringUTF16 -/
def k8 : Class := { plain "java/lang/StringUTF16" (some 0) with
  accessFlags := 48
  interfaces := #[]
  cf := some (fileOf pool8 12 #[.nestMembers #[627, 629, 369]] #[{ accessFlags := 0, nameIndex := 9, descriptorIndex := 10, attributes := #[] }, { accessFlags := 8, nameIndex := 261, descriptorIndex := 262, attributes := #[] }, { accessFlags := 9, nameIndex := 117, descriptorIndex := 122, attributes := #[] }, { accessFlags := 9, nameIndex := 117, descriptorIndex := 118, attributes := #[] }] 48 6 #[] #[{ accessFlags := 26, nameIndex := 61, descriptorIndex := 62, attributes := #[] }, { accessFlags := 26, nameIndex := 65, descriptorIndex := 62, attributes := #[] }, { accessFlags := 24, nameIndex := 430, descriptorIndex := 62, attributes := #[] }, { accessFlags := 4120, nameIndex := 46, descriptorIndex := 47, attributes := #[] }])
  fields := #[{ name := "HI_BYTE_SHIFT", type := .int, accessFlags := 26, slot := 0, constantValue := 0 }, { name := "LO_BYTE_SHIFT", type := .int, accessFlags := 26, slot := 1, constantValue := 0 }, { name := "MAX_LENGTH", type := .int, accessFlags := 24, slot := 2, constantValue := 0 }, { name := "$assertionsDisabled", type := .boolean, accessFlags := 4120, slot := 3, constantValue := 0 }]
  methods := #[k8m0, k8m1, k8m2, k8m3]
  instanceTypes := #[]
  staticTypes := #[.int, .int, .int, .boolean]
  resolved := Array.replicate 635 none
  statics := none }

def pool9 : Array CpInfo := pool [(4, .class_ 6), (1, u "java/lang/Object"), (0, u "<init>"), (0, u "()V"), (5, .class_ 16), (1, u "java/lang/StringLatin1"), (73, u "canEncode"), (14, u "(C)Z"), (15, u "$assertionsDisabled"), (0, u "Z"), (98, .class_ 223), (1, u "java/lang/StringLatin1$LinesSpliterator"), (57, u "equals"), (0, u "([B[B)Z"), (97, u "toBytes"), (1, u "(C)[B"), (7, .class_ 391), (0, u "java/lang/StringLatin1$CharsSpliterator")] 3

def k9m0 : Method := { name := "<init>", desc := "()V", sig := { parameters := [], returnType := none }, accessFlags := 0, code := none }
def k9c1 : Code := { maxStack := 2, maxLocals := 1, code := jdk_43_method_3_code, exceptionTable := #[], attributes := #[] }
def k9m1 : Method := { name := "canEncode", desc := "(C)Z", sig := { parameters := [.char], returnType := some .boolean }, accessFlags := 9, code := some k9c1 }
def k9c2 : Code := { maxStack := 3, maxLocals := 3, code := jdk_43_method_13_code, exceptionTable := #[], attributes := #[] }
def k9m2 : Method := { name := "equals", desc := "([B[B)Z", sig := { parameters := [(.array .byte), (.array .byte)], returnType := some .boolean }, accessFlags := 9, code := some k9c2 }
def k9c3 : Code := { maxStack := 4, maxLocals := 1, code := jdk_43_method_46_code, exceptionTable := #[], attributes := #[] }
def k9m3 : Method := { name := "toBytes", desc := "(C)[B", sig := { parameters := [.char], returnType := some (.array .byte) }, accessFlags := 9, code := some k9c3 }
/-- java/lang/StringLatin1 -/
def k9 : Class := { plain "java/lang/StringLatin1" (some 0) with
  accessFlags := 48
  interfaces := #[]
  cf := some (fileOf pool9 14 #[.nestMembers #[390, 221]] #[{ accessFlags := 0, nameIndex := 7, descriptorIndex := 8, attributes := #[] }, { accessFlags := 9, nameIndex := 90, descriptorIndex := 105, attributes := #[] }, { accessFlags := 9, nameIndex := 281, descriptorIndex := 282, attributes := #[] }, { accessFlags := 9, nameIndex := 380, descriptorIndex := 382, attributes := #[] }] 48 4 #[] #[{ accessFlags := 4120, nameIndex := 121, descriptorIndex := 122, attributes := #[] }])
  fields := #[{ name := "$assertionsDisabled", type := .boolean, accessFlags := 4120, slot := 0, constantValue := 0 }]
  methods := #[k9m0, k9m1, k9m2, k9m3]
  instanceTypes := #[]
  staticTypes := #[.boolean]
  resolved := Array.replicate 395 none
  statics := none }

def pool10 : Array CpInfo := pool [(1, .class_ 2), (0, u "java/lang/Math"), (1, .class_ 6), (1, u "java/lang/Object"), (0, u "<init>"), (0, u "()V"), (89, .class_ 100), (1, u "java/lang/Math$RandomNumberGeneratorHolder"), (71, u "negativeZeroFloatBits"), (0, u "J"), (2, u "negativeZeroDoubleBits"), (24, u "min"), (43, u "$assertionsDisabled"), (0, u "Z"), (88, u "(II)I"), (2, u "twoToTheDoubleScaleDown"), (0, u "D"), (4, u "twoToTheDoubleScaleUp"), (9, u "E"), (3, u "PI"), (2, u "TAU"), (2, u "DEGREES_TO_RADIANS"), (0, u "RADIANS_TO_DEGREES")] 94

def k10m0 : Method := { name := "<init>", desc := "()V", sig := { parameters := [], returnType := none }, accessFlags := 2, code := none }
def k10c1 : Code := { maxStack := 2, maxLocals := 2, code := jdk_29_method_69_code, exceptionTable := #[], attributes := #[] }
def k10m1 : Method := { name := "min", desc := "(II)I", sig := { parameters := [.int, .int], returnType := some .int }, accessFlags := 9, code := some k10c1 }
/-- java/lang/Math -/
def k10 : Class := { plain "java/lang/Math" (some 0) with
  accessFlags := 49
  interfaces := #[]
  cf := some (fileOf pool10 1 #[.nestMembers #[98]] #[{ accessFlags := 2, nameIndex := 7, descriptorIndex := 8, attributes := #[] }, { accessFlags := 9, nameIndex := 201, descriptorIndex := 335, attributes := #[] }] 49 4 #[] #[{ accessFlags := 25, nameIndex := 354, descriptorIndex := 339, attributes := #[] }, { accessFlags := 25, nameIndex := 358, descriptorIndex := 339, attributes := #[] }, { accessFlags := 25, nameIndex := 361, descriptorIndex := 339, attributes := #[] }, { accessFlags := 26, nameIndex := 364, descriptorIndex := 339, attributes := #[] }, { accessFlags := 26, nameIndex := 365, descriptorIndex := 339, attributes := #[] }, { accessFlags := 26, nameIndex := 172, descriptorIndex := 173, attributes := #[] }, { accessFlags := 26, nameIndex := 176, descriptorIndex := 173, attributes := #[] }, { accessFlags := 8, nameIndex := 344, descriptorIndex := 339, attributes := #[] }, { accessFlags := 8, nameIndex := 338, descriptorIndex := 339, attributes := #[] }, { accessFlags := 4120, nameIndex := 245, descriptorIndex := 246, attributes := #[] }])
  fields := #[{ name := "E", type := .double, accessFlags := 25, slot := 0, constantValue := 0 }, { name := "PI", type := .double, accessFlags := 25, slot := 1, constantValue := 0 }, { name := "TAU", type := .double, accessFlags := 25, slot := 2, constantValue := 0 }, { name := "DEGREES_TO_RADIANS", type := .double, accessFlags := 26, slot := 3, constantValue := 0 }, { name := "RADIANS_TO_DEGREES", type := .double, accessFlags := 26, slot := 4, constantValue := 0 }, { name := "negativeZeroFloatBits", type := .long, accessFlags := 26, slot := 5, constantValue := 0 }, { name := "negativeZeroDoubleBits", type := .long, accessFlags := 26, slot := 6, constantValue := 0 }, { name := "twoToTheDoubleScaleUp", type := .double, accessFlags := 8, slot := 7, constantValue := 0 }, { name := "twoToTheDoubleScaleDown", type := .double, accessFlags := 8, slot := 8, constantValue := 0 }, { name := "$assertionsDisabled", type := .boolean, accessFlags := 4120, slot := 9, constantValue := 0 }]
  methods := #[k10m0, k10m1]
  instanceTypes := #[]
  staticTypes := #[.double, .double, .double, .double, .double, .long, .long, .double, .double, .boolean]
  resolved := Array.replicate 460 none
  statics := none }

def pool11 : Array CpInfo := pool [(1, .methodref 2 3), (0, .class_ 4), (0, .nameAndType 5 6), (0, u "java/lang/Object"), (0, u "<init>"), (0, u "()V"), (0, .class_ 8), (0, u "java/lang/String"), (0, .fieldref 10 11), (0, .class_ 12), (0, .nameAndType 13 14), (0, u "com/example/raja/raja/xml/CanonicalWriter$Bindings"), (0, u "pairs"), (0, u "[Ljava/lang/String;"), (0, .fieldref 10 16), (0, .nameAndType 17 18), (0, u "marks"), (0, u "[I"), (0, .fieldref 10 20), (0, .nameAndType 21 22), (0, u "size"), (0, u "I"), (7, .fieldref 10 31), (0, .nameAndType 32 22), (0, u "depth"), (3, .methodref 7 37), (0, .nameAndType 38 39), (0, u "equals"), (0, u "(Ljava/lang/Object;)Z"), (2, u "push"), (0, u "(Ljava/lang/String;Ljava/lang/String;)V"), (2, u "open"), (0, u "close"), (6, u "valueOf"), (0, u "(Ljava/lang/String;)Ljava/lang/String;"), (3, .class_ 60), (0, u "com/example/raja/raja/xml/CanonicalWriter")] 2

def k11c0 : Code := { maxStack := 2, maxLocals := 1, code := prog_69_method_1_code, exceptionTable := #[], attributes := #[] }
def k11m0 : Method := { name := "<init>", desc := "()V", sig := { parameters := [], returnType := none }, accessFlags := 0, code := some k11c0 }
def k11c1 : Code := { maxStack := 4, maxLocals := 3, code := prog_69_method_2_code, exceptionTable := #[], attributes := #[] }
def k11m1 : Method := { name := "push", desc := "(Ljava/lang/String;Ljava/lang/String;)V", sig := { parameters := [(.object "java/lang/String"), (.object "java/lang/String")], returnType := none }, accessFlags := 0, code := some k11c1 }
def k11c2 : Code := { maxStack := 5, maxLocals := 1, code := prog_69_method_4_code, exceptionTable := #[], attributes := #[] }
def k11m2 : Method := { name := "open", desc := "()V", sig := { parameters := [], returnType := none }, accessFlags := 0, code := some k11c2 }
def k11c3 : Code := { maxStack := 5, maxLocals := 1, code := prog_69_method_5_code, exceptionTable := #[], attributes := #[] }
def k11m3 : Method := { name := "close", desc := "()V", sig := { parameters := [], returnType := none }, accessFlags := 0, code := some k11c3 }
def k11c4 : Code := { maxStack := 3, maxLocals := 3, code := prog_69_method_10_code, exceptionTable := #[], attributes := #[] }
def k11m4 : Method := { name := "valueOf", desc := "(Ljava/lang/String;)Ljava/lang/String;", sig := { parameters := [(.object "java/lang/String")], returnType := some (.object "java/lang/String") }, accessFlags := 0, code := some k11c4 }
/-- com/example/raja/raja/xml/CanonicalWriter$Bindings -/
def k11 : Class := { plain "com/example/raja/raja/xml/CanonicalWriter$Bindings" (some 0) with
  accessFlags := 48
  interfaces := #[]
  cf := some (fileOf pool11 10 #[.nestHost 59] #[{ accessFlags := 0, nameIndex := 5, descriptorIndex := 6, attributes := #[] }, { accessFlags := 0, nameIndex := 42, descriptorIndex := 43, attributes := #[] }, { accessFlags := 0, nameIndex := 46, descriptorIndex := 6, attributes := #[] }, { accessFlags := 0, nameIndex := 47, descriptorIndex := 6, attributes := #[] }, { accessFlags := 0, nameIndex := 54, descriptorIndex := 55, attributes := #[] }] 48 2 #[] #[{ accessFlags := 2, nameIndex := 13, descriptorIndex := 14, attributes := #[] }, { accessFlags := 2, nameIndex := 21, descriptorIndex := 22, attributes := #[] }, { accessFlags := 2, nameIndex := 17, descriptorIndex := 18, attributes := #[] }, { accessFlags := 2, nameIndex := 32, descriptorIndex := 22, attributes := #[] }])
  fields := #[{ name := "pairs", type := (.array (.object "java/lang/String")), accessFlags := 2, slot := 0, constantValue := 0 }, { name := "size", type := .int, accessFlags := 2, slot := 1, constantValue := 0 }, { name := "marks", type := (.array .int), accessFlags := 2, slot := 2, constantValue := 0 }, { name := "depth", type := .int, accessFlags := 2, slot := 3, constantValue := 0 }]
  methods := #[k11m0, k11m1, k11m2, k11m3, k11m4]
  instanceTypes := #[(.array (.object "java/lang/String")), .int, (.array .int), .int]
  staticTypes := #[]
  resolved := Array.replicate 63 none
  statics := none }

def pool12 : Array CpInfo := pool [(2, .class_ 4), (1, u "java/lang/Object"), (0, u "<init>"), (0, u "()V"), (17, .class_ 26), (1, u "jdk/internal/util/Preconditions"), (28, .class_ 56), (0, u "jdk/internal/util/Preconditions$4"), (57, .class_ 115), (0, u "jdk/internal/util/Preconditions$1"), (7, u "SIOOBE_FORMATTER"), (0, u "Ljava/util/function/BiFunction;"), (0, .class_ 126), (0, u "jdk/internal/util/Preconditions$2"), (3, u "AIOOBE_FORMATTER"), (0, .class_ 132), (0, u "jdk/internal/util/Preconditions$3"), (3, u "IOOBE_FORMATTER")] 57

def k12m0 : Method := { name := "<init>", desc := "()V", sig := { parameters := [], returnType := none }, accessFlags := 1, code := none }
/-- jdk/internal/util/Preconditions -/
def k12 : Class := { plain "jdk/internal/util/Preconditions" (some 0) with
  accessFlags := 33
  interfaces := #[]
  cf := some (fileOf pool12 24 #[.nestMembers #[55, 131, 125, 114]] #[{ accessFlags := 1, nameIndex := 5, descriptorIndex := 6, attributes := #[] }] 33 2 #[] #[{ accessFlags := 25, nameIndex := 123, descriptorIndex := 124, attributes := #[] }, { accessFlags := 25, nameIndex := 130, descriptorIndex := 124, attributes := #[] }, { accessFlags := 25, nameIndex := 136, descriptorIndex := 124, attributes := #[] }])
  fields := #[{ name := "SIOOBE_FORMATTER", type := (.object "java/util/function/BiFunction"), accessFlags := 25, slot := 0, constantValue := 0 }, { name := "AIOOBE_FORMATTER", type := (.object "java/util/function/BiFunction"), accessFlags := 25, slot := 1, constantValue := 0 }, { name := "IOOBE_FORMATTER", type := (.object "java/util/function/BiFunction"), accessFlags := 25, slot := 2, constantValue := 0 }]
  methods := #[k12m0]
  instanceTypes := #[]
  staticTypes := #[(.object "java/util/function/BiFunction"), (.object "java/util/function/BiFunction"), (.object "java/util/function/BiFunction")]
  resolved := Array.replicate 194 none
  statics := some 1 }

def pool13 : Array CpInfo := pool [(9, u "<init>"), (6, .class_ 18), (1, u "java/lang/Object"), (0, u "()V"), (1, .class_ 23), (1, u "jdk/internal/util/ArraysSupport"), (0, u "LOG2_ARRAY_LONG_INDEX_SCALE"), (0, u "I"), (2, u "U"), (0, u "Ljdk/internal/misc/Unsafe;"), (8, u "BIG_ENDIAN"), (0, u "Z"), (8, u "LOG2_BYTE_BIT_SIZE"), (4, u "LOG2_ARRAY_INT_INDEX_SCALE"), (54, u "JLA"), (0, u "Ljdk/internal/access/JavaLangAccess;"), (11, u "LOG2_ARRAY_BOOLEAN_INDEX_SCALE"), (9, u "LOG2_ARRAY_BYTE_INDEX_SCALE"), (5, u "LOG2_ARRAY_CHAR_INDEX_SCALE"), (5, u "LOG2_ARRAY_SHORT_INDEX_SCALE"), (18, u "LOG2_ARRAY_FLOAT_INDEX_SCALE"), (24, u "LOG2_ARRAY_DOUBLE_INDEX_SCALE"), (89, u "T_BOOLEAN"), (2, u "T_CHAR"), (1, u "T_FLOAT"), (1, u "T_DOUBLE"), (1, u "T_BYTE"), (1, u "T_SHORT"), (1, u "T_INT"), (1, u "T_LONG"), (1, u "SOFT_MAX_ARRAY_LENGTH")] 83

def k13m0 : Method := { name := "<init>", desc := "()V", sig := { parameters := [], returnType := none }, accessFlags := 2, code := none }
/-- jdk/internal/util/ArraysSupport -/
def k13 : Class := { plain "jdk/internal/util/ArraysSupport" (some 0) with
  accessFlags := 33
  interfaces := #[]
  cf := some (fileOf pool13 21 #[] #[{ accessFlags := 2, nameIndex := 9, descriptorIndex := 19, attributes := #[] }] 33 16 #[] #[{ accessFlags := 24, nameIndex := 28, descriptorIndex := 29, attributes := #[] }, { accessFlags := 26, nameIndex := 38, descriptorIndex := 39, attributes := #[] }, { accessFlags := 25, nameIndex := 121, descriptorIndex := 25, attributes := #[] }, { accessFlags := 25, nameIndex := 131, descriptorIndex := 25, attributes := #[] }, { accessFlags := 25, nameIndex := 137, descriptorIndex := 25, attributes := #[] }, { accessFlags := 25, nameIndex := 143, descriptorIndex := 25, attributes := #[] }, { accessFlags := 25, nameIndex := 53, descriptorIndex := 25, attributes := #[] }, { accessFlags := 25, nameIndex := 24, descriptorIndex := 25, attributes := #[] }, { accessFlags := 25, nameIndex := 162, descriptorIndex := 25, attributes := #[] }, { accessFlags := 25, nameIndex := 187, descriptorIndex := 25, attributes := #[] }, { accessFlags := 26, nameIndex := 48, descriptorIndex := 25, attributes := #[] }, { accessFlags := 25, nameIndex := 277, descriptorIndex := 25, attributes := #[] }, { accessFlags := 25, nameIndex := 280, descriptorIndex := 25, attributes := #[] }, { accessFlags := 25, nameIndex := 282, descriptorIndex := 25, attributes := #[] }, { accessFlags := 25, nameIndex := 284, descriptorIndex := 25, attributes := #[] }, { accessFlags := 25, nameIndex := 286, descriptorIndex := 25, attributes := #[] }, { accessFlags := 25, nameIndex := 288, descriptorIndex := 25, attributes := #[] }, { accessFlags := 25, nameIndex := 290, descriptorIndex := 25, attributes := #[] }, { accessFlags := 25, nameIndex := 292, descriptorIndex := 25, attributes := #[] }, { accessFlags := 26, nameIndex := 108, descriptorIndex := 109, attributes := #[] }, { accessFlags := 25, nameIndex := 294, descriptorIndex := 25, attributes := #[] }])
  fields := #[{ name := "U", type := (.object "jdk/internal/misc/Unsafe"), accessFlags := 24, slot := 0, constantValue := 0 }, { name := "BIG_ENDIAN", type := .boolean, accessFlags := 26, slot := 1, constantValue := 0 }, { name := "LOG2_ARRAY_BOOLEAN_INDEX_SCALE", type := .int, accessFlags := 25, slot := 2, constantValue := 0 }, { name := "LOG2_ARRAY_BYTE_INDEX_SCALE", type := .int, accessFlags := 25, slot := 3, constantValue := 0 }, { name := "LOG2_ARRAY_CHAR_INDEX_SCALE", type := .int, accessFlags := 25, slot := 4, constantValue := 0 }, { name := "LOG2_ARRAY_SHORT_INDEX_SCALE", type := .int, accessFlags := 25, slot := 5, constantValue := 0 }, { name := "LOG2_ARRAY_INT_INDEX_SCALE", type := .int, accessFlags := 25, slot := 6, constantValue := 0 }, { name := "LOG2_ARRAY_LONG_INDEX_SCALE", type := .int, accessFlags := 25, slot := 7, constantValue := 0 }, { name := "LOG2_ARRAY_FLOAT_INDEX_SCALE", type := .int, accessFlags := 25, slot := 8, constantValue := 0 }, { name := "LOG2_ARRAY_DOUBLE_INDEX_SCALE", type := .int, accessFlags := 25, slot := 9, constantValue := 0 }, { name := "LOG2_BYTE_BIT_SIZE", type := .int, accessFlags := 26, slot := 10, constantValue := 0 }, { name := "T_BOOLEAN", type := .int, accessFlags := 25, slot := 11, constantValue := 0 }, { name := "T_CHAR", type := .int, accessFlags := 25, slot := 12, constantValue := 0 }, { name := "T_FLOAT", type := .int, accessFlags := 25, slot := 13, constantValue := 0 }, { name := "T_DOUBLE", type := .int, accessFlags := 25, slot := 14, constantValue := 0 }, { name := "T_BYTE", type := .int, accessFlags := 25, slot := 15, constantValue := 0 }, { name := "T_SHORT", type := .int, accessFlags := 25, slot := 16, constantValue := 0 }, { name := "T_INT", type := .int, accessFlags := 25, slot := 17, constantValue := 0 }, { name := "T_LONG", type := .int, accessFlags := 25, slot := 18, constantValue := 0 }, { name := "JLA", type := (.object "jdk/internal/access/JavaLangAccess"), accessFlags := 26, slot := 19, constantValue := 0 }, { name := "SOFT_MAX_ARRAY_LENGTH", type := .int, accessFlags := 25, slot := 20, constantValue := 0 }]
  methods := #[k13m0]
  instanceTypes := #[]
  staticTypes := #[(.object "jdk/internal/misc/Unsafe"), .boolean, .int, .int, .int, .int, .int, .int, .int, .int, .int, .int, .int, .int, .int, .int, .int, .int, .int, (.object "jdk/internal/access/JavaLangAccess"), .int]
  resolved := Array.replicate 378 none
  statics := none }

def pool14 : Array CpInfo := pool [(1, u "java/lang/Cloneable"), (0, .class_ 1), (0, u "java/lang/Object"), (0, .class_ 3)] 3

/-- java/lang/Cloneable -/
def k14 : Class := { plain "java/lang/Cloneable" (some 0) with
  accessFlags := 1537
  interfaces := #[]
  cf := some (fileOf pool14 2 #[] #[] 1537 4 #[] #[])
  fields := #[]
  methods := #[]
  instanceTypes := #[]
  staticTypes := #[]
  resolved := Array.replicate 8 none
  statics := none }

/-- the primitive byte -/
def k15 : Class := { plain "byte" none with kind := .primitive 'B', accessFlags := 0x411 }
/-- [B -/
def k16 : Class := { plain "[B" (some 0) with kind := .array 15 .byte, interfaces := #[14, 2], accessFlags := 1041 }

/-- the primitive char -/
def k17 : Class := { plain "char" none with kind := .primitive 'C', accessFlags := 0x411 }
/-- [C -/
def k18 : Class := { plain "[C" (some 0) with kind := .array 17 .char, interfaces := #[14, 2], accessFlags := 1041 }

/-- the primitive int -/
def k19 : Class := { plain "int" none with kind := .primitive 'I', accessFlags := 0x411 }
/-- [I -/
def k20 : Class := { plain "[I" (some 0) with kind := .array 19 .int, interfaces := #[14, 2], accessFlags := 1041 }

/-- [Ljava/lang/String; -/
def k21 : Class := { plain "[Ljava/lang/String;" (some 0) with kind := .array 7 (.object "java/lang/String"), interfaces := #[14, 2], accessFlags := 1041 }

def heap : Heap := #[{ cls := 7, slots := #[.long 0, .int 1, .null, .int 0, .null, .int 0, .int 0], vm := .statics 7 },
  { cls := 12, slots := #[.null, .null, .null], vm := .statics 12 }]
def classes : Array Class := #[k0, k1, k2, k3, k4, k5, k6, k7, k8, k9, k10, k11, k12, k13, k14, k15, k16, k17, k18, k19, k20, k21]
def interned : List (Array UInt16 × Addr) := []
def slotsUsed : Nat := 10
def theMethod : MethodId := ⟨1, 2⟩
def args0 : Array Value := #[.int 3, .int 7, .int 65, .int 9, .int 2]
def aboutOver (below : List Frame) : State where
  vm := { classes := classes, interned := interned.toArray }
  heap := heap
  slotsUsed := slotsUsed
  threads := #[{ frames := .invoking theMethod args0 :: below }]
def below0 : List Frame := [.native { method := ⟨0, 0⟩, args := #[] }]
def about1 : State := aboutOver below0
def p0 : Program := .bare "" "" ""
def e0 : Env := launch0.env 0 0 0
theorem w_frames : about1.frames = Frame.invoking theMethod args0 :: below0 := rfl
set_option maxRecDepth 65536 in
theorem w_args : argsFit about1.vm theMethod args0 = true := by decide +kernel
set_option maxRecDepth 65536 in
theorem w_heap : heapFits about1 = true := by decide +kernel
set_option maxRecDepth 65536 in
theorem w_runnable : about1.curStatus? = some .runnable := by decide +kernel
set_option maxRecDepth 65536 in
theorem w_alone : about1.alone = true := by decide +kernel
set_option maxRecDepth 65536 in
theorem w_named : about1.methodNamed? x = some theMethod := by decide +kernel
set_option maxRecDepth 65536 in
theorem w_hears : about1.hears theMethod below0 = true := by decide +kernel
set_option maxRecDepth 65536 in
theorem w_ripe : about1.ripe theMethod args0 below0 = true := by decide +kernel
theorem w_running : about1.status = .running := rfl
set_option maxRecDepth 65536 in
theorem w_room : about1.hasRoom e0.platform room_1 = true :=
  launch0.hasRoom_least _ room_1 (by decide +kernel) (by decide +kernel) (by decide +kernel) (by decide +kernel) (by decide +kernel) (by decide +kernel)
theorem allAtoms_all (ts : List Jvm.Cond) (a : Array Jvm.Value) (st : Jvm.State) : (allAtoms ts).before a st = ts.all (fun c => c.before a st) := by
  induction ts with
  | nil => rfl
  | cons c t ih =>
    show (Jvm.Cond.and c (allAtoms t)).before a st = _
    rw [Jvm.Cond.before_and, ih, List.all_cons]
def words1 : List Jvm.Cond := Jvm.Cond.code x code maxLocals ret :: tables_1
/-- a 'code' word, met by the world's own term for the bytes: nothing is compared byte by byte -/
theorem code_word {y : MethodName} {bytes : ByteArray} {mx : Nat} {rt : Option FieldType} {a : Array Value} {s : State} {m : MethodId} {meth : Method} {c : Code} (h1 : s.methodNamed? y = some m) (h2 : s.vm.method? m = some meth) (h3 : meth.code = some c) (h4 : c.code = bytes)
    (h5 : (c.maxLocals == mx && c.exceptionTable.isEmpty && decide (c.maxStack ≤ mostOperands) && decide (meth.sig.returnType = rt) && !meth.locks && decide (parseMethodDescriptor y.desc = some meth.sig)) = true) : (Jvm.Cond.code y bytes mx rt).before a s = true := by
  simp only [Bool.and_eq_true, beq_iff_eq, Bool.not_eq_true', decide_eq_true_eq] at h5
  obtain ⟨⟨⟨⟨⟨g1, g2⟩, g3⟩, g4⟩, g5⟩, g6⟩ := h5
  simp [Cond.before, Cond.holds, Cond.value, h1, h2, h3, h4, g1, g2, g3, g4, g5, g6]
def isCode : Jvm.Cond → Bool
  | .code _ _ _ _ => true
  | _ => false
theorem all_split {L : List Jvm.Cond} {P : Jvm.Cond → Bool} (h1 : L.all (fun c => isCode c || P c) = true) (h2 : ∀ c ∈ L.filter isCode, P c = true) : L.all P = true := by
  refine List.all_eq_true.mpr fun c hc => ?_
  have h := List.all_eq_true.mp h1 c hc
  rcases Bool.eq_false_or_eq_true (isCode c) with hi | hi
  · exact h2 c (List.mem_filter.mpr ⟨hc, hi⟩)
  · simpa [hi] using h
set_option maxRecDepth 65536 in
theorem w_c0 : (Jvm.Cond.code x code maxLocals ret).before args0 about1 = true := code_word (m := ⟨1, 2⟩) (meth := k1m2) (c := k1c2) (by decide +kernel) rfl rfl rfl (by decide +kernel)
set_option maxRecDepth 65536 in
theorem w_c1 : (Jvm.Cond.code ({ cls := "com/example/raja/raja/xml/BindingsValueOfPinLaw", name := "prefix", desc := "(I)Ljava/lang/String;" } : Jvm.MethodName) method_2_code (3 : Nat) (Option.some (Jvm.ClassFile.FieldType.object "java/lang/String"))).before args0 about1 = true := code_word (m := ⟨1, 1⟩) (meth := k1m1) (c := k1c1) (by decide +kernel) rfl rfl rfl (by decide +kernel)
set_option maxRecDepth 65536 in
theorem w_c2 : (Jvm.Cond.code ({ cls := "java/lang/String", name := "<init>", desc := "([C)V" } : Jvm.MethodName) jdk_42_method_3_code (2 : Nat) (Option.none : Option Jvm.ClassFile.FieldType)).before args0 about1 = true := code_word (m := ⟨7, 1⟩) (meth := k7m1) (c := k7c1) (by decide +kernel) rfl rfl rfl (by decide +kernel)
set_option maxRecDepth 65536 in
theorem w_c3 : (Jvm.Cond.code ({ cls := "java/lang/String", name := "<init>", desc := "([CIILjava/lang/Void;)V" } : Jvm.MethodName) jdk_42_method_149_code (6 : Nat) (Option.none : Option Jvm.ClassFile.FieldType)).before args0 about1 = true := code_word (m := ⟨7, 4⟩) (meth := k7m4) (c := k7c4) (by decide +kernel) rfl rfl rfl (by decide +kernel)
set_option maxRecDepth 65536 in
theorem w_c4 : (Jvm.Cond.code ({ cls := "java/lang/Object", name := "<init>", desc := "()V" } : Jvm.MethodName) object_method_1_code (1 : Nat) (Option.none : Option Jvm.ClassFile.FieldType)).before args0 about1 = true := code_word (m := ⟨0, 0⟩) (meth := k0m0) (c := k0c0) (by decide +kernel) rfl rfl rfl (by decide +kernel)
set_option maxRecDepth 65536 in
theorem w_c5 : (Jvm.Cond.code ({ cls := "java/lang/StringUTF16", name := "compress", desc := "([CII)[B" } : Jvm.MethodName) jdk_52_method_16_code (6 : Nat) (Option.some (Jvm.ClassFile.FieldType.array Jvm.ClassFile.FieldType.byte))).before args0 about1 = true := code_word (m := ⟨8, 2⟩) (meth := k8m2) (c := k8c2) (by decide +kernel) rfl rfl rfl (by decide +kernel)
set_option maxRecDepth 65536 in
theorem w_c6 : (Jvm.Cond.code ({ cls := "java/lang/StringUTF16", name := "compress", desc := "([CI[BII)I" } : Jvm.MethodName) jdk_52_method_21_code (7 : Nat) (Option.some Jvm.ClassFile.FieldType.int)).before args0 about1 = true := code_word (m := ⟨8, 3⟩) (meth := k8m3) (c := k8c3) (by decide +kernel) rfl rfl rfl (by decide +kernel)
set_option maxRecDepth 65536 in
theorem w_c7 : (Jvm.Cond.code ({ cls := "java/lang/StringUTF16", name := "coderFromArrayLen", desc := "([BI)B" } : Jvm.MethodName) jdk_52_method_15_code (2 : Nat) (Option.some Jvm.ClassFile.FieldType.byte)).before args0 about1 = true := code_word (m := ⟨8, 1⟩) (meth := k8m1) (c := k8c1) (by decide +kernel) rfl rfl rfl (by decide +kernel)
set_option maxRecDepth 65536 in
theorem w_c8 : (Jvm.Cond.code ({ cls := "java/lang/String", name := "valueOf", desc := "(C)Ljava/lang/String;" } : Jvm.MethodName) jdk_42_method_139_code (1 : Nat) (Option.some (Jvm.ClassFile.FieldType.object "java/lang/String"))).before args0 about1 = true := code_word (m := ⟨7, 3⟩) (meth := k7m3) (c := k7c3) (by decide +kernel) rfl rfl rfl (by decide +kernel)
set_option maxRecDepth 65536 in
theorem w_c9 : (Jvm.Cond.code ({ cls := "java/lang/StringLatin1", name := "canEncode", desc := "(C)Z" } : Jvm.MethodName) jdk_43_method_3_code (1 : Nat) (Option.some Jvm.ClassFile.FieldType.boolean)).before args0 about1 = true := code_word (m := ⟨9, 1⟩) (meth := k9m1) (c := k9c1) (by decide +kernel) rfl rfl rfl (by decide +kernel)
set_option maxRecDepth 65536 in
theorem w_c10 : (Jvm.Cond.code ({ cls := "java/lang/StringLatin1", name := "toBytes", desc := "(C)[B" } : Jvm.MethodName) jdk_43_method_46_code (1 : Nat) (Option.some (Jvm.ClassFile.FieldType.array Jvm.ClassFile.FieldType.byte))).before args0 about1 = true := code_word (m := ⟨9, 3⟩) (meth := k9m3) (c := k9c3) (by decide +kernel) rfl rfl rfl (by decide +kernel)
set_option maxRecDepth 65536 in
theorem w_c11 : (Jvm.Cond.code ({ cls := "java/lang/String", name := "<init>", desc := "([BB)V" } : Jvm.MethodName) jdk_42_method_151_code (3 : Nat) (Option.none : Option Jvm.ClassFile.FieldType)).before args0 about1 = true := code_word (m := ⟨7, 5⟩) (meth := k7m5) (c := k7c5) (by decide +kernel) rfl rfl rfl (by decide +kernel)
set_option maxRecDepth 65536 in
theorem w_c12 : (Jvm.Cond.code ({ cls := "java/lang/Math", name := "min", desc := "(II)I" } : Jvm.MethodName) jdk_29_method_69_code (2 : Nat) (Option.some Jvm.ClassFile.FieldType.int)).before args0 about1 = true := code_word (m := ⟨10, 1⟩) (meth := k10m1) (c := k10c1) (by decide +kernel) rfl rfl rfl (by decide +kernel)
set_option maxRecDepth 65536 in
theorem w_c13 : (Jvm.Cond.code ({ cls := "com/example/raja/raja/xml/CanonicalWriter$Bindings", name := "<init>", desc := "()V" } : Jvm.MethodName) prog_69_method_1_code (1 : Nat) (Option.none : Option Jvm.ClassFile.FieldType)).before args0 about1 = true := code_word (m := ⟨11, 0⟩) (meth := k11m0) (c := k11c0) (by decide +kernel) rfl rfl rfl (by decide +kernel)
set_option maxRecDepth 65536 in
theorem w_c14 : (Jvm.Cond.code ({ cls := "com/example/raja/raja/xml/CanonicalWriter$Bindings", name := "open", desc := "()V" } : Jvm.MethodName) prog_69_method_4_code (1 : Nat) (Option.none : Option Jvm.ClassFile.FieldType)).before args0 about1 = true := code_word (m := ⟨11, 2⟩) (meth := k11m2) (c := k11c2) (by decide +kernel) rfl rfl rfl (by decide +kernel)
set_option maxRecDepth 65536 in
theorem w_c15 : (Jvm.Cond.code ({ cls := "com/example/raja/raja/xml/CanonicalWriter$Bindings", name := "valueOf", desc := "(Ljava/lang/String;)Ljava/lang/String;" } : Jvm.MethodName) prog_69_method_10_code (3 : Nat) (Option.some (Jvm.ClassFile.FieldType.object "java/lang/String"))).before args0 about1 = true := code_word (m := ⟨11, 4⟩) (meth := k11m4) (c := k11c4) (by decide +kernel) rfl rfl rfl (by decide +kernel)
set_option maxRecDepth 65536 in
theorem w_c16 : (Jvm.Cond.code ({ cls := "com/example/raja/raja/xml/CanonicalWriter$Bindings", name := "push", desc := "(Ljava/lang/String;Ljava/lang/String;)V" } : Jvm.MethodName) prog_69_method_2_code (3 : Nat) (Option.none : Option Jvm.ClassFile.FieldType)).before args0 about1 = true := code_word (m := ⟨11, 1⟩) (meth := k11m1) (c := k11c1) (by decide +kernel) rfl rfl rfl (by decide +kernel)
set_option maxRecDepth 65536 in
theorem w_c17 : (Jvm.Cond.code ({ cls := "java/lang/String", name := "equals", desc := "(Ljava/lang/Object;)Z" } : Jvm.MethodName) jdk_42_method_66_code (3 : Nat) (Option.some Jvm.ClassFile.FieldType.boolean)).before args0 about1 = true := code_word (m := ⟨7, 2⟩) (meth := k7m2) (c := k7c2) (by decide +kernel) rfl rfl rfl (by decide +kernel)
set_option maxRecDepth 65536 in
theorem w_c18 : (Jvm.Cond.code ({ cls := "java/lang/StringLatin1", name := "equals", desc := "([B[B)Z" } : Jvm.MethodName) jdk_43_method_13_code (3 : Nat) (Option.some Jvm.ClassFile.FieldType.boolean)).before args0 about1 = true := code_word (m := ⟨9, 2⟩) (meth := k9m2) (c := k9c2) (by decide +kernel) rfl rfl rfl (by decide +kernel)
set_option maxRecDepth 65536 in
theorem w_c19 : (Jvm.Cond.code ({ cls := "com/example/raja/raja/xml/CanonicalWriter$Bindings", name := "close", desc := "()V" } : Jvm.MethodName) prog_69_method_5_code (1 : Nat) (Option.none : Option Jvm.ClassFile.FieldType)).before args0 about1 = true := code_word (m := ⟨11, 3⟩) (meth := k11m3) (c := k11c3) (by decide +kernel) rfl rfl rfl (by decide +kernel)
def codes1 : List Jvm.Cond := [Jvm.Cond.code x code maxLocals ret, Jvm.Cond.code ({ cls := "com/example/raja/raja/xml/BindingsValueOfPinLaw", name := "prefix", desc := "(I)Ljava/lang/String;" } : Jvm.MethodName) method_2_code (3 : Nat) (Option.some (Jvm.ClassFile.FieldType.object "java/lang/String")), Jvm.Cond.code ({ cls := "java/lang/String", name := "<init>", desc := "([C)V" } : Jvm.MethodName) jdk_42_method_3_code (2 : Nat) (Option.none : Option Jvm.ClassFile.FieldType), Jvm.Cond.code ({ cls := "java/lang/String", name := "<init>", desc := "([CIILjava/lang/Void;)V" } : Jvm.MethodName) jdk_42_method_149_code (6 : Nat) (Option.none : Option Jvm.ClassFile.FieldType), Jvm.Cond.code ({ cls := "java/lang/Object", name := "<init>", desc := "()V" } : Jvm.MethodName) object_method_1_code (1 : Nat) (Option.none : Option Jvm.ClassFile.FieldType), Jvm.Cond.code ({ cls := "java/lang/StringUTF16", name := "compress", desc := "([CII)[B" } : Jvm.MethodName) jdk_52_method_16_code (6 : Nat) (Option.some (Jvm.ClassFile.FieldType.array Jvm.ClassFile.FieldType.byte)), Jvm.Cond.code ({ cls := "java/lang/StringUTF16", name := "compress", desc := "([CI[BII)I" } : Jvm.MethodName) jdk_52_method_21_code (7 : Nat) (Option.some Jvm.ClassFile.FieldType.int), Jvm.Cond.code ({ cls := "java/lang/StringUTF16", name := "coderFromArrayLen", desc := "([BI)B" } : Jvm.MethodName) jdk_52_method_15_code (2 : Nat) (Option.some Jvm.ClassFile.FieldType.byte), Jvm.Cond.code ({ cls := "java/lang/String", name := "valueOf", desc := "(C)Ljava/lang/String;" } : Jvm.MethodName) jdk_42_method_139_code (1 : Nat) (Option.some (Jvm.ClassFile.FieldType.object "java/lang/String")), Jvm.Cond.code ({ cls := "java/lang/StringLatin1", name := "canEncode", desc := "(C)Z" } : Jvm.MethodName) jdk_43_method_3_code (1 : Nat) (Option.some Jvm.ClassFile.FieldType.boolean), Jvm.Cond.code ({ cls := "java/lang/StringLatin1", name := "toBytes", desc := "(C)[B" } : Jvm.MethodName) jdk_43_method_46_code (1 : Nat) (Option.some (Jvm.ClassFile.FieldType.array Jvm.ClassFile.FieldType.byte)), Jvm.Cond.code ({ cls := "java/lang/String", name := "<init>", desc := "([BB)V" } : Jvm.MethodName) jdk_42_method_151_code (3 : Nat) (Option.none : Option Jvm.ClassFile.FieldType), Jvm.Cond.code ({ cls := "java/lang/Math", name := "min", desc := "(II)I" } : Jvm.MethodName) jdk_29_method_69_code (2 : Nat) (Option.some Jvm.ClassFile.FieldType.int), Jvm.Cond.code ({ cls := "com/example/raja/raja/xml/CanonicalWriter$Bindings", name := "<init>", desc := "()V" } : Jvm.MethodName) prog_69_method_1_code (1 : Nat) (Option.none : Option Jvm.ClassFile.FieldType), Jvm.Cond.code ({ cls := "com/example/raja/raja/xml/CanonicalWriter$Bindings", name := "open", desc := "()V" } : Jvm.MethodName) prog_69_method_4_code (1 : Nat) (Option.none : Option Jvm.ClassFile.FieldType), Jvm.Cond.code ({ cls := "com/example/raja/raja/xml/CanonicalWriter$Bindings", name := "valueOf", desc := "(Ljava/lang/String;)Ljava/lang/String;" } : Jvm.MethodName) prog_69_method_10_code (3 : Nat) (Option.some (Jvm.ClassFile.FieldType.object "java/lang/String")), Jvm.Cond.code ({ cls := "com/example/raja/raja/xml/CanonicalWriter$Bindings", name := "push", desc := "(Ljava/lang/String;Ljava/lang/String;)V" } : Jvm.MethodName) prog_69_method_2_code (3 : Nat) (Option.none : Option Jvm.ClassFile.FieldType), Jvm.Cond.code ({ cls := "java/lang/String", name := "equals", desc := "(Ljava/lang/Object;)Z" } : Jvm.MethodName) jdk_42_method_66_code (3 : Nat) (Option.some Jvm.ClassFile.FieldType.boolean), Jvm.Cond.code ({ cls := "java/lang/StringLatin1", name := "equals", desc := "([B[B)Z" } : Jvm.MethodName) jdk_43_method_13_code (3 : Nat) (Option.some Jvm.ClassFile.FieldType.boolean), Jvm.Cond.code ({ cls := "com/example/raja/raja/xml/CanonicalWriter$Bindings", name := "close", desc := "()V" } : Jvm.MethodName) prog_69_method_5_code (1 : Nat) (Option.none : Option Jvm.ClassFile.FieldType)]
set_option maxRecDepth 65536 in
theorem codes_eq : words1.filter isCode = codes1 := rfl
theorem w_codes : ∀ c ∈ words1.filter isCode, c.before args0 about1 = true := by
  rw [codes_eq]
  intro c hc
  simp only [codes1, List.mem_cons, List.not_mem_nil, or_false] at hc
  rcases hc with rfl | rfl | rfl | rfl | rfl | rfl | rfl | rfl | rfl | rfl | rfl | rfl | rfl | rfl | rfl | rfl | rfl | rfl | rfl | rfl
  · exact w_c0
  · exact w_c1
  · exact w_c2
  · exact w_c3
  · exact w_c4
  · exact w_c5
  · exact w_c6
  · exact w_c7
  · exact w_c8
  · exact w_c9
  · exact w_c10
  · exact w_c11
  · exact w_c12
  · exact w_c13
  · exact w_c14
  · exact w_c15
  · exact w_c16
  · exact w_c17
  · exact w_c18
  · exact w_c19
set_option maxRecDepth 65536 in
theorem w_t1 : (words1.take 24).all (fun c => isCode c || c.before args0 about1) = true := by decide +kernel
set_option maxRecDepth 65536 in
theorem w_t2 : ((words1.drop 24).take 24).all (fun c => isCode c || c.before args0 about1) = true := by decide +kernel
set_option maxRecDepth 65536 in
theorem w_t3 : (((words1.drop 24).drop 24).take 24).all (fun c => isCode c || c.before args0 about1) = true := by decide +kernel
set_option maxRecDepth 65536 in
theorem w_t4 : ((((words1.drop 24).drop 24).drop 24).take 24).all (fun c => isCode c || c.before args0 about1) = true := by decide +kernel
set_option maxRecDepth 65536 in
theorem w_t5 : ((((words1.drop 24).drop 24).drop 24).drop 24).all (fun c => isCode c || c.before args0 about1) = true := by decide +kernel
theorem w_tables : (allAtoms (Jvm.Cond.code x code maxLocals ret :: tables_1)).before args0 about1 = true := by
  rw [allAtoms_all]
  show words1.all (fun c => c.before args0 about1) = true
  refine all_split ?_ w_codes
  rw [← List.take_append_drop 24 words1, List.all_append, w_t1, ← List.take_append_drop 24 (words1.drop 24), List.all_append, w_t2, ← List.take_append_drop 24 ((words1.drop 24).drop 24), List.all_append, w_t3, ← List.take_append_drop 24 (((words1.drop 24).drop 24).drop 24), List.all_append, w_t4, w_t5]
  rfl
set_option maxRecDepth 65536 in
theorem w_rest : rest_1_c.before args0 about1 = true := by decide +kernel
set_option maxRecDepth 65536 in
theorem w_case : (Jvm.Cond.and given_1 narrow_1).before args0 about1 = true := by decide +kernel
set_option maxRecDepth 65536 in
theorem w_consts : constsHeld consts_1 about1 := Jvm.Lit.constsHeldB_iff.mp (by decide +kernel)
theorem w_applies : (headSpec (Jvm.Cond.code x code maxLocals ret :: tables_1) room_1).applies x e0.platform about1 = true :=
  (Spec.applies_iff w_frames).mpr ⟨w_running, w_runnable, w_alone, w_named, w_hears, w_ripe, w_room, w_tables⟩
theorem atStart : AtStart classFile x code maxLocals ret World_1 tables_1 room_1 Calls_1 rest_1 Pre_1 launch0 p0 e0 about1 theMethod args0 below0 :=
  ⟨lists_1, trivial, launch0.admits_env _ _ _, launch0.least_env, fairChoices_fair.cas, fairChoices_fair.clock, w_frames, w_args, w_heap, w_applies, ⟨w_consts, trivial⟩, w_rest, w_case⟩
end start1
theorem witness_1 : WitnessClaimed_1 := ⟨start1.p0, start1.e0, start1.about1, start1.theMethod, start1.args0, start1.below0, start1.atStart⟩
end Jvm.Pilot.@@N@@
