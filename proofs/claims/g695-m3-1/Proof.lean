import JvmDerived
import JvmDerived.Pilot.@@N@@Statement
import JvmDerived.Pilot.@@N@@Code
set_option linter.unusedVariables false
set_option linter.unusedSimpArgs false
@@BLOCK:NumsL.lean.txt@@
namespace Jvm.Pilot.@@N@@
open Jvm Jvm.ClassFile Sem Op Lib Jvm.Free Jvm.Stand Jvm.LawKit Jvm.RoadKit Bundle Jvm.Pilot.@@N@@.Jvm.D
/-- the run from t comes to a state of G -/
def Go (p : Program) (e : Env) (below : List Frame) (G : State → Prop) (t : State) : Prop := ∃ s₂, Steps p.tables e below t s₂ ∧ G s₂
/-- the end of a body -/
def Done (below : List Frame) (s : State) (n0 : Nat) (Q : Option Value → Heap → Prop) (C N : Nat) (s₂ : State) : Prop := ∃ o, s₂.status = .running ∧ Ended s₂ below o ∧ ∃ v L, o = .returned v ∧ (Fr n0 L ∧ Q v s₂.heap) ∧ FrameEnd s o s₂ L C N
def Val (Q : Value → Heap → Prop) : Option Value → Heap → Prop := fun o h => ∃ v, o = some v ∧ Q v h
def Non (Q : Heap → Prop) : Option Value → Heap → Prop := fun o h => o = none ∧ Q h
theorem go_of {p : Program} {e : Env} {below : List Frame} {G : State → Prop} {t t' : State} (f : ∀ target, Steps p.tables e below t' target → Steps p.tables e below t target) (k : Go p e below G t') : Go p e below G t := by
  obtain ⟨s₂, h, g⟩ := k; exact ⟨s₂, f _ h, g⟩
/-- where a run stands: the heap, fresh writes only, the body's own facts -/
def Sd (l : Launch) (Z : State) (n0 : Nat) (y : MethodName) (bytes : ByteArray) (maxL : Nat) (ret : Option FieldType) (R : Room) (p : Program) (e : Env) (s : State) (m : MethodId) (args : Array Value) (below : List Frame) (T : State) (h : Heap) (cells slots : Nat) : Prop :=
  ∃ meth c locs, Stand p l e R s m args below meth c T locs cells slots ∧ T.heap = h ∧ Fr n0 locs ∧ p.tables.exec = Jvm.exec ∧ c.code = bytes ∧ c.maxLocals = maxL ∧ s.vm.findClass y.cls = some m.cls ∧ meth.name = y.name ∧ meth.sig.returnType = ret ∧ meth.locks = false ∧ Z.Warmed39 s.vm ∧ n0 ≤ s.heap.size
/-- a body's contract -/
def Con (l : Launch) (Z : State) (n0 : Nat) (y : MethodName) (bytes : ByteArray) (maxL : Nat) (ret : Option FieldType) (rm : Room) (as' : Array Value) (h : Heap) (Q : Option Value → Heap → Prop) : Prop :=
  ∀ ws, MetFree l y (head1 (Jvm.Cond.code y bytes maxL ret :: ws) rm) (fun a U => a = as' ∧ Z.Warmed39 U.vm ∧ U.heap = h) (fun _ _ _ _ _ => True) (fun _ U o U' => ∃ v L, o = .returned v ∧ (Fr n0 L ∧ Q v U'.heap) ∧ FrameEnd U o U' L rm.cells rm.slots)
theorem con_intro {l : Launch} {Z : State} {n0 : Nat} {y : MethodName} {bytes : ByteArray} {maxL : Nat} {ret : Option FieldType} {rm : Room} {as' : Array Value} {h : Heap} {Q : Option Value → Heap → Prop} (hp : plainFor y = true) (hn : n0 ≤ h.size) {fr : MethodId → JFrame} (ef : ∀ m, entryFrame m as' maxL = fr m)
    (body : ∀ p e s m below s₁, s.heap = h → Sd l Z n0 y bytes maxL ret rm p e s m as' below s₁ h 0 0 → Go p e below (Done below s n0 Q rm.cells rm.slots) (s₁.setTop (fr m))) : Con l Z n0 y bytes maxL ret rm as' h Q := by
  intro ws
  refine MetFree.of_bodySF hp hisR ?_
  intro p e s m args below meth c s₁ Bd hml0 hP hK
  obtain ⟨rfl, hZ, hh⟩ := hP
  have e0 : s₁.heap = h := by rw [← hh, Bd.state]; rfl
  obtain ⟨s₂, st, o, r1, r2, r3⟩ := body p e s m below s₁ hh ⟨meth, c, [], Stand.of_body Bd, e0, Fr.nil n0, Bd.exec, Bd.bytes, hml0, findClass_of_methodNamed Bd.named, (name_of_methodNamed Bd.named Bd.method).1, Bd.returns, Bd.notSynchronized, hZ, by rw [hh]; exact hn⟩
  exact ⟨s₂, o, castTop (ef m) st, r1, r2, r3⟩
theorem con_mono {l : Launch} {Z : State} {n0 : Nat} {y : MethodName} {bytes : ByteArray} {maxL : Nat} {ret : Option FieldType} {rm : Room} {as' : Array Value} {h : Heap} {Q Q' : Option Value → Heap → Prop} (hq : ∀ v h', Q v h' → Q' v h') (H : Con l Z n0 y bytes maxL ret rm as' h Q) : Con l Z n0 y bytes maxL ret rm as' h Q' := by
  intro ws p e ha hc hk s m args below hf happ hP hK
  obtain ⟨n, o, h1, h2, h3, v, L, h4, h5, h6⟩ := H ws p e ha hc hk s m args below hf happ hP hK
  exact ⟨n, o, h1, h2, h3, v, L, h4, ⟨h5.1, hq _ _ h5.2⟩, h6⟩
section Walk
variable {l : Launch} {Z : State} {n0 : Nat} {y : MethodName} {bytes : ByteArray} {maxL : Nat} {ret : Option FieldType} {R : Room} {p : Program} {e : Env} {s : State} {m : MethodId} {args : Array Value} {below : List Frame} {T : State} {h : Heap} {cells slots : Nat} {G : State → Prop} {a0 : Array Value} {pc pc' : Nat} {Ls : Array Slot} {S : List Value}
theorem sd_more (X : Sd l Z n0 y bytes maxL ret R p e s m args below T h cells slots) {cells' slots' : Nat} (hc : cells ≤ cells') (hs : slots ≤ slots') : Sd l Z n0 y bytes maxL ret R p e s m args below T h cells' slots' := by
  obtain ⟨meth, c, locs, X, r⟩ := X; exact ⟨meth, c, locs, X.more hc hs, r⟩
theorem sd_size (X : Sd l Z n0 y bytes maxL ret R p e s m args below T h cells slots) : n0 ≤ h.size := by
  obtain ⟨meth, c, locs, X, rfl, -, -, -, -, -, -, -, -, -, hn⟩ := X
  exact Nat.le_trans hn X.same.2.1
theorem sd_ext (X : Sd l Z n0 y bytes maxL ret R p e s m args below T h cells slots) {h0 : Heap} (hs : s.heap = h0) (hN : h0.size ≤ n0) : Ext h0 h := by
  obtain ⟨meth, c, locs, X, rfl, N, -⟩ := X
  subst hs
  refine ⟨X.same.2.1, fun a ca ha => ?_⟩
  obtain ⟨c', h1, h2, h3, h4⟩ := X.same.2.2.2.2.2 a ca ha
  have hlt : a < s.heap.size := (Array.getElem?_eq_some_iff.mp ha).1
  have e : c'.slots = ca.slots := by
    apply Array.ext_getElem?
    intro i
    exact h4 i (fun q => Nat.lt_irrefl _ (Nat.lt_of_lt_of_le hlt (Nat.le_trans hN (N _ q))))
  rw [e] at h2
  rw [h2] at h1
  exact h1
theorem w_iloadN (X : Sd l Z n0 y bytes maxL ret R p e s m args below T h cells slots) {k : Fin 4} {v : Int32} (hd : decode bytes pc = .ok (.iload_n k, 1)) (hl : Ls[k.val]? = some (.val (.int v))) (hp : pc' = pc + 1) (K : Go p e below G (T.setTop (mkF m pc' Ls (.int v :: S)))) : Go p e below G (T.setTop (mkF m pc Ls S)) := by
  obtain ⟨meth, c, locs, X, eT, N, hx, hby, hml, hown, hnm, hret, hlk, hZ, hn⟩ := X; subst hp
  exact go_of (fun _ k => XS.iloadN (g := (mkF m pc Ls S)) X.here hx rfl (hb hby hd) hl k) K
theorem w_iload (X : Sd l Z n0 y bytes maxL ret R p e s m args below T h cells slots) {k : Nat} {v : Int32} (hd : decode bytes pc = .ok (.iload k, 2)) (hl : Ls[k]? = some (.val (.int v))) (hp : pc' = pc + 2) (K : Go p e below G (T.setTop (mkF m pc' Ls (.int v :: S)))) : Go p e below G (T.setTop (mkF m pc Ls S)) := by
  obtain ⟨meth, c, locs, X, eT, N, hx, hby, hml, hown, hnm, hret, hlk, hZ, hn⟩ := X; subst hp
  exact go_of (fun _ k => XS.iload (g := (mkF m pc Ls S)) X.here hx rfl (hb hby hd) hl k) K
theorem w_istoreN (X : Sd l Z n0 y bytes maxL ret R p e s m args below T h cells slots) {k : Fin 4} {v : Int32} {l' : Array Slot} (hd : decode bytes pc = .ok (.istore_n k, 1)) (hl : storeLocals Ls k.val (.int v) = some l') (hp : pc' = pc + 1) (K : Go p e below G (T.setTop (mkF m pc' l' S))) : Go p e below G (T.setTop (mkF m pc Ls (.int v :: S))) := by
  obtain ⟨meth, c, locs, X, eT, N, hx, hby, hml, hown, hnm, hret, hlk, hZ, hn⟩ := X; subst hp
  exact go_of (fun _ k => XS.istoreN (g := (mkF m pc Ls (.int v :: S))) X.here hx rfl (hb hby hd) rfl hl k) K
theorem w_istore (X : Sd l Z n0 y bytes maxL ret R p e s m args below T h cells slots) {k : Nat} {v : Int32} {l' : Array Slot} (hd : decode bytes pc = .ok (.istore k, 2)) (hl : storeLocals Ls k (.int v) = some l') (hp : pc' = pc + 2) (K : Go p e below G (T.setTop (mkF m pc' l' S))) : Go p e below G (T.setTop (mkF m pc Ls (.int v :: S))) := by
  obtain ⟨meth, c, locs, X, eT, N, hx, hby, hml, hown, hnm, hret, hlk, hZ, hn⟩ := X; subst hp
  exact go_of (fun _ k => XS.istore (g := (mkF m pc Ls (.int v :: S))) X.here hx rfl (hb hby hd) rfl hl k) K
theorem w_lloadN (X : Sd l Z n0 y bytes maxL ret R p e s m args below T h cells slots) {k : Fin 4} {v : Int64} (hd : decode bytes pc = .ok (.lload_n k, 1)) (hl : Ls[k.val]? = some (.val (.long v))) (hp : pc' = pc + 1) (K : Go p e below G (T.setTop (mkF m pc' Ls (.long v :: S)))) : Go p e below G (T.setTop (mkF m pc Ls S)) := by
  obtain ⟨meth, c, locs, X, eT, N, hx, hby, hml, hown, hnm, hret, hlk, hZ, hn⟩ := X; subst hp
  exact go_of (fun _ k => XS.lloadN (g := (mkF m pc Ls S)) X.here hx rfl (hb hby hd) hl k) K
theorem w_lload (X : Sd l Z n0 y bytes maxL ret R p e s m args below T h cells slots) {k : Nat} {v : Int64} (hd : decode bytes pc = .ok (.lload k, 2)) (hl : Ls[k]? = some (.val (.long v))) (hp : pc' = pc + 2) (K : Go p e below G (T.setTop (mkF m pc' Ls (.long v :: S)))) : Go p e below G (T.setTop (mkF m pc Ls S)) := by
  obtain ⟨meth, c, locs, X, eT, N, hx, hby, hml, hown, hnm, hret, hlk, hZ, hn⟩ := X; subst hp
  exact go_of (fun _ k => XS.lload (g := (mkF m pc Ls S)) X.here hx rfl (hb hby hd) hl k) K
theorem w_lstoreN (X : Sd l Z n0 y bytes maxL ret R p e s m args below T h cells slots) {k : Fin 4} {v : Int64} {l' : Array Slot} (hd : decode bytes pc = .ok (.lstore_n k, 1)) (hl : storeLocals Ls k.val (.long v) = some l') (hp : pc' = pc + 1) (K : Go p e below G (T.setTop (mkF m pc' l' S))) : Go p e below G (T.setTop (mkF m pc Ls (.long v :: S))) := by
  obtain ⟨meth, c, locs, X, eT, N, hx, hby, hml, hown, hnm, hret, hlk, hZ, hn⟩ := X; subst hp
  exact go_of (fun _ k => XS.lstoreN (g := (mkF m pc Ls (.long v :: S))) X.here hx rfl (hb hby hd) rfl hl k) K
theorem w_lstore (X : Sd l Z n0 y bytes maxL ret R p e s m args below T h cells slots) {k : Nat} {v : Int64} {l' : Array Slot} (hd : decode bytes pc = .ok (.lstore k, 2)) (hl : storeLocals Ls k (.long v) = some l') (hp : pc' = pc + 2) (K : Go p e below G (T.setTop (mkF m pc' l' S))) : Go p e below G (T.setTop (mkF m pc Ls (.long v :: S))) := by
  obtain ⟨meth, c, locs, X, eT, N, hx, hby, hml, hown, hnm, hret, hlk, hZ, hn⟩ := X; subst hp
  exact go_of (fun _ k => XS.lstore (g := (mkF m pc Ls (.long v :: S))) X.here hx rfl (hb hby hd) rfl hl k) K
theorem w_aloadN (X : Sd l Z n0 y bytes maxL ret R p e s m args below T h cells slots) {k : Fin 4} {v : Value} (hd : decode bytes pc = .ok (.aload_n k, 1)) (hl : Ls[k.val]? = some (.val v)) (hv : v.isRef = true) (hp : pc' = pc + 1) (K : Go p e below G (T.setTop (mkF m pc' Ls (v :: S)))) : Go p e below G (T.setTop (mkF m pc Ls S)) := by
  obtain ⟨meth, c, locs, X, eT, N, hx, hby, hml, hown, hnm, hret, hlk, hZ, hn⟩ := X; subst hp
  exact go_of (fun _ k => XS.aloadN (g := (mkF m pc Ls S)) X.here hx rfl (hb hby hd) hl hv k) K
theorem w_aload (X : Sd l Z n0 y bytes maxL ret R p e s m args below T h cells slots) {k : Nat} {v : Value} (hd : decode bytes pc = .ok (.aload k, 2)) (hl : Ls[k]? = some (.val v)) (hv : v.isRef = true) (hp : pc' = pc + 2) (K : Go p e below G (T.setTop (mkF m pc' Ls (v :: S)))) : Go p e below G (T.setTop (mkF m pc Ls S)) := by
  obtain ⟨meth, c, locs, X, eT, N, hx, hby, hml, hown, hnm, hret, hlk, hZ, hn⟩ := X; subst hp
  exact go_of (fun _ k => XS.aload (g := (mkF m pc Ls S)) X.here hx rfl (hb hby hd) hl hv k) K
theorem w_astoreN (X : Sd l Z n0 y bytes maxL ret R p e s m args below T h cells slots) {k : Fin 4} {v : Value} {l' : Array Slot} (hd : decode bytes pc = .ok (.astore_n k, 1)) (hv : v.isRef = true) (hl : storeLocals Ls k.val v = some l') (hp : pc' = pc + 1) (K : Go p e below G (T.setTop (mkF m pc' l' S))) : Go p e below G (T.setTop (mkF m pc Ls (v :: S))) := by
  obtain ⟨meth, c, locs, X, eT, N, hx, hby, hml, hown, hnm, hret, hlk, hZ, hn⟩ := X; subst hp
  exact go_of (fun _ k => XS.astoreN (g := (mkF m pc Ls (v :: S))) X.here hx rfl (hb hby hd) rfl hv hl k) K
theorem w_astore (X : Sd l Z n0 y bytes maxL ret R p e s m args below T h cells slots) {k : Nat} {v : Value} {l' : Array Slot} (hd : decode bytes pc = .ok (.astore k, 2)) (hv : v.isRef = true) (hl : storeLocals Ls k v = some l') (hp : pc' = pc + 2) (K : Go p e below G (T.setTop (mkF m pc' l' S))) : Go p e below G (T.setTop (mkF m pc Ls (v :: S))) := by
  obtain ⟨meth, c, locs, X, eT, N, hx, hby, hml, hown, hnm, hret, hlk, hZ, hn⟩ := X; subst hp
  exact go_of (fun _ k => XS.astore (g := (mkF m pc Ls (v :: S))) X.here hx rfl (hb hby hd) rfl hv hl k) K
theorem w_iconst (X : Sd l Z n0 y bytes maxL ret R p e s m args below T h cells slots) {i : Int} (z : Int32) (hd : decode bytes pc = .ok (.iconst i, 1)) (hz : Int32.ofInt i = z) (hp : pc' = pc + 1) (K : Go p e below G (T.setTop (mkF m pc' Ls (.int z :: S)))) : Go p e below G (T.setTop (mkF m pc Ls S)) := by
  obtain ⟨meth, c, locs, X, eT, N, hx, hby, hml, hown, hnm, hret, hlk, hZ, hn⟩ := X; subst hp
  exact go_of (fun _ k => XS.iconst (g := mkF m pc Ls S) X.here hx rfl (hb hby hd) (by rw [hz]; exact k)) K
theorem w_bipush (X : Sd l Z n0 y bytes maxL ret R p e s m args below T h cells slots) {i : Int} (z : Int32) (hd : decode bytes pc = .ok (.bipush i, 2)) (hz : (Int8.ofInt i).toInt32 = z) (hp : pc' = pc + 2) (K : Go p e below G (T.setTop (mkF m pc' Ls (.int z :: S)))) : Go p e below G (T.setTop (mkF m pc Ls S)) := by
  obtain ⟨meth, c, locs, X, eT, N, hx, hby, hml, hown, hnm, hret, hlk, hZ, hn⟩ := X; subst hp
  exact go_of (fun _ k => XS.bipush (g := mkF m pc Ls S) X.here hx rfl (hb hby hd) (by rw [hz]; exact k)) K
theorem w_sipush (X : Sd l Z n0 y bytes maxL ret R p e s m args below T h cells slots) {i : Int} (z : Int32) (hd : decode bytes pc = .ok (.sipush i, 3)) (hz : (Int16.ofInt i).toInt32 = z) (hp : pc' = pc + 3) (K : Go p e below G (T.setTop (mkF m pc' Ls (.int z :: S)))) : Go p e below G (T.setTop (mkF m pc Ls S)) := by
  obtain ⟨meth, c, locs, X, eT, N, hx, hby, hml, hown, hnm, hret, hlk, hZ, hn⟩ := X; subst hp
  exact go_of (fun _ k => XS.sipush (g := mkF m pc Ls S) X.here hx rfl (hb hby hd) (by rw [hz]; exact k)) K
theorem w_lconst (X : Sd l Z n0 y bytes maxL ret R p e s m args below T h cells slots) {i : Fin 2} (z : Int64) (hd : decode bytes pc = .ok (.lconst i, 1)) (hz : Int64.ofNat i = z) (hp : pc' = pc + 1) (K : Go p e below G (T.setTop (mkF m pc' Ls (.long z :: S)))) : Go p e below G (T.setTop (mkF m pc Ls S)) := by
  obtain ⟨meth, c, locs, X, eT, N, hx, hby, hml, hown, hnm, hret, hlk, hZ, hn⟩ := X; subst hp
  exact go_of (fun _ k => XS.lconst (g := mkF m pc Ls S) X.here hx rfl (hb hby hd) (by rw [hz]; exact k)) K
theorem w_aconst_null (X : Sd l Z n0 y bytes maxL ret R p e s m args below T h cells slots)  (hd : decode bytes pc = .ok (.aconst_null, 1)) (hp : pc' = pc + 1) (K : Go p e below G (T.setTop (mkF m pc' Ls (.null :: S)))) : Go p e below G (T.setTop (mkF m pc Ls S)) := by
  obtain ⟨meth, c, locs, X, eT, N, hx, hby, hml, hown, hnm, hret, hlk, hZ, hn⟩ := X; subst hp
  exact go_of (fun _ k => XS.aconstNull (g := (mkF m pc Ls S)) X.here hx rfl (hb hby hd)  k) K
theorem w_iadd (X : Sd l Z n0 y bytes maxL ret R p e s m args below T h cells slots) {a b : Int32} (hd : decode bytes pc = .ok (.iadd, 1)) (hp : pc' = pc + 1) (K : Go p e below G (T.setTop (mkF m pc' Ls (.int (a + b) :: S)))) : Go p e below G (T.setTop (mkF m pc Ls (.int b :: .int a :: S))) := by
  obtain ⟨meth, c, locs, X, eT, N, hx, hby, hml, hown, hnm, hret, hlk, hZ, hn⟩ := X; subst hp
  exact go_of (fun _ k => XS.iadd (g := (mkF m pc Ls (.int b :: .int a :: S))) X.here hx rfl (hb hby hd) rfl k) K
theorem w_ladd (X : Sd l Z n0 y bytes maxL ret R p e s m args below T h cells slots) {a b : Int64} (hd : decode bytes pc = .ok (.ladd, 1)) (hp : pc' = pc + 1) (K : Go p e below G (T.setTop (mkF m pc' Ls (.long (a + b) :: S)))) : Go p e below G (T.setTop (mkF m pc Ls (.long b :: .long a :: S))) := by
  obtain ⟨meth, c, locs, X, eT, N, hx, hby, hml, hown, hnm, hret, hlk, hZ, hn⟩ := X; subst hp
  exact go_of (fun _ k => XS.ladd (g := (mkF m pc Ls (.long b :: .long a :: S))) X.here hx rfl (hb hby hd) rfl k) K
theorem w_isub (X : Sd l Z n0 y bytes maxL ret R p e s m args below T h cells slots) {a b : Int32} (hd : decode bytes pc = .ok (.isub, 1)) (hp : pc' = pc + 1) (K : Go p e below G (T.setTop (mkF m pc' Ls (.int (a - b) :: S)))) : Go p e below G (T.setTop (mkF m pc Ls (.int b :: .int a :: S))) := by
  obtain ⟨meth, c, locs, X, eT, N, hx, hby, hml, hown, hnm, hret, hlk, hZ, hn⟩ := X; subst hp
  exact go_of (fun _ k => XS.isub (g := (mkF m pc Ls (.int b :: .int a :: S))) X.here hx rfl (hb hby hd) rfl k) K
theorem w_lsub (X : Sd l Z n0 y bytes maxL ret R p e s m args below T h cells slots) {a b : Int64} (hd : decode bytes pc = .ok (.lsub, 1)) (hp : pc' = pc + 1) (K : Go p e below G (T.setTop (mkF m pc' Ls (.long (a - b) :: S)))) : Go p e below G (T.setTop (mkF m pc Ls (.long b :: .long a :: S))) := by
  obtain ⟨meth, c, locs, X, eT, N, hx, hby, hml, hown, hnm, hret, hlk, hZ, hn⟩ := X; subst hp
  exact go_of (fun _ k => XS.lsub (g := (mkF m pc Ls (.long b :: .long a :: S))) X.here hx rfl (hb hby hd) rfl k) K
theorem w_imul (X : Sd l Z n0 y bytes maxL ret R p e s m args below T h cells slots) {a b : Int32} (hd : decode bytes pc = .ok (.imul, 1)) (hp : pc' = pc + 1) (K : Go p e below G (T.setTop (mkF m pc' Ls (.int (a * b) :: S)))) : Go p e below G (T.setTop (mkF m pc Ls (.int b :: .int a :: S))) := by
  obtain ⟨meth, c, locs, X, eT, N, hx, hby, hml, hown, hnm, hret, hlk, hZ, hn⟩ := X; subst hp
  exact go_of (fun _ k => XS.imul (g := (mkF m pc Ls (.int b :: .int a :: S))) X.here hx rfl (hb hby hd) rfl k) K
theorem w_lmul (X : Sd l Z n0 y bytes maxL ret R p e s m args below T h cells slots) {a b : Int64} (hd : decode bytes pc = .ok (.lmul, 1)) (hp : pc' = pc + 1) (K : Go p e below G (T.setTop (mkF m pc' Ls (.long (a * b) :: S)))) : Go p e below G (T.setTop (mkF m pc Ls (.long b :: .long a :: S))) := by
  obtain ⟨meth, c, locs, X, eT, N, hx, hby, hml, hown, hnm, hret, hlk, hZ, hn⟩ := X; subst hp
  exact go_of (fun _ k => XS.lmul (g := (mkF m pc Ls (.long b :: .long a :: S))) X.here hx rfl (hb hby hd) rfl k) K
theorem w_iand (X : Sd l Z n0 y bytes maxL ret R p e s m args below T h cells slots) {a b : Int32} (hd : decode bytes pc = .ok (.iand, 1)) (hp : pc' = pc + 1) (K : Go p e below G (T.setTop (mkF m pc' Ls (.int (a &&& b) :: S)))) : Go p e below G (T.setTop (mkF m pc Ls (.int b :: .int a :: S))) := by
  obtain ⟨meth, c, locs, X, eT, N, hx, hby, hml, hown, hnm, hret, hlk, hZ, hn⟩ := X; subst hp
  exact go_of (fun _ k => XS.iand (g := (mkF m pc Ls (.int b :: .int a :: S))) X.here hx rfl (hb hby hd) rfl k) K
theorem w_land (X : Sd l Z n0 y bytes maxL ret R p e s m args below T h cells slots) {a b : Int64} (hd : decode bytes pc = .ok (.land, 1)) (hp : pc' = pc + 1) (K : Go p e below G (T.setTop (mkF m pc' Ls (.long (a &&& b) :: S)))) : Go p e below G (T.setTop (mkF m pc Ls (.long b :: .long a :: S))) := by
  obtain ⟨meth, c, locs, X, eT, N, hx, hby, hml, hown, hnm, hret, hlk, hZ, hn⟩ := X; subst hp
  exact go_of (fun _ k => XS.land (g := (mkF m pc Ls (.long b :: .long a :: S))) X.here hx rfl (hb hby hd) rfl k) K
theorem w_ior (X : Sd l Z n0 y bytes maxL ret R p e s m args below T h cells slots) {a b : Int32} (hd : decode bytes pc = .ok (.ior, 1)) (hp : pc' = pc + 1) (K : Go p e below G (T.setTop (mkF m pc' Ls (.int (a ||| b) :: S)))) : Go p e below G (T.setTop (mkF m pc Ls (.int b :: .int a :: S))) := by
  obtain ⟨meth, c, locs, X, eT, N, hx, hby, hml, hown, hnm, hret, hlk, hZ, hn⟩ := X; subst hp
  exact go_of (fun _ k => XS.ior (g := (mkF m pc Ls (.int b :: .int a :: S))) X.here hx rfl (hb hby hd) rfl k) K
theorem w_lor (X : Sd l Z n0 y bytes maxL ret R p e s m args below T h cells slots) {a b : Int64} (hd : decode bytes pc = .ok (.lor, 1)) (hp : pc' = pc + 1) (K : Go p e below G (T.setTop (mkF m pc' Ls (.long (a ||| b) :: S)))) : Go p e below G (T.setTop (mkF m pc Ls (.long b :: .long a :: S))) := by
  obtain ⟨meth, c, locs, X, eT, N, hx, hby, hml, hown, hnm, hret, hlk, hZ, hn⟩ := X; subst hp
  exact go_of (fun _ k => XS.lor (g := (mkF m pc Ls (.long b :: .long a :: S))) X.here hx rfl (hb hby hd) rfl k) K
theorem w_ixor (X : Sd l Z n0 y bytes maxL ret R p e s m args below T h cells slots) {a b : Int32} (hd : decode bytes pc = .ok (.ixor, 1)) (hp : pc' = pc + 1) (K : Go p e below G (T.setTop (mkF m pc' Ls (.int (a ^^^ b) :: S)))) : Go p e below G (T.setTop (mkF m pc Ls (.int b :: .int a :: S))) := by
  obtain ⟨meth, c, locs, X, eT, N, hx, hby, hml, hown, hnm, hret, hlk, hZ, hn⟩ := X; subst hp
  exact go_of (fun _ k => XS.ixor (g := (mkF m pc Ls (.int b :: .int a :: S))) X.here hx rfl (hb hby hd) rfl k) K
theorem w_lxor (X : Sd l Z n0 y bytes maxL ret R p e s m args below T h cells slots) {a b : Int64} (hd : decode bytes pc = .ok (.lxor, 1)) (hp : pc' = pc + 1) (K : Go p e below G (T.setTop (mkF m pc' Ls (.long (a ^^^ b) :: S)))) : Go p e below G (T.setTop (mkF m pc Ls (.long b :: .long a :: S))) := by
  obtain ⟨meth, c, locs, X, eT, N, hx, hby, hml, hown, hnm, hret, hlk, hZ, hn⟩ := X; subst hp
  exact go_of (fun _ k => XS.lxor (g := (mkF m pc Ls (.long b :: .long a :: S))) X.here hx rfl (hb hby hd) rfl k) K
theorem w_ishl (X : Sd l Z n0 y bytes maxL ret R p e s m args below T h cells slots) {a b : Int32} (hd : decode bytes pc = .ok (.ishl, 1)) (hp : pc' = pc + 1) (K : Go p e below G (T.setTop (mkF m pc' Ls (.int (a <<< (b &&& 31)) :: S)))) : Go p e below G (T.setTop (mkF m pc Ls (.int b :: .int a :: S))) := by
  obtain ⟨meth, c, locs, X, eT, N, hx, hby, hml, hown, hnm, hret, hlk, hZ, hn⟩ := X; subst hp
  exact go_of (fun _ k => XS.ishl (g := (mkF m pc Ls (.int b :: .int a :: S))) X.here hx rfl (hb hby hd) rfl k) K
theorem w_ishr (X : Sd l Z n0 y bytes maxL ret R p e s m args below T h cells slots) {a b : Int32} (hd : decode bytes pc = .ok (.ishr, 1)) (hp : pc' = pc + 1) (K : Go p e below G (T.setTop (mkF m pc' Ls (.int (a >>> (b &&& 31)) :: S)))) : Go p e below G (T.setTop (mkF m pc Ls (.int b :: .int a :: S))) := by
  obtain ⟨meth, c, locs, X, eT, N, hx, hby, hml, hown, hnm, hret, hlk, hZ, hn⟩ := X; subst hp
  exact go_of (fun _ k => XS.ishr (g := (mkF m pc Ls (.int b :: .int a :: S))) X.here hx rfl (hb hby hd) rfl k) K
theorem w_iushr (X : Sd l Z n0 y bytes maxL ret R p e s m args below T h cells slots) {a b : Int32} (hd : decode bytes pc = .ok (.iushr, 1)) (hp : pc' = pc + 1) (K : Go p e below G (T.setTop (mkF m pc' Ls (.int ((a.toUInt32 >>> (b &&& 31).toUInt32).toInt32) :: S)))) : Go p e below G (T.setTop (mkF m pc Ls (.int b :: .int a :: S))) := by
  obtain ⟨meth, c, locs, X, eT, N, hx, hby, hml, hown, hnm, hret, hlk, hZ, hn⟩ := X; subst hp
  exact go_of (fun _ k => XS.iushr (g := (mkF m pc Ls (.int b :: .int a :: S))) X.here hx rfl (hb hby hd) rfl k) K
theorem w_lshl (X : Sd l Z n0 y bytes maxL ret R p e s m args below T h cells slots) {a : Int64} {b : Int32} (hd : decode bytes pc = .ok (.lshl, 1)) (hp : pc' = pc + 1) (K : Go p e below G (T.setTop (mkF m pc' Ls (.long (a <<< (b &&& 0x3f).toInt64) :: S)))) : Go p e below G (T.setTop (mkF m pc Ls (.int b :: .long a :: S))) := by
  obtain ⟨meth, c, locs, X, eT, N, hx, hby, hml, hown, hnm, hret, hlk, hZ, hn⟩ := X; subst hp
  exact go_of (fun _ k => XS.lshl (g := (mkF m pc Ls (.int b :: .long a :: S))) X.here hx rfl (hb hby hd) rfl k) K
theorem w_lshr (X : Sd l Z n0 y bytes maxL ret R p e s m args below T h cells slots) {a : Int64} {b : Int32} (hd : decode bytes pc = .ok (.lshr, 1)) (hp : pc' = pc + 1) (K : Go p e below G (T.setTop (mkF m pc' Ls (.long (a >>> (b &&& 0x3f).toInt64) :: S)))) : Go p e below G (T.setTop (mkF m pc Ls (.int b :: .long a :: S))) := by
  obtain ⟨meth, c, locs, X, eT, N, hx, hby, hml, hown, hnm, hret, hlk, hZ, hn⟩ := X; subst hp
  exact go_of (fun _ k => XS.lshr (g := (mkF m pc Ls (.int b :: .long a :: S))) X.here hx rfl (hb hby hd) rfl k) K
theorem w_lushr (X : Sd l Z n0 y bytes maxL ret R p e s m args below T h cells slots) {a : Int64} {b : Int32} (hd : decode bytes pc = .ok (.lushr, 1)) (hp : pc' = pc + 1) (K : Go p e below G (T.setTop (mkF m pc' Ls (.long ((a.toUInt64 >>> (b &&& 0x3f).toInt64.toUInt64).toInt64) :: S)))) : Go p e below G (T.setTop (mkF m pc Ls (.int b :: .long a :: S))) := by
  obtain ⟨meth, c, locs, X, eT, N, hx, hby, hml, hown, hnm, hret, hlk, hZ, hn⟩ := X; subst hp
  exact go_of (fun _ k => XS.lushr (g := (mkF m pc Ls (.int b :: .long a :: S))) X.here hx rfl (hb hby hd) rfl k) K
theorem w_idiv (X : Sd l Z n0 y bytes maxL ret R p e s m args below T h cells slots) {a b : Int32} (hd : decode bytes pc = .ok (.idiv, 1)) (hz : b ≠ 0) (hp : pc' = pc + 1) (K : Go p e below G (T.setTop (mkF m pc' Ls (.int (a / b) :: S)))) : Go p e below G (T.setTop (mkF m pc Ls (.int b :: .int a :: S))) := by
  obtain ⟨meth, c, locs, X, eT, N, hx, hby, hml, hown, hnm, hret, hlk, hZ, hn⟩ := X; subst hp
  exact go_of (fun _ k => XS.idiv (g := (mkF m pc Ls (.int b :: .int a :: S))) X.here hx rfl (hb hby hd) rfl hz k) K
theorem w_ldiv (X : Sd l Z n0 y bytes maxL ret R p e s m args below T h cells slots) {a b : Int64} (hd : decode bytes pc = .ok (.ldiv, 1)) (hz : b ≠ 0) (hp : pc' = pc + 1) (K : Go p e below G (T.setTop (mkF m pc' Ls (.long (a / b) :: S)))) : Go p e below G (T.setTop (mkF m pc Ls (.long b :: .long a :: S))) := by
  obtain ⟨meth, c, locs, X, eT, N, hx, hby, hml, hown, hnm, hret, hlk, hZ, hn⟩ := X; subst hp
  exact go_of (fun _ k => XS.ldiv (g := (mkF m pc Ls (.long b :: .long a :: S))) X.here hx rfl (hb hby hd) rfl hz k) K
theorem w_irem (X : Sd l Z n0 y bytes maxL ret R p e s m args below T h cells slots) {a b : Int32} (hd : decode bytes pc = .ok (.irem, 1)) (hz : b ≠ 0) (hp : pc' = pc + 1) (K : Go p e below G (T.setTop (mkF m pc' Ls (.int (a % b) :: S)))) : Go p e below G (T.setTop (mkF m pc Ls (.int b :: .int a :: S))) := by
  obtain ⟨meth, c, locs, X, eT, N, hx, hby, hml, hown, hnm, hret, hlk, hZ, hn⟩ := X; subst hp
  exact go_of (fun _ k => iremM (g := mkF m pc Ls (.int b :: .int a :: S)) X hx rfl (hb hby hd) rfl hz k) K
theorem w_lrem (X : Sd l Z n0 y bytes maxL ret R p e s m args below T h cells slots) {a b : Int64} (hd : decode bytes pc = .ok (.lrem, 1)) (hz : b ≠ 0) (hp : pc' = pc + 1) (K : Go p e below G (T.setTop (mkF m pc' Ls (.long (a % b) :: S)))) : Go p e below G (T.setTop (mkF m pc Ls (.long b :: .long a :: S))) := by
  obtain ⟨meth, c, locs, X, eT, N, hx, hby, hml, hown, hnm, hret, hlk, hZ, hn⟩ := X; subst hp
  exact go_of (fun _ k => XS.lrem (g := mkF m pc Ls (.long b :: .long a :: S)) X.here hx rfl (hb hby hd) rfl hz (by rw [lrem_mod]; exact k)) K
theorem w_ineg (X : Sd l Z n0 y bytes maxL ret R p e s m args below T h cells slots) {a : Int32} (hd : decode bytes pc = .ok (.ineg, 1)) (hp : pc' = pc + 1) (K : Go p e below G (T.setTop (mkF m pc' Ls (.int (-a) :: S)))) : Go p e below G (T.setTop (mkF m pc Ls (.int a :: S))) := by
  obtain ⟨meth, c, locs, X, eT, N, hx, hby, hml, hown, hnm, hret, hlk, hZ, hn⟩ := X; subst hp
  exact go_of (fun _ k => XS.ineg (g := (mkF m pc Ls (.int a :: S))) X.here hx rfl (hb hby hd) rfl k) K
theorem w_lneg (X : Sd l Z n0 y bytes maxL ret R p e s m args below T h cells slots) {a : Int64} (hd : decode bytes pc = .ok (.lneg, 1)) (hp : pc' = pc + 1) (K : Go p e below G (T.setTop (mkF m pc' Ls (.long (-a) :: S)))) : Go p e below G (T.setTop (mkF m pc Ls (.long a :: S))) := by
  obtain ⟨meth, c, locs, X, eT, N, hx, hby, hml, hown, hnm, hret, hlk, hZ, hn⟩ := X; subst hp
  exact go_of (fun _ k => XS.lneg (g := (mkF m pc Ls (.long a :: S))) X.here hx rfl (hb hby hd) rfl k) K
theorem w_i2l (X : Sd l Z n0 y bytes maxL ret R p e s m args below T h cells slots) {a : Int32} (hd : decode bytes pc = .ok (.i2l, 1)) (hp : pc' = pc + 1) (K : Go p e below G (T.setTop (mkF m pc' Ls (.long (a.toInt64) :: S)))) : Go p e below G (T.setTop (mkF m pc Ls (.int a :: S))) := by
  obtain ⟨meth, c, locs, X, eT, N, hx, hby, hml, hown, hnm, hret, hlk, hZ, hn⟩ := X; subst hp
  exact go_of (fun _ k => XS.i2l (g := (mkF m pc Ls (.int a :: S))) X.here hx rfl (hb hby hd) rfl k) K
theorem w_l2i (X : Sd l Z n0 y bytes maxL ret R p e s m args below T h cells slots) {a : Int64} (hd : decode bytes pc = .ok (.l2i, 1)) (hp : pc' = pc + 1) (K : Go p e below G (T.setTop (mkF m pc' Ls (.int (a.toInt32) :: S)))) : Go p e below G (T.setTop (mkF m pc Ls (.long a :: S))) := by
  obtain ⟨meth, c, locs, X, eT, N, hx, hby, hml, hown, hnm, hret, hlk, hZ, hn⟩ := X; subst hp
  exact go_of (fun _ k => XS.l2i (g := (mkF m pc Ls (.long a :: S))) X.here hx rfl (hb hby hd) rfl k) K
theorem w_i2b (X : Sd l Z n0 y bytes maxL ret R p e s m args below T h cells slots) {a : Int32} (hd : decode bytes pc = .ok (.i2b, 1)) (hp : pc' = pc + 1) (K : Go p e below G (T.setTop (mkF m pc' Ls (.int (a.toInt8.toInt32) :: S)))) : Go p e below G (T.setTop (mkF m pc Ls (.int a :: S))) := by
  obtain ⟨meth, c, locs, X, eT, N, hx, hby, hml, hown, hnm, hret, hlk, hZ, hn⟩ := X; subst hp
  exact go_of (fun _ k => XS.i2b (g := (mkF m pc Ls (.int a :: S))) X.here hx rfl (hb hby hd) rfl k) K
theorem w_i2s (X : Sd l Z n0 y bytes maxL ret R p e s m args below T h cells slots) {a : Int32} (hd : decode bytes pc = .ok (.i2s, 1)) (hp : pc' = pc + 1) (K : Go p e below G (T.setTop (mkF m pc' Ls (.int (a.toInt16.toInt32) :: S)))) : Go p e below G (T.setTop (mkF m pc Ls (.int a :: S))) := by
  obtain ⟨meth, c, locs, X, eT, N, hx, hby, hml, hown, hnm, hret, hlk, hZ, hn⟩ := X; subst hp
  exact go_of (fun _ k => XS.i2s (g := (mkF m pc Ls (.int a :: S))) X.here hx rfl (hb hby hd) rfl k) K
theorem w_i2c (X : Sd l Z n0 y bytes maxL ret R p e s m args below T h cells slots) {a : Int32} (hd : decode bytes pc = .ok (.i2c, 1)) (hp : pc' = pc + 1) (K : Go p e below G (T.setTop (mkF m pc' Ls (.int (a.toUInt32.toUInt16.toUInt32.toInt32) :: S)))) : Go p e below G (T.setTop (mkF m pc Ls (.int a :: S))) := by
  obtain ⟨meth, c, locs, X, eT, N, hx, hby, hml, hown, hnm, hret, hlk, hZ, hn⟩ := X; subst hp
  exact go_of (fun _ k => XS.i2c (g := (mkF m pc Ls (.int a :: S))) X.here hx rfl (hb hby hd) rfl k) K
theorem w_lcmp (X : Sd l Z n0 y bytes maxL ret R p e s m args below T h cells slots) {a b : Int64} (hd : decode bytes pc = .ok (.lcmp, 1)) (hp : pc' = pc + 1) (K : Go p e below G (T.setTop (mkF m pc' Ls (.int (lcmpW a b) :: S)))) : Go p e below G (T.setTop (mkF m pc Ls (.long b :: .long a :: S))) := by
  obtain ⟨meth, c, locs, X, eT, N, hx, hby, hml, hown, hnm, hret, hlk, hZ, hn⟩ := X; subst hp
  exact go_of (fun _ k => XS.lcmp (g := (mkF m pc Ls (.long b :: .long a :: S))) X.here hx rfl (hb hby hd) rfl k) K
theorem w_iinc (X : Sd l Z n0 y bytes maxL ret R p e s m args below T h cells slots) {k : Nat} {i : Int} {v : Int32} {l' : Array Slot} (z : Int32) (hd : decode bytes pc = .ok (.iinc k i, 3)) (hl : Ls[k]? = some (.val (.int v))) (hz : v + Int32.ofInt i = z) (hl' : storeLocals Ls k (.int z) = some l') (hp : pc' = pc + 3) (K : Go p e below G (T.setTop (mkF m pc' l' S))) : Go p e below G (T.setTop (mkF m pc Ls S)) := by
  obtain ⟨meth, c, locs, X, eT, N, hx, hby, hml, hown, hnm, hret, hlk, hZ, hn⟩ := X; subst hp
  exact go_of (fun _ k => XS.iinc (g := mkF m pc Ls S) X.here hx rfl (hb hby hd) hl (by rw [hz]; exact hl') k) K
theorem w_dup (X : Sd l Z n0 y bytes maxL ret R p e s m args below T h cells slots) {v : Value} (hd : decode bytes pc = .ok (.dup, 1)) (hc : v.category = 1) (hp : pc' = pc + 1) (K : Go p e below G (T.setTop (mkF m pc' Ls (v :: v :: S)))) : Go p e below G (T.setTop (mkF m pc Ls (v :: S))) := by
  obtain ⟨meth, c, locs, X, eT, N, hx, hby, hml, hown, hnm, hret, hlk, hZ, hn⟩ := X; subst hp
  exact go_of (fun _ k => XS.dup (g := (mkF m pc Ls (v :: S))) X.here hx rfl (hb hby hd) rfl hc k) K
theorem w_pop (X : Sd l Z n0 y bytes maxL ret R p e s m args below T h cells slots) {v : Value} (hd : decode bytes pc = .ok (.pop, 1)) (hc : v.category = 1) (hp : pc' = pc + 1) (K : Go p e below G (T.setTop (mkF m pc' Ls S))) : Go p e below G (T.setTop (mkF m pc Ls (v :: S))) := by
  obtain ⟨meth, c, locs, X, eT, N, hx, hby, hml, hown, hnm, hret, hlk, hZ, hn⟩ := X; subst hp
  exact go_of (fun _ k => XS.pop (g := (mkF m pc Ls (v :: S))) X.here hx rfl (hb hby hd) rfl hc k) K
theorem w_dup_x1 (X : Sd l Z n0 y bytes maxL ret R p e s m args below T h cells slots) {v w : Value} (hd : decode bytes pc = .ok (.dup_x1, 1)) (hc : v.category = 1) (hc2 : w.category = 1) (hp : pc' = pc + 1) (K : Go p e below G (T.setTop (mkF m pc' Ls (v :: w :: v :: S)))) : Go p e below G (T.setTop (mkF m pc Ls (v :: w :: S))) := by
  obtain ⟨meth, c, locs, X, eT, N, hx, hby, hml, hown, hnm, hret, hlk, hZ, hn⟩ := X; subst hp
  exact go_of (fun _ k => XS.dupX1 (g := (mkF m pc Ls (v :: w :: S))) X.here hx rfl (hb hby hd) rfl hc hc2 k) K
theorem w_dup2 (X : Sd l Z n0 y bytes maxL ret R p e s m args below T h cells slots) {v w : Value} (hd : decode bytes pc = .ok (.dup2, 1)) (hc : v.category = 1) (hc2 : w.category = 1) (hp : pc' = pc + 1) (K : Go p e below G (T.setTop (mkF m pc' Ls (v :: w :: v :: w :: S)))) : Go p e below G (T.setTop (mkF m pc Ls (v :: w :: S))) := by
  obtain ⟨meth, c, locs, X, eT, N, hx, hby, hml, hown, hnm, hret, hlk, hZ, hn⟩ := X; subst hp
  exact go_of (fun _ k => Jvm.Free.XT.dup2 (g := (mkF m pc Ls (v :: w :: S))) X.here hx rfl (hb hby hd) rfl hc hc2 k) K
theorem w_dup2L (X : Sd l Z n0 y bytes maxL ret R p e s m args below T h cells slots) {v : Int64} (hd : decode bytes pc = .ok (.dup2, 1)) (hp : pc' = pc + 1) (K : Go p e below G (T.setTop (mkF m pc' Ls (.long v :: .long v :: S)))) : Go p e below G (T.setTop (mkF m pc Ls (.long v :: S))) := by
  obtain ⟨meth, c, locs, X, eT, N, hx, hby, hml, hown, hnm, hret, hlk, hZ, hn⟩ := X; subst hp
  exact go_of (fun _ k => Jvm.Free.XT.dup2L (g := (mkF m pc Ls (.long v :: S))) X.here hx rfl (hb hby hd) rfl k) K
theorem w_goto (X : Sd l Z n0 y bytes maxL ret R p e s m args below T h cells slots) {i : Int} (hd : decode bytes pc = .ok (.goto i, 3)) (ho : 0 ≤ (pc : Int) + i) (hp : ((pc : Int) + i).toNat = pc') (K : Go p e below G (T.setTop (mkF m pc' Ls S))) : Go p e below G (T.setTop (mkF m pc Ls S)) := by
  obtain ⟨meth, c, locs, X, eT, N, hx, hby, hml, hown, hnm, hret, hlk, hZ, hn⟩ := X
  exact go_of (fun _ k => XS.goto (g := mkF m pc Ls S) X.here hx rfl rfl (hb hby hd) ho hp k) K
theorem w_icmp_eq (X : Sd l Z n0 y bytes maxL ret R p e s m args below T h cells slots) {a b : Int32} {i : Int} (pt pf : Nat) (hd : decode bytes pc = .ok (.if_icmp .eq i, 3)) (ho : 0 ≤ (pc : Int) + i) (ht : ((pc : Int) + i).toNat = pt) (hf : pf = pc + 3) (kt : a = b → Go p e below G (T.setTop (mkF m pt Ls S))) (kf : ¬ a = b → Go p e below G (T.setTop (mkF m pf Ls S))) : Go p e below G (T.setTop (mkF m pc Ls (.int b :: .int a :: S))) := by
  obtain ⟨meth, c, locs, X, eT, N, hx, hby, hml, hown, hnm, hret, hlk, hZ, hn⟩ := X; subst hf
  by_cases q : a = b
  · exact go_of (fun _ k => XS.icmpYes (g := mkF m pc Ls (.int b :: .int a :: S)) X.here hx rfl rfl (hb hby hd) rfl (teq q).1 ho ht k) (kt q)
  · skip
    exact go_of (fun _ k => XS.icmpNo (g := mkF m pc Ls (.int b :: .int a :: S)) X.here hx rfl (hb hby hd) rfl (feq q).1 k) (kf q)
theorem w_if_eq (X : Sd l Z n0 y bytes maxL ret R p e s m args below T h cells slots) {a : Int32} {i : Int} (pt pf : Nat) (hd : decode bytes pc = .ok (.ifCond .eq i, 3)) (ho : 0 ≤ (pc : Int) + i) (ht : ((pc : Int) + i).toNat = pt) (hf : pf = pc + 3) (kt : a = (0 : Int32) → Go p e below G (T.setTop (mkF m pt Ls S))) (kf : ¬ a = (0 : Int32) → Go p e below G (T.setTop (mkF m pf Ls S))) : Go p e below G (T.setTop (mkF m pc Ls (.int a :: S))) := by
  obtain ⟨meth, c, locs, X, eT, N, hx, hby, hml, hown, hnm, hret, hlk, hZ, hn⟩ := X; subst hf
  by_cases q : a = (0 : Int32)
  · exact go_of (fun _ k => XS.ifYes (g := mkF m pc Ls (.int a :: S)) X.here hx rfl rfl (hb hby hd) rfl ((if0 _ _).trans (teq q).1) ho ht k) (kt q)
  · skip
    exact go_of (fun _ k => XS.ifNo (g := mkF m pc Ls (.int a :: S)) X.here hx rfl (hb hby hd) rfl ((if0 _ _).trans (feq q).1) k) (kf q)
theorem w_icmp_ne (X : Sd l Z n0 y bytes maxL ret R p e s m args below T h cells slots) {a b : Int32} {i : Int} (pt pf : Nat) (hd : decode bytes pc = .ok (.if_icmp .ne i, 3)) (ho : 0 ≤ (pc : Int) + i) (ht : ((pc : Int) + i).toNat = pt) (hf : pf = pc + 3) (kt : ¬ a = b → Go p e below G (T.setTop (mkF m pt Ls S))) (kf : a = b → Go p e below G (T.setTop (mkF m pf Ls S))) : Go p e below G (T.setTop (mkF m pc Ls (.int b :: .int a :: S))) := by
  obtain ⟨meth, c, locs, X, eT, N, hx, hby, hml, hown, hnm, hret, hlk, hZ, hn⟩ := X; subst hf
  by_cases q : ¬ a = b
  · exact go_of (fun _ k => XS.icmpYes (g := mkF m pc Ls (.int b :: .int a :: S)) X.here hx rfl rfl (hb hby hd) rfl (feq q).2 ho ht k) (kt q)
  · replace q := Decidable.not_not.mp q
    exact go_of (fun _ k => XS.icmpNo (g := mkF m pc Ls (.int b :: .int a :: S)) X.here hx rfl (hb hby hd) rfl (teq q).2 k) (kf q)
theorem w_if_ne (X : Sd l Z n0 y bytes maxL ret R p e s m args below T h cells slots) {a : Int32} {i : Int} (pt pf : Nat) (hd : decode bytes pc = .ok (.ifCond .ne i, 3)) (ho : 0 ≤ (pc : Int) + i) (ht : ((pc : Int) + i).toNat = pt) (hf : pf = pc + 3) (kt : ¬ a = (0 : Int32) → Go p e below G (T.setTop (mkF m pt Ls S))) (kf : a = (0 : Int32) → Go p e below G (T.setTop (mkF m pf Ls S))) : Go p e below G (T.setTop (mkF m pc Ls (.int a :: S))) := by
  obtain ⟨meth, c, locs, X, eT, N, hx, hby, hml, hown, hnm, hret, hlk, hZ, hn⟩ := X; subst hf
  by_cases q : ¬ a = (0 : Int32)
  · exact go_of (fun _ k => XS.ifYes (g := mkF m pc Ls (.int a :: S)) X.here hx rfl rfl (hb hby hd) rfl ((if0 _ _).trans (feq q).2) ho ht k) (kt q)
  · replace q := Decidable.not_not.mp q
    exact go_of (fun _ k => XS.ifNo (g := mkF m pc Ls (.int a :: S)) X.here hx rfl (hb hby hd) rfl ((if0 _ _).trans (teq q).2) k) (kf q)
theorem w_icmp_lt (X : Sd l Z n0 y bytes maxL ret R p e s m args below T h cells slots) {a b : Int32} {i : Int} (pt pf : Nat) (hd : decode bytes pc = .ok (.if_icmp .lt i, 3)) (ho : 0 ≤ (pc : Int) + i) (ht : ((pc : Int) + i).toNat = pt) (hf : pf = pc + 3) (kt : a < b → Go p e below G (T.setTop (mkF m pt Ls S))) (kf : ¬ a < b → Go p e below G (T.setTop (mkF m pf Ls S))) : Go p e below G (T.setTop (mkF m pc Ls (.int b :: .int a :: S))) := by
  obtain ⟨meth, c, locs, X, eT, N, hx, hby, hml, hown, hnm, hret, hlk, hZ, hn⟩ := X; subst hf
  by_cases q : a < b
  · exact go_of (fun _ k => XS.icmpYes (g := mkF m pc Ls (.int b :: .int a :: S)) X.here hx rfl rfl (hb hby hd) rfl (tlt q).1 ho ht k) (kt q)
  · skip
    exact go_of (fun _ k => XS.icmpNo (g := mkF m pc Ls (.int b :: .int a :: S)) X.here hx rfl (hb hby hd) rfl (flt q).1 k) (kf q)
theorem w_if_lt (X : Sd l Z n0 y bytes maxL ret R p e s m args below T h cells slots) {a : Int32} {i : Int} (pt pf : Nat) (hd : decode bytes pc = .ok (.ifCond .lt i, 3)) (ho : 0 ≤ (pc : Int) + i) (ht : ((pc : Int) + i).toNat = pt) (hf : pf = pc + 3) (kt : a < (0 : Int32) → Go p e below G (T.setTop (mkF m pt Ls S))) (kf : ¬ a < (0 : Int32) → Go p e below G (T.setTop (mkF m pf Ls S))) : Go p e below G (T.setTop (mkF m pc Ls (.int a :: S))) := by
  obtain ⟨meth, c, locs, X, eT, N, hx, hby, hml, hown, hnm, hret, hlk, hZ, hn⟩ := X; subst hf
  by_cases q : a < (0 : Int32)
  · exact go_of (fun _ k => XS.ifYes (g := mkF m pc Ls (.int a :: S)) X.here hx rfl rfl (hb hby hd) rfl ((if0 _ _).trans (tlt q).1) ho ht k) (kt q)
  · skip
    exact go_of (fun _ k => XS.ifNo (g := mkF m pc Ls (.int a :: S)) X.here hx rfl (hb hby hd) rfl ((if0 _ _).trans (flt q).1) k) (kf q)
theorem w_icmp_ge (X : Sd l Z n0 y bytes maxL ret R p e s m args below T h cells slots) {a b : Int32} {i : Int} (pt pf : Nat) (hd : decode bytes pc = .ok (.if_icmp .ge i, 3)) (ho : 0 ≤ (pc : Int) + i) (ht : ((pc : Int) + i).toNat = pt) (hf : pf = pc + 3) (kt : ¬ a < b → Go p e below G (T.setTop (mkF m pt Ls S))) (kf : a < b → Go p e below G (T.setTop (mkF m pf Ls S))) : Go p e below G (T.setTop (mkF m pc Ls (.int b :: .int a :: S))) := by
  obtain ⟨meth, c, locs, X, eT, N, hx, hby, hml, hown, hnm, hret, hlk, hZ, hn⟩ := X; subst hf
  by_cases q : ¬ a < b
  · exact go_of (fun _ k => XS.icmpYes (g := mkF m pc Ls (.int b :: .int a :: S)) X.here hx rfl rfl (hb hby hd) rfl (flt q).2.1 ho ht k) (kt q)
  · replace q := Decidable.not_not.mp q
    exact go_of (fun _ k => XS.icmpNo (g := mkF m pc Ls (.int b :: .int a :: S)) X.here hx rfl (hb hby hd) rfl (tlt q).2.1 k) (kf q)
theorem w_if_ge (X : Sd l Z n0 y bytes maxL ret R p e s m args below T h cells slots) {a : Int32} {i : Int} (pt pf : Nat) (hd : decode bytes pc = .ok (.ifCond .ge i, 3)) (ho : 0 ≤ (pc : Int) + i) (ht : ((pc : Int) + i).toNat = pt) (hf : pf = pc + 3) (kt : ¬ a < (0 : Int32) → Go p e below G (T.setTop (mkF m pt Ls S))) (kf : a < (0 : Int32) → Go p e below G (T.setTop (mkF m pf Ls S))) : Go p e below G (T.setTop (mkF m pc Ls (.int a :: S))) := by
  obtain ⟨meth, c, locs, X, eT, N, hx, hby, hml, hown, hnm, hret, hlk, hZ, hn⟩ := X; subst hf
  by_cases q : ¬ a < (0 : Int32)
  · exact go_of (fun _ k => XS.ifYes (g := mkF m pc Ls (.int a :: S)) X.here hx rfl rfl (hb hby hd) rfl ((if0 _ _).trans (flt q).2.1) ho ht k) (kt q)
  · replace q := Decidable.not_not.mp q
    exact go_of (fun _ k => XS.ifNo (g := mkF m pc Ls (.int a :: S)) X.here hx rfl (hb hby hd) rfl ((if0 _ _).trans (tlt q).2.1) k) (kf q)
theorem w_icmp_gt (X : Sd l Z n0 y bytes maxL ret R p e s m args below T h cells slots) {a b : Int32} {i : Int} (pt pf : Nat) (hd : decode bytes pc = .ok (.if_icmp .gt i, 3)) (ho : 0 ≤ (pc : Int) + i) (ht : ((pc : Int) + i).toNat = pt) (hf : pf = pc + 3) (kt : b < a → Go p e below G (T.setTop (mkF m pt Ls S))) (kf : ¬ b < a → Go p e below G (T.setTop (mkF m pf Ls S))) : Go p e below G (T.setTop (mkF m pc Ls (.int b :: .int a :: S))) := by
  obtain ⟨meth, c, locs, X, eT, N, hx, hby, hml, hown, hnm, hret, hlk, hZ, hn⟩ := X; subst hf
  by_cases q : b < a
  · exact go_of (fun _ k => XS.icmpYes (g := mkF m pc Ls (.int b :: .int a :: S)) X.here hx rfl rfl (hb hby hd) rfl (tlt q).2.2.1 ho ht k) (kt q)
  · skip
    exact go_of (fun _ k => XS.icmpNo (g := mkF m pc Ls (.int b :: .int a :: S)) X.here hx rfl (hb hby hd) rfl (flt q).2.2.1 k) (kf q)
theorem w_if_gt (X : Sd l Z n0 y bytes maxL ret R p e s m args below T h cells slots) {a : Int32} {i : Int} (pt pf : Nat) (hd : decode bytes pc = .ok (.ifCond .gt i, 3)) (ho : 0 ≤ (pc : Int) + i) (ht : ((pc : Int) + i).toNat = pt) (hf : pf = pc + 3) (kt : (0 : Int32) < a → Go p e below G (T.setTop (mkF m pt Ls S))) (kf : ¬ (0 : Int32) < a → Go p e below G (T.setTop (mkF m pf Ls S))) : Go p e below G (T.setTop (mkF m pc Ls (.int a :: S))) := by
  obtain ⟨meth, c, locs, X, eT, N, hx, hby, hml, hown, hnm, hret, hlk, hZ, hn⟩ := X; subst hf
  by_cases q : (0 : Int32) < a
  · exact go_of (fun _ k => XS.ifYes (g := mkF m pc Ls (.int a :: S)) X.here hx rfl rfl (hb hby hd) rfl ((if0 _ _).trans (tlt q).2.2.1) ho ht k) (kt q)
  · skip
    exact go_of (fun _ k => XS.ifNo (g := mkF m pc Ls (.int a :: S)) X.here hx rfl (hb hby hd) rfl ((if0 _ _).trans (flt q).2.2.1) k) (kf q)
theorem w_icmp_le (X : Sd l Z n0 y bytes maxL ret R p e s m args below T h cells slots) {a b : Int32} {i : Int} (pt pf : Nat) (hd : decode bytes pc = .ok (.if_icmp .le i, 3)) (ho : 0 ≤ (pc : Int) + i) (ht : ((pc : Int) + i).toNat = pt) (hf : pf = pc + 3) (kt : ¬ b < a → Go p e below G (T.setTop (mkF m pt Ls S))) (kf : b < a → Go p e below G (T.setTop (mkF m pf Ls S))) : Go p e below G (T.setTop (mkF m pc Ls (.int b :: .int a :: S))) := by
  obtain ⟨meth, c, locs, X, eT, N, hx, hby, hml, hown, hnm, hret, hlk, hZ, hn⟩ := X; subst hf
  by_cases q : ¬ b < a
  · exact go_of (fun _ k => XS.icmpYes (g := mkF m pc Ls (.int b :: .int a :: S)) X.here hx rfl rfl (hb hby hd) rfl (flt q).2.2.2 ho ht k) (kt q)
  · replace q := Decidable.not_not.mp q
    exact go_of (fun _ k => XS.icmpNo (g := mkF m pc Ls (.int b :: .int a :: S)) X.here hx rfl (hb hby hd) rfl (tlt q).2.2.2 k) (kf q)
theorem w_if_le (X : Sd l Z n0 y bytes maxL ret R p e s m args below T h cells slots) {a : Int32} {i : Int} (pt pf : Nat) (hd : decode bytes pc = .ok (.ifCond .le i, 3)) (ho : 0 ≤ (pc : Int) + i) (ht : ((pc : Int) + i).toNat = pt) (hf : pf = pc + 3) (kt : ¬ (0 : Int32) < a → Go p e below G (T.setTop (mkF m pt Ls S))) (kf : (0 : Int32) < a → Go p e below G (T.setTop (mkF m pf Ls S))) : Go p e below G (T.setTop (mkF m pc Ls (.int a :: S))) := by
  obtain ⟨meth, c, locs, X, eT, N, hx, hby, hml, hown, hnm, hret, hlk, hZ, hn⟩ := X; subst hf
  by_cases q : ¬ (0 : Int32) < a
  · exact go_of (fun _ k => XS.ifYes (g := mkF m pc Ls (.int a :: S)) X.here hx rfl rfl (hb hby hd) rfl ((if0 _ _).trans (flt q).2.2.2) ho ht k) (kt q)
  · replace q := Decidable.not_not.mp q
    exact go_of (fun _ k => XS.ifNo (g := mkF m pc Ls (.int a :: S)) X.here hx rfl (hb hby hd) rfl ((if0 _ _).trans (tlt q).2.2.2) k) (kf q)
theorem w_lc_eq (X : Sd l Z n0 y bytes maxL ret R p e s m args below T h cells slots) {a b : Int64} {i : Int} (pt pf : Nat) (hd1 : decode bytes pc = .ok (.lcmp, 1)) (hd : decode bytes (pc + 1) = .ok (.ifCond .eq i, 3)) (ho : 0 ≤ ((pc + 1 : Nat) : Int) + i) (ht : (((pc + 1 : Nat) : Int) + i).toNat = pt) (hf : pf = pc + 4) (kt : a = b → Go p e below G (T.setTop (mkF m pt Ls S))) (kf : ¬ a = b → Go p e below G (T.setTop (mkF m pf Ls S))) : Go p e below G (T.setTop (mkF m pc Ls (.long b :: .long a :: S))) :=
  w_lcmp X hd1 rfl (w_if_eq X pt pf hd ho ht hf (fun q => kt ((lw_eq _ _).mp q)) (fun q => kf (fun z => q ((lw_eq _ _).mpr z))))
theorem w_lc_ne (X : Sd l Z n0 y bytes maxL ret R p e s m args below T h cells slots) {a b : Int64} {i : Int} (pt pf : Nat) (hd1 : decode bytes pc = .ok (.lcmp, 1)) (hd : decode bytes (pc + 1) = .ok (.ifCond .ne i, 3)) (ho : 0 ≤ ((pc + 1 : Nat) : Int) + i) (ht : (((pc + 1 : Nat) : Int) + i).toNat = pt) (hf : pf = pc + 4) (kt : ¬ a = b → Go p e below G (T.setTop (mkF m pt Ls S))) (kf : a = b → Go p e below G (T.setTop (mkF m pf Ls S))) : Go p e below G (T.setTop (mkF m pc Ls (.long b :: .long a :: S))) :=
  w_lcmp X hd1 rfl (w_if_ne X pt pf hd ho ht hf (fun q => kt (fun z => q ((lw_eq _ _).mpr z))) (fun q => kf ((lw_eq _ _).mp q)))
theorem w_lc_lt (X : Sd l Z n0 y bytes maxL ret R p e s m args below T h cells slots) {a b : Int64} {i : Int} (pt pf : Nat) (hd1 : decode bytes pc = .ok (.lcmp, 1)) (hd : decode bytes (pc + 1) = .ok (.ifCond .lt i, 3)) (ho : 0 ≤ ((pc + 1 : Nat) : Int) + i) (ht : (((pc + 1 : Nat) : Int) + i).toNat = pt) (hf : pf = pc + 4) (kt : a < b → Go p e below G (T.setTop (mkF m pt Ls S))) (kf : ¬ a < b → Go p e below G (T.setTop (mkF m pf Ls S))) : Go p e below G (T.setTop (mkF m pc Ls (.long b :: .long a :: S))) :=
  w_lcmp X hd1 rfl (w_if_lt X pt pf hd ho ht hf (fun q => kt ((lw_lt _ _).mp q)) (fun q => kf (fun z => q ((lw_lt _ _).mpr z))))
theorem w_lc_ge (X : Sd l Z n0 y bytes maxL ret R p e s m args below T h cells slots) {a b : Int64} {i : Int} (pt pf : Nat) (hd1 : decode bytes pc = .ok (.lcmp, 1)) (hd : decode bytes (pc + 1) = .ok (.ifCond .ge i, 3)) (ho : 0 ≤ ((pc + 1 : Nat) : Int) + i) (ht : (((pc + 1 : Nat) : Int) + i).toNat = pt) (hf : pf = pc + 4) (kt : ¬ a < b → Go p e below G (T.setTop (mkF m pt Ls S))) (kf : a < b → Go p e below G (T.setTop (mkF m pf Ls S))) : Go p e below G (T.setTop (mkF m pc Ls (.long b :: .long a :: S))) :=
  w_lcmp X hd1 rfl (w_if_ge X pt pf hd ho ht hf (fun q => kt (fun z => q ((lw_lt _ _).mpr z))) (fun q => kf ((lw_lt _ _).mp q)))
theorem w_lc_gt (X : Sd l Z n0 y bytes maxL ret R p e s m args below T h cells slots) {a b : Int64} {i : Int} (pt pf : Nat) (hd1 : decode bytes pc = .ok (.lcmp, 1)) (hd : decode bytes (pc + 1) = .ok (.ifCond .gt i, 3)) (ho : 0 ≤ ((pc + 1 : Nat) : Int) + i) (ht : (((pc + 1 : Nat) : Int) + i).toNat = pt) (hf : pf = pc + 4) (kt : b < a → Go p e below G (T.setTop (mkF m pt Ls S))) (kf : ¬ b < a → Go p e below G (T.setTop (mkF m pf Ls S))) : Go p e below G (T.setTop (mkF m pc Ls (.long b :: .long a :: S))) :=
  w_lcmp X hd1 rfl (w_if_gt X pt pf hd ho ht hf (fun q => kt ((lw_gt _ _).mp q)) (fun q => kf (fun z => q ((lw_gt _ _).mpr z))))
theorem w_lc_le (X : Sd l Z n0 y bytes maxL ret R p e s m args below T h cells slots) {a b : Int64} {i : Int} (pt pf : Nat) (hd1 : decode bytes pc = .ok (.lcmp, 1)) (hd : decode bytes (pc + 1) = .ok (.ifCond .le i, 3)) (ho : 0 ≤ ((pc + 1 : Nat) : Int) + i) (ht : (((pc + 1 : Nat) : Int) + i).toNat = pt) (hf : pf = pc + 4) (kt : ¬ b < a → Go p e below G (T.setTop (mkF m pt Ls S))) (kf : b < a → Go p e below G (T.setTop (mkF m pf Ls S))) : Go p e below G (T.setTop (mkF m pc Ls (.long b :: .long a :: S))) :=
  w_lcmp X hd1 rfl (w_if_le X pt pf hd ho ht hf (fun q => kt (fun z => q ((lw_gt _ _).mpr z))) (fun q => kf ((lw_gt _ _).mp q)))
theorem w_ifnullY (X : Sd l Z n0 y bytes maxL ret R p e s m args below T h cells slots) {i : Int} (hd : decode bytes pc = .ok (.ifnull i, 3)) (ho : 0 ≤ (pc : Int) + i) (hp : ((pc : Int) + i).toNat = pc') (K : Go p e below G (T.setTop (mkF m pc' Ls S))) : Go p e below G (T.setTop (mkF m pc Ls (.null :: S))) := by
  obtain ⟨meth, c, locs, X, eT, N, hx, hby, hml, hown, hnm, hret, hlk, hZ, hn⟩ := X
  exact go_of (fun _ k => XS.ifnullYes (g := mkF m pc Ls (.null :: S)) X.here hx rfl rfl (hb hby hd) rfl ho hp k) K
theorem w_ifnullN (X : Sd l Z n0 y bytes maxL ret R p e s m args below T h cells slots) {b : Addr} {i : Int} (hd : decode bytes pc = .ok (.ifnull i, 3)) (hp : pc' = pc + 3) (K : Go p e below G (T.setTop (mkF m pc' Ls S))) : Go p e below G (T.setTop (mkF m pc Ls (.ref b :: S))) := by
  obtain ⟨meth, c, locs, X, eT, N, hx, hby, hml, hown, hnm, hret, hlk, hZ, hn⟩ := X; subst hp
  exact go_of (fun _ k => XS.ifnullNo (g := mkF m pc Ls (.ref b :: S)) X.here hx rfl (hb hby hd) rfl k) K
theorem w_ifnonnullY (X : Sd l Z n0 y bytes maxL ret R p e s m args below T h cells slots) {b : Addr} {i : Int} (hd : decode bytes pc = .ok (.ifnonnull i, 3)) (ho : 0 ≤ (pc : Int) + i) (hp : ((pc : Int) + i).toNat = pc') (K : Go p e below G (T.setTop (mkF m pc' Ls S))) : Go p e below G (T.setTop (mkF m pc Ls (.ref b :: S))) := by
  obtain ⟨meth, c, locs, X, eT, N, hx, hby, hml, hown, hnm, hret, hlk, hZ, hn⟩ := X
  exact go_of (fun _ k => XS.ifnonnullYes (g := mkF m pc Ls (.ref b :: S)) X.here hx rfl rfl (hb hby hd) rfl ho hp k) K
theorem w_ifnonnullN (X : Sd l Z n0 y bytes maxL ret R p e s m args below T h cells slots) {i : Int} (hd : decode bytes pc = .ok (.ifnonnull i, 3)) (hp : pc' = pc + 3) (K : Go p e below G (T.setTop (mkF m pc' Ls S))) : Go p e below G (T.setTop (mkF m pc Ls (.null :: S))) := by
  obtain ⟨meth, c, locs, X, eT, N, hx, hby, hml, hown, hnm, hret, hlk, hZ, hn⟩ := X; subst hp
  exact go_of (fun _ k => XS.ifnonnullNo (g := mkF m pc Ls (.null :: S)) X.here hx rfl (hb hby hd) rfl k) K
theorem w_acmp_eq (X : Sd l Z n0 y bytes maxL ret R p e s m args below T h cells slots) {v w : Value} (hv : v.isRef = true) (hw : w.isRef = true) {i : Int} (pt pf : Nat) (hd : decode bytes pc = .ok (.if_acmp .eq i, 3)) (ho : 0 ≤ (pc : Int) + i) (ht : ((pc : Int) + i).toNat = pt) (hf : pf = pc + 3) (kt : v = w → Go p e below G (T.setTop (mkF m pt Ls S))) (kf : ¬ v = w → Go p e below G (T.setTop (mkF m pf Ls S))) : Go p e below G (T.setTop (mkF m pc Ls (w :: v :: S))) := by
  obtain ⟨meth, c, locs, X, eT, N, hx, hby, hml, hown, hnm, hret, hlk, hZ, hn⟩ := X; subst hf ht
  by_cases q : v = w
  · exact go_of (fun _ k => Jvm.RoadKit.acmp (g := mkF m pc Ls (w :: v :: S)) X hx rfl hv hw (same := true) rfl (hb hby hd) rfl (decide_eq_true q) ho rfl k) (kt q)
  · exact go_of (fun _ k => Jvm.RoadKit.acmp (g := mkF m pc Ls (w :: v :: S)) X hx rfl hv hw (same := false) rfl (hb hby hd) rfl (decide_eq_false q) ho rfl k) (kf q)
theorem w_acmp_ne (X : Sd l Z n0 y bytes maxL ret R p e s m args below T h cells slots) {v w : Value} (hv : v.isRef = true) (hw : w.isRef = true) {i : Int} (pt pf : Nat) (hd : decode bytes pc = .ok (.if_acmp .ne i, 3)) (ho : 0 ≤ (pc : Int) + i) (ht : ((pc : Int) + i).toNat = pt) (hf : pf = pc + 3) (kt : ¬ v = w → Go p e below G (T.setTop (mkF m pt Ls S))) (kf : v = w → Go p e below G (T.setTop (mkF m pf Ls S))) : Go p e below G (T.setTop (mkF m pc Ls (w :: v :: S))) := by
  obtain ⟨meth, c, locs, X, eT, N, hx, hby, hml, hown, hnm, hret, hlk, hZ, hn⟩ := X; subst hf ht
  by_cases q : v = w
  · exact go_of (fun _ k => Jvm.RoadKit.acmp (g := mkF m pc Ls (w :: v :: S)) X hx rfl hv hw (same := true) rfl (hb hby hd) rfl (decide_eq_true q) ho rfl k) (kf q)
  · exact go_of (fun _ k => Jvm.RoadKit.acmp (g := mkF m pc Ls (w :: v :: S)) X hx rfl hv hw (same := false) rfl (hb hby hd) rfl (decide_eq_false q) ho rfl k) (kt q)
theorem w_ldc (X : Sd l Z n0 y bytes maxL ret R p e s m args below T h cells slots) {i : Nat} {v : Int32} (hd : decode bytes pc = .ok (.ldc i, 2)) (w : (Jvm.Cond.constant y.cls i v).before a0 Z = true) (hp : pc' = pc + 2) (K : Go p e below G (T.setTop (mkF m pc' Ls (.int v :: S)))) : Go p e below G (T.setTop (mkF m pc Ls S)) := by
  obtain ⟨meth, c, locs, X, eT, N, hx, hby, hml, hown, hnm, hret, hlk, hZ, hn⟩ := X; subst hp
  exact go_of (X.ldcInt hx hown (mvT hZ w) (g := mkF m pc Ls S) rfl (hb hby hd)) K
theorem w_ldc2 (X : Sd l Z n0 y bytes maxL ret R p e s m args below T h cells slots) {i : Nat} {v : Int64} (hd : decode bytes pc = .ok (.ldc2_w i, 3)) (w : (Jvm.Cond.constantLong y.cls i v).before a0 Z = true) (hp : pc' = pc + 3) (K : Go p e below G (T.setTop (mkF m pc' Ls (.long v :: S)))) : Go p e below G (T.setTop (mkF m pc Ls S)) := by
  obtain ⟨meth, c, locs, X, eT, N, hx, hby, hml, hown, hnm, hret, hlk, hZ, hn⟩ := X; subst hp
  exact go_of (X.ldc2Long hx hown (mvT hZ w) (g := mkF m pc Ls S) rfl (hb hby hd)) K
theorem w_getfield (X : Sd l Z n0 y bytes maxL ret R p e s m args below T h cells slots) {i : Nat} {R0 O n d : String} {a : Addr} {v : Value} (hd : decode bytes pc = .ok (.getfield i, 3)) {host : String} (w : (Jvm.Cond.fieldLink y.cls i R0 n d).before a0 Z = true ∨ (Jvm.Cond.fieldLinkNest y.cls i R0 n d host).before a0 Z = true) (via : Via Z R0 O n d) (F : Fld Z h a O n d v) (hp : pc' = pc + 3) (K : ∀ T', Sd l Z n0 y bytes maxL ret R p e s m args below T' h cells slots → Go p e below G (T'.setTop (mkF m (pc') Ls (v :: S)))) : Go p e below G (T.setTop (mkF m pc Ls (.ref a :: S))) := by
  obtain ⟨meth, c, locs, X, eT, N, hx, hby, hml, hown, hnm, hret, hlk, hZ, hn⟩ := X; subst hp
  obtain ⟨T', X', e', st⟩ := getF X hx hZ hown w via eT F (g := mkF m pc Ls (.ref a :: S)) rfl rfl (hb hby hd)
  exact go_of st (K T' ⟨meth, c, _, X', e', N, hx, hby, hml, hown, hnm, hret, hlk, hZ, hn⟩)
theorem w_getstatic (X : Sd l Z n0 y bytes maxL ret R p e s m args below T h cells slots) {i : Nat} {R0 O n d : String} {v : Value} (hd : decode bytes pc = .ok (.getstatic i, 3)) {host : String} (w : (Jvm.Cond.fieldLink y.cls i R0 n d).before a0 Z = true ∨ (Jvm.Cond.fieldLinkNest y.cls i R0 n d host).before a0 Z = true) (via : Via Z R0 O n d) (F : Sta Z h O n d v) (hp : pc' = pc + 3) (K : ∀ T', Sd l Z n0 y bytes maxL ret R p e s m args below T' h cells slots → Go p e below G (T'.setTop (mkF m (pc') Ls (v :: S)))) : Go p e below G (T.setTop (mkF m pc Ls S)) := by
  obtain ⟨meth, c, locs, X, eT, N, hx, hby, hml, hown, hnm, hret, hlk, hZ, hn⟩ := X; subst hp
  obtain ⟨T', X', e', st⟩ := getS2 X hx hZ hown w via eT F (g := mkF m pc Ls S) rfl (hb hby hd)
  exact go_of st (K T' ⟨meth, c, _, X', e', N, hx, hby, hml, hown, hnm, hret, hlk, hZ, hn⟩)
theorem w_putfield (X : Sd l Z n0 y bytes maxL ret R p e s m args below T h cells slots) {i kk : Nat} {R0 O n d C : String} {ty : FieldType} {a : Addr} {v old : Value} (hd : decode bytes pc = .ok (.putfield i, 3)) {host : String} (w : (Jvm.Cond.fieldLink y.cls i R0 n d).before a0 Z = true ∨ (Jvm.Cond.fieldLinkNest y.cls i R0 n d host).before a0 Z = true) (via : Via Z R0 O n d) (F : Fld Z h a O n d old) (E : Exa Z h a C) (L : (Jvm.Cond.lays C O n d).before a0 Z = true ∨ ((Jvm.Cond.laysFinal C O n d).before a0 Z = true ∧ y.cls = O ∧ y.name = "<init>")) (wi : (Jvm.Cond.instantiable C kk).before a0 Z = true) (hty : parseFieldDescriptor d = some ty) (hna : narrow ty v = v) (hfi : fits ty v = true) (hg : n0 ≤ a) (hp : pc' = pc + 3) (K : ∀ T' h', Sd l Z n0 y bytes maxL ret R p e s m args below T' h' cells slots → Wr h h' a (Jvm.RoadKit.slotOf Z O n d) v → Fld Z h' a O n d v → Go p e below G (T'.setTop (mkF m (pc') Ls S))) : Go p e below G (T.setTop (mkF m pc Ls (v :: .ref a :: S))) := by
  obtain ⟨meth, c, locs, X, eT, N, hx, hby, hml, hown, hnm, hret, hlk, hZ, hn⟩ := X; subst hp
  obtain ⟨T', h', X', e', W, st⟩ := putF X hx hZ hown w via eT F E (L.imp id fun q => ⟨q.1, q.2.1, hnm.trans q.2.2⟩) wi hty hna hfi (g := mkF m pc Ls (v :: .ref a :: S)) rfl rfl (hb hby hd)
  exact go_of st (K T' h' ⟨meth, c, _, X', e', Fr.snoc X' N hg, hx, hby, hml, hown, hnm, hret, hlk, hZ, hn⟩ W (F.same W))
theorem w_putfieldN (X : Sd l Z n0 y bytes maxL ret R p e s m args below T h cells slots) {i kk : Nat} {R0 O n d C : String} {ty : FieldType} {a : Addr} {v v' old : Value} (hd : decode bytes pc = .ok (.putfield i, 3)) (w : (Jvm.Cond.fieldLink y.cls i R0 n d).before a0 Z = true) (via : Via Z R0 O n d) (F : Fld Z h a O n d old) (E : Exa Z h a C) (L : (Jvm.Cond.lays C O n d).before a0 Z = true ∨ ((Jvm.Cond.laysFinal C O n d).before a0 Z = true ∧ y.cls = O ∧ y.name = "<init>")) (wi : (Jvm.Cond.instantiable C kk).before a0 Z = true) (hty : parseFieldDescriptor d = some ty) (hna : narrow ty v = v') (hfi : fits ty v' = true) (hg : n0 ≤ a) (hp : pc' = pc + 3) (K : ∀ T' h', Sd l Z n0 y bytes maxL ret R p e s m args below T' h' cells slots → Wr h h' a (Jvm.RoadKit.slotOf Z O n d) v' → Fld Z h' a O n d v' → Go p e below G (T'.setTop (mkF m (pc') Ls S))) : Go p e below G (T.setTop (mkF m pc Ls (v :: .ref a :: S))) := by
  obtain ⟨meth, c, locs, X, eT, N, hx, hby, hml, hown, hnm, hret, hlk, hZ, hn⟩ := X; subst hp
  obtain ⟨T', h', X', e', W, st⟩ := putFN X hx hZ hown w via eT F E (L.imp id fun q => ⟨q.1, q.2.1, hnm.trans q.2.2⟩) wi hty hna hfi (g := mkF m pc Ls (v :: .ref a :: S)) rfl rfl (hb hby hd)
  exact go_of st (K T' h' ⟨meth, c, _, X', e', Fr.snoc X' N hg, hx, hby, hml, hown, hnm, hret, hlk, hZ, hn⟩ W (F.same W))
theorem w_new (X : Sd l Z n0 y bytes maxL ret R p e s m args below T h cells slots) {i n : Nat} {C : String} (hd : decode bytes pc = .ok (.new i, 3)) (w : (Jvm.Cond.classLink y.cls i C).before a0 Z = true) (wi : (Jvm.Cond.instantiable C n).before a0 Z = true) (wz : (Jvm.Cond.initialized C).before a0 Z = true) (hc : cells + 1 ≤ R.cells) (hl : slots + n ≤ R.slots) (hp : pc' = pc + 3)
    (K : ∀ T' h' b, b = h.size → n0 ≤ b → Sd l Z n0 y bytes maxL ret R p e s m args below T' h' (cells + 1) (slots + n) → Ext h h' → Exa Z h' b C → (∀ {O nm d : String} {ty : FieldType}, Laid Z a0 C O nm d → parseFieldDescriptor d = some ty → Fld Z h' b O nm d (defaultValue ty)) → Go p e below G (T'.setTop (mkF m (pc') Ls (.ref b :: S)))) : Go p e below G (T.setTop (mkF m pc Ls S)) := by
  have hsz := sd_size X
  obtain ⟨meth, c, locs, X, eT, N, hx, hby, hml, hown, hnm, hret, hlk, hZ, hn⟩ := X; subst hp
  obtain ⟨T', h', X', e', E', A', D', -, st⟩ := newO X hx hZ hown w wi wz eT (g := mkF m pc Ls S) rfl (hb hby hd) hc hl
  exact go_of st (K T' h' _ rfl hsz ⟨meth, c, _, X', e', N, hx, hby, hml, hown, hnm, hret, hlk, hZ, hn⟩ E' A' D')
/-- an array of n places, the i-th holding f i -/
def Ary (Z : State) (h : Heap) (a : Addr) (ty : FieldType) (n : Nat) (f : Nat → Value) : Prop := ∃ c : Cell, Arr Z h a c ty ∧ c.slots.size = n ∧ n < 2 ^ 31 ∧ ∀ i, i < n → c.slots[i]? = some (f i)
def upd (f : Nat → Value) (i : Nat) (v : Value) : Nat → Value := fun j => if j = i then v else f j
theorem upd_same (f : Nat → Value) (i : Nat) (v : Value) : upd f i v i = v := if_pos rfl
theorem upd_other (f : Nat → Value) {i j : Nat} (v : Value) (q : j ≠ i) : upd f i v j = f j := if_neg q
theorem Ary.lt {a : Addr} {ty : FieldType} {n : Nat} {f : Nat → Value} (A : Ary Z h a ty n f) : a < h.size := by obtain ⟨c, A, -⟩ := A; exact A.lt
theorem Ary.ext {h' : Heap} {a : Addr} {ty : FieldType} {n : Nat} {f : Nat → Value} (A : Ary Z h a ty n f) (E : Ext h h') : Ary Z h' a ty n f := by obtain ⟨c, A, r⟩ := A; exact ⟨c, A.ext E, r⟩
theorem Ary.keep {h' : Heap} {a : Addr} {ty : FieldType} {n : Nat} {f : Nat → Value} {ws : List Addr} (A : Ary Z h a ty n f) (K : Keep h h' ws) (q : a ∉ ws) : Ary Z h' a ty n f := by obtain ⟨c, A, r⟩ := A; exact ⟨c, ⟨K.2.1 a c A.1 q, A.2⟩, r⟩
theorem Ary.other {h' : Heap} {a b : Addr} {sl : Nat} {v : Value} {ty : FieldType} {n : Nat} {f : Nat → Value} (A : Ary Z h a ty n f) (W : Wr h h' b sl v) (q : a ≠ b) : Ary Z h' a ty n f := by obtain ⟨c, A, r⟩ := A; exact ⟨c, A.other W q, r⟩
theorem Ary.congr {a : Addr} {ty : FieldType} {n : Nat} {f g : Nat → Value} (A : Ary Z h a ty n f) (q : ∀ i, i < n → f i = g i) : Ary Z h a ty n g := by obtain ⟨c, A, r1, r2, r3⟩ := A; exact ⟨c, A, r1, r2, fun i hi => by rw [r3 i hi, q i hi]⟩
theorem Ary.set {h' : Heap} {a : Addr} {ty : FieldType} {n i : Nat} {v : Value} {f : Nat → Value} (A : Ary Z h a ty n f) (W : Wr h h' a i v) (hi : i < n) : Ary Z h' a ty n (upd f i v) := by
  obtain ⟨c, A, rfl, r2, r3⟩ := A
  refine ⟨c.setSlot i v, A.same W, sz_set _ _ _, r2, fun j hj => ?_⟩
  by_cases q : j = i
  · subst q; simp [Cell.setSlot, hj, upd]
  · rw [upd_other f v q, ← r3 j hj]; exact Array.getElem?_setIfInBounds_ne (Ne.symm q)
theorem nat_at {j : Int32} {i : Nat} (hj : j.toInt = (i : Int)) : j.toNatClampNeg = i ∧ ¬ j < 0 := by
  constructor
  · simp only [Int32.toNatClampNeg, hj]; omega
  · simp only [Int32.lt_iff_toInt_lt, Int32.reduceToInt, hj]; omega
theorem in_at {j : Int32} {i n : Nat} {c : Cell} (hj : j.toInt = (i : Int)) (hn : c.slots.size = n) (hi : i < n) : ¬ (j < 0 ∨ c.slots.size ≤ j.toNatClampNeg) := by
  obtain ⟨q1, q2⟩ := nat_at hj
  rw [q1]; rintro (q | q)
  · exact q2 q
  · omega
theorem w_arraylength (X : Sd l Z n0 y bytes maxL ret R p e s m args below T h cells slots) {a : Addr} {ty : FieldType} {n : Nat} {f : Nat → Value} (z : Int32) (hd : decode bytes pc = .ok (.arraylength, 1)) (A : Ary Z h a ty n f) (hz : z.toInt = (n : Int)) (hp : pc' = pc + 1) (K : Go p e below G (T.setTop (mkF m pc' Ls (.int z :: S)))) : Go p e below G (T.setTop (mkF m pc Ls (.ref a :: S))) := by
  obtain ⟨meth, c, locs, X, eT, N, hx, hby, hml, hown, hnm, hret, hlk, hZ, hn⟩ := X; subst hp
  obtain ⟨cl, A, r1, r2, -⟩ := A
  have ez : cl.slots.size.toInt32 = z := Int32.toInt_inj.mp (by rw [r1, len_toInt r2, hz])
  exact go_of (fun t k => X.arraylength hx (by rw [eT]; exact A.1) (State.isArrayOf_alike hZ.alike A.2.1) (g := mkF m pc Ls (.ref a :: S)) rfl rfl (hb hby hd) t (by rw [ez]; exact k)) K
theorem w_iaload (X : Sd l Z n0 y bytes maxL ret R p e s m args below T h cells slots) {a : Addr} {n : Nat} {f : Nat → Value} {j : Int32} (i : Nat) {v : Value} (hd : decode bytes pc = .ok (.iaload, 1)) (A : Ary Z h a .int n f) (hj : j.toInt = (i : Int)) (hi : i < n) (hv : f i = v) (hp : pc' = pc + 1) (K : Go p e below G (T.setTop (mkF m pc' Ls (v :: S)))) : Go p e below G (T.setTop (mkF m pc Ls (.int j :: .ref a :: S))) := by
  obtain ⟨meth, c, locs, X, eT, N, hx, hby, hml, hown, hnm, hret, hlk, hZ, hn⟩ := X; subst hp
  obtain ⟨cl, A, r1, r2, r3⟩ := A
  exact go_of (fun t k => X.iaload hx (j := j) (v := v) (by rw [eT]; exact A.1) (State.isArrayOf_alike hZ.alike A.2.1) A.2.2 (in_at hj r1 hi) (by rw [(nat_at hj).1, r3 i hi, hv]) (g := mkF m pc Ls (.int j :: .ref a :: S)) rfl rfl (hb hby hd) t k) K
theorem w_laload (X : Sd l Z n0 y bytes maxL ret R p e s m args below T h cells slots) {a : Addr} {n : Nat} {f : Nat → Value} {j : Int32} (i : Nat) {v : Value} (hd : decode bytes pc = .ok (.laload, 1)) (A : Ary Z h a .long n f) (hj : j.toInt = (i : Int)) (hi : i < n) (hv : f i = v) (hp : pc' = pc + 1) (K : Go p e below G (T.setTop (mkF m pc' Ls (v :: S)))) : Go p e below G (T.setTop (mkF m pc Ls (.int j :: .ref a :: S))) := by
  obtain ⟨meth, c, locs, X, eT, N, hx, hby, hml, hown, hnm, hret, hlk, hZ, hn⟩ := X; subst hp
  obtain ⟨cl, A, r1, r2, r3⟩ := A
  exact go_of (fun t k => X.laload hx (j := j) (v := v) (by rw [eT]; exact A.1) (State.isArrayOf_alike hZ.alike A.2.1) A.2.2 (in_at hj r1 hi) (by rw [(nat_at hj).1, r3 i hi, hv]) (g := mkF m pc Ls (.int j :: .ref a :: S)) rfl rfl (hb hby hd) t k) K
theorem w_caload (X : Sd l Z n0 y bytes maxL ret R p e s m args below T h cells slots) {a : Addr} {n : Nat} {f : Nat → Value} {j : Int32} (i : Nat) {v : Value} (hd : decode bytes pc = .ok (.caload, 1)) (A : Ary Z h a .char n f) (hj : j.toInt = (i : Int)) (hi : i < n) (hv : f i = v) (hp : pc' = pc + 1) (K : Go p e below G (T.setTop (mkF m pc' Ls (v :: S)))) : Go p e below G (T.setTop (mkF m pc Ls (.int j :: .ref a :: S))) := by
  obtain ⟨meth, c, locs, X, eT, N, hx, hby, hml, hown, hnm, hret, hlk, hZ, hn⟩ := X; subst hp
  obtain ⟨cl, A, r1, r2, r3⟩ := A
  exact go_of (fun t k => X.caload hx (j := j) (v := v) (by rw [eT]; exact A.1) (State.isArrayOf_alike hZ.alike A.2.1) A.2.2 (in_at hj r1 hi) (by rw [(nat_at hj).1, r3 i hi, hv]) (g := mkF m pc Ls (.int j :: .ref a :: S)) rfl rfl (hb hby hd) t k) K
theorem w_baload (X : Sd l Z n0 y bytes maxL ret R p e s m args below T h cells slots) {a : Addr} {n : Nat} {f : Nat → Value} {j : Int32} (i : Nat) {v : Value} (hd : decode bytes pc = .ok (.baload, 1)) (A : Ary Z h a .byte n f) (hj : j.toInt = (i : Int)) (hi : i < n) (hv : f i = v) (hp : pc' = pc + 1) (K : Go p e below G (T.setTop (mkF m pc' Ls (v :: S)))) : Go p e below G (T.setTop (mkF m pc Ls (.int j :: .ref a :: S))) := by
  obtain ⟨meth, c, locs, X, eT, N, hx, hby, hml, hown, hnm, hret, hlk, hZ, hn⟩ := X; subst hp
  obtain ⟨cl, A, r1, r2, r3⟩ := A
  exact go_of (fun t k => X.baloadBytes hx (j := j) (v := v) (by rw [eT]; exact A.1) (State.isArrayOf_alike hZ.alike A.2.1) A.2.2 (in_at hj r1 hi) (by rw [(nat_at hj).1, r3 i hi, hv]) (g := mkF m pc Ls (.int j :: .ref a :: S)) rfl rfl (hb hby hd) t k) K
theorem w_zaload (X : Sd l Z n0 y bytes maxL ret R p e s m args below T h cells slots) {a : Addr} {n : Nat} {f : Nat → Value} {j : Int32} (i : Nat) {v : Value} (hd : decode bytes pc = .ok (.baload, 1)) (A : Ary Z h a .boolean n f) (hj : j.toInt = (i : Int)) (hi : i < n) (hv : f i = v) (hp : pc' = pc + 1) (K : Go p e below G (T.setTop (mkF m pc' Ls (v :: S)))) : Go p e below G (T.setTop (mkF m pc Ls (.int j :: .ref a :: S))) := by
  obtain ⟨meth, c, locs, X, eT, N, hx, hby, hml, hown, hnm, hret, hlk, hZ, hn⟩ := X; subst hp
  obtain ⟨cl, A, r1, r2, r3⟩ := A
  exact go_of (fun t k => X.baloadBooleans hx (j := j) (v := v) (by rw [eT]; exact A.1) (State.isArrayOf_alike hZ.alike A.2.1) A.2.2 (in_at hj r1 hi) (by rw [(nat_at hj).1, r3 i hi, hv]) (g := mkF m pc Ls (.int j :: .ref a :: S)) rfl rfl (hb hby hd) t k) K
theorem w_aaload (X : Sd l Z n0 y bytes maxL ret R p e s m args below T h cells slots) {a : Addr} {ty : FieldType} {n : Nat} {f : Nat → Value} {j : Int32} (i : Nat) {v : Value} (hd : decode bytes pc = .ok (.aaload, 1)) (A : Ary Z h a ty n f) (hty : ty.isReference = true) (hj : j.toInt = (i : Int)) (hi : i < n) (hv : f i = v) (hp : pc' = pc + 1) (K : Go p e below G (T.setTop (mkF m pc' Ls (v :: S)))) : Go p e below G (T.setTop (mkF m pc Ls (.int j :: .ref a :: S))) := by
  obtain ⟨meth, c, locs, X, eT, N, hx, hby, hml, hown, hnm, hret, hlk, hZ, hn⟩ := X; subst hp
  obtain ⟨cl, A, r1, r2, r3⟩ := A
  exact go_of (fun t k => X.aaload hx (j := j) (v := v) (by rw [eT]; exact A.1) (State.isArrayOf_alike hZ.alike A.2.1) hty A.2.2 (in_at hj r1 hi) (by rw [(nat_at hj).1, r3 i hi, hv]) (g := mkF m pc Ls (.int j :: .ref a :: S)) rfl rfl (hb hby hd) t k) K
theorem w_iastore (X : Sd l Z n0 y bytes maxL ret R p e s m args below T h cells slots) {a : Addr} {n : Nat} {f : Nat → Value} {j : Int32} (i : Nat) {v : Int32} (hd : decode bytes pc = .ok (.iastore, 1)) (A : Ary Z h a .int n f) (hj : j.toInt = (i : Int)) (hi : i < n) (hg : n0 ≤ a) (hp : pc' = pc + 1) (K : ∀ T' h', Sd l Z n0 y bytes maxL ret R p e s m args below T' h' cells slots → Wr h h' a i (.int v) → Ary Z h' a .int n (upd f i (.int v)) → Go p e below G (T'.setTop (mkF m (pc') Ls S))) : Go p e below G (T.setTop (mkF m pc Ls (.int v :: .int j :: .ref a :: S))) := by
  obtain ⟨meth, c, locs, X, eT, N, hx, hby, hml, hown, hnm, hret, hlk, hZ, hn⟩ := X; subst hp
  have A0 := A
  obtain ⟨cl, A, r1, r2, r3⟩ := A
  obtain ⟨T', h', X', e', W, st⟩ := stI X hx hZ eT A (j := j) (in_at hj r1 hi) (g := mkF m pc Ls (.int v :: .int j :: .ref a :: S)) rfl rfl (hb hby hd)
  rw [(nat_at hj).1] at W X'
  exact go_of st (K T' h' ⟨meth, c, _, X', e', Fr.snoc X' N hg, hx, hby, hml, hown, hnm, hret, hlk, hZ, hn⟩ W (A0.set W hi))
theorem w_lastore (X : Sd l Z n0 y bytes maxL ret R p e s m args below T h cells slots) {a : Addr} {n : Nat} {f : Nat → Value} {j : Int32} (i : Nat) {v : Int64} (hd : decode bytes pc = .ok (.lastore, 1)) (A : Ary Z h a .long n f) (hj : j.toInt = (i : Int)) (hi : i < n) (hg : n0 ≤ a) (hp : pc' = pc + 1) (K : ∀ T' h', Sd l Z n0 y bytes maxL ret R p e s m args below T' h' cells slots → Wr h h' a i (.long v) → Ary Z h' a .long n (upd f i (.long v)) → Go p e below G (T'.setTop (mkF m (pc') Ls S))) : Go p e below G (T.setTop (mkF m pc Ls (.long v :: .int j :: .ref a :: S))) := by
  obtain ⟨meth, c, locs, X, eT, N, hx, hby, hml, hown, hnm, hret, hlk, hZ, hn⟩ := X; subst hp
  have A0 := A
  obtain ⟨cl, A, r1, r2, r3⟩ := A
  obtain ⟨T', h', X', e', W, st⟩ := stJ X hx hZ eT A (j := j) (in_at hj r1 hi) (g := mkF m pc Ls (.long v :: .int j :: .ref a :: S)) rfl rfl (hb hby hd)
  rw [(nat_at hj).1] at W X'
  exact go_of st (K T' h' ⟨meth, c, _, X', e', Fr.snoc X' N hg, hx, hby, hml, hown, hnm, hret, hlk, hZ, hn⟩ W (A0.set W hi))
theorem w_castore (X : Sd l Z n0 y bytes maxL ret R p e s m args below T h cells slots) {a : Addr} {n : Nat} {f : Nat → Value} {j : Int32} (i : Nat) {v : Int32} (hd : decode bytes pc = .ok (.castore, 1)) (A : Ary Z h a .char n f) (hj : j.toInt = (i : Int)) (hi : i < n) (hg : n0 ≤ a) (hp : pc' = pc + 1) (K : ∀ T' h', Sd l Z n0 y bytes maxL ret R p e s m args below T' h' cells slots → Wr h h' a i (.int (nar .char v)) → Ary Z h' a .char n (upd f i (.int (nar .char v))) → Go p e below G (T'.setTop (mkF m (pc') Ls S))) : Go p e below G (T.setTop (mkF m pc Ls (.int v :: .int j :: .ref a :: S))) := by
  obtain ⟨meth, c, locs, X, eT, N, hx, hby, hml, hown, hnm, hret, hlk, hZ, hn⟩ := X; subst hp
  have A0 := A
  obtain ⟨cl, A, r1, r2, r3⟩ := A
  obtain ⟨T', h', X', e', W, st⟩ := stC X hx hZ eT A (j := j) (in_at hj r1 hi) (g := mkF m pc Ls (.int v :: .int j :: .ref a :: S)) rfl rfl (hb hby hd)
  rw [(nat_at hj).1] at W X'
  exact go_of st (K T' h' ⟨meth, c, _, X', e', Fr.snoc X' N hg, hx, hby, hml, hown, hnm, hret, hlk, hZ, hn⟩ W (A0.set W hi))
theorem w_bastore (X : Sd l Z n0 y bytes maxL ret R p e s m args below T h cells slots) {a : Addr} {n : Nat} {f : Nat → Value} {j : Int32} (i : Nat) {v : Int32} (hd : decode bytes pc = .ok (.bastore, 1)) (A : Ary Z h a .byte n f) (hj : j.toInt = (i : Int)) (hi : i < n) (hg : n0 ≤ a) (hp : pc' = pc + 1) (K : ∀ T' h', Sd l Z n0 y bytes maxL ret R p e s m args below T' h' cells slots → Wr h h' a i (.int (nar .byte v)) → Ary Z h' a .byte n (upd f i (.int (nar .byte v))) → Go p e below G (T'.setTop (mkF m (pc') Ls S))) : Go p e below G (T.setTop (mkF m pc Ls (.int v :: .int j :: .ref a :: S))) := by
  obtain ⟨meth, c, locs, X, eT, N, hx, hby, hml, hown, hnm, hret, hlk, hZ, hn⟩ := X; subst hp
  have A0 := A
  obtain ⟨cl, A, r1, r2, r3⟩ := A
  obtain ⟨T', h', X', e', W, st⟩ := stB X hx hZ eT A (j := j) (in_at hj r1 hi) (g := mkF m pc Ls (.int v :: .int j :: .ref a :: S)) rfl rfl (hb hby hd)
  rw [(nat_at hj).1] at W X'
  exact go_of st (K T' h' ⟨meth, c, _, X', e', Fr.snoc X' N hg, hx, hby, hml, hown, hnm, hret, hlk, hZ, hn⟩ W (A0.set W hi))
theorem w_zastore (X : Sd l Z n0 y bytes maxL ret R p e s m args below T h cells slots) {a : Addr} {n : Nat} {f : Nat → Value} {j : Int32} (i : Nat) {v : Int32} (hd : decode bytes pc = .ok (.bastore, 1)) (A : Ary Z h a .boolean n f) (hj : j.toInt = (i : Int)) (hi : i < n) (hg : n0 ≤ a) (hp : pc' = pc + 1) (K : ∀ T' h', Sd l Z n0 y bytes maxL ret R p e s m args below T' h' cells slots → Wr h h' a i (.int (nar .boolean v)) → Ary Z h' a .boolean n (upd f i (.int (nar .boolean v))) → Go p e below G (T'.setTop (mkF m (pc') Ls S))) : Go p e below G (T.setTop (mkF m pc Ls (.int v :: .int j :: .ref a :: S))) := by
  obtain ⟨meth, c, locs, X, eT, N, hx, hby, hml, hown, hnm, hret, hlk, hZ, hn⟩ := X; subst hp
  have A0 := A
  obtain ⟨cl, A, r1, r2, r3⟩ := A
  obtain ⟨T', h', X', e', W, st⟩ := stZ X hx hZ eT A (j := j) (in_at hj r1 hi) (g := mkF m pc Ls (.int v :: .int j :: .ref a :: S)) rfl rfl (hb hby hd)
  rw [(nat_at hj).1] at W X'
  exact go_of st (K T' h' ⟨meth, c, _, X', e', Fr.snoc X' N hg, hx, hby, hml, hown, hnm, hret, hlk, hZ, hn⟩ W (A0.set W hi))
theorem w_aastore (X : Sd l Z n0 y bytes maxL ret R p e s m args below T h cells slots) {a : Addr} {ty : FieldType} {n : Nat} {f : Nat → Value} {j : Int32} (i : Nat) {v : Value} (hd : decode bytes pc = .ok (.aastore, 1)) (A : Ary Z h a ty n f) (hty : ty.isReference = true) (F : Sto Z h a v) (hj : j.toInt = (i : Int)) (hi : i < n) (hg : n0 ≤ a) (hp : pc' = pc + 1) (K : ∀ T' h', Sd l Z n0 y bytes maxL ret R p e s m args below T' h' cells slots → Wr h h' a i v → Ary Z h' a ty n (upd f i v) → Go p e below G (T'.setTop (mkF m (pc') Ls S))) : Go p e below G (T.setTop (mkF m pc Ls (v :: .int j :: .ref a :: S))) := by
  obtain ⟨meth, c, locs, X, eT, N, hx, hby, hml, hown, hnm, hret, hlk, hZ, hn⟩ := X; subst hp
  have A0 := A
  obtain ⟨cl, A, r1, r2, r3⟩ := A
  obtain ⟨T', h', X', e', W, st⟩ := stR X hx hZ eT A (j := j) (in_at hj r1 hi) hty F (g := mkF m pc Ls (v :: .int j :: .ref a :: S)) rfl rfl (hb hby hd)
  rw [(nat_at hj).1] at W X'
  exact go_of st (K T' h' ⟨meth, c, _, X', e', Fr.snoc X' N hg, hx, hby, hml, hown, hnm, hret, hlk, hZ, hn⟩ W (A0.set W hi))
theorem w_newarray (X : Sd l Z n0 y bytes maxL ret R p e s m args below T h cells slots) {aty : ArrayType} {z : Int32} (n cap : Nat) (hd : decode bytes pc = .ok (.newarray aty, 2)) (w : (Jvm.Cond.arrayClass (newarray.typeOf aty)).before a0 Z = true) (hz : z.toInt = (n : Int)) (hcap : n ≤ cap) (hb8 : cap * 8 ≤ 536870912) (hc : cells + 1 ≤ R.cells) (hl : slots + cap ≤ R.slots) (hp : pc' = pc + 2)
    (K : ∀ T' h' b, b = h.size → n0 ≤ b → Sd l Z n0 y bytes maxL ret R p e s m args below T' h' (cells + 1) (slots + cap) → Ext h h' → Ary Z h' b (newarray.typeOf aty) n (fun _ => defaultValue (newarray.typeOf aty)) → Go p e below G (T'.setTop (mkF m (pc') Ls (.ref b :: S)))) : Go p e below G (T.setTop (mkF m pc Ls (.int z :: S))) := by
  have hsz := sd_size X
  obtain ⟨meth, c, locs, X, eT, N, hx, hby, hml, hown, hnm, hret, hlk, hZ, hn⟩ := X; subst hp
  obtain ⟨q1, q2⟩ := nat_at hz
  obtain ⟨T', h', cA, X', e', E', A', st⟩ := newP X hx hZ w eT (g := mkF m pc Ls (.int z :: S)) rfl (hb hby hd) rfl q2 (cap := cap) (by rw [q1]; exact hcap) hb8 hc hl
  refine go_of st (K T' h' _ rfl hsz ⟨meth, c, _, X', e', N, hx, hby, hml, hown, hnm, hret, hlk, hZ, hn⟩ E' ⟨_, A', (sz_new _ _ _).trans q1, by rw [← q1]; exact (back32 q2).2, fun i hi => ?_⟩)
  simp [newA, q1, hi]
theorem w_anewarray (X : Sd l Z n0 y bytes maxL ret R p e s m args below T h cells slots) {i : Nat} {C : String} {z : Int32} (n cap : Nat) (hd : decode bytes pc = .ok (.anewarray i, 3)) (w1 : (Jvm.Cond.classLink y.cls i C).before a0 Z = true) (w2 : (Jvm.Cond.arrayOver (.object C)).before a0 Z = true) (hz : z.toInt = (n : Int)) (hcap : n ≤ cap) (hb8 : cap * 8 ≤ 536870912) (hc : cells + 1 ≤ R.cells) (hl : slots + cap ≤ R.slots) (hp : pc' = pc + 3)
    (K : ∀ T' h' b, b = h.size → n0 ≤ b → Sd l Z n0 y bytes maxL ret R p e s m args below T' h' (cells + 1) (slots + cap) → Ext h h' → (∃ cl, Arr Z h' b cl (.object C) ∧ Ovr Z cl.cls C) → Ary Z h' b (.object C) n (fun _ => .null) → Go p e below G (T'.setTop (mkF m (pc') Ls (.ref b :: S)))) : Go p e below G (T.setTop (mkF m pc Ls (.int z :: S))) := by
  have hsz := sd_size X
  obtain ⟨meth, c, locs, X, eT, N, hx, hby, hml, hown, hnm, hret, hlk, hZ, hn⟩ := X; subst hp
  obtain ⟨q1, q2⟩ := nat_at hz
  obtain ⟨T', h', cA, X', e', E', A', O', st⟩ := newR X hx hZ hown w1 w2 eT (g := mkF m pc Ls (.int z :: S)) rfl (hb hby hd) rfl q2 (cap := cap) (by rw [q1]; exact hcap) hb8 hc hl
  refine go_of st (K T' h' _ rfl hsz ⟨meth, c, _, X', e', N, hx, hby, hml, hown, hnm, hret, hlk, hZ, hn⟩ E' ⟨_, A', O'⟩ ⟨_, A', (sz_new _ _ _).trans q1, by rw [← q1]; exact (back32 q2).2, fun i hi => ?_⟩)
  simp [newA, q1, hi, defaultValue]
theorem w_join {p : Program} {e : Env} {below : List Frame} {G : State → Prop} {t : State} {α : Type} (P : α → Prop) (st : α → State) (J : ∀ x, P x → Go p e below G (st x)) (K : (∀ x, P x → Go p e below G (st x)) → Go p e below G t) : Go p e below G t := K J
theorem w_staticV (X : Sd l Z n0 y bytes maxL ret R p e s m args below T h cells slots) {i : Nat} {y' : MethodName} {bytes' : ByteArray} {maxL' : Nat} {ret' : Option FieldType} {rm : Room} {as' : Array Value} {Q : Value → Heap → Prop} (hd : decode bytes pc = .ok (.invokestatic i, 3)) (hM : Con l Z n0 y' bytes' maxL' ret' rm as' h (Val Q)) (w1 : (Jvm.Cond.methodLink y.cls i y').before a0 Z = true) (w2 : (Jvm.Cond.static y').before a0 Z = true) (w3 : (Jvm.Cond.initialized y'.cls).before a0 Z = true) (w4 : (Jvm.Cond.code y' bytes' maxL' ret').before a0 Z = true) (hy : y'.cls ≠ "java/lang/invoke/MethodHandle" ∧ y'.cls ≠ "java/lang/invoke/VarHandle") (argsL rest : List Value) {ps : List FieldType} {r' : Option FieldType} (hlen : parseMethodDescriptor y'.desc = some ⟨ps, r'⟩) (hl : argsL.length = ps.length) (has : argsL.toArray = as') (hst : S = argsL.reverse ++ rest) (hsz : Ls.size = maxL) (W : Nat) (hW : (rest.map fun v => v.category).sum ≤ W) (hf : rm.frames + 1 ≤ R.frames) (hlo : W + (maxL' + 11) + rm.locals ≤ R.locals) (hc : cells + rm.cells ≤ R.cells) (hs : slots + rm.slots ≤ R.slots) (hp : pc' = pc + 3)
    (K : ∀ T' h' v, Sd l Z n0 y bytes maxL ret R p e s m args below T' h' (cells + rm.cells) (slots + rm.slots) → Q v h' → Go p e below G (T'.setTop (mkF m (pc') Ls (v :: rest)))) : Go p e below G (T.setTop (mkF m pc Ls S)) := by
  obtain ⟨meth, c, locs, X, eT, N, hx, hby, hml, hown, hnm, hret, hlk, hZ, hn⟩ := X; subst hp hst has
  obtain ⟨v, _, ⟨T', L', k', n'⟩, -, X', ⟨Lc, ⟨N', hQ⟩, lq, yq, zq⟩, st⟩ := Jvm.LawKit.callS X hx (y := y') hown (mvT hZ w1) (mvT hZ w2) (mvT hZ w3) (mvT hZ w4) hy (backOf (W := W) (Q := fun v h L => Fr n0 L ∧ Val Q v h) (hM []) hZ w4 w3 hf hlo) (g := mkF m pc Ls (argsL.reverse ++ rest)) rfl (by rw [hml]; exact hsz) (argsL := argsL) (rest := rest) (lenOf hlen hl) rfl (by show 2 * 0 + _ ≤ _; omega) (hb hby hd) (fun _ _ => ⟨rfl, eT, hc, hs⟩)
  dsimp only [Pt.U, Pt.locs, Pt.cells, Pt.slots] at X' lq yq zq st hQ
  subst lq yq zq
  obtain ⟨v, rfl, hQ⟩ := hQ
  exact go_of st (K T' _ v ⟨meth, c, _, X', rfl, Fr.app N N', hx, hby, hml, hown, hnm, hret, hlk, hZ, hn⟩ hQ)
theorem w_staticN (X : Sd l Z n0 y bytes maxL ret R p e s m args below T h cells slots) {i : Nat} {y' : MethodName} {bytes' : ByteArray} {maxL' : Nat} {ret' : Option FieldType} {rm : Room} {as' : Array Value} {Q : Heap → Prop} (hd : decode bytes pc = .ok (.invokestatic i, 3)) (hM : Con l Z n0 y' bytes' maxL' ret' rm as' h (Non Q)) (w1 : (Jvm.Cond.methodLink y.cls i y').before a0 Z = true) (w2 : (Jvm.Cond.static y').before a0 Z = true) (w3 : (Jvm.Cond.initialized y'.cls).before a0 Z = true) (w4 : (Jvm.Cond.code y' bytes' maxL' ret').before a0 Z = true) (hy : y'.cls ≠ "java/lang/invoke/MethodHandle" ∧ y'.cls ≠ "java/lang/invoke/VarHandle") (argsL rest : List Value) {ps : List FieldType} {r' : Option FieldType} (hlen : parseMethodDescriptor y'.desc = some ⟨ps, r'⟩) (hl : argsL.length = ps.length) (has : argsL.toArray = as') (hst : S = argsL.reverse ++ rest) (hsz : Ls.size = maxL) (W : Nat) (hW : (rest.map fun v => v.category).sum ≤ W) (hf : rm.frames + 1 ≤ R.frames) (hlo : W + (maxL' + 11) + rm.locals ≤ R.locals) (hc : cells + rm.cells ≤ R.cells) (hs : slots + rm.slots ≤ R.slots) (hp : pc' = pc + 3)
    (K : ∀ T' h', Sd l Z n0 y bytes maxL ret R p e s m args below T' h' (cells + rm.cells) (slots + rm.slots) → Q h' → Go p e below G (T'.setTop (mkF m (pc') Ls rest))) : Go p e below G (T.setTop (mkF m pc Ls S)) := by
  obtain ⟨meth, c, locs, X, eT, N, hx, hby, hml, hown, hnm, hret, hlk, hZ, hn⟩ := X; subst hp hst has
  obtain ⟨v, _, ⟨T', L', k', n'⟩, -, X', ⟨Lc, ⟨N', hQ⟩, lq, yq, zq⟩, st⟩ := Jvm.LawKit.callS X hx (y := y') hown (mvT hZ w1) (mvT hZ w2) (mvT hZ w3) (mvT hZ w4) hy (backOf (W := W) (Q := fun v h L => Fr n0 L ∧ Non Q v h) (hM []) hZ w4 w3 hf hlo) (g := mkF m pc Ls (argsL.reverse ++ rest)) rfl (by rw [hml]; exact hsz) (argsL := argsL) (rest := rest) (lenOf hlen hl) rfl (by show 2 * 0 + _ ≤ _; omega) (hb hby hd) (fun _ _ => ⟨rfl, eT, hc, hs⟩)
  dsimp only [Pt.U, Pt.locs, Pt.cells, Pt.slots] at X' lq yq zq st hQ
  subst lq yq zq
  obtain ⟨rfl, hQ⟩ := hQ
  exact go_of st (K T' _ ⟨meth, c, _, X', rfl, Fr.app N N', hx, hby, hml, hown, hnm, hret, hlk, hZ, hn⟩ hQ)
theorem w_specialN (X : Sd l Z n0 y bytes maxL ret R p e s m args below T h cells slots) {i : Nat} {y' : MethodName} {bytes' : ByteArray} {maxL' : Nat} {rm : Room} {as' : Array Value} {Q : Heap → Prop} {a : Addr} (hd : decode bytes pc = .ok (.invokespecial i, 3)) (hM : Con l Z n0 y' bytes' maxL' none rm as' h (Non Q)) (w1 : (Jvm.Cond.methodLink y.cls i y').before a0 Z = true) (w2 : (Jvm.Cond.instanceMethod y').before a0 Z = true) (w3 : (Jvm.Cond.initialized y'.cls).before a0 Z = true) (w4 : (Jvm.Cond.code y' bytes' maxL' none).before a0 Z = true) (hin : y'.name = "<init>") (hy : y'.cls ≠ "java/lang/invoke/MethodHandle" ∧ y'.cls ≠ "java/lang/invoke/VarHandle") (argsL rest : List Value) {ps : List FieldType} {r' : Option FieldType} (hlen : parseMethodDescriptor y'.desc = some ⟨ps, r'⟩) (hl : argsL.length = ps.length) (has : (.ref a :: argsL).toArray = as') (hst : S = argsL.reverse ++ .ref a :: rest) (hsz : Ls.size = maxL) (W : Nat) (hW : (rest.map fun v => v.category).sum ≤ W) (hf : rm.frames + 1 ≤ R.frames) (hlo : W + (maxL' + 11) + rm.locals ≤ R.locals) (hc : cells + rm.cells ≤ R.cells) (hs : slots + rm.slots ≤ R.slots) (hp : pc' = pc + 3)
    (K : ∀ T' h', Sd l Z n0 y bytes maxL ret R p e s m args below T' h' (cells + rm.cells) (slots + rm.slots) → Q h' → Go p e below G (T'.setTop (mkF m (pc') Ls rest))) : Go p e below G (T.setTop (mkF m pc Ls S)) := by
  obtain ⟨meth, c, locs, X, eT, N, hx, hby, hml, hown, hnm, hret, hlk, hZ, hn⟩ := X; subst hp hst has
  obtain ⟨v, _, ⟨T', L', k', n'⟩, -, X', ⟨Lc, ⟨N', hQ⟩, lq, yq, zq⟩, st⟩ := X.specialBack hx (y := y') hin hown (mvT hZ w1) (mvT hZ w2) (mvT hZ w4) hy (backOf (W := W) (Q := fun v h L => Fr n0 L ∧ Non Q v h) (hM []) hZ w4 w3 hf hlo) (g := mkF m pc Ls (argsL.reverse ++ .ref a :: rest)) rfl (by rw [hml]; exact hsz) (Steps.refl _) (a := a) (argsL := argsL) (rest := rest) (lenOf hlen hl) rfl (by show 2 * 0 + _ ≤ _; omega) (hb hby hd) (fun _ _ => ⟨rfl, eT, hc, hs⟩)
  dsimp only [Pt.U, Pt.locs, Pt.cells, Pt.slots] at X' lq yq zq st hQ
  subst lq yq zq
  obtain ⟨rfl, hQ⟩ := hQ
  exact go_of (fun _ k => st.trans k) (K T' _ ⟨meth, c, _, X', rfl, Fr.app N N', hx, hby, hml, hown, hnm, hret, hlk, hZ, hn⟩ hQ)
theorem w_virtualV (X : Sd l Z n0 y bytes maxL ret R p e s m args below T h cells slots) {i : Nat} {y' : MethodName} {bytes' : ByteArray} {maxL' : Nat} {ret' : Option FieldType} {rm : Room} {as' : Array Value} {Q : Value → Heap → Prop} {a : Addr} {C : String} (hd : decode bytes pc = .ok (.invokevirtual i, 3)) (hM : Con l Z n0 y' bytes' maxL' ret' rm as' h (Val Q)) (w1 : (Jvm.Cond.methodLink y.cls i y').before a0 Z = true) (w2 : (Jvm.Cond.declares y').before a0 Z = true) (w5 : (Jvm.Cond.selects C y' y').before a0 Z = true) (w6 : (Jvm.Cond.instanceMethod y').before a0 Z = true) (w3 : (Jvm.Cond.initialized y'.cls).before a0 Z = true) (w4 : (Jvm.Cond.code y' bytes' maxL' ret').before a0 Z = true) (Er : Exa Z h a C) (hy : y'.cls ≠ "java/lang/invoke/MethodHandle" ∧ y'.cls ≠ "java/lang/invoke/VarHandle") (argsL rest : List Value) {ps : List FieldType} {r' : Option FieldType} (hlen : parseMethodDescriptor y'.desc = some ⟨ps, r'⟩) (hl : argsL.length = ps.length) (has : (.ref a :: argsL).toArray = as') (hst : S = argsL.reverse ++ .ref a :: rest) (hsz : Ls.size = maxL) (W : Nat) (hW : (rest.map fun v => v.category).sum ≤ W) (hf : rm.frames + 1 ≤ R.frames) (hlo : W + (maxL' + 11) + rm.locals ≤ R.locals) (hc : cells + rm.cells ≤ R.cells) (hs : slots + rm.slots ≤ R.slots) (hp : pc' = pc + 3)
    (K : ∀ T' h' v, Sd l Z n0 y bytes maxL ret R p e s m args below T' h' (cells + rm.cells) (slots + rm.slots) → Q v h' → Go p e below G (T'.setTop (mkF m (pc') Ls (v :: rest)))) : Go p e below G (T.setTop (mkF m pc Ls S)) := by
  obtain ⟨meth, c, locs, X, eT, N, hx, hby, hml, hown, hnm, hret, hlk, hZ, hn⟩ := X; subst hp hst has
  obtain ⟨cq, kq, qa, qb, qc⟩ := isOf hZ eT Er
  obtain ⟨v, _, ⟨T', L', k', n'⟩, -, X', ⟨Lc, ⟨N', hQ⟩, lq, yq, zq⟩, st⟩ := X.virtualBack hx (y := y') (z := y') hown (mvT hZ w1) (mvT hZ w2) (notFace_of_selects (args := #[]) (mvT hZ w5)) (mvT hZ w5) (mvT hZ w6) hy (backOf (W := W) (Q := fun v h L => Fr n0 L ∧ Val Q v h) (hM []) hZ w4 w3 hf hlo) qa qc (g := mkF m pc Ls (argsL.reverse ++ .ref a :: rest)) rfl (by rw [hml]; exact hsz) (Steps.refl _) (argsL := argsL) (rest := rest) (lenOf hlen hl) rfl (by show 2 * 0 + _ ≤ _; omega) (hb hby hd) (fun _ _ => ⟨rfl, eT, hc, hs⟩)
  dsimp only [Pt.U, Pt.locs, Pt.cells, Pt.slots] at X' lq yq zq st hQ
  subst lq yq zq
  obtain ⟨v, rfl, hQ⟩ := hQ
  exact go_of (fun _ k => st.trans k) (K T' _ v ⟨meth, c, _, X', rfl, Fr.app N N', hx, hby, hml, hown, hnm, hret, hlk, hZ, hn⟩ hQ)
theorem w_virtualN (X : Sd l Z n0 y bytes maxL ret R p e s m args below T h cells slots) {i : Nat} {y' : MethodName} {bytes' : ByteArray} {maxL' : Nat} {ret' : Option FieldType} {rm : Room} {as' : Array Value} {Q : Heap → Prop} {a : Addr} {C : String} (hd : decode bytes pc = .ok (.invokevirtual i, 3)) (hM : Con l Z n0 y' bytes' maxL' ret' rm as' h (Non Q)) (w1 : (Jvm.Cond.methodLink y.cls i y').before a0 Z = true) (w2 : (Jvm.Cond.declares y').before a0 Z = true) (w5 : (Jvm.Cond.selects C y' y').before a0 Z = true) (w6 : (Jvm.Cond.instanceMethod y').before a0 Z = true) (w3 : (Jvm.Cond.initialized y'.cls).before a0 Z = true) (w4 : (Jvm.Cond.code y' bytes' maxL' ret').before a0 Z = true) (Er : Exa Z h a C) (hy : y'.cls ≠ "java/lang/invoke/MethodHandle" ∧ y'.cls ≠ "java/lang/invoke/VarHandle") (argsL rest : List Value) {ps : List FieldType} {r' : Option FieldType} (hlen : parseMethodDescriptor y'.desc = some ⟨ps, r'⟩) (hl : argsL.length = ps.length) (has : (.ref a :: argsL).toArray = as') (hst : S = argsL.reverse ++ .ref a :: rest) (hsz : Ls.size = maxL) (W : Nat) (hW : (rest.map fun v => v.category).sum ≤ W) (hf : rm.frames + 1 ≤ R.frames) (hlo : W + (maxL' + 11) + rm.locals ≤ R.locals) (hc : cells + rm.cells ≤ R.cells) (hs : slots + rm.slots ≤ R.slots) (hp : pc' = pc + 3)
    (K : ∀ T' h', Sd l Z n0 y bytes maxL ret R p e s m args below T' h' (cells + rm.cells) (slots + rm.slots) → Q h' → Go p e below G (T'.setTop (mkF m (pc') Ls rest))) : Go p e below G (T.setTop (mkF m pc Ls S)) := by
  obtain ⟨meth, c, locs, X, eT, N, hx, hby, hml, hown, hnm, hret, hlk, hZ, hn⟩ := X; subst hp hst has
  obtain ⟨cq, kq, qa, qb, qc⟩ := isOf hZ eT Er
  obtain ⟨v, _, ⟨T', L', k', n'⟩, -, X', ⟨Lc, ⟨N', hQ⟩, lq, yq, zq⟩, st⟩ := X.virtualBack hx (y := y') (z := y') hown (mvT hZ w1) (mvT hZ w2) (notFace_of_selects (args := #[]) (mvT hZ w5)) (mvT hZ w5) (mvT hZ w6) hy (backOf (W := W) (Q := fun v h L => Fr n0 L ∧ Non Q v h) (hM []) hZ w4 w3 hf hlo) qa qc (g := mkF m pc Ls (argsL.reverse ++ .ref a :: rest)) rfl (by rw [hml]; exact hsz) (Steps.refl _) (argsL := argsL) (rest := rest) (lenOf hlen hl) rfl (by show 2 * 0 + _ ≤ _; omega) (hb hby hd) (fun _ _ => ⟨rfl, eT, hc, hs⟩)
  dsimp only [Pt.U, Pt.locs, Pt.cells, Pt.slots] at X' lq yq zq st hQ
  subst lq yq zq
  obtain ⟨rfl, hQ⟩ := hQ
  exact go_of (fun _ k => st.trans k) (K T' _ ⟨meth, c, _, X', rfl, Fr.app N N', hx, hby, hml, hown, hnm, hret, hlk, hZ, hn⟩ hQ)
theorem w_ireturn {z : Int32} (X : Sd l Z n0 y bytes maxL (some .int) R p e s m args below T h cells slots) {Q : Value → Heap → Prop} (hd : decode bytes pc = .ok (.ireturn, 1)) (hq : Q (.int z) h) (hc : cells ≤ R.cells) (hs : slots ≤ R.slots) : Go p e below (Done below s n0 (Val Q) R.cells R.slots) (T.setTop (mkF m pc Ls (.int z :: S))) := by
  obtain ⟨meth, c, locs, X, eT, N, hx, hby, hml, hown, hnm, hret, hlk, hZ, hn⟩ := X
  obtain ⟨fs, hr, hrun, hended, hW, hsame⟩ := X.leave (v := some (.int z)) (fun h => by rw [hret] at h; cases h) hlk
  refine ⟨_, ?_, _, hrun, hended, _, _, rfl, ⟨N, _, rfl, by rw [← eT] at hq; exact hq⟩, ⟨_, rfl⟩, hW, hsame.mono hc hs⟩
  · exact retOut X hx (t := .int) hret rfl (Or.inl ⟨rfl, Or.inl rfl, z, rfl⟩) (hb hby hd) hr
theorem w_zreturn {z : Int32} (X : Sd l Z n0 y bytes maxL (some .boolean) R p e s m args below T h cells slots) {Q : Value → Heap → Prop} (hd : decode bytes pc = .ok (.ireturn, 1)) (hq : Q (.int (nar .boolean z)) h) (hc : cells ≤ R.cells) (hs : slots ≤ R.slots) : Go p e below (Done below s n0 (Val Q) R.cells R.slots) (T.setTop (mkF m pc Ls (.int z :: S))) := by
  obtain ⟨meth, c, locs, X, eT, N, hx, hby, hml, hown, hnm, hret, hlk, hZ, hn⟩ := X
  obtain ⟨fs, hr, hrun, hended, hW, hsame⟩ := X.leave (v := some (.int (nar .boolean z))) (fun h => by rw [hret] at h; cases h) hlk
  refine ⟨_, ?_, _, hrun, hended, _, _, rfl, ⟨N, _, rfl, by rw [← eT] at hq; exact hq⟩, ⟨_, rfl⟩, hW, hsame.mono hc hs⟩
  · exact retN X hx (t := .boolean) hret (by simp) (hb hby hd) hr
theorem w_breturn {z : Int32} (X : Sd l Z n0 y bytes maxL (some .byte) R p e s m args below T h cells slots) {Q : Value → Heap → Prop} (hd : decode bytes pc = .ok (.ireturn, 1)) (hq : Q (.int (nar .byte z)) h) (hc : cells ≤ R.cells) (hs : slots ≤ R.slots) : Go p e below (Done below s n0 (Val Q) R.cells R.slots) (T.setTop (mkF m pc Ls (.int z :: S))) := by
  obtain ⟨meth, c, locs, X, eT, N, hx, hby, hml, hown, hnm, hret, hlk, hZ, hn⟩ := X
  obtain ⟨fs, hr, hrun, hended, hW, hsame⟩ := X.leave (v := some (.int (nar .byte z))) (fun h => by rw [hret] at h; cases h) hlk
  refine ⟨_, ?_, _, hrun, hended, _, _, rfl, ⟨N, _, rfl, by rw [← eT] at hq; exact hq⟩, ⟨_, rfl⟩, hW, hsame.mono hc hs⟩
  · exact retN X hx (t := .byte) hret (by simp) (hb hby hd) hr
theorem w_creturn {z : Int32} (X : Sd l Z n0 y bytes maxL (some .char) R p e s m args below T h cells slots) {Q : Value → Heap → Prop} (hd : decode bytes pc = .ok (.ireturn, 1)) (hq : Q (.int (nar .char z)) h) (hc : cells ≤ R.cells) (hs : slots ≤ R.slots) : Go p e below (Done below s n0 (Val Q) R.cells R.slots) (T.setTop (mkF m pc Ls (.int z :: S))) := by
  obtain ⟨meth, c, locs, X, eT, N, hx, hby, hml, hown, hnm, hret, hlk, hZ, hn⟩ := X
  obtain ⟨fs, hr, hrun, hended, hW, hsame⟩ := X.leave (v := some (.int (nar .char z))) (fun h => by rw [hret] at h; cases h) hlk
  refine ⟨_, ?_, _, hrun, hended, _, _, rfl, ⟨N, _, rfl, by rw [← eT] at hq; exact hq⟩, ⟨_, rfl⟩, hW, hsame.mono hc hs⟩
  · exact retN X hx (t := .char) hret (by simp) (hb hby hd) hr
theorem w_sreturn {z : Int32} (X : Sd l Z n0 y bytes maxL (some .short) R p e s m args below T h cells slots) {Q : Value → Heap → Prop} (hd : decode bytes pc = .ok (.ireturn, 1)) (hq : Q (.int (nar .short z)) h) (hc : cells ≤ R.cells) (hs : slots ≤ R.slots) : Go p e below (Done below s n0 (Val Q) R.cells R.slots) (T.setTop (mkF m pc Ls (.int z :: S))) := by
  obtain ⟨meth, c, locs, X, eT, N, hx, hby, hml, hown, hnm, hret, hlk, hZ, hn⟩ := X
  obtain ⟨fs, hr, hrun, hended, hW, hsame⟩ := X.leave (v := some (.int (nar .short z))) (fun h => by rw [hret] at h; cases h) hlk
  refine ⟨_, ?_, _, hrun, hended, _, _, rfl, ⟨N, _, rfl, by rw [← eT] at hq; exact hq⟩, ⟨_, rfl⟩, hW, hsame.mono hc hs⟩
  · exact retN X hx (t := .short) hret (by simp) (hb hby hd) hr
theorem w_lreturn {z : Int64} (X : Sd l Z n0 y bytes maxL (some .long) R p e s m args below T h cells slots) {Q : Value → Heap → Prop} (hd : decode bytes pc = .ok (.lreturn, 1)) (hq : Q (.long z) h) (hc : cells ≤ R.cells) (hs : slots ≤ R.slots) : Go p e below (Done below s n0 (Val Q) R.cells R.slots) (T.setTop (mkF m pc Ls (.long z :: S))) := by
  obtain ⟨meth, c, locs, X, eT, N, hx, hby, hml, hown, hnm, hret, hlk, hZ, hn⟩ := X
  obtain ⟨fs, hr, hrun, hended, hW, hsame⟩ := X.leave (v := some (.long z)) (fun h => by rw [hret] at h; cases h) hlk
  refine ⟨_, ?_, _, hrun, hended, _, _, rfl, ⟨N, _, rfl, by rw [← eT] at hq; exact hq⟩, ⟨_, rfl⟩, hW, hsame.mono hc hs⟩
  · exact retOut X hx (t := .long) hret rfl (Or.inr (Or.inl ⟨rfl, rfl, z, rfl⟩)) (hb hby hd) hr
theorem w_areturn {t : FieldType} {v : Value} (X : Sd l Z n0 y bytes maxL (some t) R p e s m args below T h cells slots) {Q : Value → Heap → Prop} (hd : decode bytes pc = .ok (.areturn, 1)) (ht : t.isReference = true) (hv : v.isRef = true) (hna : narrow t v = v) (hq : Q v h) (hc : cells ≤ R.cells) (hs : slots ≤ R.slots) : Go p e below (Done below s n0 (Val Q) R.cells R.slots) (T.setTop (mkF m pc Ls (v :: S))) := by
  obtain ⟨meth, c, locs, X, eT, N, hx, hby, hml, hown, hnm, hret, hlk, hZ, hn⟩ := X
  obtain ⟨fs, hr, hrun, hended, hW, hsame⟩ := X.leave (v := some v) (fun h => by rw [hret] at h; cases h) hlk
  refine ⟨_, ?_, _, hrun, hended, _, _, rfl, ⟨N, _, rfl, by rw [← eT] at hq; exact hq⟩, ⟨_, rfl⟩, hW, hsame.mono hc hs⟩
  · exact retOut X hx (t := t) hret hna (Or.inr (Or.inr (Or.inr (Or.inr ⟨rfl, ht, hv⟩)))) (hb hby hd) hr
theorem w_return  (X : Sd l Z n0 y bytes maxL none R p e s m args below T h cells slots) {Q : Heap → Prop} (hd : decode bytes pc = .ok (.return_, 1)) (hq : Q h) (hc : cells ≤ R.cells) (hs : slots ≤ R.slots) : Go p e below (Done below s n0 (Non Q) R.cells R.slots) (T.setTop (mkF m pc Ls [])) := by
  obtain ⟨meth, c, locs, X, eT, N, hx, hby, hml, hown, hnm, hret, hlk, hZ, hn⟩ := X
  obtain ⟨fs, hr, hrun, hended, hW, hsame⟩ := X.leave (v := none) (fun _ => rfl) hlk
  refine ⟨_, ?_, _, hrun, hended, _, _, rfl, ⟨N, rfl, by rw [← eT] at hq; exact hq⟩, ⟨_, rfl⟩, hW, hsame.mono hc hs⟩
  · exact X.returnOut hx hret (hb hby hd) hr
theorem ne_new {a b : Addr} (g : b = h.size) (q : a < h.size) : a ≠ b := by subst g; exact Nat.ne_of_lt q
theorem sz_fresh {h0 : Heap} {b : Addr} {ws : List Addr} (g : b = h.size) (K : Keep h0 h ws) : h0.size ≤ b := by subst g; exact K.1
def Oar (Z : State) (h : Heap) (a : Addr) (C : String) : Prop := ∃ cl, Arr Z h a cl (.object C) ∧ Ovr Z cl.cls C
theorem Oar.lt {a : Addr} {C : String} (O : Oar Z h a C) : a < h.size := by obtain ⟨cl, A, -⟩ := O; exact A.lt
theorem Oar.ext {h' : Heap} {a : Addr} {C : String} (O : Oar Z h a C) (E : Ext h h') : Oar Z h' a C := by obtain ⟨cl, A, r⟩ := O; exact ⟨cl, A.ext E, r⟩
theorem Oar.wr {h' : Heap} {a b : Addr} {sl : Nat} {v : Value} {C : String} (O : Oar Z h a C) (W : Wr h h' b sl v) : Oar Z h' a C := by
  obtain ⟨cl, A, r⟩ := O
  by_cases q : a = b
  · subst q; exact ⟨_, A.same W, r⟩
  · exact ⟨cl, A.other W q, r⟩
theorem Oar.keep {h' : Heap} {a : Addr} {C : String} {ws : List Addr} (O : Oar Z h a C) (K : Keep h h' ws) : Oar Z h' a C := by
  obtain ⟨cl, A, r⟩ := O
  obtain ⟨c', h1, h2, h3, h4⟩ := K.2.2 a cl A.1
  refine ⟨c', ⟨h1, ?_, by rw [h3]; exact A.2.2⟩, by rw [h2]; exact r⟩
  have := A.2.1; unfold State.isArrayOf at this ⊢; rw [h2, h3]; exact this
theorem Oar.sto {a b : Addr} {C : String} (O : Oar Z h a C) (I : Ins Z h b C true) : Sto Z h a (.ref b) := by obtain ⟨cl, A, r⟩ := O; exact Sto.of A r I
end Walk
section Walk0
variable {l : Launch} {Z : State} {n0 : Nat} {y : MethodName} {bytes : ByteArray} {maxL : Nat} {ret : Option FieldType} {R : Room} {p : Program} {e : Env} {s : State} {m : MethodId} {args : Array Value} {below : List Frame} {T : State} {h : Heap} {cells slots : Nat} {G : State → Prop} {a0 : Array Value} {pc pc' : Nat} {Ls : Array Slot} {S : List Value}
theorem w_initO (X : Sd l Z n0 y bytes maxL ret R p e s m args below T h cells slots) {i : Nat} {a : Addr} (hd : decode bytes pc = .ok (.invokespecial i, 3)) (w1 : (Jvm.Cond.methodLink y.cls i Lib.objectInit).before a0 Z = true) (w2 : (Jvm.Cond.instanceMethod Lib.objectInit).before a0 Z = true) (w3 : (Jvm.Cond.code Lib.objectInit object_method_1_code 1 none).before a0 Z = true) (hsz : Ls.size = maxL) (hf : 1 ≤ R.frames) (W : Nat) (hW : (S.map fun v => v.category).sum ≤ W) (hl : W + 12 ≤ R.locals) (hp : pc' = pc + 3) (K : ∀ T', Sd l Z n0 y bytes maxL ret R p e s m args below T' h cells slots → Go p e below G (T'.setTop (mkF m (pc') Ls S))) : Go p e below G (T.setTop (mkF m pc Ls (.ref a :: S))) := by
  obtain ⟨meth, c, locs, X, eT, N, hx, hby, hml, hown, hnm, hret, hlk, hZ, hn⟩ := X; subst hp
  obtain ⟨T', X', e', st⟩ := initO X hx hZ hown w1 w2 w3 eT (g := mkF m pc Ls (.ref a :: S)) rfl (by rw [hml]; exact hsz) rfl (hb hby hd) hf (W := W) (by show 2 * 0 + _ ≤ _; omega) hl
  exact go_of st (K T' ⟨meth, c, _, X', e', N, hx, hby, hml, hown, hnm, hret, hlk, hZ, hn⟩)
end Walk0
section Walk3
variable {l : Launch} {Z : State} {n0 : Nat} {y : MethodName} {bytes : ByteArray} {maxL : Nat} {ret : Option FieldType} {R : Room} {p : Program} {e : Env} {s : State} {m : MethodId} {args : Array Value} {below : List Frame} {T : State} {h : Heap} {cells slots : Nat} {G : State → Prop} {a0 : Array Value} {pc pc' : Nat} {Ls : Array Slot} {S : List Value}
theorem w_loop {fr : Nat → JFrame} {n : Nat} (I : Nat → Prop) (step : ∀ T i, Sd l Z n0 y bytes maxL ret R p e s m args below T h cells slots → i < n → I i → (∀ T', Sd l Z n0 y bytes maxL ret R p e s m args below T' h cells slots → I (i + 1) → Go p e below G (T'.setTop (fr (i + 1)))) → Go p e below G (T.setTop (fr i))) (last : ∀ T, Sd l Z n0 y bytes maxL ret R p e s m args below T h cells slots → I n → Go p e below G (T.setTop (fr n))) : ∀ k i, i + k = n → I i → ∀ T, Sd l Z n0 y bytes maxL ret R p e s m args below T h cells slots → Go p e below G (T.setTop (fr i)) := by
  intro k
  induction k with
  | zero => intro i hi hI T X; obtain rfl : i = n := hi; exact last T X hI
  | succ k ih => intro i hi hI T X; exact step T i X (by omega) hI (fun T' X' hI' => ih (i + 1) (by omega) hI' T' X')
theorem w_join4 {α β γ δ : Type} {t : State} (P : α → β → γ → δ → Prop) (st : α → β → γ → δ → State) (J : ∀ x1 x2 x3 x4, P x1 x2 x3 x4 → Go p e below G (st x1 x2 x3 x4)) (K : (∀ x1 x2 x3 x4, P x1 x2 x3 x4 → Go p e below G (st x1 x2 x3 x4)) → Go p e below G t) : Go p e below G t := K J
end Walk3
section WalkS
variable {l : Launch} {Z : State} {n0 : Nat} {y : MethodName} {bytes : ByteArray} {maxL : Nat} {ret : Option FieldType} {R : Room} {p : Program} {e : Env} {s : State} {m : MethodId} {args : Array Value} {below : List Frame} {T : State} {h : Heap} {cells slots : Nat} {G : State → Prop} {a0 : Array Value} {pc pc' : Nat} {Ls : Array Slot} {S : List Value} {h' : Heap}
def Ord (Z : State) (h : Heap) (a : Addr) : Prop := ∃ (cell : Cell) (k : Class), h[a]? = some cell ∧ Z.vm.classes[cell.cls]? = some k ∧ k.kind = .ordinary
theorem Ord.of {a : Addr} {C : String} {n : Nat} (E : Exa Z h a C) (w : (Jvm.Cond.instantiable C n).before a0 Z = true) : Ord Z h a := by
  obtain ⟨cell, k, e1, e2, e3, -, -⟩ := E
  obtain ⟨c, k', q1, q2, q3, -⟩ := Cond.instantiable_spec w
  cases e2.symm.trans q1
  cases e3.symm.trans q2
  exact ⟨cell, k, e1, e3, q3⟩
theorem Ord.arr {a : Addr} {cl : Cell} {ty : FieldType} (O : Ord Z h a) (A : Arr Z h a cl ty) : False := by
  obtain ⟨cell, k, e1, e2, e3⟩ := O
  obtain ⟨A1, ⟨-, kA, hkA, compA, hkindA⟩, -⟩ := A
  cases e1.symm.trans A1
  cases e2.symm.trans hkA
  rw [e3] at hkindA; cases hkindA
theorem exa_name {a : Addr} {C C' : String} (E : Exa Z h a C) (E' : Exa Z h a C') : C = C' := by
  obtain ⟨cell, k, e1, e2, -⟩ := E
  obtain ⟨cell', k', e1', e2', -⟩ := E'
  cases e1.symm.trans e1'
  obtain ⟨k1, q1, q2⟩ := Vm.findClass_spec e2
  obtain ⟨k2, q3, q4⟩ := Vm.findClass_spec e2'
  cases q1.symm.trans q3
  exact q2.symm.trans q4
theorem arr_type {a : Addr} {cl cl' : Cell} {ty ty' : FieldType} (A : Arr Z h a cl ty) (A' : Arr Z h a cl' ty') : ty = ty' := by
  obtain ⟨A1, ⟨-, k, hk, comp, hkind⟩, -⟩ := A
  obtain ⟨A1', ⟨-, k', hk', comp', hkind'⟩, -⟩ := A'
  cases A1.symm.trans A1'
  cases hk.symm.trans hk'
  have := hkind.symm.trans hkind'
  injection this
/-- no String, no byte array -/
def Apart (Z : State) (h : Heap) (x : Addr) : Prop := (Ord Z h x ∧ ∃ C, Exa Z h x C ∧ C ≠ "java/lang/String" ∧ C ≠ "[B") ∨ ∃ cl ty, Arr Z h x cl ty ∧ ty ≠ .byte
theorem Apart.obj {x : Addr} {C : String} {n : Nat} (E : Exa Z h x C) (w : (Jvm.Cond.instantiable C n).before a0 Z = true) (h1 : C ≠ "java/lang/String") (h2 : C ≠ "[B") : Apart Z h x := Or.inl ⟨Ord.of E w, C, E, h1, h2⟩
theorem Apart.ary {x : Addr} {ty : FieldType} {n : Nat} {f : Nat → Value} (A : Ary Z h x ty n f) (ht : ty ≠ .byte) : Apart Z h x := by obtain ⟨c, A, -⟩ := A; exact Or.inr ⟨c, ty, A, ht⟩
/-- the String a says bs (its bytes, as ints) -/
def Str (Z : State) (h : Heap) (a : Addr) (bs : List Int32) : Prop := ∃ b, Exa Z h a "java/lang/String" ∧ Ord Z h a ∧ Fld Z h a "java/lang/String" "coder" "B" (.int 0) ∧ Fld Z h a "java/lang/String" "value" "[B" (.ref b) ∧ Ary Z h b .byte bs.length (fun i => .int (bs.getD i 0))
theorem Str.exa {a : Addr} {bs : List Int32} (S : Str Z h a bs) : Exa Z h a "java/lang/String" := by obtain ⟨b, E, -⟩ := S; exact E
theorem Str.lt {a : Addr} {bs : List Int32} (S : Str Z h a bs) : a < h.size := S.exa.lt
theorem Str.ext {a : Addr} {bs : List Int32} (S : Str Z h a bs) (E : Ext h h') : Str Z h' a bs := by
  obtain ⟨b, h1, ⟨cell, k, o1, o2⟩, h2, h3, h4⟩ := S
  exact ⟨b, Exa.ext E h1, ⟨cell, k, E.2 _ _ o1, o2⟩, Fld.ext E h2, Fld.ext E h3, h4.ext E⟩
theorem Str.keep {a : Addr} {bs : List Int32} {ws : List Addr} (S : Str Z h a bs) (K : Keep h h' ws) (P : ∀ x ∈ ws, Apart Z h x) : Str Z h' a bs := by
  obtain ⟨b, h1, O, h2, h3, h4⟩ := S
  have na : a ∉ ws := fun q => by
    rcases P a q with ⟨-, C, E, n1, -⟩ | ⟨cl, ty, A, -⟩
    · exact n1 (exa_name E h1)
    · exact O.arr A
  have nb : b ∉ ws := fun q => by
    obtain ⟨cb, Ab, -⟩ := h4
    rcases P b q with ⟨O', -⟩ | ⟨cl, ty, A, n1⟩
    · exact O'.arr Ab
    · exact n1 (arr_type A Ab)
  obtain ⟨cell, k, o1, o2⟩ := O
  exact ⟨b, h1.keep K, ⟨cell, k, K.2.1 _ _ o1 na, o2⟩, h2.keep K na, h3.keep K na, h4.keep K nb⟩
theorem Str.uniq {a : Addr} {bs bs' : List Int32} (S : Str Z h a bs) (S' : Str Z h a bs') : bs = bs' := by
  obtain ⟨b, -, -, -, ⟨c1, x1, k1, i1, f1, p1, p2, p3, p4, p5, p6, p7⟩, ⟨c, A, r1, r2, r3⟩⟩ := S
  obtain ⟨b', -, -, -, ⟨c2, x2, k2, i2, f2, q1, q2, q3, q4, q5, q6, q7⟩, ⟨c', A', r1', r2', r3'⟩⟩ := S'
  cases p1.symm.trans q1
  cases p2.symm.trans q2
  cases p7.symm.trans q7
  cases A.1.symm.trans A'.1
  have hl : bs.length = bs'.length := r1.symm.trans r1'
  apply List.ext_getElem hl
  intro i h1 h2
  have e1 := (r3 i h1).symm.trans (r3' i h2)
  have e2 : bs.getD i 0 = bs'.getD i 0 := by injection Option.some.inj e1
  simpa [List.getD_eq_getElem?_getD, h1, h2] using e2
theorem ary_of_arv {b : Addr} {k : ClassId} {z : Int32} {bs : List Int32} (A : Arv Z h b k .byte z (bs.map Value.int) (.int 0)) (hz : z.toNatClampNeg = bs.length) (hb : bs.length < 2 ^ 31) : Ary Z h b .byte bs.length (fun i => .int (bs.getD i 0)) := by
  obtain ⟨c, A, -, r1, r2, r3, -⟩ := A
  refine ⟨c, A, r1.trans hz, hb, fun i hi => ?_⟩
  rw [r3 i (by rw [r1, hz]; exact hi)]
  simp [List.getD_eq_getElem?_getD, hi]
theorem kext (K : Keep h h' []) : Ext h h' := ⟨K.1, fun a c q => K.2.1 a c q (by simp)⟩
theorem extk (E : Ext h h') : Keep h h' [] := (Keep.refl h []).ext E
theorem ap0 : ∀ x ∈ ([] : List Addr), Apart Z h x := fun x q => nomatch q
theorem ap1 {a : Addr} (A : Apart Z h a) : ∀ x ∈ [a], Apart Z h x := fun x q => by cases List.mem_singleton.mp q; exact A
theorem ap2 {a b : Addr} (A : Apart Z h a) (B : Apart Z h b) : ∀ x ∈ [a, b], Apart Z h x := fun x q => by
  rcases List.mem_cons.mp q with rfl | q
  · exact A
  · cases List.mem_singleton.mp q; exact B
theorem w_checkcast (X : Sd l Z n0 y bytes maxL ret R p e s m args below T h cells slots) {i : Nat} {C : String} {a : Addr} (hd : decode bytes pc = .ok (.checkcast i, 3)) (w : (Jvm.Cond.classLink y.cls i C).before a0 Z = true) (I : Ins Z h a C true) (hp : pc' = pc + 3) (K : ∀ T', Sd l Z n0 y bytes maxL ret R p e s m args below T' h cells slots → Go p e below G (T'.setTop (mkF m (pc') Ls (.ref a :: S)))) : Go p e below G (T.setTop (mkF m pc Ls (.ref a :: S))) := by
  obtain ⟨meth, c, locs, X, eT, N, hx, hby, hml, hown, hnm, hret, hlk, hZ, hn⟩ := X; subst hp
  obtain ⟨T', X', e', st⟩ := castY X hx hZ hown w eT I (g := mkF m pc Ls (.ref a :: S)) rfl rfl (hb hby hd)
  exact go_of st (K T' ⟨meth, c, _, X', e', N, hx, hby, hml, hown, hnm, hret, hlk, hZ, hn⟩)
theorem w_instanceof (X : Sd l Z n0 y bytes maxL ret R p e s m args below T h cells slots) {i : Nat} {C : String} {a : Addr} (hd : decode bytes pc = .ok (.instanceof i, 3)) (w : (Jvm.Cond.classLink y.cls i C).before a0 Z = true) (I : Ins Z h a C true) (hp : pc' = pc + 3) (K : ∀ T', Sd l Z n0 y bytes maxL ret R p e s m args below T' h cells slots → Go p e below G (T'.setTop (mkF m (pc') Ls (.int (1 : Int32) :: S)))) : Go p e below G (T.setTop (mkF m pc Ls (.ref a :: S))) := by
  obtain ⟨meth, c, locs, X, eT, N, hx, hby, hml, hown, hnm, hret, hlk, hZ, hn⟩ := X; subst hp
  obtain ⟨T', X', e', st⟩ := instY X hx hZ hown w eT I (g := mkF m pc Ls (.ref a :: S)) rfl rfl (hb hby hd)
  exact go_of st (K T' ⟨meth, c, _, X', e', N, hx, hby, hml, hown, hnm, hret, hlk, hZ, hn⟩)
end WalkS
section WalkW
variable {l : Launch} {Z : State} {n0 : Nat} {y : MethodName} {bytes : ByteArray} {maxL : Nat} {ret : Option FieldType} {R : Room} {p : Program} {e : Env} {s : State} {m : MethodId} {args : Array Value} {below : List Frame} {T : State} {h : Heap} {cells slots : Nat} {G : State → Prop} {a0 : Array Value} {pc pc' : Nat} {Ls : Array Slot} {S : List Value} {h' : Heap} {EL : List (String × Nat)} {vm : Vm}
/-- beside the Stand of a walk that may have interned since its true start s -/
def Fw (Z : State) (EL : List (String × Nat)) (s : State) (vm : Vm) (h : Heap) : Prop := ∃ k, s.Since vm k ∧ k ≤ h.size ∧ CHr Z EL s.vm s.heap vm h
theorem Fw.ext (F : Fw Z EL s vm h) (E : Ext h h') : Fw Z EL s vm h' := by
  obtain ⟨k, a, b, c⟩ := F; exact ⟨k, a, Nat.le_trans b E.1, c.trans (CHr.ext E c.1)⟩
theorem Fw.keep {ws : List Addr} (F : Fw Z EL s vm h) (K : Keep h h' ws) (hs : ∀ x ∈ ws, Safe Z EL vm h x) : Fw Z EL s vm h' := by
  obtain ⟨k, a, b, c⟩ := F; exact ⟨k, a, Nat.le_trans b K.1, c.trans (CHr.keep K hs c.1)⟩
theorem Fw.wr {a : Addr} {sl : Nat} {v : Value} (F : Fw Z EL s vm h) (W : Wr h h' a sl v) (S : Safe Z EL vm h a) : Fw Z EL s vm h' := by
  obtain ⟨k, x, b, c⟩ := F
  have q := CHr.wr W S c.1
  exact ⟨k, x, Nat.le_trans b q.2.1, c.trans q⟩
theorem sd_alike (X : Sd l Z n0 y bytes maxL ret R p e (s.setVm vm) m args below T h cells slots) : Z.vm.Alike vm := by obtain ⟨_, _, _, -, -, -, -, -, -, -, -, -, -, hZ, -⟩ := X; exact hZ.alike
theorem Apart.safe {x : Addr} (A : Apart Z h x) (hal : Z.vm.Alike vm) : Safe Z EL vm h x := by
  rcases A with ⟨-, C, E, h1, h2⟩ | ⟨cl, ty, A, h1⟩
  · exact Safe.exa hal E h1 h2
  · exact Safe.arr hal A h1
theorem Fw.kp {ws : List Addr} {h0 : Heap} {T0 : State} {c0 n1 : Nat} (F : Fw Z EL s vm h) (X : Sd l Z n0 y bytes maxL ret R p e (s.setVm vm) m args below T0 h0 c0 n1) (K : Keep h h' ws) (P : ∀ x ∈ ws, Apart Z h x) : Fw Z EL s vm h' := F.keep K fun x hx => (P x hx).safe (sd_alike X)
def DoneW (below : List Frame) (Z : State) (EL : List (String × Nat)) (s : State) (n0 : Nat) (Q : Option Value → Heap → Prop) (C N : Nat) (s₂ : State) : Prop := ∃ o, s₂.status = .running ∧ Ended s₂ below o ∧ ∃ v L, o = .returned v ∧ (Fr n0 L ∧ Q v s₂.heap) ∧ CHr Z EL s.vm s.heap s₂.vm s₂.heap ∧ ReturnedEndW s o s₂ L C N
def ConW (l : Launch) (Z : State) (EL : List (String × Nat)) (n0 : Nat) (y : MethodName) (bytes : ByteArray) (maxL : Nat) (ret : Option FieldType) (rm : Room) (as' : Array Value) (h : Heap) (Q : Option Value → Heap → Prop) : Prop :=
  ∀ ws, MetFree l y (head1 (Jvm.Cond.code y bytes maxL ret :: ws) rm) (fun a U => a = as' ∧ Z.Warmed39 U.vm ∧ U.heap = h ∧ CHv Z EL U.vm h) (fun _ _ _ _ _ => True) (fun _ U o U' => ∃ v L, o = .returned v ∧ (Fr n0 L ∧ Q v U'.heap) ∧ CHr Z EL U.vm U.heap U'.vm U'.heap ∧ ReturnedEndW U o U' L rm.cells rm.slots)
theorem conW_intro {rm : Room} {as' : Array Value} {Q : Option Value → Heap → Prop} (hp : plainFor y = true) (hn : n0 ≤ h.size) {fr : MethodId → JFrame} (ef : ∀ m, entryFrame m as' maxL = fr m)
    (body : ∀ p e s m below s₁, s.heap = h → Fw Z EL s s.vm h → Sd l Z n0 y bytes maxL ret rm p e (s.setVm s.vm) m as' below s₁ h 0 0 → Go p e below (DoneW below Z EL s n0 Q rm.cells rm.slots) (s₁.setTop (fr m))) : ConW l Z EL n0 y bytes maxL ret rm as' h Q := by
  intro ws
  refine MetFree.of_bodySF hp hisR ?_
  intro p e s m args below meth c s₁ Bd hml0 hP hK
  obtain ⟨rfl, hZ, hh, hC⟩ := hP
  have e0 : s₁.heap = h := by rw [← hh, Bd.state]; rfl
  have F0 : Fw Z EL s s.vm h := ⟨0, State.WarmedH.since (State.WarmedH.refl s) 0, Nat.zero_le _, by rw [← hh] at hC ⊢; exact CHr.refl hC⟩
  obtain ⟨s₂, st, o, r1, r2, r3⟩ := body p e s m below s₁ hh F0 ⟨meth, c, [], Stand.of_body Bd, e0, Fr.nil n0, Bd.exec, Bd.bytes, hml0, findClass_of_methodNamed Bd.named, (name_of_methodNamed Bd.named Bd.method).1, Bd.returns, Bd.notSynchronized, hZ, by show n0 ≤ s.heap.size; rw [hh]; exact hn⟩
  exact ⟨s₂, o, castTop (ef m) st, r1, r2, r3⟩
theorem w_ldcW (X : Sd l Z n0 y bytes maxL ret R p e (s.setVm vm) m args below T h cells slots) (F : Fw Z EL s vm h) {i : Nat} {text : String} (bs : List Int32) (n : Nat) (hd : decode bytes pc = .ok (.ldc i, 2)) (w : (Jvm.Cond.stringLink y.cls i text).before a0 Z = true) (wS : ∀ a ∈ Bundle.stringAtoms, a.before a0 Z = true) (hEL : EW Z a0 EL) (hmem : (y.cls, i) ∈ EL) (ht : (∀ c ∈ text.toList, c.toNat < 256) ∧ text.toList.map (fun c => Value.int (Jvm.Lit.byteI c.toNat.toUInt16)) = bs.map Value.int) (hb31 : bs.length < 2 ^ 31) (hn' : 4 * text.toList.length ≤ n) (hbig : n ≤ 536870912) (hc : cells + 2 ≤ R.cells) (hl : slots + (n + 4) ≤ R.slots) (hp : pc' = pc + 2)
    (K : ∀ T' h' vm' a, Sd l Z n0 y bytes maxL ret R p e (s.setVm vm') m args below T' h' (cells + 2) (slots + (n + 4)) → Fw Z EL s vm' h' → Ext h h' → Str Z h' a bs → Go p e below G (T'.setTop (mkF m (pc') Ls (.ref a :: S)))) : Go p e below G (T.setTop (mkF m pc Ls S)) := by
  obtain ⟨meth, c, locs, X, eT, N, hx, hby, hml, hown, hnm, hret, hlk, hZ, hn⟩ := X; subst hp
  obtain ⟨k, hS, hk, C⟩ := F
  have q := nat_at (len_toInt hb31)
  obtain ⟨a, T', h', k1, b, kc, X', e', E', hS', hk', hZ', hown', Ea, Fc, Fv, Av, -, -, C', -, -, st⟩ := ldcCH X hx hZ hown w wS eT hS hk hEL hmem C.1 ht q.2 (by rw [q.1]; simp) (g := mkF m pc Ls S) rfl (hb hby hd) hn' hbig hc hl
  refine go_of st (K T' h' T'.vm a ⟨meth, c, _, X', e', N, hx, hby, hml, hown', hnm, hret, hlk, hZ', hn⟩ ⟨k1, hS', hk', C.trans C'⟩ E' ⟨b, Ea, Ord.of Ea (wS (.instantiable "java/lang/String" 4) (by simp [Bundle.stringAtoms, Bundle.sN])), Fc, Fv, ary_of_arv Av q.1 hb31⟩)
theorem w_staticVW (X : Sd l Z n0 y bytes maxL ret R p e (s.setVm vm) m args below T h cells slots) (F : Fw Z EL s vm h) {i : Nat} {y' : MethodName} {bytes' : ByteArray} {maxL' : Nat} {ret' : Option FieldType} {rm : Room} {as' : Array Value} {Q : Value → Heap → Prop} (hd : decode bytes pc = .ok (.invokestatic i, 3)) (hM : ConW l Z EL n0 y' bytes' maxL' ret' rm as' h (Val Q)) (w1 : (Jvm.Cond.methodLink y.cls i y').before a0 Z = true) (w2 : (Jvm.Cond.static y').before a0 Z = true) (w3 : (Jvm.Cond.initialized y'.cls).before a0 Z = true) (w4 : (Jvm.Cond.code y' bytes' maxL' ret').before a0 Z = true) (hEL : EW Z a0 EL) (hy : y'.cls ≠ "java/lang/invoke/MethodHandle" ∧ y'.cls ≠ "java/lang/invoke/VarHandle") (argsL rest : List Value) {ps : List FieldType} {r' : Option FieldType} (hlen : parseMethodDescriptor y'.desc = some ⟨ps, r'⟩) (hl : argsL.length = ps.length) (has : argsL.toArray = as') (hst : S = argsL.reverse ++ rest) (hsz : Ls.size = maxL) (W : Nat) (hW : (rest.map fun v => v.category).sum ≤ W) (hf : rm.frames + 1 ≤ R.frames) (hlo : W + (maxL' + 11) + rm.locals ≤ R.locals) (hc : cells + rm.cells ≤ R.cells) (hs : slots + rm.slots ≤ R.slots) (hp : pc' = pc + 3)
    (K : ∀ T' h' vm' v, Sd l Z n0 y bytes maxL ret R p e (s.setVm vm') m args below T' h' (cells + rm.cells) (slots + rm.slots) → Fw Z EL s vm' h' → Q v h' → Go p e below G (T'.setTop (mkF m (pc') Ls (v :: rest)))) : Go p e below G (T.setTop (mkF m pc Ls S)) := by
  obtain ⟨meth, c, locs, X, eT, N, hx, hby, hml, hown, hnm, hret, hlk, hZ, hn⟩ := X; subst hp hst has
  obtain ⟨k, hS, hk, C⟩ := F
  obtain ⟨v, _, ⟨T', L', k', n'⟩, -, X', hS', hgr, ⟨Lc, ⟨N', hQ⟩, lq, yq, zq, C'⟩, st⟩ := callSS X hx (y := y') hown (mvT hZ w1) (mvT hZ w2) (mvT hZ w3) (mvT hZ w4) hy (backOfSH (W := W) (Q := fun v h L => Fr n0 L ∧ Val Q v h) (hM []) hZ w4 w3 hf hlo hEL C.1) (g := mkF m pc Ls (argsL.reverse ++ rest)) rfl (by rw [hml]; exact hsz) (argsL := argsL) (rest := rest) (lenOf hlen hl) rfl (by show 2 * 0 + _ ≤ _; omega) (hb hby hd) (fun _ _ => ⟨rfl, eT, hc, hs⟩)
  dsimp only [Pt.U, Pt.locs, Pt.cells, Pt.slots] at X' lq yq zq st hQ hS' hgr C'
  subst lq yq zq
  obtain ⟨v, rfl, hQ⟩ := hQ
  exact go_of (fun _ k => st.trans k) (K T' _ T'.vm v ⟨meth, c, _, X', rfl, Fr.app N N', hx, hby, hml, by show T'.vm.findClass _ = _; rw [hS'.1.alike.findClass]; exact hown, hnm, hret, hlk, State.Warmed39.trans (t := s.setVm vm) hZ hS'.1, hn⟩ ⟨_, hS.trans hS' (Nat.le_trans hk (by rw [← eT]; exact hgr)), Nat.le_refl _, C.trans C'⟩ hQ)
theorem w_specialNW (X : Sd l Z n0 y bytes maxL ret R p e (s.setVm vm) m args below T h cells slots) (F : Fw Z EL s vm h) {i : Nat} {y' : MethodName} {bytes' : ByteArray} {maxL' : Nat} {rm : Room} {as' : Array Value} {Q : Heap → Prop} {a : Addr} (hd : decode bytes pc = .ok (.invokespecial i, 3)) (hM : ConW l Z EL n0 y' bytes' maxL' none rm as' h (Non Q)) (w1 : (Jvm.Cond.methodLink y.cls i y').before a0 Z = true) (w2 : (Jvm.Cond.instanceMethod y').before a0 Z = true) (w3 : (Jvm.Cond.initialized y'.cls).before a0 Z = true) (w4 : (Jvm.Cond.code y' bytes' maxL' none).before a0 Z = true) (hin : y'.name = "<init>") (hEL : EW Z a0 EL) (hy : y'.cls ≠ "java/lang/invoke/MethodHandle" ∧ y'.cls ≠ "java/lang/invoke/VarHandle") (argsL rest : List Value) {ps : List FieldType} {r' : Option FieldType} (hlen : parseMethodDescriptor y'.desc = some ⟨ps, r'⟩) (hl : argsL.length = ps.length) (has : (.ref a :: argsL).toArray = as') (hst : S = argsL.reverse ++ .ref a :: rest) (hsz : Ls.size = maxL) (W : Nat) (hW : (rest.map fun v => v.category).sum ≤ W) (hf : rm.frames + 1 ≤ R.frames) (hlo : W + (maxL' + 11) + rm.locals ≤ R.locals) (hc : cells + rm.cells ≤ R.cells) (hs : slots + rm.slots ≤ R.slots) (hp : pc' = pc + 3)
    (K : ∀ T' h' vm', Sd l Z n0 y bytes maxL ret R p e (s.setVm vm') m args below T' h' (cells + rm.cells) (slots + rm.slots) → Fw Z EL s vm' h' → Q h' → Go p e below G (T'.setTop (mkF m (pc') Ls rest))) : Go p e below G (T.setTop (mkF m pc Ls S)) := by
  obtain ⟨meth, c, locs, X, eT, N, hx, hby, hml, hown, hnm, hret, hlk, hZ, hn⟩ := X; subst hp hst has
  obtain ⟨k, hS, hk, C⟩ := F
  obtain ⟨v, _, ⟨T', L', k', n'⟩, -, X', hS', hgr, ⟨Lc, ⟨N', hQ⟩, lq, yq, zq, C'⟩, st⟩ := X.specialBackS hx (y := y') hin hown (mvT hZ w1) (mvT hZ w2) (mvT hZ w4) hy (backOfSH (W := W) (Q := fun v h L => Fr n0 L ∧ Non Q v h) (hM []) hZ w4 w3 hf hlo hEL C.1) (g := mkF m pc Ls (argsL.reverse ++ .ref a :: rest)) rfl (by rw [hml]; exact hsz) (Steps.refl _) (a := a) (argsL := argsL) (rest := rest) (lenOf hlen hl) rfl (by show 2 * 0 + _ ≤ _; omega) (hb hby hd) (fun _ _ => ⟨rfl, eT, hc, hs⟩)
  dsimp only [Pt.U, Pt.locs, Pt.cells, Pt.slots] at X' lq yq zq st hQ hS' hgr C'
  subst lq yq zq
  obtain ⟨rfl, hQ⟩ := hQ
  exact go_of (fun _ k => st.trans k) (K T' _ T'.vm ⟨meth, c, _, X', rfl, Fr.app N N', hx, hby, hml, by show T'.vm.findClass _ = _; rw [hS'.1.alike.findClass]; exact hown, hnm, hret, hlk, State.Warmed39.trans (t := s.setVm vm) hZ hS'.1, hn⟩ ⟨_, hS.trans hS' (Nat.le_trans hk (by rw [← eT]; exact hgr)), Nat.le_refl _, C.trans C'⟩ hQ)
theorem w_zreturnW {z : Int32} (X : Sd l Z n0 y bytes maxL (some .boolean) R p e (s.setVm vm) m args below T h cells slots) (F : Fw Z EL s vm h) (hEL : EW Z a0 EL) {Q : Value → Heap → Prop} (hd : decode bytes pc = .ok (.ireturn, 1)) (hq : Q (.int (nar .boolean z)) h) (hc : cells ≤ R.cells) (hs : slots ≤ R.slots) : Go p e below (DoneW below Z EL s n0 (Val Q) R.cells R.slots) (T.setTop (mkF m pc Ls (.int z :: S))) := by
  obtain ⟨meth, c, locs, X, eT, N, hx, hby, hml, hown, hnm, hret, hlk, hZ, hn⟩ := X
  obtain ⟨k, hS, hk, C⟩ := F
  obtain ⟨fs, hr, hrun, hended, r1, r2, r3, r4⟩ := X.leaveW (v := some (.int (nar .boolean z))) hS (by rw [eT]; exact hk) (fun h => by rw [hret] at h; cases h) hlk
  refine ⟨_, ?_, _, hrun, hended, _, _, rfl, ⟨N, _, rfl, by rw [← eT] at hq; exact hq⟩, ?_, r1, r2, r3, r4.mono hc hs⟩
  · exact retN X hx (t := .boolean) hret (by simp) (hb hby hd) hr
  · have q := C.trans (CHv.at X hZ hEL C.1)
    rw [← eT] at q; exact q
theorem w_areturnW {t : FieldType} {v : Value} (X : Sd l Z n0 y bytes maxL (some t) R p e (s.setVm vm) m args below T h cells slots) (F : Fw Z EL s vm h) (hEL : EW Z a0 EL) {Q : Value → Heap → Prop} (hd : decode bytes pc = .ok (.areturn, 1)) (ht : t.isReference = true) (hv : v.isRef = true) (hna : narrow t v = v) (hq : Q v h) (hc : cells ≤ R.cells) (hs : slots ≤ R.slots) : Go p e below (DoneW below Z EL s n0 (Val Q) R.cells R.slots) (T.setTop (mkF m pc Ls (v :: S))) := by
  obtain ⟨meth, c, locs, X, eT, N, hx, hby, hml, hown, hnm, hret, hlk, hZ, hn⟩ := X
  obtain ⟨k, hS, hk, C⟩ := F
  obtain ⟨fs, hr, hrun, hended, r1, r2, r3, r4⟩ := X.leaveW (v := some v) hS (by rw [eT]; exact hk) (fun h => by rw [hret] at h; cases h) hlk
  refine ⟨_, ?_, _, hrun, hended, _, _, rfl, ⟨N, _, rfl, by rw [← eT] at hq; exact hq⟩, ?_, r1, r2, r3, r4.mono hc hs⟩
  · exact retOut X hx (t := t) hret hna (Or.inr (Or.inr (Or.inr (Or.inr ⟨rfl, ht, hv⟩)))) (hb hby hd) hr
  · have q := C.trans (CHv.at X hZ hEL C.1)
    rw [← eT] at q; exact q
theorem w_returnW  (X : Sd l Z n0 y bytes maxL none R p e (s.setVm vm) m args below T h cells slots) (F : Fw Z EL s vm h) (hEL : EW Z a0 EL) {Q : Heap → Prop} (hd : decode bytes pc = .ok (.return_, 1)) (hq : Q h) (hc : cells ≤ R.cells) (hs : slots ≤ R.slots) : Go p e below (DoneW below Z EL s n0 (Non Q) R.cells R.slots) (T.setTop (mkF m pc Ls [])) := by
  obtain ⟨meth, c, locs, X, eT, N, hx, hby, hml, hown, hnm, hret, hlk, hZ, hn⟩ := X
  obtain ⟨k, hS, hk, C⟩ := F
  obtain ⟨fs, hr, hrun, hended, r1, r2, r3, r4⟩ := X.leaveW (v := none) hS (by rw [eT]; exact hk) (fun _ => rfl) hlk
  refine ⟨_, ?_, _, hrun, hended, _, _, rfl, ⟨N, rfl, by rw [← eT] at hq; exact hq⟩, ?_, r1, r2, r3, r4.mono hc hs⟩
  · exact X.returnOut hx hret (hb hby hd) hr
  · have q := C.trans (CHv.at X hZ hEL C.1)
    rw [← eT] at q; exact q
end WalkW
abbrev own_EL : List (String × Nat) := consts_1
theorem own_hEL {a0 : Array Value} {Z : State} (hw : ∀ d ∈ tables_1, d.before a0 Z = true) : EW Z a0 own_EL := (EW.cons (hw _ (List.mem_of_getElem? (i := 74) rfl)) (by decide) EW.nil)
theorem own_wS {a0 : Array Value} {Z : State} (hw : ∀ d ∈ tables_1, d.before a0 Z = true) : ∀ a ∈ Bundle.stringAtoms, a.before a0 Z = true := by
  intro a ha
  simp only [Bundle.stringAtoms, List.mem_cons, List.not_mem_nil, or_false] at ha
  rcases ha with rfl | rfl | rfl | rfl | rfl | rfl | rfl
  · exact (hw _ (List.mem_of_getElem? (i := 23) rfl))
  · exact (hw _ (List.mem_of_getElem? (i := 31) rfl))
  · exact (hw _ (List.mem_of_getElem? (i := 35) rfl))
  · exact (hw _ (List.mem_of_getElem? (i := 42) rfl))
  · exact (hw _ (List.mem_of_getElem? (i := 44) rfl))
  · exact (hw _ (List.mem_of_getElem? (i := 75) rfl))
  · exact (hw _ (List.mem_of_getElem? (i := 76) rfl))
theorem own_nat (n : Nat) (h : n < 2 ^ 31) : (Int32.ofNat n).toInt = (n : Int) := Int32.toInt_ofNat_small (by omega)
theorem own_succ (n : Nat) : Int32.ofNat n + (1 : Int32) = Int32.ofNat (n + 1) := Int32.ofNat_succ n |>.symm ▸ rfl
theorem own_i8 (c : Int32) : c.toInt8.toInt32.toInt8.toInt32 = c.toInt8.toInt32 := by simp
theorem own_tob (c : Int32) (i : Nat) (hi : i < [c.toInt8.toInt32].length) : upd (fun _ => .int (0 : Int32)) 0 (.int (nar .byte c.toInt8.toInt32)) i = .int ([c.toInt8.toInt32].getD i 0) := by
  have e : i = 0 := by simpa using hi
  subst e
  exact (upd_same _ _ _).trans (congrArg Value.int (own_i8 c))
theorem own_m255 (p : Int32) : ¬ (255 : Int32) < p &&& (255 : Int32) := by
  have e1 : (p &&& (255 : Int32)).toInt = p.toInt % 2 ^ 8 := Jvm.Kit.i32_mask p 255 (k := 8) (by decide) (by decide)
  rw [Int32.lt_iff_toInt_lt, show (255 : Int32).toInt = 255 from by decide]; omega
theorem ary31 {Z : State} {h : Heap} {a : Addr} {ty : FieldType} {n : Nat} {f : Nat → Value} (A : Ary Z h a ty n f) : n < 2 ^ 31 := by obtain ⟨_, _, _, q, _⟩ := A; exact q
theorem own_leq {bs1 bs2 : List Int32} (hl : bs1.length = bs2.length) (h : ∀ j, j < bs1.length → bs1.getD j 0 = bs2.getD j 0) : bs1 = bs2 := by
  apply List.ext_getElem hl
  intro i h1 h2
  have e := h i h1
  simpa [List.getD_eq_getElem?_getD, h1, h2] using e
theorem d5_0 : decode jdk_43_method_3_code 0 = .ok (.iload_n 0, 1) := by decide +kernel
theorem d5_1 : decode jdk_43_method_3_code 1 = .ok (.sipush 255, 3) := by decide +kernel
theorem d5_4 : decode jdk_43_method_3_code 4 = .ok (.if_icmp .gt 7, 3) := by decide +kernel
theorem d5_7 : decode jdk_43_method_3_code 7 = .ok (.iconst 1, 1) := by decide +kernel
theorem d5_8 : decode jdk_43_method_3_code 8 = .ok (.goto 4, 3) := by decide +kernel
theorem d5_11 : decode jdk_43_method_3_code 11 = .ok (.iconst 0, 1) := by decide +kernel
theorem d5_12 : decode jdk_43_method_3_code 12 = .ok (.ireturn, 1) := by decide +kernel
theorem pn_5 : plainFor (⟨"java/lang/StringLatin1", "canEncode", "(C)Z"⟩ : MethodName) = true := plainFor_of_name (by first | (simp [plainName, overriddenIn]; done) | decide +kernel)
theorem pd_5 : parseMethodDescriptor "(C)Z" = some ⟨[.char], some .boolean⟩ := by decide +kernel
set_option maxRecDepth 65536 in
set_option maxHeartbeats 40000000 in
theorem rm_can {l : Launch} {Z : State} {a0 : Array Value} (hw : ∀ d ∈ tables_1, d.before a0 Z = true) {n0 : Nat} {h0 : Heap} (Z0 : n0 ≤ h0.size) (p1 : Int32) (hc : ¬ (255 : Int32) < p1) :
    Con l Z n0 (⟨"java/lang/StringLatin1", "canEncode", "(C)Z"⟩ : MethodName) jdk_43_method_3_code 1 (some .boolean) ({ frames := 0, cells := 0, slots := 0, locals := 0 } : Room) #[(.int p1)] h0 (Val (fun v h => v = .int 1 ∧ h0 = h)) := by
  refine con_intro pn_5 Z0 (fr := fun m => mkF m 0 #[.val (.int p1)] []) (fun m => by first | (simp [entryFrame, mkF, argsToLocals, Value.category]; done) | rfl) ?_
  intro p e s m below s₁ hs0 X0
  refine w_iloadN X0 (pc' := 1) d5_0 rfl rfl ?_
  refine w_sipush X0 (pc' := 4) (255 : Int32) d5_1 rfl rfl ?_
  refine w_icmp_gt X0 11 7 d5_4 (by decide) rfl rfl (fun hc4 => by exfalso; exact hc hc4) (fun hc4 => ?_)
  refine w_iconst X0 (pc' := 8) (1 : Int32) d5_7 rfl rfl ?_
  refine w_goto X0 (pc' := 12) d5_8 (by decide) rfl ?_
  exact w_zreturn X0 d5_12 ⟨rfl, rfl⟩ (by decide) (by decide)
theorem d6_0 : decode jdk_43_method_46_code 0 = .ok (.iconst 1, 1) := by decide +kernel
theorem d6_1 : decode jdk_43_method_46_code 1 = .ok (.newarray .byte, 2) := by decide +kernel
theorem d6_3 : decode jdk_43_method_46_code 3 = .ok (.dup, 1) := by decide +kernel
theorem d6_4 : decode jdk_43_method_46_code 4 = .ok (.iconst 0, 1) := by decide +kernel
theorem d6_5 : decode jdk_43_method_46_code 5 = .ok (.iload_n 0, 1) := by decide +kernel
theorem d6_6 : decode jdk_43_method_46_code 6 = .ok (.i2b, 1) := by decide +kernel
theorem d6_7 : decode jdk_43_method_46_code 7 = .ok (.bastore, 1) := by decide +kernel
theorem d6_8 : decode jdk_43_method_46_code 8 = .ok (.areturn, 1) := by decide +kernel
theorem pn_6 : plainFor (⟨"java/lang/StringLatin1", "toBytes", "(C)[B"⟩ : MethodName) = true := plainFor_of_name (by first | (simp [plainName, overriddenIn]; done) | decide +kernel)
theorem pd_6 : parseMethodDescriptor "(C)[B" = some ⟨[.char], some (.array .byte)⟩ := by decide +kernel
set_option maxRecDepth 65536 in
set_option maxHeartbeats 40000000 in
theorem rm_tob {l : Launch} {Z : State} {a0 : Array Value} (hw : ∀ d ∈ tables_1, d.before a0 Z = true) {n0 : Nat} {h0 : Heap} (Z0 : n0 ≤ h0.size) (p1 : Int32)  :
    Con l Z n0 (⟨"java/lang/StringLatin1", "toBytes", "(C)[B"⟩ : MethodName) jdk_43_method_46_code 1 (some (.array .byte)) ({ frames := 0, cells := 1, slots := 1, locals := 0 } : Room) #[(.int p1)] h0 (Val (fun v h => ∃ b : Addr, v = .ref b ∧ b = h0.size ∧ n0 ≤ b ∧ Ext h0 h ∧ Ary Z h b .byte [p1.toInt8.toInt32].length (fun i => .int ([p1.toInt8.toInt32].getD i 0)))) := by
  refine con_intro pn_6 Z0 (fr := fun m => mkF m 0 #[.val (.int p1)] []) (fun m => by first | (simp [entryFrame, mkF, argsToLocals, Value.category]; done) | rfl) ?_
  intro p e s m below s₁ hs0 X0
  refine w_iconst X0 (pc' := 1) (1 : Int32) d6_0 rfl rfl ?_
  refine w_newarray X0 (pc' := 3) 1 1 d6_1 (hw _ (List.mem_of_getElem? (i := 35) rfl)) (by decide) (by decide) (by decide) (by decide) (by decide) rfl fun T1 h1 b1 g1 gn1 X1 E1 A1 => ?_
  have K_b1 : Keep h0 _ [] := (Keep.refl h0 [])
  have sz_b1 : h0.size ≤ b1 := sz_fresh g1 K_b1
  have K_3 : Keep h0 h1 [] := K_b1.ext E1
  replace A1 : Ary Z h1 b1 .byte 1 (fun _ => (.int (0 : Int32))) := A1
  refine w_dup X1 (pc' := 4) d6_3 rfl rfl ?_
  refine w_iconst X1 (pc' := 5) (0 : Int32) d6_4 rfl rfl ?_
  refine w_iloadN X1 (pc' := 6) d6_5 rfl rfl ?_
  refine w_i2b X1 (pc' := 7) d6_6 rfl ?_
  refine w_bastore X1 (pc' := 8) 0 d6_7 A1 (by decide) (by decide) gn1 rfl fun T4 h4 X4 W4 A4 => ?_
  have K_6 : Keep h0 h4 [] := K_3.wr W4 (Or.inr sz_b1)
  exact w_areturn X4 d6_8 rfl rfl rfl ⟨_, rfl, g1, gn1, kext K_6, (A4).congr (own_tob p1)⟩ (by decide) (by decide)
theorem d7_0 : decode jdk_42_method_151_code 0 = .ok (.aload_n 0, 1) := by decide +kernel
theorem d7_1 : decode jdk_42_method_151_code 1 = .ok (.invokespecial 1, 3) := by decide +kernel
theorem d7_4 : decode jdk_42_method_151_code 4 = .ok (.aload_n 0, 1) := by decide +kernel
theorem d7_5 : decode jdk_42_method_151_code 5 = .ok (.aload_n 1, 1) := by decide +kernel
theorem d7_6 : decode jdk_42_method_151_code 6 = .ok (.putfield 9, 3) := by decide +kernel
theorem d7_9 : decode jdk_42_method_151_code 9 = .ok (.aload_n 0, 1) := by decide +kernel
theorem d7_10 : decode jdk_42_method_151_code 10 = .ok (.iload_n 2, 1) := by decide +kernel
theorem d7_11 : decode jdk_42_method_151_code 11 = .ok (.putfield 15, 3) := by decide +kernel
theorem d7_14 : decode jdk_42_method_151_code 14 = .ok (.return_, 1) := by decide +kernel
theorem pn_7 : plainFor (⟨"java/lang/String", "<init>", "([BB)V"⟩ : MethodName) = true := plainFor_of_name (by first | (simp [plainName, overriddenIn]; done) | decide +kernel)
theorem pd_7 : parseMethodDescriptor "([BB)V" = some ⟨[(.array .byte), .byte], none⟩ := by decide +kernel
set_option maxRecDepth 65536 in
set_option maxHeartbeats 40000000 in
theorem rm_sin {l : Launch} {Z : State} {a0 : Array Value} (hw : ∀ d ∈ tables_1, d.before a0 Z = true) {n0 : Nat} {h0 : Heap} (Z0 : n0 ≤ h0.size) (a1 a2 : Addr) {u1 u2 : Value} (E_1 : Exa Z h0 a1 "java/lang/String") (F_v : Fld Z h0 a1 "java/lang/String" "value" "[B" u1) (F_c : Fld Z h0 a1 "java/lang/String" "coder" "B" u2) (g_1 : n0 ≤ a1) :
    Con l Z n0 (⟨"java/lang/String", "<init>", "([BB)V"⟩ : MethodName) jdk_42_method_151_code 3 none ({ frames := 1, cells := 0, slots := 0, locals := 12 } : Room) #[(.ref a1), (.ref a2), (.int (0 : Int32))] h0 (Non (fun h => Keep h0 h [a1] ∧ Fld Z h a1 "java/lang/String" "value" "[B" (.ref a2) ∧ Fld Z h a1 "java/lang/String" "coder" "B" (.int 0))) := by
  refine con_intro pn_7 Z0 (fr := fun m => mkF m 0 #[.val (.ref a1), .val (.ref a2), .val (.int (0 : Int32))] []) (fun m => by first | (simp [entryFrame, mkF, argsToLocals, Value.category]; done) | rfl) ?_
  intro p e s m below s₁ hs0 X0
  refine w_aloadN X0 (pc' := 1) d7_0 rfl rfl rfl ?_
  refine w_initO X0 (pc' := 4) d7_1 (hw _ (List.mem_of_getElem? (i := 40) rfl)) (hw _ (List.mem_of_getElem? (i := 8) rfl)) (hw _ (List.mem_of_getElem? (i := 9) rfl)) rfl (by decide) 0 (Nat.le_refl _) (by decide) rfl fun T1 X1 => ?_
  refine w_aloadN X1 (pc' := 5) d7_4 rfl rfl rfl ?_
  refine w_aloadN X1 (pc' := 6) d7_5 rfl rfl rfl ?_
  refine w_putfield X1 (pc' := 9) d7_6 (host := "") (Or.inl (hw _ (List.mem_of_getElem? (i := 41) rfl))) Via.refl F_v E_1 (Or.inr ⟨(hw _ (List.mem_of_getElem? (i := 42) rfl)), rfl, rfl⟩) (hw _ (List.mem_of_getElem? (i := 31) rfl)) (ty := (.array .byte)) (by decide) rfl rfl g_1 rfl fun T2 h2 X2 W2 F2 => ?_
  have F_c_3 := Fld.other W2 F_c (Or.inr (slot_ne (C := "java/lang/String") (Or.inr (hw _ (List.mem_of_getElem? (i := 44) rfl))) (Or.inr (hw _ (List.mem_of_getElem? (i := 42) rfl))) (by decide) (t := .byte) (t' := (.array .byte)) (by decide) (by decide)))
  have E_3 := Exa.wr W2 E_1
  have K_4r : Keep h0 _ [a1] := (Keep.refl h0 [a1])
  have K_4 : Keep h0 h2 [a1] := K_4r.wr W2 (Or.inl (List.mem_of_getElem? (i := 0) rfl))
  refine w_aloadN X2 (pc' := 10) d7_9 rfl rfl rfl ?_
  refine w_iloadN X2 (pc' := 11) d7_10 rfl rfl ?_
  refine w_putfieldN X2 (pc' := 14) d7_11 (hw _ (List.mem_of_getElem? (i := 43) rfl)) Via.refl F_c_3 E_3 (Or.inr ⟨(hw _ (List.mem_of_getElem? (i := 44) rfl)), rfl, rfl⟩) (hw _ (List.mem_of_getElem? (i := 31) rfl)) (ty := .byte) (v' := (.int (nar .byte (0 : Int32)))) (by decide) rfl (fits_nar_byte _) g_1 rfl fun T5 h5 X5 W5 F5 => ?_
  have F2_6 := Fld.other W5 F2 (Or.inr (slot_ne (C := "java/lang/String") (Or.inr (hw _ (List.mem_of_getElem? (i := 42) rfl))) (Or.inr (hw _ (List.mem_of_getElem? (i := 44) rfl))) (by decide) (t := (.array .byte)) (t' := .byte) (by decide) (by decide)))
  have E_6 := Exa.wr W5 E_3
  have K_7 : Keep h0 h5 [a1] := K_4.wr W5 (Or.inl (List.mem_of_getElem? (i := 0) rfl))
  exact w_return X5 d7_14 ⟨K_7, F2_6, F5⟩ (by decide) (by decide)
theorem d4_0 : decode jdk_42_method_139_code 0 = .ok (.getstatic 38, 3) := by decide +kernel
theorem d4_3 : decode jdk_42_method_139_code 3 = .ok (.ifCond .eq 23, 3) := by decide +kernel
theorem d4_6 : decode jdk_42_method_139_code 6 = .ok (.iload_n 0, 1) := by decide +kernel
theorem d4_7 : decode jdk_42_method_139_code 7 = .ok (.invokestatic 1015, 3) := by decide +kernel
theorem d4_10 : decode jdk_42_method_139_code 10 = .ok (.ifCond .eq 16, 3) := by decide +kernel
theorem d4_13 : decode jdk_42_method_139_code 13 = .ok (.new 10, 3) := by decide +kernel
theorem d4_16 : decode jdk_42_method_139_code 16 = .ok (.dup, 1) := by decide +kernel
theorem d4_17 : decode jdk_42_method_139_code 17 = .ok (.iload_n 0, 1) := by decide +kernel
theorem d4_18 : decode jdk_42_method_139_code 18 = .ok (.invokestatic 1018, 3) := by decide +kernel
theorem d4_21 : decode jdk_42_method_139_code 21 = .ok (.iconst 0, 1) := by decide +kernel
theorem d4_22 : decode jdk_42_method_139_code 22 = .ok (.invokespecial 209, 3) := by decide +kernel
theorem d4_25 : decode jdk_42_method_139_code 25 = .ok (.areturn, 1) := by decide +kernel
theorem d4_26 : decode jdk_42_method_139_code 26 = .ok (.new 10, 3) := by decide +kernel
theorem d4_29 : decode jdk_42_method_139_code 29 = .ok (.dup, 1) := by decide +kernel
theorem d4_30 : decode jdk_42_method_139_code 30 = .ok (.iload_n 0, 1) := by decide +kernel
theorem d4_31 : decode jdk_42_method_139_code 31 = .ok (.invokestatic 1021, 3) := by decide +kernel
theorem d4_34 : decode jdk_42_method_139_code 34 = .ok (.iconst 1, 1) := by decide +kernel
theorem d4_35 : decode jdk_42_method_139_code 35 = .ok (.invokespecial 209, 3) := by decide +kernel
theorem d4_38 : decode jdk_42_method_139_code 38 = .ok (.areturn, 1) := by decide +kernel
theorem pn_4 : plainFor (⟨"java/lang/String", "valueOf", "(C)Ljava/lang/String;"⟩ : MethodName) = true := plainFor_of_name (by first | (simp [plainName, overriddenIn]; done) | decide +kernel)
theorem pd_4 : parseMethodDescriptor "(C)Ljava/lang/String;" = some ⟨[.char], some (.object "java/lang/String")⟩ := by decide +kernel
set_option maxRecDepth 65536 in
set_option maxHeartbeats 40000000 in
theorem rm_val {l : Launch} {Z : State} {a0 : Array Value} (hw : ∀ d ∈ tables_1, d.before a0 Z = true) {n0 : Nat} {h0 : Heap} (Z0 : n0 ≤ h0.size) (p1 : Int32) {zc : Int32} (S_c : Sta Z h0 "java/lang/String" "COMPACT_STRINGS" "Z" (.int zc)) (hzc : ¬ zc = (0 : Int32)) (hc : ¬ (255 : Int32) < p1) :
    Con l Z n0 (⟨"java/lang/String", "valueOf", "(C)Ljava/lang/String;"⟩ : MethodName) jdk_42_method_139_code 1 (some (.object "java/lang/String")) ({ frames := 2, cells := 2, slots := 5, locals := 27 } : Room) #[(.int p1)] h0 (Val (fun v h => ∃ b : Addr, v = .ref b ∧ Ext h0 h ∧ Str Z h b [p1.toInt8.toInt32])) := by
  refine con_intro pn_4 Z0 (fr := fun m => mkF m 0 #[.val (.int p1)] []) (fun m => by first | (simp [entryFrame, mkF, argsToLocals, Value.category]; done) | rfl) ?_
  intro p e s m below s₁ hs0 X0
  refine w_getstatic X0 (pc' := 3) d4_0 (host := "") (Or.inl (hw _ (List.mem_of_getElem? (i := 25) rfl))) Via.refl S_c rfl fun T1 X1 => ?_
  refine w_if_eq X1 26 6 d4_3 (by decide) rfl rfl (fun hc3 => by exfalso; exact hzc hc3) (fun hc3 => ?_)
  refine w_iloadN X1 (pc' := 7) d4_6 rfl rfl ?_
  refine w_staticV X1 (pc' := 10) d4_7 (rm_can hw (h0 := h0) (sd_size X1) p1 hc) (hw _ (List.mem_of_getElem? (i := 26) rfl)) (hw _ (List.mem_of_getElem? (i := 27) rfl)) (hw _ (List.mem_of_getElem? (i := 28) rfl)) (hw _ (List.mem_of_getElem? (i := 29) rfl)) (by decide) [(.int p1)] [] pd_5 rfl rfl rfl rfl 0 (Nat.le_refl _) (by decide) (by decide) (by decide) (by decide) rfl fun T2 h2 v2 X2 q2 => ?_
  obtain ⟨rfl, rfl⟩ := q2
  refine w_if_eq X2 26 13 d4_10 (by decide) rfl rfl (fun hc10 => by exfalso; revert hc10; decide) (fun hc10 => ?_)
  refine w_new X2 (pc' := 16) d4_13 (hw _ (List.mem_of_getElem? (i := 30) rfl)) (hw _ (List.mem_of_getElem? (i := 31) rfl)) (hw _ (List.mem_of_getElem? (i := 23) rfl)) (by decide) (by decide) rfl fun T3 h3 b3 g3 gn3 X3 E3 A3 D3 => ?_
  have K_b3 : Keep h0 _ [] := (Keep.refl h0 [])
  have sz_b3 : h0.size ≤ b3 := sz_fresh g3 K_b3
  have K_5 : Keep h0 h3 [] := K_b3.ext E3
  have Fvalue_3 : Fld Z h3 b3 "java/lang/String" "value" "[B" .null := D3 (Or.inr (hw _ (List.mem_of_getElem? (i := 42) rfl))) (ty := (.array .byte)) (by decide)
  have Fcoder_3 : Fld Z h3 b3 "java/lang/String" "coder" "B" (.int (0 : Int32)) := D3 (Or.inr (hw _ (List.mem_of_getElem? (i := 44) rfl))) (ty := .byte) (by decide)
  refine w_dup X3 (pc' := 17) d4_16 rfl rfl ?_
  refine w_iloadN X3 (pc' := 18) d4_17 rfl rfl ?_
  refine w_staticV X3 (pc' := 21) d4_18 (rm_tob hw (h0 := h3) (sd_size X3) p1) (hw _ (List.mem_of_getElem? (i := 32) rfl)) (hw _ (List.mem_of_getElem? (i := 33) rfl)) (hw _ (List.mem_of_getElem? (i := 28) rfl)) (hw _ (List.mem_of_getElem? (i := 34) rfl)) (by decide) [(.int p1)] [(.ref b3), (.ref b3)] pd_6 rfl rfl rfl rfl 2 (Nat.le_refl _) (by decide) (by decide) (by decide) (by decide) rfl fun T6 h6 v6 X6 q6 => ?_
  obtain ⟨b6, rfl, g6, gn6, E6, A6⟩ := q6
  have ne_b3_b6 : b3 ≠ b6 := ne_new g6 Fvalue_3.lt
  have sz_b6 : h0.size ≤ b6 := sz_fresh g6 K_5
  have Fvalue_7 := Fld.ext E6 Fvalue_3
  have Fcoder_7 := Fld.ext E6 Fcoder_3
  have A3_7 := Exa.ext E6 A3
  have K_8 : Keep h0 h6 [] := K_5.ext E6
  refine w_iconst X6 (pc' := 22) (0 : Int32) d4_21 rfl rfl ?_
  refine w_specialN X6 (pc' := 25) d4_22 (rm_sin hw (h0 := h6) (sd_size X6) b3 b6 A3_7 Fvalue_7 Fcoder_7 gn3) (hw _ (List.mem_of_getElem? (i := 36) rfl)) (hw _ (List.mem_of_getElem? (i := 37) rfl)) (hw _ (List.mem_of_getElem? (i := 23) rfl)) (hw _ (List.mem_of_getElem? (i := 39) rfl)) rfl (by decide) [(.ref b6), (.int (0 : Int32))] [(.ref b3)] pd_7 rfl rfl rfl rfl 1 (Nat.le_refl _) (by decide) (by decide) (by decide) (by decide) rfl fun T9 h9 X9 q9 => ?_
  obtain ⟨K9, Fv9, Fc9⟩ := q9
  have A3_10 := A3_7.keep K9
  have A6_10 := A6.keep K9 (ninS (Ne.symm ne_b3_b6) nin0)
  have K_11 : Keep h0 h9 [] := K_8.trans K9 (allS (Or.inr sz_b3) all0)
  exact w_areturn X9 d4_25 rfl rfl rfl ⟨_, rfl, kext K_11, _, A3_10, Ord.of A3_10 (hw _ (List.mem_of_getElem? (i := 31) rfl)), Fc9, Fv9, A6_10⟩ (by decide) (by decide)
theorem d14_0 : decode jdk_43_method_13_code 0 = .ok (.aload_n 0, 1) := by decide +kernel
theorem d14_1 : decode jdk_43_method_13_code 1 = .ok (.arraylength, 1) := by decide +kernel
theorem d14_2 : decode jdk_43_method_13_code 2 = .ok (.aload_n 1, 1) := by decide +kernel
theorem d14_3 : decode jdk_43_method_13_code 3 = .ok (.arraylength, 1) := by decide +kernel
theorem d14_4 : decode jdk_43_method_13_code 4 = .ok (.if_icmp .ne 30, 3) := by decide +kernel
theorem d14_7 : decode jdk_43_method_13_code 7 = .ok (.iconst 0, 1) := by decide +kernel
theorem d14_8 : decode jdk_43_method_13_code 8 = .ok (.istore_n 2, 1) := by decide +kernel
theorem d14_9 : decode jdk_43_method_13_code 9 = .ok (.iload_n 2, 1) := by decide +kernel
theorem d14_10 : decode jdk_43_method_13_code 10 = .ok (.aload_n 0, 1) := by decide +kernel
theorem d14_11 : decode jdk_43_method_13_code 11 = .ok (.arraylength, 1) := by decide +kernel
theorem d14_12 : decode jdk_43_method_13_code 12 = .ok (.if_icmp .ge 20, 3) := by decide +kernel
theorem d14_15 : decode jdk_43_method_13_code 15 = .ok (.aload_n 0, 1) := by decide +kernel
theorem d14_16 : decode jdk_43_method_13_code 16 = .ok (.iload_n 2, 1) := by decide +kernel
theorem d14_17 : decode jdk_43_method_13_code 17 = .ok (.baload, 1) := by decide +kernel
theorem d14_18 : decode jdk_43_method_13_code 18 = .ok (.aload_n 1, 1) := by decide +kernel
theorem d14_19 : decode jdk_43_method_13_code 19 = .ok (.iload_n 2, 1) := by decide +kernel
theorem d14_20 : decode jdk_43_method_13_code 20 = .ok (.baload, 1) := by decide +kernel
theorem d14_21 : decode jdk_43_method_13_code 21 = .ok (.if_icmp .eq 5, 3) := by decide +kernel
theorem d14_24 : decode jdk_43_method_13_code 24 = .ok (.iconst 0, 1) := by decide +kernel
theorem d14_25 : decode jdk_43_method_13_code 25 = .ok (.ireturn, 1) := by decide +kernel
theorem d14_26 : decode jdk_43_method_13_code 26 = .ok (.iinc 2 1, 3) := by decide +kernel
theorem d14_29 : decode jdk_43_method_13_code 29 = .ok (.goto (-20), 3) := by decide +kernel
theorem d14_32 : decode jdk_43_method_13_code 32 = .ok (.iconst 1, 1) := by decide +kernel
theorem d14_33 : decode jdk_43_method_13_code 33 = .ok (.ireturn, 1) := by decide +kernel
theorem d14_34 : decode jdk_43_method_13_code 34 = .ok (.iconst 0, 1) := by decide +kernel
theorem d14_35 : decode jdk_43_method_13_code 35 = .ok (.ireturn, 1) := by decide +kernel
theorem pn_14 : plainFor (⟨"java/lang/StringLatin1", "equals", "([B[B)Z"⟩ : MethodName) = true := plainFor_of_name (by first | (simp [plainName, overriddenIn]; done) | decide +kernel)
theorem pd_14 : parseMethodDescriptor "([B[B)Z" = some ⟨[(.array .byte), (.array .byte)], some .boolean⟩ := by decide +kernel
set_option maxRecDepth 65536 in
set_option maxHeartbeats 40000000 in
theorem rm_leq {l : Launch} {Z : State} {a0 : Array Value} (hw : ∀ d ∈ tables_1, d.before a0 Z = true) {n0 : Nat} {h0 : Heap} (Z0 : n0 ≤ h0.size) (a1 a2 : Addr) {bs1 bs2 : List Int32} (A_1 : Ary Z h0 a1 .byte bs1.length (fun i => .int (bs1.getD i 0))) (A_2 : Ary Z h0 a2 .byte bs2.length (fun i => .int (bs2.getD i 0))) :
    Con l Z n0 (⟨"java/lang/StringLatin1", "equals", "([B[B)Z"⟩ : MethodName) jdk_43_method_13_code 3 (some .boolean) ({ frames := 0, cells := 0, slots := 0, locals := 0 } : Room) #[(.ref a1), (.ref a2)] h0 (Val (fun v h => v = .int (if bs1 = bs2 then 1 else 0) ∧ h0 = h)) := by
  refine con_intro pn_14 Z0 (fr := fun m => mkF m 0 #[.val (.ref a1), .val (.ref a2), .unset] []) (fun m => by first | (simp [entryFrame, mkF, argsToLocals, Value.category]; done) | rfl) ?_
  intro p e s m below s₁ hs0 X0
  have l1 := ary31 A_1
  have l2 := ary31 A_2
  refine w_aloadN X0 (pc' := 1) d14_0 rfl rfl rfl ?_
  refine w_arraylength X0 (pc' := 2) (Int32.ofNat bs1.length) d14_1 A_1 (own_nat _ l1) rfl ?_
  refine w_aloadN X0 (pc' := 3) d14_2 rfl rfl rfl ?_
  refine w_arraylength X0 (pc' := 4) (Int32.ofNat bs2.length) d14_3 A_2 (own_nat _ l2) rfl ?_
  refine w_icmp_ne X0 34 7 d14_4 (by decide) rfl rfl (fun hc4 => ?_) (fun hc4 => ?_)
  · skip
    refine w_iconst X0 (pc' := 35) (0 : Int32) d14_34 rfl rfl ?_
    exact w_zreturn X0 d14_35 ⟨by rw [if_neg (fun q => hc4 (by rw [q]))]; rfl, rfl⟩ (by decide) (by decide)
  · skip
    refine w_iconst X0 (pc' := 8) (0 : Int32) d14_7 rfl rfl ?_
    refine w_istoreN X0 (pc' := 9) (l' := #[.val (.ref a1), .val (.ref a2), .val (.int (0 : Int32))]) d14_8 rfl rfl ?_
    have hl : bs1.length = bs2.length := by have e := congrArg Int32.toInt hc4; rw [own_nat _ l1, own_nat _ l2] at e; omega
    refine w_loop (n := bs1.length) (fr := fun i => mkF m 9 #[.val (.ref a1), .val (.ref a2), .val (.int (Int32.ofNat i))] []) (fun i => ∀ j, j < i → bs1.getD j 0 = bs2.getD j 0) (fun T i X hi hI KK => ?_) (fun T X hI => ?_) bs1.length 0 (by omega) (fun j hj => absurd hj (Nat.not_lt_zero j)) s₁ X0
    · skip
      show Go p e below _ (T.setTop (mkF m 9 #[.val (.ref a1), .val (.ref a2), .val (.int (Int32.ofNat i))] []))
      refine w_iloadN X (pc' := 10) d14_9 rfl rfl ?_
      refine w_aloadN X (pc' := 11) d14_10 rfl rfl rfl ?_
      refine w_arraylength X (pc' := 12) (Int32.ofNat bs1.length) d14_11 A_1 (own_nat _ l1) rfl ?_
      refine w_icmp_ge X 32 15 d14_12 (by decide) rfl rfl (fun hc12 => by exfalso; exact hc12 (by rw [Int32.lt_iff_toInt_lt, own_nat i (by omega), own_nat _ l1]; omega)) (fun hc12 => ?_)
      refine w_aloadN X (pc' := 16) d14_15 rfl rfl rfl ?_
      refine w_iloadN X (pc' := 17) d14_16 rfl rfl ?_
      refine w_baload X (pc' := 18) i (v := (.int (bs1.getD i 0))) d14_17 A_1 (own_nat i (by omega)) hi rfl rfl ?_
      refine w_aloadN X (pc' := 19) d14_18 rfl rfl rfl ?_
      refine w_iloadN X (pc' := 20) d14_19 rfl rfl ?_
      refine w_baload X (pc' := 21) i (v := (.int (bs2.getD i 0))) d14_20 A_2 (own_nat i (by omega)) (by omega) rfl rfl ?_
      refine w_icmp_eq X 26 24 d14_21 (by decide) rfl rfl (fun hc21 => ?_) (fun hc21 => ?_)
      · skip
        refine w_iinc X (pc' := 29) ((Int32.ofNat i) + (1 : Int32)) (l' := #[.val (.ref a1), .val (.ref a2), .val (.int ((Int32.ofNat i) + (1 : Int32)))]) d14_26 rfl rfl rfl rfl ?_
        refine w_goto X (pc' := 9) d14_29 (by decide) rfl ?_
        rw [own_succ i]
        exact KK _ X (fun j hj => by by_cases q : j = i; subst q; exact hc21; exact hI j (by omega))
      · skip
        refine w_iconst X (pc' := 25) (0 : Int32) d14_24 rfl rfl ?_
        exact w_zreturn X d14_25 ⟨by rw [if_neg (fun q => hc21 (by rw [q]))]; rfl, rfl⟩ (by decide) (by decide)
    · skip
      show Go p e below _ (T.setTop (mkF m 9 #[.val (.ref a1), .val (.ref a2), .val (.int (Int32.ofNat bs1.length))] []))
      refine w_iloadN X (pc' := 10) d14_9 rfl rfl ?_
      refine w_aloadN X (pc' := 11) d14_10 rfl rfl rfl ?_
      refine w_arraylength X (pc' := 12) (Int32.ofNat bs1.length) d14_11 A_1 (own_nat _ l1) rfl ?_
      refine w_icmp_ge X 32 15 d14_12 (by decide) rfl rfl (fun hc12 => ?_) (fun hc12 => by exfalso; rw [Int32.lt_iff_toInt_lt, own_nat _ l1] at hc12; omega)
      refine w_iconst X (pc' := 33) (1 : Int32) d14_32 rfl rfl ?_
      exact w_zreturn X d14_33 ⟨by rw [if_pos (own_leq hl hI)]; rfl, rfl⟩ (by decide) (by decide)
theorem d13_0 : decode jdk_42_method_66_code 0 = .ok (.aload_n 0, 1) := by decide +kernel
theorem d13_1 : decode jdk_42_method_66_code 1 = .ok (.aload_n 1, 1) := by decide +kernel
theorem d13_2 : decode jdk_42_method_66_code 2 = .ok (.if_acmp .ne 5, 3) := by decide +kernel
theorem d13_5 : decode jdk_42_method_66_code 5 = .ok (.iconst 1, 1) := by decide +kernel
theorem d13_6 : decode jdk_42_method_66_code 6 = .ok (.ireturn, 1) := by decide +kernel
theorem d13_7 : decode jdk_42_method_66_code 7 = .ok (.aload_n 1, 1) := by decide +kernel
theorem d13_8 : decode jdk_42_method_66_code 8 = .ok (.instanceof 10, 3) := by decide +kernel
theorem d13_11 : decode jdk_42_method_66_code 11 = .ok (.ifCond .eq 43, 3) := by decide +kernel
theorem d13_14 : decode jdk_42_method_66_code 14 = .ok (.aload_n 1, 1) := by decide +kernel
theorem d13_15 : decode jdk_42_method_66_code 15 = .ok (.checkcast 10, 3) := by decide +kernel
theorem d13_18 : decode jdk_42_method_66_code 18 = .ok (.astore_n 2, 1) := by decide +kernel
theorem d13_19 : decode jdk_42_method_66_code 19 = .ok (.getstatic 38, 3) := by decide +kernel
theorem d13_22 : decode jdk_42_method_66_code 22 = .ok (.ifCond .eq 14, 3) := by decide +kernel
theorem d13_25 : decode jdk_42_method_66_code 25 = .ok (.aload_n 0, 1) := by decide +kernel
theorem d13_26 : decode jdk_42_method_66_code 26 = .ok (.getfield 15, 3) := by decide +kernel
theorem d13_29 : decode jdk_42_method_66_code 29 = .ok (.aload_n 2, 1) := by decide +kernel
theorem d13_30 : decode jdk_42_method_66_code 30 = .ok (.getfield 15, 3) := by decide +kernel
theorem d13_33 : decode jdk_42_method_66_code 33 = .ok (.if_icmp .ne 21, 3) := by decide +kernel
theorem d13_36 : decode jdk_42_method_66_code 36 = .ok (.aload_n 0, 1) := by decide +kernel
theorem d13_37 : decode jdk_42_method_66_code 37 = .ok (.getfield 9, 3) := by decide +kernel
theorem d13_40 : decode jdk_42_method_66_code 40 = .ok (.aload_n 2, 1) := by decide +kernel
theorem d13_41 : decode jdk_42_method_66_code 41 = .ok (.getfield 9, 3) := by decide +kernel
theorem d13_44 : decode jdk_42_method_66_code 44 = .ok (.invokestatic 541, 3) := by decide +kernel
theorem d13_47 : decode jdk_42_method_66_code 47 = .ok (.ifCond .eq 7, 3) := by decide +kernel
theorem d13_50 : decode jdk_42_method_66_code 50 = .ok (.iconst 1, 1) := by decide +kernel
theorem d13_51 : decode jdk_42_method_66_code 51 = .ok (.goto 4, 3) := by decide +kernel
theorem d13_54 : decode jdk_42_method_66_code 54 = .ok (.iconst 0, 1) := by decide +kernel
theorem d13_55 : decode jdk_42_method_66_code 55 = .ok (.ireturn, 1) := by decide +kernel
theorem pn_13 : plainFor (⟨"java/lang/String", "equals", "(Ljava/lang/Object;)Z"⟩ : MethodName) = true := plainFor_of_name (by first | (simp [plainName, overriddenIn]; done) | decide +kernel)
theorem pd_13 : parseMethodDescriptor "(Ljava/lang/Object;)Z" = some ⟨[(.object "java/lang/Object")], some .boolean⟩ := by decide +kernel
set_option maxRecDepth 65536 in
set_option maxHeartbeats 40000000 in
theorem rm_eq {l : Launch} {Z : State} {a0 : Array Value} (hw : ∀ d ∈ tables_1, d.before a0 Z = true) {n0 : Nat} {h0 : Heap} (Z0 : n0 ≤ h0.size) (a1 a2 : Addr) {bs1 bs2 : List Int32} (S1 : Str Z h0 a1 bs1) (S2 : Str Z h0 a2 bs2) {zc : Int32} (S_c : Sta Z h0 "java/lang/String" "COMPACT_STRINGS" "Z" (.int zc)) (hzc : ¬ zc = (0 : Int32))  :
    Con l Z n0 (⟨"java/lang/String", "equals", "(Ljava/lang/Object;)Z"⟩ : MethodName) jdk_42_method_66_code 3 (some .boolean) ({ frames := 1, cells := 0, slots := 0, locals := 14 } : Room) #[(.ref a1), (.ref a2)] h0 (Val (fun v h => v = .int (if bs1 = bs2 then 1 else 0) ∧ h0 = h)) := by
  refine con_intro pn_13 Z0 (fr := fun m => mkF m 0 #[.val (.ref a1), .val (.ref a2), .unset] []) (fun m => by first | (simp [entryFrame, mkF, argsToLocals, Value.category]; done) | rfl) ?_
  intro p e s m below s₁ hs0 X0
  obtain ⟨b1, E_1, -, Fc_1, Fv_1, A_1⟩ := id S1
  obtain ⟨b2, E_2, -, Fc_2, Fv_2, A_2⟩ := id S2
  refine w_aloadN X0 (pc' := 1) d13_0 rfl rfl rfl ?_
  refine w_aloadN X0 (pc' := 2) d13_1 rfl rfl rfl ?_
  refine w_acmp_ne X0 rfl rfl 7 5 d13_2 (by decide) rfl rfl (fun hc2 => ?_) (fun hc2 => ?_)
  · skip
    refine w_aloadN X0 (pc' := 8) d13_7 rfl rfl rfl ?_
    refine w_instanceof X0 (pc' := 11) d13_8 (hw _ (List.mem_of_getElem? (i := 30) rfl)) (Ins.self E_2) rfl fun T1 X1 => ?_
    refine w_if_eq X1 54 14 d13_11 (by decide) rfl rfl (fun hc11 => by exfalso; revert hc11; decide) (fun hc11 => ?_)
    refine w_aloadN X1 (pc' := 15) d13_14 rfl rfl rfl ?_
    refine w_checkcast X1 (pc' := 18) d13_15 (hw _ (List.mem_of_getElem? (i := 30) rfl)) (Ins.self E_2) rfl fun T2 X2 => ?_
    refine w_astoreN X2 (pc' := 19) (l' := #[.val (.ref a1), .val (.ref a2), .val (.ref a2)]) d13_18 rfl rfl rfl ?_
    refine w_getstatic X2 (pc' := 22) d13_19 (host := "") (Or.inl (hw _ (List.mem_of_getElem? (i := 25) rfl))) Via.refl S_c rfl fun T3 X3 => ?_
    refine w_if_eq X3 36 25 d13_22 (by decide) rfl rfl (fun hc22 => by exfalso; exact hzc hc22) (fun hc22 => ?_)
    refine w_aloadN X3 (pc' := 26) d13_25 rfl rfl rfl ?_
    refine w_getfield X3 (pc' := 29) d13_26 (host := "") (Or.inl (hw _ (List.mem_of_getElem? (i := 43) rfl))) Via.refl Fc_1 rfl fun T4 X4 => ?_
    refine w_aloadN X4 (pc' := 30) d13_29 rfl rfl rfl ?_
    refine w_getfield X4 (pc' := 33) d13_30 (host := "") (Or.inl (hw _ (List.mem_of_getElem? (i := 43) rfl))) Via.refl Fc_2 rfl fun T5 X5 => ?_
    refine w_icmp_ne X5 54 36 d13_33 (by decide) rfl rfl (fun hc33 => by exfalso; revert hc33; decide) (fun hc33 => ?_)
    refine w_aloadN X5 (pc' := 37) d13_36 rfl rfl rfl ?_
    refine w_getfield X5 (pc' := 40) d13_37 (host := "") (Or.inl (hw _ (List.mem_of_getElem? (i := 41) rfl))) Via.refl Fv_1 rfl fun T6 X6 => ?_
    refine w_aloadN X6 (pc' := 41) d13_40 rfl rfl rfl ?_
    refine w_getfield X6 (pc' := 44) d13_41 (host := "") (Or.inl (hw _ (List.mem_of_getElem? (i := 41) rfl))) Via.refl Fv_2 rfl fun T7 X7 => ?_
    refine w_staticV X7 (pc' := 47) d13_44 (rm_leq hw (h0 := h0) (sd_size X7) b1 b2 A_1 A_2) (hw _ (List.mem_of_getElem? (i := 71) rfl)) (hw _ (List.mem_of_getElem? (i := 72) rfl)) (hw _ (List.mem_of_getElem? (i := 28) rfl)) (hw _ (List.mem_of_getElem? (i := 73) rfl)) (by decide) [(.ref b1), (.ref b2)] [] pd_14 rfl rfl rfl rfl 0 (Nat.le_refl _) (by decide) (by decide) (by decide) (by decide) rfl fun T8 h8 v8 X8 q8 => ?_
    obtain ⟨rfl, rfl⟩ := q8
    refine w_if_eq X8 54 50 d13_47 (by decide) rfl rfl (fun hc47 => ?_) (fun hc47 => ?_)
    · skip
      refine w_iconst X8 (pc' := 55) (0 : Int32) d13_54 rfl rfl ?_
      exact w_zreturn X8 d13_55 ⟨by by_cases q : bs1 = bs2; (exact absurd (if_pos q) (fun z => by rw [z] at hc47; exact absurd hc47 (by decide))); (rw [if_neg q]; rfl), rfl⟩ (by decide) (by decide)
    · skip
      refine w_iconst X8 (pc' := 51) (1 : Int32) d13_50 rfl rfl ?_
      refine w_goto X8 (pc' := 55) d13_51 (by decide) rfl ?_
      exact w_zreturn X8 d13_55 ⟨by by_cases q : bs1 = bs2; (rw [if_pos q]; rfl); (exact absurd (if_neg q) hc47), rfl⟩ (by decide) (by decide)
  · skip
    refine w_iconst X0 (pc' := 6) (1 : Int32) d13_5 rfl rfl ?_
    exact w_zreturn X0 d13_6 ⟨by have e := Value.ref.inj hc2; subst e; rw [if_pos (S1.uniq S2)]; rfl, rfl⟩ (by decide) (by decide)
def own_key (p : Int32) : List Int32 := if p &&& (256 : Int32) = 0 then [(p &&& (255 : Int32)).toInt8.toInt32] else []
def own_k (p : Int32) : Int32 := if p &&& (256 : Int32) = 0 then p &&& (255 : Int32) else -1
def own_pick (k a b c d : Int32) : Int32 := if k = 0 then a else if k = 1 then b else if k = 2 then c else d
def own_first (ks : List (List Int32)) (i : Nat) : Int32 := if ∀ j, j < i → ks.getD j [] ≠ ks.getD i [] then 1 else 0
theorem own_inj8 {x y : Int32} (hx : 0 ≤ x.toInt ∧ x.toInt < 256) (hy : 0 ≤ y.toInt ∧ y.toInt < 256) (q : x.toInt8.toInt32 = y.toInt8.toInt32) : x = y := by
  have e := congrArg Int32.toInt q
  simp only [Int8.toInt_toInt32, Int32.toInt_toInt8] at e
  apply Int32.toInt_inj.mp
  simp only [Int.bmod_def] at e
  omega
theorem own_kk (p q : Int32) : own_key p = own_key q ↔ own_k p = own_k q := by
  have e1 : (p &&& (255 : Int32)).toInt = p.toInt % 2 ^ 8 := Jvm.Kit.i32_mask p 255 (k := 8) (by decide) (by decide)
  have e2 : (q &&& (255 : Int32)).toInt = q.toInt % 2 ^ 8 := Jvm.Kit.i32_mask q 255 (k := 8) (by decide) (by decide)
  have m1 : p &&& (255 : Int32) ≠ -1 := fun z => by rw [z, show (-1 : Int32).toInt = -1 from by decide] at e1; omega
  have m2 : q &&& (255 : Int32) ≠ -1 := fun z => by rw [z, show (-1 : Int32).toInt = -1 from by decide] at e2; omega
  unfold own_key own_k
  by_cases a : p &&& (256 : Int32) = 0 <;> by_cases b : q &&& (256 : Int32) = 0
  · rw [if_pos a, if_pos b, if_pos a, if_pos b]
    refine ⟨fun z => own_inj8 ⟨by omega, by omega⟩ ⟨by omega, by omega⟩ (List.cons.inj z).1, fun z => by rw [z]⟩
  · rw [if_pos a, if_neg b, if_pos a, if_neg b]; exact ⟨fun z => absurd z (by simp), fun z => absurd z m1⟩
  · rw [if_neg a, if_pos b, if_neg a, if_pos b]; exact ⟨fun z => absurd z (by simp), fun z => absurd z.symm m2⟩
  · rw [if_neg a, if_neg b, if_neg a, if_neg b]; exact ⟨fun _ => rfl, fun _ => rfl⟩
/-- the bindings: ks are the prefixes -/
def BD (Z : State) (n0 : Nat) (h : Heap) (a : Addr) (ks : List (List Int32)) : Prop := ∃ d f, n0 ≤ a ∧ n0 ≤ d ∧ a ≠ d ∧ Exa Z h a "com/example/raja/raja/xml/CanonicalWriter$Bindings" ∧ Fld Z h a "com/example/raja/raja/xml/CanonicalWriter$Bindings" "pairs" "[Ljava/lang/String;" (.ref d) ∧ Fld Z h a "com/example/raja/raja/xml/CanonicalWriter$Bindings" "size" "I" (.int (Int32.ofNat ks.length)) ∧ Oar Z h d "java/lang/String" ∧ Ary Z h d (.object "java/lang/String") 32 f ∧ ∀ j, j < ks.length → ∃ r, f (2 * j) = .ref r ∧ Str Z h r (ks.getD j [])
theorem BD.exa {Z : State} {n0 : Nat} {h : Heap} {a : Addr} {ks : List (List Int32)} (B : BD Z n0 h a ks) : Exa Z h a "com/example/raja/raja/xml/CanonicalWriter$Bindings" := by obtain ⟨d, f, -, -, -, E, -⟩ := B; exact E
theorem BD.ext {Z : State} {n0 : Nat} {h h' : Heap} {a : Addr} {ks : List (List Int32)} (B : BD Z n0 h a ks) (E : Ext h h') : BD Z n0 h' a ks := by
  obtain ⟨d, f, h1, h2, h3, h4, h5, h6, h7, h8, h9⟩ := B
  exact ⟨d, f, h1, h2, h3, Exa.ext E h4, Fld.ext E h5, Fld.ext E h6, h7.ext E, h8.ext E, fun j hj => by obtain ⟨r, q1, q2⟩ := h9 j hj; exact ⟨r, q1, q2.ext E⟩⟩
theorem d11_0 : decode method_2_code 0 = .ok (.iload_n 0, 1) := by decide +kernel
theorem d11_1 : decode method_2_code 1 = .ok (.sipush 256, 3) := by decide +kernel
theorem d11_4 : decode method_2_code 4 = .ok (.iand, 1) := by decide +kernel
theorem d11_5 : decode method_2_code 5 = .ok (.ifCond .eq 7, 3) := by decide +kernel
theorem d11_8 : decode method_2_code 8 = .ok (.iconst (-1), 1) := by decide +kernel
theorem d11_9 : decode method_2_code 9 = .ok (.goto 8, 3) := by decide +kernel
theorem d11_12 : decode method_2_code 12 = .ok (.iload_n 0, 1) := by decide +kernel
theorem d11_13 : decode method_2_code 13 = .ok (.sipush 255, 3) := by decide +kernel
theorem d11_16 : decode method_2_code 16 = .ok (.iand, 1) := by decide +kernel
theorem d11_17 : decode method_2_code 17 = .ok (.ireturn, 1) := by decide +kernel
theorem pn_11 : plainFor (⟨"com/example/raja/raja/xml/BindingsIsFirstPinLaw", "key", "(I)I"⟩ : MethodName) = true := plainFor_of_name (by first | (simp [plainName, overriddenIn]; done) | decide +kernel)
theorem pd_11 : parseMethodDescriptor "(I)I" = some ⟨[.int], some .int⟩ := by decide +kernel
set_option maxRecDepth 65536 in
set_option maxHeartbeats 40000000 in
theorem rm_key {l : Launch} {Z : State} {a0 : Array Value} (hw : ∀ d ∈ tables_1, d.before a0 Z = true) {n0 : Nat} {h0 : Heap} (Z0 : n0 ≤ h0.size) (p1 : Int32)  :
    Con l Z n0 (⟨"com/example/raja/raja/xml/BindingsIsFirstPinLaw", "key", "(I)I"⟩ : MethodName) method_2_code 1 (some .int) ({ frames := 0, cells := 0, slots := 0, locals := 0 } : Room) #[(.int p1)] h0 (Val (fun v h => v = .int (own_k p1) ∧ h0 = h)) := by
  refine con_intro pn_11 Z0 (fr := fun m => mkF m 0 #[.val (.int p1)] []) (fun m => by first | (simp [entryFrame, mkF, argsToLocals, Value.category]; done) | rfl) ?_
  intro p e s m below s₁ hs0 X0
  refine w_iloadN X0 (pc' := 1) d11_0 rfl rfl ?_
  refine w_sipush X0 (pc' := 4) (256 : Int32) d11_1 rfl rfl ?_
  refine w_iand X0 (pc' := 5) d11_4 rfl ?_
  refine w_if_eq X0 12 8 d11_5 (by decide) rfl rfl (fun hc5 => ?_) (fun hc5 => ?_)
  · skip
    refine w_iloadN X0 (pc' := 13) d11_12 rfl rfl ?_
    refine w_sipush X0 (pc' := 16) (255 : Int32) d11_13 rfl rfl ?_
    refine w_iand X0 (pc' := 17) d11_16 rfl ?_
    exact w_ireturn X0 d11_17 ⟨by rw [own_k, if_pos hc5], rfl⟩ (by decide) (by decide)
  · skip
    refine w_iconst X0 (pc' := 9) (-1 : Int32) d11_8 rfl rfl ?_
    refine w_goto X0 (pc' := 17) d11_9 (by decide) rfl ?_
    exact w_ireturn X0 d11_17 ⟨by rw [own_k, if_neg hc5], rfl⟩ (by decide) (by decide)
theorem d10_0 : decode method_5_code 0 = .ok (.iload_n 0, 1) := by decide +kernel
theorem d10_1 : decode method_5_code 1 = .ok (.ifCond .ne 5, 3) := by decide +kernel
theorem d10_4 : decode method_5_code 4 = .ok (.iload_n 1, 1) := by decide +kernel
theorem d10_5 : decode method_5_code 5 = .ok (.ireturn, 1) := by decide +kernel
theorem d10_6 : decode method_5_code 6 = .ok (.iload_n 0, 1) := by decide +kernel
theorem d10_7 : decode method_5_code 7 = .ok (.iconst 1, 1) := by decide +kernel
theorem d10_8 : decode method_5_code 8 = .ok (.if_icmp .ne 5, 3) := by decide +kernel
theorem d10_11 : decode method_5_code 11 = .ok (.iload_n 2, 1) := by decide +kernel
theorem d10_12 : decode method_5_code 12 = .ok (.ireturn, 1) := by decide +kernel
theorem d10_13 : decode method_5_code 13 = .ok (.iload_n 0, 1) := by decide +kernel
theorem d10_14 : decode method_5_code 14 = .ok (.iconst 2, 1) := by decide +kernel
theorem d10_15 : decode method_5_code 15 = .ok (.if_icmp .ne 5, 3) := by decide +kernel
theorem d10_18 : decode method_5_code 18 = .ok (.iload_n 3, 1) := by decide +kernel
theorem d10_19 : decode method_5_code 19 = .ok (.ireturn, 1) := by decide +kernel
theorem d10_20 : decode method_5_code 20 = .ok (.iload 4, 2) := by decide +kernel
theorem d10_22 : decode method_5_code 22 = .ok (.ireturn, 1) := by decide +kernel
theorem pn_10 : plainFor (⟨"com/example/raja/raja/xml/BindingsIsFirstPinLaw", "pick", "(IIIII)I"⟩ : MethodName) = true := plainFor_of_name (by first | (simp [plainName, overriddenIn]; done) | decide +kernel)
theorem pd_10 : parseMethodDescriptor "(IIIII)I" = some ⟨[.int, .int, .int, .int, .int], some .int⟩ := by decide +kernel
set_option maxRecDepth 65536 in
set_option maxHeartbeats 40000000 in
theorem rm_pick {l : Launch} {Z : State} {a0 : Array Value} (hw : ∀ d ∈ tables_1, d.before a0 Z = true) {n0 : Nat} {h0 : Heap} (Z0 : n0 ≤ h0.size) (p1 p2 p3 p4 p5 : Int32)  :
    Con l Z n0 (⟨"com/example/raja/raja/xml/BindingsIsFirstPinLaw", "pick", "(IIIII)I"⟩ : MethodName) method_5_code 5 (some .int) ({ frames := 0, cells := 0, slots := 0, locals := 0 } : Room) #[(.int p1), (.int p2), (.int p3), (.int p4), (.int p5)] h0 (Val (fun v h => v = .int (own_pick p1 p2 p3 p4 p5) ∧ h0 = h)) := by
  refine con_intro pn_10 Z0 (fr := fun m => mkF m 0 #[.val (.int p1), .val (.int p2), .val (.int p3), .val (.int p4), .val (.int p5)] []) (fun m => by first | (simp [entryFrame, mkF, argsToLocals, Value.category]; done) | rfl) ?_
  intro p e s m below s₁ hs0 X0
  refine w_iloadN X0 (pc' := 1) d10_0 rfl rfl ?_
  refine w_if_ne X0 6 4 d10_1 (by decide) rfl rfl (fun hc1 => ?_) (fun hc1 => ?_)
  · skip
    refine w_iloadN X0 (pc' := 7) d10_6 rfl rfl ?_
    refine w_iconst X0 (pc' := 8) (1 : Int32) d10_7 rfl rfl ?_
    refine w_icmp_ne X0 13 11 d10_8 (by decide) rfl rfl (fun hc8 => ?_) (fun hc8 => ?_)
    · skip
      refine w_iloadN X0 (pc' := 14) d10_13 rfl rfl ?_
      refine w_iconst X0 (pc' := 15) (2 : Int32) d10_14 rfl rfl ?_
      refine w_icmp_ne X0 20 18 d10_15 (by decide) rfl rfl (fun hc15 => ?_) (fun hc15 => ?_)
      · skip
        refine w_iload X0 (pc' := 22) d10_20 rfl rfl ?_
        exact w_ireturn X0 d10_22 ⟨by rw [own_pick, if_neg hc1, if_neg hc8, if_neg hc15], rfl⟩ (by decide) (by decide)
      · skip
        refine w_iloadN X0 (pc' := 19) d10_18 rfl rfl ?_
        exact w_ireturn X0 d10_19 ⟨by rw [own_pick, if_neg hc1, if_neg hc8, if_pos hc15], rfl⟩ (by decide) (by decide)
    · skip
      refine w_iloadN X0 (pc' := 12) d10_11 rfl rfl ?_
      exact w_ireturn X0 d10_12 ⟨by rw [own_pick, if_neg hc1, if_pos hc8], rfl⟩ (by decide) (by decide)
  · skip
    refine w_iloadN X0 (pc' := 5) d10_4 rfl rfl ?_
    exact w_ireturn X0 d10_5 ⟨by rw [own_pick, if_pos hc1], rfl⟩ (by decide) (by decide)
theorem d8_0 : decode method_4_code 0 = .ok (.iload_n 0, 1) := by decide +kernel
theorem d8_1 : decode method_4_code 1 = .ok (.bipush 16, 2) := by decide +kernel
theorem d8_3 : decode method_4_code 3 = .ok (.iushr, 1) := by decide +kernel
theorem d8_4 : decode method_4_code 4 = .ok (.sipush 255, 3) := by decide +kernel
theorem d8_7 : decode method_4_code 7 = .ok (.iand, 1) := by decide +kernel
theorem d8_8 : decode method_4_code 8 = .ok (.i2c, 1) := by decide +kernel
theorem d8_9 : decode method_4_code 9 = .ok (.invokestatic 9, 3) := by decide +kernel
theorem d8_12 : decode method_4_code 12 = .ok (.areturn, 1) := by decide +kernel
theorem pn_8 : plainFor (⟨"com/example/raja/raja/xml/BindingsIsFirstPinLaw", "value", "(I)Ljava/lang/String;"⟩ : MethodName) = true := plainFor_of_name (by first | (simp [plainName, overriddenIn]; done) | decide +kernel)
theorem pd_8 : parseMethodDescriptor "(I)Ljava/lang/String;" = some ⟨[.int], some (.object "java/lang/String")⟩ := by decide +kernel
set_option maxRecDepth 65536 in
set_option maxHeartbeats 40000000 in
theorem rm_value {l : Launch} {Z : State} {a0 : Array Value} (hw : ∀ d ∈ tables_1, d.before a0 Z = true) {n0 : Nat} {h0 : Heap} (Z0 : n0 ≤ h0.size) (p1 : Int32) {zc : Int32} (S_c : Sta Z h0 "java/lang/String" "COMPACT_STRINGS" "Z" (.int zc)) (hzc : ¬ zc = (0 : Int32))  :
    Con l Z n0 (⟨"com/example/raja/raja/xml/BindingsIsFirstPinLaw", "value", "(I)Ljava/lang/String;"⟩ : MethodName) method_4_code 1 (some (.object "java/lang/String")) ({ frames := 3, cells := 2, slots := 5, locals := 39 } : Room) #[(.int p1)] h0 (Val (fun v h => ∃ (b : Addr) (bs : List Int32), v = .ref b ∧ Ext h0 h ∧ Str Z h b bs)) := by
  refine con_intro pn_8 Z0 (fr := fun m => mkF m 0 #[.val (.int p1)] []) (fun m => by first | (simp [entryFrame, mkF, argsToLocals, Value.category]; done) | rfl) ?_
  intro p e s m below s₁ hs0 X0
  refine w_iloadN X0 (pc' := 1) d8_0 rfl rfl ?_
  refine w_bipush X0 (pc' := 3) (16 : Int32) d8_1 rfl rfl ?_
  refine w_iushr X0 (pc' := 4) d8_3 rfl ?_
  refine w_sipush X0 (pc' := 7) (255 : Int32) d8_4 rfl rfl ?_
  refine w_iand X0 (pc' := 8) d8_7 rfl ?_
  refine w_i2c X0 (pc' := 9) d8_8 rfl ?_
  rw [i2c_mask]
  show Go p e below _ (s₁.setTop (mkF m 9 #[.val (.int p1)] [(.int (((p1.toUInt32 >>> ((16 : Int32) &&& 31).toUInt32).toInt32) &&& (255 : Int32)))]))
  refine w_staticV X0 (pc' := 12) d8_9 (rm_val hw (h0 := h0) (sd_size X0) (((p1.toUInt32 >>> ((16 : Int32) &&& 31).toUInt32).toInt32) &&& (255 : Int32)) S_c hzc (own_m255 _)) (hw _ (List.mem_of_getElem? (i := 21) rfl)) (hw _ (List.mem_of_getElem? (i := 22) rfl)) (hw _ (List.mem_of_getElem? (i := 23) rfl)) (hw _ (List.mem_of_getElem? (i := 24) rfl)) (by decide) [(.int (((p1.toUInt32 >>> ((16 : Int32) &&& 31).toUInt32).toInt32) &&& (255 : Int32)))] [] pd_4 rfl rfl rfl rfl 0 (Nat.le_refl _) (by decide) (by decide) (by decide) (by decide) rfl fun T1 h1 v1 X1 q1 => ?_
  obtain ⟨b1, rfl, E1, S1⟩ := q1
  have S_c_2 := Sta.ext E1 S_c
  have K_3r : Keep h0 _ [] := (Keep.refl h0 [])
  have K_3 : Keep h0 h1 [] := K_3r.ext E1
  exact w_areturn X1 d8_12 rfl rfl rfl ⟨_, _, rfl, kext K_3, S1⟩ (by decide) (by decide)
theorem d3_0 : decode method_3_code 0 = .ok (.iload_n 0, 1) := by decide +kernel
theorem d3_1 : decode method_3_code 1 = .ok (.sipush 256, 3) := by decide +kernel
theorem d3_4 : decode method_3_code 4 = .ok (.iand, 1) := by decide +kernel
theorem d3_5 : decode method_3_code 5 = .ok (.ifCond .eq 6, 3) := by decide +kernel
theorem d3_8 : decode method_3_code 8 = .ok (.ldc 7, 2) := by decide +kernel
theorem d3_10 : decode method_3_code 10 = .ok (.areturn, 1) := by decide +kernel
theorem d3_11 : decode method_3_code 11 = .ok (.iload_n 0, 1) := by decide +kernel
theorem d3_12 : decode method_3_code 12 = .ok (.sipush 255, 3) := by decide +kernel
theorem d3_15 : decode method_3_code 15 = .ok (.iand, 1) := by decide +kernel
theorem d3_16 : decode method_3_code 16 = .ok (.i2c, 1) := by decide +kernel
theorem d3_17 : decode method_3_code 17 = .ok (.invokestatic 9, 3) := by decide +kernel
theorem d3_20 : decode method_3_code 20 = .ok (.areturn, 1) := by decide +kernel
theorem pn_3 : plainFor (⟨"com/example/raja/raja/xml/BindingsIsFirstPinLaw", "prefix", "(I)Ljava/lang/String;"⟩ : MethodName) = true := plainFor_of_name (by first | (simp [plainName, overriddenIn]; done) | decide +kernel)
theorem pd_3 : parseMethodDescriptor "(I)Ljava/lang/String;" = some ⟨[.int], some (.object "java/lang/String")⟩ := by decide +kernel
set_option maxRecDepth 65536 in
set_option maxHeartbeats 40000000 in
theorem rm_prefix {l : Launch} {Z : State} {a0 : Array Value} (hw : ∀ d ∈ tables_1, d.before a0 Z = true) {n0 : Nat} {h0 : Heap} (Z0 : n0 ≤ h0.size) (p1 : Int32) {zc : Int32} (S_c : Sta Z h0 "java/lang/String" "COMPACT_STRINGS" "Z" (.int zc)) (hzc : ¬ zc = (0 : Int32))  :
    ConW l Z own_EL n0 (⟨"com/example/raja/raja/xml/BindingsIsFirstPinLaw", "prefix", "(I)Ljava/lang/String;"⟩ : MethodName) method_3_code 1 (some (.object "java/lang/String")) ({ frames := 3, cells := 2, slots := 5, locals := 39 } : Room) #[(.int p1)] h0 (Val (fun v h => ∃ b : Addr, v = .ref b ∧ Ext h0 h ∧ Str Z h b (own_key p1))) := by
  refine conW_intro pn_3 Z0 (fr := fun m => mkF m 0 #[.val (.int p1)] []) (fun m => by first | (simp [entryFrame, mkF, argsToLocals, Value.category]; done) | rfl) ?_
  intro p e s m below s₁ hs0 F0 X0
  refine w_iloadN X0 (pc' := 1) d3_0 rfl rfl ?_
  refine w_sipush X0 (pc' := 4) (256 : Int32) d3_1 rfl rfl ?_
  refine w_iand X0 (pc' := 5) d3_4 rfl ?_
  refine w_if_eq X0 11 8 d3_5 (by decide) rfl rfl (fun hc5 => ?_) (fun hc5 => ?_)
  · skip
    refine w_iloadN X0 (pc' := 12) d3_11 rfl rfl ?_
    refine w_sipush X0 (pc' := 15) (255 : Int32) d3_12 rfl rfl ?_
    refine w_iand X0 (pc' := 16) d3_15 rfl ?_
    refine w_i2c X0 (pc' := 17) d3_16 rfl ?_
    rw [i2c_mask]
    show Go p e below _ (s₁.setTop (mkF m 17 #[.val (.int p1)] [(.int (p1 &&& (255 : Int32)))]))
    refine w_staticV X0 (pc' := 20) d3_17 (rm_val hw (h0 := h0) (sd_size X0) (p1 &&& (255 : Int32)) S_c hzc (own_m255 _)) (hw _ (List.mem_of_getElem? (i := 21) rfl)) (hw _ (List.mem_of_getElem? (i := 22) rfl)) (hw _ (List.mem_of_getElem? (i := 23) rfl)) (hw _ (List.mem_of_getElem? (i := 24) rfl)) (by decide) [(.int (p1 &&& (255 : Int32)))] [] pd_4 rfl rfl rfl rfl 0 (Nat.le_refl _) (by decide) (by decide) (by decide) (by decide) rfl fun T1 h1 v1 X1 q1 => ?_
    obtain ⟨b1, rfl, E1, S1⟩ := q1
    have F0_2 := F0.ext E1
    have S_c_2 := Sta.ext E1 S_c
    have K_3r : Keep h0 _ [] := (Keep.refl h0 [])
    have K_3 : Keep h0 h1 [] := K_3r.ext E1
    have SK : Str Z h1 b1 (own_key p1) := by rw [own_key, if_pos hc5]; exact S1
    exact w_areturnW X1 F0_2 (own_hEL hw) d3_20 rfl rfl rfl ⟨_, rfl, kext K_3, SK⟩ (by decide) (by decide)
  · skip
    refine w_ldcW X0 F0 (pc' := 10) (text := "") [] 0 d3_8 (hw _ (List.mem_of_getElem? (i := 74) rfl)) (own_wS hw) (own_hEL hw) (List.mem_of_getElem? (i := 0) rfl) (by decide) (by decide) (by decide) (by decide) (by decide) (by decide) rfl fun T4 h4 vm4 a4 X4 F4 E4 S4 => ?_
    have S_c_5 := Sta.ext E4 S_c
    have K_6r : Keep h0 _ [] := (Keep.refl h0 [])
    have K_6 : Keep h0 h4 [] := K_6r.ext E4
    have SK : Str Z h4 a4 (own_key p1) := by rw [own_key, if_neg hc5]; exact S4
    exact w_areturnW X4 F4 (own_hEL hw) d3_10 rfl rfl rfl ⟨_, rfl, kext K_6, SK⟩ (by decide) (by decide)
theorem d1_0 : decode prog_69_method_1_code 0 = .ok (.aload_n 0, 1) := by decide +kernel
theorem d1_1 : decode prog_69_method_1_code 1 = .ok (.invokespecial 1, 3) := by decide +kernel
theorem d1_4 : decode prog_69_method_1_code 4 = .ok (.aload_n 0, 1) := by decide +kernel
theorem d1_5 : decode prog_69_method_1_code 5 = .ok (.bipush 32, 2) := by decide +kernel
theorem d1_7 : decode prog_69_method_1_code 7 = .ok (.anewarray 7, 3) := by decide +kernel
theorem d1_10 : decode prog_69_method_1_code 10 = .ok (.putfield 9, 3) := by decide +kernel
theorem d1_13 : decode prog_69_method_1_code 13 = .ok (.aload_n 0, 1) := by decide +kernel
theorem d1_14 : decode prog_69_method_1_code 14 = .ok (.bipush 16, 2) := by decide +kernel
theorem d1_16 : decode prog_69_method_1_code 16 = .ok (.newarray .int, 2) := by decide +kernel
theorem d1_18 : decode prog_69_method_1_code 18 = .ok (.putfield 15, 3) := by decide +kernel
theorem d1_21 : decode prog_69_method_1_code 21 = .ok (.return_, 1) := by decide +kernel
theorem pn_1 : plainFor (⟨"com/example/raja/raja/xml/CanonicalWriter$Bindings", "<init>", "()V"⟩ : MethodName) = true := plainFor_of_name (by first | (simp [plainName, overriddenIn]; done) | decide +kernel)
theorem pd_1 : parseMethodDescriptor "()V" = some ⟨[], none⟩ := by decide +kernel
set_option maxRecDepth 65536 in
set_option maxHeartbeats 40000000 in
theorem rm_init {l : Launch} {Z : State} {a0 : Array Value} (hw : ∀ d ∈ tables_1, d.before a0 Z = true) {n0 : Nat} {h0 : Heap} (Z0 : n0 ≤ h0.size) (a : Addr) (E_a : Exa Z h0 a "com/example/raja/raja/xml/CanonicalWriter$Bindings") (F_p : Fld Z h0 a "com/example/raja/raja/xml/CanonicalWriter$Bindings" "pairs" "[Ljava/lang/String;" .null) (F_m : Fld Z h0 a "com/example/raja/raja/xml/CanonicalWriter$Bindings" "marks" "[I" .null) (F_s : Fld Z h0 a "com/example/raja/raja/xml/CanonicalWriter$Bindings" "size" "I" (.int 0)) (g_a : n0 ≤ a) :
    Con l Z n0 (⟨"com/example/raja/raja/xml/CanonicalWriter$Bindings", "<init>", "()V"⟩ : MethodName) prog_69_method_1_code 1 none ({ frames := 1, cells := 2, slots := 48, locals := 12 } : Room) #[(.ref a)] h0 (Non (fun h => Keep h0 h [a] ∧ BD Z n0 h a [])) := by
  refine con_intro pn_1 Z0 (fr := fun m => mkF m 0 #[.val (.ref a)] []) (fun m => by first | (simp [entryFrame, mkF, argsToLocals, Value.category]; done) | rfl) ?_
  intro p e s m below s₁ hs0 X0
  refine w_aloadN X0 (pc' := 1) d1_0 rfl rfl rfl ?_
  refine w_initO X0 (pc' := 4) d1_1 (hw _ (List.mem_of_getElem? (i := 7) rfl)) (hw _ (List.mem_of_getElem? (i := 8) rfl)) (hw _ (List.mem_of_getElem? (i := 9) rfl)) rfl (by decide) 0 (Nat.le_refl _) (by decide) rfl fun T1 X1 => ?_
  refine w_aloadN X1 (pc' := 5) d1_4 rfl rfl rfl ?_
  refine w_bipush X1 (pc' := 7) (32 : Int32) d1_5 rfl rfl ?_
  refine w_anewarray X1 (pc' := 10) 32 32 d1_7 (hw _ (List.mem_of_getElem? (i := 10) rfl)) (hw _ (List.mem_of_getElem? (i := 11) rfl)) (by decide) (by decide) (by decide) (by decide) (by decide) rfl fun T2 h2 b2 g2 gn2 X2 E2 O2 A2 => ?_
  have ne_a_b2 : a ≠ b2 := ne_new g2 F_p.lt
  have K_b2 : Keep h0 _ [a] := (Keep.refl h0 [a])
  have sz_b2 : h0.size ≤ b2 := sz_fresh g2 K_b2
  have F_p_3 := Fld.ext E2 F_p
  have F_m_3 := Fld.ext E2 F_m
  have F_s_3 := Fld.ext E2 F_s
  have E_a_3 := Exa.ext E2 E_a
  have K_4 : Keep h0 h2 [a] := K_b2.ext E2
  have Oa2 : Oar Z h2 b2 "java/lang/String" := O2
  replace A2 : Ary Z h2 b2 (.object "java/lang/String") 32 (fun _ => .null) := A2
  refine w_putfield X2 (pc' := 13) d1_10 (host := "") (Or.inl (hw _ (List.mem_of_getElem? (i := 12) rfl))) Via.refl F_p_3 E_a_3 (Or.inl (hw _ (List.mem_of_getElem? (i := 13) rfl))) (hw _ (List.mem_of_getElem? (i := 2) rfl)) (ty := (.array (.object "java/lang/String"))) (by decide) rfl rfl g_a rfl fun T5 h5 X5 W5 F5 => ?_
  have Oa2_6 := Oa2.wr W5
  have F_m_6 := Fld.other W5 F_m_3 (Or.inr (slot_ne (C := "com/example/raja/raja/xml/CanonicalWriter$Bindings") (Or.inl (hw _ (List.mem_of_getElem? (i := 16) rfl))) (Or.inl (hw _ (List.mem_of_getElem? (i := 13) rfl))) (by decide) (t := (.array .int)) (t' := (.array (.object "java/lang/String"))) (by decide) (by decide)))
  have F_s_6 := Fld.other W5 F_s_3 (Or.inr (slot_ne (C := "com/example/raja/raja/xml/CanonicalWriter$Bindings") (Or.inl (hw _ (List.mem_of_getElem? (i := 54) rfl))) (Or.inl (hw _ (List.mem_of_getElem? (i := 13) rfl))) (by decide) (t := .int) (t' := (.array (.object "java/lang/String"))) (by decide) (by decide)))
  have E_a_6 := Exa.wr W5 E_a_3
  have A2_6 := A2.other W5 (Ne.symm ne_a_b2)
  have K_7 : Keep h0 h5 [a] := K_4.wr W5 (Or.inl (List.mem_of_getElem? (i := 0) rfl))
  refine w_aloadN X5 (pc' := 14) d1_13 rfl rfl rfl ?_
  refine w_bipush X5 (pc' := 16) (16 : Int32) d1_14 rfl rfl ?_
  refine w_newarray X5 (pc' := 18) 16 16 d1_16 (hw _ (List.mem_of_getElem? (i := 14) rfl)) (by decide) (by decide) (by decide) (by decide) (by decide) rfl fun T8 h8 b8 g8 gn8 X8 E8 A8 => ?_
  have ne_a_b8 : a ≠ b8 := ne_new g8 F_m_6.lt
  have ne_b2_b8 : b2 ≠ b8 := ne_new g8 A2_6.lt
  have sz_b8 : h0.size ≤ b8 := sz_fresh g8 K_7
  have Oa2_9 := Oa2_6.ext E8
  have F_m_9 := Fld.ext E8 F_m_6
  have F_s_9 := Fld.ext E8 F_s_6
  have F5_9 := Fld.ext E8 F5
  have E_a_9 := Exa.ext E8 E_a_6
  have A2_9 := A2_6.ext E8
  have K_10 : Keep h0 h8 [a] := K_7.ext E8
  replace A8 : Ary Z h8 b8 .int 16 (fun _ => (.int (0 : Int32))) := A8
  refine w_putfield X8 (pc' := 21) d1_18 (host := "") (Or.inl (hw _ (List.mem_of_getElem? (i := 15) rfl))) Via.refl F_m_9 E_a_9 (Or.inl (hw _ (List.mem_of_getElem? (i := 16) rfl))) (hw _ (List.mem_of_getElem? (i := 2) rfl)) (ty := (.array .int)) (by decide) rfl rfl g_a rfl fun T11 h11 X11 W11 F11 => ?_
  have Oa2_12 := Oa2_9.wr W11
  have F_s_12 := Fld.other W11 F_s_9 (Or.inr (slot_ne (C := "com/example/raja/raja/xml/CanonicalWriter$Bindings") (Or.inl (hw _ (List.mem_of_getElem? (i := 54) rfl))) (Or.inl (hw _ (List.mem_of_getElem? (i := 16) rfl))) (by decide) (t := .int) (t' := (.array .int)) (by decide) (by decide)))
  have F5_12 := Fld.other W11 F5_9 (Or.inr (slot_ne (C := "com/example/raja/raja/xml/CanonicalWriter$Bindings") (Or.inl (hw _ (List.mem_of_getElem? (i := 13) rfl))) (Or.inl (hw _ (List.mem_of_getElem? (i := 16) rfl))) (by decide) (t := (.array (.object "java/lang/String"))) (t' := (.array .int)) (by decide) (by decide)))
  have E_a_12 := Exa.wr W11 E_a_9
  have A2_12 := A2_9.other W11 (Ne.symm ne_a_b2)
  have A8_12 := A8.other W11 (Ne.symm ne_a_b8)
  have K_13 : Keep h0 h11 [a] := K_10.wr W11 (Or.inl (List.mem_of_getElem? (i := 0) rfl))
  exact w_return X11 d1_21 ⟨K_13, b2, _, g_a, gn2, ne_a_b2, E_a_12, F5_12, F_s_12, Oa2_12, A2_12, fun j hj => absurd hj (Nat.not_lt_zero j)⟩ (by decide) (by decide)
theorem d9_0 : decode prog_69_method_2_code 0 = .ok (.iconst 2, 1) := by decide +kernel
theorem d9_1 : decode prog_69_method_2_code 1 = .ok (.aload_n 0, 1) := by decide +kernel
theorem d9_2 : decode prog_69_method_2_code 2 = .ok (.getfield 19, 3) := by decide +kernel
theorem d9_5 : decode prog_69_method_2_code 5 = .ok (.imul, 1) := by decide +kernel
theorem d9_6 : decode prog_69_method_2_code 6 = .ok (.iconst 2, 1) := by decide +kernel
theorem d9_7 : decode prog_69_method_2_code 7 = .ok (.iadd, 1) := by decide +kernel
theorem d9_8 : decode prog_69_method_2_code 8 = .ok (.aload_n 0, 1) := by decide +kernel
theorem d9_9 : decode prog_69_method_2_code 9 = .ok (.getfield 9, 3) := by decide +kernel
theorem d9_12 : decode prog_69_method_2_code 12 = .ok (.arraylength, 1) := by decide +kernel
theorem d9_13 : decode prog_69_method_2_code 13 = .ok (.if_icmp .le 24, 3) := by decide +kernel
theorem d9_16 : decode prog_69_method_2_code 16 = .ok (.aload_n 0, 1) := by decide +kernel
theorem d9_17 : decode prog_69_method_2_code 17 = .ok (.aload_n 0, 1) := by decide +kernel
theorem d9_18 : decode prog_69_method_2_code 18 = .ok (.getfield 9, 3) := by decide +kernel
theorem d9_21 : decode prog_69_method_2_code 21 = .ok (.iconst 2, 1) := by decide +kernel
theorem d9_22 : decode prog_69_method_2_code 22 = .ok (.aload_n 0, 1) := by decide +kernel
theorem d9_23 : decode prog_69_method_2_code 23 = .ok (.getfield 9, 3) := by decide +kernel
theorem d9_26 : decode prog_69_method_2_code 26 = .ok (.arraylength, 1) := by decide +kernel
theorem d9_27 : decode prog_69_method_2_code 27 = .ok (.imul, 1) := by decide +kernel
theorem d9_28 : decode prog_69_method_2_code 28 = .ok (.invokestatic 23, 3) := by decide +kernel
theorem d9_31 : decode prog_69_method_2_code 31 = .ok (.checkcast 29, 3) := by decide +kernel
theorem d9_34 : decode prog_69_method_2_code 34 = .ok (.putfield 9, 3) := by decide +kernel
theorem d9_37 : decode prog_69_method_2_code 37 = .ok (.aload_n 0, 1) := by decide +kernel
theorem d9_38 : decode prog_69_method_2_code 38 = .ok (.getfield 9, 3) := by decide +kernel
theorem d9_41 : decode prog_69_method_2_code 41 = .ok (.iconst 2, 1) := by decide +kernel
theorem d9_42 : decode prog_69_method_2_code 42 = .ok (.aload_n 0, 1) := by decide +kernel
theorem d9_43 : decode prog_69_method_2_code 43 = .ok (.getfield 19, 3) := by decide +kernel
theorem d9_46 : decode prog_69_method_2_code 46 = .ok (.imul, 1) := by decide +kernel
theorem d9_47 : decode prog_69_method_2_code 47 = .ok (.aload_n 1, 1) := by decide +kernel
theorem d9_48 : decode prog_69_method_2_code 48 = .ok (.aastore, 1) := by decide +kernel
theorem d9_49 : decode prog_69_method_2_code 49 = .ok (.aload_n 0, 1) := by decide +kernel
theorem d9_50 : decode prog_69_method_2_code 50 = .ok (.getfield 9, 3) := by decide +kernel
theorem d9_53 : decode prog_69_method_2_code 53 = .ok (.iconst 2, 1) := by decide +kernel
theorem d9_54 : decode prog_69_method_2_code 54 = .ok (.aload_n 0, 1) := by decide +kernel
theorem d9_55 : decode prog_69_method_2_code 55 = .ok (.getfield 19, 3) := by decide +kernel
theorem d9_58 : decode prog_69_method_2_code 58 = .ok (.imul, 1) := by decide +kernel
theorem d9_59 : decode prog_69_method_2_code 59 = .ok (.iconst 1, 1) := by decide +kernel
theorem d9_60 : decode prog_69_method_2_code 60 = .ok (.iadd, 1) := by decide +kernel
theorem d9_61 : decode prog_69_method_2_code 61 = .ok (.aload_n 2, 1) := by decide +kernel
theorem d9_62 : decode prog_69_method_2_code 62 = .ok (.aastore, 1) := by decide +kernel
theorem d9_63 : decode prog_69_method_2_code 63 = .ok (.aload_n 0, 1) := by decide +kernel
theorem d9_64 : decode prog_69_method_2_code 64 = .ok (.dup, 1) := by decide +kernel
theorem d9_65 : decode prog_69_method_2_code 65 = .ok (.getfield 19, 3) := by decide +kernel
theorem d9_68 : decode prog_69_method_2_code 68 = .ok (.iconst 1, 1) := by decide +kernel
theorem d9_69 : decode prog_69_method_2_code 69 = .ok (.iadd, 1) := by decide +kernel
theorem d9_70 : decode prog_69_method_2_code 70 = .ok (.putfield 19, 3) := by decide +kernel
theorem d9_73 : decode prog_69_method_2_code 73 = .ok (.return_, 1) := by decide +kernel
theorem pn_9 : plainFor (⟨"com/example/raja/raja/xml/CanonicalWriter$Bindings", "push", "(Ljava/lang/String;Ljava/lang/String;)V"⟩ : MethodName) = true := plainFor_of_name (by first | (simp [plainName, overriddenIn]; done) | decide +kernel)
theorem pd_9 : parseMethodDescriptor "(Ljava/lang/String;Ljava/lang/String;)V" = some ⟨[(.object "java/lang/String"), (.object "java/lang/String")], none⟩ := by decide +kernel
set_option maxRecDepth 65536 in
set_option maxHeartbeats 40000000 in
theorem rm_push {l : Launch} {Z : State} {a0 : Array Value} (hw : ∀ d ∈ tables_1, d.before a0 Z = true) {n0 : Nat} {h0 : Heap} (Z0 : n0 ≤ h0.size) (a a1 a2 : Addr) {ks : List (List Int32)} {k bs : List Int32} (B : BD Z n0 h0 a ks) (hn : ks.length < 8) (S_1 : Str Z h0 a1 k) (S_2 : Str Z h0 a2 bs) :
    Con l Z n0 (⟨"com/example/raja/raja/xml/CanonicalWriter$Bindings", "push", "(Ljava/lang/String;Ljava/lang/String;)V"⟩ : MethodName) prog_69_method_2_code 3 none ({ frames := 0, cells := 0, slots := 0, locals := 0 } : Room) #[(.ref a), (.ref a1), (.ref a2)] h0 (Non (fun h => (∃ ws, Keep h0 h ws ∧ ∀ x ∈ ws, Apart Z h0 x) ∧ BD Z n0 h a (ks ++ [k]))) := by
  refine con_intro pn_9 Z0 (fr := fun m => mkF m 0 #[.val (.ref a), .val (.ref a1), .val (.ref a2)] []) (fun m => by first | (simp [entryFrame, mkF, argsToLocals, Value.category]; done) | rfl) ?_
  intro p e s m below s₁ hs0 X0
  obtain ⟨d, f, g_a, g_d, ne_ad, E_a, F_p, F_s, O_d, A_d, hs⟩ := B
  have E_1 := S_1.exa
  have E_2 := S_2.exa
  have m2 : ((2 : Int32) * (Int32.ofNat ks.length)).toInt = ((2 * ks.length : Nat) : Int) := by rw [Jvm.Kit.i32_mul (by rw [own_nat _ (by omega), show (2 : Int32).toInt = 2 from by decide]; omega) (by rw [own_nat _ (by omega), show (2 : Int32).toInt = 2 from by decide]; omega), own_nat _ (by omega), show (2 : Int32).toInt = 2 from by decide]; omega
  have m3 : ((2 : Int32) * (Int32.ofNat ks.length) + (1 : Int32)).toInt = ((2 * ks.length + 1 : Nat) : Int) := by rw [Jvm.Kit.i32_add (by rw [m2, show (1 : Int32).toInt = 1 from by decide]; omega) (by rw [m2, show (1 : Int32).toInt = 1 from by decide]; omega), m2, show (1 : Int32).toInt = 1 from by decide]; omega
  have m4 : ((2 : Int32) * (Int32.ofNat ks.length) + (2 : Int32)).toInt = ((2 * ks.length + 2 : Nat) : Int) := by rw [Jvm.Kit.i32_add (by rw [m2, show (2 : Int32).toInt = 2 from by decide]; omega) (by rw [m2, show (2 : Int32).toInt = 2 from by decide]; omega), m2, show (2 : Int32).toInt = 2 from by decide]; omega
  refine w_iconst X0 (pc' := 1) (2 : Int32) d9_0 rfl rfl ?_
  refine w_aloadN X0 (pc' := 2) d9_1 rfl rfl rfl ?_
  refine w_getfield X0 (pc' := 5) d9_2 (host := "") (Or.inl (hw _ (List.mem_of_getElem? (i := 53) rfl))) Via.refl F_s rfl fun T1 X1 => ?_
  refine w_imul X1 (pc' := 6) d9_5 rfl ?_
  refine w_iconst X1 (pc' := 7) (2 : Int32) d9_6 rfl rfl ?_
  refine w_iadd X1 (pc' := 8) d9_7 rfl ?_
  refine w_aloadN X1 (pc' := 9) d9_8 rfl rfl rfl ?_
  refine w_getfield X1 (pc' := 12) d9_9 (host := "") (Or.inl (hw _ (List.mem_of_getElem? (i := 12) rfl))) Via.refl F_p rfl fun T2 X2 => ?_
  refine w_arraylength X2 (pc' := 13) (32 : Int32) d9_12 A_d (by decide) rfl ?_
  refine w_icmp_le X2 37 16 d9_13 (by decide) rfl rfl (fun hc13 => ?_) (fun hc13 => by exfalso; rw [Int32.lt_iff_toInt_lt, m4, show (32 : Int32).toInt = 32 from by decide] at hc13; omega)
  refine w_aloadN X2 (pc' := 38) d9_37 rfl rfl rfl ?_
  refine w_getfield X2 (pc' := 41) d9_38 (host := "") (Or.inl (hw _ (List.mem_of_getElem? (i := 12) rfl))) Via.refl F_p rfl fun T3 X3 => ?_
  refine w_iconst X3 (pc' := 42) (2 : Int32) d9_41 rfl rfl ?_
  refine w_aloadN X3 (pc' := 43) d9_42 rfl rfl rfl ?_
  refine w_getfield X3 (pc' := 46) d9_43 (host := "") (Or.inl (hw _ (List.mem_of_getElem? (i := 53) rfl))) Via.refl F_s rfl fun T4 X4 => ?_
  refine w_imul X4 (pc' := 47) d9_46 rfl ?_
  refine w_aloadN X4 (pc' := 48) d9_47 rfl rfl rfl ?_
  refine w_aastore X4 (pc' := 49) (2 * ks.length) d9_48 A_d rfl (O_d.sto (Ins.self E_1)) m2 (by omega) g_d rfl fun T5 h5 X5 W5 A5 => ?_
  have O_d_6 := O_d.wr W5
  have F_p_6 := Fld.other W5 F_p (Or.inl ne_ad)
  have F_s_6 := Fld.other W5 F_s (Or.inl ne_ad)
  have E_a_6 := Exa.wr W5 E_a
  have E_6 := Exa.wr W5 E_1
  have E_6 := Exa.wr W5 E_2
  have K_7r : Keep h0 _ [a, d] := (Keep.refl h0 [a, d])
  have K_7 : Keep h0 h5 [a, d] := K_7r.wr W5 (Or.inl (List.mem_of_getElem? (i := 1) rfl))
  refine w_aloadN X5 (pc' := 50) d9_49 rfl rfl rfl ?_
  refine w_getfield X5 (pc' := 53) d9_50 (host := "") (Or.inl (hw _ (List.mem_of_getElem? (i := 12) rfl))) Via.refl F_p_6 rfl fun T8 X8 => ?_
  refine w_iconst X8 (pc' := 54) (2 : Int32) d9_53 rfl rfl ?_
  refine w_aloadN X8 (pc' := 55) d9_54 rfl rfl rfl ?_
  refine w_getfield X8 (pc' := 58) d9_55 (host := "") (Or.inl (hw _ (List.mem_of_getElem? (i := 53) rfl))) Via.refl F_s_6 rfl fun T9 X9 => ?_
  refine w_imul X9 (pc' := 59) d9_58 rfl ?_
  refine w_iconst X9 (pc' := 60) (1 : Int32) d9_59 rfl rfl ?_
  refine w_iadd X9 (pc' := 61) d9_60 rfl ?_
  refine w_aloadN X9 (pc' := 62) d9_61 rfl rfl rfl ?_
  refine w_aastore X9 (pc' := 63) (2 * ks.length + 1) d9_62 A5 rfl (O_d_6.sto (Ins.self E_6)) m3 (by omega) g_d rfl fun T10 h10 X10 W10 A10 => ?_
  have O_d_11 := O_d_6.wr W10
  have F_p_11 := Fld.other W10 F_p_6 (Or.inl ne_ad)
  have F_s_11 := Fld.other W10 F_s_6 (Or.inl ne_ad)
  have E_a_11 := Exa.wr W10 E_a_6
  have E_11 := Exa.wr W10 E_6
  have E_11 := Exa.wr W10 E_6
  have K_12 : Keep h0 h10 [a, d] := K_7.wr W10 (Or.inl (List.mem_of_getElem? (i := 1) rfl))
  refine w_aloadN X10 (pc' := 64) d9_63 rfl rfl rfl ?_
  refine w_dup X10 (pc' := 65) d9_64 rfl rfl ?_
  refine w_getfield X10 (pc' := 68) d9_65 (host := "") (Or.inl (hw _ (List.mem_of_getElem? (i := 53) rfl))) Via.refl F_s_11 rfl fun T13 X13 => ?_
  refine w_iconst X13 (pc' := 69) (1 : Int32) d9_68 rfl rfl ?_
  refine w_iadd X13 (pc' := 70) d9_69 rfl ?_
  refine w_putfield X13 (pc' := 73) d9_70 (host := "") (Or.inl (hw _ (List.mem_of_getElem? (i := 53) rfl))) Via.refl F_s_11 E_a_11 (Or.inl (hw _ (List.mem_of_getElem? (i := 54) rfl))) (hw _ (List.mem_of_getElem? (i := 2) rfl)) (ty := .int) (by decide) rfl rfl g_a rfl fun T14 h14 X14 W14 F14 => ?_
  have O_d_15 := O_d_11.wr W14
  have F_p_15 := Fld.other W14 F_p_11 (Or.inr (slot_ne (C := "com/example/raja/raja/xml/CanonicalWriter$Bindings") (Or.inl (hw _ (List.mem_of_getElem? (i := 13) rfl))) (Or.inl (hw _ (List.mem_of_getElem? (i := 54) rfl))) (by decide) (t := (.array (.object "java/lang/String"))) (t' := .int) (by decide) (by decide)))
  have E_a_15 := Exa.wr W14 E_a_11
  have E_15 := Exa.wr W14 E_11
  have E_15 := Exa.wr W14 E_11
  have A10_15 := A10.other W14 (Ne.symm ne_ad)
  have K_16 : Keep h0 h14 [a, d] := K_12.wr W14 (Or.inl (List.mem_of_getElem? (i := 0) rfl))
  have hk : ∀ j, j < (ks ++ [k]).length → ∃ r, (upd (upd f (2 * ks.length) (.ref a1)) (2 * ks.length + 1) (.ref a2)) (2 * j) = .ref r ∧ Str Z h14 r ((ks ++ [k]).getD j []) := fun j hj => by
    rw [List.length_append, List.length_singleton] at hj
    by_cases q : j = ks.length
    · subst q
      exact ⟨a1, by rw [upd_other _ _ (by omega), upd_same], by simpa using S_1.keep K_16 (ap2 (Apart.obj E_a (hw _ (List.mem_of_getElem? (i := 2) rfl)) (by decide) (by decide)) (Apart.ary A_d (by decide)))⟩
    · obtain ⟨r, q1, q2⟩ := hs j (by omega)
      exact ⟨r, by rw [upd_other _ _ (by omega), upd_other _ _ (by omega)]; exact q1, by rw [show (ks ++ [k]).getD j [] = ks.getD j [] from by simp [List.getD_eq_getElem?_getD, List.getElem?_append_left (show j < ks.length by omega)]]; exact q2.keep K_16 (ap2 (Apart.obj E_a (hw _ (List.mem_of_getElem? (i := 2) rfl)) (by decide) (by decide)) (Apart.ary A_d (by decide)))⟩
  have hz : Fld Z h14 a "com/example/raja/raja/xml/CanonicalWriter$Bindings" "size" "I" (.int (Int32.ofNat (ks ++ [k]).length)) := by rw [List.length_append, List.length_singleton, ← own_succ]; exact F14
  exact w_return X14 d9_73 ⟨⟨_, K_16, (ap2 (Apart.obj E_a (hw _ (List.mem_of_getElem? (i := 2) rfl)) (by decide) (by decide)) (Apart.ary A_d (by decide)))⟩, d, _, g_a, g_d, ne_ad, E_a_15, F_p_15, hz, O_d_15, A10_15, hk⟩ (by decide) (by decide)
theorem d12_0 : decode prog_69_method_9_code 0 = .ok (.iconst 0, 1) := by decide +kernel
theorem d12_1 : decode prog_69_method_9_code 1 = .ok (.istore_n 2, 1) := by decide +kernel
theorem d12_2 : decode prog_69_method_9_code 2 = .ok (.iload_n 2, 1) := by decide +kernel
theorem d12_3 : decode prog_69_method_9_code 3 = .ok (.iload_n 1, 1) := by decide +kernel
theorem d12_4 : decode prog_69_method_9_code 4 = .ok (.if_icmp .ge 33, 3) := by decide +kernel
theorem d12_7 : decode prog_69_method_9_code 7 = .ok (.aload_n 0, 1) := by decide +kernel
theorem d12_8 : decode prog_69_method_9_code 8 = .ok (.getfield 9, 3) := by decide +kernel
theorem d12_11 : decode prog_69_method_9_code 11 = .ok (.iconst 2, 1) := by decide +kernel
theorem d12_12 : decode prog_69_method_9_code 12 = .ok (.iload_n 2, 1) := by decide +kernel
theorem d12_13 : decode prog_69_method_9_code 13 = .ok (.imul, 1) := by decide +kernel
theorem d12_14 : decode prog_69_method_9_code 14 = .ok (.aaload, 1) := by decide +kernel
theorem d12_15 : decode prog_69_method_9_code 15 = .ok (.aload_n 0, 1) := by decide +kernel
theorem d12_16 : decode prog_69_method_9_code 16 = .ok (.getfield 9, 3) := by decide +kernel
theorem d12_19 : decode prog_69_method_9_code 19 = .ok (.iconst 2, 1) := by decide +kernel
theorem d12_20 : decode prog_69_method_9_code 20 = .ok (.iload_n 1, 1) := by decide +kernel
theorem d12_21 : decode prog_69_method_9_code 21 = .ok (.imul, 1) := by decide +kernel
theorem d12_22 : decode prog_69_method_9_code 22 = .ok (.aaload, 1) := by decide +kernel
theorem d12_23 : decode prog_69_method_9_code 23 = .ok (.invokevirtual 36, 3) := by decide +kernel
theorem d12_26 : decode prog_69_method_9_code 26 = .ok (.ifCond .eq 5, 3) := by decide +kernel
theorem d12_29 : decode prog_69_method_9_code 29 = .ok (.iconst 0, 1) := by decide +kernel
theorem d12_30 : decode prog_69_method_9_code 30 = .ok (.ireturn, 1) := by decide +kernel
theorem d12_31 : decode prog_69_method_9_code 31 = .ok (.iinc 2 1, 3) := by decide +kernel
theorem d12_34 : decode prog_69_method_9_code 34 = .ok (.goto (-32), 3) := by decide +kernel
theorem d12_37 : decode prog_69_method_9_code 37 = .ok (.iconst 1, 1) := by decide +kernel
theorem d12_38 : decode prog_69_method_9_code 38 = .ok (.ireturn, 1) := by decide +kernel
theorem pn_12 : plainFor (⟨"com/example/raja/raja/xml/CanonicalWriter$Bindings", "isFirst", "(I)Z"⟩ : MethodName) = true := plainFor_of_name (by first | (simp [plainName, overriddenIn]; done) | decide +kernel)
theorem pd_12 : parseMethodDescriptor "(I)Z" = some ⟨[.int], some .boolean⟩ := by decide +kernel
set_option maxRecDepth 65536 in
set_option maxHeartbeats 40000000 in
theorem rm_first {l : Launch} {Z : State} {a0 : Array Value} (hw : ∀ d ∈ tables_1, d.before a0 Z = true) {n0 : Nat} {h0 : Heap} (Z0 : n0 ≤ h0.size) (a : Addr) (i : Nat) {ks : List (List Int32)} (B : BD Z n0 h0 a ks) (hi : i < ks.length) (hn : ks.length < 16) {zc : Int32} (S_c : Sta Z h0 "java/lang/String" "COMPACT_STRINGS" "Z" (.int zc)) (hzc : ¬ zc = (0 : Int32))  :
    Con l Z n0 (⟨"com/example/raja/raja/xml/CanonicalWriter$Bindings", "isFirst", "(I)Z"⟩ : MethodName) prog_69_method_9_code 3 (some .boolean) ({ frames := 2, cells := 0, slots := 0, locals := 28 } : Room) #[(.ref a), (.int (Int32.ofNat i))] h0 (Val (fun v h => v = .int (own_first ks i) ∧ h0 = h)) := by
  refine con_intro pn_12 Z0 (fr := fun m => mkF m 0 #[.val (.ref a), .val (.int (Int32.ofNat i)), .unset] []) (fun m => by first | (simp [entryFrame, mkF, argsToLocals, Value.category]; done) | rfl) ?_
  intro p e s m below s₁ hs0 X0
  obtain ⟨d, f, g_a, g_d, ne_ad, E_a, F_p, F_s, O_d, A_d, hs⟩ := B
  have m2 : ∀ j : Nat, j < 16 → ((2 : Int32) * Int32.ofNat j).toInt = ((2 * j : Nat) : Int) := fun j hj => by rw [Jvm.Kit.i32_mul (by rw [own_nat _ (by omega), show (2 : Int32).toInt = 2 from by decide]; omega) (by rw [own_nat _ (by omega), show (2 : Int32).toInt = 2 from by decide]; omega), own_nat _ (by omega), show (2 : Int32).toInt = 2 from by decide]; omega
  obtain ⟨ri, fi, Si⟩ := hs i hi
  refine w_iconst X0 (pc' := 1) (0 : Int32) d12_0 rfl rfl ?_
  refine w_istoreN X0 (pc' := 2) (l' := #[.val (.ref a), .val (.int (Int32.ofNat i)), .val (.int (0 : Int32))]) d12_1 rfl rfl ?_
  refine w_loop (n := i) (fr := fun j => mkF m 2 #[.val (.ref a), .val (.int (Int32.ofNat i)), .val (.int (Int32.ofNat j))] []) (fun i' => ∀ j, j < i' → ks.getD j [] ≠ ks.getD i []) (fun T j X hj hI KK => ?_) (fun T X hI => ?_) i 0 (by omega) (fun j hj => absurd hj (Nat.not_lt_zero j)) s₁ X0
  · skip
    show Go p e below _ (T.setTop (mkF m 2 #[.val (.ref a), .val (.int (Int32.ofNat i)), .val (.int (Int32.ofNat j))] []))
    obtain ⟨rj, fj, Sj⟩ := hs j (by omega)
    refine w_iloadN X (pc' := 3) d12_2 rfl rfl ?_
    refine w_iloadN X (pc' := 4) d12_3 rfl rfl ?_
    refine w_icmp_ge X 37 7 d12_4 (by decide) rfl rfl (fun hc4 => by exfalso; exact hc4 (by rw [Int32.lt_iff_toInt_lt, own_nat j (by omega), own_nat i (by omega)]; omega)) (fun hc4 => ?_)
    refine w_aloadN X (pc' := 8) d12_7 rfl rfl rfl ?_
    refine w_getfield X (pc' := 11) d12_8 (host := "") (Or.inl (hw _ (List.mem_of_getElem? (i := 12) rfl))) Via.refl F_p rfl fun T1 X1 => ?_
    refine w_iconst X1 (pc' := 12) (2 : Int32) d12_11 rfl rfl ?_
    refine w_iloadN X1 (pc' := 13) d12_12 rfl rfl ?_
    refine w_imul X1 (pc' := 14) d12_13 rfl ?_
    refine w_aaload X1 (pc' := 15) (2 * j) (v := (.ref rj)) d12_14 A_d rfl (m2 j (by omega)) (by omega) fj rfl ?_
    refine w_aloadN X1 (pc' := 16) d12_15 rfl rfl rfl ?_
    refine w_getfield X1 (pc' := 19) d12_16 (host := "") (Or.inl (hw _ (List.mem_of_getElem? (i := 12) rfl))) Via.refl F_p rfl fun T2 X2 => ?_
    refine w_iconst X2 (pc' := 20) (2 : Int32) d12_19 rfl rfl ?_
    refine w_iloadN X2 (pc' := 21) d12_20 rfl rfl ?_
    refine w_imul X2 (pc' := 22) d12_21 rfl ?_
    refine w_aaload X2 (pc' := 23) (2 * i) (v := (.ref ri)) d12_22 A_d rfl (m2 i (by omega)) (by omega) fi rfl ?_
    refine w_virtualV X2 (pc' := 26) d12_23 (rm_eq hw (h0 := h0) (sd_size X2) rj ri Sj Si S_c hzc) (hw _ (List.mem_of_getElem? (i := 66) rfl)) (hw _ (List.mem_of_getElem? (i := 67) rfl)) (hw _ (List.mem_of_getElem? (i := 69) rfl)) (hw _ (List.mem_of_getElem? (i := 68) rfl)) (hw _ (List.mem_of_getElem? (i := 23) rfl)) (hw _ (List.mem_of_getElem? (i := 70) rfl)) Sj.exa (by decide) [(.ref ri)] [] pd_13 rfl rfl rfl rfl 0 (Nat.le_refl _) (by decide) (by decide) (by decide) (by decide) rfl fun T3 h3 v3 X3 q3 => ?_
    obtain ⟨rfl, rfl⟩ := q3
    refine w_if_eq X3 31 29 d12_26 (by decide) rfl rfl (fun hc26 => ?_) (fun hc26 => ?_)
    · skip
      refine w_iinc X3 (pc' := 34) ((Int32.ofNat j) + (1 : Int32)) (l' := #[.val (.ref a), .val (.int (Int32.ofNat i)), .val (.int ((Int32.ofNat j) + (1 : Int32)))]) d12_31 rfl rfl rfl rfl ?_
      refine w_goto X3 (pc' := 2) d12_34 (by decide) rfl ?_
      rw [own_succ j]
      exact KK _ X3 (fun j' hj' => by by_cases q : j' = j; (subst q; intro z; rw [if_pos z] at hc26; exact absurd hc26 (by decide)); exact hI j' (by omega))
    · skip
      refine w_iconst X3 (pc' := 30) (0 : Int32) d12_29 rfl rfl ?_
      exact w_zreturn X3 d12_30 ⟨by rw [own_first, if_neg (fun q => hc26 (if_neg (q j hj)))]; rfl, rfl⟩ (by decide) (by decide)
  · skip
    show Go p e below _ (T.setTop (mkF m 2 #[.val (.ref a), .val (.int (Int32.ofNat i)), .val (.int (Int32.ofNat i))] []))
    refine w_iloadN X (pc' := 3) d12_2 rfl rfl ?_
    refine w_iloadN X (pc' := 4) d12_3 rfl rfl ?_
    refine w_icmp_ge X 37 7 d12_4 (by decide) rfl rfl (fun hc4 => ?_) (fun hc4 => by exfalso; rw [Int32.lt_iff_toInt_lt, own_nat _ (by omega)] at hc4; omega)
    refine w_iconst X (pc' := 38) (1 : Int32) d12_37 rfl rfl ?_
    exact w_zreturn X d12_38 ⟨by rw [own_first, if_pos hI]; rfl, rfl⟩ (by decide) (by decide)
theorem own_f1 {ks : List (List Int32)} {i : Nat} (h : ∀ j, j < i → ks.getD j [] ≠ ks.getD i []) : own_first ks i = 1 := if_pos h
theorem own_f0 {ks : List (List Int32)} {i : Nat} (j : Nat) (hj : j < i) (h : ks.getD j [] = ks.getD i []) : own_first ks i = 0 := if_neg fun q => q j hj h
theorem pn_0 : plainFor (⟨"com/example/raja/raja/xml/BindingsIsFirstPinLaw", "law", "(IIIIII)Z"⟩ : MethodName) = true := plainFor_of_name (by first | (simp [plainName, overriddenIn]; done) | decide +kernel)
theorem pd_0 : parseMethodDescriptor "(IIIIII)Z" = some ⟨[.int, .int, .int, .int, .int, .int], some .boolean⟩ := by decide +kernel
set_option maxRecDepth 65536 in
set_option maxHeartbeats 40000000 in
theorem rm0 {l : Launch} {Z : State} {a0 : Array Value} (hw : ∀ d ∈ tables_1, d.before a0 Z = true) {n0 : Nat} {h0 : Heap} (Z0 : n0 ≤ h0.size) (p1 p2 p3 p4 p5 p6 : Int32) (Zn : h0.size ≤ n0) {zc : Int32} (S_c : Sta Z h0 "java/lang/String" "COMPACT_STRINGS" "Z" (.int zc)) (hzc : ¬ zc = (0 : Int32))  :
    ConW l Z own_EL n0 x code maxLocals ret room_1 #[(.int p1), (.int p2), (.int p3), (.int p4), (.int p5), (.int p6)] h0 (Val (fun v _ => v = .int 1)) := by
  refine conW_intro pn_0 Z0 (fr := fun m => mkF m 0 #[.val (.int p1), .val (.int p2), .val (.int p3), .val (.int p4), .val (.int p5), .val (.int p6), .unset, .unset, .unset, .unset, .unset, .unset] []) (fun m => by first | (simp [entryFrame, mkF, argsToLocals, Value.category, maxLocals]; done) | rfl) ?_
  intro p e s m below s₁ hs0 F0 X0
  refine w_iload X0 (pc' := 2) at_0 rfl rfl ?_
  refine w_iconst X0 (pc' := 3) (3 : Int32) at_2 rfl rfl ?_
  refine w_iand X0 (pc' := 4) at_3 rfl ?_
  refine w_iconst X0 (pc' := 5) (1 : Int32) at_4 rfl rfl ?_
  refine w_iadd X0 (pc' := 6) at_5 rfl ?_
  refine w_istore X0 (pc' := 8) (l' := #[.val (.int p1), .val (.int p2), .val (.int p3), .val (.int p4), .val (.int p5), .val (.int p6), .val (.int ((p5 &&& (3 : Int32)) + (1 : Int32))), .unset, .unset, .unset, .unset, .unset]) at_6 rfl rfl ?_
  have hz : ((p5 &&& (3 : Int32)) + (1 : Int32)) = 1 ∨ ((p5 &&& (3 : Int32)) + (1 : Int32)) = 2 ∨ ((p5 &&& (3 : Int32)) + (1 : Int32)) = 3 ∨ ((p5 &&& (3 : Int32)) + (1 : Int32)) = 4 := by
    have e1 : (p5 &&& (3 : Int32)).toInt = p5.toInt % 2 ^ 2 := Jvm.Kit.i32_mask p5 3 (k := 2) (by decide) (by decide)
    have : (p5 &&& (3 : Int32)).toInt = 0 ∨ (p5 &&& (3 : Int32)).toInt = 1 ∨ (p5 &&& (3 : Int32)).toInt = 2 ∨ (p5 &&& (3 : Int32)).toInt = 3 := by omega
    rcases this with q | q | q | q
    · left; rw [show p5 &&& (3 : Int32) = 0 from Int32.toInt_inj.mp q]; rfl
    · right; left; rw [show p5 &&& (3 : Int32) = 1 from Int32.toInt_inj.mp q]; rfl
    · right; right; left; rw [show p5 &&& (3 : Int32) = 2 from Int32.toInt_inj.mp q]; rfl
    · right; right; right; rw [show p5 &&& (3 : Int32) = 3 from Int32.toInt_inj.mp q]; rfl
  generalize ((p5 &&& (3 : Int32)) + (1 : Int32)) = sz at hz ⊢
  rcases hz with rfl | rfl | rfl | rfl
  · skip
    show Go p e below _ (s₁.setTop (mkF m 8 #[.val (.int p1), .val (.int p2), .val (.int p3), .val (.int p4), .val (.int p5), .val (.int p6), .val (.int (1 : Int32)), .unset, .unset, .unset, .unset, .unset] []))
    refine w_iload X0 (pc' := 10) at_8 rfl rfl ?_
    refine w_ldc X0 (pc' := 12) at_10 (hw _ (List.mem_of_getElem? (i := 0) rfl)) rfl ?_
    refine w_iand X0 (pc' := 13) at_12 rfl ?_
    refine w_iload X0 (pc' := 15) at_13 rfl rfl ?_
    refine w_irem X0 (pc' := 16) at_15 (by decide) rfl ?_
    refine w_istore X0 (pc' := 18) (l' := #[.val (.int p1), .val (.int p2), .val (.int p3), .val (.int p4), .val (.int p5), .val (.int p6), .val (.int (1 : Int32)), .val (.int ((p6 &&& (2147483647 : Int32)) % (1 : Int32))), .unset, .unset, .unset, .unset]) at_16 rfl rfl ?_
    refine w_new X0 (pc' := 21) at_18 (hw _ (List.mem_of_getElem? (i := 1) rfl)) (hw _ (List.mem_of_getElem? (i := 2) rfl)) (hw _ (List.mem_of_getElem? (i := 3) rfl)) (by decide) (by decide) rfl fun T1 h1 b1 g1 gn1 X1 E1 A1 D1 => ?_
    have F0_2 := F0.ext E1
    have Fpairs_1 : Fld Z h1 b1 "com/example/raja/raja/xml/CanonicalWriter$Bindings" "pairs" "[Ljava/lang/String;" .null := D1 (Or.inl (hw _ (List.mem_of_getElem? (i := 13) rfl))) (ty := (.array (.object "java/lang/String"))) (by decide)
    have Fmarks_1 : Fld Z h1 b1 "com/example/raja/raja/xml/CanonicalWriter$Bindings" "marks" "[I" .null := D1 (Or.inl (hw _ (List.mem_of_getElem? (i := 16) rfl))) (ty := (.array .int)) (by decide)
    have Fsize_1 : Fld Z h1 b1 "com/example/raja/raja/xml/CanonicalWriter$Bindings" "size" "I" (.int (0 : Int32)) := D1 (Or.inl (hw _ (List.mem_of_getElem? (i := 54) rfl))) (ty := .int) (by decide)
    refine w_dup X1 (pc' := 22) at_21 rfl rfl ?_
    refine w_specialN X1 (pc' := 25) at_22 (rm_init hw (h0 := h1) (sd_size X1) b1 A1 Fpairs_1 Fmarks_1 Fsize_1 gn1) (hw _ (List.mem_of_getElem? (i := 4) rfl)) (hw _ (List.mem_of_getElem? (i := 5) rfl)) (hw _ (List.mem_of_getElem? (i := 3) rfl)) (hw _ (List.mem_of_getElem? (i := 6) rfl)) rfl (by decide) [] [(.ref b1)] pd_1 rfl rfl rfl rfl 1 (Nat.le_refl _) (by decide) (by decide) (by decide) (by decide) rfl fun T3 h3 X3 q3 => ?_
    obtain ⟨K3, B3⟩ := q3
    have F0_4 := F0_2.kp X3 K3 (ap1 (Apart.obj A1 (hw _ (List.mem_of_getElem? (i := 2) rfl)) (by decide) (by decide)))
    have A1_4 := A1.keep K3
    refine w_astore X3 (pc' := 27) (l' := #[.val (.int p1), .val (.int p2), .val (.int p3), .val (.int p4), .val (.int p5), .val (.int p6), .val (.int (1 : Int32)), .val (.int ((p6 &&& (2147483647 : Int32)) % (1 : Int32))), .val (.ref b1), .unset, .unset, .unset]) at_25 rfl rfl rfl ?_
    refine w_aload X3 (pc' := 29) at_27 rfl rfl rfl ?_
    refine w_iloadN X3 (pc' := 30) at_29 rfl rfl ?_
    refine w_staticVW X3 F0_4 (pc' := 33) at_30 (rm_prefix hw (h0 := h3) (sd_size X3) p1 (Sta.ext (sd_ext X3 hs0 Zn) S_c) hzc) (hw _ (List.mem_of_getElem? (i := 17) rfl)) (hw _ (List.mem_of_getElem? (i := 18) rfl)) (hw _ (List.mem_of_getElem? (i := 19) rfl)) (hw _ (List.mem_of_getElem? (i := 20) rfl)) (own_hEL hw) (by decide) [(.int p1)] [(.ref b1)] pd_3 rfl rfl rfl rfl 1 (Nat.le_refl _) (by decide) (by decide) (by decide) (by decide) rfl fun T5 h5 vm5 v5 X5 F5 q5 => ?_
    obtain ⟨b5, rfl, E5, S5⟩ := q5
    have B3_6 := B3.ext E5
    refine w_iloadN X5 (pc' := 34) at_33 rfl rfl ?_
    refine w_staticV X5 (pc' := 37) at_34 (rm_value hw (h0 := h5) (sd_size X5) p1 (Sta.ext (sd_ext X5 hs0 Zn) S_c) hzc) (hw _ (List.mem_of_getElem? (i := 45) rfl)) (hw _ (List.mem_of_getElem? (i := 46) rfl)) (hw _ (List.mem_of_getElem? (i := 19) rfl)) (hw _ (List.mem_of_getElem? (i := 47) rfl)) (by decide) [(.int p1)] [(.ref b5), (.ref b1)] pd_8 rfl rfl rfl rfl 2 (Nat.le_refl _) (by decide) (by decide) (by decide) (by decide) rfl fun T7 h7 v7 X7 q7 => ?_
    obtain ⟨b7, bs7, rfl, E7, S7⟩ := q7
    have S5_8 := S5.ext E7
    have B3_8 := B3_6.ext E7
    have F5_8 := F5.ext E7
    refine w_virtualN X7 (pc' := 40) at_37 (rm_push hw (h0 := h7) (sd_size X7) b1 b5 b7 B3_8 (show 0 < 8 by decide) S5_8 S7) (hw _ (List.mem_of_getElem? (i := 48) rfl)) (hw _ (List.mem_of_getElem? (i := 49) rfl)) (hw _ (List.mem_of_getElem? (i := 51) rfl)) (hw _ (List.mem_of_getElem? (i := 50) rfl)) (hw _ (List.mem_of_getElem? (i := 3) rfl)) (hw _ (List.mem_of_getElem? (i := 52) rfl)) B3_8.exa (by decide) [(.ref b5), (.ref b7)] [] pd_9 rfl rfl rfl rfl 0 (Nat.le_refl _) (by decide) (by decide) (by decide) (by decide) rfl fun T9 h9 X9 q9 => ?_
    obtain ⟨⟨ws9, K9, P9⟩, B9⟩ := q9
    have F5_10 := F5_8.kp X9 K9 P9
    replace B9 : BD Z n0 h9 b1 [(own_key p1)] := B9
    refine w_iload X9 (pc' := 42) at_40 rfl rfl ?_
    refine w_iconst X9 (pc' := 43) (2 : Int32) at_42 rfl rfl ?_
    refine w_icmp_lt X9 59 46 at_43 (by decide) rfl rfl (fun hc43 => ?_) (fun hc43 => by exfalso; revert hc43; decide)
    refine w_iload X9 (pc' := 61) at_59 rfl rfl ?_
    refine w_iconst X9 (pc' := 62) (3 : Int32) at_61 rfl rfl ?_
    refine w_icmp_lt X9 78 65 at_62 (by decide) rfl rfl (fun hc62 => ?_) (fun hc62 => by exfalso; revert hc62; decide)
    refine w_iload X9 (pc' := 80) at_78 rfl rfl ?_
    refine w_iconst X9 (pc' := 81) (4 : Int32) at_80 rfl rfl ?_
    refine w_icmp_lt X9 97 84 at_81 (by decide) rfl rfl (fun hc81 => ?_) (fun hc81 => by exfalso; revert hc81; decide)
    have hz : ((p6 &&& (2147483647 : Int32)) % (1 : Int32)) = 0 := by
      have e1 : (p6 &&& (2147483647 : Int32)).toInt = p6.toInt % 2 ^ 31 := Jvm.Kit.i32_mask p6 2147483647 (k := 31) (by decide) (by decide)
      have e2 : ((p6 &&& (2147483647 : Int32)) % (1 : Int32)).toInt = (p6 &&& (2147483647 : Int32)).toInt % 1 := by rw [Jvm.Kit.i32_rem_nonneg (by omega)]; rfl
      have e3 : ((p6 &&& (2147483647 : Int32)) % (1 : Int32)).toInt = 0 := by omega
      exact Int32.toInt_inj.mp e3
    generalize ((p6 &&& (2147483647 : Int32)) % (1 : Int32)) = at' at hz ⊢
    subst hz
    · skip
      show Go p e below _ (T9.setTop (mkF m 97 #[.val (.int p1), .val (.int p2), .val (.int p3), .val (.int p4), .val (.int p5), .val (.int p6), .val (.int (1 : Int32)), .val (.int (0 : Int32)), .val (.ref b1), .unset, .unset, .unset] []))
      refine w_iload X9 (pc' := 99) at_97 rfl rfl ?_
      refine w_iloadN X9 (pc' := 100) at_99 rfl rfl ?_
      refine w_iloadN X9 (pc' := 101) at_100 rfl rfl ?_
      refine w_iloadN X9 (pc' := 102) at_101 rfl rfl ?_
      refine w_iloadN X9 (pc' := 103) at_102 rfl rfl ?_
      refine w_staticV X9 (pc' := 106) at_103 (rm_pick hw (h0 := h9) (sd_size X9) (0 : Int32) p1 p2 p3 p4) (hw _ (List.mem_of_getElem? (i := 55) rfl)) (hw _ (List.mem_of_getElem? (i := 56) rfl)) (hw _ (List.mem_of_getElem? (i := 19) rfl)) (hw _ (List.mem_of_getElem? (i := 57) rfl)) (by decide) [(.int (0 : Int32)), (.int p1), (.int p2), (.int p3), (.int p4)] [] pd_10 rfl rfl rfl rfl 0 (Nat.le_refl _) (by decide) (by decide) (by decide) (by decide) rfl fun T11 h11 v11 X11 q11 => ?_
      obtain ⟨rfl, rfl⟩ := q11
      rw [show (own_pick (0 : Int32) p1 p2 p3 p4) = p1 from rfl]
      show Go p e below _ (T11.setTop (mkF m 106 #[.val (.int p1), .val (.int p2), .val (.int p3), .val (.int p4), .val (.int p5), .val (.int p6), .val (.int (1 : Int32)), .val (.int (0 : Int32)), .val (.ref b1), .unset, .unset, .unset] [(.int p1)]))
      refine w_staticV X11 (pc' := 109) at_106 (rm_key hw (h0 := h9) (sd_size X11) p1) (hw _ (List.mem_of_getElem? (i := 58) rfl)) (hw _ (List.mem_of_getElem? (i := 59) rfl)) (hw _ (List.mem_of_getElem? (i := 19) rfl)) (hw _ (List.mem_of_getElem? (i := 60) rfl)) (by decide) [(.int p1)] [] pd_11 rfl rfl rfl rfl 0 (Nat.le_refl _) (by decide) (by decide) (by decide) (by decide) rfl fun T12 h12 v12 X12 q12 => ?_
      obtain ⟨rfl, rfl⟩ := q12
      refine w_istore X12 (pc' := 111) (l' := #[.val (.int p1), .val (.int p2), .val (.int p3), .val (.int p4), .val (.int p5), .val (.int p6), .val (.int (1 : Int32)), .val (.int (0 : Int32)), .val (.ref b1), .val (.int (own_k p1)), .unset, .unset]) at_109 rfl rfl ?_
      refine w_iload X12 (pc' := 113) at_111 rfl rfl ?_
      refine w_if_le X12 125 116 at_113 (by decide) rfl rfl (fun hc113 => ?_) (fun hc113 => by exfalso; revert hc113; decide)
      refine w_iload X12 (pc' := 127) at_125 rfl rfl ?_
      refine w_iconst X12 (pc' := 128) (1 : Int32) at_127 rfl rfl ?_
      refine w_icmp_le X12 140 131 at_128 (by decide) rfl rfl (fun hc128 => ?_) (fun hc128 => by exfalso; revert hc128; decide)
      refine w_iload X12 (pc' := 142) at_140 rfl rfl ?_
      refine w_iconst X12 (pc' := 143) (2 : Int32) at_142 rfl rfl ?_
      refine w_icmp_le X12 159 146 at_143 (by decide) rfl rfl (fun hc143 => ?_) (fun hc143 => by exfalso; revert hc143; decide)
      refine w_iconst X12 (pc' := 160) (0 : Int32) at_159 rfl rfl ?_
      refine w_istore X12 (pc' := 162) (l' := #[.val (.int p1), .val (.int p2), .val (.int p3), .val (.int p4), .val (.int p5), .val (.int p6), .val (.int (1 : Int32)), .val (.int (0 : Int32)), .val (.ref b1), .val (.int (own_k p1)), .val (.int (0 : Int32)), .unset]) at_160 rfl rfl ?_
      refine w_iload X12 (pc' := 164) at_162 rfl rfl ?_
      refine w_if_ne X12 171 167 at_164 (by decide) rfl rfl (fun hc164 => by exfalso; revert hc164; decide) (fun hc164 => ?_)
      refine w_iconst X12 (pc' := 168) (1 : Int32) at_167 rfl rfl ?_
      refine w_goto X12 (pc' := 172) at_168 (by decide) rfl ?_
      refine w_istore X12 (pc' := 174) (l' := #[.val (.int p1), .val (.int p2), .val (.int p3), .val (.int p4), .val (.int p5), .val (.int p6), .val (.int (1 : Int32)), .val (.int (0 : Int32)), .val (.ref b1), .val (.int (own_k p1)), .val (.int (0 : Int32)), .val (.int (1 : Int32))]) at_172 rfl rfl ?_
      refine w_aload X12 (pc' := 176) at_174 rfl rfl rfl ?_
      refine w_iload X12 (pc' := 178) at_176 rfl rfl ?_
      refine w_virtualV X12 (pc' := 181) at_178 (rm_first hw (h0 := h9) (sd_size X12) b1 0 B9 (show 0 < 1 by decide) (show 1 < 16 by decide) (Sta.ext (sd_ext X12 hs0 Zn) S_c) hzc) (hw _ (List.mem_of_getElem? (i := 61) rfl)) (hw _ (List.mem_of_getElem? (i := 62) rfl)) (hw _ (List.mem_of_getElem? (i := 64) rfl)) (hw _ (List.mem_of_getElem? (i := 63) rfl)) (hw _ (List.mem_of_getElem? (i := 3) rfl)) (hw _ (List.mem_of_getElem? (i := 65) rfl)) B9.exa (by decide) [(.int (0 : Int32))] [] pd_12 rfl rfl rfl rfl 0 (Nat.le_refl _) (by decide) (by decide) (by decide) (by decide) rfl fun T13 h13 v13 X13 q13 => ?_
      obtain ⟨rfl, rfl⟩ := q13
      refine w_iload X13 (pc' := 183) at_181 rfl rfl ?_
      refine w_icmp_ne X13 190 186 at_183 (by decide) rfl rfl (fun hc183 => by exfalso; exact hc183 (own_f1 (fun j hj => absurd hj (Nat.not_lt_zero j)))) (fun hc183 => ?_)
      refine w_iconst X13 (pc' := 187) (1 : Int32) at_186 rfl rfl ?_
      refine w_goto X13 (pc' := 191) at_187 (by decide) rfl ?_
      exact w_zreturnW X13 F5_10 (own_hEL hw) at_191 rfl (by decide) (by decide)
  · skip
    show Go p e below _ (s₁.setTop (mkF m 8 #[.val (.int p1), .val (.int p2), .val (.int p3), .val (.int p4), .val (.int p5), .val (.int p6), .val (.int (2 : Int32)), .unset, .unset, .unset, .unset, .unset] []))
    refine w_iload X0 (pc' := 10) at_8 rfl rfl ?_
    refine w_ldc X0 (pc' := 12) at_10 (hw _ (List.mem_of_getElem? (i := 0) rfl)) rfl ?_
    refine w_iand X0 (pc' := 13) at_12 rfl ?_
    refine w_iload X0 (pc' := 15) at_13 rfl rfl ?_
    refine w_irem X0 (pc' := 16) at_15 (by decide) rfl ?_
    refine w_istore X0 (pc' := 18) (l' := #[.val (.int p1), .val (.int p2), .val (.int p3), .val (.int p4), .val (.int p5), .val (.int p6), .val (.int (2 : Int32)), .val (.int ((p6 &&& (2147483647 : Int32)) % (2 : Int32))), .unset, .unset, .unset, .unset]) at_16 rfl rfl ?_
    refine w_new X0 (pc' := 21) at_18 (hw _ (List.mem_of_getElem? (i := 1) rfl)) (hw _ (List.mem_of_getElem? (i := 2) rfl)) (hw _ (List.mem_of_getElem? (i := 3) rfl)) (by decide) (by decide) rfl fun T14 h14 b14 g14 gn14 X14 E14 A14 D14 => ?_
    have F0_15 := F0.ext E14
    have Fpairs_14 : Fld Z h14 b14 "com/example/raja/raja/xml/CanonicalWriter$Bindings" "pairs" "[Ljava/lang/String;" .null := D14 (Or.inl (hw _ (List.mem_of_getElem? (i := 13) rfl))) (ty := (.array (.object "java/lang/String"))) (by decide)
    have Fmarks_14 : Fld Z h14 b14 "com/example/raja/raja/xml/CanonicalWriter$Bindings" "marks" "[I" .null := D14 (Or.inl (hw _ (List.mem_of_getElem? (i := 16) rfl))) (ty := (.array .int)) (by decide)
    have Fsize_14 : Fld Z h14 b14 "com/example/raja/raja/xml/CanonicalWriter$Bindings" "size" "I" (.int (0 : Int32)) := D14 (Or.inl (hw _ (List.mem_of_getElem? (i := 54) rfl))) (ty := .int) (by decide)
    refine w_dup X14 (pc' := 22) at_21 rfl rfl ?_
    refine w_specialN X14 (pc' := 25) at_22 (rm_init hw (h0 := h14) (sd_size X14) b14 A14 Fpairs_14 Fmarks_14 Fsize_14 gn14) (hw _ (List.mem_of_getElem? (i := 4) rfl)) (hw _ (List.mem_of_getElem? (i := 5) rfl)) (hw _ (List.mem_of_getElem? (i := 3) rfl)) (hw _ (List.mem_of_getElem? (i := 6) rfl)) rfl (by decide) [] [(.ref b14)] pd_1 rfl rfl rfl rfl 1 (Nat.le_refl _) (by decide) (by decide) (by decide) (by decide) rfl fun T16 h16 X16 q16 => ?_
    obtain ⟨K16, B16⟩ := q16
    have F0_17 := F0_15.kp X16 K16 (ap1 (Apart.obj A14 (hw _ (List.mem_of_getElem? (i := 2) rfl)) (by decide) (by decide)))
    have A14_17 := A14.keep K16
    refine w_astore X16 (pc' := 27) (l' := #[.val (.int p1), .val (.int p2), .val (.int p3), .val (.int p4), .val (.int p5), .val (.int p6), .val (.int (2 : Int32)), .val (.int ((p6 &&& (2147483647 : Int32)) % (2 : Int32))), .val (.ref b14), .unset, .unset, .unset]) at_25 rfl rfl rfl ?_
    refine w_aload X16 (pc' := 29) at_27 rfl rfl rfl ?_
    refine w_iloadN X16 (pc' := 30) at_29 rfl rfl ?_
    refine w_staticVW X16 F0_17 (pc' := 33) at_30 (rm_prefix hw (h0 := h16) (sd_size X16) p1 (Sta.ext (sd_ext X16 hs0 Zn) S_c) hzc) (hw _ (List.mem_of_getElem? (i := 17) rfl)) (hw _ (List.mem_of_getElem? (i := 18) rfl)) (hw _ (List.mem_of_getElem? (i := 19) rfl)) (hw _ (List.mem_of_getElem? (i := 20) rfl)) (own_hEL hw) (by decide) [(.int p1)] [(.ref b14)] pd_3 rfl rfl rfl rfl 1 (Nat.le_refl _) (by decide) (by decide) (by decide) (by decide) rfl fun T18 h18 vm18 v18 X18 F18 q18 => ?_
    obtain ⟨b18, rfl, E18, S18⟩ := q18
    have B16_19 := B16.ext E18
    refine w_iloadN X18 (pc' := 34) at_33 rfl rfl ?_
    refine w_staticV X18 (pc' := 37) at_34 (rm_value hw (h0 := h18) (sd_size X18) p1 (Sta.ext (sd_ext X18 hs0 Zn) S_c) hzc) (hw _ (List.mem_of_getElem? (i := 45) rfl)) (hw _ (List.mem_of_getElem? (i := 46) rfl)) (hw _ (List.mem_of_getElem? (i := 19) rfl)) (hw _ (List.mem_of_getElem? (i := 47) rfl)) (by decide) [(.int p1)] [(.ref b18), (.ref b14)] pd_8 rfl rfl rfl rfl 2 (Nat.le_refl _) (by decide) (by decide) (by decide) (by decide) rfl fun T20 h20 v20 X20 q20 => ?_
    obtain ⟨b20, bs20, rfl, E20, S20⟩ := q20
    have S18_21 := S18.ext E20
    have B16_21 := B16_19.ext E20
    have F18_21 := F18.ext E20
    refine w_virtualN X20 (pc' := 40) at_37 (rm_push hw (h0 := h20) (sd_size X20) b14 b18 b20 B16_21 (show 0 < 8 by decide) S18_21 S20) (hw _ (List.mem_of_getElem? (i := 48) rfl)) (hw _ (List.mem_of_getElem? (i := 49) rfl)) (hw _ (List.mem_of_getElem? (i := 51) rfl)) (hw _ (List.mem_of_getElem? (i := 50) rfl)) (hw _ (List.mem_of_getElem? (i := 3) rfl)) (hw _ (List.mem_of_getElem? (i := 52) rfl)) B16_21.exa (by decide) [(.ref b18), (.ref b20)] [] pd_9 rfl rfl rfl rfl 0 (Nat.le_refl _) (by decide) (by decide) (by decide) (by decide) rfl fun T22 h22 X22 q22 => ?_
    obtain ⟨⟨ws22, K22, P22⟩, B22⟩ := q22
    have F18_23 := F18_21.kp X22 K22 P22
    replace B22 : BD Z n0 h22 b14 [(own_key p1)] := B22
    refine w_iload X22 (pc' := 42) at_40 rfl rfl ?_
    refine w_iconst X22 (pc' := 43) (2 : Int32) at_42 rfl rfl ?_
    refine w_icmp_lt X22 59 46 at_43 (by decide) rfl rfl (fun hc43 => by exfalso; revert hc43; decide) (fun hc43 => ?_)
    refine w_aload X22 (pc' := 48) at_46 rfl rfl rfl ?_
    refine w_iloadN X22 (pc' := 49) at_48 rfl rfl ?_
    refine w_staticVW X22 F18_23 (pc' := 52) at_49 (rm_prefix hw (h0 := h22) (sd_size X22) p2 (Sta.ext (sd_ext X22 hs0 Zn) S_c) hzc) (hw _ (List.mem_of_getElem? (i := 17) rfl)) (hw _ (List.mem_of_getElem? (i := 18) rfl)) (hw _ (List.mem_of_getElem? (i := 19) rfl)) (hw _ (List.mem_of_getElem? (i := 20) rfl)) (own_hEL hw) (by decide) [(.int p2)] [(.ref b14)] pd_3 rfl rfl rfl rfl 1 (Nat.le_refl _) (by decide) (by decide) (by decide) (by decide) rfl fun T24 h24 vm24 v24 X24 F24 q24 => ?_
    obtain ⟨b24, rfl, E24, S24⟩ := q24
    have B22_25 := B22.ext E24
    refine w_iloadN X24 (pc' := 53) at_52 rfl rfl ?_
    refine w_staticV X24 (pc' := 56) at_53 (rm_value hw (h0 := h24) (sd_size X24) p2 (Sta.ext (sd_ext X24 hs0 Zn) S_c) hzc) (hw _ (List.mem_of_getElem? (i := 45) rfl)) (hw _ (List.mem_of_getElem? (i := 46) rfl)) (hw _ (List.mem_of_getElem? (i := 19) rfl)) (hw _ (List.mem_of_getElem? (i := 47) rfl)) (by decide) [(.int p2)] [(.ref b24), (.ref b14)] pd_8 rfl rfl rfl rfl 2 (Nat.le_refl _) (by decide) (by decide) (by decide) (by decide) rfl fun T26 h26 v26 X26 q26 => ?_
    obtain ⟨b26, bs26, rfl, E26, S26⟩ := q26
    have S24_27 := S24.ext E26
    have B22_27 := B22_25.ext E26
    have F24_27 := F24.ext E26
    refine w_virtualN X26 (pc' := 59) at_56 (rm_push hw (h0 := h26) (sd_size X26) b14 b24 b26 B22_27 (show 1 < 8 by decide) S24_27 S26) (hw _ (List.mem_of_getElem? (i := 48) rfl)) (hw _ (List.mem_of_getElem? (i := 49) rfl)) (hw _ (List.mem_of_getElem? (i := 51) rfl)) (hw _ (List.mem_of_getElem? (i := 50) rfl)) (hw _ (List.mem_of_getElem? (i := 3) rfl)) (hw _ (List.mem_of_getElem? (i := 52) rfl)) B22_27.exa (by decide) [(.ref b24), (.ref b26)] [] pd_9 rfl rfl rfl rfl 0 (Nat.le_refl _) (by decide) (by decide) (by decide) (by decide) rfl fun T28 h28 X28 q28 => ?_
    obtain ⟨⟨ws28, K28, P28⟩, B28⟩ := q28
    have F24_29 := F24_27.kp X28 K28 P28
    replace B28 : BD Z n0 h28 b14 [(own_key p1), (own_key p2)] := B28
    refine w_iload X28 (pc' := 61) at_59 rfl rfl ?_
    refine w_iconst X28 (pc' := 62) (3 : Int32) at_61 rfl rfl ?_
    refine w_icmp_lt X28 78 65 at_62 (by decide) rfl rfl (fun hc62 => ?_) (fun hc62 => by exfalso; revert hc62; decide)
    refine w_iload X28 (pc' := 80) at_78 rfl rfl ?_
    refine w_iconst X28 (pc' := 81) (4 : Int32) at_80 rfl rfl ?_
    refine w_icmp_lt X28 97 84 at_81 (by decide) rfl rfl (fun hc81 => ?_) (fun hc81 => by exfalso; revert hc81; decide)
    have hz : ((p6 &&& (2147483647 : Int32)) % (2 : Int32)) = 0 ∨ ((p6 &&& (2147483647 : Int32)) % (2 : Int32)) = 1 := by
      have e1 : (p6 &&& (2147483647 : Int32)).toInt = p6.toInt % 2 ^ 31 := Jvm.Kit.i32_mask p6 2147483647 (k := 31) (by decide) (by decide)
      have e2 : ((p6 &&& (2147483647 : Int32)) % (2 : Int32)).toInt = (p6 &&& (2147483647 : Int32)).toInt % 2 := by rw [Jvm.Kit.i32_rem_nonneg (by omega)]; rfl
      have : ((p6 &&& (2147483647 : Int32)) % (2 : Int32)).toInt = 0 ∨ ((p6 &&& (2147483647 : Int32)) % (2 : Int32)).toInt = 1 := by omega
      rcases this with q | q
      · left; exact Int32.toInt_inj.mp q
      · right; exact Int32.toInt_inj.mp q
    generalize ((p6 &&& (2147483647 : Int32)) % (2 : Int32)) = at' at hz ⊢
    rcases hz with rfl | rfl
    · skip
      show Go p e below _ (T28.setTop (mkF m 97 #[.val (.int p1), .val (.int p2), .val (.int p3), .val (.int p4), .val (.int p5), .val (.int p6), .val (.int (2 : Int32)), .val (.int (0 : Int32)), .val (.ref b14), .unset, .unset, .unset] []))
      refine w_iload X28 (pc' := 99) at_97 rfl rfl ?_
      refine w_iloadN X28 (pc' := 100) at_99 rfl rfl ?_
      refine w_iloadN X28 (pc' := 101) at_100 rfl rfl ?_
      refine w_iloadN X28 (pc' := 102) at_101 rfl rfl ?_
      refine w_iloadN X28 (pc' := 103) at_102 rfl rfl ?_
      refine w_staticV X28 (pc' := 106) at_103 (rm_pick hw (h0 := h28) (sd_size X28) (0 : Int32) p1 p2 p3 p4) (hw _ (List.mem_of_getElem? (i := 55) rfl)) (hw _ (List.mem_of_getElem? (i := 56) rfl)) (hw _ (List.mem_of_getElem? (i := 19) rfl)) (hw _ (List.mem_of_getElem? (i := 57) rfl)) (by decide) [(.int (0 : Int32)), (.int p1), (.int p2), (.int p3), (.int p4)] [] pd_10 rfl rfl rfl rfl 0 (Nat.le_refl _) (by decide) (by decide) (by decide) (by decide) rfl fun T30 h30 v30 X30 q30 => ?_
      obtain ⟨rfl, rfl⟩ := q30
      rw [show (own_pick (0 : Int32) p1 p2 p3 p4) = p1 from rfl]
      show Go p e below _ (T30.setTop (mkF m 106 #[.val (.int p1), .val (.int p2), .val (.int p3), .val (.int p4), .val (.int p5), .val (.int p6), .val (.int (2 : Int32)), .val (.int (0 : Int32)), .val (.ref b14), .unset, .unset, .unset] [(.int p1)]))
      refine w_staticV X30 (pc' := 109) at_106 (rm_key hw (h0 := h28) (sd_size X30) p1) (hw _ (List.mem_of_getElem? (i := 58) rfl)) (hw _ (List.mem_of_getElem? (i := 59) rfl)) (hw _ (List.mem_of_getElem? (i := 19) rfl)) (hw _ (List.mem_of_getElem? (i := 60) rfl)) (by decide) [(.int p1)] [] pd_11 rfl rfl rfl rfl 0 (Nat.le_refl _) (by decide) (by decide) (by decide) (by decide) rfl fun T31 h31 v31 X31 q31 => ?_
      obtain ⟨rfl, rfl⟩ := q31
      refine w_istore X31 (pc' := 111) (l' := #[.val (.int p1), .val (.int p2), .val (.int p3), .val (.int p4), .val (.int p5), .val (.int p6), .val (.int (2 : Int32)), .val (.int (0 : Int32)), .val (.ref b14), .val (.int (own_k p1)), .unset, .unset]) at_109 rfl rfl ?_
      refine w_iload X31 (pc' := 113) at_111 rfl rfl ?_
      refine w_if_le X31 125 116 at_113 (by decide) rfl rfl (fun hc113 => ?_) (fun hc113 => by exfalso; revert hc113; decide)
      refine w_iload X31 (pc' := 127) at_125 rfl rfl ?_
      refine w_iconst X31 (pc' := 128) (1 : Int32) at_127 rfl rfl ?_
      refine w_icmp_le X31 140 131 at_128 (by decide) rfl rfl (fun hc128 => ?_) (fun hc128 => by exfalso; revert hc128; decide)
      refine w_iload X31 (pc' := 142) at_140 rfl rfl ?_
      refine w_iconst X31 (pc' := 143) (2 : Int32) at_142 rfl rfl ?_
      refine w_icmp_le X31 159 146 at_143 (by decide) rfl rfl (fun hc143 => ?_) (fun hc143 => by exfalso; revert hc143; decide)
      refine w_iconst X31 (pc' := 160) (0 : Int32) at_159 rfl rfl ?_
      refine w_istore X31 (pc' := 162) (l' := #[.val (.int p1), .val (.int p2), .val (.int p3), .val (.int p4), .val (.int p5), .val (.int p6), .val (.int (2 : Int32)), .val (.int (0 : Int32)), .val (.ref b14), .val (.int (own_k p1)), .val (.int (0 : Int32)), .unset]) at_160 rfl rfl ?_
      refine w_iload X31 (pc' := 164) at_162 rfl rfl ?_
      refine w_if_ne X31 171 167 at_164 (by decide) rfl rfl (fun hc164 => by exfalso; revert hc164; decide) (fun hc164 => ?_)
      refine w_iconst X31 (pc' := 168) (1 : Int32) at_167 rfl rfl ?_
      refine w_goto X31 (pc' := 172) at_168 (by decide) rfl ?_
      refine w_istore X31 (pc' := 174) (l' := #[.val (.int p1), .val (.int p2), .val (.int p3), .val (.int p4), .val (.int p5), .val (.int p6), .val (.int (2 : Int32)), .val (.int (0 : Int32)), .val (.ref b14), .val (.int (own_k p1)), .val (.int (0 : Int32)), .val (.int (1 : Int32))]) at_172 rfl rfl ?_
      refine w_aload X31 (pc' := 176) at_174 rfl rfl rfl ?_
      refine w_iload X31 (pc' := 178) at_176 rfl rfl ?_
      refine w_virtualV X31 (pc' := 181) at_178 (rm_first hw (h0 := h28) (sd_size X31) b14 0 B28 (show 0 < 2 by decide) (show 2 < 16 by decide) (Sta.ext (sd_ext X31 hs0 Zn) S_c) hzc) (hw _ (List.mem_of_getElem? (i := 61) rfl)) (hw _ (List.mem_of_getElem? (i := 62) rfl)) (hw _ (List.mem_of_getElem? (i := 64) rfl)) (hw _ (List.mem_of_getElem? (i := 63) rfl)) (hw _ (List.mem_of_getElem? (i := 3) rfl)) (hw _ (List.mem_of_getElem? (i := 65) rfl)) B28.exa (by decide) [(.int (0 : Int32))] [] pd_12 rfl rfl rfl rfl 0 (Nat.le_refl _) (by decide) (by decide) (by decide) (by decide) rfl fun T32 h32 v32 X32 q32 => ?_
      obtain ⟨rfl, rfl⟩ := q32
      refine w_iload X32 (pc' := 183) at_181 rfl rfl ?_
      refine w_icmp_ne X32 190 186 at_183 (by decide) rfl rfl (fun hc183 => by exfalso; exact hc183 (own_f1 (fun j hj => absurd hj (Nat.not_lt_zero j)))) (fun hc183 => ?_)
      refine w_iconst X32 (pc' := 187) (1 : Int32) at_186 rfl rfl ?_
      refine w_goto X32 (pc' := 191) at_187 (by decide) rfl ?_
      exact w_zreturnW X32 F24_29 (own_hEL hw) at_191 rfl (by decide) (by decide)
    · skip
      show Go p e below _ (T28.setTop (mkF m 97 #[.val (.int p1), .val (.int p2), .val (.int p3), .val (.int p4), .val (.int p5), .val (.int p6), .val (.int (2 : Int32)), .val (.int (1 : Int32)), .val (.ref b14), .unset, .unset, .unset] []))
      refine w_iload X28 (pc' := 99) at_97 rfl rfl ?_
      refine w_iloadN X28 (pc' := 100) at_99 rfl rfl ?_
      refine w_iloadN X28 (pc' := 101) at_100 rfl rfl ?_
      refine w_iloadN X28 (pc' := 102) at_101 rfl rfl ?_
      refine w_iloadN X28 (pc' := 103) at_102 rfl rfl ?_
      refine w_staticV X28 (pc' := 106) at_103 (rm_pick hw (h0 := h28) (sd_size X28) (1 : Int32) p1 p2 p3 p4) (hw _ (List.mem_of_getElem? (i := 55) rfl)) (hw _ (List.mem_of_getElem? (i := 56) rfl)) (hw _ (List.mem_of_getElem? (i := 19) rfl)) (hw _ (List.mem_of_getElem? (i := 57) rfl)) (by decide) [(.int (1 : Int32)), (.int p1), (.int p2), (.int p3), (.int p4)] [] pd_10 rfl rfl rfl rfl 0 (Nat.le_refl _) (by decide) (by decide) (by decide) (by decide) rfl fun T33 h33 v33 X33 q33 => ?_
      obtain ⟨rfl, rfl⟩ := q33
      rw [show (own_pick (1 : Int32) p1 p2 p3 p4) = p2 from rfl]
      show Go p e below _ (T33.setTop (mkF m 106 #[.val (.int p1), .val (.int p2), .val (.int p3), .val (.int p4), .val (.int p5), .val (.int p6), .val (.int (2 : Int32)), .val (.int (1 : Int32)), .val (.ref b14), .unset, .unset, .unset] [(.int p2)]))
      refine w_staticV X33 (pc' := 109) at_106 (rm_key hw (h0 := h28) (sd_size X33) p2) (hw _ (List.mem_of_getElem? (i := 58) rfl)) (hw _ (List.mem_of_getElem? (i := 59) rfl)) (hw _ (List.mem_of_getElem? (i := 19) rfl)) (hw _ (List.mem_of_getElem? (i := 60) rfl)) (by decide) [(.int p2)] [] pd_11 rfl rfl rfl rfl 0 (Nat.le_refl _) (by decide) (by decide) (by decide) (by decide) rfl fun T34 h34 v34 X34 q34 => ?_
      obtain ⟨rfl, rfl⟩ := q34
      refine w_istore X34 (pc' := 111) (l' := #[.val (.int p1), .val (.int p2), .val (.int p3), .val (.int p4), .val (.int p5), .val (.int p6), .val (.int (2 : Int32)), .val (.int (1 : Int32)), .val (.ref b14), .val (.int (own_k p2)), .unset, .unset]) at_109 rfl rfl ?_
      refine w_iload X34 (pc' := 113) at_111 rfl rfl ?_
      refine w_if_le X34 125 116 at_113 (by decide) rfl rfl (fun hc113 => by exfalso; revert hc113; decide) (fun hc113 => ?_)
      refine w_iloadN X34 (pc' := 117) at_116 rfl rfl ?_
      refine w_staticV X34 (pc' := 120) at_117 (rm_key hw (h0 := h28) (sd_size X34) p1) (hw _ (List.mem_of_getElem? (i := 58) rfl)) (hw _ (List.mem_of_getElem? (i := 59) rfl)) (hw _ (List.mem_of_getElem? (i := 19) rfl)) (hw _ (List.mem_of_getElem? (i := 60) rfl)) (by decide) [(.int p1)] [] pd_11 rfl rfl rfl rfl 0 (Nat.le_refl _) (by decide) (by decide) (by decide) (by decide) rfl fun T35 h35 v35 X35 q35 => ?_
      obtain ⟨rfl, rfl⟩ := q35
      refine w_iload X35 (pc' := 122) at_120 rfl rfl ?_
      refine w_icmp_eq X35 155 125 at_122 (by decide) rfl rfl (fun hc122 => ?_) (fun hc122 => ?_)
      · skip
        refine w_iconst X35 (pc' := 156) (1 : Int32) at_155 rfl rfl ?_
        refine w_goto X35 (pc' := 160) at_156 (by decide) rfl ?_
        refine w_istore X35 (pc' := 162) (l' := #[.val (.int p1), .val (.int p2), .val (.int p3), .val (.int p4), .val (.int p5), .val (.int p6), .val (.int (2 : Int32)), .val (.int (1 : Int32)), .val (.ref b14), .val (.int (own_k p2)), .val (.int (1 : Int32)), .unset]) at_160 rfl rfl ?_
        refine w_iload X35 (pc' := 164) at_162 rfl rfl ?_
        refine w_if_ne X35 171 167 at_164 (by decide) rfl rfl (fun hc164 => ?_) (fun hc164 => by exfalso; revert hc164; decide)
        refine w_iconst X35 (pc' := 172) (0 : Int32) at_171 rfl rfl ?_
        refine w_istore X35 (pc' := 174) (l' := #[.val (.int p1), .val (.int p2), .val (.int p3), .val (.int p4), .val (.int p5), .val (.int p6), .val (.int (2 : Int32)), .val (.int (1 : Int32)), .val (.ref b14), .val (.int (own_k p2)), .val (.int (1 : Int32)), .val (.int (0 : Int32))]) at_172 rfl rfl ?_
        refine w_aload X35 (pc' := 176) at_174 rfl rfl rfl ?_
        refine w_iload X35 (pc' := 178) at_176 rfl rfl ?_
        refine w_virtualV X35 (pc' := 181) at_178 (rm_first hw (h0 := h28) (sd_size X35) b14 1 B28 (show 1 < 2 by decide) (show 2 < 16 by decide) (Sta.ext (sd_ext X35 hs0 Zn) S_c) hzc) (hw _ (List.mem_of_getElem? (i := 61) rfl)) (hw _ (List.mem_of_getElem? (i := 62) rfl)) (hw _ (List.mem_of_getElem? (i := 64) rfl)) (hw _ (List.mem_of_getElem? (i := 63) rfl)) (hw _ (List.mem_of_getElem? (i := 3) rfl)) (hw _ (List.mem_of_getElem? (i := 65) rfl)) B28.exa (by decide) [(.int (1 : Int32))] [] pd_12 rfl rfl rfl rfl 0 (Nat.le_refl _) (by decide) (by decide) (by decide) (by decide) rfl fun T36 h36 v36 X36 q36 => ?_
        obtain ⟨rfl, rfl⟩ := q36
        refine w_iload X36 (pc' := 183) at_181 rfl rfl ?_
        refine w_icmp_ne X36 190 186 at_183 (by decide) rfl rfl (fun hc183 => by exfalso; exact hc183 (own_f0 0 (by decide) ((own_kk _ _).mpr hc122))) (fun hc183 => ?_)
        refine w_iconst X36 (pc' := 187) (1 : Int32) at_186 rfl rfl ?_
        refine w_goto X36 (pc' := 191) at_187 (by decide) rfl ?_
        exact w_zreturnW X36 F24_29 (own_hEL hw) at_191 rfl (by decide) (by decide)
      · skip
        refine w_iload X35 (pc' := 127) at_125 rfl rfl ?_
        refine w_iconst X35 (pc' := 128) (1 : Int32) at_127 rfl rfl ?_
        refine w_icmp_le X35 140 131 at_128 (by decide) rfl rfl (fun hc128 => ?_) (fun hc128 => by exfalso; revert hc128; decide)
        refine w_iload X35 (pc' := 142) at_140 rfl rfl ?_
        refine w_iconst X35 (pc' := 143) (2 : Int32) at_142 rfl rfl ?_
        refine w_icmp_le X35 159 146 at_143 (by decide) rfl rfl (fun hc143 => ?_) (fun hc143 => by exfalso; revert hc143; decide)
        refine w_iconst X35 (pc' := 160) (0 : Int32) at_159 rfl rfl ?_
        refine w_istore X35 (pc' := 162) (l' := #[.val (.int p1), .val (.int p2), .val (.int p3), .val (.int p4), .val (.int p5), .val (.int p6), .val (.int (2 : Int32)), .val (.int (1 : Int32)), .val (.ref b14), .val (.int (own_k p2)), .val (.int (0 : Int32)), .unset]) at_160 rfl rfl ?_
        refine w_iload X35 (pc' := 164) at_162 rfl rfl ?_
        refine w_if_ne X35 171 167 at_164 (by decide) rfl rfl (fun hc164 => by exfalso; revert hc164; decide) (fun hc164 => ?_)
        refine w_iconst X35 (pc' := 168) (1 : Int32) at_167 rfl rfl ?_
        refine w_goto X35 (pc' := 172) at_168 (by decide) rfl ?_
        refine w_istore X35 (pc' := 174) (l' := #[.val (.int p1), .val (.int p2), .val (.int p3), .val (.int p4), .val (.int p5), .val (.int p6), .val (.int (2 : Int32)), .val (.int (1 : Int32)), .val (.ref b14), .val (.int (own_k p2)), .val (.int (0 : Int32)), .val (.int (1 : Int32))]) at_172 rfl rfl ?_
        refine w_aload X35 (pc' := 176) at_174 rfl rfl rfl ?_
        refine w_iload X35 (pc' := 178) at_176 rfl rfl ?_
        refine w_virtualV X35 (pc' := 181) at_178 (rm_first hw (h0 := h28) (sd_size X35) b14 1 B28 (show 1 < 2 by decide) (show 2 < 16 by decide) (Sta.ext (sd_ext X35 hs0 Zn) S_c) hzc) (hw _ (List.mem_of_getElem? (i := 61) rfl)) (hw _ (List.mem_of_getElem? (i := 62) rfl)) (hw _ (List.mem_of_getElem? (i := 64) rfl)) (hw _ (List.mem_of_getElem? (i := 63) rfl)) (hw _ (List.mem_of_getElem? (i := 3) rfl)) (hw _ (List.mem_of_getElem? (i := 65) rfl)) B28.exa (by decide) [(.int (1 : Int32))] [] pd_12 rfl rfl rfl rfl 0 (Nat.le_refl _) (by decide) (by decide) (by decide) (by decide) rfl fun T37 h37 v37 X37 q37 => ?_
        obtain ⟨rfl, rfl⟩ := q37
        refine w_iload X37 (pc' := 183) at_181 rfl rfl ?_
        refine w_icmp_ne X37 190 186 at_183 (by decide) rfl rfl (fun hc183 => by exfalso; exact hc183 (own_f1 (fun j hj => by
          have : j = 0 := by omega
          rcases this with rfl
          · exact fun z => hc122 ((own_kk _ _).mp z)))) (fun hc183 => ?_)
        refine w_iconst X37 (pc' := 187) (1 : Int32) at_186 rfl rfl ?_
        refine w_goto X37 (pc' := 191) at_187 (by decide) rfl ?_
        exact w_zreturnW X37 F24_29 (own_hEL hw) at_191 rfl (by decide) (by decide)
  · skip
    show Go p e below _ (s₁.setTop (mkF m 8 #[.val (.int p1), .val (.int p2), .val (.int p3), .val (.int p4), .val (.int p5), .val (.int p6), .val (.int (3 : Int32)), .unset, .unset, .unset, .unset, .unset] []))
    refine w_iload X0 (pc' := 10) at_8 rfl rfl ?_
    refine w_ldc X0 (pc' := 12) at_10 (hw _ (List.mem_of_getElem? (i := 0) rfl)) rfl ?_
    refine w_iand X0 (pc' := 13) at_12 rfl ?_
    refine w_iload X0 (pc' := 15) at_13 rfl rfl ?_
    refine w_irem X0 (pc' := 16) at_15 (by decide) rfl ?_
    refine w_istore X0 (pc' := 18) (l' := #[.val (.int p1), .val (.int p2), .val (.int p3), .val (.int p4), .val (.int p5), .val (.int p6), .val (.int (3 : Int32)), .val (.int ((p6 &&& (2147483647 : Int32)) % (3 : Int32))), .unset, .unset, .unset, .unset]) at_16 rfl rfl ?_
    refine w_new X0 (pc' := 21) at_18 (hw _ (List.mem_of_getElem? (i := 1) rfl)) (hw _ (List.mem_of_getElem? (i := 2) rfl)) (hw _ (List.mem_of_getElem? (i := 3) rfl)) (by decide) (by decide) rfl fun T38 h38 b38 g38 gn38 X38 E38 A38 D38 => ?_
    have F0_39 := F0.ext E38
    have Fpairs_38 : Fld Z h38 b38 "com/example/raja/raja/xml/CanonicalWriter$Bindings" "pairs" "[Ljava/lang/String;" .null := D38 (Or.inl (hw _ (List.mem_of_getElem? (i := 13) rfl))) (ty := (.array (.object "java/lang/String"))) (by decide)
    have Fmarks_38 : Fld Z h38 b38 "com/example/raja/raja/xml/CanonicalWriter$Bindings" "marks" "[I" .null := D38 (Or.inl (hw _ (List.mem_of_getElem? (i := 16) rfl))) (ty := (.array .int)) (by decide)
    have Fsize_38 : Fld Z h38 b38 "com/example/raja/raja/xml/CanonicalWriter$Bindings" "size" "I" (.int (0 : Int32)) := D38 (Or.inl (hw _ (List.mem_of_getElem? (i := 54) rfl))) (ty := .int) (by decide)
    refine w_dup X38 (pc' := 22) at_21 rfl rfl ?_
    refine w_specialN X38 (pc' := 25) at_22 (rm_init hw (h0 := h38) (sd_size X38) b38 A38 Fpairs_38 Fmarks_38 Fsize_38 gn38) (hw _ (List.mem_of_getElem? (i := 4) rfl)) (hw _ (List.mem_of_getElem? (i := 5) rfl)) (hw _ (List.mem_of_getElem? (i := 3) rfl)) (hw _ (List.mem_of_getElem? (i := 6) rfl)) rfl (by decide) [] [(.ref b38)] pd_1 rfl rfl rfl rfl 1 (Nat.le_refl _) (by decide) (by decide) (by decide) (by decide) rfl fun T40 h40 X40 q40 => ?_
    obtain ⟨K40, B40⟩ := q40
    have F0_41 := F0_39.kp X40 K40 (ap1 (Apart.obj A38 (hw _ (List.mem_of_getElem? (i := 2) rfl)) (by decide) (by decide)))
    have A38_41 := A38.keep K40
    refine w_astore X40 (pc' := 27) (l' := #[.val (.int p1), .val (.int p2), .val (.int p3), .val (.int p4), .val (.int p5), .val (.int p6), .val (.int (3 : Int32)), .val (.int ((p6 &&& (2147483647 : Int32)) % (3 : Int32))), .val (.ref b38), .unset, .unset, .unset]) at_25 rfl rfl rfl ?_
    refine w_aload X40 (pc' := 29) at_27 rfl rfl rfl ?_
    refine w_iloadN X40 (pc' := 30) at_29 rfl rfl ?_
    refine w_staticVW X40 F0_41 (pc' := 33) at_30 (rm_prefix hw (h0 := h40) (sd_size X40) p1 (Sta.ext (sd_ext X40 hs0 Zn) S_c) hzc) (hw _ (List.mem_of_getElem? (i := 17) rfl)) (hw _ (List.mem_of_getElem? (i := 18) rfl)) (hw _ (List.mem_of_getElem? (i := 19) rfl)) (hw _ (List.mem_of_getElem? (i := 20) rfl)) (own_hEL hw) (by decide) [(.int p1)] [(.ref b38)] pd_3 rfl rfl rfl rfl 1 (Nat.le_refl _) (by decide) (by decide) (by decide) (by decide) rfl fun T42 h42 vm42 v42 X42 F42 q42 => ?_
    obtain ⟨b42, rfl, E42, S42⟩ := q42
    have B40_43 := B40.ext E42
    refine w_iloadN X42 (pc' := 34) at_33 rfl rfl ?_
    refine w_staticV X42 (pc' := 37) at_34 (rm_value hw (h0 := h42) (sd_size X42) p1 (Sta.ext (sd_ext X42 hs0 Zn) S_c) hzc) (hw _ (List.mem_of_getElem? (i := 45) rfl)) (hw _ (List.mem_of_getElem? (i := 46) rfl)) (hw _ (List.mem_of_getElem? (i := 19) rfl)) (hw _ (List.mem_of_getElem? (i := 47) rfl)) (by decide) [(.int p1)] [(.ref b42), (.ref b38)] pd_8 rfl rfl rfl rfl 2 (Nat.le_refl _) (by decide) (by decide) (by decide) (by decide) rfl fun T44 h44 v44 X44 q44 => ?_
    obtain ⟨b44, bs44, rfl, E44, S44⟩ := q44
    have S42_45 := S42.ext E44
    have B40_45 := B40_43.ext E44
    have F42_45 := F42.ext E44
    refine w_virtualN X44 (pc' := 40) at_37 (rm_push hw (h0 := h44) (sd_size X44) b38 b42 b44 B40_45 (show 0 < 8 by decide) S42_45 S44) (hw _ (List.mem_of_getElem? (i := 48) rfl)) (hw _ (List.mem_of_getElem? (i := 49) rfl)) (hw _ (List.mem_of_getElem? (i := 51) rfl)) (hw _ (List.mem_of_getElem? (i := 50) rfl)) (hw _ (List.mem_of_getElem? (i := 3) rfl)) (hw _ (List.mem_of_getElem? (i := 52) rfl)) B40_45.exa (by decide) [(.ref b42), (.ref b44)] [] pd_9 rfl rfl rfl rfl 0 (Nat.le_refl _) (by decide) (by decide) (by decide) (by decide) rfl fun T46 h46 X46 q46 => ?_
    obtain ⟨⟨ws46, K46, P46⟩, B46⟩ := q46
    have F42_47 := F42_45.kp X46 K46 P46
    replace B46 : BD Z n0 h46 b38 [(own_key p1)] := B46
    refine w_iload X46 (pc' := 42) at_40 rfl rfl ?_
    refine w_iconst X46 (pc' := 43) (2 : Int32) at_42 rfl rfl ?_
    refine w_icmp_lt X46 59 46 at_43 (by decide) rfl rfl (fun hc43 => by exfalso; revert hc43; decide) (fun hc43 => ?_)
    refine w_aload X46 (pc' := 48) at_46 rfl rfl rfl ?_
    refine w_iloadN X46 (pc' := 49) at_48 rfl rfl ?_
    refine w_staticVW X46 F42_47 (pc' := 52) at_49 (rm_prefix hw (h0 := h46) (sd_size X46) p2 (Sta.ext (sd_ext X46 hs0 Zn) S_c) hzc) (hw _ (List.mem_of_getElem? (i := 17) rfl)) (hw _ (List.mem_of_getElem? (i := 18) rfl)) (hw _ (List.mem_of_getElem? (i := 19) rfl)) (hw _ (List.mem_of_getElem? (i := 20) rfl)) (own_hEL hw) (by decide) [(.int p2)] [(.ref b38)] pd_3 rfl rfl rfl rfl 1 (Nat.le_refl _) (by decide) (by decide) (by decide) (by decide) rfl fun T48 h48 vm48 v48 X48 F48 q48 => ?_
    obtain ⟨b48, rfl, E48, S48⟩ := q48
    have B46_49 := B46.ext E48
    refine w_iloadN X48 (pc' := 53) at_52 rfl rfl ?_
    refine w_staticV X48 (pc' := 56) at_53 (rm_value hw (h0 := h48) (sd_size X48) p2 (Sta.ext (sd_ext X48 hs0 Zn) S_c) hzc) (hw _ (List.mem_of_getElem? (i := 45) rfl)) (hw _ (List.mem_of_getElem? (i := 46) rfl)) (hw _ (List.mem_of_getElem? (i := 19) rfl)) (hw _ (List.mem_of_getElem? (i := 47) rfl)) (by decide) [(.int p2)] [(.ref b48), (.ref b38)] pd_8 rfl rfl rfl rfl 2 (Nat.le_refl _) (by decide) (by decide) (by decide) (by decide) rfl fun T50 h50 v50 X50 q50 => ?_
    obtain ⟨b50, bs50, rfl, E50, S50⟩ := q50
    have S48_51 := S48.ext E50
    have B46_51 := B46_49.ext E50
    have F48_51 := F48.ext E50
    refine w_virtualN X50 (pc' := 59) at_56 (rm_push hw (h0 := h50) (sd_size X50) b38 b48 b50 B46_51 (show 1 < 8 by decide) S48_51 S50) (hw _ (List.mem_of_getElem? (i := 48) rfl)) (hw _ (List.mem_of_getElem? (i := 49) rfl)) (hw _ (List.mem_of_getElem? (i := 51) rfl)) (hw _ (List.mem_of_getElem? (i := 50) rfl)) (hw _ (List.mem_of_getElem? (i := 3) rfl)) (hw _ (List.mem_of_getElem? (i := 52) rfl)) B46_51.exa (by decide) [(.ref b48), (.ref b50)] [] pd_9 rfl rfl rfl rfl 0 (Nat.le_refl _) (by decide) (by decide) (by decide) (by decide) rfl fun T52 h52 X52 q52 => ?_
    obtain ⟨⟨ws52, K52, P52⟩, B52⟩ := q52
    have F48_53 := F48_51.kp X52 K52 P52
    replace B52 : BD Z n0 h52 b38 [(own_key p1), (own_key p2)] := B52
    refine w_iload X52 (pc' := 61) at_59 rfl rfl ?_
    refine w_iconst X52 (pc' := 62) (3 : Int32) at_61 rfl rfl ?_
    refine w_icmp_lt X52 78 65 at_62 (by decide) rfl rfl (fun hc62 => by exfalso; revert hc62; decide) (fun hc62 => ?_)
    refine w_aload X52 (pc' := 67) at_65 rfl rfl rfl ?_
    refine w_iloadN X52 (pc' := 68) at_67 rfl rfl ?_
    refine w_staticVW X52 F48_53 (pc' := 71) at_68 (rm_prefix hw (h0 := h52) (sd_size X52) p3 (Sta.ext (sd_ext X52 hs0 Zn) S_c) hzc) (hw _ (List.mem_of_getElem? (i := 17) rfl)) (hw _ (List.mem_of_getElem? (i := 18) rfl)) (hw _ (List.mem_of_getElem? (i := 19) rfl)) (hw _ (List.mem_of_getElem? (i := 20) rfl)) (own_hEL hw) (by decide) [(.int p3)] [(.ref b38)] pd_3 rfl rfl rfl rfl 1 (Nat.le_refl _) (by decide) (by decide) (by decide) (by decide) rfl fun T54 h54 vm54 v54 X54 F54 q54 => ?_
    obtain ⟨b54, rfl, E54, S54⟩ := q54
    have B52_55 := B52.ext E54
    refine w_iloadN X54 (pc' := 72) at_71 rfl rfl ?_
    refine w_staticV X54 (pc' := 75) at_72 (rm_value hw (h0 := h54) (sd_size X54) p3 (Sta.ext (sd_ext X54 hs0 Zn) S_c) hzc) (hw _ (List.mem_of_getElem? (i := 45) rfl)) (hw _ (List.mem_of_getElem? (i := 46) rfl)) (hw _ (List.mem_of_getElem? (i := 19) rfl)) (hw _ (List.mem_of_getElem? (i := 47) rfl)) (by decide) [(.int p3)] [(.ref b54), (.ref b38)] pd_8 rfl rfl rfl rfl 2 (Nat.le_refl _) (by decide) (by decide) (by decide) (by decide) rfl fun T56 h56 v56 X56 q56 => ?_
    obtain ⟨b56, bs56, rfl, E56, S56⟩ := q56
    have S54_57 := S54.ext E56
    have B52_57 := B52_55.ext E56
    have F54_57 := F54.ext E56
    refine w_virtualN X56 (pc' := 78) at_75 (rm_push hw (h0 := h56) (sd_size X56) b38 b54 b56 B52_57 (show 2 < 8 by decide) S54_57 S56) (hw _ (List.mem_of_getElem? (i := 48) rfl)) (hw _ (List.mem_of_getElem? (i := 49) rfl)) (hw _ (List.mem_of_getElem? (i := 51) rfl)) (hw _ (List.mem_of_getElem? (i := 50) rfl)) (hw _ (List.mem_of_getElem? (i := 3) rfl)) (hw _ (List.mem_of_getElem? (i := 52) rfl)) B52_57.exa (by decide) [(.ref b54), (.ref b56)] [] pd_9 rfl rfl rfl rfl 0 (Nat.le_refl _) (by decide) (by decide) (by decide) (by decide) rfl fun T58 h58 X58 q58 => ?_
    obtain ⟨⟨ws58, K58, P58⟩, B58⟩ := q58
    have F54_59 := F54_57.kp X58 K58 P58
    replace B58 : BD Z n0 h58 b38 [(own_key p1), (own_key p2), (own_key p3)] := B58
    refine w_iload X58 (pc' := 80) at_78 rfl rfl ?_
    refine w_iconst X58 (pc' := 81) (4 : Int32) at_80 rfl rfl ?_
    refine w_icmp_lt X58 97 84 at_81 (by decide) rfl rfl (fun hc81 => ?_) (fun hc81 => by exfalso; revert hc81; decide)
    have hz : ((p6 &&& (2147483647 : Int32)) % (3 : Int32)) = 0 ∨ ((p6 &&& (2147483647 : Int32)) % (3 : Int32)) = 1 ∨ ((p6 &&& (2147483647 : Int32)) % (3 : Int32)) = 2 := by
      have e1 : (p6 &&& (2147483647 : Int32)).toInt = p6.toInt % 2 ^ 31 := Jvm.Kit.i32_mask p6 2147483647 (k := 31) (by decide) (by decide)
      have e2 : ((p6 &&& (2147483647 : Int32)) % (3 : Int32)).toInt = (p6 &&& (2147483647 : Int32)).toInt % 3 := by rw [Jvm.Kit.i32_rem_nonneg (by omega)]; rfl
      have : ((p6 &&& (2147483647 : Int32)) % (3 : Int32)).toInt = 0 ∨ ((p6 &&& (2147483647 : Int32)) % (3 : Int32)).toInt = 1 ∨ ((p6 &&& (2147483647 : Int32)) % (3 : Int32)).toInt = 2 := by omega
      rcases this with q | q | q
      · left; exact Int32.toInt_inj.mp q
      · right; left; exact Int32.toInt_inj.mp q
      · right; right; exact Int32.toInt_inj.mp q
    generalize ((p6 &&& (2147483647 : Int32)) % (3 : Int32)) = at' at hz ⊢
    rcases hz with rfl | rfl | rfl
    · skip
      show Go p e below _ (T58.setTop (mkF m 97 #[.val (.int p1), .val (.int p2), .val (.int p3), .val (.int p4), .val (.int p5), .val (.int p6), .val (.int (3 : Int32)), .val (.int (0 : Int32)), .val (.ref b38), .unset, .unset, .unset] []))
      refine w_iload X58 (pc' := 99) at_97 rfl rfl ?_
      refine w_iloadN X58 (pc' := 100) at_99 rfl rfl ?_
      refine w_iloadN X58 (pc' := 101) at_100 rfl rfl ?_
      refine w_iloadN X58 (pc' := 102) at_101 rfl rfl ?_
      refine w_iloadN X58 (pc' := 103) at_102 rfl rfl ?_
      refine w_staticV X58 (pc' := 106) at_103 (rm_pick hw (h0 := h58) (sd_size X58) (0 : Int32) p1 p2 p3 p4) (hw _ (List.mem_of_getElem? (i := 55) rfl)) (hw _ (List.mem_of_getElem? (i := 56) rfl)) (hw _ (List.mem_of_getElem? (i := 19) rfl)) (hw _ (List.mem_of_getElem? (i := 57) rfl)) (by decide) [(.int (0 : Int32)), (.int p1), (.int p2), (.int p3), (.int p4)] [] pd_10 rfl rfl rfl rfl 0 (Nat.le_refl _) (by decide) (by decide) (by decide) (by decide) rfl fun T60 h60 v60 X60 q60 => ?_
      obtain ⟨rfl, rfl⟩ := q60
      rw [show (own_pick (0 : Int32) p1 p2 p3 p4) = p1 from rfl]
      show Go p e below _ (T60.setTop (mkF m 106 #[.val (.int p1), .val (.int p2), .val (.int p3), .val (.int p4), .val (.int p5), .val (.int p6), .val (.int (3 : Int32)), .val (.int (0 : Int32)), .val (.ref b38), .unset, .unset, .unset] [(.int p1)]))
      refine w_staticV X60 (pc' := 109) at_106 (rm_key hw (h0 := h58) (sd_size X60) p1) (hw _ (List.mem_of_getElem? (i := 58) rfl)) (hw _ (List.mem_of_getElem? (i := 59) rfl)) (hw _ (List.mem_of_getElem? (i := 19) rfl)) (hw _ (List.mem_of_getElem? (i := 60) rfl)) (by decide) [(.int p1)] [] pd_11 rfl rfl rfl rfl 0 (Nat.le_refl _) (by decide) (by decide) (by decide) (by decide) rfl fun T61 h61 v61 X61 q61 => ?_
      obtain ⟨rfl, rfl⟩ := q61
      refine w_istore X61 (pc' := 111) (l' := #[.val (.int p1), .val (.int p2), .val (.int p3), .val (.int p4), .val (.int p5), .val (.int p6), .val (.int (3 : Int32)), .val (.int (0 : Int32)), .val (.ref b38), .val (.int (own_k p1)), .unset, .unset]) at_109 rfl rfl ?_
      refine w_iload X61 (pc' := 113) at_111 rfl rfl ?_
      refine w_if_le X61 125 116 at_113 (by decide) rfl rfl (fun hc113 => ?_) (fun hc113 => by exfalso; revert hc113; decide)
      refine w_iload X61 (pc' := 127) at_125 rfl rfl ?_
      refine w_iconst X61 (pc' := 128) (1 : Int32) at_127 rfl rfl ?_
      refine w_icmp_le X61 140 131 at_128 (by decide) rfl rfl (fun hc128 => ?_) (fun hc128 => by exfalso; revert hc128; decide)
      refine w_iload X61 (pc' := 142) at_140 rfl rfl ?_
      refine w_iconst X61 (pc' := 143) (2 : Int32) at_142 rfl rfl ?_
      refine w_icmp_le X61 159 146 at_143 (by decide) rfl rfl (fun hc143 => ?_) (fun hc143 => by exfalso; revert hc143; decide)
      refine w_iconst X61 (pc' := 160) (0 : Int32) at_159 rfl rfl ?_
      refine w_istore X61 (pc' := 162) (l' := #[.val (.int p1), .val (.int p2), .val (.int p3), .val (.int p4), .val (.int p5), .val (.int p6), .val (.int (3 : Int32)), .val (.int (0 : Int32)), .val (.ref b38), .val (.int (own_k p1)), .val (.int (0 : Int32)), .unset]) at_160 rfl rfl ?_
      refine w_iload X61 (pc' := 164) at_162 rfl rfl ?_
      refine w_if_ne X61 171 167 at_164 (by decide) rfl rfl (fun hc164 => by exfalso; revert hc164; decide) (fun hc164 => ?_)
      refine w_iconst X61 (pc' := 168) (1 : Int32) at_167 rfl rfl ?_
      refine w_goto X61 (pc' := 172) at_168 (by decide) rfl ?_
      refine w_istore X61 (pc' := 174) (l' := #[.val (.int p1), .val (.int p2), .val (.int p3), .val (.int p4), .val (.int p5), .val (.int p6), .val (.int (3 : Int32)), .val (.int (0 : Int32)), .val (.ref b38), .val (.int (own_k p1)), .val (.int (0 : Int32)), .val (.int (1 : Int32))]) at_172 rfl rfl ?_
      refine w_aload X61 (pc' := 176) at_174 rfl rfl rfl ?_
      refine w_iload X61 (pc' := 178) at_176 rfl rfl ?_
      refine w_virtualV X61 (pc' := 181) at_178 (rm_first hw (h0 := h58) (sd_size X61) b38 0 B58 (show 0 < 3 by decide) (show 3 < 16 by decide) (Sta.ext (sd_ext X61 hs0 Zn) S_c) hzc) (hw _ (List.mem_of_getElem? (i := 61) rfl)) (hw _ (List.mem_of_getElem? (i := 62) rfl)) (hw _ (List.mem_of_getElem? (i := 64) rfl)) (hw _ (List.mem_of_getElem? (i := 63) rfl)) (hw _ (List.mem_of_getElem? (i := 3) rfl)) (hw _ (List.mem_of_getElem? (i := 65) rfl)) B58.exa (by decide) [(.int (0 : Int32))] [] pd_12 rfl rfl rfl rfl 0 (Nat.le_refl _) (by decide) (by decide) (by decide) (by decide) rfl fun T62 h62 v62 X62 q62 => ?_
      obtain ⟨rfl, rfl⟩ := q62
      refine w_iload X62 (pc' := 183) at_181 rfl rfl ?_
      refine w_icmp_ne X62 190 186 at_183 (by decide) rfl rfl (fun hc183 => by exfalso; exact hc183 (own_f1 (fun j hj => absurd hj (Nat.not_lt_zero j)))) (fun hc183 => ?_)
      refine w_iconst X62 (pc' := 187) (1 : Int32) at_186 rfl rfl ?_
      refine w_goto X62 (pc' := 191) at_187 (by decide) rfl ?_
      exact w_zreturnW X62 F54_59 (own_hEL hw) at_191 rfl (by decide) (by decide)
    · skip
      show Go p e below _ (T58.setTop (mkF m 97 #[.val (.int p1), .val (.int p2), .val (.int p3), .val (.int p4), .val (.int p5), .val (.int p6), .val (.int (3 : Int32)), .val (.int (1 : Int32)), .val (.ref b38), .unset, .unset, .unset] []))
      refine w_iload X58 (pc' := 99) at_97 rfl rfl ?_
      refine w_iloadN X58 (pc' := 100) at_99 rfl rfl ?_
      refine w_iloadN X58 (pc' := 101) at_100 rfl rfl ?_
      refine w_iloadN X58 (pc' := 102) at_101 rfl rfl ?_
      refine w_iloadN X58 (pc' := 103) at_102 rfl rfl ?_
      refine w_staticV X58 (pc' := 106) at_103 (rm_pick hw (h0 := h58) (sd_size X58) (1 : Int32) p1 p2 p3 p4) (hw _ (List.mem_of_getElem? (i := 55) rfl)) (hw _ (List.mem_of_getElem? (i := 56) rfl)) (hw _ (List.mem_of_getElem? (i := 19) rfl)) (hw _ (List.mem_of_getElem? (i := 57) rfl)) (by decide) [(.int (1 : Int32)), (.int p1), (.int p2), (.int p3), (.int p4)] [] pd_10 rfl rfl rfl rfl 0 (Nat.le_refl _) (by decide) (by decide) (by decide) (by decide) rfl fun T63 h63 v63 X63 q63 => ?_
      obtain ⟨rfl, rfl⟩ := q63
      rw [show (own_pick (1 : Int32) p1 p2 p3 p4) = p2 from rfl]
      show Go p e below _ (T63.setTop (mkF m 106 #[.val (.int p1), .val (.int p2), .val (.int p3), .val (.int p4), .val (.int p5), .val (.int p6), .val (.int (3 : Int32)), .val (.int (1 : Int32)), .val (.ref b38), .unset, .unset, .unset] [(.int p2)]))
      refine w_staticV X63 (pc' := 109) at_106 (rm_key hw (h0 := h58) (sd_size X63) p2) (hw _ (List.mem_of_getElem? (i := 58) rfl)) (hw _ (List.mem_of_getElem? (i := 59) rfl)) (hw _ (List.mem_of_getElem? (i := 19) rfl)) (hw _ (List.mem_of_getElem? (i := 60) rfl)) (by decide) [(.int p2)] [] pd_11 rfl rfl rfl rfl 0 (Nat.le_refl _) (by decide) (by decide) (by decide) (by decide) rfl fun T64 h64 v64 X64 q64 => ?_
      obtain ⟨rfl, rfl⟩ := q64
      refine w_istore X64 (pc' := 111) (l' := #[.val (.int p1), .val (.int p2), .val (.int p3), .val (.int p4), .val (.int p5), .val (.int p6), .val (.int (3 : Int32)), .val (.int (1 : Int32)), .val (.ref b38), .val (.int (own_k p2)), .unset, .unset]) at_109 rfl rfl ?_
      refine w_iload X64 (pc' := 113) at_111 rfl rfl ?_
      refine w_if_le X64 125 116 at_113 (by decide) rfl rfl (fun hc113 => by exfalso; revert hc113; decide) (fun hc113 => ?_)
      refine w_iloadN X64 (pc' := 117) at_116 rfl rfl ?_
      refine w_staticV X64 (pc' := 120) at_117 (rm_key hw (h0 := h58) (sd_size X64) p1) (hw _ (List.mem_of_getElem? (i := 58) rfl)) (hw _ (List.mem_of_getElem? (i := 59) rfl)) (hw _ (List.mem_of_getElem? (i := 19) rfl)) (hw _ (List.mem_of_getElem? (i := 60) rfl)) (by decide) [(.int p1)] [] pd_11 rfl rfl rfl rfl 0 (Nat.le_refl _) (by decide) (by decide) (by decide) (by decide) rfl fun T65 h65 v65 X65 q65 => ?_
      obtain ⟨rfl, rfl⟩ := q65
      refine w_iload X65 (pc' := 122) at_120 rfl rfl ?_
      refine w_icmp_eq X65 155 125 at_122 (by decide) rfl rfl (fun hc122 => ?_) (fun hc122 => ?_)
      · skip
        refine w_iconst X65 (pc' := 156) (1 : Int32) at_155 rfl rfl ?_
        refine w_goto X65 (pc' := 160) at_156 (by decide) rfl ?_
        refine w_istore X65 (pc' := 162) (l' := #[.val (.int p1), .val (.int p2), .val (.int p3), .val (.int p4), .val (.int p5), .val (.int p6), .val (.int (3 : Int32)), .val (.int (1 : Int32)), .val (.ref b38), .val (.int (own_k p2)), .val (.int (1 : Int32)), .unset]) at_160 rfl rfl ?_
        refine w_iload X65 (pc' := 164) at_162 rfl rfl ?_
        refine w_if_ne X65 171 167 at_164 (by decide) rfl rfl (fun hc164 => ?_) (fun hc164 => by exfalso; revert hc164; decide)
        refine w_iconst X65 (pc' := 172) (0 : Int32) at_171 rfl rfl ?_
        refine w_istore X65 (pc' := 174) (l' := #[.val (.int p1), .val (.int p2), .val (.int p3), .val (.int p4), .val (.int p5), .val (.int p6), .val (.int (3 : Int32)), .val (.int (1 : Int32)), .val (.ref b38), .val (.int (own_k p2)), .val (.int (1 : Int32)), .val (.int (0 : Int32))]) at_172 rfl rfl ?_
        refine w_aload X65 (pc' := 176) at_174 rfl rfl rfl ?_
        refine w_iload X65 (pc' := 178) at_176 rfl rfl ?_
        refine w_virtualV X65 (pc' := 181) at_178 (rm_first hw (h0 := h58) (sd_size X65) b38 1 B58 (show 1 < 3 by decide) (show 3 < 16 by decide) (Sta.ext (sd_ext X65 hs0 Zn) S_c) hzc) (hw _ (List.mem_of_getElem? (i := 61) rfl)) (hw _ (List.mem_of_getElem? (i := 62) rfl)) (hw _ (List.mem_of_getElem? (i := 64) rfl)) (hw _ (List.mem_of_getElem? (i := 63) rfl)) (hw _ (List.mem_of_getElem? (i := 3) rfl)) (hw _ (List.mem_of_getElem? (i := 65) rfl)) B58.exa (by decide) [(.int (1 : Int32))] [] pd_12 rfl rfl rfl rfl 0 (Nat.le_refl _) (by decide) (by decide) (by decide) (by decide) rfl fun T66 h66 v66 X66 q66 => ?_
        obtain ⟨rfl, rfl⟩ := q66
        refine w_iload X66 (pc' := 183) at_181 rfl rfl ?_
        refine w_icmp_ne X66 190 186 at_183 (by decide) rfl rfl (fun hc183 => by exfalso; exact hc183 (own_f0 0 (by decide) ((own_kk _ _).mpr hc122))) (fun hc183 => ?_)
        refine w_iconst X66 (pc' := 187) (1 : Int32) at_186 rfl rfl ?_
        refine w_goto X66 (pc' := 191) at_187 (by decide) rfl ?_
        exact w_zreturnW X66 F54_59 (own_hEL hw) at_191 rfl (by decide) (by decide)
      · skip
        refine w_iload X65 (pc' := 127) at_125 rfl rfl ?_
        refine w_iconst X65 (pc' := 128) (1 : Int32) at_127 rfl rfl ?_
        refine w_icmp_le X65 140 131 at_128 (by decide) rfl rfl (fun hc128 => ?_) (fun hc128 => by exfalso; revert hc128; decide)
        refine w_iload X65 (pc' := 142) at_140 rfl rfl ?_
        refine w_iconst X65 (pc' := 143) (2 : Int32) at_142 rfl rfl ?_
        refine w_icmp_le X65 159 146 at_143 (by decide) rfl rfl (fun hc143 => ?_) (fun hc143 => by exfalso; revert hc143; decide)
        refine w_iconst X65 (pc' := 160) (0 : Int32) at_159 rfl rfl ?_
        refine w_istore X65 (pc' := 162) (l' := #[.val (.int p1), .val (.int p2), .val (.int p3), .val (.int p4), .val (.int p5), .val (.int p6), .val (.int (3 : Int32)), .val (.int (1 : Int32)), .val (.ref b38), .val (.int (own_k p2)), .val (.int (0 : Int32)), .unset]) at_160 rfl rfl ?_
        refine w_iload X65 (pc' := 164) at_162 rfl rfl ?_
        refine w_if_ne X65 171 167 at_164 (by decide) rfl rfl (fun hc164 => by exfalso; revert hc164; decide) (fun hc164 => ?_)
        refine w_iconst X65 (pc' := 168) (1 : Int32) at_167 rfl rfl ?_
        refine w_goto X65 (pc' := 172) at_168 (by decide) rfl ?_
        refine w_istore X65 (pc' := 174) (l' := #[.val (.int p1), .val (.int p2), .val (.int p3), .val (.int p4), .val (.int p5), .val (.int p6), .val (.int (3 : Int32)), .val (.int (1 : Int32)), .val (.ref b38), .val (.int (own_k p2)), .val (.int (0 : Int32)), .val (.int (1 : Int32))]) at_172 rfl rfl ?_
        refine w_aload X65 (pc' := 176) at_174 rfl rfl rfl ?_
        refine w_iload X65 (pc' := 178) at_176 rfl rfl ?_
        refine w_virtualV X65 (pc' := 181) at_178 (rm_first hw (h0 := h58) (sd_size X65) b38 1 B58 (show 1 < 3 by decide) (show 3 < 16 by decide) (Sta.ext (sd_ext X65 hs0 Zn) S_c) hzc) (hw _ (List.mem_of_getElem? (i := 61) rfl)) (hw _ (List.mem_of_getElem? (i := 62) rfl)) (hw _ (List.mem_of_getElem? (i := 64) rfl)) (hw _ (List.mem_of_getElem? (i := 63) rfl)) (hw _ (List.mem_of_getElem? (i := 3) rfl)) (hw _ (List.mem_of_getElem? (i := 65) rfl)) B58.exa (by decide) [(.int (1 : Int32))] [] pd_12 rfl rfl rfl rfl 0 (Nat.le_refl _) (by decide) (by decide) (by decide) (by decide) rfl fun T67 h67 v67 X67 q67 => ?_
        obtain ⟨rfl, rfl⟩ := q67
        refine w_iload X67 (pc' := 183) at_181 rfl rfl ?_
        refine w_icmp_ne X67 190 186 at_183 (by decide) rfl rfl (fun hc183 => by exfalso; exact hc183 (own_f1 (fun j hj => by
          have : j = 0 := by omega
          rcases this with rfl
          · exact fun z => hc122 ((own_kk _ _).mp z)))) (fun hc183 => ?_)
        refine w_iconst X67 (pc' := 187) (1 : Int32) at_186 rfl rfl ?_
        refine w_goto X67 (pc' := 191) at_187 (by decide) rfl ?_
        exact w_zreturnW X67 F54_59 (own_hEL hw) at_191 rfl (by decide) (by decide)
    · skip
      show Go p e below _ (T58.setTop (mkF m 97 #[.val (.int p1), .val (.int p2), .val (.int p3), .val (.int p4), .val (.int p5), .val (.int p6), .val (.int (3 : Int32)), .val (.int (2 : Int32)), .val (.ref b38), .unset, .unset, .unset] []))
      refine w_iload X58 (pc' := 99) at_97 rfl rfl ?_
      refine w_iloadN X58 (pc' := 100) at_99 rfl rfl ?_
      refine w_iloadN X58 (pc' := 101) at_100 rfl rfl ?_
      refine w_iloadN X58 (pc' := 102) at_101 rfl rfl ?_
      refine w_iloadN X58 (pc' := 103) at_102 rfl rfl ?_
      refine w_staticV X58 (pc' := 106) at_103 (rm_pick hw (h0 := h58) (sd_size X58) (2 : Int32) p1 p2 p3 p4) (hw _ (List.mem_of_getElem? (i := 55) rfl)) (hw _ (List.mem_of_getElem? (i := 56) rfl)) (hw _ (List.mem_of_getElem? (i := 19) rfl)) (hw _ (List.mem_of_getElem? (i := 57) rfl)) (by decide) [(.int (2 : Int32)), (.int p1), (.int p2), (.int p3), (.int p4)] [] pd_10 rfl rfl rfl rfl 0 (Nat.le_refl _) (by decide) (by decide) (by decide) (by decide) rfl fun T68 h68 v68 X68 q68 => ?_
      obtain ⟨rfl, rfl⟩ := q68
      rw [show (own_pick (2 : Int32) p1 p2 p3 p4) = p3 from rfl]
      show Go p e below _ (T68.setTop (mkF m 106 #[.val (.int p1), .val (.int p2), .val (.int p3), .val (.int p4), .val (.int p5), .val (.int p6), .val (.int (3 : Int32)), .val (.int (2 : Int32)), .val (.ref b38), .unset, .unset, .unset] [(.int p3)]))
      refine w_staticV X68 (pc' := 109) at_106 (rm_key hw (h0 := h58) (sd_size X68) p3) (hw _ (List.mem_of_getElem? (i := 58) rfl)) (hw _ (List.mem_of_getElem? (i := 59) rfl)) (hw _ (List.mem_of_getElem? (i := 19) rfl)) (hw _ (List.mem_of_getElem? (i := 60) rfl)) (by decide) [(.int p3)] [] pd_11 rfl rfl rfl rfl 0 (Nat.le_refl _) (by decide) (by decide) (by decide) (by decide) rfl fun T69 h69 v69 X69 q69 => ?_
      obtain ⟨rfl, rfl⟩ := q69
      refine w_istore X69 (pc' := 111) (l' := #[.val (.int p1), .val (.int p2), .val (.int p3), .val (.int p4), .val (.int p5), .val (.int p6), .val (.int (3 : Int32)), .val (.int (2 : Int32)), .val (.ref b38), .val (.int (own_k p3)), .unset, .unset]) at_109 rfl rfl ?_
      refine w_iload X69 (pc' := 113) at_111 rfl rfl ?_
      refine w_if_le X69 125 116 at_113 (by decide) rfl rfl (fun hc113 => by exfalso; revert hc113; decide) (fun hc113 => ?_)
      refine w_iloadN X69 (pc' := 117) at_116 rfl rfl ?_
      refine w_staticV X69 (pc' := 120) at_117 (rm_key hw (h0 := h58) (sd_size X69) p1) (hw _ (List.mem_of_getElem? (i := 58) rfl)) (hw _ (List.mem_of_getElem? (i := 59) rfl)) (hw _ (List.mem_of_getElem? (i := 19) rfl)) (hw _ (List.mem_of_getElem? (i := 60) rfl)) (by decide) [(.int p1)] [] pd_11 rfl rfl rfl rfl 0 (Nat.le_refl _) (by decide) (by decide) (by decide) (by decide) rfl fun T70 h70 v70 X70 q70 => ?_
      obtain ⟨rfl, rfl⟩ := q70
      refine w_iload X70 (pc' := 122) at_120 rfl rfl ?_
      refine w_icmp_eq X70 155 125 at_122 (by decide) rfl rfl (fun hc122 => ?_) (fun hc122 => ?_)
      · skip
        refine w_iconst X70 (pc' := 156) (1 : Int32) at_155 rfl rfl ?_
        refine w_goto X70 (pc' := 160) at_156 (by decide) rfl ?_
        refine w_istore X70 (pc' := 162) (l' := #[.val (.int p1), .val (.int p2), .val (.int p3), .val (.int p4), .val (.int p5), .val (.int p6), .val (.int (3 : Int32)), .val (.int (2 : Int32)), .val (.ref b38), .val (.int (own_k p3)), .val (.int (1 : Int32)), .unset]) at_160 rfl rfl ?_
        refine w_iload X70 (pc' := 164) at_162 rfl rfl ?_
        refine w_if_ne X70 171 167 at_164 (by decide) rfl rfl (fun hc164 => ?_) (fun hc164 => by exfalso; revert hc164; decide)
        refine w_iconst X70 (pc' := 172) (0 : Int32) at_171 rfl rfl ?_
        refine w_istore X70 (pc' := 174) (l' := #[.val (.int p1), .val (.int p2), .val (.int p3), .val (.int p4), .val (.int p5), .val (.int p6), .val (.int (3 : Int32)), .val (.int (2 : Int32)), .val (.ref b38), .val (.int (own_k p3)), .val (.int (1 : Int32)), .val (.int (0 : Int32))]) at_172 rfl rfl ?_
        refine w_aload X70 (pc' := 176) at_174 rfl rfl rfl ?_
        refine w_iload X70 (pc' := 178) at_176 rfl rfl ?_
        refine w_virtualV X70 (pc' := 181) at_178 (rm_first hw (h0 := h58) (sd_size X70) b38 2 B58 (show 2 < 3 by decide) (show 3 < 16 by decide) (Sta.ext (sd_ext X70 hs0 Zn) S_c) hzc) (hw _ (List.mem_of_getElem? (i := 61) rfl)) (hw _ (List.mem_of_getElem? (i := 62) rfl)) (hw _ (List.mem_of_getElem? (i := 64) rfl)) (hw _ (List.mem_of_getElem? (i := 63) rfl)) (hw _ (List.mem_of_getElem? (i := 3) rfl)) (hw _ (List.mem_of_getElem? (i := 65) rfl)) B58.exa (by decide) [(.int (2 : Int32))] [] pd_12 rfl rfl rfl rfl 0 (Nat.le_refl _) (by decide) (by decide) (by decide) (by decide) rfl fun T71 h71 v71 X71 q71 => ?_
        obtain ⟨rfl, rfl⟩ := q71
        refine w_iload X71 (pc' := 183) at_181 rfl rfl ?_
        refine w_icmp_ne X71 190 186 at_183 (by decide) rfl rfl (fun hc183 => by exfalso; exact hc183 (own_f0 0 (by decide) ((own_kk _ _).mpr hc122))) (fun hc183 => ?_)
        refine w_iconst X71 (pc' := 187) (1 : Int32) at_186 rfl rfl ?_
        refine w_goto X71 (pc' := 191) at_187 (by decide) rfl ?_
        exact w_zreturnW X71 F54_59 (own_hEL hw) at_191 rfl (by decide) (by decide)
      · skip
        refine w_iload X70 (pc' := 127) at_125 rfl rfl ?_
        refine w_iconst X70 (pc' := 128) (1 : Int32) at_127 rfl rfl ?_
        refine w_icmp_le X70 140 131 at_128 (by decide) rfl rfl (fun hc128 => by exfalso; revert hc128; decide) (fun hc128 => ?_)
        refine w_iloadN X70 (pc' := 132) at_131 rfl rfl ?_
        refine w_staticV X70 (pc' := 135) at_132 (rm_key hw (h0 := h58) (sd_size X70) p2) (hw _ (List.mem_of_getElem? (i := 58) rfl)) (hw _ (List.mem_of_getElem? (i := 59) rfl)) (hw _ (List.mem_of_getElem? (i := 19) rfl)) (hw _ (List.mem_of_getElem? (i := 60) rfl)) (by decide) [(.int p2)] [] pd_11 rfl rfl rfl rfl 0 (Nat.le_refl _) (by decide) (by decide) (by decide) (by decide) rfl fun T72 h72 v72 X72 q72 => ?_
        obtain ⟨rfl, rfl⟩ := q72
        refine w_iload X72 (pc' := 137) at_135 rfl rfl ?_
        refine w_icmp_eq X72 155 140 at_137 (by decide) rfl rfl (fun hc137 => ?_) (fun hc137 => ?_)
        · skip
          refine w_iconst X72 (pc' := 156) (1 : Int32) at_155 rfl rfl ?_
          refine w_goto X72 (pc' := 160) at_156 (by decide) rfl ?_
          refine w_istore X72 (pc' := 162) (l' := #[.val (.int p1), .val (.int p2), .val (.int p3), .val (.int p4), .val (.int p5), .val (.int p6), .val (.int (3 : Int32)), .val (.int (2 : Int32)), .val (.ref b38), .val (.int (own_k p3)), .val (.int (1 : Int32)), .unset]) at_160 rfl rfl ?_
          refine w_iload X72 (pc' := 164) at_162 rfl rfl ?_
          refine w_if_ne X72 171 167 at_164 (by decide) rfl rfl (fun hc164 => ?_) (fun hc164 => by exfalso; revert hc164; decide)
          refine w_iconst X72 (pc' := 172) (0 : Int32) at_171 rfl rfl ?_
          refine w_istore X72 (pc' := 174) (l' := #[.val (.int p1), .val (.int p2), .val (.int p3), .val (.int p4), .val (.int p5), .val (.int p6), .val (.int (3 : Int32)), .val (.int (2 : Int32)), .val (.ref b38), .val (.int (own_k p3)), .val (.int (1 : Int32)), .val (.int (0 : Int32))]) at_172 rfl rfl ?_
          refine w_aload X72 (pc' := 176) at_174 rfl rfl rfl ?_
          refine w_iload X72 (pc' := 178) at_176 rfl rfl ?_
          refine w_virtualV X72 (pc' := 181) at_178 (rm_first hw (h0 := h58) (sd_size X72) b38 2 B58 (show 2 < 3 by decide) (show 3 < 16 by decide) (Sta.ext (sd_ext X72 hs0 Zn) S_c) hzc) (hw _ (List.mem_of_getElem? (i := 61) rfl)) (hw _ (List.mem_of_getElem? (i := 62) rfl)) (hw _ (List.mem_of_getElem? (i := 64) rfl)) (hw _ (List.mem_of_getElem? (i := 63) rfl)) (hw _ (List.mem_of_getElem? (i := 3) rfl)) (hw _ (List.mem_of_getElem? (i := 65) rfl)) B58.exa (by decide) [(.int (2 : Int32))] [] pd_12 rfl rfl rfl rfl 0 (Nat.le_refl _) (by decide) (by decide) (by decide) (by decide) rfl fun T73 h73 v73 X73 q73 => ?_
          obtain ⟨rfl, rfl⟩ := q73
          refine w_iload X73 (pc' := 183) at_181 rfl rfl ?_
          refine w_icmp_ne X73 190 186 at_183 (by decide) rfl rfl (fun hc183 => by exfalso; exact hc183 (own_f0 1 (by decide) ((own_kk _ _).mpr hc137))) (fun hc183 => ?_)
          refine w_iconst X73 (pc' := 187) (1 : Int32) at_186 rfl rfl ?_
          refine w_goto X73 (pc' := 191) at_187 (by decide) rfl ?_
          exact w_zreturnW X73 F54_59 (own_hEL hw) at_191 rfl (by decide) (by decide)
        · skip
          refine w_iload X72 (pc' := 142) at_140 rfl rfl ?_
          refine w_iconst X72 (pc' := 143) (2 : Int32) at_142 rfl rfl ?_
          refine w_icmp_le X72 159 146 at_143 (by decide) rfl rfl (fun hc143 => ?_) (fun hc143 => by exfalso; revert hc143; decide)
          refine w_iconst X72 (pc' := 160) (0 : Int32) at_159 rfl rfl ?_
          refine w_istore X72 (pc' := 162) (l' := #[.val (.int p1), .val (.int p2), .val (.int p3), .val (.int p4), .val (.int p5), .val (.int p6), .val (.int (3 : Int32)), .val (.int (2 : Int32)), .val (.ref b38), .val (.int (own_k p3)), .val (.int (0 : Int32)), .unset]) at_160 rfl rfl ?_
          refine w_iload X72 (pc' := 164) at_162 rfl rfl ?_
          refine w_if_ne X72 171 167 at_164 (by decide) rfl rfl (fun hc164 => by exfalso; revert hc164; decide) (fun hc164 => ?_)
          refine w_iconst X72 (pc' := 168) (1 : Int32) at_167 rfl rfl ?_
          refine w_goto X72 (pc' := 172) at_168 (by decide) rfl ?_
          refine w_istore X72 (pc' := 174) (l' := #[.val (.int p1), .val (.int p2), .val (.int p3), .val (.int p4), .val (.int p5), .val (.int p6), .val (.int (3 : Int32)), .val (.int (2 : Int32)), .val (.ref b38), .val (.int (own_k p3)), .val (.int (0 : Int32)), .val (.int (1 : Int32))]) at_172 rfl rfl ?_
          refine w_aload X72 (pc' := 176) at_174 rfl rfl rfl ?_
          refine w_iload X72 (pc' := 178) at_176 rfl rfl ?_
          refine w_virtualV X72 (pc' := 181) at_178 (rm_first hw (h0 := h58) (sd_size X72) b38 2 B58 (show 2 < 3 by decide) (show 3 < 16 by decide) (Sta.ext (sd_ext X72 hs0 Zn) S_c) hzc) (hw _ (List.mem_of_getElem? (i := 61) rfl)) (hw _ (List.mem_of_getElem? (i := 62) rfl)) (hw _ (List.mem_of_getElem? (i := 64) rfl)) (hw _ (List.mem_of_getElem? (i := 63) rfl)) (hw _ (List.mem_of_getElem? (i := 3) rfl)) (hw _ (List.mem_of_getElem? (i := 65) rfl)) B58.exa (by decide) [(.int (2 : Int32))] [] pd_12 rfl rfl rfl rfl 0 (Nat.le_refl _) (by decide) (by decide) (by decide) (by decide) rfl fun T74 h74 v74 X74 q74 => ?_
          obtain ⟨rfl, rfl⟩ := q74
          refine w_iload X74 (pc' := 183) at_181 rfl rfl ?_
          refine w_icmp_ne X74 190 186 at_183 (by decide) rfl rfl (fun hc183 => by exfalso; exact hc183 (own_f1 (fun j hj => by
            have : j = 0 ∨ j = 1 := by omega
            rcases this with rfl | rfl
            · exact fun z => hc122 ((own_kk _ _).mp z)
            · exact fun z => hc137 ((own_kk _ _).mp z)))) (fun hc183 => ?_)
          refine w_iconst X74 (pc' := 187) (1 : Int32) at_186 rfl rfl ?_
          refine w_goto X74 (pc' := 191) at_187 (by decide) rfl ?_
          exact w_zreturnW X74 F54_59 (own_hEL hw) at_191 rfl (by decide) (by decide)
  · skip
    show Go p e below _ (s₁.setTop (mkF m 8 #[.val (.int p1), .val (.int p2), .val (.int p3), .val (.int p4), .val (.int p5), .val (.int p6), .val (.int (4 : Int32)), .unset, .unset, .unset, .unset, .unset] []))
    refine w_iload X0 (pc' := 10) at_8 rfl rfl ?_
    refine w_ldc X0 (pc' := 12) at_10 (hw _ (List.mem_of_getElem? (i := 0) rfl)) rfl ?_
    refine w_iand X0 (pc' := 13) at_12 rfl ?_
    refine w_iload X0 (pc' := 15) at_13 rfl rfl ?_
    refine w_irem X0 (pc' := 16) at_15 (by decide) rfl ?_
    refine w_istore X0 (pc' := 18) (l' := #[.val (.int p1), .val (.int p2), .val (.int p3), .val (.int p4), .val (.int p5), .val (.int p6), .val (.int (4 : Int32)), .val (.int ((p6 &&& (2147483647 : Int32)) % (4 : Int32))), .unset, .unset, .unset, .unset]) at_16 rfl rfl ?_
    refine w_new X0 (pc' := 21) at_18 (hw _ (List.mem_of_getElem? (i := 1) rfl)) (hw _ (List.mem_of_getElem? (i := 2) rfl)) (hw _ (List.mem_of_getElem? (i := 3) rfl)) (by decide) (by decide) rfl fun T75 h75 b75 g75 gn75 X75 E75 A75 D75 => ?_
    have F0_76 := F0.ext E75
    have Fpairs_75 : Fld Z h75 b75 "com/example/raja/raja/xml/CanonicalWriter$Bindings" "pairs" "[Ljava/lang/String;" .null := D75 (Or.inl (hw _ (List.mem_of_getElem? (i := 13) rfl))) (ty := (.array (.object "java/lang/String"))) (by decide)
    have Fmarks_75 : Fld Z h75 b75 "com/example/raja/raja/xml/CanonicalWriter$Bindings" "marks" "[I" .null := D75 (Or.inl (hw _ (List.mem_of_getElem? (i := 16) rfl))) (ty := (.array .int)) (by decide)
    have Fsize_75 : Fld Z h75 b75 "com/example/raja/raja/xml/CanonicalWriter$Bindings" "size" "I" (.int (0 : Int32)) := D75 (Or.inl (hw _ (List.mem_of_getElem? (i := 54) rfl))) (ty := .int) (by decide)
    refine w_dup X75 (pc' := 22) at_21 rfl rfl ?_
    refine w_specialN X75 (pc' := 25) at_22 (rm_init hw (h0 := h75) (sd_size X75) b75 A75 Fpairs_75 Fmarks_75 Fsize_75 gn75) (hw _ (List.mem_of_getElem? (i := 4) rfl)) (hw _ (List.mem_of_getElem? (i := 5) rfl)) (hw _ (List.mem_of_getElem? (i := 3) rfl)) (hw _ (List.mem_of_getElem? (i := 6) rfl)) rfl (by decide) [] [(.ref b75)] pd_1 rfl rfl rfl rfl 1 (Nat.le_refl _) (by decide) (by decide) (by decide) (by decide) rfl fun T77 h77 X77 q77 => ?_
    obtain ⟨K77, B77⟩ := q77
    have F0_78 := F0_76.kp X77 K77 (ap1 (Apart.obj A75 (hw _ (List.mem_of_getElem? (i := 2) rfl)) (by decide) (by decide)))
    have A75_78 := A75.keep K77
    refine w_astore X77 (pc' := 27) (l' := #[.val (.int p1), .val (.int p2), .val (.int p3), .val (.int p4), .val (.int p5), .val (.int p6), .val (.int (4 : Int32)), .val (.int ((p6 &&& (2147483647 : Int32)) % (4 : Int32))), .val (.ref b75), .unset, .unset, .unset]) at_25 rfl rfl rfl ?_
    refine w_aload X77 (pc' := 29) at_27 rfl rfl rfl ?_
    refine w_iloadN X77 (pc' := 30) at_29 rfl rfl ?_
    refine w_staticVW X77 F0_78 (pc' := 33) at_30 (rm_prefix hw (h0 := h77) (sd_size X77) p1 (Sta.ext (sd_ext X77 hs0 Zn) S_c) hzc) (hw _ (List.mem_of_getElem? (i := 17) rfl)) (hw _ (List.mem_of_getElem? (i := 18) rfl)) (hw _ (List.mem_of_getElem? (i := 19) rfl)) (hw _ (List.mem_of_getElem? (i := 20) rfl)) (own_hEL hw) (by decide) [(.int p1)] [(.ref b75)] pd_3 rfl rfl rfl rfl 1 (Nat.le_refl _) (by decide) (by decide) (by decide) (by decide) rfl fun T79 h79 vm79 v79 X79 F79 q79 => ?_
    obtain ⟨b79, rfl, E79, S79⟩ := q79
    have B77_80 := B77.ext E79
    refine w_iloadN X79 (pc' := 34) at_33 rfl rfl ?_
    refine w_staticV X79 (pc' := 37) at_34 (rm_value hw (h0 := h79) (sd_size X79) p1 (Sta.ext (sd_ext X79 hs0 Zn) S_c) hzc) (hw _ (List.mem_of_getElem? (i := 45) rfl)) (hw _ (List.mem_of_getElem? (i := 46) rfl)) (hw _ (List.mem_of_getElem? (i := 19) rfl)) (hw _ (List.mem_of_getElem? (i := 47) rfl)) (by decide) [(.int p1)] [(.ref b79), (.ref b75)] pd_8 rfl rfl rfl rfl 2 (Nat.le_refl _) (by decide) (by decide) (by decide) (by decide) rfl fun T81 h81 v81 X81 q81 => ?_
    obtain ⟨b81, bs81, rfl, E81, S81⟩ := q81
    have S79_82 := S79.ext E81
    have B77_82 := B77_80.ext E81
    have F79_82 := F79.ext E81
    refine w_virtualN X81 (pc' := 40) at_37 (rm_push hw (h0 := h81) (sd_size X81) b75 b79 b81 B77_82 (show 0 < 8 by decide) S79_82 S81) (hw _ (List.mem_of_getElem? (i := 48) rfl)) (hw _ (List.mem_of_getElem? (i := 49) rfl)) (hw _ (List.mem_of_getElem? (i := 51) rfl)) (hw _ (List.mem_of_getElem? (i := 50) rfl)) (hw _ (List.mem_of_getElem? (i := 3) rfl)) (hw _ (List.mem_of_getElem? (i := 52) rfl)) B77_82.exa (by decide) [(.ref b79), (.ref b81)] [] pd_9 rfl rfl rfl rfl 0 (Nat.le_refl _) (by decide) (by decide) (by decide) (by decide) rfl fun T83 h83 X83 q83 => ?_
    obtain ⟨⟨ws83, K83, P83⟩, B83⟩ := q83
    have F79_84 := F79_82.kp X83 K83 P83
    replace B83 : BD Z n0 h83 b75 [(own_key p1)] := B83
    refine w_iload X83 (pc' := 42) at_40 rfl rfl ?_
    refine w_iconst X83 (pc' := 43) (2 : Int32) at_42 rfl rfl ?_
    refine w_icmp_lt X83 59 46 at_43 (by decide) rfl rfl (fun hc43 => by exfalso; revert hc43; decide) (fun hc43 => ?_)
    refine w_aload X83 (pc' := 48) at_46 rfl rfl rfl ?_
    refine w_iloadN X83 (pc' := 49) at_48 rfl rfl ?_
    refine w_staticVW X83 F79_84 (pc' := 52) at_49 (rm_prefix hw (h0 := h83) (sd_size X83) p2 (Sta.ext (sd_ext X83 hs0 Zn) S_c) hzc) (hw _ (List.mem_of_getElem? (i := 17) rfl)) (hw _ (List.mem_of_getElem? (i := 18) rfl)) (hw _ (List.mem_of_getElem? (i := 19) rfl)) (hw _ (List.mem_of_getElem? (i := 20) rfl)) (own_hEL hw) (by decide) [(.int p2)] [(.ref b75)] pd_3 rfl rfl rfl rfl 1 (Nat.le_refl _) (by decide) (by decide) (by decide) (by decide) rfl fun T85 h85 vm85 v85 X85 F85 q85 => ?_
    obtain ⟨b85, rfl, E85, S85⟩ := q85
    have B83_86 := B83.ext E85
    refine w_iloadN X85 (pc' := 53) at_52 rfl rfl ?_
    refine w_staticV X85 (pc' := 56) at_53 (rm_value hw (h0 := h85) (sd_size X85) p2 (Sta.ext (sd_ext X85 hs0 Zn) S_c) hzc) (hw _ (List.mem_of_getElem? (i := 45) rfl)) (hw _ (List.mem_of_getElem? (i := 46) rfl)) (hw _ (List.mem_of_getElem? (i := 19) rfl)) (hw _ (List.mem_of_getElem? (i := 47) rfl)) (by decide) [(.int p2)] [(.ref b85), (.ref b75)] pd_8 rfl rfl rfl rfl 2 (Nat.le_refl _) (by decide) (by decide) (by decide) (by decide) rfl fun T87 h87 v87 X87 q87 => ?_
    obtain ⟨b87, bs87, rfl, E87, S87⟩ := q87
    have S85_88 := S85.ext E87
    have B83_88 := B83_86.ext E87
    have F85_88 := F85.ext E87
    refine w_virtualN X87 (pc' := 59) at_56 (rm_push hw (h0 := h87) (sd_size X87) b75 b85 b87 B83_88 (show 1 < 8 by decide) S85_88 S87) (hw _ (List.mem_of_getElem? (i := 48) rfl)) (hw _ (List.mem_of_getElem? (i := 49) rfl)) (hw _ (List.mem_of_getElem? (i := 51) rfl)) (hw _ (List.mem_of_getElem? (i := 50) rfl)) (hw _ (List.mem_of_getElem? (i := 3) rfl)) (hw _ (List.mem_of_getElem? (i := 52) rfl)) B83_88.exa (by decide) [(.ref b85), (.ref b87)] [] pd_9 rfl rfl rfl rfl 0 (Nat.le_refl _) (by decide) (by decide) (by decide) (by decide) rfl fun T89 h89 X89 q89 => ?_
    obtain ⟨⟨ws89, K89, P89⟩, B89⟩ := q89
    have F85_90 := F85_88.kp X89 K89 P89
    replace B89 : BD Z n0 h89 b75 [(own_key p1), (own_key p2)] := B89
    refine w_iload X89 (pc' := 61) at_59 rfl rfl ?_
    refine w_iconst X89 (pc' := 62) (3 : Int32) at_61 rfl rfl ?_
    refine w_icmp_lt X89 78 65 at_62 (by decide) rfl rfl (fun hc62 => by exfalso; revert hc62; decide) (fun hc62 => ?_)
    refine w_aload X89 (pc' := 67) at_65 rfl rfl rfl ?_
    refine w_iloadN X89 (pc' := 68) at_67 rfl rfl ?_
    refine w_staticVW X89 F85_90 (pc' := 71) at_68 (rm_prefix hw (h0 := h89) (sd_size X89) p3 (Sta.ext (sd_ext X89 hs0 Zn) S_c) hzc) (hw _ (List.mem_of_getElem? (i := 17) rfl)) (hw _ (List.mem_of_getElem? (i := 18) rfl)) (hw _ (List.mem_of_getElem? (i := 19) rfl)) (hw _ (List.mem_of_getElem? (i := 20) rfl)) (own_hEL hw) (by decide) [(.int p3)] [(.ref b75)] pd_3 rfl rfl rfl rfl 1 (Nat.le_refl _) (by decide) (by decide) (by decide) (by decide) rfl fun T91 h91 vm91 v91 X91 F91 q91 => ?_
    obtain ⟨b91, rfl, E91, S91⟩ := q91
    have B89_92 := B89.ext E91
    refine w_iloadN X91 (pc' := 72) at_71 rfl rfl ?_
    refine w_staticV X91 (pc' := 75) at_72 (rm_value hw (h0 := h91) (sd_size X91) p3 (Sta.ext (sd_ext X91 hs0 Zn) S_c) hzc) (hw _ (List.mem_of_getElem? (i := 45) rfl)) (hw _ (List.mem_of_getElem? (i := 46) rfl)) (hw _ (List.mem_of_getElem? (i := 19) rfl)) (hw _ (List.mem_of_getElem? (i := 47) rfl)) (by decide) [(.int p3)] [(.ref b91), (.ref b75)] pd_8 rfl rfl rfl rfl 2 (Nat.le_refl _) (by decide) (by decide) (by decide) (by decide) rfl fun T93 h93 v93 X93 q93 => ?_
    obtain ⟨b93, bs93, rfl, E93, S93⟩ := q93
    have S91_94 := S91.ext E93
    have B89_94 := B89_92.ext E93
    have F91_94 := F91.ext E93
    refine w_virtualN X93 (pc' := 78) at_75 (rm_push hw (h0 := h93) (sd_size X93) b75 b91 b93 B89_94 (show 2 < 8 by decide) S91_94 S93) (hw _ (List.mem_of_getElem? (i := 48) rfl)) (hw _ (List.mem_of_getElem? (i := 49) rfl)) (hw _ (List.mem_of_getElem? (i := 51) rfl)) (hw _ (List.mem_of_getElem? (i := 50) rfl)) (hw _ (List.mem_of_getElem? (i := 3) rfl)) (hw _ (List.mem_of_getElem? (i := 52) rfl)) B89_94.exa (by decide) [(.ref b91), (.ref b93)] [] pd_9 rfl rfl rfl rfl 0 (Nat.le_refl _) (by decide) (by decide) (by decide) (by decide) rfl fun T95 h95 X95 q95 => ?_
    obtain ⟨⟨ws95, K95, P95⟩, B95⟩ := q95
    have F91_96 := F91_94.kp X95 K95 P95
    replace B95 : BD Z n0 h95 b75 [(own_key p1), (own_key p2), (own_key p3)] := B95
    refine w_iload X95 (pc' := 80) at_78 rfl rfl ?_
    refine w_iconst X95 (pc' := 81) (4 : Int32) at_80 rfl rfl ?_
    refine w_icmp_lt X95 97 84 at_81 (by decide) rfl rfl (fun hc81 => by exfalso; revert hc81; decide) (fun hc81 => ?_)
    refine w_aload X95 (pc' := 86) at_84 rfl rfl rfl ?_
    refine w_iloadN X95 (pc' := 87) at_86 rfl rfl ?_
    refine w_staticVW X95 F91_96 (pc' := 90) at_87 (rm_prefix hw (h0 := h95) (sd_size X95) p4 (Sta.ext (sd_ext X95 hs0 Zn) S_c) hzc) (hw _ (List.mem_of_getElem? (i := 17) rfl)) (hw _ (List.mem_of_getElem? (i := 18) rfl)) (hw _ (List.mem_of_getElem? (i := 19) rfl)) (hw _ (List.mem_of_getElem? (i := 20) rfl)) (own_hEL hw) (by decide) [(.int p4)] [(.ref b75)] pd_3 rfl rfl rfl rfl 1 (Nat.le_refl _) (by decide) (by decide) (by decide) (by decide) rfl fun T97 h97 vm97 v97 X97 F97 q97 => ?_
    obtain ⟨b97, rfl, E97, S97⟩ := q97
    have B95_98 := B95.ext E97
    refine w_iloadN X97 (pc' := 91) at_90 rfl rfl ?_
    refine w_staticV X97 (pc' := 94) at_91 (rm_value hw (h0 := h97) (sd_size X97) p4 (Sta.ext (sd_ext X97 hs0 Zn) S_c) hzc) (hw _ (List.mem_of_getElem? (i := 45) rfl)) (hw _ (List.mem_of_getElem? (i := 46) rfl)) (hw _ (List.mem_of_getElem? (i := 19) rfl)) (hw _ (List.mem_of_getElem? (i := 47) rfl)) (by decide) [(.int p4)] [(.ref b97), (.ref b75)] pd_8 rfl rfl rfl rfl 2 (Nat.le_refl _) (by decide) (by decide) (by decide) (by decide) rfl fun T99 h99 v99 X99 q99 => ?_
    obtain ⟨b99, bs99, rfl, E99, S99⟩ := q99
    have S97_100 := S97.ext E99
    have B95_100 := B95_98.ext E99
    have F97_100 := F97.ext E99
    refine w_virtualN X99 (pc' := 97) at_94 (rm_push hw (h0 := h99) (sd_size X99) b75 b97 b99 B95_100 (show 3 < 8 by decide) S97_100 S99) (hw _ (List.mem_of_getElem? (i := 48) rfl)) (hw _ (List.mem_of_getElem? (i := 49) rfl)) (hw _ (List.mem_of_getElem? (i := 51) rfl)) (hw _ (List.mem_of_getElem? (i := 50) rfl)) (hw _ (List.mem_of_getElem? (i := 3) rfl)) (hw _ (List.mem_of_getElem? (i := 52) rfl)) B95_100.exa (by decide) [(.ref b97), (.ref b99)] [] pd_9 rfl rfl rfl rfl 0 (Nat.le_refl _) (by decide) (by decide) (by decide) (by decide) rfl fun T101 h101 X101 q101 => ?_
    obtain ⟨⟨ws101, K101, P101⟩, B101⟩ := q101
    have F97_102 := F97_100.kp X101 K101 P101
    replace B101 : BD Z n0 h101 b75 [(own_key p1), (own_key p2), (own_key p3), (own_key p4)] := B101
    have hz : ((p6 &&& (2147483647 : Int32)) % (4 : Int32)) = 0 ∨ ((p6 &&& (2147483647 : Int32)) % (4 : Int32)) = 1 ∨ ((p6 &&& (2147483647 : Int32)) % (4 : Int32)) = 2 ∨ ((p6 &&& (2147483647 : Int32)) % (4 : Int32)) = 3 := by
      have e1 : (p6 &&& (2147483647 : Int32)).toInt = p6.toInt % 2 ^ 31 := Jvm.Kit.i32_mask p6 2147483647 (k := 31) (by decide) (by decide)
      have e2 : ((p6 &&& (2147483647 : Int32)) % (4 : Int32)).toInt = (p6 &&& (2147483647 : Int32)).toInt % 4 := by rw [Jvm.Kit.i32_rem_nonneg (by omega)]; rfl
      have : ((p6 &&& (2147483647 : Int32)) % (4 : Int32)).toInt = 0 ∨ ((p6 &&& (2147483647 : Int32)) % (4 : Int32)).toInt = 1 ∨ ((p6 &&& (2147483647 : Int32)) % (4 : Int32)).toInt = 2 ∨ ((p6 &&& (2147483647 : Int32)) % (4 : Int32)).toInt = 3 := by omega
      rcases this with q | q | q | q
      · left; exact Int32.toInt_inj.mp q
      · right; left; exact Int32.toInt_inj.mp q
      · right; right; left; exact Int32.toInt_inj.mp q
      · right; right; right; exact Int32.toInt_inj.mp q
    generalize ((p6 &&& (2147483647 : Int32)) % (4 : Int32)) = at' at hz ⊢
    rcases hz with rfl | rfl | rfl | rfl
    · skip
      show Go p e below _ (T101.setTop (mkF m 97 #[.val (.int p1), .val (.int p2), .val (.int p3), .val (.int p4), .val (.int p5), .val (.int p6), .val (.int (4 : Int32)), .val (.int (0 : Int32)), .val (.ref b75), .unset, .unset, .unset] []))
      refine w_iload X101 (pc' := 99) at_97 rfl rfl ?_
      refine w_iloadN X101 (pc' := 100) at_99 rfl rfl ?_
      refine w_iloadN X101 (pc' := 101) at_100 rfl rfl ?_
      refine w_iloadN X101 (pc' := 102) at_101 rfl rfl ?_
      refine w_iloadN X101 (pc' := 103) at_102 rfl rfl ?_
      refine w_staticV X101 (pc' := 106) at_103 (rm_pick hw (h0 := h101) (sd_size X101) (0 : Int32) p1 p2 p3 p4) (hw _ (List.mem_of_getElem? (i := 55) rfl)) (hw _ (List.mem_of_getElem? (i := 56) rfl)) (hw _ (List.mem_of_getElem? (i := 19) rfl)) (hw _ (List.mem_of_getElem? (i := 57) rfl)) (by decide) [(.int (0 : Int32)), (.int p1), (.int p2), (.int p3), (.int p4)] [] pd_10 rfl rfl rfl rfl 0 (Nat.le_refl _) (by decide) (by decide) (by decide) (by decide) rfl fun T103 h103 v103 X103 q103 => ?_
      obtain ⟨rfl, rfl⟩ := q103
      rw [show (own_pick (0 : Int32) p1 p2 p3 p4) = p1 from rfl]
      show Go p e below _ (T103.setTop (mkF m 106 #[.val (.int p1), .val (.int p2), .val (.int p3), .val (.int p4), .val (.int p5), .val (.int p6), .val (.int (4 : Int32)), .val (.int (0 : Int32)), .val (.ref b75), .unset, .unset, .unset] [(.int p1)]))
      refine w_staticV X103 (pc' := 109) at_106 (rm_key hw (h0 := h101) (sd_size X103) p1) (hw _ (List.mem_of_getElem? (i := 58) rfl)) (hw _ (List.mem_of_getElem? (i := 59) rfl)) (hw _ (List.mem_of_getElem? (i := 19) rfl)) (hw _ (List.mem_of_getElem? (i := 60) rfl)) (by decide) [(.int p1)] [] pd_11 rfl rfl rfl rfl 0 (Nat.le_refl _) (by decide) (by decide) (by decide) (by decide) rfl fun T104 h104 v104 X104 q104 => ?_
      obtain ⟨rfl, rfl⟩ := q104
      refine w_istore X104 (pc' := 111) (l' := #[.val (.int p1), .val (.int p2), .val (.int p3), .val (.int p4), .val (.int p5), .val (.int p6), .val (.int (4 : Int32)), .val (.int (0 : Int32)), .val (.ref b75), .val (.int (own_k p1)), .unset, .unset]) at_109 rfl rfl ?_
      refine w_iload X104 (pc' := 113) at_111 rfl rfl ?_
      refine w_if_le X104 125 116 at_113 (by decide) rfl rfl (fun hc113 => ?_) (fun hc113 => by exfalso; revert hc113; decide)
      refine w_iload X104 (pc' := 127) at_125 rfl rfl ?_
      refine w_iconst X104 (pc' := 128) (1 : Int32) at_127 rfl rfl ?_
      refine w_icmp_le X104 140 131 at_128 (by decide) rfl rfl (fun hc128 => ?_) (fun hc128 => by exfalso; revert hc128; decide)
      refine w_iload X104 (pc' := 142) at_140 rfl rfl ?_
      refine w_iconst X104 (pc' := 143) (2 : Int32) at_142 rfl rfl ?_
      refine w_icmp_le X104 159 146 at_143 (by decide) rfl rfl (fun hc143 => ?_) (fun hc143 => by exfalso; revert hc143; decide)
      refine w_iconst X104 (pc' := 160) (0 : Int32) at_159 rfl rfl ?_
      refine w_istore X104 (pc' := 162) (l' := #[.val (.int p1), .val (.int p2), .val (.int p3), .val (.int p4), .val (.int p5), .val (.int p6), .val (.int (4 : Int32)), .val (.int (0 : Int32)), .val (.ref b75), .val (.int (own_k p1)), .val (.int (0 : Int32)), .unset]) at_160 rfl rfl ?_
      refine w_iload X104 (pc' := 164) at_162 rfl rfl ?_
      refine w_if_ne X104 171 167 at_164 (by decide) rfl rfl (fun hc164 => by exfalso; revert hc164; decide) (fun hc164 => ?_)
      refine w_iconst X104 (pc' := 168) (1 : Int32) at_167 rfl rfl ?_
      refine w_goto X104 (pc' := 172) at_168 (by decide) rfl ?_
      refine w_istore X104 (pc' := 174) (l' := #[.val (.int p1), .val (.int p2), .val (.int p3), .val (.int p4), .val (.int p5), .val (.int p6), .val (.int (4 : Int32)), .val (.int (0 : Int32)), .val (.ref b75), .val (.int (own_k p1)), .val (.int (0 : Int32)), .val (.int (1 : Int32))]) at_172 rfl rfl ?_
      refine w_aload X104 (pc' := 176) at_174 rfl rfl rfl ?_
      refine w_iload X104 (pc' := 178) at_176 rfl rfl ?_
      refine w_virtualV X104 (pc' := 181) at_178 (rm_first hw (h0 := h101) (sd_size X104) b75 0 B101 (show 0 < 4 by decide) (show 4 < 16 by decide) (Sta.ext (sd_ext X104 hs0 Zn) S_c) hzc) (hw _ (List.mem_of_getElem? (i := 61) rfl)) (hw _ (List.mem_of_getElem? (i := 62) rfl)) (hw _ (List.mem_of_getElem? (i := 64) rfl)) (hw _ (List.mem_of_getElem? (i := 63) rfl)) (hw _ (List.mem_of_getElem? (i := 3) rfl)) (hw _ (List.mem_of_getElem? (i := 65) rfl)) B101.exa (by decide) [(.int (0 : Int32))] [] pd_12 rfl rfl rfl rfl 0 (Nat.le_refl _) (by decide) (by decide) (by decide) (by decide) rfl fun T105 h105 v105 X105 q105 => ?_
      obtain ⟨rfl, rfl⟩ := q105
      refine w_iload X105 (pc' := 183) at_181 rfl rfl ?_
      refine w_icmp_ne X105 190 186 at_183 (by decide) rfl rfl (fun hc183 => by exfalso; exact hc183 (own_f1 (fun j hj => absurd hj (Nat.not_lt_zero j)))) (fun hc183 => ?_)
      refine w_iconst X105 (pc' := 187) (1 : Int32) at_186 rfl rfl ?_
      refine w_goto X105 (pc' := 191) at_187 (by decide) rfl ?_
      exact w_zreturnW X105 F97_102 (own_hEL hw) at_191 rfl (by decide) (by decide)
    · skip
      show Go p e below _ (T101.setTop (mkF m 97 #[.val (.int p1), .val (.int p2), .val (.int p3), .val (.int p4), .val (.int p5), .val (.int p6), .val (.int (4 : Int32)), .val (.int (1 : Int32)), .val (.ref b75), .unset, .unset, .unset] []))
      refine w_iload X101 (pc' := 99) at_97 rfl rfl ?_
      refine w_iloadN X101 (pc' := 100) at_99 rfl rfl ?_
      refine w_iloadN X101 (pc' := 101) at_100 rfl rfl ?_
      refine w_iloadN X101 (pc' := 102) at_101 rfl rfl ?_
      refine w_iloadN X101 (pc' := 103) at_102 rfl rfl ?_
      refine w_staticV X101 (pc' := 106) at_103 (rm_pick hw (h0 := h101) (sd_size X101) (1 : Int32) p1 p2 p3 p4) (hw _ (List.mem_of_getElem? (i := 55) rfl)) (hw _ (List.mem_of_getElem? (i := 56) rfl)) (hw _ (List.mem_of_getElem? (i := 19) rfl)) (hw _ (List.mem_of_getElem? (i := 57) rfl)) (by decide) [(.int (1 : Int32)), (.int p1), (.int p2), (.int p3), (.int p4)] [] pd_10 rfl rfl rfl rfl 0 (Nat.le_refl _) (by decide) (by decide) (by decide) (by decide) rfl fun T106 h106 v106 X106 q106 => ?_
      obtain ⟨rfl, rfl⟩ := q106
      rw [show (own_pick (1 : Int32) p1 p2 p3 p4) = p2 from rfl]
      show Go p e below _ (T106.setTop (mkF m 106 #[.val (.int p1), .val (.int p2), .val (.int p3), .val (.int p4), .val (.int p5), .val (.int p6), .val (.int (4 : Int32)), .val (.int (1 : Int32)), .val (.ref b75), .unset, .unset, .unset] [(.int p2)]))
      refine w_staticV X106 (pc' := 109) at_106 (rm_key hw (h0 := h101) (sd_size X106) p2) (hw _ (List.mem_of_getElem? (i := 58) rfl)) (hw _ (List.mem_of_getElem? (i := 59) rfl)) (hw _ (List.mem_of_getElem? (i := 19) rfl)) (hw _ (List.mem_of_getElem? (i := 60) rfl)) (by decide) [(.int p2)] [] pd_11 rfl rfl rfl rfl 0 (Nat.le_refl _) (by decide) (by decide) (by decide) (by decide) rfl fun T107 h107 v107 X107 q107 => ?_
      obtain ⟨rfl, rfl⟩ := q107
      refine w_istore X107 (pc' := 111) (l' := #[.val (.int p1), .val (.int p2), .val (.int p3), .val (.int p4), .val (.int p5), .val (.int p6), .val (.int (4 : Int32)), .val (.int (1 : Int32)), .val (.ref b75), .val (.int (own_k p2)), .unset, .unset]) at_109 rfl rfl ?_
      refine w_iload X107 (pc' := 113) at_111 rfl rfl ?_
      refine w_if_le X107 125 116 at_113 (by decide) rfl rfl (fun hc113 => by exfalso; revert hc113; decide) (fun hc113 => ?_)
      refine w_iloadN X107 (pc' := 117) at_116 rfl rfl ?_
      refine w_staticV X107 (pc' := 120) at_117 (rm_key hw (h0 := h101) (sd_size X107) p1) (hw _ (List.mem_of_getElem? (i := 58) rfl)) (hw _ (List.mem_of_getElem? (i := 59) rfl)) (hw _ (List.mem_of_getElem? (i := 19) rfl)) (hw _ (List.mem_of_getElem? (i := 60) rfl)) (by decide) [(.int p1)] [] pd_11 rfl rfl rfl rfl 0 (Nat.le_refl _) (by decide) (by decide) (by decide) (by decide) rfl fun T108 h108 v108 X108 q108 => ?_
      obtain ⟨rfl, rfl⟩ := q108
      refine w_iload X108 (pc' := 122) at_120 rfl rfl ?_
      refine w_icmp_eq X108 155 125 at_122 (by decide) rfl rfl (fun hc122 => ?_) (fun hc122 => ?_)
      · skip
        refine w_iconst X108 (pc' := 156) (1 : Int32) at_155 rfl rfl ?_
        refine w_goto X108 (pc' := 160) at_156 (by decide) rfl ?_
        refine w_istore X108 (pc' := 162) (l' := #[.val (.int p1), .val (.int p2), .val (.int p3), .val (.int p4), .val (.int p5), .val (.int p6), .val (.int (4 : Int32)), .val (.int (1 : Int32)), .val (.ref b75), .val (.int (own_k p2)), .val (.int (1 : Int32)), .unset]) at_160 rfl rfl ?_
        refine w_iload X108 (pc' := 164) at_162 rfl rfl ?_
        refine w_if_ne X108 171 167 at_164 (by decide) rfl rfl (fun hc164 => ?_) (fun hc164 => by exfalso; revert hc164; decide)
        refine w_iconst X108 (pc' := 172) (0 : Int32) at_171 rfl rfl ?_
        refine w_istore X108 (pc' := 174) (l' := #[.val (.int p1), .val (.int p2), .val (.int p3), .val (.int p4), .val (.int p5), .val (.int p6), .val (.int (4 : Int32)), .val (.int (1 : Int32)), .val (.ref b75), .val (.int (own_k p2)), .val (.int (1 : Int32)), .val (.int (0 : Int32))]) at_172 rfl rfl ?_
        refine w_aload X108 (pc' := 176) at_174 rfl rfl rfl ?_
        refine w_iload X108 (pc' := 178) at_176 rfl rfl ?_
        refine w_virtualV X108 (pc' := 181) at_178 (rm_first hw (h0 := h101) (sd_size X108) b75 1 B101 (show 1 < 4 by decide) (show 4 < 16 by decide) (Sta.ext (sd_ext X108 hs0 Zn) S_c) hzc) (hw _ (List.mem_of_getElem? (i := 61) rfl)) (hw _ (List.mem_of_getElem? (i := 62) rfl)) (hw _ (List.mem_of_getElem? (i := 64) rfl)) (hw _ (List.mem_of_getElem? (i := 63) rfl)) (hw _ (List.mem_of_getElem? (i := 3) rfl)) (hw _ (List.mem_of_getElem? (i := 65) rfl)) B101.exa (by decide) [(.int (1 : Int32))] [] pd_12 rfl rfl rfl rfl 0 (Nat.le_refl _) (by decide) (by decide) (by decide) (by decide) rfl fun T109 h109 v109 X109 q109 => ?_
        obtain ⟨rfl, rfl⟩ := q109
        refine w_iload X109 (pc' := 183) at_181 rfl rfl ?_
        refine w_icmp_ne X109 190 186 at_183 (by decide) rfl rfl (fun hc183 => by exfalso; exact hc183 (own_f0 0 (by decide) ((own_kk _ _).mpr hc122))) (fun hc183 => ?_)
        refine w_iconst X109 (pc' := 187) (1 : Int32) at_186 rfl rfl ?_
        refine w_goto X109 (pc' := 191) at_187 (by decide) rfl ?_
        exact w_zreturnW X109 F97_102 (own_hEL hw) at_191 rfl (by decide) (by decide)
      · skip
        refine w_iload X108 (pc' := 127) at_125 rfl rfl ?_
        refine w_iconst X108 (pc' := 128) (1 : Int32) at_127 rfl rfl ?_
        refine w_icmp_le X108 140 131 at_128 (by decide) rfl rfl (fun hc128 => ?_) (fun hc128 => by exfalso; revert hc128; decide)
        refine w_iload X108 (pc' := 142) at_140 rfl rfl ?_
        refine w_iconst X108 (pc' := 143) (2 : Int32) at_142 rfl rfl ?_
        refine w_icmp_le X108 159 146 at_143 (by decide) rfl rfl (fun hc143 => ?_) (fun hc143 => by exfalso; revert hc143; decide)
        refine w_iconst X108 (pc' := 160) (0 : Int32) at_159 rfl rfl ?_
        refine w_istore X108 (pc' := 162) (l' := #[.val (.int p1), .val (.int p2), .val (.int p3), .val (.int p4), .val (.int p5), .val (.int p6), .val (.int (4 : Int32)), .val (.int (1 : Int32)), .val (.ref b75), .val (.int (own_k p2)), .val (.int (0 : Int32)), .unset]) at_160 rfl rfl ?_
        refine w_iload X108 (pc' := 164) at_162 rfl rfl ?_
        refine w_if_ne X108 171 167 at_164 (by decide) rfl rfl (fun hc164 => by exfalso; revert hc164; decide) (fun hc164 => ?_)
        refine w_iconst X108 (pc' := 168) (1 : Int32) at_167 rfl rfl ?_
        refine w_goto X108 (pc' := 172) at_168 (by decide) rfl ?_
        refine w_istore X108 (pc' := 174) (l' := #[.val (.int p1), .val (.int p2), .val (.int p3), .val (.int p4), .val (.int p5), .val (.int p6), .val (.int (4 : Int32)), .val (.int (1 : Int32)), .val (.ref b75), .val (.int (own_k p2)), .val (.int (0 : Int32)), .val (.int (1 : Int32))]) at_172 rfl rfl ?_
        refine w_aload X108 (pc' := 176) at_174 rfl rfl rfl ?_
        refine w_iload X108 (pc' := 178) at_176 rfl rfl ?_
        refine w_virtualV X108 (pc' := 181) at_178 (rm_first hw (h0 := h101) (sd_size X108) b75 1 B101 (show 1 < 4 by decide) (show 4 < 16 by decide) (Sta.ext (sd_ext X108 hs0 Zn) S_c) hzc) (hw _ (List.mem_of_getElem? (i := 61) rfl)) (hw _ (List.mem_of_getElem? (i := 62) rfl)) (hw _ (List.mem_of_getElem? (i := 64) rfl)) (hw _ (List.mem_of_getElem? (i := 63) rfl)) (hw _ (List.mem_of_getElem? (i := 3) rfl)) (hw _ (List.mem_of_getElem? (i := 65) rfl)) B101.exa (by decide) [(.int (1 : Int32))] [] pd_12 rfl rfl rfl rfl 0 (Nat.le_refl _) (by decide) (by decide) (by decide) (by decide) rfl fun T110 h110 v110 X110 q110 => ?_
        obtain ⟨rfl, rfl⟩ := q110
        refine w_iload X110 (pc' := 183) at_181 rfl rfl ?_
        refine w_icmp_ne X110 190 186 at_183 (by decide) rfl rfl (fun hc183 => by exfalso; exact hc183 (own_f1 (fun j hj => by
          have : j = 0 := by omega
          rcases this with rfl
          · exact fun z => hc122 ((own_kk _ _).mp z)))) (fun hc183 => ?_)
        refine w_iconst X110 (pc' := 187) (1 : Int32) at_186 rfl rfl ?_
        refine w_goto X110 (pc' := 191) at_187 (by decide) rfl ?_
        exact w_zreturnW X110 F97_102 (own_hEL hw) at_191 rfl (by decide) (by decide)
    · skip
      show Go p e below _ (T101.setTop (mkF m 97 #[.val (.int p1), .val (.int p2), .val (.int p3), .val (.int p4), .val (.int p5), .val (.int p6), .val (.int (4 : Int32)), .val (.int (2 : Int32)), .val (.ref b75), .unset, .unset, .unset] []))
      refine w_iload X101 (pc' := 99) at_97 rfl rfl ?_
      refine w_iloadN X101 (pc' := 100) at_99 rfl rfl ?_
      refine w_iloadN X101 (pc' := 101) at_100 rfl rfl ?_
      refine w_iloadN X101 (pc' := 102) at_101 rfl rfl ?_
      refine w_iloadN X101 (pc' := 103) at_102 rfl rfl ?_
      refine w_staticV X101 (pc' := 106) at_103 (rm_pick hw (h0 := h101) (sd_size X101) (2 : Int32) p1 p2 p3 p4) (hw _ (List.mem_of_getElem? (i := 55) rfl)) (hw _ (List.mem_of_getElem? (i := 56) rfl)) (hw _ (List.mem_of_getElem? (i := 19) rfl)) (hw _ (List.mem_of_getElem? (i := 57) rfl)) (by decide) [(.int (2 : Int32)), (.int p1), (.int p2), (.int p3), (.int p4)] [] pd_10 rfl rfl rfl rfl 0 (Nat.le_refl _) (by decide) (by decide) (by decide) (by decide) rfl fun T111 h111 v111 X111 q111 => ?_
      obtain ⟨rfl, rfl⟩ := q111
      rw [show (own_pick (2 : Int32) p1 p2 p3 p4) = p3 from rfl]
      show Go p e below _ (T111.setTop (mkF m 106 #[.val (.int p1), .val (.int p2), .val (.int p3), .val (.int p4), .val (.int p5), .val (.int p6), .val (.int (4 : Int32)), .val (.int (2 : Int32)), .val (.ref b75), .unset, .unset, .unset] [(.int p3)]))
      refine w_staticV X111 (pc' := 109) at_106 (rm_key hw (h0 := h101) (sd_size X111) p3) (hw _ (List.mem_of_getElem? (i := 58) rfl)) (hw _ (List.mem_of_getElem? (i := 59) rfl)) (hw _ (List.mem_of_getElem? (i := 19) rfl)) (hw _ (List.mem_of_getElem? (i := 60) rfl)) (by decide) [(.int p3)] [] pd_11 rfl rfl rfl rfl 0 (Nat.le_refl _) (by decide) (by decide) (by decide) (by decide) rfl fun T112 h112 v112 X112 q112 => ?_
      obtain ⟨rfl, rfl⟩ := q112
      refine w_istore X112 (pc' := 111) (l' := #[.val (.int p1), .val (.int p2), .val (.int p3), .val (.int p4), .val (.int p5), .val (.int p6), .val (.int (4 : Int32)), .val (.int (2 : Int32)), .val (.ref b75), .val (.int (own_k p3)), .unset, .unset]) at_109 rfl rfl ?_
      refine w_iload X112 (pc' := 113) at_111 rfl rfl ?_
      refine w_if_le X112 125 116 at_113 (by decide) rfl rfl (fun hc113 => by exfalso; revert hc113; decide) (fun hc113 => ?_)
      refine w_iloadN X112 (pc' := 117) at_116 rfl rfl ?_
      refine w_staticV X112 (pc' := 120) at_117 (rm_key hw (h0 := h101) (sd_size X112) p1) (hw _ (List.mem_of_getElem? (i := 58) rfl)) (hw _ (List.mem_of_getElem? (i := 59) rfl)) (hw _ (List.mem_of_getElem? (i := 19) rfl)) (hw _ (List.mem_of_getElem? (i := 60) rfl)) (by decide) [(.int p1)] [] pd_11 rfl rfl rfl rfl 0 (Nat.le_refl _) (by decide) (by decide) (by decide) (by decide) rfl fun T113 h113 v113 X113 q113 => ?_
      obtain ⟨rfl, rfl⟩ := q113
      refine w_iload X113 (pc' := 122) at_120 rfl rfl ?_
      refine w_icmp_eq X113 155 125 at_122 (by decide) rfl rfl (fun hc122 => ?_) (fun hc122 => ?_)
      · skip
        refine w_iconst X113 (pc' := 156) (1 : Int32) at_155 rfl rfl ?_
        refine w_goto X113 (pc' := 160) at_156 (by decide) rfl ?_
        refine w_istore X113 (pc' := 162) (l' := #[.val (.int p1), .val (.int p2), .val (.int p3), .val (.int p4), .val (.int p5), .val (.int p6), .val (.int (4 : Int32)), .val (.int (2 : Int32)), .val (.ref b75), .val (.int (own_k p3)), .val (.int (1 : Int32)), .unset]) at_160 rfl rfl ?_
        refine w_iload X113 (pc' := 164) at_162 rfl rfl ?_
        refine w_if_ne X113 171 167 at_164 (by decide) rfl rfl (fun hc164 => ?_) (fun hc164 => by exfalso; revert hc164; decide)
        refine w_iconst X113 (pc' := 172) (0 : Int32) at_171 rfl rfl ?_
        refine w_istore X113 (pc' := 174) (l' := #[.val (.int p1), .val (.int p2), .val (.int p3), .val (.int p4), .val (.int p5), .val (.int p6), .val (.int (4 : Int32)), .val (.int (2 : Int32)), .val (.ref b75), .val (.int (own_k p3)), .val (.int (1 : Int32)), .val (.int (0 : Int32))]) at_172 rfl rfl ?_
        refine w_aload X113 (pc' := 176) at_174 rfl rfl rfl ?_
        refine w_iload X113 (pc' := 178) at_176 rfl rfl ?_
        refine w_virtualV X113 (pc' := 181) at_178 (rm_first hw (h0 := h101) (sd_size X113) b75 2 B101 (show 2 < 4 by decide) (show 4 < 16 by decide) (Sta.ext (sd_ext X113 hs0 Zn) S_c) hzc) (hw _ (List.mem_of_getElem? (i := 61) rfl)) (hw _ (List.mem_of_getElem? (i := 62) rfl)) (hw _ (List.mem_of_getElem? (i := 64) rfl)) (hw _ (List.mem_of_getElem? (i := 63) rfl)) (hw _ (List.mem_of_getElem? (i := 3) rfl)) (hw _ (List.mem_of_getElem? (i := 65) rfl)) B101.exa (by decide) [(.int (2 : Int32))] [] pd_12 rfl rfl rfl rfl 0 (Nat.le_refl _) (by decide) (by decide) (by decide) (by decide) rfl fun T114 h114 v114 X114 q114 => ?_
        obtain ⟨rfl, rfl⟩ := q114
        refine w_iload X114 (pc' := 183) at_181 rfl rfl ?_
        refine w_icmp_ne X114 190 186 at_183 (by decide) rfl rfl (fun hc183 => by exfalso; exact hc183 (own_f0 0 (by decide) ((own_kk _ _).mpr hc122))) (fun hc183 => ?_)
        refine w_iconst X114 (pc' := 187) (1 : Int32) at_186 rfl rfl ?_
        refine w_goto X114 (pc' := 191) at_187 (by decide) rfl ?_
        exact w_zreturnW X114 F97_102 (own_hEL hw) at_191 rfl (by decide) (by decide)
      · skip
        refine w_iload X113 (pc' := 127) at_125 rfl rfl ?_
        refine w_iconst X113 (pc' := 128) (1 : Int32) at_127 rfl rfl ?_
        refine w_icmp_le X113 140 131 at_128 (by decide) rfl rfl (fun hc128 => by exfalso; revert hc128; decide) (fun hc128 => ?_)
        refine w_iloadN X113 (pc' := 132) at_131 rfl rfl ?_
        refine w_staticV X113 (pc' := 135) at_132 (rm_key hw (h0 := h101) (sd_size X113) p2) (hw _ (List.mem_of_getElem? (i := 58) rfl)) (hw _ (List.mem_of_getElem? (i := 59) rfl)) (hw _ (List.mem_of_getElem? (i := 19) rfl)) (hw _ (List.mem_of_getElem? (i := 60) rfl)) (by decide) [(.int p2)] [] pd_11 rfl rfl rfl rfl 0 (Nat.le_refl _) (by decide) (by decide) (by decide) (by decide) rfl fun T115 h115 v115 X115 q115 => ?_
        obtain ⟨rfl, rfl⟩ := q115
        refine w_iload X115 (pc' := 137) at_135 rfl rfl ?_
        refine w_icmp_eq X115 155 140 at_137 (by decide) rfl rfl (fun hc137 => ?_) (fun hc137 => ?_)
        · skip
          refine w_iconst X115 (pc' := 156) (1 : Int32) at_155 rfl rfl ?_
          refine w_goto X115 (pc' := 160) at_156 (by decide) rfl ?_
          refine w_istore X115 (pc' := 162) (l' := #[.val (.int p1), .val (.int p2), .val (.int p3), .val (.int p4), .val (.int p5), .val (.int p6), .val (.int (4 : Int32)), .val (.int (2 : Int32)), .val (.ref b75), .val (.int (own_k p3)), .val (.int (1 : Int32)), .unset]) at_160 rfl rfl ?_
          refine w_iload X115 (pc' := 164) at_162 rfl rfl ?_
          refine w_if_ne X115 171 167 at_164 (by decide) rfl rfl (fun hc164 => ?_) (fun hc164 => by exfalso; revert hc164; decide)
          refine w_iconst X115 (pc' := 172) (0 : Int32) at_171 rfl rfl ?_
          refine w_istore X115 (pc' := 174) (l' := #[.val (.int p1), .val (.int p2), .val (.int p3), .val (.int p4), .val (.int p5), .val (.int p6), .val (.int (4 : Int32)), .val (.int (2 : Int32)), .val (.ref b75), .val (.int (own_k p3)), .val (.int (1 : Int32)), .val (.int (0 : Int32))]) at_172 rfl rfl ?_
          refine w_aload X115 (pc' := 176) at_174 rfl rfl rfl ?_
          refine w_iload X115 (pc' := 178) at_176 rfl rfl ?_
          refine w_virtualV X115 (pc' := 181) at_178 (rm_first hw (h0 := h101) (sd_size X115) b75 2 B101 (show 2 < 4 by decide) (show 4 < 16 by decide) (Sta.ext (sd_ext X115 hs0 Zn) S_c) hzc) (hw _ (List.mem_of_getElem? (i := 61) rfl)) (hw _ (List.mem_of_getElem? (i := 62) rfl)) (hw _ (List.mem_of_getElem? (i := 64) rfl)) (hw _ (List.mem_of_getElem? (i := 63) rfl)) (hw _ (List.mem_of_getElem? (i := 3) rfl)) (hw _ (List.mem_of_getElem? (i := 65) rfl)) B101.exa (by decide) [(.int (2 : Int32))] [] pd_12 rfl rfl rfl rfl 0 (Nat.le_refl _) (by decide) (by decide) (by decide) (by decide) rfl fun T116 h116 v116 X116 q116 => ?_
          obtain ⟨rfl, rfl⟩ := q116
          refine w_iload X116 (pc' := 183) at_181 rfl rfl ?_
          refine w_icmp_ne X116 190 186 at_183 (by decide) rfl rfl (fun hc183 => by exfalso; exact hc183 (own_f0 1 (by decide) ((own_kk _ _).mpr hc137))) (fun hc183 => ?_)
          refine w_iconst X116 (pc' := 187) (1 : Int32) at_186 rfl rfl ?_
          refine w_goto X116 (pc' := 191) at_187 (by decide) rfl ?_
          exact w_zreturnW X116 F97_102 (own_hEL hw) at_191 rfl (by decide) (by decide)
        · skip
          refine w_iload X115 (pc' := 142) at_140 rfl rfl ?_
          refine w_iconst X115 (pc' := 143) (2 : Int32) at_142 rfl rfl ?_
          refine w_icmp_le X115 159 146 at_143 (by decide) rfl rfl (fun hc143 => ?_) (fun hc143 => by exfalso; revert hc143; decide)
          refine w_iconst X115 (pc' := 160) (0 : Int32) at_159 rfl rfl ?_
          refine w_istore X115 (pc' := 162) (l' := #[.val (.int p1), .val (.int p2), .val (.int p3), .val (.int p4), .val (.int p5), .val (.int p6), .val (.int (4 : Int32)), .val (.int (2 : Int32)), .val (.ref b75), .val (.int (own_k p3)), .val (.int (0 : Int32)), .unset]) at_160 rfl rfl ?_
          refine w_iload X115 (pc' := 164) at_162 rfl rfl ?_
          refine w_if_ne X115 171 167 at_164 (by decide) rfl rfl (fun hc164 => by exfalso; revert hc164; decide) (fun hc164 => ?_)
          refine w_iconst X115 (pc' := 168) (1 : Int32) at_167 rfl rfl ?_
          refine w_goto X115 (pc' := 172) at_168 (by decide) rfl ?_
          refine w_istore X115 (pc' := 174) (l' := #[.val (.int p1), .val (.int p2), .val (.int p3), .val (.int p4), .val (.int p5), .val (.int p6), .val (.int (4 : Int32)), .val (.int (2 : Int32)), .val (.ref b75), .val (.int (own_k p3)), .val (.int (0 : Int32)), .val (.int (1 : Int32))]) at_172 rfl rfl ?_
          refine w_aload X115 (pc' := 176) at_174 rfl rfl rfl ?_
          refine w_iload X115 (pc' := 178) at_176 rfl rfl ?_
          refine w_virtualV X115 (pc' := 181) at_178 (rm_first hw (h0 := h101) (sd_size X115) b75 2 B101 (show 2 < 4 by decide) (show 4 < 16 by decide) (Sta.ext (sd_ext X115 hs0 Zn) S_c) hzc) (hw _ (List.mem_of_getElem? (i := 61) rfl)) (hw _ (List.mem_of_getElem? (i := 62) rfl)) (hw _ (List.mem_of_getElem? (i := 64) rfl)) (hw _ (List.mem_of_getElem? (i := 63) rfl)) (hw _ (List.mem_of_getElem? (i := 3) rfl)) (hw _ (List.mem_of_getElem? (i := 65) rfl)) B101.exa (by decide) [(.int (2 : Int32))] [] pd_12 rfl rfl rfl rfl 0 (Nat.le_refl _) (by decide) (by decide) (by decide) (by decide) rfl fun T117 h117 v117 X117 q117 => ?_
          obtain ⟨rfl, rfl⟩ := q117
          refine w_iload X117 (pc' := 183) at_181 rfl rfl ?_
          refine w_icmp_ne X117 190 186 at_183 (by decide) rfl rfl (fun hc183 => by exfalso; exact hc183 (own_f1 (fun j hj => by
            have : j = 0 ∨ j = 1 := by omega
            rcases this with rfl | rfl
            · exact fun z => hc122 ((own_kk _ _).mp z)
            · exact fun z => hc137 ((own_kk _ _).mp z)))) (fun hc183 => ?_)
          refine w_iconst X117 (pc' := 187) (1 : Int32) at_186 rfl rfl ?_
          refine w_goto X117 (pc' := 191) at_187 (by decide) rfl ?_
          exact w_zreturnW X117 F97_102 (own_hEL hw) at_191 rfl (by decide) (by decide)
    · skip
      show Go p e below _ (T101.setTop (mkF m 97 #[.val (.int p1), .val (.int p2), .val (.int p3), .val (.int p4), .val (.int p5), .val (.int p6), .val (.int (4 : Int32)), .val (.int (3 : Int32)), .val (.ref b75), .unset, .unset, .unset] []))
      refine w_iload X101 (pc' := 99) at_97 rfl rfl ?_
      refine w_iloadN X101 (pc' := 100) at_99 rfl rfl ?_
      refine w_iloadN X101 (pc' := 101) at_100 rfl rfl ?_
      refine w_iloadN X101 (pc' := 102) at_101 rfl rfl ?_
      refine w_iloadN X101 (pc' := 103) at_102 rfl rfl ?_
      refine w_staticV X101 (pc' := 106) at_103 (rm_pick hw (h0 := h101) (sd_size X101) (3 : Int32) p1 p2 p3 p4) (hw _ (List.mem_of_getElem? (i := 55) rfl)) (hw _ (List.mem_of_getElem? (i := 56) rfl)) (hw _ (List.mem_of_getElem? (i := 19) rfl)) (hw _ (List.mem_of_getElem? (i := 57) rfl)) (by decide) [(.int (3 : Int32)), (.int p1), (.int p2), (.int p3), (.int p4)] [] pd_10 rfl rfl rfl rfl 0 (Nat.le_refl _) (by decide) (by decide) (by decide) (by decide) rfl fun T118 h118 v118 X118 q118 => ?_
      obtain ⟨rfl, rfl⟩ := q118
      rw [show (own_pick (3 : Int32) p1 p2 p3 p4) = p4 from rfl]
      show Go p e below _ (T118.setTop (mkF m 106 #[.val (.int p1), .val (.int p2), .val (.int p3), .val (.int p4), .val (.int p5), .val (.int p6), .val (.int (4 : Int32)), .val (.int (3 : Int32)), .val (.ref b75), .unset, .unset, .unset] [(.int p4)]))
      refine w_staticV X118 (pc' := 109) at_106 (rm_key hw (h0 := h101) (sd_size X118) p4) (hw _ (List.mem_of_getElem? (i := 58) rfl)) (hw _ (List.mem_of_getElem? (i := 59) rfl)) (hw _ (List.mem_of_getElem? (i := 19) rfl)) (hw _ (List.mem_of_getElem? (i := 60) rfl)) (by decide) [(.int p4)] [] pd_11 rfl rfl rfl rfl 0 (Nat.le_refl _) (by decide) (by decide) (by decide) (by decide) rfl fun T119 h119 v119 X119 q119 => ?_
      obtain ⟨rfl, rfl⟩ := q119
      refine w_istore X119 (pc' := 111) (l' := #[.val (.int p1), .val (.int p2), .val (.int p3), .val (.int p4), .val (.int p5), .val (.int p6), .val (.int (4 : Int32)), .val (.int (3 : Int32)), .val (.ref b75), .val (.int (own_k p4)), .unset, .unset]) at_109 rfl rfl ?_
      refine w_iload X119 (pc' := 113) at_111 rfl rfl ?_
      refine w_if_le X119 125 116 at_113 (by decide) rfl rfl (fun hc113 => by exfalso; revert hc113; decide) (fun hc113 => ?_)
      refine w_iloadN X119 (pc' := 117) at_116 rfl rfl ?_
      refine w_staticV X119 (pc' := 120) at_117 (rm_key hw (h0 := h101) (sd_size X119) p1) (hw _ (List.mem_of_getElem? (i := 58) rfl)) (hw _ (List.mem_of_getElem? (i := 59) rfl)) (hw _ (List.mem_of_getElem? (i := 19) rfl)) (hw _ (List.mem_of_getElem? (i := 60) rfl)) (by decide) [(.int p1)] [] pd_11 rfl rfl rfl rfl 0 (Nat.le_refl _) (by decide) (by decide) (by decide) (by decide) rfl fun T120 h120 v120 X120 q120 => ?_
      obtain ⟨rfl, rfl⟩ := q120
      refine w_iload X120 (pc' := 122) at_120 rfl rfl ?_
      refine w_icmp_eq X120 155 125 at_122 (by decide) rfl rfl (fun hc122 => ?_) (fun hc122 => ?_)
      · skip
        refine w_iconst X120 (pc' := 156) (1 : Int32) at_155 rfl rfl ?_
        refine w_goto X120 (pc' := 160) at_156 (by decide) rfl ?_
        refine w_istore X120 (pc' := 162) (l' := #[.val (.int p1), .val (.int p2), .val (.int p3), .val (.int p4), .val (.int p5), .val (.int p6), .val (.int (4 : Int32)), .val (.int (3 : Int32)), .val (.ref b75), .val (.int (own_k p4)), .val (.int (1 : Int32)), .unset]) at_160 rfl rfl ?_
        refine w_iload X120 (pc' := 164) at_162 rfl rfl ?_
        refine w_if_ne X120 171 167 at_164 (by decide) rfl rfl (fun hc164 => ?_) (fun hc164 => by exfalso; revert hc164; decide)
        refine w_iconst X120 (pc' := 172) (0 : Int32) at_171 rfl rfl ?_
        refine w_istore X120 (pc' := 174) (l' := #[.val (.int p1), .val (.int p2), .val (.int p3), .val (.int p4), .val (.int p5), .val (.int p6), .val (.int (4 : Int32)), .val (.int (3 : Int32)), .val (.ref b75), .val (.int (own_k p4)), .val (.int (1 : Int32)), .val (.int (0 : Int32))]) at_172 rfl rfl ?_
        refine w_aload X120 (pc' := 176) at_174 rfl rfl rfl ?_
        refine w_iload X120 (pc' := 178) at_176 rfl rfl ?_
        refine w_virtualV X120 (pc' := 181) at_178 (rm_first hw (h0 := h101) (sd_size X120) b75 3 B101 (show 3 < 4 by decide) (show 4 < 16 by decide) (Sta.ext (sd_ext X120 hs0 Zn) S_c) hzc) (hw _ (List.mem_of_getElem? (i := 61) rfl)) (hw _ (List.mem_of_getElem? (i := 62) rfl)) (hw _ (List.mem_of_getElem? (i := 64) rfl)) (hw _ (List.mem_of_getElem? (i := 63) rfl)) (hw _ (List.mem_of_getElem? (i := 3) rfl)) (hw _ (List.mem_of_getElem? (i := 65) rfl)) B101.exa (by decide) [(.int (3 : Int32))] [] pd_12 rfl rfl rfl rfl 0 (Nat.le_refl _) (by decide) (by decide) (by decide) (by decide) rfl fun T121 h121 v121 X121 q121 => ?_
        obtain ⟨rfl, rfl⟩ := q121
        refine w_iload X121 (pc' := 183) at_181 rfl rfl ?_
        refine w_icmp_ne X121 190 186 at_183 (by decide) rfl rfl (fun hc183 => by exfalso; exact hc183 (own_f0 0 (by decide) ((own_kk _ _).mpr hc122))) (fun hc183 => ?_)
        refine w_iconst X121 (pc' := 187) (1 : Int32) at_186 rfl rfl ?_
        refine w_goto X121 (pc' := 191) at_187 (by decide) rfl ?_
        exact w_zreturnW X121 F97_102 (own_hEL hw) at_191 rfl (by decide) (by decide)
      · skip
        refine w_iload X120 (pc' := 127) at_125 rfl rfl ?_
        refine w_iconst X120 (pc' := 128) (1 : Int32) at_127 rfl rfl ?_
        refine w_icmp_le X120 140 131 at_128 (by decide) rfl rfl (fun hc128 => by exfalso; revert hc128; decide) (fun hc128 => ?_)
        refine w_iloadN X120 (pc' := 132) at_131 rfl rfl ?_
        refine w_staticV X120 (pc' := 135) at_132 (rm_key hw (h0 := h101) (sd_size X120) p2) (hw _ (List.mem_of_getElem? (i := 58) rfl)) (hw _ (List.mem_of_getElem? (i := 59) rfl)) (hw _ (List.mem_of_getElem? (i := 19) rfl)) (hw _ (List.mem_of_getElem? (i := 60) rfl)) (by decide) [(.int p2)] [] pd_11 rfl rfl rfl rfl 0 (Nat.le_refl _) (by decide) (by decide) (by decide) (by decide) rfl fun T122 h122 v122 X122 q122 => ?_
        obtain ⟨rfl, rfl⟩ := q122
        refine w_iload X122 (pc' := 137) at_135 rfl rfl ?_
        refine w_icmp_eq X122 155 140 at_137 (by decide) rfl rfl (fun hc137 => ?_) (fun hc137 => ?_)
        · skip
          refine w_iconst X122 (pc' := 156) (1 : Int32) at_155 rfl rfl ?_
          refine w_goto X122 (pc' := 160) at_156 (by decide) rfl ?_
          refine w_istore X122 (pc' := 162) (l' := #[.val (.int p1), .val (.int p2), .val (.int p3), .val (.int p4), .val (.int p5), .val (.int p6), .val (.int (4 : Int32)), .val (.int (3 : Int32)), .val (.ref b75), .val (.int (own_k p4)), .val (.int (1 : Int32)), .unset]) at_160 rfl rfl ?_
          refine w_iload X122 (pc' := 164) at_162 rfl rfl ?_
          refine w_if_ne X122 171 167 at_164 (by decide) rfl rfl (fun hc164 => ?_) (fun hc164 => by exfalso; revert hc164; decide)
          refine w_iconst X122 (pc' := 172) (0 : Int32) at_171 rfl rfl ?_
          refine w_istore X122 (pc' := 174) (l' := #[.val (.int p1), .val (.int p2), .val (.int p3), .val (.int p4), .val (.int p5), .val (.int p6), .val (.int (4 : Int32)), .val (.int (3 : Int32)), .val (.ref b75), .val (.int (own_k p4)), .val (.int (1 : Int32)), .val (.int (0 : Int32))]) at_172 rfl rfl ?_
          refine w_aload X122 (pc' := 176) at_174 rfl rfl rfl ?_
          refine w_iload X122 (pc' := 178) at_176 rfl rfl ?_
          refine w_virtualV X122 (pc' := 181) at_178 (rm_first hw (h0 := h101) (sd_size X122) b75 3 B101 (show 3 < 4 by decide) (show 4 < 16 by decide) (Sta.ext (sd_ext X122 hs0 Zn) S_c) hzc) (hw _ (List.mem_of_getElem? (i := 61) rfl)) (hw _ (List.mem_of_getElem? (i := 62) rfl)) (hw _ (List.mem_of_getElem? (i := 64) rfl)) (hw _ (List.mem_of_getElem? (i := 63) rfl)) (hw _ (List.mem_of_getElem? (i := 3) rfl)) (hw _ (List.mem_of_getElem? (i := 65) rfl)) B101.exa (by decide) [(.int (3 : Int32))] [] pd_12 rfl rfl rfl rfl 0 (Nat.le_refl _) (by decide) (by decide) (by decide) (by decide) rfl fun T123 h123 v123 X123 q123 => ?_
          obtain ⟨rfl, rfl⟩ := q123
          refine w_iload X123 (pc' := 183) at_181 rfl rfl ?_
          refine w_icmp_ne X123 190 186 at_183 (by decide) rfl rfl (fun hc183 => by exfalso; exact hc183 (own_f0 1 (by decide) ((own_kk _ _).mpr hc137))) (fun hc183 => ?_)
          refine w_iconst X123 (pc' := 187) (1 : Int32) at_186 rfl rfl ?_
          refine w_goto X123 (pc' := 191) at_187 (by decide) rfl ?_
          exact w_zreturnW X123 F97_102 (own_hEL hw) at_191 rfl (by decide) (by decide)
        · skip
          refine w_iload X122 (pc' := 142) at_140 rfl rfl ?_
          refine w_iconst X122 (pc' := 143) (2 : Int32) at_142 rfl rfl ?_
          refine w_icmp_le X122 159 146 at_143 (by decide) rfl rfl (fun hc143 => by exfalso; revert hc143; decide) (fun hc143 => ?_)
          refine w_iloadN X122 (pc' := 147) at_146 rfl rfl ?_
          refine w_staticV X122 (pc' := 150) at_147 (rm_key hw (h0 := h101) (sd_size X122) p3) (hw _ (List.mem_of_getElem? (i := 58) rfl)) (hw _ (List.mem_of_getElem? (i := 59) rfl)) (hw _ (List.mem_of_getElem? (i := 19) rfl)) (hw _ (List.mem_of_getElem? (i := 60) rfl)) (by decide) [(.int p3)] [] pd_11 rfl rfl rfl rfl 0 (Nat.le_refl _) (by decide) (by decide) (by decide) (by decide) rfl fun T124 h124 v124 X124 q124 => ?_
          obtain ⟨rfl, rfl⟩ := q124
          refine w_iload X124 (pc' := 152) at_150 rfl rfl ?_
          refine w_icmp_ne X124 159 155 at_152 (by decide) rfl rfl (fun hc152 => ?_) (fun hc152 => ?_)
          · skip
            refine w_iconst X124 (pc' := 160) (0 : Int32) at_159 rfl rfl ?_
            refine w_istore X124 (pc' := 162) (l' := #[.val (.int p1), .val (.int p2), .val (.int p3), .val (.int p4), .val (.int p5), .val (.int p6), .val (.int (4 : Int32)), .val (.int (3 : Int32)), .val (.ref b75), .val (.int (own_k p4)), .val (.int (0 : Int32)), .unset]) at_160 rfl rfl ?_
            refine w_iload X124 (pc' := 164) at_162 rfl rfl ?_
            refine w_if_ne X124 171 167 at_164 (by decide) rfl rfl (fun hc164 => by exfalso; revert hc164; decide) (fun hc164 => ?_)
            refine w_iconst X124 (pc' := 168) (1 : Int32) at_167 rfl rfl ?_
            refine w_goto X124 (pc' := 172) at_168 (by decide) rfl ?_
            refine w_istore X124 (pc' := 174) (l' := #[.val (.int p1), .val (.int p2), .val (.int p3), .val (.int p4), .val (.int p5), .val (.int p6), .val (.int (4 : Int32)), .val (.int (3 : Int32)), .val (.ref b75), .val (.int (own_k p4)), .val (.int (0 : Int32)), .val (.int (1 : Int32))]) at_172 rfl rfl ?_
            refine w_aload X124 (pc' := 176) at_174 rfl rfl rfl ?_
            refine w_iload X124 (pc' := 178) at_176 rfl rfl ?_
            refine w_virtualV X124 (pc' := 181) at_178 (rm_first hw (h0 := h101) (sd_size X124) b75 3 B101 (show 3 < 4 by decide) (show 4 < 16 by decide) (Sta.ext (sd_ext X124 hs0 Zn) S_c) hzc) (hw _ (List.mem_of_getElem? (i := 61) rfl)) (hw _ (List.mem_of_getElem? (i := 62) rfl)) (hw _ (List.mem_of_getElem? (i := 64) rfl)) (hw _ (List.mem_of_getElem? (i := 63) rfl)) (hw _ (List.mem_of_getElem? (i := 3) rfl)) (hw _ (List.mem_of_getElem? (i := 65) rfl)) B101.exa (by decide) [(.int (3 : Int32))] [] pd_12 rfl rfl rfl rfl 0 (Nat.le_refl _) (by decide) (by decide) (by decide) (by decide) rfl fun T125 h125 v125 X125 q125 => ?_
            obtain ⟨rfl, rfl⟩ := q125
            refine w_iload X125 (pc' := 183) at_181 rfl rfl ?_
            refine w_icmp_ne X125 190 186 at_183 (by decide) rfl rfl (fun hc183 => by exfalso; exact hc183 (own_f1 (fun j hj => by
              have : j = 0 ∨ j = 1 ∨ j = 2 := by omega
              rcases this with rfl | rfl | rfl
              · exact fun z => hc122 ((own_kk _ _).mp z)
              · exact fun z => hc137 ((own_kk _ _).mp z)
              · exact fun z => hc152 ((own_kk _ _).mp z)))) (fun hc183 => ?_)
            refine w_iconst X125 (pc' := 187) (1 : Int32) at_186 rfl rfl ?_
            refine w_goto X125 (pc' := 191) at_187 (by decide) rfl ?_
            exact w_zreturnW X125 F97_102 (own_hEL hw) at_191 rfl (by decide) (by decide)
          · skip
            refine w_iconst X124 (pc' := 156) (1 : Int32) at_155 rfl rfl ?_
            refine w_goto X124 (pc' := 160) at_156 (by decide) rfl ?_
            refine w_istore X124 (pc' := 162) (l' := #[.val (.int p1), .val (.int p2), .val (.int p3), .val (.int p4), .val (.int p5), .val (.int p6), .val (.int (4 : Int32)), .val (.int (3 : Int32)), .val (.ref b75), .val (.int (own_k p4)), .val (.int (1 : Int32)), .unset]) at_160 rfl rfl ?_
            refine w_iload X124 (pc' := 164) at_162 rfl rfl ?_
            refine w_if_ne X124 171 167 at_164 (by decide) rfl rfl (fun hc164 => ?_) (fun hc164 => by exfalso; revert hc164; decide)
            refine w_iconst X124 (pc' := 172) (0 : Int32) at_171 rfl rfl ?_
            refine w_istore X124 (pc' := 174) (l' := #[.val (.int p1), .val (.int p2), .val (.int p3), .val (.int p4), .val (.int p5), .val (.int p6), .val (.int (4 : Int32)), .val (.int (3 : Int32)), .val (.ref b75), .val (.int (own_k p4)), .val (.int (1 : Int32)), .val (.int (0 : Int32))]) at_172 rfl rfl ?_
            refine w_aload X124 (pc' := 176) at_174 rfl rfl rfl ?_
            refine w_iload X124 (pc' := 178) at_176 rfl rfl ?_
            refine w_virtualV X124 (pc' := 181) at_178 (rm_first hw (h0 := h101) (sd_size X124) b75 3 B101 (show 3 < 4 by decide) (show 4 < 16 by decide) (Sta.ext (sd_ext X124 hs0 Zn) S_c) hzc) (hw _ (List.mem_of_getElem? (i := 61) rfl)) (hw _ (List.mem_of_getElem? (i := 62) rfl)) (hw _ (List.mem_of_getElem? (i := 64) rfl)) (hw _ (List.mem_of_getElem? (i := 63) rfl)) (hw _ (List.mem_of_getElem? (i := 3) rfl)) (hw _ (List.mem_of_getElem? (i := 65) rfl)) B101.exa (by decide) [(.int (3 : Int32))] [] pd_12 rfl rfl rfl rfl 0 (Nat.le_refl _) (by decide) (by decide) (by decide) (by decide) rfl fun T126 h126 v126 X126 q126 => ?_
            obtain ⟨rfl, rfl⟩ := q126
            refine w_iload X126 (pc' := 183) at_181 rfl rfl ?_
            refine w_icmp_ne X126 190 186 at_183 (by decide) rfl rfl (fun hc183 => by exfalso; exact hc183 (own_f0 2 (by decide) ((own_kk _ _).mpr hc152))) (fun hc183 => ?_)
            refine w_iconst X126 (pc' := 187) (1 : Int32) at_186 rfl rfl ?_
            refine w_goto X126 (pc' := 191) at_187 (by decide) rfl ?_
            exact w_zreturnW X126 F97_102 (own_hEL hw) at_191 rfl (by decide) (by decide)
set_option maxRecDepth 65536 in
set_option maxHeartbeats 40000000 in
theorem comes_1 {Post : Tables → Env → Array Value → State → Outcome → State → Prop} (hpost : ∀ tb e args s v u, (limb_1_1.after args s (.returned v) u = true ∧ limb_1_2.after args s (.returned v) u = true ∧ True) → FramedW s (.returned v) u (Jvm.fieldLocs frame_1_writes args s ++ Jvm.arrayLocs frame_1_arrays args s ++ Jvm.staticLocs frame_1_statics s) 48 1280 → Post tb e args s (.returned v) u) :
    ArmFor flags0 classFile x code maxLocals ret World_1 tables_1 room_1 Calls_1 rest_1 Pre_1 Post := by
  intro l hfl _ _ p e ha hc hk s m args below hf hA hF happ hP
  obtain ⟨hcalls, hrest, hpre⟩ := hP
  obtain ⟨-, -, -, hnamed, -, -, -, hat⟩ := (Spec.applies_iff hf).mp happ
  obtain ⟨hg, hn⟩ := and_e (Cond.before_iff.mp (show (Jvm.Cond.and given_1 narrow_1).before args s = true from hpre))
  obtain ⟨hcount, k0⟩ := and_e hg
  obtain ⟨ka0, k1⟩ := and_e k0
  obtain ⟨ka1, k2⟩ := and_e k1
  obtain ⟨ka2, k3⟩ := and_e k2
  obtain ⟨ka3, k4⟩ := and_e k3
  obtain ⟨ka4, k5⟩ := and_e k4
  obtain ⟨w0, w1, w2, w3, w4, w5, rfl⟩ : ∃ w0 w1 w2 w3 w4 w5 : Value, args = #[w0, w1, w2, w3, w4, w5] := by
    have hs : args.size = 6 := by simpa [Cond.value, given_1] using hcount
    obtain ⟨L⟩ := args
    match L, hs with
    | [w0, w1, w2, w3, w4, w5], _ => exact ⟨w0, w1, w2, w3, w4, w5, rfl⟩
  have hw := fun d (hd : d ∈ tables_1) => atoms_spec (ws := Jvm.Cond.code x code maxLocals ret :: tables_1) hat d (List.mem_cons_of_mem _ hd)
  have hfit : Fit s := fun {y c} hc i hi => by
    obtain ⟨ha, rfl⟩ := Array.getElem?_eq_some_iff.mp hc
    have q := List.all_eq_true.mp ((Array.all_eq_true_iff_forall_mem.mp hF) _ (Array.getElem_mem ha)) i (List.mem_range.mpr hi)
    simpa [Array.getElem?_eq_getElem hi] using q
  obtain ⟨hsets, hown0⟩ := atoms_of _ (rest_1_c_eq ▸ (show rest_1_c.before _ s = true from hrest))
  have hr0 := Cond.before_iff.mp hown0
  obtain ⟨i0, ei0⟩ := is_v ka0
  obtain rfl : w0 = (.int i0) := Option.some.inj ei0
  obtain ⟨i1, ei1⟩ := is_v ka1
  obtain rfl : w1 = (.int i1) := Option.some.inj ei1
  obtain ⟨i2, ei2⟩ := is_v ka2
  obtain rfl : w2 = (.int i2) := Option.some.inj ei2
  obtain ⟨i3, ei3⟩ := is_v ka3
  obtain rfl : w3 = (.int i3) := Option.some.inj ei3
  obtain ⟨i4, ei4⟩ := is_v ka4
  obtain rfl : w4 = (.int i4) := Option.some.inj ei4
  obtain ⟨i5, ei5⟩ := is_v k5
  obtain rfl : w5 = (.int i5) := Option.some.inj ei5
  have z1 := Cond.before_iff.mp (hsets _ (List.mem_of_getElem? (i := 1) rfl))
  obtain ⟨zc, e_c⟩ := is_v z1
  have S_c : Sta s s.heap "java/lang/String" "COMPACT_STRINGS" "Z" (.int zc) := Sta.start e_c (Or.inl (hsets _ (List.mem_of_getElem? (i := 0) rfl)))
  have z2 := not_v (Cond.before_iff.mp (hsets _ (List.mem_of_getElem? (i := 2) rfl)))
  have hzc : ¬ zc = (0 : Int32) := fun q => by
    have t := eq_i e_c (Term.int_eval (0 : Int32)) (by rw [q])
    rw [t] at z2; cases z2
  have hC : CHv s own_EL s.vm s.heap := CHv.start (own_hEL hw) (fun p hp => hcalls.1 p hp) (hsets _ (List.mem_of_getElem? (i := 2) rfl)) (hw _ (List.mem_of_getElem? (i := 35) rfl)) (hw _ (List.mem_of_getElem? (i := 31) rfl))
  obtain ⟨n, o, h1, h2, h3, _, L, rfl, ⟨N, _, rfl, rfl⟩, -, hq⟩ := rm0 (l := l) hw (Nat.le_refl s.heap.size) i0 i1 i2 i3 i4 i5 (Nat.le_refl _) S_c hzc tables_1 p e ha hc hk s m _ below hf ((Spec.applies_iff_loose hf).mp happ).1 ⟨rfl, State.Warmed39.refl s, rfl, hC⟩ trivial
  exact ⟨n, _, h1, h2, h3, hpost _ _ _ _ _ _ ⟨Cond.after_iff.mpr rfl, Cond.after_iff.mpr (eq_i res_at (Term.int_eval (1)) rfl), trivial⟩ ⟨hq.1, hq.2.1, hq.2.2.1, (hq.2.2.2.sift fun y hy => Or.inr (N y hy)).mono (by decide) (by decide)⟩⟩
theorem main_1_1 : Claimed_1_1 := comes_1 fun _ _ _ _ _ _ h hF => ⟨h.1, hF⟩
theorem main_1_2 : Claimed_1_2 := comes_1 fun _ _ _ _ _ _ h hF => ⟨h.2.1, hF⟩
end Jvm.Pilot.@@N@@
namespace Jvm.Pilot.@@N@@
open Jvm Jvm.ClassFile Sem Op Lib Jvm.Free Jvm.Stand Jvm.Pilot.@@N@@.Jvm.D
/-! MADE BY PROGRAM (witnessworld.py) out of the Statement's table words and the real class files: 18 classes; the members and pool entries that the words name. The judged class is class 1, her method 5. -/
namespace start1
open Jvm.ClassFile
def u (s : String) : CpInfo := .utf8 (stringToUtf16 s)
/-- a pool by its gaps: so many unusable entries, then the entry; so many at the end -/
def gap : Nat → List CpInfo → List CpInfo
  | 0, r => r
  | n + 1, r => .unusable :: gap n r
def poolList (es : List (Nat × CpInfo)) (last : Nat) : List CpInfo := es.foldr (fun e r => gap e.1 (e.2 :: r)) (gap last [])
def pool (es : List (Nat × CpInfo)) (last : Nat) : Array CpInfo := ⟨poolList es last⟩
def fileOf (pool : Array CpInfo) (this : Nat) (attrs : Array Attribute := #[]) (ms : Array MethodInfo := #[]) (fl : Nat := 33) (sup : Nat := 0) (ifs : Array Nat := #[]) (fds : Array FieldInfo := #[]) : ClassFile where
  minorVersion := 0
  majorVersion := 65
  constantPool := pool
  accessFlags := fl
  thisClass := this
  superClass := sup
  interfaces := ifs
  fields := fds
  methods := ms
  attributes := attrs
def plain (name : String) (sup : Option ClassId) : Class where
  name := name
  kind := .ordinary
  loader := none
  accessFlags := 33
  super := sup
  interfaces := #[]
  cf := none
  fields := #[]
  methods := #[]
  instanceTypes := #[]
  staticTypes := #[]
  resolved := #[]
  callSites := []
  init := .initialized
  statics := none
  mirror := none

def pool0 : Array CpInfo := pool [(5, u "<init>"), (0, u "()V"), (1, .class_ 10), (1, u "java/lang/Object")] 113

def k0c0 : Code := { maxStack := 0, maxLocals := 1, code := object_method_1_code, exceptionTable := #[], attributes := #[] }
def k0m0 : Method := { name := "<init>", desc := "()V", sig := { parameters := [], returnType := none }, accessFlags := 1, code := some k0c0 }
/-- java/lang/Object -/
def k0 : Class := { plain "java/lang/Object" none with
  accessFlags := 33
  interfaces := #[]
  cf := some (fileOf pool0 8 #[] #[{ accessFlags := 1, nameIndex := 5, descriptorIndex := 6, attributes := #[] }] 33 0 #[] #[])
  fields := #[]
  methods := #[k0m0]
  instanceTypes := #[]
  staticTypes := #[]
  resolved := Array.replicate 124 none
  statics := none }

def pool1 : Array CpInfo := pool [(2, .class_ 4), (0, .nameAndType 5 6), (0, u "java/lang/Object"), (0, u "<init>"), (0, u "()V"), (0, .string 8), (0, u ""), (0, .methodref 10 11), (0, .class_ 12), (0, .nameAndType 13 14), (0, u "java/lang/String"), (0, u "valueOf"), (0, u "(C)Ljava/lang/String;"), (0, .integer 2147483647), (0, .class_ 17), (0, u "com/example/raja/raja/xml/CanonicalWriter$Bindings"), (0, .methodref 16 3), (0, .methodref 20 21), (0, .class_ 22), (0, .nameAndType 23 24), (0, u "com/example/raja/raja/xml/BindingsIsFirstPinLaw"), (0, u "prefix"), (0, u "(I)Ljava/lang/String;"), (0, .methodref 20 26), (0, .nameAndType 27 24), (0, u "value"), (0, .methodref 16 29), (0, .nameAndType 30 31), (0, u "push"), (0, u "(Ljava/lang/String;Ljava/lang/String;)V"), (0, .methodref 20 33), (0, .nameAndType 34 35), (0, u "pick"), (0, u "(IIIII)I"), (0, .methodref 20 37), (0, .nameAndType 38 39), (0, u "key"), (0, u "(I)I"), (0, .methodref 16 41), (0, .nameAndType 42 43), (0, u "isFirst"), (0, u "(I)Z"), (3, u "law"), (0, u "(IIIIII)Z")] 6

def k1m0 : Method := { name := "<init>", desc := "()V", sig := { parameters := [], returnType := none }, accessFlags := 1, code := none }
def k1c1 : Code := { maxStack := 2, maxLocals := 1, code := method_2_code, exceptionTable := #[], attributes := #[] }
def k1m1 : Method := { name := "key", desc := "(I)I", sig := { parameters := [.int], returnType := some .int }, accessFlags := 10, code := some k1c1 }
def k1c2 : Code := { maxStack := 2, maxLocals := 1, code := method_3_code, exceptionTable := #[], attributes := #[] }
def k1m2 : Method := { name := "prefix", desc := "(I)Ljava/lang/String;", sig := { parameters := [.int], returnType := some (.object "java/lang/String") }, accessFlags := 10, code := some k1c2 }
def k1c3 : Code := { maxStack := 2, maxLocals := 1, code := method_4_code, exceptionTable := #[], attributes := #[] }
def k1m3 : Method := { name := "value", desc := "(I)Ljava/lang/String;", sig := { parameters := [.int], returnType := some (.object "java/lang/String") }, accessFlags := 10, code := some k1c3 }
def k1c4 : Code := { maxStack := 2, maxLocals := 5, code := method_5_code, exceptionTable := #[], attributes := #[] }
def k1m4 : Method := { name := "pick", desc := "(IIIII)I", sig := { parameters := [.int, .int, .int, .int, .int], returnType := some .int }, accessFlags := 10, code := some k1c4 }
def k1c5 : Code := { maxStack := 5, maxLocals := 12, code := code, exceptionTable := #[], attributes := #[] }
def k1m5 : Method := { name := "law", desc := "(IIIIII)Z", sig := { parameters := [.int, .int, .int, .int, .int, .int], returnType := some .boolean }, accessFlags := 9, code := some k1c5 }
/-- com/example/raja/raja/xml/BindingsIsFirstPinLaw -/
def k1 : Class := { plain "com/example/raja/raja/xml/BindingsIsFirstPinLaw" (some 0) with
  accessFlags := 49
  interfaces := #[]
  cf := some (fileOf pool1 20 #[] #[{ accessFlags := 1, nameIndex := 5, descriptorIndex := 6, attributes := #[] }, { accessFlags := 10, nameIndex := 38, descriptorIndex := 39, attributes := #[] }, { accessFlags := 10, nameIndex := 23, descriptorIndex := 24, attributes := #[] }, { accessFlags := 10, nameIndex := 27, descriptorIndex := 24, attributes := #[] }, { accessFlags := 10, nameIndex := 34, descriptorIndex := 35, attributes := #[] }, { accessFlags := 9, nameIndex := 47, descriptorIndex := 48, attributes := #[] }] 49 2 #[] #[])
  fields := #[]
  methods := #[k1m0, k1m1, k1m2, k1m3, k1m4, k1m5]
  instanceTypes := #[]
  staticTypes := #[]
  resolved := Array.replicate 55 none
  statics := none }

def pool2 : Array CpInfo := pool [(1, .methodref 2 3), (0, .class_ 4), (0, .nameAndType 5 6), (0, u "java/lang/Object"), (0, u "<init>"), (0, u "()V"), (0, .class_ 8), (0, u "java/lang/String"), (0, .fieldref 10 11), (0, .class_ 12), (0, .nameAndType 13 14), (0, u "com/example/raja/raja/xml/CanonicalWriter$Bindings"), (0, u "pairs"), (0, u "[Ljava/lang/String;"), (0, .fieldref 10 16), (0, .nameAndType 17 18), (0, u "marks"), (0, u "[I"), (0, .fieldref 10 20), (0, .nameAndType 21 22), (0, u "size"), (0, u "I"), (9, u "depth"), (3, .methodref 7 37), (0, .nameAndType 38 39), (0, u "equals"), (0, u "(Ljava/lang/Object;)Z"), (2, u "push"), (0, u "(Ljava/lang/String;Ljava/lang/String;)V"), (8, u "isFirst"), (0, u "(I)Z"), (5, .class_ 60), (0, u "com/example/raja/raja/xml/CanonicalWriter")] 2

def k2c0 : Code := { maxStack := 2, maxLocals := 1, code := prog_69_method_1_code, exceptionTable := #[], attributes := #[] }
def k2m0 : Method := { name := "<init>", desc := "()V", sig := { parameters := [], returnType := none }, accessFlags := 0, code := some k2c0 }
def k2c1 : Code := { maxStack := 4, maxLocals := 3, code := prog_69_method_2_code, exceptionTable := #[], attributes := #[] }
def k2m1 : Method := { name := "push", desc := "(Ljava/lang/String;Ljava/lang/String;)V", sig := { parameters := [(.object "java/lang/String"), (.object "java/lang/String")], returnType := none }, accessFlags := 0, code := some k2c1 }
def k2c2 : Code := { maxStack := 4, maxLocals := 3, code := prog_69_method_9_code, exceptionTable := #[], attributes := #[] }
def k2m2 : Method := { name := "isFirst", desc := "(I)Z", sig := { parameters := [.int], returnType := some .boolean }, accessFlags := 0, code := some k2c2 }
/-- com/example/raja/raja/xml/CanonicalWriter$Bindings -/
def k2 : Class := { plain "com/example/raja/raja/xml/CanonicalWriter$Bindings" (some 0) with
  accessFlags := 48
  interfaces := #[]
  cf := some (fileOf pool2 10 #[.nestHost 59] #[{ accessFlags := 0, nameIndex := 5, descriptorIndex := 6, attributes := #[] }, { accessFlags := 0, nameIndex := 42, descriptorIndex := 43, attributes := #[] }, { accessFlags := 0, nameIndex := 52, descriptorIndex := 53, attributes := #[] }] 48 2 #[] #[{ accessFlags := 2, nameIndex := 13, descriptorIndex := 14, attributes := #[] }, { accessFlags := 2, nameIndex := 21, descriptorIndex := 22, attributes := #[] }, { accessFlags := 2, nameIndex := 17, descriptorIndex := 18, attributes := #[] }, { accessFlags := 2, nameIndex := 32, descriptorIndex := 22, attributes := #[] }])
  fields := #[{ name := "pairs", type := (.array (.object "java/lang/String")), accessFlags := 2, slot := 0, constantValue := 0 }, { name := "size", type := .int, accessFlags := 2, slot := 1, constantValue := 0 }, { name := "marks", type := (.array .int), accessFlags := 2, slot := 2, constantValue := 0 }, { name := "depth", type := .int, accessFlags := 2, slot := 3, constantValue := 0 }]
  methods := #[k2m0, k2m1, k2m2]
  instanceTypes := #[(.array (.object "java/lang/String")), .int, (.array .int), .int]
  staticTypes := #[]
  resolved := Array.replicate 63 none
  statics := none }

def pool3 : Array CpInfo := pool [(1, .class_ 2), (0, u "java/io/Serializable"), (0, .class_ 4), (0, u "java/lang/Object")] 2

/-- java/io/Serializable -/
def k3 : Class := { plain "java/io/Serializable" (some 0) with
  accessFlags := 1537
  interfaces := #[]
  cf := some (fileOf pool3 1 #[] #[] 1537 3 #[] #[])
  fields := #[]
  methods := #[]
  instanceTypes := #[]
  staticTypes := #[]
  resolved := Array.replicate 7 none
  statics := none }

def pool4 : Array CpInfo := pool [(1, .class_ 2), (0, u "java/lang/Comparable"), (0, .class_ 4), (0, u "java/lang/Object")] 7

/-- java/lang/Comparable -/
def k4 : Class := { plain "java/lang/Comparable" (some 0) with
  accessFlags := 1537
  interfaces := #[]
  cf := some (fileOf pool4 1 #[] #[] 1537 3 #[] #[])
  fields := #[]
  methods := #[]
  instanceTypes := #[]
  staticTypes := #[]
  resolved := Array.replicate 12 none
  statics := none }

def pool5 : Array CpInfo := pool [(2, .class_ 4), (1, u "java/lang/CharSequence"), (42, .class_ 48), (0, u "java/lang/CharSequence$1CodePointIterator"), (10, .class_ 60), (0, u "java/lang/CharSequence$1CharIterator"), (5, .class_ 67), (0, u "java/lang/Object")] 63

/-- java/lang/CharSequence -/
def k5 : Class := { plain "java/lang/CharSequence" (some 0) with
  accessFlags := 1537
  interfaces := #[]
  cf := some (fileOf pool5 2 #[.nestMembers #[47, 59]] #[] 1537 66 #[] #[])
  fields := #[]
  methods := #[]
  instanceTypes := #[]
  staticTypes := #[]
  resolved := Array.replicate 131 none
  statics := none }

def pool6 : Array CpInfo := pool [(1, .class_ 2), (0, u "java/lang/constant/Constable"), (0, .class_ 4), (0, u "java/lang/Object")] 6

/-- java/lang/constant/Constable -/
def k6 : Class := { plain "java/lang/constant/Constable" (some 0) with
  accessFlags := 1537
  interfaces := #[]
  cf := some (fileOf pool6 1 #[] #[] 1537 3 #[] #[])
  fields := #[]
  methods := #[]
  instanceTypes := #[]
  staticTypes := #[]
  resolved := Array.replicate 11 none
  statics := none }

def pool7 : Array CpInfo := pool [(1, .class_ 2), (0, u "java/lang/constant/ConstantDesc"), (0, .class_ 4), (0, u "java/lang/Object")] 32

/-- java/lang/constant/ConstantDesc -/
def k7 : Class := { plain "java/lang/constant/ConstantDesc" (some 0) with
  accessFlags := 1537
  interfaces := #[]
  cf := some (fileOf pool7 1 #[] #[] 1537 3 #[] #[])
  fields := #[]
  methods := #[]
  instanceTypes := #[]
  staticTypes := #[]
  resolved := Array.replicate 37 none
  statics := none }

def pool8 : Array CpInfo := pool [(1, .methodref 2 3), (0, .class_ 4), (0, .nameAndType 5 6), (0, u "java/lang/Object"), (0, u "<init>"), (0, u "()V"), (2, .fieldref 10 11), (0, .class_ 12), (0, .nameAndType 13 14), (0, u "java/lang/String"), (0, u "value"), (0, u "[B"), (0, .fieldref 10 16), (0, .nameAndType 17 18), (0, u "coder"), (0, u "B"), (2, u "hash"), (0, u "I"), (2, u "hashIsZero"), (0, u "Z"), (11, .fieldref 10 39), (0, .nameAndType 40 26), (0, u "COMPACT_STRINGS"), (12, u "toBytes"), (53, .class_ 109), (1, u "java/lang/StringLatin1"), (99, .methodref 10 210), (0, .nameAndType 5 211), (0, u "([BB)V"), (157, u "(C)Z"), (171, .methodref 107 542), (0, .nameAndType 543 544), (0, u "equals"), (0, u "([B[B)Z"), (28, u "(Ljava/lang/Object;)Z"), (1, .class_ 576), (0, u "java/lang/CharSequence"), (22, u "CASE_INSENSITIVE_ORDER"), (0, u "Ljava/util/Comparator;"), (181, u "valueOf"), (0, u "(C)Ljava/lang/String;"), (231, .methodref 107 1016), (0, .nameAndType 1017 369), (0, u "canEncode"), (0, .methodref 107 1019), (0, .nameAndType 53 1020), (0, u "(C)[B"), (80, u "serialPersistentFields"), (0, u "[Ljava/io/ObjectStreamField;"), (0, .class_ 1104), (0, u "java/lang/String$CaseInsensitiveComparator"), (1, .class_ 1107), (0, u "java/io/Serializable"), (0, .class_ 1109), (0, u "java/lang/Comparable"), (0, .class_ 1111), (0, u "java/lang/constant/Constable"), (0, .class_ 1113), (0, u "java/lang/constant/ConstantDesc"), (2, u "serialVersionUID"), (0, u "J"), (3, u "REPL"), (0, u "C"), (2, u "LATIN1"), (1, u "UTF16")] 323

def k8m0 : Method := { name := "<init>", desc := "()V", sig := { parameters := [], returnType := none }, accessFlags := 1, code := none }
def k8c1 : Code := { maxStack := 2, maxLocals := 3, code := jdk_42_method_66_code, exceptionTable := #[], attributes := #[] }
def k8m1 : Method := { name := "equals", desc := "(Ljava/lang/Object;)Z", sig := { parameters := [(.object "java/lang/Object")], returnType := some .boolean }, accessFlags := 1, code := some k8c1 }
def k8c2 : Code := { maxStack := 4, maxLocals := 1, code := jdk_42_method_139_code, exceptionTable := #[], attributes := #[] }
def k8m2 : Method := { name := "valueOf", desc := "(C)Ljava/lang/String;", sig := { parameters := [.char], returnType := some (.object "java/lang/String") }, accessFlags := 9, code := some k8c2 }
def k8c3 : Code := { maxStack := 2, maxLocals := 3, code := jdk_42_method_151_code, exceptionTable := #[], attributes := #[] }
def k8m3 : Method := { name := "<init>", desc := "([BB)V", sig := { parameters := [(.array .byte), .byte], returnType := none }, accessFlags := 0, code := some k8c3 }
/-- java/lang/String -/
def k8 : Class := { plain "java/lang/String" (some 0) with
  accessFlags := 49
  interfaces := #[3, 4, 5, 6, 7]
  cf := some (fileOf pool8 10 #[.nestMembers #[1103]] #[{ accessFlags := 1, nameIndex := 5, descriptorIndex := 6, attributes := #[] }, { accessFlags := 1, nameIndex := 543, descriptorIndex := 573, attributes := #[] }, { accessFlags := 9, nameIndex := 782, descriptorIndex := 783, attributes := #[] }, { accessFlags := 0, nameIndex := 5, descriptorIndex := 211, attributes := #[] }] 49 2 #[1106, 1108, 575, 1110, 1112] #[{ accessFlags := 18, nameIndex := 13, descriptorIndex := 14, attributes := #[] }, { accessFlags := 18, nameIndex := 17, descriptorIndex := 18, attributes := #[] }, { accessFlags := 2, nameIndex := 21, descriptorIndex := 22, attributes := #[] }, { accessFlags := 2, nameIndex := 25, descriptorIndex := 26, attributes := #[] }, { accessFlags := 26, nameIndex := 1116, descriptorIndex := 1117, attributes := #[] }, { accessFlags := 24, nameIndex := 40, descriptorIndex := 26, attributes := #[] }, { accessFlags := 26, nameIndex := 1101, descriptorIndex := 1102, attributes := #[] }, { accessFlags := 26, nameIndex := 1121, descriptorIndex := 1122, attributes := #[] }, { accessFlags := 25, nameIndex := 599, descriptorIndex := 600, attributes := #[] }, { accessFlags := 24, nameIndex := 1125, descriptorIndex := 18, attributes := #[] }, { accessFlags := 24, nameIndex := 1127, descriptorIndex := 18, attributes := #[] }])
  fields := #[{ name := "value", type := (.array .byte), accessFlags := 18, slot := 0, constantValue := 0 }, { name := "coder", type := .byte, accessFlags := 18, slot := 1, constantValue := 0 }, { name := "hash", type := .int, accessFlags := 2, slot := 2, constantValue := 0 }, { name := "hashIsZero", type := .boolean, accessFlags := 2, slot := 3, constantValue := 0 }, { name := "serialVersionUID", type := .long, accessFlags := 26, slot := 0, constantValue := 0 }, { name := "COMPACT_STRINGS", type := .boolean, accessFlags := 24, slot := 1, constantValue := 0 }, { name := "serialPersistentFields", type := (.array (.object "java/io/ObjectStreamField")), accessFlags := 26, slot := 2, constantValue := 0 }, { name := "REPL", type := .char, accessFlags := 26, slot := 3, constantValue := 0 }, { name := "CASE_INSENSITIVE_ORDER", type := (.object "java/util/Comparator"), accessFlags := 25, slot := 4, constantValue := 0 }, { name := "LATIN1", type := .byte, accessFlags := 24, slot := 5, constantValue := 0 }, { name := "UTF16", type := .byte, accessFlags := 24, slot := 6, constantValue := 0 }]
  methods := #[k8m0, k8m1, k8m2, k8m3]
  instanceTypes := #[(.array .byte), .byte, .int, .boolean]
  staticTypes := #[.long, .boolean, (.array (.object "java/io/ObjectStreamField")), .char, (.object "java/util/Comparator"), .byte, .byte]
  resolved := Array.replicate 1451 none
  statics := some 0 }

def pool9 : Array CpInfo := pool [(4, .class_ 6), (1, u "java/lang/Object"), (0, u "<init>"), (0, u "()V"), (5, .class_ 16), (1, u "java/lang/StringLatin1"), (73, u "canEncode"), (14, u "(C)Z"), (15, u "$assertionsDisabled"), (0, u "Z"), (98, .class_ 223), (1, u "java/lang/StringLatin1$LinesSpliterator"), (57, u "equals"), (0, u "([B[B)Z"), (97, u "toBytes"), (1, u "(C)[B"), (7, .class_ 391), (0, u "java/lang/StringLatin1$CharsSpliterator")] 3

def k9m0 : Method := { name := "<init>", desc := "()V", sig := { parameters := [], returnType := none }, accessFlags := 0, code := none }
def k9c1 : Code := { maxStack := 2, maxLocals := 1, code := jdk_43_method_3_code, exceptionTable := #[], attributes := #[] }
def k9m1 : Method := { name := "canEncode", desc := "(C)Z", sig := { parameters := [.char], returnType := some .boolean }, accessFlags := 9, code := some k9c1 }
def k9c2 : Code := { maxStack := 3, maxLocals := 3, code := jdk_43_method_13_code, exceptionTable := #[], attributes := #[] }
def k9m2 : Method := { name := "equals", desc := "([B[B)Z", sig := { parameters := [(.array .byte), (.array .byte)], returnType := some .boolean }, accessFlags := 9, code := some k9c2 }
def k9c3 : Code := { maxStack := 4, maxLocals := 1, code := jdk_43_method_46_code, exceptionTable := #[], attributes := #[] }
def k9m3 : Method := { name := "toBytes", desc := "(C)[B", sig := { parameters := [.char], returnType := some (.array .byte) }, accessFlags := 9, code := some k9c3 }
/-- java/lang/StringLatin1 -/
def k9 : Class := { plain "java/lang/StringLatin1" (some 0) with
  accessFlags := 48
  interfaces := #[]
  cf := some (fileOf pool9 14 #[.nestMembers #[390, 221]] #[{ accessFlags := 0, nameIndex := 7, descriptorIndex := 8, attributes := #[] }, { accessFlags := 9, nameIndex := 90, descriptorIndex := 105, attributes := #[] }, { accessFlags := 9, nameIndex := 281, descriptorIndex := 282, attributes := #[] }, { accessFlags := 9, nameIndex := 380, descriptorIndex := 382, attributes := #[] }] 48 4 #[] #[{ accessFlags := 4120, nameIndex := 121, descriptorIndex := 122, attributes := #[] }])
  fields := #[{ name := "$assertionsDisabled", type := .boolean, accessFlags := 4120, slot := 0, constantValue := 0 }]
  methods := #[k9m0, k9m1, k9m2, k9m3]
  instanceTypes := #[]
  staticTypes := #[.boolean]
  resolved := Array.replicate 395 none
  statics := none }

def pool10 : Array CpInfo := pool [(2, .class_ 4), (1, u "java/lang/Object"), (0, u "<init>"), (0, u "()V"), (17, .class_ 26), (1, u "jdk/internal/util/Preconditions"), (28, .class_ 56), (0, u "jdk/internal/util/Preconditions$4"), (57, .class_ 115), (0, u "jdk/internal/util/Preconditions$1"), (7, u "SIOOBE_FORMATTER"), (0, u "Ljava/util/function/BiFunction;"), (0, .class_ 126), (0, u "jdk/internal/util/Preconditions$2"), (3, u "AIOOBE_FORMATTER"), (0, .class_ 132), (0, u "jdk/internal/util/Preconditions$3"), (3, u "IOOBE_FORMATTER")] 57

def k10m0 : Method := { name := "<init>", desc := "()V", sig := { parameters := [], returnType := none }, accessFlags := 1, code := none }
/-- jdk/internal/util/Preconditions -/
def k10 : Class := { plain "jdk/internal/util/Preconditions" (some 0) with
  accessFlags := 33
  interfaces := #[]
  cf := some (fileOf pool10 24 #[.nestMembers #[55, 131, 125, 114]] #[{ accessFlags := 1, nameIndex := 5, descriptorIndex := 6, attributes := #[] }] 33 2 #[] #[{ accessFlags := 25, nameIndex := 123, descriptorIndex := 124, attributes := #[] }, { accessFlags := 25, nameIndex := 130, descriptorIndex := 124, attributes := #[] }, { accessFlags := 25, nameIndex := 136, descriptorIndex := 124, attributes := #[] }])
  fields := #[{ name := "SIOOBE_FORMATTER", type := (.object "java/util/function/BiFunction"), accessFlags := 25, slot := 0, constantValue := 0 }, { name := "AIOOBE_FORMATTER", type := (.object "java/util/function/BiFunction"), accessFlags := 25, slot := 1, constantValue := 0 }, { name := "IOOBE_FORMATTER", type := (.object "java/util/function/BiFunction"), accessFlags := 25, slot := 2, constantValue := 0 }]
  methods := #[k10m0]
  instanceTypes := #[]
  staticTypes := #[(.object "java/util/function/BiFunction"), (.object "java/util/function/BiFunction"), (.object "java/util/function/BiFunction")]
  resolved := Array.replicate 194 none
  statics := some 1 }

def pool11 : Array CpInfo := pool [(9, u "<init>"), (6, .class_ 18), (1, u "java/lang/Object"), (0, u "()V"), (1, .class_ 23), (1, u "jdk/internal/util/ArraysSupport"), (0, u "LOG2_ARRAY_LONG_INDEX_SCALE"), (0, u "I"), (2, u "U"), (0, u "Ljdk/internal/misc/Unsafe;"), (8, u "BIG_ENDIAN"), (0, u "Z"), (8, u "LOG2_BYTE_BIT_SIZE"), (4, u "LOG2_ARRAY_INT_INDEX_SCALE"), (54, u "JLA"), (0, u "Ljdk/internal/access/JavaLangAccess;"), (11, u "LOG2_ARRAY_BOOLEAN_INDEX_SCALE"), (9, u "LOG2_ARRAY_BYTE_INDEX_SCALE"), (5, u "LOG2_ARRAY_CHAR_INDEX_SCALE"), (5, u "LOG2_ARRAY_SHORT_INDEX_SCALE"), (18, u "LOG2_ARRAY_FLOAT_INDEX_SCALE"), (24, u "LOG2_ARRAY_DOUBLE_INDEX_SCALE"), (89, u "T_BOOLEAN"), (2, u "T_CHAR"), (1, u "T_FLOAT"), (1, u "T_DOUBLE"), (1, u "T_BYTE"), (1, u "T_SHORT"), (1, u "T_INT"), (1, u "T_LONG"), (1, u "SOFT_MAX_ARRAY_LENGTH")] 83

def k11m0 : Method := { name := "<init>", desc := "()V", sig := { parameters := [], returnType := none }, accessFlags := 2, code := none }
/-- jdk/internal/util/ArraysSupport -/
def k11 : Class := { plain "jdk/internal/util/ArraysSupport" (some 0) with
  accessFlags := 33
  interfaces := #[]
  cf := some (fileOf pool11 21 #[] #[{ accessFlags := 2, nameIndex := 9, descriptorIndex := 19, attributes := #[] }] 33 16 #[] #[{ accessFlags := 24, nameIndex := 28, descriptorIndex := 29, attributes := #[] }, { accessFlags := 26, nameIndex := 38, descriptorIndex := 39, attributes := #[] }, { accessFlags := 25, nameIndex := 121, descriptorIndex := 25, attributes := #[] }, { accessFlags := 25, nameIndex := 131, descriptorIndex := 25, attributes := #[] }, { accessFlags := 25, nameIndex := 137, descriptorIndex := 25, attributes := #[] }, { accessFlags := 25, nameIndex := 143, descriptorIndex := 25, attributes := #[] }, { accessFlags := 25, nameIndex := 53, descriptorIndex := 25, attributes := #[] }, { accessFlags := 25, nameIndex := 24, descriptorIndex := 25, attributes := #[] }, { accessFlags := 25, nameIndex := 162, descriptorIndex := 25, attributes := #[] }, { accessFlags := 25, nameIndex := 187, descriptorIndex := 25, attributes := #[] }, { accessFlags := 26, nameIndex := 48, descriptorIndex := 25, attributes := #[] }, { accessFlags := 25, nameIndex := 277, descriptorIndex := 25, attributes := #[] }, { accessFlags := 25, nameIndex := 280, descriptorIndex := 25, attributes := #[] }, { accessFlags := 25, nameIndex := 282, descriptorIndex := 25, attributes := #[] }, { accessFlags := 25, nameIndex := 284, descriptorIndex := 25, attributes := #[] }, { accessFlags := 25, nameIndex := 286, descriptorIndex := 25, attributes := #[] }, { accessFlags := 25, nameIndex := 288, descriptorIndex := 25, attributes := #[] }, { accessFlags := 25, nameIndex := 290, descriptorIndex := 25, attributes := #[] }, { accessFlags := 25, nameIndex := 292, descriptorIndex := 25, attributes := #[] }, { accessFlags := 26, nameIndex := 108, descriptorIndex := 109, attributes := #[] }, { accessFlags := 25, nameIndex := 294, descriptorIndex := 25, attributes := #[] }])
  fields := #[{ name := "U", type := (.object "jdk/internal/misc/Unsafe"), accessFlags := 24, slot := 0, constantValue := 0 }, { name := "BIG_ENDIAN", type := .boolean, accessFlags := 26, slot := 1, constantValue := 0 }, { name := "LOG2_ARRAY_BOOLEAN_INDEX_SCALE", type := .int, accessFlags := 25, slot := 2, constantValue := 0 }, { name := "LOG2_ARRAY_BYTE_INDEX_SCALE", type := .int, accessFlags := 25, slot := 3, constantValue := 0 }, { name := "LOG2_ARRAY_CHAR_INDEX_SCALE", type := .int, accessFlags := 25, slot := 4, constantValue := 0 }, { name := "LOG2_ARRAY_SHORT_INDEX_SCALE", type := .int, accessFlags := 25, slot := 5, constantValue := 0 }, { name := "LOG2_ARRAY_INT_INDEX_SCALE", type := .int, accessFlags := 25, slot := 6, constantValue := 0 }, { name := "LOG2_ARRAY_LONG_INDEX_SCALE", type := .int, accessFlags := 25, slot := 7, constantValue := 0 }, { name := "LOG2_ARRAY_FLOAT_INDEX_SCALE", type := .int, accessFlags := 25, slot := 8, constantValue := 0 }, { name := "LOG2_ARRAY_DOUBLE_INDEX_SCALE", type := .int, accessFlags := 25, slot := 9, constantValue := 0 }, { name := "LOG2_BYTE_BIT_SIZE", type := .int, accessFlags := 26, slot := 10, constantValue := 0 }, { name := "T_BOOLEAN", type := .int, accessFlags := 25, slot := 11, constantValue := 0 }, { name := "T_CHAR", type := .int, accessFlags := 25, slot := 12, constantValue := 0 }, { name := "T_FLOAT", type := .int, accessFlags := 25, slot := 13, constantValue := 0 }, { name := "T_DOUBLE", type := .int, accessFlags := 25, slot := 14, constantValue := 0 }, { name := "T_BYTE", type := .int, accessFlags := 25, slot := 15, constantValue := 0 }, { name := "T_SHORT", type := .int, accessFlags := 25, slot := 16, constantValue := 0 }, { name := "T_INT", type := .int, accessFlags := 25, slot := 17, constantValue := 0 }, { name := "T_LONG", type := .int, accessFlags := 25, slot := 18, constantValue := 0 }, { name := "JLA", type := (.object "jdk/internal/access/JavaLangAccess"), accessFlags := 26, slot := 19, constantValue := 0 }, { name := "SOFT_MAX_ARRAY_LENGTH", type := .int, accessFlags := 25, slot := 20, constantValue := 0 }]
  methods := #[k11m0]
  instanceTypes := #[]
  staticTypes := #[(.object "jdk/internal/misc/Unsafe"), .boolean, .int, .int, .int, .int, .int, .int, .int, .int, .int, .int, .int, .int, .int, .int, .int, .int, .int, (.object "jdk/internal/access/JavaLangAccess"), .int]
  resolved := Array.replicate 378 none
  statics := none }

def pool12 : Array CpInfo := pool [(1, u "java/lang/Cloneable"), (0, .class_ 1), (0, u "java/lang/Object"), (0, .class_ 3)] 3

/-- java/lang/Cloneable -/
def k12 : Class := { plain "java/lang/Cloneable" (some 0) with
  accessFlags := 1537
  interfaces := #[]
  cf := some (fileOf pool12 2 #[] #[] 1537 4 #[] #[])
  fields := #[]
  methods := #[]
  instanceTypes := #[]
  staticTypes := #[]
  resolved := Array.replicate 8 none
  statics := none }

/-- the primitive byte -/
def k13 : Class := { plain "byte" none with kind := .primitive 'B', accessFlags := 0x411 }
/-- [B -/
def k14 : Class := { plain "[B" (some 0) with kind := .array 13 .byte, interfaces := #[12, 3], accessFlags := 1041 }

/-- the primitive int -/
def k15 : Class := { plain "int" none with kind := .primitive 'I', accessFlags := 0x411 }
/-- [I -/
def k16 : Class := { plain "[I" (some 0) with kind := .array 15 .int, interfaces := #[12, 3], accessFlags := 1041 }

/-- [Ljava/lang/String; -/
def k17 : Class := { plain "[Ljava/lang/String;" (some 0) with kind := .array 8 (.object "java/lang/String"), interfaces := #[12, 3], accessFlags := 1041 }

def heap : Heap := #[{ cls := 8, slots := #[.long 0, .int 1, .null, .int 0, .null, .int 0, .int 0], vm := .statics 8 },
  { cls := 10, slots := #[.null, .null, .null], vm := .statics 10 }]
def classes : Array Class := #[k0, k1, k2, k3, k4, k5, k6, k7, k8, k9, k10, k11, k12, k13, k14, k15, k16, k17]
def interned : List (Array UInt16 × Addr) := []
def slotsUsed : Nat := 10
def theMethod : MethodId := ⟨1, 5⟩
def args0 : Array Value := #[.int 3, .int 7, .int 65, .int 9, .int 2, .int 1]
def aboutOver (below : List Frame) : State where
  vm := { classes := classes, interned := interned.toArray }
  heap := heap
  slotsUsed := slotsUsed
  threads := #[{ frames := .invoking theMethod args0 :: below }]
def below0 : List Frame := [.native { method := ⟨0, 0⟩, args := #[] }]
def about1 : State := aboutOver below0
def p0 : Program := .bare "" "" ""
def e0 : Env := launch0.env 0 0 0
theorem w_frames : about1.frames = Frame.invoking theMethod args0 :: below0 := rfl
set_option maxRecDepth 65536 in
theorem w_args : argsFit about1.vm theMethod args0 = true := by decide +kernel
set_option maxRecDepth 65536 in
theorem w_heap : heapFits about1 = true := by decide +kernel
set_option maxRecDepth 65536 in
theorem w_runnable : about1.curStatus? = some .runnable := by decide +kernel
set_option maxRecDepth 65536 in
theorem w_alone : about1.alone = true := by decide +kernel
set_option maxRecDepth 65536 in
theorem w_named : about1.methodNamed? x = some theMethod := by decide +kernel
set_option maxRecDepth 65536 in
theorem w_hears : about1.hears theMethod below0 = true := by decide +kernel
set_option maxRecDepth 65536 in
theorem w_ripe : about1.ripe theMethod args0 below0 = true := by decide +kernel
theorem w_running : about1.status = .running := rfl
set_option maxRecDepth 65536 in
theorem w_room : about1.hasRoom e0.platform room_1 = true :=
  launch0.hasRoom_least _ room_1 (by decide +kernel) (by decide +kernel) (by decide +kernel) (by decide +kernel) (by decide +kernel) (by decide +kernel)
theorem allAtoms_all (ts : List Jvm.Cond) (a : Array Jvm.Value) (st : Jvm.State) : (allAtoms ts).before a st = ts.all (fun c => c.before a st) := by
  induction ts with
  | nil => rfl
  | cons c t ih =>
    show (Jvm.Cond.and c (allAtoms t)).before a st = _
    rw [Jvm.Cond.before_and, ih, List.all_cons]
def words1 : List Jvm.Cond := Jvm.Cond.code x code maxLocals ret :: tables_1
/-- a 'code' word, met by the world's own term for the bytes: nothing is compared byte by byte -/
theorem code_word {y : MethodName} {bytes : ByteArray} {mx : Nat} {rt : Option FieldType} {a : Array Value} {s : State} {m : MethodId} {meth : Method} {c : Code} (h1 : s.methodNamed? y = some m) (h2 : s.vm.method? m = some meth) (h3 : meth.code = some c) (h4 : c.code = bytes)
    (h5 : (c.maxLocals == mx && c.exceptionTable.isEmpty && decide (c.maxStack ≤ mostOperands) && decide (meth.sig.returnType = rt) && !meth.locks && decide (parseMethodDescriptor y.desc = some meth.sig)) = true) : (Jvm.Cond.code y bytes mx rt).before a s = true := by
  simp only [Bool.and_eq_true, beq_iff_eq, Bool.not_eq_true', decide_eq_true_eq] at h5
  obtain ⟨⟨⟨⟨⟨g1, g2⟩, g3⟩, g4⟩, g5⟩, g6⟩ := h5
  simp [Cond.before, Cond.holds, Cond.value, h1, h2, h3, h4, g1, g2, g3, g4, g5, g6]
def isCode : Jvm.Cond → Bool
  | .code _ _ _ _ => true
  | _ => false
theorem all_split {L : List Jvm.Cond} {P : Jvm.Cond → Bool} (h1 : L.all (fun c => isCode c || P c) = true) (h2 : ∀ c ∈ L.filter isCode, P c = true) : L.all P = true := by
  refine List.all_eq_true.mpr fun c hc => ?_
  have h := List.all_eq_true.mp h1 c hc
  rcases Bool.eq_false_or_eq_true (isCode c) with hi | hi
  · exact h2 c (List.mem_filter.mpr ⟨hc, hi⟩)
  · simpa [hi] using h
set_option maxRecDepth 65536 in
theorem w_c0 : (Jvm.Cond.code x code maxLocals ret).before args0 about1 = true := code_word (m := ⟨1, 5⟩) (meth := k1m5) (c := k1c5) (by decide +kernel) rfl rfl rfl (by decide +kernel)
set_option maxRecDepth 65536 in
theorem w_c1 : (Jvm.Cond.code ({ cls := "com/example/raja/raja/xml/CanonicalWriter$Bindings", name := "<init>", desc := "()V" } : Jvm.MethodName) prog_69_method_1_code (1 : Nat) (Option.none : Option Jvm.ClassFile.FieldType)).before args0 about1 = true := code_word (m := ⟨2, 0⟩) (meth := k2m0) (c := k2c0) (by decide +kernel) rfl rfl rfl (by decide +kernel)
set_option maxRecDepth 65536 in
theorem w_c2 : (Jvm.Cond.code ({ cls := "java/lang/Object", name := "<init>", desc := "()V" } : Jvm.MethodName) object_method_1_code (1 : Nat) (Option.none : Option Jvm.ClassFile.FieldType)).before args0 about1 = true := code_word (m := ⟨0, 0⟩) (meth := k0m0) (c := k0c0) (by decide +kernel) rfl rfl rfl (by decide +kernel)
set_option maxRecDepth 65536 in
theorem w_c3 : (Jvm.Cond.code ({ cls := "com/example/raja/raja/xml/BindingsIsFirstPinLaw", name := "prefix", desc := "(I)Ljava/lang/String;" } : Jvm.MethodName) method_3_code (1 : Nat) (Option.some (Jvm.ClassFile.FieldType.object "java/lang/String"))).before args0 about1 = true := code_word (m := ⟨1, 2⟩) (meth := k1m2) (c := k1c2) (by decide +kernel) rfl rfl rfl (by decide +kernel)
set_option maxRecDepth 65536 in
theorem w_c4 : (Jvm.Cond.code ({ cls := "java/lang/String", name := "valueOf", desc := "(C)Ljava/lang/String;" } : Jvm.MethodName) jdk_42_method_139_code (1 : Nat) (Option.some (Jvm.ClassFile.FieldType.object "java/lang/String"))).before args0 about1 = true := code_word (m := ⟨8, 2⟩) (meth := k8m2) (c := k8c2) (by decide +kernel) rfl rfl rfl (by decide +kernel)
set_option maxRecDepth 65536 in
theorem w_c5 : (Jvm.Cond.code ({ cls := "java/lang/StringLatin1", name := "canEncode", desc := "(C)Z" } : Jvm.MethodName) jdk_43_method_3_code (1 : Nat) (Option.some Jvm.ClassFile.FieldType.boolean)).before args0 about1 = true := code_word (m := ⟨9, 1⟩) (meth := k9m1) (c := k9c1) (by decide +kernel) rfl rfl rfl (by decide +kernel)
set_option maxRecDepth 65536 in
theorem w_c6 : (Jvm.Cond.code ({ cls := "java/lang/StringLatin1", name := "toBytes", desc := "(C)[B" } : Jvm.MethodName) jdk_43_method_46_code (1 : Nat) (Option.some (Jvm.ClassFile.FieldType.array Jvm.ClassFile.FieldType.byte))).before args0 about1 = true := code_word (m := ⟨9, 3⟩) (meth := k9m3) (c := k9c3) (by decide +kernel) rfl rfl rfl (by decide +kernel)
set_option maxRecDepth 65536 in
theorem w_c7 : (Jvm.Cond.code ({ cls := "java/lang/String", name := "<init>", desc := "([BB)V" } : Jvm.MethodName) jdk_42_method_151_code (3 : Nat) (Option.none : Option Jvm.ClassFile.FieldType)).before args0 about1 = true := code_word (m := ⟨8, 3⟩) (meth := k8m3) (c := k8c3) (by decide +kernel) rfl rfl rfl (by decide +kernel)
set_option maxRecDepth 65536 in
theorem w_c8 : (Jvm.Cond.code ({ cls := "com/example/raja/raja/xml/BindingsIsFirstPinLaw", name := "value", desc := "(I)Ljava/lang/String;" } : Jvm.MethodName) method_4_code (1 : Nat) (Option.some (Jvm.ClassFile.FieldType.object "java/lang/String"))).before args0 about1 = true := code_word (m := ⟨1, 3⟩) (meth := k1m3) (c := k1c3) (by decide +kernel) rfl rfl rfl (by decide +kernel)
set_option maxRecDepth 65536 in
theorem w_c9 : (Jvm.Cond.code ({ cls := "com/example/raja/raja/xml/CanonicalWriter$Bindings", name := "push", desc := "(Ljava/lang/String;Ljava/lang/String;)V" } : Jvm.MethodName) prog_69_method_2_code (3 : Nat) (Option.none : Option Jvm.ClassFile.FieldType)).before args0 about1 = true := code_word (m := ⟨2, 1⟩) (meth := k2m1) (c := k2c1) (by decide +kernel) rfl rfl rfl (by decide +kernel)
set_option maxRecDepth 65536 in
theorem w_c10 : (Jvm.Cond.code ({ cls := "com/example/raja/raja/xml/BindingsIsFirstPinLaw", name := "pick", desc := "(IIIII)I" } : Jvm.MethodName) method_5_code (5 : Nat) (Option.some Jvm.ClassFile.FieldType.int)).before args0 about1 = true := code_word (m := ⟨1, 4⟩) (meth := k1m4) (c := k1c4) (by decide +kernel) rfl rfl rfl (by decide +kernel)
set_option maxRecDepth 65536 in
theorem w_c11 : (Jvm.Cond.code ({ cls := "com/example/raja/raja/xml/BindingsIsFirstPinLaw", name := "key", desc := "(I)I" } : Jvm.MethodName) method_2_code (1 : Nat) (Option.some Jvm.ClassFile.FieldType.int)).before args0 about1 = true := code_word (m := ⟨1, 1⟩) (meth := k1m1) (c := k1c1) (by decide +kernel) rfl rfl rfl (by decide +kernel)
set_option maxRecDepth 65536 in
theorem w_c12 : (Jvm.Cond.code ({ cls := "com/example/raja/raja/xml/CanonicalWriter$Bindings", name := "isFirst", desc := "(I)Z" } : Jvm.MethodName) prog_69_method_9_code (3 : Nat) (Option.some Jvm.ClassFile.FieldType.boolean)).before args0 about1 = true := code_word (m := ⟨2, 2⟩) (meth := k2m2) (c := k2c2) (by decide +kernel) rfl rfl rfl (by decide +kernel)
set_option maxRecDepth 65536 in
theorem w_c13 : (Jvm.Cond.code ({ cls := "java/lang/String", name := "equals", desc := "(Ljava/lang/Object;)Z" } : Jvm.MethodName) jdk_42_method_66_code (3 : Nat) (Option.some Jvm.ClassFile.FieldType.boolean)).before args0 about1 = true := code_word (m := ⟨8, 1⟩) (meth := k8m1) (c := k8c1) (by decide +kernel) rfl rfl rfl (by decide +kernel)
set_option maxRecDepth 65536 in
theorem w_c14 : (Jvm.Cond.code ({ cls := "java/lang/StringLatin1", name := "equals", desc := "([B[B)Z" } : Jvm.MethodName) jdk_43_method_13_code (3 : Nat) (Option.some Jvm.ClassFile.FieldType.boolean)).before args0 about1 = true := code_word (m := ⟨9, 2⟩) (meth := k9m2) (c := k9c2) (by decide +kernel) rfl rfl rfl (by decide +kernel)
def codes1 : List Jvm.Cond := [Jvm.Cond.code x code maxLocals ret, Jvm.Cond.code ({ cls := "com/example/raja/raja/xml/CanonicalWriter$Bindings", name := "<init>", desc := "()V" } : Jvm.MethodName) prog_69_method_1_code (1 : Nat) (Option.none : Option Jvm.ClassFile.FieldType), Jvm.Cond.code ({ cls := "java/lang/Object", name := "<init>", desc := "()V" } : Jvm.MethodName) object_method_1_code (1 : Nat) (Option.none : Option Jvm.ClassFile.FieldType), Jvm.Cond.code ({ cls := "com/example/raja/raja/xml/BindingsIsFirstPinLaw", name := "prefix", desc := "(I)Ljava/lang/String;" } : Jvm.MethodName) method_3_code (1 : Nat) (Option.some (Jvm.ClassFile.FieldType.object "java/lang/String")), Jvm.Cond.code ({ cls := "java/lang/String", name := "valueOf", desc := "(C)Ljava/lang/String;" } : Jvm.MethodName) jdk_42_method_139_code (1 : Nat) (Option.some (Jvm.ClassFile.FieldType.object "java/lang/String")), Jvm.Cond.code ({ cls := "java/lang/StringLatin1", name := "canEncode", desc := "(C)Z" } : Jvm.MethodName) jdk_43_method_3_code (1 : Nat) (Option.some Jvm.ClassFile.FieldType.boolean), Jvm.Cond.code ({ cls := "java/lang/StringLatin1", name := "toBytes", desc := "(C)[B" } : Jvm.MethodName) jdk_43_method_46_code (1 : Nat) (Option.some (Jvm.ClassFile.FieldType.array Jvm.ClassFile.FieldType.byte)), Jvm.Cond.code ({ cls := "java/lang/String", name := "<init>", desc := "([BB)V" } : Jvm.MethodName) jdk_42_method_151_code (3 : Nat) (Option.none : Option Jvm.ClassFile.FieldType), Jvm.Cond.code ({ cls := "com/example/raja/raja/xml/BindingsIsFirstPinLaw", name := "value", desc := "(I)Ljava/lang/String;" } : Jvm.MethodName) method_4_code (1 : Nat) (Option.some (Jvm.ClassFile.FieldType.object "java/lang/String")), Jvm.Cond.code ({ cls := "com/example/raja/raja/xml/CanonicalWriter$Bindings", name := "push", desc := "(Ljava/lang/String;Ljava/lang/String;)V" } : Jvm.MethodName) prog_69_method_2_code (3 : Nat) (Option.none : Option Jvm.ClassFile.FieldType), Jvm.Cond.code ({ cls := "com/example/raja/raja/xml/BindingsIsFirstPinLaw", name := "pick", desc := "(IIIII)I" } : Jvm.MethodName) method_5_code (5 : Nat) (Option.some Jvm.ClassFile.FieldType.int), Jvm.Cond.code ({ cls := "com/example/raja/raja/xml/BindingsIsFirstPinLaw", name := "key", desc := "(I)I" } : Jvm.MethodName) method_2_code (1 : Nat) (Option.some Jvm.ClassFile.FieldType.int), Jvm.Cond.code ({ cls := "com/example/raja/raja/xml/CanonicalWriter$Bindings", name := "isFirst", desc := "(I)Z" } : Jvm.MethodName) prog_69_method_9_code (3 : Nat) (Option.some Jvm.ClassFile.FieldType.boolean), Jvm.Cond.code ({ cls := "java/lang/String", name := "equals", desc := "(Ljava/lang/Object;)Z" } : Jvm.MethodName) jdk_42_method_66_code (3 : Nat) (Option.some Jvm.ClassFile.FieldType.boolean), Jvm.Cond.code ({ cls := "java/lang/StringLatin1", name := "equals", desc := "([B[B)Z" } : Jvm.MethodName) jdk_43_method_13_code (3 : Nat) (Option.some Jvm.ClassFile.FieldType.boolean)]
set_option maxRecDepth 65536 in
theorem codes_eq : words1.filter isCode = codes1 := rfl
theorem w_codes : ∀ c ∈ words1.filter isCode, c.before args0 about1 = true := by
  rw [codes_eq]
  intro c hc
  simp only [codes1, List.mem_cons, List.not_mem_nil, or_false] at hc
  rcases hc with rfl | rfl | rfl | rfl | rfl | rfl | rfl | rfl | rfl | rfl | rfl | rfl | rfl | rfl | rfl
  · exact w_c0
  · exact w_c1
  · exact w_c2
  · exact w_c3
  · exact w_c4
  · exact w_c5
  · exact w_c6
  · exact w_c7
  · exact w_c8
  · exact w_c9
  · exact w_c10
  · exact w_c11
  · exact w_c12
  · exact w_c13
  · exact w_c14
set_option maxRecDepth 65536 in
theorem w_t1 : (words1.take 24).all (fun c => isCode c || c.before args0 about1) = true := by decide +kernel
set_option maxRecDepth 65536 in
theorem w_t2 : ((words1.drop 24).take 24).all (fun c => isCode c || c.before args0 about1) = true := by decide +kernel
set_option maxRecDepth 65536 in
theorem w_t3 : (((words1.drop 24).drop 24).take 24).all (fun c => isCode c || c.before args0 about1) = true := by decide +kernel
set_option maxRecDepth 65536 in
theorem w_t4 : (((words1.drop 24).drop 24).drop 24).all (fun c => isCode c || c.before args0 about1) = true := by decide +kernel
theorem w_tables : (allAtoms (Jvm.Cond.code x code maxLocals ret :: tables_1)).before args0 about1 = true := by
  rw [allAtoms_all]
  show words1.all (fun c => c.before args0 about1) = true
  refine all_split ?_ w_codes
  rw [← List.take_append_drop 24 words1, List.all_append, w_t1, ← List.take_append_drop 24 (words1.drop 24), List.all_append, w_t2, ← List.take_append_drop 24 ((words1.drop 24).drop 24), List.all_append, w_t3, w_t4]
  rfl
set_option maxRecDepth 65536 in
theorem w_rest : rest_1_c.before args0 about1 = true := by decide +kernel
set_option maxRecDepth 65536 in
theorem w_case : (Jvm.Cond.and given_1 narrow_1).before args0 about1 = true := by decide +kernel
set_option maxRecDepth 65536 in
theorem w_consts : constsHeld consts_1 about1 := Jvm.Lit.constsHeldB_iff.mp (by decide +kernel)
theorem w_applies : (headSpec (Jvm.Cond.code x code maxLocals ret :: tables_1) room_1).applies x e0.platform about1 = true :=
  (Spec.applies_iff w_frames).mpr ⟨w_running, w_runnable, w_alone, w_named, w_hears, w_ripe, w_room, w_tables⟩
theorem atStart : AtStart classFile x code maxLocals ret World_1 tables_1 room_1 Calls_1 rest_1 Pre_1 launch0 p0 e0 about1 theMethod args0 below0 :=
  ⟨lists_1, trivial, launch0.admits_env _ _ _, launch0.least_env, fairChoices_fair.cas, fairChoices_fair.clock, w_frames, w_args, w_heap, w_applies, ⟨w_consts, trivial⟩, w_rest, w_case⟩
end start1
theorem witness_1 : WitnessClaimed_1 := ⟨start1.p0, start1.e0, start1.about1, start1.theMethod, start1.args0, start1.below0, start1.atStart⟩
end Jvm.Pilot.@@N@@
