import JvmDerived
import JvmDerived.Pilot.@@N@@Statement
import JvmDerived.Pilot.@@N@@Code
set_option linter.unusedVariables false
set_option linter.unusedSimpArgs false
@@BLOCK:NumsL.lean.txt@@
namespace Jvm.Pilot.@@N@@
open Jvm Jvm.ClassFile Sem Op Lib Jvm.Free Jvm.Stand Jvm.LawKit Jvm.RoadKit Bundle Jvm.Pilot.@@N@@.Jvm.D
/-- the run from t comes to a state of G -/
def Go (p : Program) (e : Env) (below : List Frame) (G : State → Prop) (t : State) : Prop := ∃ s₂, Steps p.tables e below t s₂ ∧ G s₂
/-- the end of a body -/
def Done (below : List Frame) (s : State) (n0 : Nat) (Q : Option Value → Heap → Prop) (C N : Nat) (s₂ : State) : Prop := ∃ o, s₂.status = .running ∧ Ended s₂ below o ∧ ∃ v L, o = .returned v ∧ (Fr n0 L ∧ Q v s₂.heap) ∧ FrameEnd s o s₂ L C N
def Val (Q : Value → Heap → Prop) : Option Value → Heap → Prop := fun o h => ∃ v, o = some v ∧ Q v h
def Non (Q : Heap → Prop) : Option Value → Heap → Prop := fun o h => o = none ∧ Q h
theorem go_of {p : Program} {e : Env} {below : List Frame} {G : State → Prop} {t t' : State} (f : ∀ target, Steps p.tables e below t' target → Steps p.tables e below t target) (k : Go p e below G t') : Go p e below G t := by
  obtain ⟨s₂, h, g⟩ := k; exact ⟨s₂, f _ h, g⟩
/-- where a run stands: the heap, fresh writes only, the body's own facts -/
def Sd (l : Launch) (Z : State) (n0 : Nat) (y : MethodName) (bytes : ByteArray) (maxL : Nat) (ret : Option FieldType) (R : Room) (p : Program) (e : Env) (s : State) (m : MethodId) (args : Array Value) (below : List Frame) (T : State) (h : Heap) (cells slots : Nat) : Prop :=
  ∃ meth c locs, Stand p l e R s m args below meth c T locs cells slots ∧ T.heap = h ∧ Fr n0 locs ∧ p.tables.exec = Jvm.exec ∧ c.code = bytes ∧ c.maxLocals = maxL ∧ s.vm.findClass y.cls = some m.cls ∧ meth.name = y.name ∧ meth.sig.returnType = ret ∧ meth.locks = false ∧ Z.Warmed39 s.vm ∧ n0 ≤ s.heap.size
/-- a body's contract -/
def Con (l : Launch) (Z : State) (n0 : Nat) (y : MethodName) (bytes : ByteArray) (maxL : Nat) (ret : Option FieldType) (rm : Room) (as' : Array Value) (h : Heap) (Q : Option Value → Heap → Prop) : Prop :=
  ∀ ws, MetFree l y (head1 (Jvm.Cond.code y bytes maxL ret :: ws) rm) (fun a U => a = as' ∧ Z.Warmed39 U.vm ∧ U.heap = h) (fun _ _ _ _ _ => True) (fun _ U o U' => ∃ v L, o = .returned v ∧ (Fr n0 L ∧ Q v U'.heap) ∧ FrameEnd U o U' L rm.cells rm.slots)
theorem con_intro {l : Launch} {Z : State} {n0 : Nat} {y : MethodName} {bytes : ByteArray} {maxL : Nat} {ret : Option FieldType} {rm : Room} {as' : Array Value} {h : Heap} {Q : Option Value → Heap → Prop} (hp : plainFor y = true) (hn : n0 ≤ h.size) {fr : MethodId → JFrame} (ef : ∀ m, entryFrame m as' maxL = fr m)
    (body : ∀ p e s m below s₁, s.heap = h → Sd l Z n0 y bytes maxL ret rm p e s m as' below s₁ h 0 0 → Go p e below (Done below s n0 Q rm.cells rm.slots) (s₁.setTop (fr m))) : Con l Z n0 y bytes maxL ret rm as' h Q := by
  intro ws
  refine MetFree.of_bodySF hp hisR ?_
  intro p e s m args below meth c s₁ Bd hml0 hP hK
  obtain ⟨rfl, hZ, hh⟩ := hP
  have e0 : s₁.heap = h := by rw [← hh, Bd.state]; rfl
  obtain ⟨s₂, st, o, r1, r2, r3⟩ := body p e s m below s₁ hh ⟨meth, c, [], Stand.of_body Bd, e0, Fr.nil n0, Bd.exec, Bd.bytes, hml0, findClass_of_methodNamed Bd.named, (name_of_methodNamed Bd.named Bd.method).1, Bd.returns, Bd.notSynchronized, hZ, by rw [hh]; exact hn⟩
  exact ⟨s₂, o, castTop (ef m) st, r1, r2, r3⟩
theorem con_mono {l : Launch} {Z : State} {n0 : Nat} {y : MethodName} {bytes : ByteArray} {maxL : Nat} {ret : Option FieldType} {rm : Room} {as' : Array Value} {h : Heap} {Q Q' : Option Value → Heap → Prop} (hq : ∀ v h', Q v h' → Q' v h') (H : Con l Z n0 y bytes maxL ret rm as' h Q) : Con l Z n0 y bytes maxL ret rm as' h Q' := by
  intro ws p e ha hc hk s m args below hf happ hP hK
  obtain ⟨n, o, h1, h2, h3, v, L, h4, h5, h6⟩ := H ws p e ha hc hk s m args below hf happ hP hK
  exact ⟨n, o, h1, h2, h3, v, L, h4, ⟨h5.1, hq _ _ h5.2⟩, h6⟩
section Walk
variable {l : Launch} {Z : State} {n0 : Nat} {y : MethodName} {bytes : ByteArray} {maxL : Nat} {ret : Option FieldType} {R : Room} {p : Program} {e : Env} {s : State} {m : MethodId} {args : Array Value} {below : List Frame} {T : State} {h : Heap} {cells slots : Nat} {G : State → Prop} {a0 : Array Value} {pc pc' : Nat} {Ls : Array Slot} {S : List Value}
theorem sd_more (X : Sd l Z n0 y bytes maxL ret R p e s m args below T h cells slots) {cells' slots' : Nat} (hc : cells ≤ cells') (hs : slots ≤ slots') : Sd l Z n0 y bytes maxL ret R p e s m args below T h cells' slots' := by
  obtain ⟨meth, c, locs, X, r⟩ := X; exact ⟨meth, c, locs, X.more hc hs, r⟩
theorem sd_size (X : Sd l Z n0 y bytes maxL ret R p e s m args below T h cells slots) : n0 ≤ h.size := by
  obtain ⟨meth, c, locs, X, rfl, -, -, -, -, -, -, -, -, -, hn⟩ := X
  exact Nat.le_trans hn X.same.2.1
theorem sd_ext (X : Sd l Z n0 y bytes maxL ret R p e s m args below T h cells slots) {h0 : Heap} (hs : s.heap = h0) (hN : h0.size ≤ n0) : Ext h0 h := by
  obtain ⟨meth, c, locs, X, rfl, N, -⟩ := X
  subst hs
  refine ⟨X.same.2.1, fun a ca ha => ?_⟩
  obtain ⟨c', h1, h2, h3, h4⟩ := X.same.2.2.2.2.2 a ca ha
  have hlt : a < s.heap.size := (Array.getElem?_eq_some_iff.mp ha).1
  have e : c'.slots = ca.slots := by
    apply Array.ext_getElem?
    intro i
    exact h4 i (fun q => Nat.lt_irrefl _ (Nat.lt_of_lt_of_le hlt (Nat.le_trans hN (N _ q))))
  rw [e] at h2
  rw [h2] at h1
  exact h1
theorem w_iloadN (X : Sd l Z n0 y bytes maxL ret R p e s m args below T h cells slots) {k : Fin 4} {v : Int32} (hd : decode bytes pc = .ok (.iload_n k, 1)) (hl : Ls[k.val]? = some (.val (.int v))) (hp : pc' = pc + 1) (K : Go p e below G (T.setTop (mkF m pc' Ls (.int v :: S)))) : Go p e below G (T.setTop (mkF m pc Ls S)) := by
  obtain ⟨meth, c, locs, X, eT, N, hx, hby, hml, hown, hnm, hret, hlk, hZ, hn⟩ := X; subst hp
  exact go_of (fun _ k => XS.iloadN (g := (mkF m pc Ls S)) X.here hx rfl (hb hby hd) hl k) K
theorem w_iload (X : Sd l Z n0 y bytes maxL ret R p e s m args below T h cells slots) {k : Nat} {v : Int32} (hd : decode bytes pc = .ok (.iload k, 2)) (hl : Ls[k]? = some (.val (.int v))) (hp : pc' = pc + 2) (K : Go p e below G (T.setTop (mkF m pc' Ls (.int v :: S)))) : Go p e below G (T.setTop (mkF m pc Ls S)) := by
  obtain ⟨meth, c, locs, X, eT, N, hx, hby, hml, hown, hnm, hret, hlk, hZ, hn⟩ := X; subst hp
  exact go_of (fun _ k => XS.iload (g := (mkF m pc Ls S)) X.here hx rfl (hb hby hd) hl k) K
theorem w_istoreN (X : Sd l Z n0 y bytes maxL ret R p e s m args below T h cells slots) {k : Fin 4} {v : Int32} {l' : Array Slot} (hd : decode bytes pc = .ok (.istore_n k, 1)) (hl : storeLocals Ls k.val (.int v) = some l') (hp : pc' = pc + 1) (K : Go p e below G (T.setTop (mkF m pc' l' S))) : Go p e below G (T.setTop (mkF m pc Ls (.int v :: S))) := by
  obtain ⟨meth, c, locs, X, eT, N, hx, hby, hml, hown, hnm, hret, hlk, hZ, hn⟩ := X; subst hp
  exact go_of (fun _ k => XS.istoreN (g := (mkF m pc Ls (.int v :: S))) X.here hx rfl (hb hby hd) rfl hl k) K
theorem w_istore (X : Sd l Z n0 y bytes maxL ret R p e s m args below T h cells slots) {k : Nat} {v : Int32} {l' : Array Slot} (hd : decode bytes pc = .ok (.istore k, 2)) (hl : storeLocals Ls k (.int v) = some l') (hp : pc' = pc + 2) (K : Go p e below G (T.setTop (mkF m pc' l' S))) : Go p e below G (T.setTop (mkF m pc Ls (.int v :: S))) := by
  obtain ⟨meth, c, locs, X, eT, N, hx, hby, hml, hown, hnm, hret, hlk, hZ, hn⟩ := X; subst hp
  exact go_of (fun _ k => XS.istore (g := (mkF m pc Ls (.int v :: S))) X.here hx rfl (hb hby hd) rfl hl k) K
theorem w_lloadN (X : Sd l Z n0 y bytes maxL ret R p e s m args below T h cells slots) {k : Fin 4} {v : Int64} (hd : decode bytes pc = .ok (.lload_n k, 1)) (hl : Ls[k.val]? = some (.val (.long v))) (hp : pc' = pc + 1) (K : Go p e below G (T.setTop (mkF m pc' Ls (.long v :: S)))) : Go p e below G (T.setTop (mkF m pc Ls S)) := by
  obtain ⟨meth, c, locs, X, eT, N, hx, hby, hml, hown, hnm, hret, hlk, hZ, hn⟩ := X; subst hp
  exact go_of (fun _ k => XS.lloadN (g := (mkF m pc Ls S)) X.here hx rfl (hb hby hd) hl k) K
theorem w_lload (X : Sd l Z n0 y bytes maxL ret R p e s m args below T h cells slots) {k : Nat} {v : Int64} (hd : decode bytes pc = .ok (.lload k, 2)) (hl : Ls[k]? = some (.val (.long v))) (hp : pc' = pc + 2) (K : Go p e below G (T.setTop (mkF m pc' Ls (.long v :: S)))) : Go p e below G (T.setTop (mkF m pc Ls S)) := by
  obtain ⟨meth, c, locs, X, eT, N, hx, hby, hml, hown, hnm, hret, hlk, hZ, hn⟩ := X; subst hp
  exact go_of (fun _ k => XS.lload (g := (mkF m pc Ls S)) X.here hx rfl (hb hby hd) hl k) K
theorem w_lstoreN (X : Sd l Z n0 y bytes maxL ret R p e s m args below T h cells slots) {k : Fin 4} {v : Int64} {l' : Array Slot} (hd : decode bytes pc = .ok (.lstore_n k, 1)) (hl : storeLocals Ls k.val (.long v) = some l') (hp : pc' = pc + 1) (K : Go p e below G (T.setTop (mkF m pc' l' S))) : Go p e below G (T.setTop (mkF m pc Ls (.long v :: S))) := by
  obtain ⟨meth, c, locs, X, eT, N, hx, hby, hml, hown, hnm, hret, hlk, hZ, hn⟩ := X; subst hp
  exact go_of (fun _ k => XS.lstoreN (g := (mkF m pc Ls (.long v :: S))) X.here hx rfl (hb hby hd) rfl hl k) K
theorem w_lstore (X : Sd l Z n0 y bytes maxL ret R p e s m args below T h cells slots) {k : Nat} {v : Int64} {l' : Array Slot} (hd : decode bytes pc = .ok (.lstore k, 2)) (hl : storeLocals Ls k (.long v) = some l') (hp : pc' = pc + 2) (K : Go p e below G (T.setTop (mkF m pc' l' S))) : Go p e below G (T.setTop (mkF m pc Ls (.long v :: S))) := by
  obtain ⟨meth, c, locs, X, eT, N, hx, hby, hml, hown, hnm, hret, hlk, hZ, hn⟩ := X; subst hp
  exact go_of (fun _ k => XS.lstore (g := (mkF m pc Ls (.long v :: S))) X.here hx rfl (hb hby hd) rfl hl k) K
theorem w_aloadN (X : Sd l Z n0 y bytes maxL ret R p e s m args below T h cells slots) {k : Fin 4} {v : Value} (hd : decode bytes pc = .ok (.aload_n k, 1)) (hl : Ls[k.val]? = some (.val v)) (hv : v.isRef = true) (hp : pc' = pc + 1) (K : Go p e below G (T.setTop (mkF m pc' Ls (v :: S)))) : Go p e below G (T.setTop (mkF m pc Ls S)) := by
  obtain ⟨meth, c, locs, X, eT, N, hx, hby, hml, hown, hnm, hret, hlk, hZ, hn⟩ := X; subst hp
  exact go_of (fun _ k => XS.aloadN (g := (mkF m pc Ls S)) X.here hx rfl (hb hby hd) hl hv k) K
theorem w_aload (X : Sd l Z n0 y bytes maxL ret R p e s m args below T h cells slots) {k : Nat} {v : Value} (hd : decode bytes pc = .ok (.aload k, 2)) (hl : Ls[k]? = some (.val v)) (hv : v.isRef = true) (hp : pc' = pc + 2) (K : Go p e below G (T.setTop (mkF m pc' Ls (v :: S)))) : Go p e below G (T.setTop (mkF m pc Ls S)) := by
  obtain ⟨meth, c, locs, X, eT, N, hx, hby, hml, hown, hnm, hret, hlk, hZ, hn⟩ := X; subst hp
  exact go_of (fun _ k => XS.aload (g := (mkF m pc Ls S)) X.here hx rfl (hb hby hd) hl hv k) K
theorem w_astoreN (X : Sd l Z n0 y bytes maxL ret R p e s m args below T h cells slots) {k : Fin 4} {v : Value} {l' : Array Slot} (hd : decode bytes pc = .ok (.astore_n k, 1)) (hv : v.isRef = true) (hl : storeLocals Ls k.val v = some l') (hp : pc' = pc + 1) (K : Go p e below G (T.setTop (mkF m pc' l' S))) : Go p e below G (T.setTop (mkF m pc Ls (v :: S))) := by
  obtain ⟨meth, c, locs, X, eT, N, hx, hby, hml, hown, hnm, hret, hlk, hZ, hn⟩ := X; subst hp
  exact go_of (fun _ k => XS.astoreN (g := (mkF m pc Ls (v :: S))) X.here hx rfl (hb hby hd) rfl hv hl k) K
theorem w_astore (X : Sd l Z n0 y bytes maxL ret R p e s m args below T h cells slots) {k : Nat} {v : Value} {l' : Array Slot} (hd : decode bytes pc = .ok (.astore k, 2)) (hv : v.isRef = true) (hl : storeLocals Ls k v = some l') (hp : pc' = pc + 2) (K : Go p e below G (T.setTop (mkF m pc' l' S))) : Go p e below G (T.setTop (mkF m pc Ls (v :: S))) := by
  obtain ⟨meth, c, locs, X, eT, N, hx, hby, hml, hown, hnm, hret, hlk, hZ, hn⟩ := X; subst hp
  exact go_of (fun _ k => XS.astore (g := (mkF m pc Ls (v :: S))) X.here hx rfl (hb hby hd) rfl hv hl k) K
theorem w_iconst (X : Sd l Z n0 y bytes maxL ret R p e s m args below T h cells slots) {i : Int} (z : Int32) (hd : decode bytes pc = .ok (.iconst i, 1)) (hz : Int32.ofInt i = z) (hp : pc' = pc + 1) (K : Go p e below G (T.setTop (mkF m pc' Ls (.int z :: S)))) : Go p e below G (T.setTop (mkF m pc Ls S)) := by
  obtain ⟨meth, c, locs, X, eT, N, hx, hby, hml, hown, hnm, hret, hlk, hZ, hn⟩ := X; subst hp
  exact go_of (fun _ k => XS.iconst (g := mkF m pc Ls S) X.here hx rfl (hb hby hd) (by rw [hz]; exact k)) K
theorem w_bipush (X : Sd l Z n0 y bytes maxL ret R p e s m args below T h cells slots) {i : Int} (z : Int32) (hd : decode bytes pc = .ok (.bipush i, 2)) (hz : (Int8.ofInt i).toInt32 = z) (hp : pc' = pc + 2) (K : Go p e below G (T.setTop (mkF m pc' Ls (.int z :: S)))) : Go p e below G (T.setTop (mkF m pc Ls S)) := by
  obtain ⟨meth, c, locs, X, eT, N, hx, hby, hml, hown, hnm, hret, hlk, hZ, hn⟩ := X; subst hp
  exact go_of (fun _ k => XS.bipush (g := mkF m pc Ls S) X.here hx rfl (hb hby hd) (by rw [hz]; exact k)) K
theorem w_sipush (X : Sd l Z n0 y bytes maxL ret R p e s m args below T h cells slots) {i : Int} (z : Int32) (hd : decode bytes pc = .ok (.sipush i, 3)) (hz : (Int16.ofInt i).toInt32 = z) (hp : pc' = pc + 3) (K : Go p e below G (T.setTop (mkF m pc' Ls (.int z :: S)))) : Go p e below G (T.setTop (mkF m pc Ls S)) := by
  obtain ⟨meth, c, locs, X, eT, N, hx, hby, hml, hown, hnm, hret, hlk, hZ, hn⟩ := X; subst hp
  exact go_of (fun _ k => XS.sipush (g := mkF m pc Ls S) X.here hx rfl (hb hby hd) (by rw [hz]; exact k)) K
theorem w_lconst (X : Sd l Z n0 y bytes maxL ret R p e s m args below T h cells slots) {i : Fin 2} (z : Int64) (hd : decode bytes pc = .ok (.lconst i, 1)) (hz : Int64.ofNat i = z) (hp : pc' = pc + 1) (K : Go p e below G (T.setTop (mkF m pc' Ls (.long z :: S)))) : Go p e below G (T.setTop (mkF m pc Ls S)) := by
  obtain ⟨meth, c, locs, X, eT, N, hx, hby, hml, hown, hnm, hret, hlk, hZ, hn⟩ := X; subst hp
  exact go_of (fun _ k => XS.lconst (g := mkF m pc Ls S) X.here hx rfl (hb hby hd) (by rw [hz]; exact k)) K
theorem w_aconst_null (X : Sd l Z n0 y bytes maxL ret R p e s m args below T h cells slots)  (hd : decode bytes pc = .ok (.aconst_null, 1)) (hp : pc' = pc + 1) (K : Go p e below G (T.setTop (mkF m pc' Ls (.null :: S)))) : Go p e below G (T.setTop (mkF m pc Ls S)) := by
  obtain ⟨meth, c, locs, X, eT, N, hx, hby, hml, hown, hnm, hret, hlk, hZ, hn⟩ := X; subst hp
  exact go_of (fun _ k => XS.aconstNull (g := (mkF m pc Ls S)) X.here hx rfl (hb hby hd)  k) K
theorem w_iadd (X : Sd l Z n0 y bytes maxL ret R p e s m args below T h cells slots) {a b : Int32} (hd : decode bytes pc = .ok (.iadd, 1)) (hp : pc' = pc + 1) (K : Go p e below G (T.setTop (mkF m pc' Ls (.int (a + b) :: S)))) : Go p e below G (T.setTop (mkF m pc Ls (.int b :: .int a :: S))) := by
  obtain ⟨meth, c, locs, X, eT, N, hx, hby, hml, hown, hnm, hret, hlk, hZ, hn⟩ := X; subst hp
  exact go_of (fun _ k => XS.iadd (g := (mkF m pc Ls (.int b :: .int a :: S))) X.here hx rfl (hb hby hd) rfl k) K
theorem w_ladd (X : Sd l Z n0 y bytes maxL ret R p e s m args below T h cells slots) {a b : Int64} (hd : decode bytes pc = .ok (.ladd, 1)) (hp : pc' = pc + 1) (K : Go p e below G (T.setTop (mkF m pc' Ls (.long (a + b) :: S)))) : Go p e below G (T.setTop (mkF m pc Ls (.long b :: .long a :: S))) := by
  obtain ⟨meth, c, locs, X, eT, N, hx, hby, hml, hown, hnm, hret, hlk, hZ, hn⟩ := X; subst hp
  exact go_of (fun _ k => XS.ladd (g := (mkF m pc Ls (.long b :: .long a :: S))) X.here hx rfl (hb hby hd) rfl k) K
theorem w_isub (X : Sd l Z n0 y bytes maxL ret R p e s m args below T h cells slots) {a b : Int32} (hd : decode bytes pc = .ok (.isub, 1)) (hp : pc' = pc + 1) (K : Go p e below G (T.setTop (mkF m pc' Ls (.int (a - b) :: S)))) : Go p e below G (T.setTop (mkF m pc Ls (.int b :: .int a :: S))) := by
  obtain ⟨meth, c, locs, X, eT, N, hx, hby, hml, hown, hnm, hret, hlk, hZ, hn⟩ := X; subst hp
  exact go_of (fun _ k => XS.isub (g := (mkF m pc Ls (.int b :: .int a :: S))) X.here hx rfl (hb hby hd) rfl k) K
theorem w_lsub (X : Sd l Z n0 y bytes maxL ret R p e s m args below T h cells slots) {a b : Int64} (hd : decode bytes pc = .ok (.lsub, 1)) (hp : pc' = pc + 1) (K : Go p e below G (T.setTop (mkF m pc' Ls (.long (a - b) :: S)))) : Go p e below G (T.setTop (mkF m pc Ls (.long b :: .long a :: S))) := by
  obtain ⟨meth, c, locs, X, eT, N, hx, hby, hml, hown, hnm, hret, hlk, hZ, hn⟩ := X; subst hp
  exact go_of (fun _ k => XS.lsub (g := (mkF m pc Ls (.long b :: .long a :: S))) X.here hx rfl (hb hby hd) rfl k) K
theorem w_imul (X : Sd l Z n0 y bytes maxL ret R p e s m args below T h cells slots) {a b : Int32} (hd : decode bytes pc = .ok (.imul, 1)) (hp : pc' = pc + 1) (K : Go p e below G (T.setTop (mkF m pc' Ls (.int (a * b) :: S)))) : Go p e below G (T.setTop (mkF m pc Ls (.int b :: .int a :: S))) := by
  obtain ⟨meth, c, locs, X, eT, N, hx, hby, hml, hown, hnm, hret, hlk, hZ, hn⟩ := X; subst hp
  exact go_of (fun _ k => XS.imul (g := (mkF m pc Ls (.int b :: .int a :: S))) X.here hx rfl (hb hby hd) rfl k) K
theorem w_lmul (X : Sd l Z n0 y bytes maxL ret R p e s m args below T h cells slots) {a b : Int64} (hd : decode bytes pc = .ok (.lmul, 1)) (hp : pc' = pc + 1) (K : Go p e below G (T.setTop (mkF m pc' Ls (.long (a * b) :: S)))) : Go p e below G (T.setTop (mkF m pc Ls (.long b :: .long a :: S))) := by
  obtain ⟨meth, c, locs, X, eT, N, hx, hby, hml, hown, hnm, hret, hlk, hZ, hn⟩ := X; subst hp
  exact go_of (fun _ k => XS.lmul (g := (mkF m pc Ls (.long b :: .long a :: S))) X.here hx rfl (hb hby hd) rfl k) K
theorem w_iand (X : Sd l Z n0 y bytes maxL ret R p e s m args below T h cells slots) {a b : Int32} (hd : decode bytes pc = .ok (.iand, 1)) (hp : pc' = pc + 1) (K : Go p e below G (T.setTop (mkF m pc' Ls (.int (a &&& b) :: S)))) : Go p e below G (T.setTop (mkF m pc Ls (.int b :: .int a :: S))) := by
  obtain ⟨meth, c, locs, X, eT, N, hx, hby, hml, hown, hnm, hret, hlk, hZ, hn⟩ := X; subst hp
  exact go_of (fun _ k => XS.iand (g := (mkF m pc Ls (.int b :: .int a :: S))) X.here hx rfl (hb hby hd) rfl k) K
theorem w_land (X : Sd l Z n0 y bytes maxL ret R p e s m args below T h cells slots) {a b : Int64} (hd : decode bytes pc = .ok (.land, 1)) (hp : pc' = pc + 1) (K : Go p e below G (T.setTop (mkF m pc' Ls (.long (a &&& b) :: S)))) : Go p e below G (T.setTop (mkF m pc Ls (.long b :: .long a :: S))) := by
  obtain ⟨meth, c, locs, X, eT, N, hx, hby, hml, hown, hnm, hret, hlk, hZ, hn⟩ := X; subst hp
  exact go_of (fun _ k => XS.land (g := (mkF m pc Ls (.long b :: .long a :: S))) X.here hx rfl (hb hby hd) rfl k) K
theorem w_ior (X : Sd l Z n0 y bytes maxL ret R p e s m args below T h cells slots) {a b : Int32} (hd : decode bytes pc = .ok (.ior, 1)) (hp : pc' = pc + 1) (K : Go p e below G (T.setTop (mkF m pc' Ls (.int (a ||| b) :: S)))) : Go p e below G (T.setTop (mkF m pc Ls (.int b :: .int a :: S))) := by
  obtain ⟨meth, c, locs, X, eT, N, hx, hby, hml, hown, hnm, hret, hlk, hZ, hn⟩ := X; subst hp
  exact go_of (fun _ k => XS.ior (g := (mkF m pc Ls (.int b :: .int a :: S))) X.here hx rfl (hb hby hd) rfl k) K
theorem w_lor (X : Sd l Z n0 y bytes maxL ret R p e s m args below T h cells slots) {a b : Int64} (hd : decode bytes pc = .ok (.lor, 1)) (hp : pc' = pc + 1) (K : Go p e below G (T.setTop (mkF m pc' Ls (.long (a ||| b) :: S)))) : Go p e below G (T.setTop (mkF m pc Ls (.long b :: .long a :: S))) := by
  obtain ⟨meth, c, locs, X, eT, N, hx, hby, hml, hown, hnm, hret, hlk, hZ, hn⟩ := X; subst hp
  exact go_of (fun _ k => XS.lor (g := (mkF m pc Ls (.long b :: .long a :: S))) X.here hx rfl (hb hby hd) rfl k) K
theorem w_ixor (X : Sd l Z n0 y bytes maxL ret R p e s m args below T h cells slots) {a b : Int32} (hd : decode bytes pc = .ok (.ixor, 1)) (hp : pc' = pc + 1) (K : Go p e below G (T.setTop (mkF m pc' Ls (.int (a ^^^ b) :: S)))) : Go p e below G (T.setTop (mkF m pc Ls (.int b :: .int a :: S))) := by
  obtain ⟨meth, c, locs, X, eT, N, hx, hby, hml, hown, hnm, hret, hlk, hZ, hn⟩ := X; subst hp
  exact go_of (fun _ k => XS.ixor (g := (mkF m pc Ls (.int b :: .int a :: S))) X.here hx rfl (hb hby hd) rfl k) K
theorem w_lxor (X : Sd l Z n0 y bytes maxL ret R p e s m args below T h cells slots) {a b : Int64} (hd : decode bytes pc = .ok (.lxor, 1)) (hp : pc' = pc + 1) (K : Go p e below G (T.setTop (mkF m pc' Ls (.long (a ^^^ b) :: S)))) : Go p e below G (T.setTop (mkF m pc Ls (.long b :: .long a :: S))) := by
  obtain ⟨meth, c, locs, X, eT, N, hx, hby, hml, hown, hnm, hret, hlk, hZ, hn⟩ := X; subst hp
  exact go_of (fun _ k => XS.lxor (g := (mkF m pc Ls (.long b :: .long a :: S))) X.here hx rfl (hb hby hd) rfl k) K
theorem w_ishl (X : Sd l Z n0 y bytes maxL ret R p e s m args below T h cells slots) {a b : Int32} (hd : decode bytes pc = .ok (.ishl, 1)) (hp : pc' = pc + 1) (K : Go p e below G (T.setTop (mkF m pc' Ls (.int (a <<< (b &&& 31)) :: S)))) : Go p e below G (T.setTop (mkF m pc Ls (.int b :: .int a :: S))) := by
  obtain ⟨meth, c, locs, X, eT, N, hx, hby, hml, hown, hnm, hret, hlk, hZ, hn⟩ := X; subst hp
  exact go_of (fun _ k => XS.ishl (g := (mkF m pc Ls (.int b :: .int a :: S))) X.here hx rfl (hb hby hd) rfl k) K
theorem w_ishr (X : Sd l Z n0 y bytes maxL ret R p e s m args below T h cells slots) {a b : Int32} (hd : decode bytes pc = .ok (.ishr, 1)) (hp : pc' = pc + 1) (K : Go p e below G (T.setTop (mkF m pc' Ls (.int (a >>> (b &&& 31)) :: S)))) : Go p e below G (T.setTop (mkF m pc Ls (.int b :: .int a :: S))) := by
  obtain ⟨meth, c, locs, X, eT, N, hx, hby, hml, hown, hnm, hret, hlk, hZ, hn⟩ := X; subst hp
  exact go_of (fun _ k => XS.ishr (g := (mkF m pc Ls (.int b :: .int a :: S))) X.here hx rfl (hb hby hd) rfl k) K
theorem w_iushr (X : Sd l Z n0 y bytes maxL ret R p e s m args below T h cells slots) {a b : Int32} (hd : decode bytes pc = .ok (.iushr, 1)) (hp : pc' = pc + 1) (K : Go p e below G (T.setTop (mkF m pc' Ls (.int ((a.toUInt32 >>> (b &&& 31).toUInt32).toInt32) :: S)))) : Go p e below G (T.setTop (mkF m pc Ls (.int b :: .int a :: S))) := by
  obtain ⟨meth, c, locs, X, eT, N, hx, hby, hml, hown, hnm, hret, hlk, hZ, hn⟩ := X; subst hp
  exact go_of (fun _ k => XS.iushr (g := (mkF m pc Ls (.int b :: .int a :: S))) X.here hx rfl (hb hby hd) rfl k) K
theorem w_lshl (X : Sd l Z n0 y bytes maxL ret R p e s m args below T h cells slots) {a : Int64} {b : Int32} (hd : decode bytes pc = .ok (.lshl, 1)) (hp : pc' = pc + 1) (K : Go p e below G (T.setTop (mkF m pc' Ls (.long (a <<< (b &&& 0x3f).toInt64) :: S)))) : Go p e below G (T.setTop (mkF m pc Ls (.int b :: .long a :: S))) := by
  obtain ⟨meth, c, locs, X, eT, N, hx, hby, hml, hown, hnm, hret, hlk, hZ, hn⟩ := X; subst hp
  exact go_of (fun _ k => XS.lshl (g := (mkF m pc Ls (.int b :: .long a :: S))) X.here hx rfl (hb hby hd) rfl k) K
theorem w_lshr (X : Sd l Z n0 y bytes maxL ret R p e s m args below T h cells slots) {a : Int64} {b : Int32} (hd : decode bytes pc = .ok (.lshr, 1)) (hp : pc' = pc + 1) (K : Go p e below G (T.setTop (mkF m pc' Ls (.long (a >>> (b &&& 0x3f).toInt64) :: S)))) : Go p e below G (T.setTop (mkF m pc Ls (.int b :: .long a :: S))) := by
  obtain ⟨meth, c, locs, X, eT, N, hx, hby, hml, hown, hnm, hret, hlk, hZ, hn⟩ := X; subst hp
  exact go_of (fun _ k => XS.lshr (g := (mkF m pc Ls (.int b :: .long a :: S))) X.here hx rfl (hb hby hd) rfl k) K
theorem w_lushr (X : Sd l Z n0 y bytes maxL ret R p e s m args below T h cells slots) {a : Int64} {b : Int32} (hd : decode bytes pc = .ok (.lushr, 1)) (hp : pc' = pc + 1) (K : Go p e below G (T.setTop (mkF m pc' Ls (.long ((a.toUInt64 >>> (b &&& 0x3f).toInt64.toUInt64).toInt64) :: S)))) : Go p e below G (T.setTop (mkF m pc Ls (.int b :: .long a :: S))) := by
  obtain ⟨meth, c, locs, X, eT, N, hx, hby, hml, hown, hnm, hret, hlk, hZ, hn⟩ := X; subst hp
  exact go_of (fun _ k => XS.lushr (g := (mkF m pc Ls (.int b :: .long a :: S))) X.here hx rfl (hb hby hd) rfl k) K
theorem w_idiv (X : Sd l Z n0 y bytes maxL ret R p e s m args below T h cells slots) {a b : Int32} (hd : decode bytes pc = .ok (.idiv, 1)) (hz : b ≠ 0) (hp : pc' = pc + 1) (K : Go p e below G (T.setTop (mkF m pc' Ls (.int (a / b) :: S)))) : Go p e below G (T.setTop (mkF m pc Ls (.int b :: .int a :: S))) := by
  obtain ⟨meth, c, locs, X, eT, N, hx, hby, hml, hown, hnm, hret, hlk, hZ, hn⟩ := X; subst hp
  exact go_of (fun _ k => XS.idiv (g := (mkF m pc Ls (.int b :: .int a :: S))) X.here hx rfl (hb hby hd) rfl hz k) K
theorem w_ldiv (X : Sd l Z n0 y bytes maxL ret R p e s m args below T h cells slots) {a b : Int64} (hd : decode bytes pc = .ok (.ldiv, 1)) (hz : b ≠ 0) (hp : pc' = pc + 1) (K : Go p e below G (T.setTop (mkF m pc' Ls (.long (a / b) :: S)))) : Go p e below G (T.setTop (mkF m pc Ls (.long b :: .long a :: S))) := by
  obtain ⟨meth, c, locs, X, eT, N, hx, hby, hml, hown, hnm, hret, hlk, hZ, hn⟩ := X; subst hp
  exact go_of (fun _ k => XS.ldiv (g := (mkF m pc Ls (.long b :: .long a :: S))) X.here hx rfl (hb hby hd) rfl hz k) K
theorem w_irem (X : Sd l Z n0 y bytes maxL ret R p e s m args below T h cells slots) {a b : Int32} (hd : decode bytes pc = .ok (.irem, 1)) (hz : b ≠ 0) (hp : pc' = pc + 1) (K : Go p e below G (T.setTop (mkF m pc' Ls (.int (a % b) :: S)))) : Go p e below G (T.setTop (mkF m pc Ls (.int b :: .int a :: S))) := by
  obtain ⟨meth, c, locs, X, eT, N, hx, hby, hml, hown, hnm, hret, hlk, hZ, hn⟩ := X; subst hp
  exact go_of (fun _ k => iremM (g := mkF m pc Ls (.int b :: .int a :: S)) X hx rfl (hb hby hd) rfl hz k) K
theorem w_lrem (X : Sd l Z n0 y bytes maxL ret R p e s m args below T h cells slots) {a b : Int64} (hd : decode bytes pc = .ok (.lrem, 1)) (hz : b ≠ 0) (hp : pc' = pc + 1) (K : Go p e below G (T.setTop (mkF m pc' Ls (.long (a % b) :: S)))) : Go p e below G (T.setTop (mkF m pc Ls (.long b :: .long a :: S))) := by
  obtain ⟨meth, c, locs, X, eT, N, hx, hby, hml, hown, hnm, hret, hlk, hZ, hn⟩ := X; subst hp
  exact go_of (fun _ k => XS.lrem (g := mkF m pc Ls (.long b :: .long a :: S)) X.here hx rfl (hb hby hd) rfl hz (by rw [lrem_mod]; exact k)) K
theorem w_ineg (X : Sd l Z n0 y bytes maxL ret R p e s m args below T h cells slots) {a : Int32} (hd : decode bytes pc = .ok (.ineg, 1)) (hp : pc' = pc + 1) (K : Go p e below G (T.setTop (mkF m pc' Ls (.int (-a) :: S)))) : Go p e below G (T.setTop (mkF m pc Ls (.int a :: S))) := by
  obtain ⟨meth, c, locs, X, eT, N, hx, hby, hml, hown, hnm, hret, hlk, hZ, hn⟩ := X; subst hp
  exact go_of (fun _ k => XS.ineg (g := (mkF m pc Ls (.int a :: S))) X.here hx rfl (hb hby hd) rfl k) K
theorem w_lneg (X : Sd l Z n0 y bytes maxL ret R p e s m args below T h cells slots) {a : Int64} (hd : decode bytes pc = .ok (.lneg, 1)) (hp : pc' = pc + 1) (K : Go p e below G (T.setTop (mkF m pc' Ls (.long (-a) :: S)))) : Go p e below G (T.setTop (mkF m pc Ls (.long a :: S))) := by
  obtain ⟨meth, c, locs, X, eT, N, hx, hby, hml, hown, hnm, hret, hlk, hZ, hn⟩ := X; subst hp
  exact go_of (fun _ k => XS.lneg (g := (mkF m pc Ls (.long a :: S))) X.here hx rfl (hb hby hd) rfl k) K
theorem w_i2l (X : Sd l Z n0 y bytes maxL ret R p e s m args below T h cells slots) {a : Int32} (hd : decode bytes pc = .ok (.i2l, 1)) (hp : pc' = pc + 1) (K : Go p e below G (T.setTop (mkF m pc' Ls (.long (a.toInt64) :: S)))) : Go p e below G (T.setTop (mkF m pc Ls (.int a :: S))) := by
  obtain ⟨meth, c, locs, X, eT, N, hx, hby, hml, hown, hnm, hret, hlk, hZ, hn⟩ := X; subst hp
  exact go_of (fun _ k => XS.i2l (g := (mkF m pc Ls (.int a :: S))) X.here hx rfl (hb hby hd) rfl k) K
theorem w_l2i (X : Sd l Z n0 y bytes maxL ret R p e s m args below T h cells slots) {a : Int64} (hd : decode bytes pc = .ok (.l2i, 1)) (hp : pc' = pc + 1) (K : Go p e below G (T.setTop (mkF m pc' Ls (.int (a.toInt32) :: S)))) : Go p e below G (T.setTop (mkF m pc Ls (.long a :: S))) := by
  obtain ⟨meth, c, locs, X, eT, N, hx, hby, hml, hown, hnm, hret, hlk, hZ, hn⟩ := X; subst hp
  exact go_of (fun _ k => XS.l2i (g := (mkF m pc Ls (.long a :: S))) X.here hx rfl (hb hby hd) rfl k) K
theorem w_i2b (X : Sd l Z n0 y bytes maxL ret R p e s m args below T h cells slots) {a : Int32} (hd : decode bytes pc = .ok (.i2b, 1)) (hp : pc' = pc + 1) (K : Go p e below G (T.setTop (mkF m pc' Ls (.int (a.toInt8.toInt32) :: S)))) : Go p e below G (T.setTop (mkF m pc Ls (.int a :: S))) := by
  obtain ⟨meth, c, locs, X, eT, N, hx, hby, hml, hown, hnm, hret, hlk, hZ, hn⟩ := X; subst hp
  exact go_of (fun _ k => XS.i2b (g := (mkF m pc Ls (.int a :: S))) X.here hx rfl (hb hby hd) rfl k) K
theorem w_i2s (X : Sd l Z n0 y bytes maxL ret R p e s m args below T h cells slots) {a : Int32} (hd : decode bytes pc = .ok (.i2s, 1)) (hp : pc' = pc + 1) (K : Go p e below G (T.setTop (mkF m pc' Ls (.int (a.toInt16.toInt32) :: S)))) : Go p e below G (T.setTop (mkF m pc Ls (.int a :: S))) := by
  obtain ⟨meth, c, locs, X, eT, N, hx, hby, hml, hown, hnm, hret, hlk, hZ, hn⟩ := X; subst hp
  exact go_of (fun _ k => XS.i2s (g := (mkF m pc Ls (.int a :: S))) X.here hx rfl (hb hby hd) rfl k) K
theorem w_i2c (X : Sd l Z n0 y bytes maxL ret R p e s m args below T h cells slots) {a : Int32} (hd : decode bytes pc = .ok (.i2c, 1)) (hp : pc' = pc + 1) (K : Go p e below G (T.setTop (mkF m pc' Ls (.int (a.toUInt32.toUInt16.toUInt32.toInt32) :: S)))) : Go p e below G (T.setTop (mkF m pc Ls (.int a :: S))) := by
  obtain ⟨meth, c, locs, X, eT, N, hx, hby, hml, hown, hnm, hret, hlk, hZ, hn⟩ := X; subst hp
  exact go_of (fun _ k => XS.i2c (g := (mkF m pc Ls (.int a :: S))) X.here hx rfl (hb hby hd) rfl k) K
theorem w_lcmp (X : Sd l Z n0 y bytes maxL ret R p e s m args below T h cells slots) {a b : Int64} (hd : decode bytes pc = .ok (.lcmp, 1)) (hp : pc' = pc + 1) (K : Go p e below G (T.setTop (mkF m pc' Ls (.int (lcmpW a b) :: S)))) : Go p e below G (T.setTop (mkF m pc Ls (.long b :: .long a :: S))) := by
  obtain ⟨meth, c, locs, X, eT, N, hx, hby, hml, hown, hnm, hret, hlk, hZ, hn⟩ := X; subst hp
  exact go_of (fun _ k => XS.lcmp (g := (mkF m pc Ls (.long b :: .long a :: S))) X.here hx rfl (hb hby hd) rfl k) K
theorem w_iinc (X : Sd l Z n0 y bytes maxL ret R p e s m args below T h cells slots) {k : Nat} {i : Int} {v : Int32} {l' : Array Slot} (z : Int32) (hd : decode bytes pc = .ok (.iinc k i, 3)) (hl : Ls[k]? = some (.val (.int v))) (hz : v + Int32.ofInt i = z) (hl' : storeLocals Ls k (.int z) = some l') (hp : pc' = pc + 3) (K : Go p e below G (T.setTop (mkF m pc' l' S))) : Go p e below G (T.setTop (mkF m pc Ls S)) := by
  obtain ⟨meth, c, locs, X, eT, N, hx, hby, hml, hown, hnm, hret, hlk, hZ, hn⟩ := X; subst hp
  exact go_of (fun _ k => XS.iinc (g := mkF m pc Ls S) X.here hx rfl (hb hby hd) hl (by rw [hz]; exact hl') k) K
theorem w_dup (X : Sd l Z n0 y bytes maxL ret R p e s m args below T h cells slots) {v : Value} (hd : decode bytes pc = .ok (.dup, 1)) (hc : v.category = 1) (hp : pc' = pc + 1) (K : Go p e below G (T.setTop (mkF m pc' Ls (v :: v :: S)))) : Go p e below G (T.setTop (mkF m pc Ls (v :: S))) := by
  obtain ⟨meth, c, locs, X, eT, N, hx, hby, hml, hown, hnm, hret, hlk, hZ, hn⟩ := X; subst hp
  exact go_of (fun _ k => XS.dup (g := (mkF m pc Ls (v :: S))) X.here hx rfl (hb hby hd) rfl hc k) K
theorem w_pop (X : Sd l Z n0 y bytes maxL ret R p e s m args below T h cells slots) {v : Value} (hd : decode bytes pc = .ok (.pop, 1)) (hc : v.category = 1) (hp : pc' = pc + 1) (K : Go p e below G (T.setTop (mkF m pc' Ls S))) : Go p e below G (T.setTop (mkF m pc Ls (v :: S))) := by
  obtain ⟨meth, c, locs, X, eT, N, hx, hby, hml, hown, hnm, hret, hlk, hZ, hn⟩ := X; subst hp
  exact go_of (fun _ k => XS.pop (g := (mkF m pc Ls (v :: S))) X.here hx rfl (hb hby hd) rfl hc k) K
theorem w_dup_x1 (X : Sd l Z n0 y bytes maxL ret R p e s m args below T h cells slots) {v w : Value} (hd : decode bytes pc = .ok (.dup_x1, 1)) (hc : v.category = 1) (hc2 : w.category = 1) (hp : pc' = pc + 1) (K : Go p e below G (T.setTop (mkF m pc' Ls (v :: w :: v :: S)))) : Go p e below G (T.setTop (mkF m pc Ls (v :: w :: S))) := by
  obtain ⟨meth, c, locs, X, eT, N, hx, hby, hml, hown, hnm, hret, hlk, hZ, hn⟩ := X; subst hp
  exact go_of (fun _ k => XS.dupX1 (g := (mkF m pc Ls (v :: w :: S))) X.here hx rfl (hb hby hd) rfl hc hc2 k) K
theorem w_dup2 (X : Sd l Z n0 y bytes maxL ret R p e s m args below T h cells slots) {v w : Value} (hd : decode bytes pc = .ok (.dup2, 1)) (hc : v.category = 1) (hc2 : w.category = 1) (hp : pc' = pc + 1) (K : Go p e below G (T.setTop (mkF m pc' Ls (v :: w :: v :: w :: S)))) : Go p e below G (T.setTop (mkF m pc Ls (v :: w :: S))) := by
  obtain ⟨meth, c, locs, X, eT, N, hx, hby, hml, hown, hnm, hret, hlk, hZ, hn⟩ := X; subst hp
  exact go_of (fun _ k => Jvm.Free.XT.dup2 (g := (mkF m pc Ls (v :: w :: S))) X.here hx rfl (hb hby hd) rfl hc hc2 k) K
theorem w_dup2L (X : Sd l Z n0 y bytes maxL ret R p e s m args below T h cells slots) {v : Int64} (hd : decode bytes pc = .ok (.dup2, 1)) (hp : pc' = pc + 1) (K : Go p e below G (T.setTop (mkF m pc' Ls (.long v :: .long v :: S)))) : Go p e below G (T.setTop (mkF m pc Ls (.long v :: S))) := by
  obtain ⟨meth, c, locs, X, eT, N, hx, hby, hml, hown, hnm, hret, hlk, hZ, hn⟩ := X; subst hp
  exact go_of (fun _ k => Jvm.Free.XT.dup2L (g := (mkF m pc Ls (.long v :: S))) X.here hx rfl (hb hby hd) rfl k) K
theorem w_goto (X : Sd l Z n0 y bytes maxL ret R p e s m args below T h cells slots) {i : Int} (hd : decode bytes pc = .ok (.goto i, 3)) (ho : 0 ≤ (pc : Int) + i) (hp : ((pc : Int) + i).toNat = pc') (K : Go p e below G (T.setTop (mkF m pc' Ls S))) : Go p e below G (T.setTop (mkF m pc Ls S)) := by
  obtain ⟨meth, c, locs, X, eT, N, hx, hby, hml, hown, hnm, hret, hlk, hZ, hn⟩ := X
  exact go_of (fun _ k => XS.goto (g := mkF m pc Ls S) X.here hx rfl rfl (hb hby hd) ho hp k) K
theorem w_icmp_eq (X : Sd l Z n0 y bytes maxL ret R p e s m args below T h cells slots) {a b : Int32} {i : Int} (pt pf : Nat) (hd : decode bytes pc = .ok (.if_icmp .eq i, 3)) (ho : 0 ≤ (pc : Int) + i) (ht : ((pc : Int) + i).toNat = pt) (hf : pf = pc + 3) (kt : a = b → Go p e below G (T.setTop (mkF m pt Ls S))) (kf : ¬ a = b → Go p e below G (T.setTop (mkF m pf Ls S))) : Go p e below G (T.setTop (mkF m pc Ls (.int b :: .int a :: S))) := by
  obtain ⟨meth, c, locs, X, eT, N, hx, hby, hml, hown, hnm, hret, hlk, hZ, hn⟩ := X; subst hf
  by_cases q : a = b
  · exact go_of (fun _ k => XS.icmpYes (g := mkF m pc Ls (.int b :: .int a :: S)) X.here hx rfl rfl (hb hby hd) rfl (teq q).1 ho ht k) (kt q)
  · skip
    exact go_of (fun _ k => XS.icmpNo (g := mkF m pc Ls (.int b :: .int a :: S)) X.here hx rfl (hb hby hd) rfl (feq q).1 k) (kf q)
theorem w_if_eq (X : Sd l Z n0 y bytes maxL ret R p e s m args below T h cells slots) {a : Int32} {i : Int} (pt pf : Nat) (hd : decode bytes pc = .ok (.ifCond .eq i, 3)) (ho : 0 ≤ (pc : Int) + i) (ht : ((pc : Int) + i).toNat = pt) (hf : pf = pc + 3) (kt : a = (0 : Int32) → Go p e below G (T.setTop (mkF m pt Ls S))) (kf : ¬ a = (0 : Int32) → Go p e below G (T.setTop (mkF m pf Ls S))) : Go p e below G (T.setTop (mkF m pc Ls (.int a :: S))) := by
  obtain ⟨meth, c, locs, X, eT, N, hx, hby, hml, hown, hnm, hret, hlk, hZ, hn⟩ := X; subst hf
  by_cases q : a = (0 : Int32)
  · exact go_of (fun _ k => XS.ifYes (g := mkF m pc Ls (.int a :: S)) X.here hx rfl rfl (hb hby hd) rfl ((if0 _ _).trans (teq q).1) ho ht k) (kt q)
  · skip
    exact go_of (fun _ k => XS.ifNo (g := mkF m pc Ls (.int a :: S)) X.here hx rfl (hb hby hd) rfl ((if0 _ _).trans (feq q).1) k) (kf q)
theorem w_icmp_ne (X : Sd l Z n0 y bytes maxL ret R p e s m args below T h cells slots) {a b : Int32} {i : Int} (pt pf : Nat) (hd : decode bytes pc = .ok (.if_icmp .ne i, 3)) (ho : 0 ≤ (pc : Int) + i) (ht : ((pc : Int) + i).toNat = pt) (hf : pf = pc + 3) (kt : ¬ a = b → Go p e below G (T.setTop (mkF m pt Ls S))) (kf : a = b → Go p e below G (T.setTop (mkF m pf Ls S))) : Go p e below G (T.setTop (mkF m pc Ls (.int b :: .int a :: S))) := by
  obtain ⟨meth, c, locs, X, eT, N, hx, hby, hml, hown, hnm, hret, hlk, hZ, hn⟩ := X; subst hf
  by_cases q : ¬ a = b
  · exact go_of (fun _ k => XS.icmpYes (g := mkF m pc Ls (.int b :: .int a :: S)) X.here hx rfl rfl (hb hby hd) rfl (feq q).2 ho ht k) (kt q)
  · replace q := Decidable.not_not.mp q
    exact go_of (fun _ k => XS.icmpNo (g := mkF m pc Ls (.int b :: .int a :: S)) X.here hx rfl (hb hby hd) rfl (teq q).2 k) (kf q)
theorem w_if_ne (X : Sd l Z n0 y bytes maxL ret R p e s m args below T h cells slots) {a : Int32} {i : Int} (pt pf : Nat) (hd : decode bytes pc = .ok (.ifCond .ne i, 3)) (ho : 0 ≤ (pc : Int) + i) (ht : ((pc : Int) + i).toNat = pt) (hf : pf = pc + 3) (kt : ¬ a = (0 : Int32) → Go p e below G (T.setTop (mkF m pt Ls S))) (kf : a = (0 : Int32) → Go p e below G (T.setTop (mkF m pf Ls S))) : Go p e below G (T.setTop (mkF m pc Ls (.int a :: S))) := by
  obtain ⟨meth, c, locs, X, eT, N, hx, hby, hml, hown, hnm, hret, hlk, hZ, hn⟩ := X; subst hf
  by_cases q : ¬ a = (0 : Int32)
  · exact go_of (fun _ k => XS.ifYes (g := mkF m pc Ls (.int a :: S)) X.here hx rfl rfl (hb hby hd) rfl ((if0 _ _).trans (feq q).2) ho ht k) (kt q)
  · replace q := Decidable.not_not.mp q
    exact go_of (fun _ k => XS.ifNo (g := mkF m pc Ls (.int a :: S)) X.here hx rfl (hb hby hd) rfl ((if0 _ _).trans (teq q).2) k) (kf q)
theorem w_icmp_lt (X : Sd l Z n0 y bytes maxL ret R p e s m args below T h cells slots) {a b : Int32} {i : Int} (pt pf : Nat) (hd : decode bytes pc = .ok (.if_icmp .lt i, 3)) (ho : 0 ≤ (pc : Int) + i) (ht : ((pc : Int) + i).toNat = pt) (hf : pf = pc + 3) (kt : a < b → Go p e below G (T.setTop (mkF m pt Ls S))) (kf : ¬ a < b → Go p e below G (T.setTop (mkF m pf Ls S))) : Go p e below G (T.setTop (mkF m pc Ls (.int b :: .int a :: S))) := by
  obtain ⟨meth, c, locs, X, eT, N, hx, hby, hml, hown, hnm, hret, hlk, hZ, hn⟩ := X; subst hf
  by_cases q : a < b
  · exact go_of (fun _ k => XS.icmpYes (g := mkF m pc Ls (.int b :: .int a :: S)) X.here hx rfl rfl (hb hby hd) rfl (tlt q).1 ho ht k) (kt q)
  · skip
    exact go_of (fun _ k => XS.icmpNo (g := mkF m pc Ls (.int b :: .int a :: S)) X.here hx rfl (hb hby hd) rfl (flt q).1 k) (kf q)
theorem w_if_lt (X : Sd l Z n0 y bytes maxL ret R p e s m args below T h cells slots) {a : Int32} {i : Int} (pt pf : Nat) (hd : decode bytes pc = .ok (.ifCond .lt i, 3)) (ho : 0 ≤ (pc : Int) + i) (ht : ((pc : Int) + i).toNat = pt) (hf : pf = pc + 3) (kt : a < (0 : Int32) → Go p e below G (T.setTop (mkF m pt Ls S))) (kf : ¬ a < (0 : Int32) → Go p e below G (T.setTop (mkF m pf Ls S))) : Go p e below G (T.setTop (mkF m pc Ls (.int a :: S))) := by
  obtain ⟨meth, c, locs, X, eT, N, hx, hby, hml, hown, hnm, hret, hlk, hZ, hn⟩ := X; subst hf
  by_cases q : a < (0 : Int32)
  · exact go_of (fun _ k => XS.ifYes (g := mkF m pc Ls (.int a :: S)) X.here hx rfl rfl (hb hby hd) rfl ((if0 _ _).trans (tlt q).1) ho ht k) (kt q)
  · skip
    exact go_of (fun _ k => XS.ifNo (g := mkF m pc Ls (.int a :: S)) X.here hx rfl (hb hby hd) rfl ((if0 _ _).trans (flt q).1) k) (kf q)
theorem w_icmp_ge (X : Sd l Z n0 y bytes maxL ret R p e s m args below T h cells slots) {a b : Int32} {i : Int} (pt pf : Nat) (hd : decode bytes pc = .ok (.if_icmp .ge i, 3)) (ho : 0 ≤ (pc : Int) + i) (ht : ((pc : Int) + i).toNat = pt) (hf : pf = pc + 3) (kt : ¬ a < b → Go p e below G (T.setTop (mkF m pt Ls S))) (kf : a < b → Go p e below G (T.setTop (mkF m pf Ls S))) : Go p e below G (T.setTop (mkF m pc Ls (.int b :: .int a :: S))) := by
  obtain ⟨meth, c, locs, X, eT, N, hx, hby, hml, hown, hnm, hret, hlk, hZ, hn⟩ := X; subst hf
  by_cases q : ¬ a < b
  · exact go_of (fun _ k => XS.icmpYes (g := mkF m pc Ls (.int b :: .int a :: S)) X.here hx rfl rfl (hb hby hd) rfl (flt q).2.1 ho ht k) (kt q)
  · replace q := Decidable.not_not.mp q
    exact go_of (fun _ k => XS.icmpNo (g := mkF m pc Ls (.int b :: .int a :: S)) X.here hx rfl (hb hby hd) rfl (tlt q).2.1 k) (kf q)
theorem w_if_ge (X : Sd l Z n0 y bytes maxL ret R p e s m args below T h cells slots) {a : Int32} {i : Int} (pt pf : Nat) (hd : decode bytes pc = .ok (.ifCond .ge i, 3)) (ho : 0 ≤ (pc : Int) + i) (ht : ((pc : Int) + i).toNat = pt) (hf : pf = pc + 3) (kt : ¬ a < (0 : Int32) → Go p e below G (T.setTop (mkF m pt Ls S))) (kf : a < (0 : Int32) → Go p e below G (T.setTop (mkF m pf Ls S))) : Go p e below G (T.setTop (mkF m pc Ls (.int a :: S))) := by
  obtain ⟨meth, c, locs, X, eT, N, hx, hby, hml, hown, hnm, hret, hlk, hZ, hn⟩ := X; subst hf
  by_cases q : ¬ a < (0 : Int32)
  · exact go_of (fun _ k => XS.ifYes (g := mkF m pc Ls (.int a :: S)) X.here hx rfl rfl (hb hby hd) rfl ((if0 _ _).trans (flt q).2.1) ho ht k) (kt q)
  · replace q := Decidable.not_not.mp q
    exact go_of (fun _ k => XS.ifNo (g := mkF m pc Ls (.int a :: S)) X.here hx rfl (hb hby hd) rfl ((if0 _ _).trans (tlt q).2.1) k) (kf q)
theorem w_icmp_gt (X : Sd l Z n0 y bytes maxL ret R p e s m args below T h cells slots) {a b : Int32} {i : Int} (pt pf : Nat) (hd : decode bytes pc = .ok (.if_icmp .gt i, 3)) (ho : 0 ≤ (pc : Int) + i) (ht : ((pc : Int) + i).toNat = pt) (hf : pf = pc + 3) (kt : b < a → Go p e below G (T.setTop (mkF m pt Ls S))) (kf : ¬ b < a → Go p e below G (T.setTop (mkF m pf Ls S))) : Go p e below G (T.setTop (mkF m pc Ls (.int b :: .int a :: S))) := by
  obtain ⟨meth, c, locs, X, eT, N, hx, hby, hml, hown, hnm, hret, hlk, hZ, hn⟩ := X; subst hf
  by_cases q : b < a
  · exact go_of (fun _ k => XS.icmpYes (g := mkF m pc Ls (.int b :: .int a :: S)) X.here hx rfl rfl (hb hby hd) rfl (tlt q).2.2.1 ho ht k) (kt q)
  · skip
    exact go_of (fun _ k => XS.icmpNo (g := mkF m pc Ls (.int b :: .int a :: S)) X.here hx rfl (hb hby hd) rfl (flt q).2.2.1 k) (kf q)
theorem w_if_gt (X : Sd l Z n0 y bytes maxL ret R p e s m args below T h cells slots) {a : Int32} {i : Int} (pt pf : Nat) (hd : decode bytes pc = .ok (.ifCond .gt i, 3)) (ho : 0 ≤ (pc : Int) + i) (ht : ((pc : Int) + i).toNat = pt) (hf : pf = pc + 3) (kt : (0 : Int32) < a → Go p e below G (T.setTop (mkF m pt Ls S))) (kf : ¬ (0 : Int32) < a → Go p e below G (T.setTop (mkF m pf Ls S))) : Go p e below G (T.setTop (mkF m pc Ls (.int a :: S))) := by
  obtain ⟨meth, c, locs, X, eT, N, hx, hby, hml, hown, hnm, hret, hlk, hZ, hn⟩ := X; subst hf
  by_cases q : (0 : Int32) < a
  · exact go_of (fun _ k => XS.ifYes (g := mkF m pc Ls (.int a :: S)) X.here hx rfl rfl (hb hby hd) rfl ((if0 _ _).trans (tlt q).2.2.1) ho ht k) (kt q)
  · skip
    exact go_of (fun _ k => XS.ifNo (g := mkF m pc Ls (.int a :: S)) X.here hx rfl (hb hby hd) rfl ((if0 _ _).trans (flt q).2.2.1) k) (kf q)
theorem w_icmp_le (X : Sd l Z n0 y bytes maxL ret R p e s m args below T h cells slots) {a b : Int32} {i : Int} (pt pf : Nat) (hd : decode bytes pc = .ok (.if_icmp .le i, 3)) (ho : 0 ≤ (pc : Int) + i) (ht : ((pc : Int) + i).toNat = pt) (hf : pf = pc + 3) (kt : ¬ b < a → Go p e below G (T.setTop (mkF m pt Ls S))) (kf : b < a → Go p e below G (T.setTop (mkF m pf Ls S))) : Go p e below G (T.setTop (mkF m pc Ls (.int b :: .int a :: S))) := by
  obtain ⟨meth, c, locs, X, eT, N, hx, hby, hml, hown, hnm, hret, hlk, hZ, hn⟩ := X; subst hf
  by_cases q : ¬ b < a
  · exact go_of (fun _ k => XS.icmpYes (g := mkF m pc Ls (.int b :: .int a :: S)) X.here hx rfl rfl (hb hby hd) rfl (flt q).2.2.2 ho ht k) (kt q)
  · replace q := Decidable.not_not.mp q
    exact go_of (fun _ k => XS.icmpNo (g := mkF m pc Ls (.int b :: .int a :: S)) X.here hx rfl (hb hby hd) rfl (tlt q).2.2.2 k) (kf q)
theorem w_if_le (X : Sd l Z n0 y bytes maxL ret R p e s m args below T h cells slots) {a : Int32} {i : Int} (pt pf : Nat) (hd : decode bytes pc = .ok (.ifCond .le i, 3)) (ho : 0 ≤ (pc : Int) + i) (ht : ((pc : Int) + i).toNat = pt) (hf : pf = pc + 3) (kt : ¬ (0 : Int32) < a → Go p e below G (T.setTop (mkF m pt Ls S))) (kf : (0 : Int32) < a → Go p e below G (T.setTop (mkF m pf Ls S))) : Go p e below G (T.setTop (mkF m pc Ls (.int a :: S))) := by
  obtain ⟨meth, c, locs, X, eT, N, hx, hby, hml, hown, hnm, hret, hlk, hZ, hn⟩ := X; subst hf
  by_cases q : ¬ (0 : Int32) < a
  · exact go_of (fun _ k => XS.ifYes (g := mkF m pc Ls (.int a :: S)) X.here hx rfl rfl (hb hby hd) rfl ((if0 _ _).trans (flt q).2.2.2) ho ht k) (kt q)
  · replace q := Decidable.not_not.mp q
    exact go_of (fun _ k => XS.ifNo (g := mkF m pc Ls (.int a :: S)) X.here hx rfl (hb hby hd) rfl ((if0 _ _).trans (tlt q).2.2.2) k) (kf q)
theorem w_lc_eq (X : Sd l Z n0 y bytes maxL ret R p e s m args below T h cells slots) {a b : Int64} {i : Int} (pt pf : Nat) (hd1 : decode bytes pc = .ok (.lcmp, 1)) (hd : decode bytes (pc + 1) = .ok (.ifCond .eq i, 3)) (ho : 0 ≤ ((pc + 1 : Nat) : Int) + i) (ht : (((pc + 1 : Nat) : Int) + i).toNat = pt) (hf : pf = pc + 4) (kt : a = b → Go p e below G (T.setTop (mkF m pt Ls S))) (kf : ¬ a = b → Go p e below G (T.setTop (mkF m pf Ls S))) : Go p e below G (T.setTop (mkF m pc Ls (.long b :: .long a :: S))) :=
  w_lcmp X hd1 rfl (w_if_eq X pt pf hd ho ht hf (fun q => kt ((lw_eq _ _).mp q)) (fun q => kf (fun z => q ((lw_eq _ _).mpr z))))
theorem w_lc_ne (X : Sd l Z n0 y bytes maxL ret R p e s m args below T h cells slots) {a b : Int64} {i : Int} (pt pf : Nat) (hd1 : decode bytes pc = .ok (.lcmp, 1)) (hd : decode bytes (pc + 1) = .ok (.ifCond .ne i, 3)) (ho : 0 ≤ ((pc + 1 : Nat) : Int) + i) (ht : (((pc + 1 : Nat) : Int) + i).toNat = pt) (hf : pf = pc + 4) (kt : ¬ a = b → Go p e below G (T.setTop (mkF m pt Ls S))) (kf : a = b → Go p e below G (T.setTop (mkF m pf Ls S))) : Go p e below G (T.setTop (mkF m pc Ls (.long b :: .long a :: S))) :=
  w_lcmp X hd1 rfl (w_if_ne X pt pf hd ho ht hf (fun q => kt (fun z => q ((lw_eq _ _).mpr z))) (fun q => kf ((lw_eq _ _).mp q)))
theorem w_lc_lt (X : Sd l Z n0 y bytes maxL ret R p e s m args below T h cells slots) {a b : Int64} {i : Int} (pt pf : Nat) (hd1 : decode bytes pc = .ok (.lcmp, 1)) (hd : decode bytes (pc + 1) = .ok (.ifCond .lt i, 3)) (ho : 0 ≤ ((pc + 1 : Nat) : Int) + i) (ht : (((pc + 1 : Nat) : Int) + i).toNat = pt) (hf : pf = pc + 4) (kt : a < b → Go p e below G (T.setTop (mkF m pt Ls S))) (kf : ¬ a < b → Go p e below G (T.setTop (mkF m pf Ls S))) : Go p e below G (T.setTop (mkF m pc Ls (.long b :: .long a :: S))) :=
  w_lcmp X hd1 rfl (w_if_lt X pt pf hd ho ht hf (fun q => kt ((lw_lt _ _).mp q)) (fun q => kf (fun z => q ((lw_lt _ _).mpr z))))
theorem w_lc_ge (X : Sd l Z n0 y bytes maxL ret R p e s m args below T h cells slots) {a b : Int64} {i : Int} (pt pf : Nat) (hd1 : decode bytes pc = .ok (.lcmp, 1)) (hd : decode bytes (pc + 1) = .ok (.ifCond .ge i, 3)) (ho : 0 ≤ ((pc + 1 : Nat) : Int) + i) (ht : (((pc + 1 : Nat) : Int) + i).toNat = pt) (hf : pf = pc + 4) (kt : ¬ a < b → Go p e below G (T.setTop (mkF m pt Ls S))) (kf : a < b → Go p e below G (T.setTop (mkF m pf Ls S))) : Go p e below G (T.setTop (mkF m pc Ls (.long b :: .long a :: S))) :=
  w_lcmp X hd1 rfl (w_if_ge X pt pf hd ho ht hf (fun q => kt (fun z => q ((lw_lt _ _).mpr z))) (fun q => kf ((lw_lt _ _).mp q)))
theorem w_lc_gt (X : Sd l Z n0 y bytes maxL ret R p e s m args below T h cells slots) {a b : Int64} {i : Int} (pt pf : Nat) (hd1 : decode bytes pc = .ok (.lcmp, 1)) (hd : decode bytes (pc + 1) = .ok (.ifCond .gt i, 3)) (ho : 0 ≤ ((pc + 1 : Nat) : Int) + i) (ht : (((pc + 1 : Nat) : Int) + i).toNat = pt) (hf : pf = pc + 4) (kt : b < a → Go p e below G (T.setTop (mkF m pt Ls S))) (kf : ¬ b < a → Go p e below G (T.setTop (mkF m pf Ls S))) : Go p e below G (T.setTop (mkF m pc Ls (.long b :: .long a :: S))) :=
  w_lcmp X hd1 rfl (w_if_gt X pt pf hd ho ht hf (fun q => kt ((lw_gt _ _).mp q)) (fun q => kf (fun z => q ((lw_gt _ _).mpr z))))
theorem w_lc_le (X : Sd l Z n0 y bytes maxL ret R p e s m args below T h cells slots) {a b : Int64} {i : Int} (pt pf : Nat) (hd1 : decode bytes pc = .ok (.lcmp, 1)) (hd : decode bytes (pc + 1) = .ok (.ifCond .le i, 3)) (ho : 0 ≤ ((pc + 1 : Nat) : Int) + i) (ht : (((pc + 1 : Nat) : Int) + i).toNat = pt) (hf : pf = pc + 4) (kt : ¬ b < a → Go p e below G (T.setTop (mkF m pt Ls S))) (kf : b < a → Go p e below G (T.setTop (mkF m pf Ls S))) : Go p e below G (T.setTop (mkF m pc Ls (.long b :: .long a :: S))) :=
  w_lcmp X hd1 rfl (w_if_le X pt pf hd ho ht hf (fun q => kt (fun z => q ((lw_gt _ _).mpr z))) (fun q => kf ((lw_gt _ _).mp q)))
theorem w_ifnullY (X : Sd l Z n0 y bytes maxL ret R p e s m args below T h cells slots) {i : Int} (hd : decode bytes pc = .ok (.ifnull i, 3)) (ho : 0 ≤ (pc : Int) + i) (hp : ((pc : Int) + i).toNat = pc') (K : Go p e below G (T.setTop (mkF m pc' Ls S))) : Go p e below G (T.setTop (mkF m pc Ls (.null :: S))) := by
  obtain ⟨meth, c, locs, X, eT, N, hx, hby, hml, hown, hnm, hret, hlk, hZ, hn⟩ := X
  exact go_of (fun _ k => XS.ifnullYes (g := mkF m pc Ls (.null :: S)) X.here hx rfl rfl (hb hby hd) rfl ho hp k) K
theorem w_ifnullN (X : Sd l Z n0 y bytes maxL ret R p e s m args below T h cells slots) {b : Addr} {i : Int} (hd : decode bytes pc = .ok (.ifnull i, 3)) (hp : pc' = pc + 3) (K : Go p e below G (T.setTop (mkF m pc' Ls S))) : Go p e below G (T.setTop (mkF m pc Ls (.ref b :: S))) := by
  obtain ⟨meth, c, locs, X, eT, N, hx, hby, hml, hown, hnm, hret, hlk, hZ, hn⟩ := X; subst hp
  exact go_of (fun _ k => XS.ifnullNo (g := mkF m pc Ls (.ref b :: S)) X.here hx rfl (hb hby hd) rfl k) K
theorem w_ifnonnullY (X : Sd l Z n0 y bytes maxL ret R p e s m args below T h cells slots) {b : Addr} {i : Int} (hd : decode bytes pc = .ok (.ifnonnull i, 3)) (ho : 0 ≤ (pc : Int) + i) (hp : ((pc : Int) + i).toNat = pc') (K : Go p e below G (T.setTop (mkF m pc' Ls S))) : Go p e below G (T.setTop (mkF m pc Ls (.ref b :: S))) := by
  obtain ⟨meth, c, locs, X, eT, N, hx, hby, hml, hown, hnm, hret, hlk, hZ, hn⟩ := X
  exact go_of (fun _ k => XS.ifnonnullYes (g := mkF m pc Ls (.ref b :: S)) X.here hx rfl rfl (hb hby hd) rfl ho hp k) K
theorem w_ifnonnullN (X : Sd l Z n0 y bytes maxL ret R p e s m args below T h cells slots) {i : Int} (hd : decode bytes pc = .ok (.ifnonnull i, 3)) (hp : pc' = pc + 3) (K : Go p e below G (T.setTop (mkF m pc' Ls S))) : Go p e below G (T.setTop (mkF m pc Ls (.null :: S))) := by
  obtain ⟨meth, c, locs, X, eT, N, hx, hby, hml, hown, hnm, hret, hlk, hZ, hn⟩ := X; subst hp
  exact go_of (fun _ k => XS.ifnonnullNo (g := mkF m pc Ls (.null :: S)) X.here hx rfl (hb hby hd) rfl k) K
theorem w_acmp_eq (X : Sd l Z n0 y bytes maxL ret R p e s m args below T h cells slots) {v w : Value} (hv : v.isRef = true) (hw : w.isRef = true) {i : Int} (pt pf : Nat) (hd : decode bytes pc = .ok (.if_acmp .eq i, 3)) (ho : 0 ≤ (pc : Int) + i) (ht : ((pc : Int) + i).toNat = pt) (hf : pf = pc + 3) (kt : v = w → Go p e below G (T.setTop (mkF m pt Ls S))) (kf : ¬ v = w → Go p e below G (T.setTop (mkF m pf Ls S))) : Go p e below G (T.setTop (mkF m pc Ls (w :: v :: S))) := by
  obtain ⟨meth, c, locs, X, eT, N, hx, hby, hml, hown, hnm, hret, hlk, hZ, hn⟩ := X; subst hf ht
  by_cases q : v = w
  · exact go_of (fun _ k => Jvm.RoadKit.acmp (g := mkF m pc Ls (w :: v :: S)) X hx rfl hv hw (same := true) rfl (hb hby hd) rfl (decide_eq_true q) ho rfl k) (kt q)
  · exact go_of (fun _ k => Jvm.RoadKit.acmp (g := mkF m pc Ls (w :: v :: S)) X hx rfl hv hw (same := false) rfl (hb hby hd) rfl (decide_eq_false q) ho rfl k) (kf q)
theorem w_acmp_ne (X : Sd l Z n0 y bytes maxL ret R p e s m args below T h cells slots) {v w : Value} (hv : v.isRef = true) (hw : w.isRef = true) {i : Int} (pt pf : Nat) (hd : decode bytes pc = .ok (.if_acmp .ne i, 3)) (ho : 0 ≤ (pc : Int) + i) (ht : ((pc : Int) + i).toNat = pt) (hf : pf = pc + 3) (kt : ¬ v = w → Go p e below G (T.setTop (mkF m pt Ls S))) (kf : v = w → Go p e below G (T.setTop (mkF m pf Ls S))) : Go p e below G (T.setTop (mkF m pc Ls (w :: v :: S))) := by
  obtain ⟨meth, c, locs, X, eT, N, hx, hby, hml, hown, hnm, hret, hlk, hZ, hn⟩ := X; subst hf ht
  by_cases q : v = w
  · exact go_of (fun _ k => Jvm.RoadKit.acmp (g := mkF m pc Ls (w :: v :: S)) X hx rfl hv hw (same := true) rfl (hb hby hd) rfl (decide_eq_true q) ho rfl k) (kf q)
  · exact go_of (fun _ k => Jvm.RoadKit.acmp (g := mkF m pc Ls (w :: v :: S)) X hx rfl hv hw (same := false) rfl (hb hby hd) rfl (decide_eq_false q) ho rfl k) (kt q)
theorem w_ldc (X : Sd l Z n0 y bytes maxL ret R p e s m args below T h cells slots) {i : Nat} {v : Int32} (hd : decode bytes pc = .ok (.ldc i, 2)) (w : (Jvm.Cond.constant y.cls i v).before a0 Z = true) (hp : pc' = pc + 2) (K : Go p e below G (T.setTop (mkF m pc' Ls (.int v :: S)))) : Go p e below G (T.setTop (mkF m pc Ls S)) := by
  obtain ⟨meth, c, locs, X, eT, N, hx, hby, hml, hown, hnm, hret, hlk, hZ, hn⟩ := X; subst hp
  exact go_of (X.ldcInt hx hown (mvT hZ w) (g := mkF m pc Ls S) rfl (hb hby hd)) K
theorem w_ldc2 (X : Sd l Z n0 y bytes maxL ret R p e s m args below T h cells slots) {i : Nat} {v : Int64} (hd : decode bytes pc = .ok (.ldc2_w i, 3)) (w : (Jvm.Cond.constantLong y.cls i v).before a0 Z = true) (hp : pc' = pc + 3) (K : Go p e below G (T.setTop (mkF m pc' Ls (.long v :: S)))) : Go p e below G (T.setTop (mkF m pc Ls S)) := by
  obtain ⟨meth, c, locs, X, eT, N, hx, hby, hml, hown, hnm, hret, hlk, hZ, hn⟩ := X; subst hp
  exact go_of (X.ldc2Long hx hown (mvT hZ w) (g := mkF m pc Ls S) rfl (hb hby hd)) K
theorem w_getfield (X : Sd l Z n0 y bytes maxL ret R p e s m args below T h cells slots) {i : Nat} {R0 O n d : String} {a : Addr} {v : Value} (hd : decode bytes pc = .ok (.getfield i, 3)) {host : String} (w : (Jvm.Cond.fieldLink y.cls i R0 n d).before a0 Z = true ∨ (Jvm.Cond.fieldLinkNest y.cls i R0 n d host).before a0 Z = true) (via : Via Z R0 O n d) (F : Fld Z h a O n d v) (hp : pc' = pc + 3) (K : ∀ T', Sd l Z n0 y bytes maxL ret R p e s m args below T' h cells slots → Go p e below G (T'.setTop (mkF m (pc') Ls (v :: S)))) : Go p e below G (T.setTop (mkF m pc Ls (.ref a :: S))) := by
  obtain ⟨meth, c, locs, X, eT, N, hx, hby, hml, hown, hnm, hret, hlk, hZ, hn⟩ := X; subst hp
  obtain ⟨T', X', e', st⟩ := getF X hx hZ hown w via eT F (g := mkF m pc Ls (.ref a :: S)) rfl rfl (hb hby hd)
  exact go_of st (K T' ⟨meth, c, _, X', e', N, hx, hby, hml, hown, hnm, hret, hlk, hZ, hn⟩)
theorem w_getstatic (X : Sd l Z n0 y bytes maxL ret R p e s m args below T h cells slots) {i : Nat} {R0 O n d : String} {v : Value} (hd : decode bytes pc = .ok (.getstatic i, 3)) {host : String} (w : (Jvm.Cond.fieldLink y.cls i R0 n d).before a0 Z = true ∨ (Jvm.Cond.fieldLinkNest y.cls i R0 n d host).before a0 Z = true) (via : Via Z R0 O n d) (F : Sta Z h O n d v) (hp : pc' = pc + 3) (K : ∀ T', Sd l Z n0 y bytes maxL ret R p e s m args below T' h cells slots → Go p e below G (T'.setTop (mkF m (pc') Ls (v :: S)))) : Go p e below G (T.setTop (mkF m pc Ls S)) := by
  obtain ⟨meth, c, locs, X, eT, N, hx, hby, hml, hown, hnm, hret, hlk, hZ, hn⟩ := X; subst hp
  obtain ⟨T', X', e', st⟩ := getS2 X hx hZ hown w via eT F (g := mkF m pc Ls S) rfl (hb hby hd)
  exact go_of st (K T' ⟨meth, c, _, X', e', N, hx, hby, hml, hown, hnm, hret, hlk, hZ, hn⟩)
theorem w_putfield (X : Sd l Z n0 y bytes maxL ret R p e s m args below T h cells slots) {i kk : Nat} {R0 O n d C : String} {ty : FieldType} {a : Addr} {v old : Value} (hd : decode bytes pc = .ok (.putfield i, 3)) {host : String} (w : (Jvm.Cond.fieldLink y.cls i R0 n d).before a0 Z = true ∨ (Jvm.Cond.fieldLinkNest y.cls i R0 n d host).before a0 Z = true) (via : Via Z R0 O n d) (F : Fld Z h a O n d old) (E : Exa Z h a C) (L : (Jvm.Cond.lays C O n d).before a0 Z = true ∨ ((Jvm.Cond.laysFinal C O n d).before a0 Z = true ∧ y.cls = O ∧ y.name = "<init>")) (wi : (Jvm.Cond.instantiable C kk).before a0 Z = true) (hty : parseFieldDescriptor d = some ty) (hna : narrow ty v = v) (hfi : fits ty v = true) (hg : n0 ≤ a) (hp : pc' = pc + 3) (K : ∀ T' h', Sd l Z n0 y bytes maxL ret R p e s m args below T' h' cells slots → Wr h h' a (Jvm.RoadKit.slotOf Z O n d) v → Fld Z h' a O n d v → Go p e below G (T'.setTop (mkF m (pc') Ls S))) : Go p e below G (T.setTop (mkF m pc Ls (v :: .ref a :: S))) := by
  obtain ⟨meth, c, locs, X, eT, N, hx, hby, hml, hown, hnm, hret, hlk, hZ, hn⟩ := X; subst hp
  obtain ⟨T', h', X', e', W, st⟩ := putF X hx hZ hown w via eT F E (L.imp id fun q => ⟨q.1, q.2.1, hnm.trans q.2.2⟩) wi hty hna hfi (g := mkF m pc Ls (v :: .ref a :: S)) rfl rfl (hb hby hd)
  exact go_of st (K T' h' ⟨meth, c, _, X', e', Fr.snoc X' N hg, hx, hby, hml, hown, hnm, hret, hlk, hZ, hn⟩ W (F.same W))
theorem w_putfieldN (X : Sd l Z n0 y bytes maxL ret R p e s m args below T h cells slots) {i kk : Nat} {R0 O n d C : String} {ty : FieldType} {a : Addr} {v v' old : Value} (hd : decode bytes pc = .ok (.putfield i, 3)) (w : (Jvm.Cond.fieldLink y.cls i R0 n d).before a0 Z = true) (via : Via Z R0 O n d) (F : Fld Z h a O n d old) (E : Exa Z h a C) (L : (Jvm.Cond.lays C O n d).before a0 Z = true ∨ ((Jvm.Cond.laysFinal C O n d).before a0 Z = true ∧ y.cls = O ∧ y.name = "<init>")) (wi : (Jvm.Cond.instantiable C kk).before a0 Z = true) (hty : parseFieldDescriptor d = some ty) (hna : narrow ty v = v') (hfi : fits ty v' = true) (hg : n0 ≤ a) (hp : pc' = pc + 3) (K : ∀ T' h', Sd l Z n0 y bytes maxL ret R p e s m args below T' h' cells slots → Wr h h' a (Jvm.RoadKit.slotOf Z O n d) v' → Fld Z h' a O n d v' → Go p e below G (T'.setTop (mkF m (pc') Ls S))) : Go p e below G (T.setTop (mkF m pc Ls (v :: .ref a :: S))) := by
  obtain ⟨meth, c, locs, X, eT, N, hx, hby, hml, hown, hnm, hret, hlk, hZ, hn⟩ := X; subst hp
  obtain ⟨T', h', X', e', W, st⟩ := putFN X hx hZ hown w via eT F E (L.imp id fun q => ⟨q.1, q.2.1, hnm.trans q.2.2⟩) wi hty hna hfi (g := mkF m pc Ls (v :: .ref a :: S)) rfl rfl (hb hby hd)
  exact go_of st (K T' h' ⟨meth, c, _, X', e', Fr.snoc X' N hg, hx, hby, hml, hown, hnm, hret, hlk, hZ, hn⟩ W (F.same W))
theorem w_new (X : Sd l Z n0 y bytes maxL ret R p e s m args below T h cells slots) {i n : Nat} {C : String} (hd : decode bytes pc = .ok (.new i, 3)) (w : (Jvm.Cond.classLink y.cls i C).before a0 Z = true) (wi : (Jvm.Cond.instantiable C n).before a0 Z = true) (wz : (Jvm.Cond.initialized C).before a0 Z = true) (hc : cells + 1 ≤ R.cells) (hl : slots + n ≤ R.slots) (hp : pc' = pc + 3)
    (K : ∀ T' h' b, b = h.size → n0 ≤ b → Sd l Z n0 y bytes maxL ret R p e s m args below T' h' (cells + 1) (slots + n) → Ext h h' → Exa Z h' b C → (∀ {O nm d : String} {ty : FieldType}, Laid Z a0 C O nm d → parseFieldDescriptor d = some ty → Fld Z h' b O nm d (defaultValue ty)) → Go p e below G (T'.setTop (mkF m (pc') Ls (.ref b :: S)))) : Go p e below G (T.setTop (mkF m pc Ls S)) := by
  have hsz := sd_size X
  obtain ⟨meth, c, locs, X, eT, N, hx, hby, hml, hown, hnm, hret, hlk, hZ, hn⟩ := X; subst hp
  obtain ⟨T', h', X', e', E', A', D', -, st⟩ := newO X hx hZ hown w wi wz eT (g := mkF m pc Ls S) rfl (hb hby hd) hc hl
  exact go_of st (K T' h' _ rfl hsz ⟨meth, c, _, X', e', N, hx, hby, hml, hown, hnm, hret, hlk, hZ, hn⟩ E' A' D')
/-- an array of n places, the i-th holding f i -/
def Ary (Z : State) (h : Heap) (a : Addr) (ty : FieldType) (n : Nat) (f : Nat → Value) : Prop := ∃ c : Cell, Arr Z h a c ty ∧ c.slots.size = n ∧ n < 2 ^ 31 ∧ ∀ i, i < n → c.slots[i]? = some (f i)
def upd (f : Nat → Value) (i : Nat) (v : Value) : Nat → Value := fun j => if j = i then v else f j
theorem upd_same (f : Nat → Value) (i : Nat) (v : Value) : upd f i v i = v := if_pos rfl
theorem upd_other (f : Nat → Value) {i j : Nat} (v : Value) (q : j ≠ i) : upd f i v j = f j := if_neg q
theorem Ary.lt {a : Addr} {ty : FieldType} {n : Nat} {f : Nat → Value} (A : Ary Z h a ty n f) : a < h.size := by obtain ⟨c, A, -⟩ := A; exact A.lt
theorem Ary.ext {h' : Heap} {a : Addr} {ty : FieldType} {n : Nat} {f : Nat → Value} (A : Ary Z h a ty n f) (E : Ext h h') : Ary Z h' a ty n f := by obtain ⟨c, A, r⟩ := A; exact ⟨c, A.ext E, r⟩
theorem Ary.keep {h' : Heap} {a : Addr} {ty : FieldType} {n : Nat} {f : Nat → Value} {ws : List Addr} (A : Ary Z h a ty n f) (K : Keep h h' ws) (q : a ∉ ws) : Ary Z h' a ty n f := by obtain ⟨c, A, r⟩ := A; exact ⟨c, ⟨K.2.1 a c A.1 q, A.2⟩, r⟩
theorem Ary.other {h' : Heap} {a b : Addr} {sl : Nat} {v : Value} {ty : FieldType} {n : Nat} {f : Nat → Value} (A : Ary Z h a ty n f) (W : Wr h h' b sl v) (q : a ≠ b) : Ary Z h' a ty n f := by obtain ⟨c, A, r⟩ := A; exact ⟨c, A.other W q, r⟩
theorem Ary.congr {a : Addr} {ty : FieldType} {n : Nat} {f g : Nat → Value} (A : Ary Z h a ty n f) (q : ∀ i, i < n → f i = g i) : Ary Z h a ty n g := by obtain ⟨c, A, r1, r2, r3⟩ := A; exact ⟨c, A, r1, r2, fun i hi => by rw [r3 i hi, q i hi]⟩
theorem Ary.set {h' : Heap} {a : Addr} {ty : FieldType} {n i : Nat} {v : Value} {f : Nat → Value} (A : Ary Z h a ty n f) (W : Wr h h' a i v) (hi : i < n) : Ary Z h' a ty n (upd f i v) := by
  obtain ⟨c, A, rfl, r2, r3⟩ := A
  refine ⟨c.setSlot i v, A.same W, sz_set _ _ _, r2, fun j hj => ?_⟩
  by_cases q : j = i
  · subst q; simp [Cell.setSlot, hj, upd]
  · rw [upd_other f v q, ← r3 j hj]; exact Array.getElem?_setIfInBounds_ne (Ne.symm q)
theorem nat_at {j : Int32} {i : Nat} (hj : j.toInt = (i : Int)) : j.toNatClampNeg = i ∧ ¬ j < 0 := by
  constructor
  · simp only [Int32.toNatClampNeg, hj]; omega
  · simp only [Int32.lt_iff_toInt_lt, Int32.reduceToInt, hj]; omega
theorem in_at {j : Int32} {i n : Nat} {c : Cell} (hj : j.toInt = (i : Int)) (hn : c.slots.size = n) (hi : i < n) : ¬ (j < 0 ∨ c.slots.size ≤ j.toNatClampNeg) := by
  obtain ⟨q1, q2⟩ := nat_at hj
  rw [q1]; rintro (q | q)
  · exact q2 q
  · omega
theorem w_arraylength (X : Sd l Z n0 y bytes maxL ret R p e s m args below T h cells slots) {a : Addr} {ty : FieldType} {n : Nat} {f : Nat → Value} (z : Int32) (hd : decode bytes pc = .ok (.arraylength, 1)) (A : Ary Z h a ty n f) (hz : z.toInt = (n : Int)) (hp : pc' = pc + 1) (K : Go p e below G (T.setTop (mkF m pc' Ls (.int z :: S)))) : Go p e below G (T.setTop (mkF m pc Ls (.ref a :: S))) := by
  obtain ⟨meth, c, locs, X, eT, N, hx, hby, hml, hown, hnm, hret, hlk, hZ, hn⟩ := X; subst hp
  obtain ⟨cl, A, r1, r2, -⟩ := A
  have ez : cl.slots.size.toInt32 = z := Int32.toInt_inj.mp (by rw [r1, len_toInt r2, hz])
  exact go_of (fun t k => X.arraylength hx (by rw [eT]; exact A.1) (State.isArrayOf_alike hZ.alike A.2.1) (g := mkF m pc Ls (.ref a :: S)) rfl rfl (hb hby hd) t (by rw [ez]; exact k)) K
theorem w_iaload (X : Sd l Z n0 y bytes maxL ret R p e s m args below T h cells slots) {a : Addr} {n : Nat} {f : Nat → Value} {j : Int32} (i : Nat) {v : Value} (hd : decode bytes pc = .ok (.iaload, 1)) (A : Ary Z h a .int n f) (hj : j.toInt = (i : Int)) (hi : i < n) (hv : f i = v) (hp : pc' = pc + 1) (K : Go p e below G (T.setTop (mkF m pc' Ls (v :: S)))) : Go p e below G (T.setTop (mkF m pc Ls (.int j :: .ref a :: S))) := by
  obtain ⟨meth, c, locs, X, eT, N, hx, hby, hml, hown, hnm, hret, hlk, hZ, hn⟩ := X; subst hp
  obtain ⟨cl, A, r1, r2, r3⟩ := A
  exact go_of (fun t k => X.iaload hx (j := j) (v := v) (by rw [eT]; exact A.1) (State.isArrayOf_alike hZ.alike A.2.1) A.2.2 (in_at hj r1 hi) (by rw [(nat_at hj).1, r3 i hi, hv]) (g := mkF m pc Ls (.int j :: .ref a :: S)) rfl rfl (hb hby hd) t k) K
theorem w_laload (X : Sd l Z n0 y bytes maxL ret R p e s m args below T h cells slots) {a : Addr} {n : Nat} {f : Nat → Value} {j : Int32} (i : Nat) {v : Value} (hd : decode bytes pc = .ok (.laload, 1)) (A : Ary Z h a .long n f) (hj : j.toInt = (i : Int)) (hi : i < n) (hv : f i = v) (hp : pc' = pc + 1) (K : Go p e below G (T.setTop (mkF m pc' Ls (v :: S)))) : Go p e below G (T.setTop (mkF m pc Ls (.int j :: .ref a :: S))) := by
  obtain ⟨meth, c, locs, X, eT, N, hx, hby, hml, hown, hnm, hret, hlk, hZ, hn⟩ := X; subst hp
  obtain ⟨cl, A, r1, r2, r3⟩ := A
  exact go_of (fun t k => X.laload hx (j := j) (v := v) (by rw [eT]; exact A.1) (State.isArrayOf_alike hZ.alike A.2.1) A.2.2 (in_at hj r1 hi) (by rw [(nat_at hj).1, r3 i hi, hv]) (g := mkF m pc Ls (.int j :: .ref a :: S)) rfl rfl (hb hby hd) t k) K
theorem w_caload (X : Sd l Z n0 y bytes maxL ret R p e s m args below T h cells slots) {a : Addr} {n : Nat} {f : Nat → Value} {j : Int32} (i : Nat) {v : Value} (hd : decode bytes pc = .ok (.caload, 1)) (A : Ary Z h a .char n f) (hj : j.toInt = (i : Int)) (hi : i < n) (hv : f i = v) (hp : pc' = pc + 1) (K : Go p e below G (T.setTop (mkF m pc' Ls (v :: S)))) : Go p e below G (T.setTop (mkF m pc Ls (.int j :: .ref a :: S))) := by
  obtain ⟨meth, c, locs, X, eT, N, hx, hby, hml, hown, hnm, hret, hlk, hZ, hn⟩ := X; subst hp
  obtain ⟨cl, A, r1, r2, r3⟩ := A
  exact go_of (fun t k => X.caload hx (j := j) (v := v) (by rw [eT]; exact A.1) (State.isArrayOf_alike hZ.alike A.2.1) A.2.2 (in_at hj r1 hi) (by rw [(nat_at hj).1, r3 i hi, hv]) (g := mkF m pc Ls (.int j :: .ref a :: S)) rfl rfl (hb hby hd) t k) K
theorem w_baload (X : Sd l Z n0 y bytes maxL ret R p e s m args below T h cells slots) {a : Addr} {n : Nat} {f : Nat → Value} {j : Int32} (i : Nat) {v : Value} (hd : decode bytes pc = .ok (.baload, 1)) (A : Ary Z h a .byte n f) (hj : j.toInt = (i : Int)) (hi : i < n) (hv : f i = v) (hp : pc' = pc + 1) (K : Go p e below G (T.setTop (mkF m pc' Ls (v :: S)))) : Go p e below G (T.setTop (mkF m pc Ls (.int j :: .ref a :: S))) := by
  obtain ⟨meth, c, locs, X, eT, N, hx, hby, hml, hown, hnm, hret, hlk, hZ, hn⟩ := X; subst hp
  obtain ⟨cl, A, r1, r2, r3⟩ := A
  exact go_of (fun t k => X.baloadBytes hx (j := j) (v := v) (by rw [eT]; exact A.1) (State.isArrayOf_alike hZ.alike A.2.1) A.2.2 (in_at hj r1 hi) (by rw [(nat_at hj).1, r3 i hi, hv]) (g := mkF m pc Ls (.int j :: .ref a :: S)) rfl rfl (hb hby hd) t k) K
theorem w_zaload (X : Sd l Z n0 y bytes maxL ret R p e s m args below T h cells slots) {a : Addr} {n : Nat} {f : Nat → Value} {j : Int32} (i : Nat) {v : Value} (hd : decode bytes pc = .ok (.baload, 1)) (A : Ary Z h a .boolean n f) (hj : j.toInt = (i : Int)) (hi : i < n) (hv : f i = v) (hp : pc' = pc + 1) (K : Go p e below G (T.setTop (mkF m pc' Ls (v :: S)))) : Go p e below G (T.setTop (mkF m pc Ls (.int j :: .ref a :: S))) := by
  obtain ⟨meth, c, locs, X, eT, N, hx, hby, hml, hown, hnm, hret, hlk, hZ, hn⟩ := X; subst hp
  obtain ⟨cl, A, r1, r2, r3⟩ := A
  exact go_of (fun t k => X.baloadBooleans hx (j := j) (v := v) (by rw [eT]; exact A.1) (State.isArrayOf_alike hZ.alike A.2.1) A.2.2 (in_at hj r1 hi) (by rw [(nat_at hj).1, r3 i hi, hv]) (g := mkF m pc Ls (.int j :: .ref a :: S)) rfl rfl (hb hby hd) t k) K
theorem w_aaload (X : Sd l Z n0 y bytes maxL ret R p e s m args below T h cells slots) {a : Addr} {ty : FieldType} {n : Nat} {f : Nat → Value} {j : Int32} (i : Nat) {v : Value} (hd : decode bytes pc = .ok (.aaload, 1)) (A : Ary Z h a ty n f) (hty : ty.isReference = true) (hj : j.toInt = (i : Int)) (hi : i < n) (hv : f i = v) (hp : pc' = pc + 1) (K : Go p e below G (T.setTop (mkF m pc' Ls (v :: S)))) : Go p e below G (T.setTop (mkF m pc Ls (.int j :: .ref a :: S))) := by
  obtain ⟨meth, c, locs, X, eT, N, hx, hby, hml, hown, hnm, hret, hlk, hZ, hn⟩ := X; subst hp
  obtain ⟨cl, A, r1, r2, r3⟩ := A
  exact go_of (fun t k => X.aaload hx (j := j) (v := v) (by rw [eT]; exact A.1) (State.isArrayOf_alike hZ.alike A.2.1) hty A.2.2 (in_at hj r1 hi) (by rw [(nat_at hj).1, r3 i hi, hv]) (g := mkF m pc Ls (.int j :: .ref a :: S)) rfl rfl (hb hby hd) t k) K
theorem w_iastore (X : Sd l Z n0 y bytes maxL ret R p e s m args below T h cells slots) {a : Addr} {n : Nat} {f : Nat → Value} {j : Int32} (i : Nat) {v : Int32} (hd : decode bytes pc = .ok (.iastore, 1)) (A : Ary Z h a .int n f) (hj : j.toInt = (i : Int)) (hi : i < n) (hg : n0 ≤ a) (hp : pc' = pc + 1) (K : ∀ T' h', Sd l Z n0 y bytes maxL ret R p e s m args below T' h' cells slots → Wr h h' a i (.int v) → Ary Z h' a .int n (upd f i (.int v)) → Go p e below G (T'.setTop (mkF m (pc') Ls S))) : Go p e below G (T.setTop (mkF m pc Ls (.int v :: .int j :: .ref a :: S))) := by
  obtain ⟨meth, c, locs, X, eT, N, hx, hby, hml, hown, hnm, hret, hlk, hZ, hn⟩ := X; subst hp
  have A0 := A
  obtain ⟨cl, A, r1, r2, r3⟩ := A
  obtain ⟨T', h', X', e', W, st⟩ := stI X hx hZ eT A (j := j) (in_at hj r1 hi) (g := mkF m pc Ls (.int v :: .int j :: .ref a :: S)) rfl rfl (hb hby hd)
  rw [(nat_at hj).1] at W X'
  exact go_of st (K T' h' ⟨meth, c, _, X', e', Fr.snoc X' N hg, hx, hby, hml, hown, hnm, hret, hlk, hZ, hn⟩ W (A0.set W hi))
theorem w_lastore (X : Sd l Z n0 y bytes maxL ret R p e s m args below T h cells slots) {a : Addr} {n : Nat} {f : Nat → Value} {j : Int32} (i : Nat) {v : Int64} (hd : decode bytes pc = .ok (.lastore, 1)) (A : Ary Z h a .long n f) (hj : j.toInt = (i : Int)) (hi : i < n) (hg : n0 ≤ a) (hp : pc' = pc + 1) (K : ∀ T' h', Sd l Z n0 y bytes maxL ret R p e s m args below T' h' cells slots → Wr h h' a i (.long v) → Ary Z h' a .long n (upd f i (.long v)) → Go p e below G (T'.setTop (mkF m (pc') Ls S))) : Go p e below G (T.setTop (mkF m pc Ls (.long v :: .int j :: .ref a :: S))) := by
  obtain ⟨meth, c, locs, X, eT, N, hx, hby, hml, hown, hnm, hret, hlk, hZ, hn⟩ := X; subst hp
  have A0 := A
  obtain ⟨cl, A, r1, r2, r3⟩ := A
  obtain ⟨T', h', X', e', W, st⟩ := stJ X hx hZ eT A (j := j) (in_at hj r1 hi) (g := mkF m pc Ls (.long v :: .int j :: .ref a :: S)) rfl rfl (hb hby hd)
  rw [(nat_at hj).1] at W X'
  exact go_of st (K T' h' ⟨meth, c, _, X', e', Fr.snoc X' N hg, hx, hby, hml, hown, hnm, hret, hlk, hZ, hn⟩ W (A0.set W hi))
theorem w_castore (X : Sd l Z n0 y bytes maxL ret R p e s m args below T h cells slots) {a : Addr} {n : Nat} {f : Nat → Value} {j : Int32} (i : Nat) {v : Int32} (hd : decode bytes pc = .ok (.castore, 1)) (A : Ary Z h a .char n f) (hj : j.toInt = (i : Int)) (hi : i < n) (hg : n0 ≤ a) (hp : pc' = pc + 1) (K : ∀ T' h', Sd l Z n0 y bytes maxL ret R p e s m args below T' h' cells slots → Wr h h' a i (.int (nar .char v)) → Ary Z h' a .char n (upd f i (.int (nar .char v))) → Go p e below G (T'.setTop (mkF m (pc') Ls S))) : Go p e below G (T.setTop (mkF m pc Ls (.int v :: .int j :: .ref a :: S))) := by
  obtain ⟨meth, c, locs, X, eT, N, hx, hby, hml, hown, hnm, hret, hlk, hZ, hn⟩ := X; subst hp
  have A0 := A
  obtain ⟨cl, A, r1, r2, r3⟩ := A
  obtain ⟨T', h', X', e', W, st⟩ := stC X hx hZ eT A (j := j) (in_at hj r1 hi) (g := mkF m pc Ls (.int v :: .int j :: .ref a :: S)) rfl rfl (hb hby hd)
  rw [(nat_at hj).1] at W X'
  exact go_of st (K T' h' ⟨meth, c, _, X', e', Fr.snoc X' N hg, hx, hby, hml, hown, hnm, hret, hlk, hZ, hn⟩ W (A0.set W hi))
theorem w_bastore (X : Sd l Z n0 y bytes maxL ret R p e s m args below T h cells slots) {a : Addr} {n : Nat} {f : Nat → Value} {j : Int32} (i : Nat) {v : Int32} (hd : decode bytes pc = .ok (.bastore, 1)) (A : Ary Z h a .byte n f) (hj : j.toInt = (i : Int)) (hi : i < n) (hg : n0 ≤ a) (hp : pc' = pc + 1) (K : ∀ T' h', Sd l Z n0 y bytes maxL ret R p e s m args below T' h' cells slots → Wr h h' a i (.int (nar .byte v)) → Ary Z h' a .byte n (upd f i (.int (nar .byte v))) → Go p e below G (T'.setTop (mkF m (pc') Ls S))) : Go p e below G (T.setTop (mkF m pc Ls (.int v :: .int j :: .ref a :: S))) := by
  obtain ⟨meth, c, locs, X, eT, N, hx, hby, hml, hown, hnm, hret, hlk, hZ, hn⟩ := X; subst hp
  have A0 := A
  obtain ⟨cl, A, r1, r2, r3⟩ := A
  obtain ⟨T', h', X', e', W, st⟩ := stB X hx hZ eT A (j := j) (in_at hj r1 hi) (g := mkF m pc Ls (.int v :: .int j :: .ref a :: S)) rfl rfl (hb hby hd)
  rw [(nat_at hj).1] at W X'
  exact go_of st (K T' h' ⟨meth, c, _, X', e', Fr.snoc X' N hg, hx, hby, hml, hown, hnm, hret, hlk, hZ, hn⟩ W (A0.set W hi))
theorem w_zastore (X : Sd l Z n0 y bytes maxL ret R p e s m args below T h cells slots) {a : Addr} {n : Nat} {f : Nat → Value} {j : Int32} (i : Nat) {v : Int32} (hd : decode bytes pc = .ok (.bastore, 1)) (A : Ary Z h a .boolean n f) (hj : j.toInt = (i : Int)) (hi : i < n) (hg : n0 ≤ a) (hp : pc' = pc + 1) (K : ∀ T' h', Sd l Z n0 y bytes maxL ret R p e s m args below T' h' cells slots → Wr h h' a i (.int (nar .boolean v)) → Ary Z h' a .boolean n (upd f i (.int (nar .boolean v))) → Go p e below G (T'.setTop (mkF m (pc') Ls S))) : Go p e below G (T.setTop (mkF m pc Ls (.int v :: .int j :: .ref a :: S))) := by
  obtain ⟨meth, c, locs, X, eT, N, hx, hby, hml, hown, hnm, hret, hlk, hZ, hn⟩ := X; subst hp
  have A0 := A
  obtain ⟨cl, A, r1, r2, r3⟩ := A
  obtain ⟨T', h', X', e', W, st⟩ := stZ X hx hZ eT A (j := j) (in_at hj r1 hi) (g := mkF m pc Ls (.int v :: .int j :: .ref a :: S)) rfl rfl (hb hby hd)
  rw [(nat_at hj).1] at W X'
  exact go_of st (K T' h' ⟨meth, c, _, X', e', Fr.snoc X' N hg, hx, hby, hml, hown, hnm, hret, hlk, hZ, hn⟩ W (A0.set W hi))
theorem w_aastore (X : Sd l Z n0 y bytes maxL ret R p e s m args below T h cells slots) {a : Addr} {ty : FieldType} {n : Nat} {f : Nat → Value} {j : Int32} (i : Nat) {v : Value} (hd : decode bytes pc = .ok (.aastore, 1)) (A : Ary Z h a ty n f) (hty : ty.isReference = true) (F : Sto Z h a v) (hj : j.toInt = (i : Int)) (hi : i < n) (hg : n0 ≤ a) (hp : pc' = pc + 1) (K : ∀ T' h', Sd l Z n0 y bytes maxL ret R p e s m args below T' h' cells slots → Wr h h' a i v → Ary Z h' a ty n (upd f i v) → Go p e below G (T'.setTop (mkF m (pc') Ls S))) : Go p e below G (T.setTop (mkF m pc Ls (v :: .int j :: .ref a :: S))) := by
  obtain ⟨meth, c, locs, X, eT, N, hx, hby, hml, hown, hnm, hret, hlk, hZ, hn⟩ := X; subst hp
  have A0 := A
  obtain ⟨cl, A, r1, r2, r3⟩ := A
  obtain ⟨T', h', X', e', W, st⟩ := stR X hx hZ eT A (j := j) (in_at hj r1 hi) hty F (g := mkF m pc Ls (v :: .int j :: .ref a :: S)) rfl rfl (hb hby hd)
  rw [(nat_at hj).1] at W X'
  exact go_of st (K T' h' ⟨meth, c, _, X', e', Fr.snoc X' N hg, hx, hby, hml, hown, hnm, hret, hlk, hZ, hn⟩ W (A0.set W hi))
theorem w_newarray (X : Sd l Z n0 y bytes maxL ret R p e s m args below T h cells slots) {aty : ArrayType} {z : Int32} (n cap : Nat) (hd : decode bytes pc = .ok (.newarray aty, 2)) (w : (Jvm.Cond.arrayClass (newarray.typeOf aty)).before a0 Z = true) (hz : z.toInt = (n : Int)) (hcap : n ≤ cap) (hb8 : cap * 8 ≤ 536870912) (hc : cells + 1 ≤ R.cells) (hl : slots + cap ≤ R.slots) (hp : pc' = pc + 2)
    (K : ∀ T' h' b, b = h.size → n0 ≤ b → Sd l Z n0 y bytes maxL ret R p e s m args below T' h' (cells + 1) (slots + cap) → Ext h h' → Ary Z h' b (newarray.typeOf aty) n (fun _ => defaultValue (newarray.typeOf aty)) → Go p e below G (T'.setTop (mkF m (pc') Ls (.ref b :: S)))) : Go p e below G (T.setTop (mkF m pc Ls (.int z :: S))) := by
  have hsz := sd_size X
  obtain ⟨meth, c, locs, X, eT, N, hx, hby, hml, hown, hnm, hret, hlk, hZ, hn⟩ := X; subst hp
  obtain ⟨q1, q2⟩ := nat_at hz
  obtain ⟨T', h', cA, X', e', E', A', st⟩ := newP X hx hZ w eT (g := mkF m pc Ls (.int z :: S)) rfl (hb hby hd) rfl q2 (cap := cap) (by rw [q1]; exact hcap) hb8 hc hl
  refine go_of st (K T' h' _ rfl hsz ⟨meth, c, _, X', e', N, hx, hby, hml, hown, hnm, hret, hlk, hZ, hn⟩ E' ⟨_, A', (sz_new _ _ _).trans q1, by rw [← q1]; exact (back32 q2).2, fun i hi => ?_⟩)
  simp [newA, q1, hi]
theorem w_anewarray (X : Sd l Z n0 y bytes maxL ret R p e s m args below T h cells slots) {i : Nat} {C : String} {z : Int32} (n cap : Nat) (hd : decode bytes pc = .ok (.anewarray i, 3)) (w1 : (Jvm.Cond.classLink y.cls i C).before a0 Z = true) (w2 : (Jvm.Cond.arrayOver (.object C)).before a0 Z = true) (hz : z.toInt = (n : Int)) (hcap : n ≤ cap) (hb8 : cap * 8 ≤ 536870912) (hc : cells + 1 ≤ R.cells) (hl : slots + cap ≤ R.slots) (hp : pc' = pc + 3)
    (K : ∀ T' h' b, b = h.size → n0 ≤ b → Sd l Z n0 y bytes maxL ret R p e s m args below T' h' (cells + 1) (slots + cap) → Ext h h' → (∃ cl, Arr Z h' b cl (.object C) ∧ Ovr Z cl.cls C) → Ary Z h' b (.object C) n (fun _ => .null) → Go p e below G (T'.setTop (mkF m (pc') Ls (.ref b :: S)))) : Go p e below G (T.setTop (mkF m pc Ls (.int z :: S))) := by
  have hsz := sd_size X
  obtain ⟨meth, c, locs, X, eT, N, hx, hby, hml, hown, hnm, hret, hlk, hZ, hn⟩ := X; subst hp
  obtain ⟨q1, q2⟩ := nat_at hz
  obtain ⟨T', h', cA, X', e', E', A', O', st⟩ := newR X hx hZ hown w1 w2 eT (g := mkF m pc Ls (.int z :: S)) rfl (hb hby hd) rfl q2 (cap := cap) (by rw [q1]; exact hcap) hb8 hc hl
  refine go_of st (K T' h' _ rfl hsz ⟨meth, c, _, X', e', N, hx, hby, hml, hown, hnm, hret, hlk, hZ, hn⟩ E' ⟨_, A', O'⟩ ⟨_, A', (sz_new _ _ _).trans q1, by rw [← q1]; exact (back32 q2).2, fun i hi => ?_⟩)
  simp [newA, q1, hi, defaultValue]
theorem w_join {p : Program} {e : Env} {below : List Frame} {G : State → Prop} {t : State} {α : Type} (P : α → Prop) (st : α → State) (J : ∀ x, P x → Go p e below G (st x)) (K : (∀ x, P x → Go p e below G (st x)) → Go p e below G t) : Go p e below G t := K J
theorem w_staticV (X : Sd l Z n0 y bytes maxL ret R p e s m args below T h cells slots) {i : Nat} {y' : MethodName} {bytes' : ByteArray} {maxL' : Nat} {ret' : Option FieldType} {rm : Room} {as' : Array Value} {Q : Value → Heap → Prop} (hd : decode bytes pc = .ok (.invokestatic i, 3)) (hM : Con l Z n0 y' bytes' maxL' ret' rm as' h (Val Q)) (w1 : (Jvm.Cond.methodLink y.cls i y').before a0 Z = true) (w2 : (Jvm.Cond.static y').before a0 Z = true) (w3 : (Jvm.Cond.initialized y'.cls).before a0 Z = true) (w4 : (Jvm.Cond.code y' bytes' maxL' ret').before a0 Z = true) (hy : y'.cls ≠ "java/lang/invoke/MethodHandle" ∧ y'.cls ≠ "java/lang/invoke/VarHandle") (argsL rest : List Value) {ps : List FieldType} {r' : Option FieldType} (hlen : parseMethodDescriptor y'.desc = some ⟨ps, r'⟩) (hl : argsL.length = ps.length) (has : argsL.toArray = as') (hst : S = argsL.reverse ++ rest) (hsz : Ls.size = maxL) (W : Nat) (hW : (rest.map fun v => v.category).sum ≤ W) (hf : rm.frames + 1 ≤ R.frames) (hlo : W + (maxL' + 11) + rm.locals ≤ R.locals) (hc : cells + rm.cells ≤ R.cells) (hs : slots + rm.slots ≤ R.slots) (hp : pc' = pc + 3)
    (K : ∀ T' h' v, Sd l Z n0 y bytes maxL ret R p e s m args below T' h' (cells + rm.cells) (slots + rm.slots) → Q v h' → Go p e below G (T'.setTop (mkF m (pc') Ls (v :: rest)))) : Go p e below G (T.setTop (mkF m pc Ls S)) := by
  obtain ⟨meth, c, locs, X, eT, N, hx, hby, hml, hown, hnm, hret, hlk, hZ, hn⟩ := X; subst hp hst has
  obtain ⟨v, _, ⟨T', L', k', n'⟩, -, X', ⟨Lc, ⟨N', hQ⟩, lq, yq, zq⟩, st⟩ := Jvm.LawKit.callS X hx (y := y') hown (mvT hZ w1) (mvT hZ w2) (mvT hZ w3) (mvT hZ w4) hy (backOf (W := W) (Q := fun v h L => Fr n0 L ∧ Val Q v h) (hM []) hZ w4 w3 hf hlo) (g := mkF m pc Ls (argsL.reverse ++ rest)) rfl (by rw [hml]; exact hsz) (argsL := argsL) (rest := rest) (lenOf hlen hl) rfl (by show 2 * 0 + _ ≤ _; omega) (hb hby hd) (fun _ _ => ⟨rfl, eT, hc, hs⟩)
  dsimp only [Pt.U, Pt.locs, Pt.cells, Pt.slots] at X' lq yq zq st hQ
  subst lq yq zq
  obtain ⟨v, rfl, hQ⟩ := hQ
  exact go_of st (K T' _ v ⟨meth, c, _, X', rfl, Fr.app N N', hx, hby, hml, hown, hnm, hret, hlk, hZ, hn⟩ hQ)
theorem w_staticN (X : Sd l Z n0 y bytes maxL ret R p e s m args below T h cells slots) {i : Nat} {y' : MethodName} {bytes' : ByteArray} {maxL' : Nat} {ret' : Option FieldType} {rm : Room} {as' : Array Value} {Q : Heap → Prop} (hd : decode bytes pc = .ok (.invokestatic i, 3)) (hM : Con l Z n0 y' bytes' maxL' ret' rm as' h (Non Q)) (w1 : (Jvm.Cond.methodLink y.cls i y').before a0 Z = true) (w2 : (Jvm.Cond.static y').before a0 Z = true) (w3 : (Jvm.Cond.initialized y'.cls).before a0 Z = true) (w4 : (Jvm.Cond.code y' bytes' maxL' ret').before a0 Z = true) (hy : y'.cls ≠ "java/lang/invoke/MethodHandle" ∧ y'.cls ≠ "java/lang/invoke/VarHandle") (argsL rest : List Value) {ps : List FieldType} {r' : Option FieldType} (hlen : parseMethodDescriptor y'.desc = some ⟨ps, r'⟩) (hl : argsL.length = ps.length) (has : argsL.toArray = as') (hst : S = argsL.reverse ++ rest) (hsz : Ls.size = maxL) (W : Nat) (hW : (rest.map fun v => v.category).sum ≤ W) (hf : rm.frames + 1 ≤ R.frames) (hlo : W + (maxL' + 11) + rm.locals ≤ R.locals) (hc : cells + rm.cells ≤ R.cells) (hs : slots + rm.slots ≤ R.slots) (hp : pc' = pc + 3)
    (K : ∀ T' h', Sd l Z n0 y bytes maxL ret R p e s m args below T' h' (cells + rm.cells) (slots + rm.slots) → Q h' → Go p e below G (T'.setTop (mkF m (pc') Ls rest))) : Go p e below G (T.setTop (mkF m pc Ls S)) := by
  obtain ⟨meth, c, locs, X, eT, N, hx, hby, hml, hown, hnm, hret, hlk, hZ, hn⟩ := X; subst hp hst has
  obtain ⟨v, _, ⟨T', L', k', n'⟩, -, X', ⟨Lc, ⟨N', hQ⟩, lq, yq, zq⟩, st⟩ := Jvm.LawKit.callS X hx (y := y') hown (mvT hZ w1) (mvT hZ w2) (mvT hZ w3) (mvT hZ w4) hy (backOf (W := W) (Q := fun v h L => Fr n0 L ∧ Non Q v h) (hM []) hZ w4 w3 hf hlo) (g := mkF m pc Ls (argsL.reverse ++ rest)) rfl (by rw [hml]; exact hsz) (argsL := argsL) (rest := rest) (lenOf hlen hl) rfl (by show 2 * 0 + _ ≤ _; omega) (hb hby hd) (fun _ _ => ⟨rfl, eT, hc, hs⟩)
  dsimp only [Pt.U, Pt.locs, Pt.cells, Pt.slots] at X' lq yq zq st hQ
  subst lq yq zq
  obtain ⟨rfl, hQ⟩ := hQ
  exact go_of st (K T' _ ⟨meth, c, _, X', rfl, Fr.app N N', hx, hby, hml, hown, hnm, hret, hlk, hZ, hn⟩ hQ)
theorem w_specialN (X : Sd l Z n0 y bytes maxL ret R p e s m args below T h cells slots) {i : Nat} {y' : MethodName} {bytes' : ByteArray} {maxL' : Nat} {rm : Room} {as' : Array Value} {Q : Heap → Prop} {a : Addr} (hd : decode bytes pc = .ok (.invokespecial i, 3)) (hM : Con l Z n0 y' bytes' maxL' none rm as' h (Non Q)) (w1 : (Jvm.Cond.methodLink y.cls i y').before a0 Z = true) (w2 : (Jvm.Cond.instanceMethod y').before a0 Z = true) (w3 : (Jvm.Cond.initialized y'.cls).before a0 Z = true) (w4 : (Jvm.Cond.code y' bytes' maxL' none).before a0 Z = true) (hin : y'.name = "<init>") (hy : y'.cls ≠ "java/lang/invoke/MethodHandle" ∧ y'.cls ≠ "java/lang/invoke/VarHandle") (argsL rest : List Value) {ps : List FieldType} {r' : Option FieldType} (hlen : parseMethodDescriptor y'.desc = some ⟨ps, r'⟩) (hl : argsL.length = ps.length) (has : (.ref a :: argsL).toArray = as') (hst : S = argsL.reverse ++ .ref a :: rest) (hsz : Ls.size = maxL) (W : Nat) (hW : (rest.map fun v => v.category).sum ≤ W) (hf : rm.frames + 1 ≤ R.frames) (hlo : W + (maxL' + 11) + rm.locals ≤ R.locals) (hc : cells + rm.cells ≤ R.cells) (hs : slots + rm.slots ≤ R.slots) (hp : pc' = pc + 3)
    (K : ∀ T' h', Sd l Z n0 y bytes maxL ret R p e s m args below T' h' (cells + rm.cells) (slots + rm.slots) → Q h' → Go p e below G (T'.setTop (mkF m (pc') Ls rest))) : Go p e below G (T.setTop (mkF m pc Ls S)) := by
  obtain ⟨meth, c, locs, X, eT, N, hx, hby, hml, hown, hnm, hret, hlk, hZ, hn⟩ := X; subst hp hst has
  obtain ⟨v, _, ⟨T', L', k', n'⟩, -, X', ⟨Lc, ⟨N', hQ⟩, lq, yq, zq⟩, st⟩ := X.specialBack hx (y := y') hin hown (mvT hZ w1) (mvT hZ w2) (mvT hZ w4) hy (backOf (W := W) (Q := fun v h L => Fr n0 L ∧ Non Q v h) (hM []) hZ w4 w3 hf hlo) (g := mkF m pc Ls (argsL.reverse ++ .ref a :: rest)) rfl (by rw [hml]; exact hsz) (Steps.refl _) (a := a) (argsL := argsL) (rest := rest) (lenOf hlen hl) rfl (by show 2 * 0 + _ ≤ _; omega) (hb hby hd) (fun _ _ => ⟨rfl, eT, hc, hs⟩)
  dsimp only [Pt.U, Pt.locs, Pt.cells, Pt.slots] at X' lq yq zq st hQ
  subst lq yq zq
  obtain ⟨rfl, hQ⟩ := hQ
  exact go_of (fun _ k => st.trans k) (K T' _ ⟨meth, c, _, X', rfl, Fr.app N N', hx, hby, hml, hown, hnm, hret, hlk, hZ, hn⟩ hQ)
theorem w_virtualV (X : Sd l Z n0 y bytes maxL ret R p e s m args below T h cells slots) {i : Nat} {y' : MethodName} {bytes' : ByteArray} {maxL' : Nat} {ret' : Option FieldType} {rm : Room} {as' : Array Value} {Q : Value → Heap → Prop} {a : Addr} {C : String} (hd : decode bytes pc = .ok (.invokevirtual i, 3)) (hM : Con l Z n0 y' bytes' maxL' ret' rm as' h (Val Q)) (w1 : (Jvm.Cond.methodLink y.cls i y').before a0 Z = true) (w2 : (Jvm.Cond.declares y').before a0 Z = true) (w5 : (Jvm.Cond.selects C y' y').before a0 Z = true) (w6 : (Jvm.Cond.instanceMethod y').before a0 Z = true) (w3 : (Jvm.Cond.initialized y'.cls).before a0 Z = true) (w4 : (Jvm.Cond.code y' bytes' maxL' ret').before a0 Z = true) (Er : Exa Z h a C) (hy : y'.cls ≠ "java/lang/invoke/MethodHandle" ∧ y'.cls ≠ "java/lang/invoke/VarHandle") (argsL rest : List Value) {ps : List FieldType} {r' : Option FieldType} (hlen : parseMethodDescriptor y'.desc = some ⟨ps, r'⟩) (hl : argsL.length = ps.length) (has : (.ref a :: argsL).toArray = as') (hst : S = argsL.reverse ++ .ref a :: rest) (hsz : Ls.size = maxL) (W : Nat) (hW : (rest.map fun v => v.category).sum ≤ W) (hf : rm.frames + 1 ≤ R.frames) (hlo : W + (maxL' + 11) + rm.locals ≤ R.locals) (hc : cells + rm.cells ≤ R.cells) (hs : slots + rm.slots ≤ R.slots) (hp : pc' = pc + 3)
    (K : ∀ T' h' v, Sd l Z n0 y bytes maxL ret R p e s m args below T' h' (cells + rm.cells) (slots + rm.slots) → Q v h' → Go p e below G (T'.setTop (mkF m (pc') Ls (v :: rest)))) : Go p e below G (T.setTop (mkF m pc Ls S)) := by
  obtain ⟨meth, c, locs, X, eT, N, hx, hby, hml, hown, hnm, hret, hlk, hZ, hn⟩ := X; subst hp hst has
  obtain ⟨cq, kq, qa, qb, qc⟩ := isOf hZ eT Er
  obtain ⟨v, _, ⟨T', L', k', n'⟩, -, X', ⟨Lc, ⟨N', hQ⟩, lq, yq, zq⟩, st⟩ := X.virtualBack hx (y := y') (z := y') hown (mvT hZ w1) (mvT hZ w2) (notFace_of_selects (args := #[]) (mvT hZ w5)) (mvT hZ w5) (mvT hZ w6) hy (backOf (W := W) (Q := fun v h L => Fr n0 L ∧ Val Q v h) (hM []) hZ w4 w3 hf hlo) qa qc (g := mkF m pc Ls (argsL.reverse ++ .ref a :: rest)) rfl (by rw [hml]; exact hsz) (Steps.refl _) (argsL := argsL) (rest := rest) (lenOf hlen hl) rfl (by show 2 * 0 + _ ≤ _; omega) (hb hby hd) (fun _ _ => ⟨rfl, eT, hc, hs⟩)
  dsimp only [Pt.U, Pt.locs, Pt.cells, Pt.slots] at X' lq yq zq st hQ
  subst lq yq zq
  obtain ⟨v, rfl, hQ⟩ := hQ
  exact go_of (fun _ k => st.trans k) (K T' _ v ⟨meth, c, _, X', rfl, Fr.app N N', hx, hby, hml, hown, hnm, hret, hlk, hZ, hn⟩ hQ)
theorem w_virtualN (X : Sd l Z n0 y bytes maxL ret R p e s m args below T h cells slots) {i : Nat} {y' : MethodName} {bytes' : ByteArray} {maxL' : Nat} {ret' : Option FieldType} {rm : Room} {as' : Array Value} {Q : Heap → Prop} {a : Addr} {C : String} (hd : decode bytes pc = .ok (.invokevirtual i, 3)) (hM : Con l Z n0 y' bytes' maxL' ret' rm as' h (Non Q)) (w1 : (Jvm.Cond.methodLink y.cls i y').before a0 Z = true) (w2 : (Jvm.Cond.declares y').before a0 Z = true) (w5 : (Jvm.Cond.selects C y' y').before a0 Z = true) (w6 : (Jvm.Cond.instanceMethod y').before a0 Z = true) (w3 : (Jvm.Cond.initialized y'.cls).before a0 Z = true) (w4 : (Jvm.Cond.code y' bytes' maxL' ret').before a0 Z = true) (Er : Exa Z h a C) (hy : y'.cls ≠ "java/lang/invoke/MethodHandle" ∧ y'.cls ≠ "java/lang/invoke/VarHandle") (argsL rest : List Value) {ps : List FieldType} {r' : Option FieldType} (hlen : parseMethodDescriptor y'.desc = some ⟨ps, r'⟩) (hl : argsL.length = ps.length) (has : (.ref a :: argsL).toArray = as') (hst : S = argsL.reverse ++ .ref a :: rest) (hsz : Ls.size = maxL) (W : Nat) (hW : (rest.map fun v => v.category).sum ≤ W) (hf : rm.frames + 1 ≤ R.frames) (hlo : W + (maxL' + 11) + rm.locals ≤ R.locals) (hc : cells + rm.cells ≤ R.cells) (hs : slots + rm.slots ≤ R.slots) (hp : pc' = pc + 3)
    (K : ∀ T' h', Sd l Z n0 y bytes maxL ret R p e s m args below T' h' (cells + rm.cells) (slots + rm.slots) → Q h' → Go p e below G (T'.setTop (mkF m (pc') Ls rest))) : Go p e below G (T.setTop (mkF m pc Ls S)) := by
  obtain ⟨meth, c, locs, X, eT, N, hx, hby, hml, hown, hnm, hret, hlk, hZ, hn⟩ := X; subst hp hst has
  obtain ⟨cq, kq, qa, qb, qc⟩ := isOf hZ eT Er
  obtain ⟨v, _, ⟨T', L', k', n'⟩, -, X', ⟨Lc, ⟨N', hQ⟩, lq, yq, zq⟩, st⟩ := X.virtualBack hx (y := y') (z := y') hown (mvT hZ w1) (mvT hZ w2) (notFace_of_selects (args := #[]) (mvT hZ w5)) (mvT hZ w5) (mvT hZ w6) hy (backOf (W := W) (Q := fun v h L => Fr n0 L ∧ Non Q v h) (hM []) hZ w4 w3 hf hlo) qa qc (g := mkF m pc Ls (argsL.reverse ++ .ref a :: rest)) rfl (by rw [hml]; exact hsz) (Steps.refl _) (argsL := argsL) (rest := rest) (lenOf hlen hl) rfl (by show 2 * 0 + _ ≤ _; omega) (hb hby hd) (fun _ _ => ⟨rfl, eT, hc, hs⟩)
  dsimp only [Pt.U, Pt.locs, Pt.cells, Pt.slots] at X' lq yq zq st hQ
  subst lq yq zq
  obtain ⟨rfl, hQ⟩ := hQ
  exact go_of (fun _ k => st.trans k) (K T' _ ⟨meth, c, _, X', rfl, Fr.app N N', hx, hby, hml, hown, hnm, hret, hlk, hZ, hn⟩ hQ)
theorem w_ireturn {z : Int32} (X : Sd l Z n0 y bytes maxL (some .int) R p e s m args below T h cells slots) {Q : Value → Heap → Prop} (hd : decode bytes pc = .ok (.ireturn, 1)) (hq : Q (.int z) h) (hc : cells ≤ R.cells) (hs : slots ≤ R.slots) : Go p e below (Done below s n0 (Val Q) R.cells R.slots) (T.setTop (mkF m pc Ls (.int z :: S))) := by
  obtain ⟨meth, c, locs, X, eT, N, hx, hby, hml, hown, hnm, hret, hlk, hZ, hn⟩ := X
  obtain ⟨fs, hr, hrun, hended, hW, hsame⟩ := X.leave (v := some (.int z)) (fun h => by rw [hret] at h; cases h) hlk
  refine ⟨_, ?_, _, hrun, hended, _, _, rfl, ⟨N, _, rfl, by rw [← eT] at hq; exact hq⟩, ⟨_, rfl⟩, hW, hsame.mono hc hs⟩
  · exact retOut X hx (t := .int) hret rfl (Or.inl ⟨rfl, Or.inl rfl, z, rfl⟩) (hb hby hd) hr
theorem w_zreturn {z : Int32} (X : Sd l Z n0 y bytes maxL (some .boolean) R p e s m args below T h cells slots) {Q : Value → Heap → Prop} (hd : decode bytes pc = .ok (.ireturn, 1)) (hq : Q (.int (nar .boolean z)) h) (hc : cells ≤ R.cells) (hs : slots ≤ R.slots) : Go p e below (Done below s n0 (Val Q) R.cells R.slots) (T.setTop (mkF m pc Ls (.int z :: S))) := by
  obtain ⟨meth, c, locs, X, eT, N, hx, hby, hml, hown, hnm, hret, hlk, hZ, hn⟩ := X
  obtain ⟨fs, hr, hrun, hended, hW, hsame⟩ := X.leave (v := some (.int (nar .boolean z))) (fun h => by rw [hret] at h; cases h) hlk
  refine ⟨_, ?_, _, hrun, hended, _, _, rfl, ⟨N, _, rfl, by rw [← eT] at hq; exact hq⟩, ⟨_, rfl⟩, hW, hsame.mono hc hs⟩
  · exact retN X hx (t := .boolean) hret (by simp) (hb hby hd) hr
theorem w_breturn {z : Int32} (X : Sd l Z n0 y bytes maxL (some .byte) R p e s m args below T h cells slots) {Q : Value → Heap → Prop} (hd : decode bytes pc = .ok (.ireturn, 1)) (hq : Q (.int (nar .byte z)) h) (hc : cells ≤ R.cells) (hs : slots ≤ R.slots) : Go p e below (Done below s n0 (Val Q) R.cells R.slots) (T.setTop (mkF m pc Ls (.int z :: S))) := by
  obtain ⟨meth, c, locs, X, eT, N, hx, hby, hml, hown, hnm, hret, hlk, hZ, hn⟩ := X
  obtain ⟨fs, hr, hrun, hended, hW, hsame⟩ := X.leave (v := some (.int (nar .byte z))) (fun h => by rw [hret] at h; cases h) hlk
  refine ⟨_, ?_, _, hrun, hended, _, _, rfl, ⟨N, _, rfl, by rw [← eT] at hq; exact hq⟩, ⟨_, rfl⟩, hW, hsame.mono hc hs⟩
  · exact retN X hx (t := .byte) hret (by simp) (hb hby hd) hr
theorem w_creturn {z : Int32} (X : Sd l Z n0 y bytes maxL (some .char) R p e s m args below T h cells slots) {Q : Value → Heap → Prop} (hd : decode bytes pc = .ok (.ireturn, 1)) (hq : Q (.int (nar .char z)) h) (hc : cells ≤ R.cells) (hs : slots ≤ R.slots) : Go p e below (Done below s n0 (Val Q) R.cells R.slots) (T.setTop (mkF m pc Ls (.int z :: S))) := by
  obtain ⟨meth, c, locs, X, eT, N, hx, hby, hml, hown, hnm, hret, hlk, hZ, hn⟩ := X
  obtain ⟨fs, hr, hrun, hended, hW, hsame⟩ := X.leave (v := some (.int (nar .char z))) (fun h => by rw [hret] at h; cases h) hlk
  refine ⟨_, ?_, _, hrun, hended, _, _, rfl, ⟨N, _, rfl, by rw [← eT] at hq; exact hq⟩, ⟨_, rfl⟩, hW, hsame.mono hc hs⟩
  · exact retN X hx (t := .char) hret (by simp) (hb hby hd) hr
theorem w_sreturn {z : Int32} (X : Sd l Z n0 y bytes maxL (some .short) R p e s m args below T h cells slots) {Q : Value → Heap → Prop} (hd : decode bytes pc = .ok (.ireturn, 1)) (hq : Q (.int (nar .short z)) h) (hc : cells ≤ R.cells) (hs : slots ≤ R.slots) : Go p e below (Done below s n0 (Val Q) R.cells R.slots) (T.setTop (mkF m pc Ls (.int z :: S))) := by
  obtain ⟨meth, c, locs, X, eT, N, hx, hby, hml, hown, hnm, hret, hlk, hZ, hn⟩ := X
  obtain ⟨fs, hr, hrun, hended, hW, hsame⟩ := X.leave (v := some (.int (nar .short z))) (fun h => by rw [hret] at h; cases h) hlk
  refine ⟨_, ?_, _, hrun, hended, _, _, rfl, ⟨N, _, rfl, by rw [← eT] at hq; exact hq⟩, ⟨_, rfl⟩, hW, hsame.mono hc hs⟩
  · exact retN X hx (t := .short) hret (by simp) (hb hby hd) hr
theorem w_lreturn {z : Int64} (X : Sd l Z n0 y bytes maxL (some .long) R p e s m args below T h cells slots) {Q : Value → Heap → Prop} (hd : decode bytes pc = .ok (.lreturn, 1)) (hq : Q (.long z) h) (hc : cells ≤ R.cells) (hs : slots ≤ R.slots) : Go p e below (Done below s n0 (Val Q) R.cells R.slots) (T.setTop (mkF m pc Ls (.long z :: S))) := by
  obtain ⟨meth, c, locs, X, eT, N, hx, hby, hml, hown, hnm, hret, hlk, hZ, hn⟩ := X
  obtain ⟨fs, hr, hrun, hended, hW, hsame⟩ := X.leave (v := some (.long z)) (fun h => by rw [hret] at h; cases h) hlk
  refine ⟨_, ?_, _, hrun, hended, _, _, rfl, ⟨N, _, rfl, by rw [← eT] at hq; exact hq⟩, ⟨_, rfl⟩, hW, hsame.mono hc hs⟩
  · exact retOut X hx (t := .long) hret rfl (Or.inr (Or.inl ⟨rfl, rfl, z, rfl⟩)) (hb hby hd) hr
theorem w_areturn {t : FieldType} {v : Value} (X : Sd l Z n0 y bytes maxL (some t) R p e s m args below T h cells slots) {Q : Value → Heap → Prop} (hd : decode bytes pc = .ok (.areturn, 1)) (ht : t.isReference = true) (hv : v.isRef = true) (hna : narrow t v = v) (hq : Q v h) (hc : cells ≤ R.cells) (hs : slots ≤ R.slots) : Go p e below (Done below s n0 (Val Q) R.cells R.slots) (T.setTop (mkF m pc Ls (v :: S))) := by
  obtain ⟨meth, c, locs, X, eT, N, hx, hby, hml, hown, hnm, hret, hlk, hZ, hn⟩ := X
  obtain ⟨fs, hr, hrun, hended, hW, hsame⟩ := X.leave (v := some v) (fun h => by rw [hret] at h; cases h) hlk
  refine ⟨_, ?_, _, hrun, hended, _, _, rfl, ⟨N, _, rfl, by rw [← eT] at hq; exact hq⟩, ⟨_, rfl⟩, hW, hsame.mono hc hs⟩
  · exact retOut X hx (t := t) hret hna (Or.inr (Or.inr (Or.inr (Or.inr ⟨rfl, ht, hv⟩)))) (hb hby hd) hr
theorem w_return  (X : Sd l Z n0 y bytes maxL none R p e s m args below T h cells slots) {Q : Heap → Prop} (hd : decode bytes pc = .ok (.return_, 1)) (hq : Q h) (hc : cells ≤ R.cells) (hs : slots ≤ R.slots) : Go p e below (Done below s n0 (Non Q) R.cells R.slots) (T.setTop (mkF m pc Ls [])) := by
  obtain ⟨meth, c, locs, X, eT, N, hx, hby, hml, hown, hnm, hret, hlk, hZ, hn⟩ := X
  obtain ⟨fs, hr, hrun, hended, hW, hsame⟩ := X.leave (v := none) (fun _ => rfl) hlk
  refine ⟨_, ?_, _, hrun, hended, _, _, rfl, ⟨N, rfl, by rw [← eT] at hq; exact hq⟩, ⟨_, rfl⟩, hW, hsame.mono hc hs⟩
  · exact X.returnOut hx hret (hb hby hd) hr
theorem ne_new {a b : Addr} (g : b = h.size) (q : a < h.size) : a ≠ b := by subst g; exact Nat.ne_of_lt q
theorem sz_fresh {h0 : Heap} {b : Addr} {ws : List Addr} (g : b = h.size) (K : Keep h0 h ws) : h0.size ≤ b := by subst g; exact K.1
def Oar (Z : State) (h : Heap) (a : Addr) (C : String) : Prop := ∃ cl, Arr Z h a cl (.object C) ∧ Ovr Z cl.cls C
theorem Oar.lt {a : Addr} {C : String} (O : Oar Z h a C) : a < h.size := by obtain ⟨cl, A, -⟩ := O; exact A.lt
theorem Oar.ext {h' : Heap} {a : Addr} {C : String} (O : Oar Z h a C) (E : Ext h h') : Oar Z h' a C := by obtain ⟨cl, A, r⟩ := O; exact ⟨cl, A.ext E, r⟩
theorem Oar.wr {h' : Heap} {a b : Addr} {sl : Nat} {v : Value} {C : String} (O : Oar Z h a C) (W : Wr h h' b sl v) : Oar Z h' a C := by
  obtain ⟨cl, A, r⟩ := O
  by_cases q : a = b
  · subst q; exact ⟨_, A.same W, r⟩
  · exact ⟨cl, A.other W q, r⟩
theorem Oar.keep {h' : Heap} {a : Addr} {C : String} {ws : List Addr} (O : Oar Z h a C) (K : Keep h h' ws) : Oar Z h' a C := by
  obtain ⟨cl, A, r⟩ := O
  obtain ⟨c', h1, h2, h3, h4⟩ := K.2.2 a cl A.1
  refine ⟨c', ⟨h1, ?_, by rw [h3]; exact A.2.2⟩, by rw [h2]; exact r⟩
  have := A.2.1; unfold State.isArrayOf at this ⊢; rw [h2, h3]; exact this
theorem Oar.sto {a b : Addr} {C : String} (O : Oar Z h a C) (I : Ins Z h b C true) : Sto Z h a (.ref b) := by obtain ⟨cl, A, r⟩ := O; exact Sto.of A r I
end Walk
section Walk0
variable {l : Launch} {Z : State} {n0 : Nat} {y : MethodName} {bytes : ByteArray} {maxL : Nat} {ret : Option FieldType} {R : Room} {p : Program} {e : Env} {s : State} {m : MethodId} {args : Array Value} {below : List Frame} {T : State} {h : Heap} {cells slots : Nat} {G : State → Prop} {a0 : Array Value} {pc pc' : Nat} {Ls : Array Slot} {S : List Value}
theorem w_initO (X : Sd l Z n0 y bytes maxL ret R p e s m args below T h cells slots) {i : Nat} {a : Addr} (hd : decode bytes pc = .ok (.invokespecial i, 3)) (w1 : (Jvm.Cond.methodLink y.cls i Lib.objectInit).before a0 Z = true) (w2 : (Jvm.Cond.instanceMethod Lib.objectInit).before a0 Z = true) (w3 : (Jvm.Cond.code Lib.objectInit object_method_1_code 1 none).before a0 Z = true) (hsz : Ls.size = maxL) (hf : 1 ≤ R.frames) (W : Nat) (hW : (S.map fun v => v.category).sum ≤ W) (hl : W + 12 ≤ R.locals) (hp : pc' = pc + 3) (K : ∀ T', Sd l Z n0 y bytes maxL ret R p e s m args below T' h cells slots → Go p e below G (T'.setTop (mkF m (pc') Ls S))) : Go p e below G (T.setTop (mkF m pc Ls (.ref a :: S))) := by
  obtain ⟨meth, c, locs, X, eT, N, hx, hby, hml, hown, hnm, hret, hlk, hZ, hn⟩ := X; subst hp
  obtain ⟨T', X', e', st⟩ := initO X hx hZ hown w1 w2 w3 eT (g := mkF m pc Ls (.ref a :: S)) rfl (by rw [hml]; exact hsz) rfl (hb hby hd) hf (W := W) (by show 2 * 0 + _ ≤ _; omega) hl
  exact go_of st (K T' ⟨meth, c, _, X', e', N, hx, hby, hml, hown, hnm, hret, hlk, hZ, hn⟩)
end Walk0
section Walk2
variable {l : Launch} {Z : State} {n0 : Nat} {y : MethodName} {bytes : ByteArray} {maxL : Nat} {ret : Option FieldType} {R : Room} {p : Program} {e : Env} {s : State} {m : MethodId} {args : Array Value} {below : List Frame} {T : State} {h : Heap} {cells slots : Nat} {G : State → Prop} {a0 : Array Value} {pc pc' : Nat} {Ls : Array Slot} {S : List Value}
theorem w_privateV (X : Sd l Z n0 y bytes maxL ret R p e s m args below T h cells slots) {i : Nat} {y' : MethodName} {bytes' : ByteArray} {maxL' k : Nat} {ret' : Option FieldType} {rm : Room} {as' : Array Value} {Q : Value → Heap → Prop} {a : Addr} (hd : decode bytes pc = .ok (.invokevirtual i, 3)) (hM : Con l Z n0 y' bytes' maxL' ret' rm as' h (Val Q)) (w1 : (Jvm.Cond.methodLink y.cls i y').before a0 Z = true) (w2 : (Jvm.Cond.instanceMethod y').before a0 Z = true) (w5 : (Jvm.Cond.privateMethod y').before a0 Z = true) (wi : (Jvm.Cond.instantiable y'.cls k).before a0 Z = true) (w3 : (Jvm.Cond.initialized y'.cls).before a0 Z = true) (w4 : (Jvm.Cond.code y' bytes' maxL' ret').before a0 Z = true) (Er : Exa Z h a y'.cls) (hy : y'.cls ≠ "java/lang/invoke/MethodHandle" ∧ y'.cls ≠ "java/lang/invoke/VarHandle") (argsL rest : List Value) {ps : List FieldType} {r' : Option FieldType} (hlen : parseMethodDescriptor y'.desc = some ⟨ps, r'⟩) (hl : argsL.length = ps.length) (has : (.ref a :: argsL).toArray = as') (hst : S = argsL.reverse ++ .ref a :: rest) (hsz : Ls.size = maxL) (W : Nat) (hW : (rest.map fun v => v.category).sum ≤ W) (hf : rm.frames + 1 ≤ R.frames) (hlo : W + (maxL' + 11) + rm.locals ≤ R.locals) (hc : cells + rm.cells ≤ R.cells) (hs : slots + rm.slots ≤ R.slots) (hp : pc' = pc + 3)
    (K : ∀ T' h' v, Sd l Z n0 y bytes maxL ret R p e s m args below T' h' (cells + rm.cells) (slots + rm.slots) → Q v h' → Go p e below G (T'.setTop (mkF m (pc') Ls (v :: rest)))) : Go p e below G (T.setTop (mkF m pc Ls S)) := by
  obtain ⟨meth, c, locs, X, eT, N, hx, hby, hml, hown, hnm, hret, hlk, hZ, hn⟩ := X; subst hp hst has
  have wis : (Jvm.Cond.instantiable y'.cls k).before args s = true := mvT hZ wi
  have w2s : (Jvm.Cond.instanceMethod y').before args s = true := mvT hZ w2
  have hpr : s.PrivateAt y' := Cond.privateMethod_at (mvP hZ w5 (args := #[]))
  obtain ⟨c1, k1, hc1, hk1, -, hniab, -, -⟩ := Cond.instantiable_spec wis
  have hsel : (Jvm.Cond.selects y'.cls y' y').before args s = true := selects_self_of_private hc1 hk1 (Bool.or_eq_false_iff.mp hniab).1 hpr w2s hy
  obtain ⟨cq, q1, q2⟩ := Er.cell
  obtain ⟨v, _, ⟨T', L', k', n'⟩, -, X', ⟨Lc, ⟨N', hQ⟩, lq, yq, zq⟩, st⟩ := X.privateBack hx (y := y') hown (mvT hZ w1) w2s hsel hpr (mvT hZ w4) hy (backOf (W := W) (Q := fun v h L => Fr n0 L ∧ Val Q v h) (hM []) hZ w4 w3 hf hlo) (g := mkF m pc Ls (argsL.reverse ++ .ref a :: rest)) rfl (by rw [hml]; exact hsz) (Steps.refl _) (a := a) (by rw [eT]; exact q1) q2 (argsL := argsL) (rest := rest) (lenOf hlen hl) rfl (by show 2 * 0 + _ ≤ _; omega) (hb hby hd) (fun _ _ => ⟨rfl, eT, hc, hs⟩)
  dsimp only [Pt.U, Pt.locs, Pt.cells, Pt.slots] at X' lq yq zq st hQ
  subst lq yq zq
  obtain ⟨v, rfl, hQ⟩ := hQ
  exact go_of (fun _ k => st.trans k) (K T' _ v ⟨meth, c, _, X', rfl, Fr.app N N', hx, hby, hml, hown, hnm, hret, hlk, hZ, hn⟩ hQ)
end Walk2
section Walk3
variable {l : Launch} {Z : State} {n0 : Nat} {y : MethodName} {bytes : ByteArray} {maxL : Nat} {ret : Option FieldType} {R : Room} {p : Program} {e : Env} {s : State} {m : MethodId} {args : Array Value} {below : List Frame} {T : State} {h : Heap} {cells slots : Nat} {G : State → Prop} {a0 : Array Value} {pc pc' : Nat} {Ls : Array Slot} {S : List Value}
theorem w_loop {fr : Nat → JFrame} {n : Nat} (I : Nat → Prop) (step : ∀ T i, Sd l Z n0 y bytes maxL ret R p e s m args below T h cells slots → i < n → I i → (∀ T', Sd l Z n0 y bytes maxL ret R p e s m args below T' h cells slots → I (i + 1) → Go p e below G (T'.setTop (fr (i + 1)))) → Go p e below G (T.setTop (fr i))) (last : ∀ T, Sd l Z n0 y bytes maxL ret R p e s m args below T h cells slots → I n → Go p e below G (T.setTop (fr n))) : ∀ k i, i + k = n → I i → ∀ T, Sd l Z n0 y bytes maxL ret R p e s m args below T h cells slots → Go p e below G (T.setTop (fr i)) := by
  intro k
  induction k with
  | zero => intro i hi hI T X; obtain rfl : i = n := hi; exact last T X hI
  | succ k ih => intro i hi hI T X; exact step T i X (by omega) hI (fun T' X' hI' => ih (i + 1) (by omega) hI' T' X')
theorem w_join4 {α β γ δ : Type} {t : State} (P : α → β → γ → δ → Prop) (st : α → β → γ → δ → State) (J : ∀ x1 x2 x3 x4, P x1 x2 x3 x4 → Go p e below G (st x1 x2 x3 x4)) (K : (∀ x1 x2 x3 x4, P x1 x2 x3 x4 → Go p e below G (st x1 x2 x3 x4)) → Go p e below G t) : Go p e below G t := K J
end Walk3
def own_H (e : Nat) : Nat := if e = 0 then 72 else if e = 1 then 69 else 14
def own_hm (a : Int32) : Int32 := (a ^^^ ((a.toUInt32 >>> ((16 : Int32) &&& 31).toUInt32).toInt32)) * (2146121005 : Int32)
def own_hash (a b c : Int32) : Int32 := (own_hm ((((a * (-1640531535 : Int32)) + b) * (-1640531535 : Int32)) + c)) ^^^ (((own_hm ((((a * (-1640531535 : Int32)) + b) * (-1640531535 : Int32)) + c)).toUInt32 >>> ((15 : Int32) &&& 31).toUInt32).toInt32)
theorem own_hH (e : Nat) (h : e < 3) : own_hash (Int32.ofNat e) (Int32.ofNat (e + 3)) (Int32.ofNat (e + 6)) &&& ((128 : Int32) - (1 : Int32)) = Int32.ofNat (own_H e) := by
  have : e = 0 ∨ e = 1 ∨ e = 2 := by omega
  rcases this with rfl | rfl | rfl <;> decide +kernel
theorem own_H128 (e : Nat) : own_H e < 128 := by unfold own_H; split; decide; split <;> decide
theorem own_Hinj {e f : Nat} (he : e < 3) (hf : f < 3) (q : own_H e = own_H f) : e = f := by
  have : e = 0 ∨ e = 1 ∨ e = 2 := by omega
  have : f = 0 ∨ f = 1 ∨ f = 2 := by omega
  rcases ‹e = 0 ∨ e = 1 ∨ e = 2› with rfl | rfl | rfl <;> rcases ‹f = 0 ∨ f = 1 ∨ f = 2› with rfl | rfl | rfl <;> first | rfl | (revert q; decide)
theorem own_nat (n : Nat) (h : n < 200) : (Int32.ofNat n).toInt = (n : Int) := Int32.toInt_ofNat_small (by omega)
theorem own_succ (n : Nat) : Int32.ofNat n + (1 : Int32) = Int32.ofNat (n + 1) := Int32.ofNat_succ n |>.symm ▸ rfl
theorem own_add (n k : Nat) (z : Int32) (hz : z = Int32.ofNat k) : Int32.ofNat n + z = Int32.ofNat (n + k) := by rw [hz, Int32.ofNat_add]
theorem own_sub1 (n : Nat) : Int32.ofNat (n + 1) - (1 : Int32) = Int32.ofNat n := by rw [← own_succ, Int32.add_sub_cancel]
theorem own_neq {a b : Int32} {n k : Nat} (ha : a.toInt = (n : Int)) (hb : b.toInt = (k : Int)) (q : n ≠ k) : ¬ a = b := fun z => q (by rw [z, hb] at ha; omega)
def updL (c : Nat → Int64) (i : Nat) (v : Int64) : Nat → Int64 := fun j => if j = i then v else c j
def updN (c : Nat → Nat) (i v : Nat) : Nat → Nat := fun j => if j = i then v else c j
def updB (c : Nat → Bool) (i : Nat) : Nat → Bool := fun j => if j = i then true else c j
theorem own_cgL (c : Nat → Int64) (i : Nat) (v : Int64) : ∀ j, upd (fun i => Value.long (c i)) i (.long v) j = .long (updL c i v j) := fun j => by unfold upd updL; split <;> rfl
theorem own_cgZ (c : Nat → Bool) (i : Nat) : ∀ j, upd (fun i => Value.int (if c i then (1 : Int32) else 0)) i (.int (nar .boolean (1 : Int32))) j = .int (if updB c i j then (1 : Int32) else 0) := fun j => by
  unfold upd updB
  split
  · rfl
  · rfl
/-- the triplets' arrays: the heap's part -/
def HH (Z : State) (n0 : Nat) (h : Heap) (a : Addr) (M : Nat) (ax ay az ac at' : Addr) (n : Nat) (c : Nat → Int64) (D : Value) (fx fy fz fs : Nat → Value) : Prop := n0 ≤ ax ∧ n0 ≤ ay ∧ n0 ≤ az ∧ n0 ≤ ac ∧ n0 ≤ at' ∧ a < M ∧ ax < M ∧ ay < M ∧ az < M ∧ ac < M ∧ at' < M ∧ a ≠ ax ∧ a ≠ ay ∧ a ≠ az ∧ a ≠ ac ∧ a ≠ at' ∧ ax ≠ ay ∧ ax ≠ az ∧ ax ≠ ac ∧ ax ≠ at' ∧ ay ≠ az ∧ ay ≠ ac ∧ ay ≠ at' ∧ az ≠ ac ∧ az ≠ at' ∧ ac ≠ at' ∧ Exa Z h a "com/example/gallweave/gallweave/triplets/HashedTriplets" ∧ Fld Z h a "com/example/gallweave/gallweave/triplets/HashedTriplets" "x" "[I" (.ref ax) ∧ Fld Z h a "com/example/gallweave/gallweave/triplets/HashedTriplets" "y" "[I" (.ref ay) ∧ Fld Z h a "com/example/gallweave/gallweave/triplets/HashedTriplets" "z" "[I" (.ref az) ∧ Fld Z h a "com/example/gallweave/gallweave/triplets/HashedTriplets" "counts" "[J" (.ref ac) ∧ Fld Z h a "com/example/gallweave/gallweave/triplets/HashedTriplets" "slots" "[I" (.ref at') ∧ Fld Z h a "com/example/gallweave/gallweave/triplets/HashedTriplets" "size" "I" (.int (Int32.ofNat n)) ∧ Fld Z h a "com/example/gallweave/gallweave/triplets/HashedTriplets" "decimals" "[Ljava/math/BigDecimal;" D ∧ Ary Z h ax .int 64 fx ∧ Ary Z h ay .int 64 fy ∧ Ary Z h az .int 64 fz ∧ Ary Z h ac .long 64 (fun i => .long (c i)) ∧ Ary Z h at' .int 128 fs
/-- the plain part: n entries, the i-th of the key K i -/
def HP (n : Nat) (K : Nat → Nat) (c : Nat → Int64) (fx fy fz fs : Nat → Value) : Prop := (∀ i, i < n → K i < 3) ∧ (∀ i, i < n → fx i = .int (Int32.ofNat (K i))) ∧ (∀ i, i < n → fy i = .int (Int32.ofNat (K i + 3))) ∧ (∀ i, i < n → fz i = .int (Int32.ofNat (K i + 6))) ∧ (∀ i, i < n → fs (own_H (K i)) = .int (Int32.ofNat (i + 1))) ∧ (∀ e, e < 3 → (∀ i, i < n → K i ≠ e) → fs (own_H e) = .int 0) ∧ (∀ i, n ≤ i → c i = 0)
theorem HH.exa {Z : State} {n0 : Nat} {h : Heap} {a : Addr} {M : Nat} {ax ay az ac at' : Addr} {n : Nat} {c : Nat → Int64} {D : Value} {fx fy fz fs : Nat → Value} (O : HH Z n0 h a M ax ay az ac at' n c D fx fy fz fs) : Exa Z h a "com/example/gallweave/gallweave/triplets/HashedTriplets" := by obtain ⟨gn_ax, gn_ay, gn_az, gn_ac, gn_at, lt_a, lt_ax, lt_ay, lt_az, lt_ac, lt_at, ne_a_ax, ne_a_ay, ne_a_az, ne_a_ac, ne_a_at, ne_ax_ay, ne_ax_az, ne_ax_ac, ne_ax_at, ne_ay_az, ne_ay_ac, ne_ay_at, ne_az_ac, ne_az_at, ne_ac_at, E_a, F_x, F_y, F_z, F_counts, F_slots, F_size, F_dec, A_ax, A_ay, A_az, A_ac, A_at⟩ := O; exact E_a
/-- what is asked of the table: pr: which keys are there; sm: their counts -/
def HT (Z : State) (n0 : Nat) (h : Heap) (a : Addr) (M N : Nat) (pr : Nat → Bool) (sm : Nat → Int64) (D : Value) : Prop := ∃ ax ay az ac at' n K c fx fy fz fs, HH Z n0 h a M ax ay az ac at' n c D fx fy fz fs ∧ HP n K c fx fy fz fs ∧ n ≤ N ∧ (∀ e, e < 3 → (pr e = true ↔ ∃ i, i < n ∧ K i = e)) ∧ (∀ i, i < n → c i = sm (K i)) ∧ (∀ e, e < 3 → pr e = false → sm e = 0)
theorem HT.exa {Z : State} {n0 : Nat} {h : Heap} {a : Addr} {M N : Nat} {pr : Nat → Bool} {sm : Nat → Int64} {D : Value} (O : HT Z n0 h a M N pr sm D) : Exa Z h a "com/example/gallweave/gallweave/triplets/HashedTriplets" := by obtain ⟨ax, ay, az, ac, at', n, K, c, fx, fy, fz, fs, O, -⟩ := O; exact O.exa
theorem HP.add {n : Nat} {K : Nat → Nat} {c : Nat → Int64} {fx fy fz fs : Nat → Value} (P : HP n K c fx fy fz fs) {e : Nat} (he : e < 3) (hab : ∀ i, i < n → K i ≠ e) : HP (n + 1) (updN K n e) c (upd fx n (.int (Int32.ofNat e))) (upd fy n (.int (Int32.ofNat (e + 3)))) (upd fz n (.int (Int32.ofNat (e + 6)))) (upd fs (own_H e) (.int (Int32.ofNat (n + 1)))) := by
  obtain ⟨p1, p2, p3, p4, p5, p6, p7⟩ := P
  have kn : ∀ i, i < n → updN K n e i = K i := fun i hi => if_neg (by omega)
  have kk : updN K n e n = e := if_pos rfl
  refine ⟨fun i hi => ?_, fun i hi => ?_, fun i hi => ?_, fun i hi => ?_, fun i hi => ?_, fun f hf hq => ?_, fun i hi => p7 i (by omega)⟩
  all_goals try (by_cases q : i = n)
  · subst q; rw [kk]; exact he
  · rw [kn i (by omega)]; exact p1 i (by omega)
  · subst q; rw [kk]; exact upd_same _ _ _
  · rw [kn i (by omega), upd_other _ _ q]; exact p2 i (by omega)
  · subst q; rw [kk]; exact upd_same _ _ _
  · rw [kn i (by omega), upd_other _ _ q]; exact p3 i (by omega)
  · subst q; rw [kk]; exact upd_same _ _ _
  · rw [kn i (by omega), upd_other _ _ q]; exact p4 i (by omega)
  · subst q; rw [kk]; exact upd_same _ _ _
  · rw [kn i (by omega), upd_other _ _ (fun z => hab i (by omega) (own_Hinj (p1 i (by omega)) he z))]; exact p5 i (by omega)
  · have h1 : e ≠ f := fun z => hq n (by omega) (by rw [kk]; exact z)
    rw [upd_other _ _ (fun z => h1 (own_Hinj hf he z).symm)]
    exact p6 f hf fun i hi z => hq i (by omega) (by rw [kn i hi]; exact z)
theorem HP.cnt {n : Nat} {K : Nat → Nat} {c : Nat → Int64} {fx fy fz fs : Nat → Value} (P : HP n K c fx fy fz fs) {i : Nat} (hi : i < n) (v : Int64) : HP n K (updL c i v) fx fy fz fs := by
  obtain ⟨p1, p2, p3, p4, p5, p6, p7⟩ := P
  exact ⟨p1, p2, p3, p4, p5, p6, fun j hj => by rw [show updL c i v j = c j from if_neg (by omega)]; exact p7 j hj⟩
theorem HP.inj {n : Nat} {K : Nat → Nat} {c : Nat → Int64} {fx fy fz fs : Nat → Value} (P : HP n K c fx fy fz fs) (hn : n < 100) {i j : Nat} (hi : i < n) (hj : j < n) (q : K i = K j) : i = j := by
  obtain ⟨p1, p2, p3, p4, p5, p6, p7⟩ := P
  have h1 := p5 i hi
  rw [q, p5 j hj] at h1
  have h2 : Int32.ofNat (j + 1) = Int32.ofNat (i + 1) := Value.int.inj h1
  have h3 := congrArg Int32.toInt h2
  rw [own_nat _ (by omega), own_nat _ (by omega)] at h3; omega
def own_b (pr : Nat → Bool) (sm : Nat → Int64) (e : Nat) : Prop := pr e = true → sm e < (2147483647 : Int64)
instance (pr : Nat → Bool) (sm : Nat → Int64) (e : Nat) : Decidable (own_b pr sm e) := by unfold own_b; infer_instance
def own_all (pr : Nat → Bool) (sm : Nat → Int64) : Int32 := if own_b pr sm 0 ∧ own_b pr sm 1 ∧ own_b pr sm 2 then 1 else 0
def own_ok (q : Int32) (v : Int64) : Int32 := if q = 0 then 1 else if v < (2147483647 : Int64) then 1 else 0
theorem own_okb (pr : Nat → Bool) (sm : Nat → Int64) (e : Nat) : own_ok (if pr e then (1 : Int32) else 0) (sm e) = 0 ↔ ¬ own_b pr sm e := by
  unfold own_ok own_b
  cases hp : pr e
  · simp
  · by_cases q : sm e < (2147483647 : Int64)
    · simp [q]
    · simp [q]
theorem d6_0 : decode prog_52_method_11_code 0 = .ok (.iload_n 0, 1) := by decide +kernel
theorem d6_1 : decode prog_52_method_11_code 1 = .ok (.ldc 86, 2) := by decide +kernel
theorem d6_3 : decode prog_52_method_11_code 3 = .ok (.imul, 1) := by decide +kernel
theorem d6_4 : decode prog_52_method_11_code 4 = .ok (.iload_n 1, 1) := by decide +kernel
theorem d6_5 : decode prog_52_method_11_code 5 = .ok (.iadd, 1) := by decide +kernel
theorem d6_6 : decode prog_52_method_11_code 6 = .ok (.ldc 86, 2) := by decide +kernel
theorem d6_8 : decode prog_52_method_11_code 8 = .ok (.imul, 1) := by decide +kernel
theorem d6_9 : decode prog_52_method_11_code 9 = .ok (.iload_n 2, 1) := by decide +kernel
theorem d6_10 : decode prog_52_method_11_code 10 = .ok (.iadd, 1) := by decide +kernel
theorem d6_11 : decode prog_52_method_11_code 11 = .ok (.istore_n 3, 1) := by decide +kernel
theorem d6_12 : decode prog_52_method_11_code 12 = .ok (.iload_n 3, 1) := by decide +kernel
theorem d6_13 : decode prog_52_method_11_code 13 = .ok (.iload_n 3, 1) := by decide +kernel
theorem d6_14 : decode prog_52_method_11_code 14 = .ok (.bipush 16, 2) := by decide +kernel
theorem d6_16 : decode prog_52_method_11_code 16 = .ok (.iushr, 1) := by decide +kernel
theorem d6_17 : decode prog_52_method_11_code 17 = .ok (.ixor, 1) := by decide +kernel
theorem d6_18 : decode prog_52_method_11_code 18 = .ok (.istore_n 3, 1) := by decide +kernel
theorem d6_19 : decode prog_52_method_11_code 19 = .ok (.iload_n 3, 1) := by decide +kernel
theorem d6_20 : decode prog_52_method_11_code 20 = .ok (.ldc 87, 2) := by decide +kernel
theorem d6_22 : decode prog_52_method_11_code 22 = .ok (.imul, 1) := by decide +kernel
theorem d6_23 : decode prog_52_method_11_code 23 = .ok (.istore_n 3, 1) := by decide +kernel
theorem d6_24 : decode prog_52_method_11_code 24 = .ok (.iload_n 3, 1) := by decide +kernel
theorem d6_25 : decode prog_52_method_11_code 25 = .ok (.iload_n 3, 1) := by decide +kernel
theorem d6_26 : decode prog_52_method_11_code 26 = .ok (.bipush 15, 2) := by decide +kernel
theorem d6_28 : decode prog_52_method_11_code 28 = .ok (.iushr, 1) := by decide +kernel
theorem d6_29 : decode prog_52_method_11_code 29 = .ok (.ixor, 1) := by decide +kernel
theorem d6_30 : decode prog_52_method_11_code 30 = .ok (.ireturn, 1) := by decide +kernel
theorem pn_6 : plainFor (⟨"com/example/gallweave/gallweave/triplets/HashedTriplets", "hash", "(III)I"⟩ : MethodName) = true := plainFor_of_name (by first | (simp [plainName, overriddenIn]; done) | decide +kernel)
theorem pd_6 : parseMethodDescriptor "(III)I" = some ⟨[.int, .int, .int], some .int⟩ := by decide +kernel
set_option maxRecDepth 65536 in
set_option maxHeartbeats 40000000 in
theorem rm6 {l : Launch} {Z : State} {a0 : Array Value} (hw : ∀ d ∈ tables_1, d.before a0 Z = true) {n0 : Nat} {h0 : Heap} (Z0 : n0 ≤ h0.size) (p1 p2 p3 : Int32)  :
    Con l Z n0 (⟨"com/example/gallweave/gallweave/triplets/HashedTriplets", "hash", "(III)I"⟩ : MethodName) prog_52_method_11_code 4 (some .int) ({ frames := 0, cells := 0, slots := 0, locals := 0 } : Room) #[(.int p1), (.int p2), (.int p3)] h0 (Val (fun v h => v = .int (own_hash p1 p2 p3) ∧ h0 = h)) := by
  refine con_intro pn_6 Z0 (fr := fun m => mkF m 0 #[.val (.int p1), .val (.int p2), .val (.int p3), .unset] []) (fun m => by first | (simp [entryFrame, mkF, argsToLocals, Value.category]; done) | rfl) ?_
  intro p e s m below s₁ hs0 X0
  refine w_iloadN X0 (pc' := 1) d6_0 rfl rfl ?_
  refine w_ldc X0 (pc' := 3) d6_1 (hw _ (List.mem_of_getElem? (i := 38) rfl)) rfl ?_
  refine w_imul X0 (pc' := 4) d6_3 rfl ?_
  refine w_iloadN X0 (pc' := 5) d6_4 rfl rfl ?_
  refine w_iadd X0 (pc' := 6) d6_5 rfl ?_
  refine w_ldc X0 (pc' := 8) d6_6 (hw _ (List.mem_of_getElem? (i := 38) rfl)) rfl ?_
  refine w_imul X0 (pc' := 9) d6_8 rfl ?_
  refine w_iloadN X0 (pc' := 10) d6_9 rfl rfl ?_
  refine w_iadd X0 (pc' := 11) d6_10 rfl ?_
  refine w_istoreN X0 (pc' := 12) (l' := #[.val (.int p1), .val (.int p2), .val (.int p3), .val (.int ((((p1 * (-1640531535 : Int32)) + p2) * (-1640531535 : Int32)) + p3))]) d6_11 rfl rfl ?_
  refine w_iloadN X0 (pc' := 13) d6_12 rfl rfl ?_
  refine w_iloadN X0 (pc' := 14) d6_13 rfl rfl ?_
  refine w_bipush X0 (pc' := 16) (16 : Int32) d6_14 rfl rfl ?_
  refine w_iushr X0 (pc' := 17) d6_16 rfl ?_
  refine w_ixor X0 (pc' := 18) d6_17 rfl ?_
  refine w_istoreN X0 (pc' := 19) (l' := #[.val (.int p1), .val (.int p2), .val (.int p3), .val (.int (((((p1 * (-1640531535 : Int32)) + p2) * (-1640531535 : Int32)) + p3) ^^^ ((((((p1 * (-1640531535 : Int32)) + p2) * (-1640531535 : Int32)) + p3).toUInt32 >>> ((16 : Int32) &&& 31).toUInt32).toInt32)))]) d6_18 rfl rfl ?_
  refine w_iloadN X0 (pc' := 20) d6_19 rfl rfl ?_
  refine w_ldc X0 (pc' := 22) d6_20 (hw _ (List.mem_of_getElem? (i := 39) rfl)) rfl ?_
  refine w_imul X0 (pc' := 23) d6_22 rfl ?_
  refine w_istoreN X0 (pc' := 24) (l' := #[.val (.int p1), .val (.int p2), .val (.int p3), .val (.int ((((((p1 * (-1640531535 : Int32)) + p2) * (-1640531535 : Int32)) + p3) ^^^ ((((((p1 * (-1640531535 : Int32)) + p2) * (-1640531535 : Int32)) + p3).toUInt32 >>> ((16 : Int32) &&& 31).toUInt32).toInt32)) * (2146121005 : Int32)))]) d6_23 rfl rfl ?_
  show Go p e below _ (s₁.setTop (mkF m 24 #[.val (.int p1), .val (.int p2), .val (.int p3), .val (.int (own_hm ((((p1 * (-1640531535 : Int32)) + p2) * (-1640531535 : Int32)) + p3)))] []))
  refine w_iloadN X0 (pc' := 25) d6_24 rfl rfl ?_
  refine w_iloadN X0 (pc' := 26) d6_25 rfl rfl ?_
  refine w_bipush X0 (pc' := 28) (15 : Int32) d6_26 rfl rfl ?_
  refine w_iushr X0 (pc' := 29) d6_28 rfl ?_
  refine w_ixor X0 (pc' := 30) d6_29 rfl ?_
  exact w_ireturn X0 d6_30 ⟨rfl, rfl⟩ (by decide) (by decide)
theorem d5_0 : decode prog_52_method_10_code 0 = .ok (.aload_n 0, 1) := by decide +kernel
theorem d5_1 : decode prog_52_method_10_code 1 = .ok (.getfield 23, 3) := by decide +kernel
theorem d5_4 : decode prog_52_method_10_code 4 = .ok (.arraylength, 1) := by decide +kernel
theorem d5_5 : decode prog_52_method_10_code 5 = .ok (.iconst 1, 1) := by decide +kernel
theorem d5_6 : decode prog_52_method_10_code 6 = .ok (.isub, 1) := by decide +kernel
theorem d5_7 : decode prog_52_method_10_code 7 = .ok (.istore 4, 2) := by decide +kernel
theorem d5_9 : decode prog_52_method_10_code 9 = .ok (.iload_n 1, 1) := by decide +kernel
theorem d5_10 : decode prog_52_method_10_code 10 = .ok (.iload_n 2, 1) := by decide +kernel
theorem d5_11 : decode prog_52_method_10_code 11 = .ok (.iload_n 3, 1) := by decide +kernel
theorem d5_12 : decode prog_52_method_10_code 12 = .ok (.invokestatic 83, 3) := by decide +kernel
theorem d5_15 : decode prog_52_method_10_code 15 = .ok (.iload 4, 2) := by decide +kernel
theorem d5_17 : decode prog_52_method_10_code 17 = .ok (.iand, 1) := by decide +kernel
theorem d5_18 : decode prog_52_method_10_code 18 = .ok (.istore 5, 2) := by decide +kernel
theorem d5_20 : decode prog_52_method_10_code 20 = .ok (.aload_n 0, 1) := by decide +kernel
theorem d5_21 : decode prog_52_method_10_code 21 = .ok (.getfield 23, 3) := by decide +kernel
theorem d5_24 : decode prog_52_method_10_code 24 = .ok (.iload 5, 2) := by decide +kernel
theorem d5_26 : decode prog_52_method_10_code 26 = .ok (.iaload, 1) := by decide +kernel
theorem d5_27 : decode prog_52_method_10_code 27 = .ok (.ifCond .eq 62, 3) := by decide +kernel
theorem d5_30 : decode prog_52_method_10_code 30 = .ok (.aload_n 0, 1) := by decide +kernel
theorem d5_31 : decode prog_52_method_10_code 31 = .ok (.getfield 23, 3) := by decide +kernel
theorem d5_34 : decode prog_52_method_10_code 34 = .ok (.iload 5, 2) := by decide +kernel
theorem d5_36 : decode prog_52_method_10_code 36 = .ok (.iaload, 1) := by decide +kernel
theorem d5_37 : decode prog_52_method_10_code 37 = .ok (.iconst 1, 1) := by decide +kernel
theorem d5_38 : decode prog_52_method_10_code 38 = .ok (.isub, 1) := by decide +kernel
theorem d5_39 : decode prog_52_method_10_code 39 = .ok (.istore 6, 2) := by decide +kernel
theorem d5_41 : decode prog_52_method_10_code 41 = .ok (.aload_n 0, 1) := by decide +kernel
theorem d5_42 : decode prog_52_method_10_code 42 = .ok (.getfield 7, 3) := by decide +kernel
theorem d5_45 : decode prog_52_method_10_code 45 = .ok (.iload 6, 2) := by decide +kernel
theorem d5_47 : decode prog_52_method_10_code 47 = .ok (.iaload, 1) := by decide +kernel
theorem d5_48 : decode prog_52_method_10_code 48 = .ok (.iload_n 1, 1) := by decide +kernel
theorem d5_49 : decode prog_52_method_10_code 49 = .ok (.if_icmp .ne 28, 3) := by decide +kernel
theorem d5_52 : decode prog_52_method_10_code 52 = .ok (.aload_n 0, 1) := by decide +kernel
theorem d5_53 : decode prog_52_method_10_code 53 = .ok (.getfield 13, 3) := by decide +kernel
theorem d5_56 : decode prog_52_method_10_code 56 = .ok (.iload 6, 2) := by decide +kernel
theorem d5_58 : decode prog_52_method_10_code 58 = .ok (.iaload, 1) := by decide +kernel
theorem d5_59 : decode prog_52_method_10_code 59 = .ok (.iload_n 2, 1) := by decide +kernel
theorem d5_60 : decode prog_52_method_10_code 60 = .ok (.if_icmp .ne 17, 3) := by decide +kernel
theorem d5_63 : decode prog_52_method_10_code 63 = .ok (.aload_n 0, 1) := by decide +kernel
theorem d5_64 : decode prog_52_method_10_code 64 = .ok (.getfield 16, 3) := by decide +kernel
theorem d5_67 : decode prog_52_method_10_code 67 = .ok (.iload 6, 2) := by decide +kernel
theorem d5_69 : decode prog_52_method_10_code 69 = .ok (.iaload, 1) := by decide +kernel
theorem d5_70 : decode prog_52_method_10_code 70 = .ok (.iload_n 3, 1) := by decide +kernel
theorem d5_71 : decode prog_52_method_10_code 71 = .ok (.if_icmp .ne 6, 3) := by decide +kernel
theorem d5_74 : decode prog_52_method_10_code 74 = .ok (.iload 5, 2) := by decide +kernel
theorem d5_76 : decode prog_52_method_10_code 76 = .ok (.ireturn, 1) := by decide +kernel
theorem d5_77 : decode prog_52_method_10_code 77 = .ok (.iload 5, 2) := by decide +kernel
theorem d5_79 : decode prog_52_method_10_code 79 = .ok (.iconst 1, 1) := by decide +kernel
theorem d5_80 : decode prog_52_method_10_code 80 = .ok (.iadd, 1) := by decide +kernel
theorem d5_81 : decode prog_52_method_10_code 81 = .ok (.iload 4, 2) := by decide +kernel
theorem d5_83 : decode prog_52_method_10_code 83 = .ok (.iand, 1) := by decide +kernel
theorem d5_84 : decode prog_52_method_10_code 84 = .ok (.istore 5, 2) := by decide +kernel
theorem d5_86 : decode prog_52_method_10_code 86 = .ok (.goto (-66), 3) := by decide +kernel
theorem d5_89 : decode prog_52_method_10_code 89 = .ok (.iload 5, 2) := by decide +kernel
theorem d5_91 : decode prog_52_method_10_code 91 = .ok (.ireturn, 1) := by decide +kernel
theorem pn_5 : plainFor (⟨"com/example/gallweave/gallweave/triplets/HashedTriplets", "slot", "(III)I"⟩ : MethodName) = true := plainFor_of_name (by first | (simp [plainName, overriddenIn]; done) | decide +kernel)
theorem pd_5 : parseMethodDescriptor "(III)I" = some ⟨[.int, .int, .int], some .int⟩ := by decide +kernel
set_option maxRecDepth 65536 in
set_option maxHeartbeats 40000000 in
theorem rm5p {l : Launch} {Z : State} {a0 : Array Value} (hw : ∀ d ∈ tables_1, d.before a0 Z = true) {n0 : Nat} {h0 : Heap} (Z0 : n0 ≤ h0.size) (a : Addr) (e' : Nat) {M : Nat} {ax ay az ac at' : Addr} {n : Nat} {c : Nat → Int64} {D : Value} {fx fy fz fs : Nat → Value} (O : HH Z n0 h0 a M ax ay az ac at' n c D fx fy fz fs) (g_a : n0 ≤ a) (he : e' < 3) {i : Nat} (hi : i < 60) (hs : fs (own_H e') = .int (Int32.ofNat (i + 1))) (hfx : fx i = .int (Int32.ofNat e')) (hfy : fy i = .int (Int32.ofNat (e' + 3))) (hfz : fz i = .int (Int32.ofNat (e' + 6))) :
    Con l Z n0 (⟨"com/example/gallweave/gallweave/triplets/HashedTriplets", "slot", "(III)I"⟩ : MethodName) prog_52_method_10_code 7 (some .int) ({ frames := 1, cells := 0, slots := 0, locals := 15 } : Room) #[(.ref a), (.int (Int32.ofNat e')), (.int (Int32.ofNat (e' + 3))), (.int (Int32.ofNat (e' + 6)))] h0 (Val (fun v h => v = .int (Int32.ofNat (own_H e')) ∧ h0 = h)) := by
  refine con_intro pn_5 Z0 (fr := fun m => mkF m 0 #[.val (.ref a), .val (.int (Int32.ofNat e')), .val (.int (Int32.ofNat (e' + 3))), .val (.int (Int32.ofNat (e' + 6))), .unset, .unset, .unset] []) (fun m => by first | (simp [entryFrame, mkF, argsToLocals, Value.category]; done) | rfl) ?_
  intro p e s m below s₁ hs0 X0
  obtain ⟨gn_ax, gn_ay, gn_az, gn_ac, gn_at, lt_a, lt_ax, lt_ay, lt_az, lt_ac, lt_at, ne_a_ax, ne_a_ay, ne_a_az, ne_a_ac, ne_a_at, ne_ax_ay, ne_ax_az, ne_ax_ac, ne_ax_at, ne_ay_az, ne_ay_ac, ne_ay_at, ne_az_ac, ne_az_at, ne_ac_at, E_a, F_x, F_y, F_z, F_counts, F_slots, F_size, F_dec, A_ax, A_ay, A_az, A_ac, A_at⟩ := O
  refine w_aloadN X0 (pc' := 1) d5_0 rfl rfl rfl ?_
  refine w_getfield X0 (pc' := 4) d5_1 (host := "") (Or.inl (hw _ (List.mem_of_getElem? (i := 19) rfl))) Via.refl F_slots rfl fun T1 X1 => ?_
  refine w_arraylength X1 (pc' := 5) (128 : Int32) d5_4 A_at (by decide) rfl ?_
  refine w_iconst X1 (pc' := 6) (1 : Int32) d5_5 rfl rfl ?_
  refine w_isub X1 (pc' := 7) d5_6 rfl ?_
  refine w_istore X1 (pc' := 9) (l' := #[.val (.ref a), .val (.int (Int32.ofNat e')), .val (.int (Int32.ofNat (e' + 3))), .val (.int (Int32.ofNat (e' + 6))), .val (.int ((128 : Int32) - (1 : Int32))), .unset, .unset]) d5_7 rfl rfl ?_
  refine w_iloadN X1 (pc' := 10) d5_9 rfl rfl ?_
  refine w_iloadN X1 (pc' := 11) d5_10 rfl rfl ?_
  refine w_iloadN X1 (pc' := 12) d5_11 rfl rfl ?_
  refine w_staticV X1 (pc' := 15) d5_12 (rm6 hw (h0 := h0) (sd_size X1) (Int32.ofNat e') (Int32.ofNat (e' + 3)) (Int32.ofNat (e' + 6))) (hw _ (List.mem_of_getElem? (i := 35) rfl)) (hw _ (List.mem_of_getElem? (i := 36) rfl)) (hw _ (List.mem_of_getElem? (i := 2) rfl)) (hw _ (List.mem_of_getElem? (i := 37) rfl)) (by decide) [(.int (Int32.ofNat e')), (.int (Int32.ofNat (e' + 3))), (.int (Int32.ofNat (e' + 6)))] [] pd_6 rfl rfl rfl rfl 0 (Nat.le_refl _) (by decide) (by decide) (by decide) (by decide) rfl fun T2 h2 v2 X2 q2 => ?_
  obtain ⟨rfl, rfl⟩ := q2
  refine w_iload X2 (pc' := 17) d5_15 rfl rfl ?_
  refine w_iand X2 (pc' := 18) d5_17 rfl ?_
  rw [own_hH e' he]
  show Go p e below _ (T2.setTop (mkF m 18 #[.val (.ref a), .val (.int (Int32.ofNat e')), .val (.int (Int32.ofNat (e' + 3))), .val (.int (Int32.ofNat (e' + 6))), .val (.int ((128 : Int32) - (1 : Int32))), .unset, .unset] [(.int (Int32.ofNat (own_H e')))]))
  refine w_istore X2 (pc' := 20) (l' := #[.val (.ref a), .val (.int (Int32.ofNat e')), .val (.int (Int32.ofNat (e' + 3))), .val (.int (Int32.ofNat (e' + 6))), .val (.int ((128 : Int32) - (1 : Int32))), .val (.int (Int32.ofNat (own_H e'))), .unset]) d5_18 rfl rfl ?_
  refine w_aloadN X2 (pc' := 21) d5_20 rfl rfl rfl ?_
  refine w_getfield X2 (pc' := 24) d5_21 (host := "") (Or.inl (hw _ (List.mem_of_getElem? (i := 19) rfl))) Via.refl F_slots rfl fun T3 X3 => ?_
  refine w_iload X3 (pc' := 26) d5_24 rfl rfl ?_
  refine w_iaload X3 (pc' := 27) (own_H e') (v := (.int (Int32.ofNat (i + 1)))) d5_26 A_at (own_nat _ (by have := own_H128 e'; omega)) (own_H128 e') hs rfl ?_
  refine w_if_eq X3 89 30 d5_27 (by decide) rfl rfl (fun hc27 => by exfalso; exact own_neq (own_nat (i + 1) (by omega)) (by decide : (0 : Int32).toInt = ((0 : Nat) : Int)) (by omega) hc27) (fun hc27 => ?_)
  refine w_aloadN X3 (pc' := 31) d5_30 rfl rfl rfl ?_
  refine w_getfield X3 (pc' := 34) d5_31 (host := "") (Or.inl (hw _ (List.mem_of_getElem? (i := 19) rfl))) Via.refl F_slots rfl fun T4 X4 => ?_
  refine w_iload X4 (pc' := 36) d5_34 rfl rfl ?_
  refine w_iaload X4 (pc' := 37) (own_H e') (v := (.int (Int32.ofNat (i + 1)))) d5_36 A_at (own_nat _ (by have := own_H128 e'; omega)) (own_H128 e') hs rfl ?_
  refine w_iconst X4 (pc' := 38) (1 : Int32) d5_37 rfl rfl ?_
  refine w_isub X4 (pc' := 39) d5_38 rfl ?_
  refine w_istore X4 (pc' := 41) (l' := #[.val (.ref a), .val (.int (Int32.ofNat e')), .val (.int (Int32.ofNat (e' + 3))), .val (.int (Int32.ofNat (e' + 6))), .val (.int ((128 : Int32) - (1 : Int32))), .val (.int (Int32.ofNat (own_H e'))), .val (.int ((Int32.ofNat (i + 1)) - (1 : Int32)))]) d5_39 rfl rfl ?_
  rw [own_sub1 i]
  show Go p e below _ (T4.setTop (mkF m 41 #[.val (.ref a), .val (.int (Int32.ofNat e')), .val (.int (Int32.ofNat (e' + 3))), .val (.int (Int32.ofNat (e' + 6))), .val (.int ((128 : Int32) - (1 : Int32))), .val (.int (Int32.ofNat (own_H e'))), .val (.int (Int32.ofNat i))] []))
  refine w_aloadN X4 (pc' := 42) d5_41 rfl rfl rfl ?_
  refine w_getfield X4 (pc' := 45) d5_42 (host := "") (Or.inl (hw _ (List.mem_of_getElem? (i := 10) rfl))) Via.refl F_x rfl fun T5 X5 => ?_
  refine w_iload X5 (pc' := 47) d5_45 rfl rfl ?_
  refine w_iaload X5 (pc' := 48) i (v := (.int (Int32.ofNat e'))) d5_47 A_ax (own_nat i (by omega)) (by omega) hfx rfl ?_
  refine w_iloadN X5 (pc' := 49) d5_48 rfl rfl ?_
  refine w_icmp_ne X5 77 52 d5_49 (by decide) rfl rfl (fun hc49 => by exfalso; exact hc49 rfl) (fun hc49 => ?_)
  refine w_aloadN X5 (pc' := 53) d5_52 rfl rfl rfl ?_
  refine w_getfield X5 (pc' := 56) d5_53 (host := "") (Or.inl (hw _ (List.mem_of_getElem? (i := 12) rfl))) Via.refl F_y rfl fun T6 X6 => ?_
  refine w_iload X6 (pc' := 58) d5_56 rfl rfl ?_
  refine w_iaload X6 (pc' := 59) i (v := (.int (Int32.ofNat (e' + 3)))) d5_58 A_ay (own_nat i (by omega)) (by omega) hfy rfl ?_
  refine w_iloadN X6 (pc' := 60) d5_59 rfl rfl ?_
  refine w_icmp_ne X6 77 63 d5_60 (by decide) rfl rfl (fun hc60 => by exfalso; exact hc60 rfl) (fun hc60 => ?_)
  refine w_aloadN X6 (pc' := 64) d5_63 rfl rfl rfl ?_
  refine w_getfield X6 (pc' := 67) d5_64 (host := "") (Or.inl (hw _ (List.mem_of_getElem? (i := 14) rfl))) Via.refl F_z rfl fun T7 X7 => ?_
  refine w_iload X7 (pc' := 69) d5_67 rfl rfl ?_
  refine w_iaload X7 (pc' := 70) i (v := (.int (Int32.ofNat (e' + 6)))) d5_69 A_az (own_nat i (by omega)) (by omega) hfz rfl ?_
  refine w_iloadN X7 (pc' := 71) d5_70 rfl rfl ?_
  refine w_icmp_ne X7 77 74 d5_71 (by decide) rfl rfl (fun hc71 => by exfalso; exact hc71 rfl) (fun hc71 => ?_)
  refine w_iload X7 (pc' := 76) d5_74 rfl rfl ?_
  exact w_ireturn X7 d5_76 ⟨rfl, rfl⟩ (by decide) (by decide)
set_option maxRecDepth 65536 in
set_option maxHeartbeats 40000000 in
theorem rm5a {l : Launch} {Z : State} {a0 : Array Value} (hw : ∀ d ∈ tables_1, d.before a0 Z = true) {n0 : Nat} {h0 : Heap} (Z0 : n0 ≤ h0.size) (a : Addr) (e' : Nat) {M : Nat} {ax ay az ac at' : Addr} {n : Nat} {c : Nat → Int64} {D : Value} {fx fy fz fs : Nat → Value} (O : HH Z n0 h0 a M ax ay az ac at' n c D fx fy fz fs) (g_a : n0 ≤ a) (he : e' < 3) (hs : fs (own_H e') = .int 0) :
    Con l Z n0 (⟨"com/example/gallweave/gallweave/triplets/HashedTriplets", "slot", "(III)I"⟩ : MethodName) prog_52_method_10_code 7 (some .int) ({ frames := 1, cells := 0, slots := 0, locals := 15 } : Room) #[(.ref a), (.int (Int32.ofNat e')), (.int (Int32.ofNat (e' + 3))), (.int (Int32.ofNat (e' + 6)))] h0 (Val (fun v h => v = .int (Int32.ofNat (own_H e')) ∧ h0 = h)) := by
  refine con_intro pn_5 Z0 (fr := fun m => mkF m 0 #[.val (.ref a), .val (.int (Int32.ofNat e')), .val (.int (Int32.ofNat (e' + 3))), .val (.int (Int32.ofNat (e' + 6))), .unset, .unset, .unset] []) (fun m => by first | (simp [entryFrame, mkF, argsToLocals, Value.category]; done) | rfl) ?_
  intro p e s m below s₁ hs0 X0
  obtain ⟨gn_ax, gn_ay, gn_az, gn_ac, gn_at, lt_a, lt_ax, lt_ay, lt_az, lt_ac, lt_at, ne_a_ax, ne_a_ay, ne_a_az, ne_a_ac, ne_a_at, ne_ax_ay, ne_ax_az, ne_ax_ac, ne_ax_at, ne_ay_az, ne_ay_ac, ne_ay_at, ne_az_ac, ne_az_at, ne_ac_at, E_a, F_x, F_y, F_z, F_counts, F_slots, F_size, F_dec, A_ax, A_ay, A_az, A_ac, A_at⟩ := O
  refine w_aloadN X0 (pc' := 1) d5_0 rfl rfl rfl ?_
  refine w_getfield X0 (pc' := 4) d5_1 (host := "") (Or.inl (hw _ (List.mem_of_getElem? (i := 19) rfl))) Via.refl F_slots rfl fun T1 X1 => ?_
  refine w_arraylength X1 (pc' := 5) (128 : Int32) d5_4 A_at (by decide) rfl ?_
  refine w_iconst X1 (pc' := 6) (1 : Int32) d5_5 rfl rfl ?_
  refine w_isub X1 (pc' := 7) d5_6 rfl ?_
  refine w_istore X1 (pc' := 9) (l' := #[.val (.ref a), .val (.int (Int32.ofNat e')), .val (.int (Int32.ofNat (e' + 3))), .val (.int (Int32.ofNat (e' + 6))), .val (.int ((128 : Int32) - (1 : Int32))), .unset, .unset]) d5_7 rfl rfl ?_
  refine w_iloadN X1 (pc' := 10) d5_9 rfl rfl ?_
  refine w_iloadN X1 (pc' := 11) d5_10 rfl rfl ?_
  refine w_iloadN X1 (pc' := 12) d5_11 rfl rfl ?_
  refine w_staticV X1 (pc' := 15) d5_12 (rm6 hw (h0 := h0) (sd_size X1) (Int32.ofNat e') (Int32.ofNat (e' + 3)) (Int32.ofNat (e' + 6))) (hw _ (List.mem_of_getElem? (i := 35) rfl)) (hw _ (List.mem_of_getElem? (i := 36) rfl)) (hw _ (List.mem_of_getElem? (i := 2) rfl)) (hw _ (List.mem_of_getElem? (i := 37) rfl)) (by decide) [(.int (Int32.ofNat e')), (.int (Int32.ofNat (e' + 3))), (.int (Int32.ofNat (e' + 6)))] [] pd_6 rfl rfl rfl rfl 0 (Nat.le_refl _) (by decide) (by decide) (by decide) (by decide) rfl fun T2 h2 v2 X2 q2 => ?_
  obtain ⟨rfl, rfl⟩ := q2
  refine w_iload X2 (pc' := 17) d5_15 rfl rfl ?_
  refine w_iand X2 (pc' := 18) d5_17 rfl ?_
  rw [own_hH e' he]
  show Go p e below _ (T2.setTop (mkF m 18 #[.val (.ref a), .val (.int (Int32.ofNat e')), .val (.int (Int32.ofNat (e' + 3))), .val (.int (Int32.ofNat (e' + 6))), .val (.int ((128 : Int32) - (1 : Int32))), .unset, .unset] [(.int (Int32.ofNat (own_H e')))]))
  refine w_istore X2 (pc' := 20) (l' := #[.val (.ref a), .val (.int (Int32.ofNat e')), .val (.int (Int32.ofNat (e' + 3))), .val (.int (Int32.ofNat (e' + 6))), .val (.int ((128 : Int32) - (1 : Int32))), .val (.int (Int32.ofNat (own_H e'))), .unset]) d5_18 rfl rfl ?_
  refine w_aloadN X2 (pc' := 21) d5_20 rfl rfl rfl ?_
  refine w_getfield X2 (pc' := 24) d5_21 (host := "") (Or.inl (hw _ (List.mem_of_getElem? (i := 19) rfl))) Via.refl F_slots rfl fun T3 X3 => ?_
  refine w_iload X3 (pc' := 26) d5_24 rfl rfl ?_
  refine w_iaload X3 (pc' := 27) (own_H e') (v := (.int (0 : Int32))) d5_26 A_at (own_nat _ (by have := own_H128 e'; omega)) (own_H128 e') hs rfl ?_
  refine w_if_eq X3 89 30 d5_27 (by decide) rfl rfl (fun hc27 => ?_) (fun hc27 => by exfalso; revert hc27; decide)
  refine w_iload X3 (pc' := 91) d5_89 rfl rfl ?_
  exact w_ireturn X3 d5_91 ⟨rfl, rfl⟩ (by decide) (by decide)
theorem d4_0 : decode prog_52_method_9_code 0 = .ok (.aload_n 0, 1) := by decide +kernel
theorem d4_1 : decode prog_52_method_9_code 1 = .ok (.iload_n 1, 1) := by decide +kernel
theorem d4_2 : decode prog_52_method_9_code 2 = .ok (.iload_n 2, 1) := by decide +kernel
theorem d4_3 : decode prog_52_method_9_code 3 = .ok (.iload_n 3, 1) := by decide +kernel
theorem d4_4 : decode prog_52_method_9_code 4 = .ok (.invokevirtual 30, 3) := by decide +kernel
theorem d4_7 : decode prog_52_method_9_code 7 = .ok (.istore 4, 2) := by decide +kernel
theorem d4_9 : decode prog_52_method_9_code 9 = .ok (.aload_n 0, 1) := by decide +kernel
theorem d4_10 : decode prog_52_method_9_code 10 = .ok (.getfield 23, 3) := by decide +kernel
theorem d4_13 : decode prog_52_method_9_code 13 = .ok (.iload 4, 2) := by decide +kernel
theorem d4_15 : decode prog_52_method_9_code 15 = .ok (.iaload, 1) := by decide +kernel
theorem d4_16 : decode prog_52_method_9_code 16 = .ok (.ifCond .eq 13, 3) := by decide +kernel
theorem d4_19 : decode prog_52_method_9_code 19 = .ok (.aload_n 0, 1) := by decide +kernel
theorem d4_20 : decode prog_52_method_9_code 20 = .ok (.getfield 23, 3) := by decide +kernel
theorem d4_23 : decode prog_52_method_9_code 23 = .ok (.iload 4, 2) := by decide +kernel
theorem d4_25 : decode prog_52_method_9_code 25 = .ok (.iaload, 1) := by decide +kernel
theorem d4_26 : decode prog_52_method_9_code 26 = .ok (.iconst 1, 1) := by decide +kernel
theorem d4_27 : decode prog_52_method_9_code 27 = .ok (.isub, 1) := by decide +kernel
theorem d4_28 : decode prog_52_method_9_code 28 = .ok (.ireturn, 1) := by decide +kernel
theorem d4_29 : decode prog_52_method_9_code 29 = .ok (.aload_n 0, 1) := by decide +kernel
theorem d4_30 : decode prog_52_method_9_code 30 = .ok (.getfield 26, 3) := by decide +kernel
theorem d4_33 : decode prog_52_method_9_code 33 = .ok (.aload_n 0, 1) := by decide +kernel
theorem d4_34 : decode prog_52_method_9_code 34 = .ok (.getfield 7, 3) := by decide +kernel
theorem d4_37 : decode prog_52_method_9_code 37 = .ok (.arraylength, 1) := by decide +kernel
theorem d4_38 : decode prog_52_method_9_code 38 = .ok (.if_icmp .ne 98, 3) := by decide +kernel
theorem d4_41 : decode prog_52_method_9_code 41 = .ok (.aload_n 0, 1) := by decide +kernel
theorem d4_42 : decode prog_52_method_9_code 42 = .ok (.aload_n 0, 1) := by decide +kernel
theorem d4_43 : decode prog_52_method_9_code 43 = .ok (.getfield 7, 3) := by decide +kernel
theorem d4_46 : decode prog_52_method_9_code 46 = .ok (.iconst 2, 1) := by decide +kernel
theorem d4_47 : decode prog_52_method_9_code 47 = .ok (.aload_n 0, 1) := by decide +kernel
theorem d4_48 : decode prog_52_method_9_code 48 = .ok (.getfield 26, 3) := by decide +kernel
theorem d4_51 : decode prog_52_method_9_code 51 = .ok (.imul, 1) := by decide +kernel
theorem d4_52 : decode prog_52_method_9_code 52 = .ok (.invokestatic 70, 3) := by decide +kernel
theorem d4_55 : decode prog_52_method_9_code 55 = .ok (.putfield 7, 3) := by decide +kernel
theorem d4_58 : decode prog_52_method_9_code 58 = .ok (.aload_n 0, 1) := by decide +kernel
theorem d4_59 : decode prog_52_method_9_code 59 = .ok (.aload_n 0, 1) := by decide +kernel
theorem d4_60 : decode prog_52_method_9_code 60 = .ok (.getfield 13, 3) := by decide +kernel
theorem d4_63 : decode prog_52_method_9_code 63 = .ok (.iconst 2, 1) := by decide +kernel
theorem d4_64 : decode prog_52_method_9_code 64 = .ok (.aload_n 0, 1) := by decide +kernel
theorem d4_65 : decode prog_52_method_9_code 65 = .ok (.getfield 26, 3) := by decide +kernel
theorem d4_68 : decode prog_52_method_9_code 68 = .ok (.imul, 1) := by decide +kernel
theorem d4_69 : decode prog_52_method_9_code 69 = .ok (.invokestatic 70, 3) := by decide +kernel
theorem d4_72 : decode prog_52_method_9_code 72 = .ok (.putfield 13, 3) := by decide +kernel
theorem d4_75 : decode prog_52_method_9_code 75 = .ok (.aload_n 0, 1) := by decide +kernel
theorem d4_76 : decode prog_52_method_9_code 76 = .ok (.aload_n 0, 1) := by decide +kernel
theorem d4_77 : decode prog_52_method_9_code 77 = .ok (.getfield 16, 3) := by decide +kernel
theorem d4_80 : decode prog_52_method_9_code 80 = .ok (.iconst 2, 1) := by decide +kernel
theorem d4_81 : decode prog_52_method_9_code 81 = .ok (.aload_n 0, 1) := by decide +kernel
theorem d4_82 : decode prog_52_method_9_code 82 = .ok (.getfield 26, 3) := by decide +kernel
theorem d4_85 : decode prog_52_method_9_code 85 = .ok (.imul, 1) := by decide +kernel
theorem d4_86 : decode prog_52_method_9_code 86 = .ok (.invokestatic 70, 3) := by decide +kernel
theorem d4_89 : decode prog_52_method_9_code 89 = .ok (.putfield 16, 3) := by decide +kernel
theorem d4_92 : decode prog_52_method_9_code 92 = .ok (.aload_n 0, 1) := by decide +kernel
theorem d4_93 : decode prog_52_method_9_code 93 = .ok (.aload_n 0, 1) := by decide +kernel
theorem d4_94 : decode prog_52_method_9_code 94 = .ok (.getfield 19, 3) := by decide +kernel
theorem d4_97 : decode prog_52_method_9_code 97 = .ok (.iconst 2, 1) := by decide +kernel
theorem d4_98 : decode prog_52_method_9_code 98 = .ok (.aload_n 0, 1) := by decide +kernel
theorem d4_99 : decode prog_52_method_9_code 99 = .ok (.getfield 26, 3) := by decide +kernel
theorem d4_102 : decode prog_52_method_9_code 102 = .ok (.imul, 1) := by decide +kernel
theorem d4_103 : decode prog_52_method_9_code 103 = .ok (.invokestatic 76, 3) := by decide +kernel
theorem d4_106 : decode prog_52_method_9_code 106 = .ok (.putfield 19, 3) := by decide +kernel
theorem d4_109 : decode prog_52_method_9_code 109 = .ok (.aload_n 0, 1) := by decide +kernel
theorem d4_110 : decode prog_52_method_9_code 110 = .ok (.getfield 37, 3) := by decide +kernel
theorem d4_113 : decode prog_52_method_9_code 113 = .ok (.ifnull 23, 3) := by decide +kernel
theorem d4_116 : decode prog_52_method_9_code 116 = .ok (.aload_n 0, 1) := by decide +kernel
theorem d4_117 : decode prog_52_method_9_code 117 = .ok (.aload_n 0, 1) := by decide +kernel
theorem d4_118 : decode prog_52_method_9_code 118 = .ok (.getfield 37, 3) := by decide +kernel
theorem d4_121 : decode prog_52_method_9_code 121 = .ok (.iconst 2, 1) := by decide +kernel
theorem d4_122 : decode prog_52_method_9_code 122 = .ok (.aload_n 0, 1) := by decide +kernel
theorem d4_123 : decode prog_52_method_9_code 123 = .ok (.getfield 26, 3) := by decide +kernel
theorem d4_126 : decode prog_52_method_9_code 126 = .ok (.imul, 1) := by decide +kernel
theorem d4_127 : decode prog_52_method_9_code 127 = .ok (.invokestatic 79, 3) := by decide +kernel
theorem d4_130 : decode prog_52_method_9_code 130 = .ok (.checkcast 82, 3) := by decide +kernel
theorem d4_133 : decode prog_52_method_9_code 133 = .ok (.putfield 37, 3) := by decide +kernel
theorem d4_136 : decode prog_52_method_9_code 136 = .ok (.aload_n 0, 1) := by decide +kernel
theorem d4_137 : decode prog_52_method_9_code 137 = .ok (.getfield 7, 3) := by decide +kernel
theorem d4_140 : decode prog_52_method_9_code 140 = .ok (.aload_n 0, 1) := by decide +kernel
theorem d4_141 : decode prog_52_method_9_code 141 = .ok (.getfield 26, 3) := by decide +kernel
theorem d4_144 : decode prog_52_method_9_code 144 = .ok (.iload_n 1, 1) := by decide +kernel
theorem d4_145 : decode prog_52_method_9_code 145 = .ok (.iastore, 1) := by decide +kernel
theorem d4_146 : decode prog_52_method_9_code 146 = .ok (.aload_n 0, 1) := by decide +kernel
theorem d4_147 : decode prog_52_method_9_code 147 = .ok (.getfield 13, 3) := by decide +kernel
theorem d4_150 : decode prog_52_method_9_code 150 = .ok (.aload_n 0, 1) := by decide +kernel
theorem d4_151 : decode prog_52_method_9_code 151 = .ok (.getfield 26, 3) := by decide +kernel
theorem d4_154 : decode prog_52_method_9_code 154 = .ok (.iload_n 2, 1) := by decide +kernel
theorem d4_155 : decode prog_52_method_9_code 155 = .ok (.iastore, 1) := by decide +kernel
theorem d4_156 : decode prog_52_method_9_code 156 = .ok (.aload_n 0, 1) := by decide +kernel
theorem d4_157 : decode prog_52_method_9_code 157 = .ok (.getfield 16, 3) := by decide +kernel
theorem d4_160 : decode prog_52_method_9_code 160 = .ok (.aload_n 0, 1) := by decide +kernel
theorem d4_161 : decode prog_52_method_9_code 161 = .ok (.getfield 26, 3) := by decide +kernel
theorem d4_164 : decode prog_52_method_9_code 164 = .ok (.iload_n 3, 1) := by decide +kernel
theorem d4_165 : decode prog_52_method_9_code 165 = .ok (.iastore, 1) := by decide +kernel
theorem d4_166 : decode prog_52_method_9_code 166 = .ok (.aload_n 0, 1) := by decide +kernel
theorem d4_167 : decode prog_52_method_9_code 167 = .ok (.getfield 23, 3) := by decide +kernel
theorem d4_170 : decode prog_52_method_9_code 170 = .ok (.iload 4, 2) := by decide +kernel
theorem d4_172 : decode prog_52_method_9_code 172 = .ok (.aload_n 0, 1) := by decide +kernel
theorem d4_173 : decode prog_52_method_9_code 173 = .ok (.dup, 1) := by decide +kernel
theorem d4_174 : decode prog_52_method_9_code 174 = .ok (.getfield 26, 3) := by decide +kernel
theorem d4_177 : decode prog_52_method_9_code 177 = .ok (.iconst 1, 1) := by decide +kernel
theorem d4_178 : decode prog_52_method_9_code 178 = .ok (.iadd, 1) := by decide +kernel
theorem d4_179 : decode prog_52_method_9_code 179 = .ok (.dup_x1, 1) := by decide +kernel
theorem d4_180 : decode prog_52_method_9_code 180 = .ok (.putfield 26, 3) := by decide +kernel
theorem d4_183 : decode prog_52_method_9_code 183 = .ok (.iastore, 1) := by decide +kernel
theorem d4_184 : decode prog_52_method_9_code 184 = .ok (.iconst 2, 1) := by decide +kernel
theorem d4_185 : decode prog_52_method_9_code 185 = .ok (.aload_n 0, 1) := by decide +kernel
theorem d4_186 : decode prog_52_method_9_code 186 = .ok (.getfield 26, 3) := by decide +kernel
theorem d4_189 : decode prog_52_method_9_code 189 = .ok (.imul, 1) := by decide +kernel
theorem d4_190 : decode prog_52_method_9_code 190 = .ok (.aload_n 0, 1) := by decide +kernel
theorem d4_191 : decode prog_52_method_9_code 191 = .ok (.getfield 23, 3) := by decide +kernel
theorem d4_194 : decode prog_52_method_9_code 194 = .ok (.arraylength, 1) := by decide +kernel
theorem d4_195 : decode prog_52_method_9_code 195 = .ok (.if_icmp .le 68, 3) := by decide +kernel
theorem d4_198 : decode prog_52_method_9_code 198 = .ok (.aload_n 0, 1) := by decide +kernel
theorem d4_199 : decode prog_52_method_9_code 199 = .ok (.iconst 2, 1) := by decide +kernel
theorem d4_200 : decode prog_52_method_9_code 200 = .ok (.aload_n 0, 1) := by decide +kernel
theorem d4_201 : decode prog_52_method_9_code 201 = .ok (.getfield 23, 3) := by decide +kernel
theorem d4_204 : decode prog_52_method_9_code 204 = .ok (.arraylength, 1) := by decide +kernel
theorem d4_205 : decode prog_52_method_9_code 205 = .ok (.imul, 1) := by decide +kernel
theorem d4_206 : decode prog_52_method_9_code 206 = .ok (.newarray .int, 2) := by decide +kernel
theorem d4_208 : decode prog_52_method_9_code 208 = .ok (.putfield 23, 3) := by decide +kernel
theorem d4_211 : decode prog_52_method_9_code 211 = .ok (.iconst 0, 1) := by decide +kernel
theorem d4_212 : decode prog_52_method_9_code 212 = .ok (.istore 5, 2) := by decide +kernel
theorem d4_214 : decode prog_52_method_9_code 214 = .ok (.iload 5, 2) := by decide +kernel
theorem d4_216 : decode prog_52_method_9_code 216 = .ok (.aload_n 0, 1) := by decide +kernel
theorem d4_217 : decode prog_52_method_9_code 217 = .ok (.getfield 26, 3) := by decide +kernel
theorem d4_220 : decode prog_52_method_9_code 220 = .ok (.if_icmp .ge 43, 3) := by decide +kernel
theorem d4_223 : decode prog_52_method_9_code 223 = .ok (.aload_n 0, 1) := by decide +kernel
theorem d4_224 : decode prog_52_method_9_code 224 = .ok (.getfield 23, 3) := by decide +kernel
theorem d4_227 : decode prog_52_method_9_code 227 = .ok (.aload_n 0, 1) := by decide +kernel
theorem d4_228 : decode prog_52_method_9_code 228 = .ok (.aload_n 0, 1) := by decide +kernel
theorem d4_229 : decode prog_52_method_9_code 229 = .ok (.getfield 7, 3) := by decide +kernel
theorem d4_232 : decode prog_52_method_9_code 232 = .ok (.iload 5, 2) := by decide +kernel
theorem d4_234 : decode prog_52_method_9_code 234 = .ok (.iaload, 1) := by decide +kernel
theorem d4_235 : decode prog_52_method_9_code 235 = .ok (.aload_n 0, 1) := by decide +kernel
theorem d4_236 : decode prog_52_method_9_code 236 = .ok (.getfield 13, 3) := by decide +kernel
theorem d4_239 : decode prog_52_method_9_code 239 = .ok (.iload 5, 2) := by decide +kernel
theorem d4_241 : decode prog_52_method_9_code 241 = .ok (.iaload, 1) := by decide +kernel
theorem d4_242 : decode prog_52_method_9_code 242 = .ok (.aload_n 0, 1) := by decide +kernel
theorem d4_243 : decode prog_52_method_9_code 243 = .ok (.getfield 16, 3) := by decide +kernel
theorem d4_246 : decode prog_52_method_9_code 246 = .ok (.iload 5, 2) := by decide +kernel
theorem d4_248 : decode prog_52_method_9_code 248 = .ok (.iaload, 1) := by decide +kernel
theorem d4_249 : decode prog_52_method_9_code 249 = .ok (.invokevirtual 30, 3) := by decide +kernel
theorem d4_252 : decode prog_52_method_9_code 252 = .ok (.iload 5, 2) := by decide +kernel
theorem d4_254 : decode prog_52_method_9_code 254 = .ok (.iconst 1, 1) := by decide +kernel
theorem d4_255 : decode prog_52_method_9_code 255 = .ok (.iadd, 1) := by decide +kernel
theorem d4_256 : decode prog_52_method_9_code 256 = .ok (.iastore, 1) := by decide +kernel
theorem d4_257 : decode prog_52_method_9_code 257 = .ok (.iinc 5 1, 3) := by decide +kernel
theorem d4_260 : decode prog_52_method_9_code 260 = .ok (.goto (-46), 3) := by decide +kernel
theorem d4_263 : decode prog_52_method_9_code 263 = .ok (.aload_n 0, 1) := by decide +kernel
theorem d4_264 : decode prog_52_method_9_code 264 = .ok (.getfield 26, 3) := by decide +kernel
theorem d4_267 : decode prog_52_method_9_code 267 = .ok (.iconst 1, 1) := by decide +kernel
theorem d4_268 : decode prog_52_method_9_code 268 = .ok (.isub, 1) := by decide +kernel
theorem d4_269 : decode prog_52_method_9_code 269 = .ok (.ireturn, 1) := by decide +kernel
theorem pn_4 : plainFor (⟨"com/example/gallweave/gallweave/triplets/HashedTriplets", "index", "(III)I"⟩ : MethodName) = true := plainFor_of_name (by first | (simp [plainName, overriddenIn]; done) | decide +kernel)
theorem pd_4 : parseMethodDescriptor "(III)I" = some ⟨[.int, .int, .int], some .int⟩ := by decide +kernel
set_option maxRecDepth 65536 in
set_option maxHeartbeats 40000000 in
theorem rm4p {l : Launch} {Z : State} {a0 : Array Value} (hw : ∀ d ∈ tables_1, d.before a0 Z = true) {n0 : Nat} {h0 : Heap} (Z0 : n0 ≤ h0.size) (a : Addr) (e' : Nat) {M : Nat} {ax ay az ac at' : Addr} {n : Nat} {c : Nat → Int64} {D : Value} {fx fy fz fs : Nat → Value} (O : HH Z n0 h0 a M ax ay az ac at' n c D fx fy fz fs) (g_a : n0 ≤ a) (he : e' < 3) {i : Nat} (hi : i < 60) (hs : fs (own_H e') = .int (Int32.ofNat (i + 1))) (hfx : fx i = .int (Int32.ofNat e')) (hfy : fy i = .int (Int32.ofNat (e' + 3))) (hfz : fz i = .int (Int32.ofNat (e' + 6))) :
    Con l Z n0 (⟨"com/example/gallweave/gallweave/triplets/HashedTriplets", "index", "(III)I"⟩ : MethodName) prog_52_method_9_code 6 (some .int) ({ frames := 2, cells := 0, slots := 0, locals := 33 } : Room) #[(.ref a), (.int (Int32.ofNat e')), (.int (Int32.ofNat (e' + 3))), (.int (Int32.ofNat (e' + 6)))] h0 (Val (fun v h => v = .int (Int32.ofNat i) ∧ h0 = h)) := by
  refine con_intro pn_4 Z0 (fr := fun m => mkF m 0 #[.val (.ref a), .val (.int (Int32.ofNat e')), .val (.int (Int32.ofNat (e' + 3))), .val (.int (Int32.ofNat (e' + 6))), .unset, .unset] []) (fun m => by first | (simp [entryFrame, mkF, argsToLocals, Value.category]; done) | rfl) ?_
  intro p e s m below s₁ hs0 X0
  have O0 := O
  obtain ⟨gn_ax, gn_ay, gn_az, gn_ac, gn_at, lt_a, lt_ax, lt_ay, lt_az, lt_ac, lt_at, ne_a_ax, ne_a_ay, ne_a_az, ne_a_ac, ne_a_at, ne_ax_ay, ne_ax_az, ne_ax_ac, ne_ax_at, ne_ay_az, ne_ay_ac, ne_ay_at, ne_az_ac, ne_az_at, ne_ac_at, E_a, F_x, F_y, F_z, F_counts, F_slots, F_size, F_dec, A_ax, A_ay, A_az, A_ac, A_at⟩ := O
  refine w_aloadN X0 (pc' := 1) d4_0 rfl rfl rfl ?_
  refine w_iloadN X0 (pc' := 2) d4_1 rfl rfl ?_
  refine w_iloadN X0 (pc' := 3) d4_2 rfl rfl ?_
  refine w_iloadN X0 (pc' := 4) d4_3 rfl rfl ?_
  refine w_privateV X0 (pc' := 7) d4_4 (rm5p hw (h0 := h0) (sd_size X0) a e' O0 g_a he hi hs hfx hfy hfz) (hw _ (List.mem_of_getElem? (i := 31) rfl)) (hw _ (List.mem_of_getElem? (i := 32) rfl)) (hw _ (List.mem_of_getElem? (i := 33) rfl)) (hw _ (List.mem_of_getElem? (i := 1) rfl)) (hw _ (List.mem_of_getElem? (i := 2) rfl)) (hw _ (List.mem_of_getElem? (i := 34) rfl)) E_a (by decide) [(.int (Int32.ofNat e')), (.int (Int32.ofNat (e' + 3))), (.int (Int32.ofNat (e' + 6)))] [] pd_5 rfl rfl rfl rfl 0 (Nat.le_refl _) (by decide) (by decide) (by decide) (by decide) rfl fun T1 h1 v1 X1 q1 => ?_
  obtain ⟨rfl, rfl⟩ := q1
  refine w_istore X1 (pc' := 9) (l' := #[.val (.ref a), .val (.int (Int32.ofNat e')), .val (.int (Int32.ofNat (e' + 3))), .val (.int (Int32.ofNat (e' + 6))), .val (.int (Int32.ofNat (own_H e'))), .unset]) d4_7 rfl rfl ?_
  refine w_aloadN X1 (pc' := 10) d4_9 rfl rfl rfl ?_
  refine w_getfield X1 (pc' := 13) d4_10 (host := "") (Or.inl (hw _ (List.mem_of_getElem? (i := 19) rfl))) Via.refl F_slots rfl fun T2 X2 => ?_
  refine w_iload X2 (pc' := 15) d4_13 rfl rfl ?_
  refine w_iaload X2 (pc' := 16) (own_H e') (v := (.int (Int32.ofNat (i + 1)))) d4_15 A_at (own_nat _ (by have := own_H128 e'; omega)) (own_H128 e') hs rfl ?_
  refine w_if_eq X2 29 19 d4_16 (by decide) rfl rfl (fun hc16 => by exfalso; exact own_neq (own_nat (i + 1) (by omega)) (by decide : (0 : Int32).toInt = ((0 : Nat) : Int)) (by omega) hc16) (fun hc16 => ?_)
  refine w_aloadN X2 (pc' := 20) d4_19 rfl rfl rfl ?_
  refine w_getfield X2 (pc' := 23) d4_20 (host := "") (Or.inl (hw _ (List.mem_of_getElem? (i := 19) rfl))) Via.refl F_slots rfl fun T3 X3 => ?_
  refine w_iload X3 (pc' := 25) d4_23 rfl rfl ?_
  refine w_iaload X3 (pc' := 26) (own_H e') (v := (.int (Int32.ofNat (i + 1)))) d4_25 A_at (own_nat _ (by have := own_H128 e'; omega)) (own_H128 e') hs rfl ?_
  refine w_iconst X3 (pc' := 27) (1 : Int32) d4_26 rfl rfl ?_
  refine w_isub X3 (pc' := 28) d4_27 rfl ?_
  exact w_ireturn X3 d4_28 ⟨by rw [own_sub1], rfl⟩ (by decide) (by decide)
set_option maxRecDepth 65536 in
set_option maxHeartbeats 40000000 in
theorem rm4a {l : Launch} {Z : State} {a0 : Array Value} (hw : ∀ d ∈ tables_1, d.before a0 Z = true) {n0 : Nat} {h0 : Heap} (Z0 : n0 ≤ h0.size) (a : Addr) (e' : Nat) {M : Nat} {ax ay az ac at' : Addr} {n : Nat} {c : Nat → Int64} {D : Value} {fx fy fz fs : Nat → Value} (O : HH Z n0 h0 a M ax ay az ac at' n c D fx fy fz fs) (g_a : n0 ≤ a) (he : e' < 3) (hn : n < 60) (hs : fs (own_H e') = .int 0) :
    Con l Z n0 (⟨"com/example/gallweave/gallweave/triplets/HashedTriplets", "index", "(III)I"⟩ : MethodName) prog_52_method_9_code 6 (some .int) ({ frames := 2, cells := 0, slots := 0, locals := 33 } : Room) #[(.ref a), (.int (Int32.ofNat e')), (.int (Int32.ofNat (e' + 3))), (.int (Int32.ofNat (e' + 6)))] h0 (Val (fun v h => v = .int (Int32.ofNat n) ∧ (∃ ws, Keep h0 h ws ∧ ∀ x ∈ ws, x < M) ∧ HH Z n0 h a M ax ay az ac at' (n + 1) c D (upd fx n (.int (Int32.ofNat e'))) (upd fy n (.int (Int32.ofNat (e' + 3)))) (upd fz n (.int (Int32.ofNat (e' + 6)))) (upd fs (own_H e') (.int (Int32.ofNat (n + 1)))))) := by
  refine con_intro pn_4 Z0 (fr := fun m => mkF m 0 #[.val (.ref a), .val (.int (Int32.ofNat e')), .val (.int (Int32.ofNat (e' + 3))), .val (.int (Int32.ofNat (e' + 6))), .unset, .unset] []) (fun m => by first | (simp [entryFrame, mkF, argsToLocals, Value.category]; done) | rfl) ?_
  intro p e s m below s₁ hs0 X0
  have O0 := O
  obtain ⟨gn_ax, gn_ay, gn_az, gn_ac, gn_at, lt_a, lt_ax, lt_ay, lt_az, lt_ac, lt_at, ne_a_ax, ne_a_ay, ne_a_az, ne_a_ac, ne_a_at, ne_ax_ay, ne_ax_az, ne_ax_ac, ne_ax_at, ne_ay_az, ne_ay_ac, ne_ay_at, ne_az_ac, ne_az_at, ne_ac_at, E_a, F_x, F_y, F_z, F_counts, F_slots, F_size, F_dec, A_ax, A_ay, A_az, A_ac, A_at⟩ := O
  refine w_aloadN X0 (pc' := 1) d4_0 rfl rfl rfl ?_
  refine w_iloadN X0 (pc' := 2) d4_1 rfl rfl ?_
  refine w_iloadN X0 (pc' := 3) d4_2 rfl rfl ?_
  refine w_iloadN X0 (pc' := 4) d4_3 rfl rfl ?_
  refine w_privateV X0 (pc' := 7) d4_4 (rm5a hw (h0 := h0) (sd_size X0) a e' O0 g_a he hs) (hw _ (List.mem_of_getElem? (i := 31) rfl)) (hw _ (List.mem_of_getElem? (i := 32) rfl)) (hw _ (List.mem_of_getElem? (i := 33) rfl)) (hw _ (List.mem_of_getElem? (i := 1) rfl)) (hw _ (List.mem_of_getElem? (i := 2) rfl)) (hw _ (List.mem_of_getElem? (i := 34) rfl)) E_a (by decide) [(.int (Int32.ofNat e')), (.int (Int32.ofNat (e' + 3))), (.int (Int32.ofNat (e' + 6)))] [] pd_5 rfl rfl rfl rfl 0 (Nat.le_refl _) (by decide) (by decide) (by decide) (by decide) rfl fun T1 h1 v1 X1 q1 => ?_
  obtain ⟨rfl, rfl⟩ := q1
  refine w_istore X1 (pc' := 9) (l' := #[.val (.ref a), .val (.int (Int32.ofNat e')), .val (.int (Int32.ofNat (e' + 3))), .val (.int (Int32.ofNat (e' + 6))), .val (.int (Int32.ofNat (own_H e'))), .unset]) d4_7 rfl rfl ?_
  refine w_aloadN X1 (pc' := 10) d4_9 rfl rfl rfl ?_
  refine w_getfield X1 (pc' := 13) d4_10 (host := "") (Or.inl (hw _ (List.mem_of_getElem? (i := 19) rfl))) Via.refl F_slots rfl fun T2 X2 => ?_
  refine w_iload X2 (pc' := 15) d4_13 rfl rfl ?_
  refine w_iaload X2 (pc' := 16) (own_H e') (v := (.int (0 : Int32))) d4_15 A_at (own_nat _ (by have := own_H128 e'; omega)) (own_H128 e') hs rfl ?_
  refine w_if_eq X2 29 19 d4_16 (by decide) rfl rfl (fun hc16 => ?_) (fun hc16 => by exfalso; revert hc16; decide)
  refine w_aloadN X2 (pc' := 30) d4_29 rfl rfl rfl ?_
  refine w_getfield X2 (pc' := 33) d4_30 (host := "") (Or.inl (hw _ (List.mem_of_getElem? (i := 40) rfl))) Via.refl F_size rfl fun T3 X3 => ?_
  refine w_aloadN X3 (pc' := 34) d4_33 rfl rfl rfl ?_
  refine w_getfield X3 (pc' := 37) d4_34 (host := "") (Or.inl (hw _ (List.mem_of_getElem? (i := 10) rfl))) Via.refl F_x rfl fun T4 X4 => ?_
  refine w_arraylength X4 (pc' := 38) (64 : Int32) d4_37 A_ax (by decide) rfl ?_
  refine w_icmp_ne X4 136 41 d4_38 (by decide) rfl rfl (fun hc38 => ?_) (fun hc38 => by exfalso; exact own_neq (own_nat n (by omega)) (by decide : (64 : Int32).toInt = ((64 : Nat) : Int)) (by omega) hc38)
  refine w_aloadN X4 (pc' := 137) d4_136 rfl rfl rfl ?_
  refine w_getfield X4 (pc' := 140) d4_137 (host := "") (Or.inl (hw _ (List.mem_of_getElem? (i := 10) rfl))) Via.refl F_x rfl fun T5 X5 => ?_
  refine w_aloadN X5 (pc' := 141) d4_140 rfl rfl rfl ?_
  refine w_getfield X5 (pc' := 144) d4_141 (host := "") (Or.inl (hw _ (List.mem_of_getElem? (i := 40) rfl))) Via.refl F_size rfl fun T6 X6 => ?_
  refine w_iloadN X6 (pc' := 145) d4_144 rfl rfl ?_
  refine w_iastore X6 (pc' := 146) n d4_145 A_ax (own_nat n (by omega)) (by omega) gn_ax rfl fun T7 h7 X7 W7 A7 => ?_
  have F_x_8 := Fld.other W7 F_x (Or.inl ne_a_ax)
  have F_y_8 := Fld.other W7 F_y (Or.inl ne_a_ax)
  have F_z_8 := Fld.other W7 F_z (Or.inl ne_a_ax)
  have F_counts_8 := Fld.other W7 F_counts (Or.inl ne_a_ax)
  have F_slots_8 := Fld.other W7 F_slots (Or.inl ne_a_ax)
  have F_size_8 := Fld.other W7 F_size (Or.inl ne_a_ax)
  have F_dec_8 := Fld.other W7 F_dec (Or.inl ne_a_ax)
  have E_a_8 := Exa.wr W7 E_a
  have A_ay_8 := A_ay.other W7 (Ne.symm ne_ax_ay)
  have A_az_8 := A_az.other W7 (Ne.symm ne_ax_az)
  have A_ac_8 := A_ac.other W7 (Ne.symm ne_ax_ac)
  have A_at_8 := A_at.other W7 (Ne.symm ne_ax_at)
  have K_9r : Keep h0 _ [a, ax, ay, az, at'] := (Keep.refl h0 [a, ax, ay, az, at'])
  have K_9 : Keep h0 h7 [a, ax, ay, az, at'] := K_9r.wr W7 (Or.inl (List.mem_of_getElem? (i := 1) rfl))
  refine w_aloadN X7 (pc' := 147) d4_146 rfl rfl rfl ?_
  refine w_getfield X7 (pc' := 150) d4_147 (host := "") (Or.inl (hw _ (List.mem_of_getElem? (i := 12) rfl))) Via.refl F_y_8 rfl fun T10 X10 => ?_
  refine w_aloadN X10 (pc' := 151) d4_150 rfl rfl rfl ?_
  refine w_getfield X10 (pc' := 154) d4_151 (host := "") (Or.inl (hw _ (List.mem_of_getElem? (i := 40) rfl))) Via.refl F_size_8 rfl fun T11 X11 => ?_
  refine w_iloadN X11 (pc' := 155) d4_154 rfl rfl ?_
  refine w_iastore X11 (pc' := 156) n d4_155 A_ay_8 (own_nat n (by omega)) (by omega) gn_ay rfl fun T12 h12 X12 W12 A12 => ?_
  have F_x_13 := Fld.other W12 F_x_8 (Or.inl ne_a_ay)
  have F_y_13 := Fld.other W12 F_y_8 (Or.inl ne_a_ay)
  have F_z_13 := Fld.other W12 F_z_8 (Or.inl ne_a_ay)
  have F_counts_13 := Fld.other W12 F_counts_8 (Or.inl ne_a_ay)
  have F_slots_13 := Fld.other W12 F_slots_8 (Or.inl ne_a_ay)
  have F_size_13 := Fld.other W12 F_size_8 (Or.inl ne_a_ay)
  have F_dec_13 := Fld.other W12 F_dec_8 (Or.inl ne_a_ay)
  have E_a_13 := Exa.wr W12 E_a_8
  have A_az_13 := A_az_8.other W12 (Ne.symm ne_ay_az)
  have A_ac_13 := A_ac_8.other W12 (Ne.symm ne_ay_ac)
  have A_at_13 := A_at_8.other W12 (Ne.symm ne_ay_at)
  have A7_13 := A7.other W12 ne_ax_ay
  have K_14 : Keep h0 h12 [a, ax, ay, az, at'] := K_9.wr W12 (Or.inl (List.mem_of_getElem? (i := 2) rfl))
  refine w_aloadN X12 (pc' := 157) d4_156 rfl rfl rfl ?_
  refine w_getfield X12 (pc' := 160) d4_157 (host := "") (Or.inl (hw _ (List.mem_of_getElem? (i := 14) rfl))) Via.refl F_z_13 rfl fun T15 X15 => ?_
  refine w_aloadN X15 (pc' := 161) d4_160 rfl rfl rfl ?_
  refine w_getfield X15 (pc' := 164) d4_161 (host := "") (Or.inl (hw _ (List.mem_of_getElem? (i := 40) rfl))) Via.refl F_size_13 rfl fun T16 X16 => ?_
  refine w_iloadN X16 (pc' := 165) d4_164 rfl rfl ?_
  refine w_iastore X16 (pc' := 166) n d4_165 A_az_13 (own_nat n (by omega)) (by omega) gn_az rfl fun T17 h17 X17 W17 A17 => ?_
  have F_x_18 := Fld.other W17 F_x_13 (Or.inl ne_a_az)
  have F_y_18 := Fld.other W17 F_y_13 (Or.inl ne_a_az)
  have F_z_18 := Fld.other W17 F_z_13 (Or.inl ne_a_az)
  have F_counts_18 := Fld.other W17 F_counts_13 (Or.inl ne_a_az)
  have F_slots_18 := Fld.other W17 F_slots_13 (Or.inl ne_a_az)
  have F_size_18 := Fld.other W17 F_size_13 (Or.inl ne_a_az)
  have F_dec_18 := Fld.other W17 F_dec_13 (Or.inl ne_a_az)
  have E_a_18 := Exa.wr W17 E_a_13
  have A_ac_18 := A_ac_13.other W17 (Ne.symm ne_az_ac)
  have A_at_18 := A_at_13.other W17 (Ne.symm ne_az_at)
  have A7_18 := A7_13.other W17 ne_ax_az
  have A12_18 := A12.other W17 ne_ay_az
  have K_19 : Keep h0 h17 [a, ax, ay, az, at'] := K_14.wr W17 (Or.inl (List.mem_of_getElem? (i := 3) rfl))
  refine w_aloadN X17 (pc' := 167) d4_166 rfl rfl rfl ?_
  refine w_getfield X17 (pc' := 170) d4_167 (host := "") (Or.inl (hw _ (List.mem_of_getElem? (i := 19) rfl))) Via.refl F_slots_18 rfl fun T20 X20 => ?_
  refine w_iload X20 (pc' := 172) d4_170 rfl rfl ?_
  refine w_aloadN X20 (pc' := 173) d4_172 rfl rfl rfl ?_
  refine w_dup X20 (pc' := 174) d4_173 rfl rfl ?_
  refine w_getfield X20 (pc' := 177) d4_174 (host := "") (Or.inl (hw _ (List.mem_of_getElem? (i := 40) rfl))) Via.refl F_size_18 rfl fun T21 X21 => ?_
  refine w_iconst X21 (pc' := 178) (1 : Int32) d4_177 rfl rfl ?_
  refine w_iadd X21 (pc' := 179) d4_178 rfl ?_
  rw [own_succ n]
  show Go p e below _ (T21.setTop (mkF m 179 #[.val (.ref a), .val (.int (Int32.ofNat e')), .val (.int (Int32.ofNat (e' + 3))), .val (.int (Int32.ofNat (e' + 6))), .val (.int (Int32.ofNat (own_H e'))), .unset] [(.int (Int32.ofNat (n + 1))), (.ref a), (.int (Int32.ofNat (own_H e'))), (.ref at')]))
  refine w_dup_x1 X21 (pc' := 180) d4_179 rfl rfl rfl ?_
  refine w_putfield X21 (pc' := 183) d4_180 (host := "") (Or.inl (hw _ (List.mem_of_getElem? (i := 40) rfl))) Via.refl F_size_18 E_a_18 (Or.inl (hw _ (List.mem_of_getElem? (i := 41) rfl))) (hw _ (List.mem_of_getElem? (i := 1) rfl)) (ty := .int) (by decide) rfl rfl g_a rfl fun T22 h22 X22 W22 F22 => ?_
  have F_x_23 := Fld.other W22 F_x_18 (Or.inr (slot_ne (C := "com/example/gallweave/gallweave/triplets/HashedTriplets") (Or.inl (hw _ (List.mem_of_getElem? (i := 11) rfl))) (Or.inl (hw _ (List.mem_of_getElem? (i := 41) rfl))) (by decide) (t := (.array .int)) (t' := .int) (by decide) (by decide)))
  have F_y_23 := Fld.other W22 F_y_18 (Or.inr (slot_ne (C := "com/example/gallweave/gallweave/triplets/HashedTriplets") (Or.inl (hw _ (List.mem_of_getElem? (i := 13) rfl))) (Or.inl (hw _ (List.mem_of_getElem? (i := 41) rfl))) (by decide) (t := (.array .int)) (t' := .int) (by decide) (by decide)))
  have F_z_23 := Fld.other W22 F_z_18 (Or.inr (slot_ne (C := "com/example/gallweave/gallweave/triplets/HashedTriplets") (Or.inl (hw _ (List.mem_of_getElem? (i := 15) rfl))) (Or.inl (hw _ (List.mem_of_getElem? (i := 41) rfl))) (by decide) (t := (.array .int)) (t' := .int) (by decide) (by decide)))
  have F_counts_23 := Fld.other W22 F_counts_18 (Or.inr (slot_ne (C := "com/example/gallweave/gallweave/triplets/HashedTriplets") (Or.inl (hw _ (List.mem_of_getElem? (i := 18) rfl))) (Or.inl (hw _ (List.mem_of_getElem? (i := 41) rfl))) (by decide) (t := (.array .long)) (t' := .int) (by decide) (by decide)))
  have F_slots_23 := Fld.other W22 F_slots_18 (Or.inr (slot_ne (C := "com/example/gallweave/gallweave/triplets/HashedTriplets") (Or.inl (hw _ (List.mem_of_getElem? (i := 20) rfl))) (Or.inl (hw _ (List.mem_of_getElem? (i := 41) rfl))) (by decide) (t := (.array .int)) (t' := .int) (by decide) (by decide)))
  have F_dec_23 := Fld.other W22 F_dec_18 (Or.inr (slot_ne (C := "com/example/gallweave/gallweave/triplets/HashedTriplets") (Or.inl (hw _ (List.mem_of_getElem? (i := 53) rfl))) (Or.inl (hw _ (List.mem_of_getElem? (i := 41) rfl))) (by decide) (t := (.array (.object "java/math/BigDecimal"))) (t' := .int) (by decide) (by decide)))
  have E_a_23 := Exa.wr W22 E_a_18
  have A_ac_23 := A_ac_18.other W22 (Ne.symm ne_a_ac)
  have A_at_23 := A_at_18.other W22 (Ne.symm ne_a_at)
  have A7_23 := A7_18.other W22 (Ne.symm ne_a_ax)
  have A12_23 := A12_18.other W22 (Ne.symm ne_a_ay)
  have A17_23 := A17.other W22 (Ne.symm ne_a_az)
  have K_24 : Keep h0 h22 [a, ax, ay, az, at'] := K_19.wr W22 (Or.inl (List.mem_of_getElem? (i := 0) rfl))
  refine w_iastore X22 (pc' := 184) (own_H e') d4_183 A_at_23 (own_nat _ (by have := own_H128 e'; omega)) (own_H128 e') gn_at rfl fun T25 h25 X25 W25 A25 => ?_
  have F_x_26 := Fld.other W25 F_x_23 (Or.inl ne_a_at)
  have F_y_26 := Fld.other W25 F_y_23 (Or.inl ne_a_at)
  have F_z_26 := Fld.other W25 F_z_23 (Or.inl ne_a_at)
  have F_counts_26 := Fld.other W25 F_counts_23 (Or.inl ne_a_at)
  have F_slots_26 := Fld.other W25 F_slots_23 (Or.inl ne_a_at)
  have F_dec_26 := Fld.other W25 F_dec_23 (Or.inl ne_a_at)
  have F22_26 := Fld.other W25 F22 (Or.inl ne_a_at)
  have E_a_26 := Exa.wr W25 E_a_23
  have A_ac_26 := A_ac_23.other W25 ne_ac_at
  have A7_26 := A7_23.other W25 ne_ax_at
  have A12_26 := A12_23.other W25 ne_ay_at
  have A17_26 := A17_23.other W25 ne_az_at
  have K_27 : Keep h0 h25 [a, ax, ay, az, at'] := K_24.wr W25 (Or.inl (List.mem_of_getElem? (i := 4) rfl))
  refine w_iconst X25 (pc' := 185) (2 : Int32) d4_184 rfl rfl ?_
  refine w_aloadN X25 (pc' := 186) d4_185 rfl rfl rfl ?_
  refine w_getfield X25 (pc' := 189) d4_186 (host := "") (Or.inl (hw _ (List.mem_of_getElem? (i := 40) rfl))) Via.refl F22_26 rfl fun T28 X28 => ?_
  refine w_imul X28 (pc' := 190) d4_189 rfl ?_
  refine w_aloadN X28 (pc' := 191) d4_190 rfl rfl rfl ?_
  refine w_getfield X28 (pc' := 194) d4_191 (host := "") (Or.inl (hw _ (List.mem_of_getElem? (i := 19) rfl))) Via.refl F_slots_26 rfl fun T29 X29 => ?_
  refine w_arraylength X29 (pc' := 195) (128 : Int32) d4_194 A25 (by decide) rfl ?_
  refine w_icmp_le X29 263 198 d4_195 (by decide) rfl rfl (fun hc195 => ?_) (fun hc195 => by exfalso; rw [Int32.lt_iff_toInt_lt, Jvm.Kit.i32_mul (by rw [own_nat (n + 1) (by omega), show (2 : Int32).toInt = 2 from by decide]; omega) (by rw [own_nat (n + 1) (by omega), show (2 : Int32).toInt = 2 from by decide]; omega), own_nat (n + 1) (by omega), show (2 : Int32).toInt = 2 from by decide, show (128 : Int32).toInt = 128 from by decide] at hc195; omega)
  refine w_aloadN X29 (pc' := 264) d4_263 rfl rfl rfl ?_
  refine w_getfield X29 (pc' := 267) d4_264 (host := "") (Or.inl (hw _ (List.mem_of_getElem? (i := 40) rfl))) Via.refl F22_26 rfl fun T30 X30 => ?_
  refine w_iconst X30 (pc' := 268) (1 : Int32) d4_267 rfl rfl ?_
  refine w_isub X30 (pc' := 269) d4_268 rfl ?_
  exact w_ireturn X30 d4_269 ⟨by rw [own_sub1], ⟨_, K_27, allS lt_a (allS lt_ax (allS lt_ay (allS lt_az (allS lt_at all0))))⟩, ⟨gn_ax, gn_ay, gn_az, gn_ac, gn_at, lt_a, lt_ax, lt_ay, lt_az, lt_ac, lt_at, ne_a_ax, ne_a_ay, ne_a_az, ne_a_ac, ne_a_at, ne_ax_ay, ne_ax_az, ne_ax_ac, ne_ax_at, ne_ay_az, ne_ay_ac, ne_ay_at, ne_az_ac, ne_az_at, ne_ac_at, E_a_26, F_x_26, F_y_26, F_z_26, F_counts_26, F_slots_26, F22_26, F_dec_26, A7_26, A12_26, A17_26, A_ac_26, A25⟩⟩ (by decide) (by decide)
theorem d3_0 : decode prog_52_method_4_code 0 = .ok (.aload_n 0, 1) := by decide +kernel
theorem d3_1 : decode prog_52_method_4_code 1 = .ok (.iload_n 1, 1) := by decide +kernel
theorem d3_2 : decode prog_52_method_4_code 2 = .ok (.iload_n 2, 1) := by decide +kernel
theorem d3_3 : decode prog_52_method_4_code 3 = .ok (.iload_n 3, 1) := by decide +kernel
theorem d3_4 : decode prog_52_method_4_code 4 = .ok (.invokevirtual 34, 3) := by decide +kernel
theorem d3_7 : decode prog_52_method_4_code 7 = .ok (.istore 6, 2) := by decide +kernel
theorem d3_9 : decode prog_52_method_4_code 9 = .ok (.aload_n 0, 1) := by decide +kernel
theorem d3_10 : decode prog_52_method_4_code 10 = .ok (.getfield 19, 3) := by decide +kernel
theorem d3_13 : decode prog_52_method_4_code 13 = .ok (.iload 6, 2) := by decide +kernel
theorem d3_15 : decode prog_52_method_4_code 15 = .ok (.dup2, 1) := by decide +kernel
theorem d3_16 : decode prog_52_method_4_code 16 = .ok (.laload, 1) := by decide +kernel
theorem d3_17 : decode prog_52_method_4_code 17 = .ok (.lload 4, 2) := by decide +kernel
theorem d3_19 : decode prog_52_method_4_code 19 = .ok (.ladd, 1) := by decide +kernel
theorem d3_20 : decode prog_52_method_4_code 20 = .ok (.lastore, 1) := by decide +kernel
theorem d3_21 : decode prog_52_method_4_code 21 = .ok (.return_, 1) := by decide +kernel
theorem pn_3 : plainFor (⟨"com/example/gallweave/gallweave/triplets/HashedTriplets", "count", "(IIIJ)V"⟩ : MethodName) = true := plainFor_of_name (by first | (simp [plainName, overriddenIn]; done) | decide +kernel)
theorem pd_3 : parseMethodDescriptor "(IIIJ)V" = some ⟨[.int, .int, .int, .long], none⟩ := by decide +kernel
theorem own_app {h0 h h' : Heap} {ws ws' : List Addr} (K : Keep h0 h ws) (K' : Keep h h' ws') : Keep h0 h' (ws ++ ws') := by
  refine ⟨Nat.le_trans K.1 K'.1, fun x c q r => K'.2.1 x c (K.2.1 x c q fun z => r (List.mem_append_left _ z)) fun z => r (List.mem_append_right _ z), fun x c q => ?_⟩
  obtain ⟨c1, a1, a2, a3, a4⟩ := K.2.2 x c q
  obtain ⟨c2, b1, b2, b3, b4⟩ := K'.2.2 x c1 a1
  exact ⟨c2, b1, b2.trans a2, b3.trans a3, b4.trans a4⟩
theorem own_ws {ws : List Addr} {M : Nat} {b : Addr} (h : ∀ x ∈ ws, x < M) (hb : b < M) : ∀ x ∈ ws ++ [b], x < M := fun x hx => (List.mem_append.mp hx).elim (h x) fun z => by cases List.mem_singleton.mp z; exact hb
theorem own_pr1 {n e i : Nat} {K : Nat → Nat} {pr : Nat → Bool} (hpr : ∀ e, e < 3 → (pr e = true ↔ ∃ i, i < n ∧ K i = e)) (hi : i < n) (hK : K i = e) : ∀ f, f < 3 → (updB pr e f = true ↔ ∃ i, i < n ∧ K i = f) := fun f hf => by
  by_cases q : f = e
  · subst q; rw [show updB pr f f = true from if_pos rfl]; exact ⟨fun _ => ⟨i, hi, hK⟩, fun _ => rfl⟩
  · rw [show updB pr e f = pr f from if_neg q]; exact hpr f hf
theorem own_sm0 {pr : Nat → Bool} {sm : Nat → Int64} {e : Nat} {v : Int64} (h : ∀ e, e < 3 → pr e = false → sm e = 0) : ∀ f, f < 3 → updB pr e f = false → updL sm e v f = 0 := fun f hf q => by
  by_cases z : f = e
  · subst z; rw [show updB pr f f = true from if_pos rfl] at q; cases q
  · rw [show updB pr e f = pr f from if_neg z] at q; rw [show updL sm e v f = sm f from if_neg z]; exact h f hf q
theorem own_sm1 {n e i : Nat} {K : Nat → Nat} {c sm : Nat → Int64} {fx fy fz fs : Nat → Value} (P : HP n K c fx fy fz fs) (hn : n < 100) (hsm : ∀ i, i < n → c i = sm (K i)) (hi : i < n) (hK : K i = e) (v : Int64) : ∀ j, j < n → updL c i (c i + v) j = updL sm e (sm e + v) (K j) := fun j hj => by
  by_cases q : j = i
  · subst q; rw [hK, show updL c j (c j + v) j = c j + v from if_pos rfl, show updL sm e (sm e + v) e = sm e + v from if_pos rfl, hsm j hj, hK]
  · have : K j ≠ e := fun z => q (P.inj hn hj hi (z.trans hK.symm))
    rw [show updL c i (c i + v) j = c j from if_neg q, show updL sm e (sm e + v) (K j) = sm (K j) from if_neg this]; exact hsm j hj
theorem own_pr2 {n e : Nat} {K : Nat → Nat} {pr : Nat → Bool} (hpr : ∀ e, e < 3 → (pr e = true ↔ ∃ i, i < n ∧ K i = e)) : ∀ f, f < 3 → (updB pr e f = true ↔ ∃ i, i < n + 1 ∧ updN K n e i = f) := fun f hf => by
  by_cases q : f = e
  · subst q; rw [show updB pr f f = true from if_pos rfl]; exact ⟨fun _ => ⟨n, by omega, if_pos rfl⟩, fun _ => rfl⟩
  · rw [show updB pr e f = pr f from if_neg q, hpr f hf]
    constructor
    · rintro ⟨i, hi, hK⟩; exact ⟨i, by omega, by rw [show updN K n e i = K i from if_neg (by omega)]; exact hK⟩
    · rintro ⟨i, hi, hK⟩
      by_cases z : i = n
      · subst z; rw [show updN K i e i = e from if_pos rfl] at hK; exact absurd hK.symm q
      · exact ⟨i, by omega, by rw [show updN K n e i = K i from if_neg z] at hK; exact hK⟩
theorem own_sm2 {n e : Nat} {K : Nat → Nat} {c sm : Nat → Int64} {pr : Nat → Bool} {fx fy fz fs : Nat → Value} (P : HP n K c fx fy fz fs) (hn : n < 100) (hsm : ∀ i, i < n → c i = sm (K i)) (h0 : ∀ e, e < 3 → pr e = false → sm e = 0) (hpr : ∀ e, e < 3 → (pr e = true ↔ ∃ i, i < n ∧ K i = e)) (he : e < 3) (hab : ∀ i, i < n → K i ≠ e) (v : Int64) : ∀ j, j < n + 1 → updL c n (c n + v) j = updL sm e (sm e + v) (updN K n e j) := fun j hj => by
  by_cases q : j = n
  · subst q
    have hp : pr e = false := by
      cases hq : pr e
      · rfl
      · obtain ⟨i, hi, hK⟩ := (hpr e he).mp hq; exact absurd hK (hab i hi)
    rw [show updN K j e j = e from if_pos rfl, show updL c j (c j + v) j = c j + v from if_pos rfl, show updL sm e (sm e + v) e = sm e + v from if_pos rfl, P.2.2.2.2.2.2 j (by omega), h0 e he hp]
  · rw [show updN K n e j = K j from if_neg q, show updL c n (c n + v) j = c j from if_neg q, show updL sm e (sm e + v) (K j) = sm (K j) from if_neg (hab j (by omega))]; exact hsm j (by omega)
set_option maxRecDepth 65536 in
set_option maxHeartbeats 40000000 in
theorem rm3 {l : Launch} {Z : State} {a0 : Array Value} (hw : ∀ d ∈ tables_1, d.before a0 Z = true) {n0 : Nat} {h0 : Heap} (Z0 : n0 ≤ h0.size) (a : Addr) (e' : Nat) (q5 : Int64) {M N : Nat} {pr : Nat → Bool} {sm : Nat → Int64} {D : Value} (OT : HT Z n0 h0 a M N pr sm D) (hN : N < 50) (g_a : n0 ≤ a) (he : e' < 3) :
    Con l Z n0 (⟨"com/example/gallweave/gallweave/triplets/HashedTriplets", "count", "(IIIJ)V"⟩ : MethodName) prog_52_method_4_code 7 none ({ frames := 3, cells := 0, slots := 0, locals := 50 } : Room) #[(.ref a), (.int (Int32.ofNat e')), (.int (Int32.ofNat (e' + 3))), (.int (Int32.ofNat (e' + 6))), (.long q5)] h0 (Non (fun h => (∃ ws, Keep h0 h ws ∧ ∀ x ∈ ws, x < M) ∧ HT Z n0 h a M (N + 1) (updB pr e') (updL sm e' (sm e' + q5)) D)) := by
  refine con_intro pn_3 Z0 (fr := fun m => mkF m 0 #[.val (.ref a), .val (.int (Int32.ofNat e')), .val (.int (Int32.ofNat (e' + 3))), .val (.int (Int32.ofNat (e' + 6))), .val (.long q5), .second, .unset] []) (fun m => by first | (simp [entryFrame, mkF, argsToLocals, Value.category]; done) | rfl) ?_
  intro p e s m below s₁ hs0 X0
  obtain ⟨ax, ay, az, ac, at', n, K, c, fx, fy, fz, fs, O, P, hnN, hpr, hsm, hsm0⟩ := OT
  have EO := O.exa
  by_cases hp : ∃ i, i < n ∧ K i = e'
  · skip
    obtain ⟨i, hi, hKi⟩ := hp
    obtain ⟨p1, p2, p3, p4, p5, p6, p7⟩ := id P
    refine w_aloadN X0 (pc' := 1) d3_0 rfl rfl rfl ?_
    refine w_iloadN X0 (pc' := 2) d3_1 rfl rfl ?_
    refine w_iloadN X0 (pc' := 3) d3_2 rfl rfl ?_
    refine w_iloadN X0 (pc' := 4) d3_3 rfl rfl ?_
    refine w_privateV X0 (pc' := 7) d3_4 (rm4p hw (h0 := h0) (sd_size X0) a e' O g_a he (by omega) (hKi ▸ p5 i hi) (hKi ▸ p2 i hi) (hKi ▸ p3 i hi) (hKi ▸ p4 i hi)) (hw _ (List.mem_of_getElem? (i := 27) rfl)) (hw _ (List.mem_of_getElem? (i := 28) rfl)) (hw _ (List.mem_of_getElem? (i := 29) rfl)) (hw _ (List.mem_of_getElem? (i := 1) rfl)) (hw _ (List.mem_of_getElem? (i := 2) rfl)) (hw _ (List.mem_of_getElem? (i := 30) rfl)) EO (by decide) [(.int (Int32.ofNat e')), (.int (Int32.ofNat (e' + 3))), (.int (Int32.ofNat (e' + 6)))] [] pd_4 rfl rfl rfl rfl 0 (Nat.le_refl _) (by decide) (by decide) (by decide) (by decide) rfl fun T1 h1 v1 X1 q1 => ?_
    obtain ⟨rfl, rfl⟩ := q1
    obtain ⟨gn_ax, gn_ay, gn_az, gn_ac, gn_at, lt_a, lt_ax, lt_ay, lt_az, lt_ac, lt_at, ne_a_ax, ne_a_ay, ne_a_az, ne_a_ac, ne_a_at, ne_ax_ay, ne_ax_az, ne_ax_ac, ne_ax_at, ne_ay_az, ne_ay_ac, ne_ay_at, ne_az_ac, ne_az_at, ne_ac_at, E_a, F_x, F_y, F_z, F_counts, F_slots, F_size, F_dec, A_ax, A_ay, A_az, A_ac, A_at⟩ := O
    refine w_istore X1 (pc' := 9) (l' := #[.val (.ref a), .val (.int (Int32.ofNat e')), .val (.int (Int32.ofNat (e' + 3))), .val (.int (Int32.ofNat (e' + 6))), .val (.long q5), .second, .val (.int (Int32.ofNat i))]) d3_7 rfl rfl ?_
    refine w_aloadN X1 (pc' := 10) d3_9 rfl rfl rfl ?_
    refine w_getfield X1 (pc' := 13) d3_10 (host := "") (Or.inl (hw _ (List.mem_of_getElem? (i := 17) rfl))) Via.refl F_counts rfl fun T2 X2 => ?_
    refine w_iload X2 (pc' := 15) d3_13 rfl rfl ?_
    refine w_dup2 X2 (pc' := 16) d3_15 rfl rfl rfl ?_
    refine w_laload X2 (pc' := 17) i (v := (.long (c i))) d3_16 A_ac (own_nat i (by omega)) (by omega) rfl rfl ?_
    refine w_lload X2 (pc' := 19) d3_17 rfl rfl ?_
    refine w_ladd X2 (pc' := 20) d3_19 rfl ?_
    refine w_lastore X2 (pc' := 21) i d3_20 A_ac (own_nat i (by omega)) (by omega) gn_ac rfl fun T3 h3 X3 W3 A3 => ?_
    have F_x_4 := Fld.other W3 F_x (Or.inl ne_a_ac)
    have F_y_4 := Fld.other W3 F_y (Or.inl ne_a_ac)
    have F_z_4 := Fld.other W3 F_z (Or.inl ne_a_ac)
    have F_counts_4 := Fld.other W3 F_counts (Or.inl ne_a_ac)
    have F_slots_4 := Fld.other W3 F_slots (Or.inl ne_a_ac)
    have F_size_4 := Fld.other W3 F_size (Or.inl ne_a_ac)
    have F_dec_4 := Fld.other W3 F_dec (Or.inl ne_a_ac)
    have E_a_4 := Exa.wr W3 E_a
    have A_ax_4 := A_ax.other W3 ne_ax_ac
    have A_ay_4 := A_ay.other W3 ne_ay_ac
    have A_az_4 := A_az.other W3 ne_az_ac
    have A_at_4 := A_at.other W3 (Ne.symm ne_ac_at)
    have K_5r : Keep h0 _ [ac] := (Keep.refl h0 [ac])
    have K_5 : Keep h0 h3 [ac] := K_5r.wr W3 (Or.inl (List.mem_of_getElem? (i := 0) rfl))
    have Ac' := A3.congr (fun j _ => own_cgL c i _ j)
    exact w_return X3 d3_21 ⟨⟨_, K_5, allS lt_ac all0⟩, ax, ay, az, ac, at', n, K, _, fx, fy, fz, fs, ⟨gn_ax, gn_ay, gn_az, gn_ac, gn_at, lt_a, lt_ax, lt_ay, lt_az, lt_ac, lt_at, ne_a_ax, ne_a_ay, ne_a_az, ne_a_ac, ne_a_at, ne_ax_ay, ne_ax_az, ne_ax_ac, ne_ax_at, ne_ay_az, ne_ay_ac, ne_ay_at, ne_az_ac, ne_az_at, ne_ac_at, E_a_4, F_x_4, F_y_4, F_z_4, F_counts_4, F_slots_4, F_size_4, F_dec_4, A_ax_4, A_ay_4, A_az_4, Ac', A_at_4⟩, P.cnt hi (c i + q5), by omega, own_pr1 hpr hi hKi, own_sm1 P (by omega) hsm hi hKi q5, own_sm0 hsm0⟩ (by decide) (by decide)
  · skip
    have hab : ∀ i, i < n → K i ≠ e' := fun i hi z => hp ⟨i, hi, z⟩
    obtain ⟨p1, p2, p3, p4, p5, p6, p7⟩ := id P
    refine w_aloadN X0 (pc' := 1) d3_0 rfl rfl rfl ?_
    refine w_iloadN X0 (pc' := 2) d3_1 rfl rfl ?_
    refine w_iloadN X0 (pc' := 3) d3_2 rfl rfl ?_
    refine w_iloadN X0 (pc' := 4) d3_3 rfl rfl ?_
    refine w_privateV X0 (pc' := 7) d3_4 (rm4a hw (h0 := h0) (sd_size X0) a e' O g_a he (by omega) (p6 e' he hab)) (hw _ (List.mem_of_getElem? (i := 27) rfl)) (hw _ (List.mem_of_getElem? (i := 28) rfl)) (hw _ (List.mem_of_getElem? (i := 29) rfl)) (hw _ (List.mem_of_getElem? (i := 1) rfl)) (hw _ (List.mem_of_getElem? (i := 2) rfl)) (hw _ (List.mem_of_getElem? (i := 30) rfl)) EO (by decide) [(.int (Int32.ofNat e')), (.int (Int32.ofNat (e' + 3))), (.int (Int32.ofNat (e' + 6)))] [] pd_4 rfl rfl rfl rfl 0 (Nat.le_refl _) (by decide) (by decide) (by decide) (by decide) rfl fun T6 h6 v6 X6 q6 => ?_
    obtain ⟨rfl, ⟨ws, Kw, hws⟩, O6⟩ := q6
    obtain ⟨gn_ax, gn_ay, gn_az, gn_ac, gn_at, lt_a, lt_ax, lt_ay, lt_az, lt_ac, lt_at, ne_a_ax, ne_a_ay, ne_a_az, ne_a_ac, ne_a_at, ne_ax_ay, ne_ax_az, ne_ax_ac, ne_ax_at, ne_ay_az, ne_ay_ac, ne_ay_at, ne_az_ac, ne_az_at, ne_ac_at, E_a, F_x, F_y, F_z, F_counts, F_slots, F_size, F_dec, A_ax, A_ay, A_az, A_ac, A_at⟩ := O6
    refine w_istore X6 (pc' := 9) (l' := #[.val (.ref a), .val (.int (Int32.ofNat e')), .val (.int (Int32.ofNat (e' + 3))), .val (.int (Int32.ofNat (e' + 6))), .val (.long q5), .second, .val (.int (Int32.ofNat n))]) d3_7 rfl rfl ?_
    refine w_aloadN X6 (pc' := 10) d3_9 rfl rfl rfl ?_
    refine w_getfield X6 (pc' := 13) d3_10 (host := "") (Or.inl (hw _ (List.mem_of_getElem? (i := 17) rfl))) Via.refl F_counts rfl fun T7 X7 => ?_
    refine w_iload X7 (pc' := 15) d3_13 rfl rfl ?_
    refine w_dup2 X7 (pc' := 16) d3_15 rfl rfl rfl ?_
    refine w_laload X7 (pc' := 17) n (v := (.long (c n))) d3_16 A_ac (own_nat n (by omega)) (by omega) rfl rfl ?_
    refine w_lload X7 (pc' := 19) d3_17 rfl rfl ?_
    refine w_ladd X7 (pc' := 20) d3_19 rfl ?_
    refine w_lastore X7 (pc' := 21) n d3_20 A_ac (own_nat n (by omega)) (by omega) gn_ac rfl fun T8 h8 X8 W8 A8 => ?_
    have F_x_9 := Fld.other W8 F_x (Or.inl ne_a_ac)
    have F_y_9 := Fld.other W8 F_y (Or.inl ne_a_ac)
    have F_z_9 := Fld.other W8 F_z (Or.inl ne_a_ac)
    have F_counts_9 := Fld.other W8 F_counts (Or.inl ne_a_ac)
    have F_slots_9 := Fld.other W8 F_slots (Or.inl ne_a_ac)
    have F_size_9 := Fld.other W8 F_size (Or.inl ne_a_ac)
    have F_dec_9 := Fld.other W8 F_dec (Or.inl ne_a_ac)
    have E_a_9 := Exa.wr W8 E_a
    have A_ax_9 := A_ax.other W8 ne_ax_ac
    have A_ay_9 := A_ay.other W8 ne_ay_ac
    have A_az_9 := A_az.other W8 ne_az_ac
    have A_at_9 := A_at.other W8 (Ne.symm ne_ac_at)
    have K_10r : Keep h6 _ [ac] := (Keep.refl h6 [ac])
    have K_10 : Keep h6 h8 [ac] := K_10r.wr W8 (Or.inl (List.mem_of_getElem? (i := 0) rfl))
    have Ac' := A8.congr (fun j _ => own_cgL c n _ j)
    exact w_return X8 d3_21 ⟨⟨_, own_app Kw K_10, own_ws hws lt_ac⟩, ax, ay, az, ac, at', n + 1, _, _, _, _, _, _, ⟨gn_ax, gn_ay, gn_az, gn_ac, gn_at, lt_a, lt_ax, lt_ay, lt_az, lt_ac, lt_at, ne_a_ax, ne_a_ay, ne_a_az, ne_a_ac, ne_a_at, ne_ax_ay, ne_ax_az, ne_ax_ac, ne_ax_at, ne_ay_az, ne_ay_ac, ne_ay_at, ne_az_ac, ne_az_at, ne_ac_at, E_a_9, F_x_9, F_y_9, F_z_9, F_counts_9, F_slots_9, F_size_9, F_dec_9, A_ax_9, A_ay_9, A_az_9, Ac', A_at_9⟩, (P.add he hab).cnt (by omega) (c n + q5), by omega, own_pr2 hpr, own_sm2 P (by omega) hsm hsm0 hpr he hab q5, own_sm0 hsm0⟩ (by decide) (by decide)
theorem d1_0 : decode prog_52_method_1_code 0 = .ok (.aload_n 0, 1) := by decide +kernel
theorem d1_1 : decode prog_52_method_1_code 1 = .ok (.invokespecial 1, 3) := by decide +kernel
theorem d1_4 : decode prog_52_method_1_code 4 = .ok (.aload_n 0, 1) := by decide +kernel
theorem d1_5 : decode prog_52_method_1_code 5 = .ok (.bipush 64, 2) := by decide +kernel
theorem d1_7 : decode prog_52_method_1_code 7 = .ok (.newarray .int, 2) := by decide +kernel
theorem d1_9 : decode prog_52_method_1_code 9 = .ok (.putfield 7, 3) := by decide +kernel
theorem d1_12 : decode prog_52_method_1_code 12 = .ok (.aload_n 0, 1) := by decide +kernel
theorem d1_13 : decode prog_52_method_1_code 13 = .ok (.bipush 64, 2) := by decide +kernel
theorem d1_15 : decode prog_52_method_1_code 15 = .ok (.newarray .int, 2) := by decide +kernel
theorem d1_17 : decode prog_52_method_1_code 17 = .ok (.putfield 13, 3) := by decide +kernel
theorem d1_20 : decode prog_52_method_1_code 20 = .ok (.aload_n 0, 1) := by decide +kernel
theorem d1_21 : decode prog_52_method_1_code 21 = .ok (.bipush 64, 2) := by decide +kernel
theorem d1_23 : decode prog_52_method_1_code 23 = .ok (.newarray .int, 2) := by decide +kernel
theorem d1_25 : decode prog_52_method_1_code 25 = .ok (.putfield 16, 3) := by decide +kernel
theorem d1_28 : decode prog_52_method_1_code 28 = .ok (.aload_n 0, 1) := by decide +kernel
theorem d1_29 : decode prog_52_method_1_code 29 = .ok (.bipush 64, 2) := by decide +kernel
theorem d1_31 : decode prog_52_method_1_code 31 = .ok (.newarray .long, 2) := by decide +kernel
theorem d1_33 : decode prog_52_method_1_code 33 = .ok (.putfield 19, 3) := by decide +kernel
theorem d1_36 : decode prog_52_method_1_code 36 = .ok (.aload_n 0, 1) := by decide +kernel
theorem d1_37 : decode prog_52_method_1_code 37 = .ok (.sipush 128, 3) := by decide +kernel
theorem d1_40 : decode prog_52_method_1_code 40 = .ok (.newarray .int, 2) := by decide +kernel
theorem d1_42 : decode prog_52_method_1_code 42 = .ok (.putfield 23, 3) := by decide +kernel
theorem d1_45 : decode prog_52_method_1_code 45 = .ok (.return_, 1) := by decide +kernel
theorem pn_1 : plainFor (⟨"com/example/gallweave/gallweave/triplets/HashedTriplets", "<init>", "()V"⟩ : MethodName) = true := plainFor_of_name (by first | (simp [plainName, overriddenIn]; done) | decide +kernel)
theorem pd_1 : parseMethodDescriptor "()V" = some ⟨[], none⟩ := by decide +kernel
set_option maxRecDepth 65536 in
set_option maxHeartbeats 40000000 in
theorem rm1 {l : Launch} {Z : State} {a0 : Array Value} (hw : ∀ d ∈ tables_1, d.before a0 Z = true) {n0 : Nat} {h0 : Heap} (Z0 : n0 ≤ h0.size) (a : Addr) (E_a : Exa Z h0 a "com/example/gallweave/gallweave/triplets/HashedTriplets") (g_a : n0 ≤ a) (F_x : Fld Z h0 a "com/example/gallweave/gallweave/triplets/HashedTriplets" "x" "[I" .null) (F_y : Fld Z h0 a "com/example/gallweave/gallweave/triplets/HashedTriplets" "y" "[I" .null) (F_z : Fld Z h0 a "com/example/gallweave/gallweave/triplets/HashedTriplets" "z" "[I" .null) (F_counts : Fld Z h0 a "com/example/gallweave/gallweave/triplets/HashedTriplets" "counts" "[J" .null) (F_slots : Fld Z h0 a "com/example/gallweave/gallweave/triplets/HashedTriplets" "slots" "[I" .null) (F_size : Fld Z h0 a "com/example/gallweave/gallweave/triplets/HashedTriplets" "size" "I" (.int (0 : Int32))) (F_decimals : Fld Z h0 a "com/example/gallweave/gallweave/triplets/HashedTriplets" "decimals" "[Ljava/math/BigDecimal;" .null) :
    Con l Z n0 (⟨"com/example/gallweave/gallweave/triplets/HashedTriplets", "<init>", "()V"⟩ : MethodName) prog_52_method_1_code 1 none ({ frames := 1, cells := 5, slots := 384, locals := 12 } : Room) #[(.ref a)] h0 (Non (fun h => ∃ M, M = h.size ∧ HT Z n0 h a M 0 (fun _ => false) (fun _ => 0) .null)) := by
  refine con_intro pn_1 Z0 (fr := fun m => mkF m 0 #[.val (.ref a)] []) (fun m => by first | (simp [entryFrame, mkF, argsToLocals, Value.category]; done) | rfl) ?_
  intro p e s m below s₁ hs0 X0
  refine w_aloadN X0 (pc' := 1) d1_0 rfl rfl rfl ?_
  refine w_initO X0 (pc' := 4) d1_1 (hw _ (List.mem_of_getElem? (i := 6) rfl)) (hw _ (List.mem_of_getElem? (i := 7) rfl)) (hw _ (List.mem_of_getElem? (i := 8) rfl)) rfl (by decide) 0 (Nat.le_refl _) (by decide) rfl fun T1 X1 => ?_
  refine w_aloadN X1 (pc' := 5) d1_4 rfl rfl rfl ?_
  refine w_bipush X1 (pc' := 7) (64 : Int32) d1_5 rfl rfl ?_
  refine w_newarray X1 (pc' := 9) 64 64 d1_7 (hw _ (List.mem_of_getElem? (i := 9) rfl)) (by decide) (by decide) (by decide) (by decide) (by decide) rfl fun T2 h2 b2 g2 gn2 X2 E2 A2 => ?_
  have ne_a_b2 : a ≠ b2 := ne_new g2 F_x.lt
  have F_x_3 := Fld.ext E2 F_x
  have F_y_3 := Fld.ext E2 F_y
  have F_z_3 := Fld.ext E2 F_z
  have F_counts_3 := Fld.ext E2 F_counts
  have F_slots_3 := Fld.ext E2 F_slots
  have F_size_3 := Fld.ext E2 F_size
  have F_decimals_3 := Fld.ext E2 F_decimals
  have E_a_3 := Exa.ext E2 E_a
  replace A2 : Ary Z h2 b2 .int 64 (fun _ => (.int (0 : Int32))) := A2
  refine w_putfield X2 (pc' := 12) d1_9 (host := "") (Or.inl (hw _ (List.mem_of_getElem? (i := 10) rfl))) Via.refl F_x_3 E_a_3 (Or.inl (hw _ (List.mem_of_getElem? (i := 11) rfl))) (hw _ (List.mem_of_getElem? (i := 1) rfl)) (ty := (.array .int)) (by decide) rfl rfl g_a rfl fun T4 h4 X4 W4 F4 => ?_
  have F_y_5 := Fld.other W4 F_y_3 (Or.inr (slot_ne (C := "com/example/gallweave/gallweave/triplets/HashedTriplets") (Or.inl (hw _ (List.mem_of_getElem? (i := 13) rfl))) (Or.inl (hw _ (List.mem_of_getElem? (i := 11) rfl))) (by decide) (t := (.array .int)) (t' := (.array .int)) (by decide) (by decide)))
  have F_z_5 := Fld.other W4 F_z_3 (Or.inr (slot_ne (C := "com/example/gallweave/gallweave/triplets/HashedTriplets") (Or.inl (hw _ (List.mem_of_getElem? (i := 15) rfl))) (Or.inl (hw _ (List.mem_of_getElem? (i := 11) rfl))) (by decide) (t := (.array .int)) (t' := (.array .int)) (by decide) (by decide)))
  have F_counts_5 := Fld.other W4 F_counts_3 (Or.inr (slot_ne (C := "com/example/gallweave/gallweave/triplets/HashedTriplets") (Or.inl (hw _ (List.mem_of_getElem? (i := 18) rfl))) (Or.inl (hw _ (List.mem_of_getElem? (i := 11) rfl))) (by decide) (t := (.array .long)) (t' := (.array .int)) (by decide) (by decide)))
  have F_slots_5 := Fld.other W4 F_slots_3 (Or.inr (slot_ne (C := "com/example/gallweave/gallweave/triplets/HashedTriplets") (Or.inl (hw _ (List.mem_of_getElem? (i := 20) rfl))) (Or.inl (hw _ (List.mem_of_getElem? (i := 11) rfl))) (by decide) (t := (.array .int)) (t' := (.array .int)) (by decide) (by decide)))
  have F_size_5 := Fld.other W4 F_size_3 (Or.inr (slot_ne (C := "com/example/gallweave/gallweave/triplets/HashedTriplets") (Or.inl (hw _ (List.mem_of_getElem? (i := 41) rfl))) (Or.inl (hw _ (List.mem_of_getElem? (i := 11) rfl))) (by decide) (t := .int) (t' := (.array .int)) (by decide) (by decide)))
  have F_decimals_5 := Fld.other W4 F_decimals_3 (Or.inr (slot_ne (C := "com/example/gallweave/gallweave/triplets/HashedTriplets") (Or.inl (hw _ (List.mem_of_getElem? (i := 53) rfl))) (Or.inl (hw _ (List.mem_of_getElem? (i := 11) rfl))) (by decide) (t := (.array (.object "java/math/BigDecimal"))) (t' := (.array .int)) (by decide) (by decide)))
  have E_a_5 := Exa.wr W4 E_a_3
  have A2_5 := A2.other W4 (Ne.symm ne_a_b2)
  refine w_aloadN X4 (pc' := 13) d1_12 rfl rfl rfl ?_
  refine w_bipush X4 (pc' := 15) (64 : Int32) d1_13 rfl rfl ?_
  refine w_newarray X4 (pc' := 17) 64 64 d1_15 (hw _ (List.mem_of_getElem? (i := 9) rfl)) (by decide) (by decide) (by decide) (by decide) (by decide) rfl fun T6 h6 b6 g6 gn6 X6 E6 A6 => ?_
  have ne_a_b6 : a ≠ b6 := ne_new g6 F_y_5.lt
  have ne_b2_b6 : b2 ≠ b6 := ne_new g6 A2_5.lt
  have F_y_7 := Fld.ext E6 F_y_5
  have F_z_7 := Fld.ext E6 F_z_5
  have F_counts_7 := Fld.ext E6 F_counts_5
  have F_slots_7 := Fld.ext E6 F_slots_5
  have F_size_7 := Fld.ext E6 F_size_5
  have F_decimals_7 := Fld.ext E6 F_decimals_5
  have F4_7 := Fld.ext E6 F4
  have E_a_7 := Exa.ext E6 E_a_5
  have A2_7 := A2_5.ext E6
  replace A6 : Ary Z h6 b6 .int 64 (fun _ => (.int (0 : Int32))) := A6
  refine w_putfield X6 (pc' := 20) d1_17 (host := "") (Or.inl (hw _ (List.mem_of_getElem? (i := 12) rfl))) Via.refl F_y_7 E_a_7 (Or.inl (hw _ (List.mem_of_getElem? (i := 13) rfl))) (hw _ (List.mem_of_getElem? (i := 1) rfl)) (ty := (.array .int)) (by decide) rfl rfl g_a rfl fun T8 h8 X8 W8 F8 => ?_
  have F_z_9 := Fld.other W8 F_z_7 (Or.inr (slot_ne (C := "com/example/gallweave/gallweave/triplets/HashedTriplets") (Or.inl (hw _ (List.mem_of_getElem? (i := 15) rfl))) (Or.inl (hw _ (List.mem_of_getElem? (i := 13) rfl))) (by decide) (t := (.array .int)) (t' := (.array .int)) (by decide) (by decide)))
  have F_counts_9 := Fld.other W8 F_counts_7 (Or.inr (slot_ne (C := "com/example/gallweave/gallweave/triplets/HashedTriplets") (Or.inl (hw _ (List.mem_of_getElem? (i := 18) rfl))) (Or.inl (hw _ (List.mem_of_getElem? (i := 13) rfl))) (by decide) (t := (.array .long)) (t' := (.array .int)) (by decide) (by decide)))
  have F_slots_9 := Fld.other W8 F_slots_7 (Or.inr (slot_ne (C := "com/example/gallweave/gallweave/triplets/HashedTriplets") (Or.inl (hw _ (List.mem_of_getElem? (i := 20) rfl))) (Or.inl (hw _ (List.mem_of_getElem? (i := 13) rfl))) (by decide) (t := (.array .int)) (t' := (.array .int)) (by decide) (by decide)))
  have F_size_9 := Fld.other W8 F_size_7 (Or.inr (slot_ne (C := "com/example/gallweave/gallweave/triplets/HashedTriplets") (Or.inl (hw _ (List.mem_of_getElem? (i := 41) rfl))) (Or.inl (hw _ (List.mem_of_getElem? (i := 13) rfl))) (by decide) (t := .int) (t' := (.array .int)) (by decide) (by decide)))
  have F_decimals_9 := Fld.other W8 F_decimals_7 (Or.inr (slot_ne (C := "com/example/gallweave/gallweave/triplets/HashedTriplets") (Or.inl (hw _ (List.mem_of_getElem? (i := 53) rfl))) (Or.inl (hw _ (List.mem_of_getElem? (i := 13) rfl))) (by decide) (t := (.array (.object "java/math/BigDecimal"))) (t' := (.array .int)) (by decide) (by decide)))
  have F4_9 := Fld.other W8 F4_7 (Or.inr (slot_ne (C := "com/example/gallweave/gallweave/triplets/HashedTriplets") (Or.inl (hw _ (List.mem_of_getElem? (i := 11) rfl))) (Or.inl (hw _ (List.mem_of_getElem? (i := 13) rfl))) (by decide) (t := (.array .int)) (t' := (.array .int)) (by decide) (by decide)))
  have E_a_9 := Exa.wr W8 E_a_7
  have A2_9 := A2_7.other W8 (Ne.symm ne_a_b2)
  have A6_9 := A6.other W8 (Ne.symm ne_a_b6)
  refine w_aloadN X8 (pc' := 21) d1_20 rfl rfl rfl ?_
  refine w_bipush X8 (pc' := 23) (64 : Int32) d1_21 rfl rfl ?_
  refine w_newarray X8 (pc' := 25) 64 64 d1_23 (hw _ (List.mem_of_getElem? (i := 9) rfl)) (by decide) (by decide) (by decide) (by decide) (by decide) rfl fun T10 h10 b10 g10 gn10 X10 E10 A10 => ?_
  have ne_a_b10 : a ≠ b10 := ne_new g10 F_z_9.lt
  have ne_b2_b10 : b2 ≠ b10 := ne_new g10 A2_9.lt
  have ne_b6_b10 : b6 ≠ b10 := ne_new g10 A6_9.lt
  have F_z_11 := Fld.ext E10 F_z_9
  have F_counts_11 := Fld.ext E10 F_counts_9
  have F_slots_11 := Fld.ext E10 F_slots_9
  have F_size_11 := Fld.ext E10 F_size_9
  have F_decimals_11 := Fld.ext E10 F_decimals_9
  have F4_11 := Fld.ext E10 F4_9
  have F8_11 := Fld.ext E10 F8
  have E_a_11 := Exa.ext E10 E_a_9
  have A2_11 := A2_9.ext E10
  have A6_11 := A6_9.ext E10
  replace A10 : Ary Z h10 b10 .int 64 (fun _ => (.int (0 : Int32))) := A10
  refine w_putfield X10 (pc' := 28) d1_25 (host := "") (Or.inl (hw _ (List.mem_of_getElem? (i := 14) rfl))) Via.refl F_z_11 E_a_11 (Or.inl (hw _ (List.mem_of_getElem? (i := 15) rfl))) (hw _ (List.mem_of_getElem? (i := 1) rfl)) (ty := (.array .int)) (by decide) rfl rfl g_a rfl fun T12 h12 X12 W12 F12 => ?_
  have F_counts_13 := Fld.other W12 F_counts_11 (Or.inr (slot_ne (C := "com/example/gallweave/gallweave/triplets/HashedTriplets") (Or.inl (hw _ (List.mem_of_getElem? (i := 18) rfl))) (Or.inl (hw _ (List.mem_of_getElem? (i := 15) rfl))) (by decide) (t := (.array .long)) (t' := (.array .int)) (by decide) (by decide)))
  have F_slots_13 := Fld.other W12 F_slots_11 (Or.inr (slot_ne (C := "com/example/gallweave/gallweave/triplets/HashedTriplets") (Or.inl (hw _ (List.mem_of_getElem? (i := 20) rfl))) (Or.inl (hw _ (List.mem_of_getElem? (i := 15) rfl))) (by decide) (t := (.array .int)) (t' := (.array .int)) (by decide) (by decide)))
  have F_size_13 := Fld.other W12 F_size_11 (Or.inr (slot_ne (C := "com/example/gallweave/gallweave/triplets/HashedTriplets") (Or.inl (hw _ (List.mem_of_getElem? (i := 41) rfl))) (Or.inl (hw _ (List.mem_of_getElem? (i := 15) rfl))) (by decide) (t := .int) (t' := (.array .int)) (by decide) (by decide)))
  have F_decimals_13 := Fld.other W12 F_decimals_11 (Or.inr (slot_ne (C := "com/example/gallweave/gallweave/triplets/HashedTriplets") (Or.inl (hw _ (List.mem_of_getElem? (i := 53) rfl))) (Or.inl (hw _ (List.mem_of_getElem? (i := 15) rfl))) (by decide) (t := (.array (.object "java/math/BigDecimal"))) (t' := (.array .int)) (by decide) (by decide)))
  have F4_13 := Fld.other W12 F4_11 (Or.inr (slot_ne (C := "com/example/gallweave/gallweave/triplets/HashedTriplets") (Or.inl (hw _ (List.mem_of_getElem? (i := 11) rfl))) (Or.inl (hw _ (List.mem_of_getElem? (i := 15) rfl))) (by decide) (t := (.array .int)) (t' := (.array .int)) (by decide) (by decide)))
  have F8_13 := Fld.other W12 F8_11 (Or.inr (slot_ne (C := "com/example/gallweave/gallweave/triplets/HashedTriplets") (Or.inl (hw _ (List.mem_of_getElem? (i := 13) rfl))) (Or.inl (hw _ (List.mem_of_getElem? (i := 15) rfl))) (by decide) (t := (.array .int)) (t' := (.array .int)) (by decide) (by decide)))
  have E_a_13 := Exa.wr W12 E_a_11
  have A2_13 := A2_11.other W12 (Ne.symm ne_a_b2)
  have A6_13 := A6_11.other W12 (Ne.symm ne_a_b6)
  have A10_13 := A10.other W12 (Ne.symm ne_a_b10)
  refine w_aloadN X12 (pc' := 29) d1_28 rfl rfl rfl ?_
  refine w_bipush X12 (pc' := 31) (64 : Int32) d1_29 rfl rfl ?_
  refine w_newarray X12 (pc' := 33) 64 64 d1_31 (hw _ (List.mem_of_getElem? (i := 16) rfl)) (by decide) (by decide) (by decide) (by decide) (by decide) rfl fun T14 h14 b14 g14 gn14 X14 E14 A14 => ?_
  have ne_a_b14 : a ≠ b14 := ne_new g14 F_counts_13.lt
  have ne_b2_b14 : b2 ≠ b14 := ne_new g14 A2_13.lt
  have ne_b6_b14 : b6 ≠ b14 := ne_new g14 A6_13.lt
  have ne_b10_b14 : b10 ≠ b14 := ne_new g14 A10_13.lt
  have F_counts_15 := Fld.ext E14 F_counts_13
  have F_slots_15 := Fld.ext E14 F_slots_13
  have F_size_15 := Fld.ext E14 F_size_13
  have F_decimals_15 := Fld.ext E14 F_decimals_13
  have F4_15 := Fld.ext E14 F4_13
  have F8_15 := Fld.ext E14 F8_13
  have F12_15 := Fld.ext E14 F12
  have E_a_15 := Exa.ext E14 E_a_13
  have A2_15 := A2_13.ext E14
  have A6_15 := A6_13.ext E14
  have A10_15 := A10_13.ext E14
  replace A14 : Ary Z h14 b14 .long 64 (fun _ => (.long (0 : Int64))) := A14
  refine w_putfield X14 (pc' := 36) d1_33 (host := "") (Or.inl (hw _ (List.mem_of_getElem? (i := 17) rfl))) Via.refl F_counts_15 E_a_15 (Or.inl (hw _ (List.mem_of_getElem? (i := 18) rfl))) (hw _ (List.mem_of_getElem? (i := 1) rfl)) (ty := (.array .long)) (by decide) rfl rfl g_a rfl fun T16 h16 X16 W16 F16 => ?_
  have F_slots_17 := Fld.other W16 F_slots_15 (Or.inr (slot_ne (C := "com/example/gallweave/gallweave/triplets/HashedTriplets") (Or.inl (hw _ (List.mem_of_getElem? (i := 20) rfl))) (Or.inl (hw _ (List.mem_of_getElem? (i := 18) rfl))) (by decide) (t := (.array .int)) (t' := (.array .long)) (by decide) (by decide)))
  have F_size_17 := Fld.other W16 F_size_15 (Or.inr (slot_ne (C := "com/example/gallweave/gallweave/triplets/HashedTriplets") (Or.inl (hw _ (List.mem_of_getElem? (i := 41) rfl))) (Or.inl (hw _ (List.mem_of_getElem? (i := 18) rfl))) (by decide) (t := .int) (t' := (.array .long)) (by decide) (by decide)))
  have F_decimals_17 := Fld.other W16 F_decimals_15 (Or.inr (slot_ne (C := "com/example/gallweave/gallweave/triplets/HashedTriplets") (Or.inl (hw _ (List.mem_of_getElem? (i := 53) rfl))) (Or.inl (hw _ (List.mem_of_getElem? (i := 18) rfl))) (by decide) (t := (.array (.object "java/math/BigDecimal"))) (t' := (.array .long)) (by decide) (by decide)))
  have F4_17 := Fld.other W16 F4_15 (Or.inr (slot_ne (C := "com/example/gallweave/gallweave/triplets/HashedTriplets") (Or.inl (hw _ (List.mem_of_getElem? (i := 11) rfl))) (Or.inl (hw _ (List.mem_of_getElem? (i := 18) rfl))) (by decide) (t := (.array .int)) (t' := (.array .long)) (by decide) (by decide)))
  have F8_17 := Fld.other W16 F8_15 (Or.inr (slot_ne (C := "com/example/gallweave/gallweave/triplets/HashedTriplets") (Or.inl (hw _ (List.mem_of_getElem? (i := 13) rfl))) (Or.inl (hw _ (List.mem_of_getElem? (i := 18) rfl))) (by decide) (t := (.array .int)) (t' := (.array .long)) (by decide) (by decide)))
  have F12_17 := Fld.other W16 F12_15 (Or.inr (slot_ne (C := "com/example/gallweave/gallweave/triplets/HashedTriplets") (Or.inl (hw _ (List.mem_of_getElem? (i := 15) rfl))) (Or.inl (hw _ (List.mem_of_getElem? (i := 18) rfl))) (by decide) (t := (.array .int)) (t' := (.array .long)) (by decide) (by decide)))
  have E_a_17 := Exa.wr W16 E_a_15
  have A2_17 := A2_15.other W16 (Ne.symm ne_a_b2)
  have A6_17 := A6_15.other W16 (Ne.symm ne_a_b6)
  have A10_17 := A10_15.other W16 (Ne.symm ne_a_b10)
  have A14_17 := A14.other W16 (Ne.symm ne_a_b14)
  refine w_aloadN X16 (pc' := 37) d1_36 rfl rfl rfl ?_
  refine w_sipush X16 (pc' := 40) (128 : Int32) d1_37 rfl rfl ?_
  refine w_newarray X16 (pc' := 42) 128 128 d1_40 (hw _ (List.mem_of_getElem? (i := 9) rfl)) (by decide) (by decide) (by decide) (by decide) (by decide) rfl fun T18 h18 b18 g18 gn18 X18 E18 A18 => ?_
  have ne_a_b18 : a ≠ b18 := ne_new g18 F_slots_17.lt
  have ne_b2_b18 : b2 ≠ b18 := ne_new g18 A2_17.lt
  have ne_b6_b18 : b6 ≠ b18 := ne_new g18 A6_17.lt
  have ne_b10_b18 : b10 ≠ b18 := ne_new g18 A10_17.lt
  have ne_b14_b18 : b14 ≠ b18 := ne_new g18 A14_17.lt
  have F_slots_19 := Fld.ext E18 F_slots_17
  have F_size_19 := Fld.ext E18 F_size_17
  have F_decimals_19 := Fld.ext E18 F_decimals_17
  have F4_19 := Fld.ext E18 F4_17
  have F8_19 := Fld.ext E18 F8_17
  have F12_19 := Fld.ext E18 F12_17
  have F16_19 := Fld.ext E18 F16
  have E_a_19 := Exa.ext E18 E_a_17
  have A2_19 := A2_17.ext E18
  have A6_19 := A6_17.ext E18
  have A10_19 := A10_17.ext E18
  have A14_19 := A14_17.ext E18
  replace A18 : Ary Z h18 b18 .int 128 (fun _ => (.int (0 : Int32))) := A18
  refine w_putfield X18 (pc' := 45) d1_42 (host := "") (Or.inl (hw _ (List.mem_of_getElem? (i := 19) rfl))) Via.refl F_slots_19 E_a_19 (Or.inl (hw _ (List.mem_of_getElem? (i := 20) rfl))) (hw _ (List.mem_of_getElem? (i := 1) rfl)) (ty := (.array .int)) (by decide) rfl rfl g_a rfl fun T20 h20 X20 W20 F20 => ?_
  have F_size_21 := Fld.other W20 F_size_19 (Or.inr (slot_ne (C := "com/example/gallweave/gallweave/triplets/HashedTriplets") (Or.inl (hw _ (List.mem_of_getElem? (i := 41) rfl))) (Or.inl (hw _ (List.mem_of_getElem? (i := 20) rfl))) (by decide) (t := .int) (t' := (.array .int)) (by decide) (by decide)))
  have F_decimals_21 := Fld.other W20 F_decimals_19 (Or.inr (slot_ne (C := "com/example/gallweave/gallweave/triplets/HashedTriplets") (Or.inl (hw _ (List.mem_of_getElem? (i := 53) rfl))) (Or.inl (hw _ (List.mem_of_getElem? (i := 20) rfl))) (by decide) (t := (.array (.object "java/math/BigDecimal"))) (t' := (.array .int)) (by decide) (by decide)))
  have F4_21 := Fld.other W20 F4_19 (Or.inr (slot_ne (C := "com/example/gallweave/gallweave/triplets/HashedTriplets") (Or.inl (hw _ (List.mem_of_getElem? (i := 11) rfl))) (Or.inl (hw _ (List.mem_of_getElem? (i := 20) rfl))) (by decide) (t := (.array .int)) (t' := (.array .int)) (by decide) (by decide)))
  have F8_21 := Fld.other W20 F8_19 (Or.inr (slot_ne (C := "com/example/gallweave/gallweave/triplets/HashedTriplets") (Or.inl (hw _ (List.mem_of_getElem? (i := 13) rfl))) (Or.inl (hw _ (List.mem_of_getElem? (i := 20) rfl))) (by decide) (t := (.array .int)) (t' := (.array .int)) (by decide) (by decide)))
  have F12_21 := Fld.other W20 F12_19 (Or.inr (slot_ne (C := "com/example/gallweave/gallweave/triplets/HashedTriplets") (Or.inl (hw _ (List.mem_of_getElem? (i := 15) rfl))) (Or.inl (hw _ (List.mem_of_getElem? (i := 20) rfl))) (by decide) (t := (.array .int)) (t' := (.array .int)) (by decide) (by decide)))
  have F16_21 := Fld.other W20 F16_19 (Or.inr (slot_ne (C := "com/example/gallweave/gallweave/triplets/HashedTriplets") (Or.inl (hw _ (List.mem_of_getElem? (i := 18) rfl))) (Or.inl (hw _ (List.mem_of_getElem? (i := 20) rfl))) (by decide) (t := (.array .long)) (t' := (.array .int)) (by decide) (by decide)))
  have E_a_21 := Exa.wr W20 E_a_19
  have A2_21 := A2_19.other W20 (Ne.symm ne_a_b2)
  have A6_21 := A6_19.other W20 (Ne.symm ne_a_b6)
  have A10_21 := A10_19.other W20 (Ne.symm ne_a_b10)
  have A14_21 := A14_19.other W20 (Ne.symm ne_a_b14)
  have A18_21 := A18.other W20 (Ne.symm ne_a_b18)
  exact w_return X20 d1_45 ⟨_, rfl, b2, b6, b10, b14, b18, 0, (fun _ => 0), (fun _ => 0), _, _, _, _, ⟨gn2, gn6, gn10, gn14, gn18, E_a_21.lt, A2_21.lt, A6_21.lt, A10_21.lt, A14_21.lt, A18_21.lt, ne_a_b2, ne_a_b6, ne_a_b10, ne_a_b14, ne_a_b18, ne_b2_b6, ne_b2_b10, ne_b2_b14, ne_b2_b18, ne_b6_b10, ne_b6_b14, ne_b6_b18, ne_b10_b14, ne_b10_b18, ne_b14_b18, E_a_21, F4_21, F8_21, F12_21, F16_21, F20, F_size_21, F_decimals_21, A2_21, A6_21, A10_21, A14_21, A18_21⟩, ⟨fun i hi => absurd hi (Nat.not_lt_zero i), fun i hi => absurd hi (Nat.not_lt_zero i), fun i hi => absurd hi (Nat.not_lt_zero i), fun i hi => absurd hi (Nat.not_lt_zero i), fun i hi => absurd hi (Nat.not_lt_zero i), fun _ _ _ => rfl, fun _ _ => rfl⟩, Nat.le_refl _, fun e he => ⟨fun q => Bool.noConfusion q, fun ⟨i, hi, _⟩ => absurd hi (Nat.not_lt_zero i)⟩, fun i hi => absurd hi (Nat.not_lt_zero i), fun _ _ _ => rfl⟩ (by decide) (by decide)
theorem d9_0 : decode prog_52_method_5_code 0 = .ok (.aload_n 0, 1) := by decide +kernel
theorem d9_1 : decode prog_52_method_5_code 1 = .ok (.iload_n 1, 1) := by decide +kernel
theorem d9_2 : decode prog_52_method_5_code 2 = .ok (.iload_n 2, 1) := by decide +kernel
theorem d9_3 : decode prog_52_method_5_code 3 = .ok (.iload_n 3, 1) := by decide +kernel
theorem d9_4 : decode prog_52_method_5_code 4 = .ok (.invokevirtual 34, 3) := by decide +kernel
theorem d9_7 : decode prog_52_method_5_code 7 = .ok (.istore 5, 2) := by decide +kernel
theorem d9_9 : decode prog_52_method_5_code 9 = .ok (.aload_n 0, 1) := by decide +kernel
theorem d9_10 : decode prog_52_method_5_code 10 = .ok (.getfield 37, 3) := by decide +kernel
theorem d9_13 : decode prog_52_method_5_code 13 = .ok (.ifnonnull 15, 3) := by decide +kernel
theorem d9_16 : decode prog_52_method_5_code 16 = .ok (.aload_n 0, 1) := by decide +kernel
theorem d9_17 : decode prog_52_method_5_code 17 = .ok (.aload_n 0, 1) := by decide +kernel
theorem d9_18 : decode prog_52_method_5_code 18 = .ok (.getfield 7, 3) := by decide +kernel
theorem d9_21 : decode prog_52_method_5_code 21 = .ok (.arraylength, 1) := by decide +kernel
theorem d9_22 : decode prog_52_method_5_code 22 = .ok (.anewarray 41, 3) := by decide +kernel
theorem d9_25 : decode prog_52_method_5_code 25 = .ok (.putfield 37, 3) := by decide +kernel
theorem d9_28 : decode prog_52_method_5_code 28 = .ok (.aload_n 0, 1) := by decide +kernel
theorem d9_29 : decode prog_52_method_5_code 29 = .ok (.getfield 37, 3) := by decide +kernel
theorem d9_32 : decode prog_52_method_5_code 32 = .ok (.iload 5, 2) := by decide +kernel
theorem d9_34 : decode prog_52_method_5_code 34 = .ok (.aload_n 0, 1) := by decide +kernel
theorem d9_35 : decode prog_52_method_5_code 35 = .ok (.getfield 37, 3) := by decide +kernel
theorem d9_38 : decode prog_52_method_5_code 38 = .ok (.iload 5, 2) := by decide +kernel
theorem d9_40 : decode prog_52_method_5_code 40 = .ok (.aaload, 1) := by decide +kernel
theorem d9_41 : decode prog_52_method_5_code 41 = .ok (.ifnonnull 8, 3) := by decide +kernel
theorem d9_44 : decode prog_52_method_5_code 44 = .ok (.aload 4, 2) := by decide +kernel
theorem d9_46 : decode prog_52_method_5_code 46 = .ok (.goto 15, 3) := by decide +kernel
theorem d9_49 : decode prog_52_method_5_code 49 = .ok (.aload_n 0, 1) := by decide +kernel
theorem d9_50 : decode prog_52_method_5_code 50 = .ok (.getfield 37, 3) := by decide +kernel
theorem d9_53 : decode prog_52_method_5_code 53 = .ok (.iload 5, 2) := by decide +kernel
theorem d9_55 : decode prog_52_method_5_code 55 = .ok (.aaload, 1) := by decide +kernel
theorem d9_56 : decode prog_52_method_5_code 56 = .ok (.aload 4, 2) := by decide +kernel
theorem d9_58 : decode prog_52_method_5_code 58 = .ok (.invokevirtual 43, 3) := by decide +kernel
theorem d9_61 : decode prog_52_method_5_code 61 = .ok (.aastore, 1) := by decide +kernel
theorem d9_62 : decode prog_52_method_5_code 62 = .ok (.return_, 1) := by decide +kernel
theorem pn_9 : plainFor (⟨"com/example/gallweave/gallweave/triplets/HashedTriplets", "add", "(IIILjava/math/BigDecimal;)V"⟩ : MethodName) = true := plainFor_of_name (by first | (simp [plainName, overriddenIn]; done) | decide +kernel)
theorem pd_9 : parseMethodDescriptor "(IIILjava/math/BigDecimal;)V" = some ⟨[.int, .int, .int, (.object "java/math/BigDecimal")], none⟩ := by decide +kernel
set_option maxRecDepth 65536 in
set_option maxHeartbeats 40000000 in
theorem rm9 {l : Launch} {Z : State} {a0 : Array Value} (hw : ∀ d ∈ tables_1, d.before a0 Z = true) {n0 : Nat} {h0 : Heap} (Z0 : n0 ≤ h0.size) (a : Addr) (e' : Nat) (d5 : Addr) {M N : Nat} {pr : Nat → Bool} {sm : Nat → Int64} (OT : HT Z n0 h0 a M N pr sm .null) (hN : N < 50) (g_a : n0 ≤ a) (he : e' < 3) (E_d : Exa Z h0 d5 "java/math/BigDecimal") :
    Con l Z n0 (⟨"com/example/gallweave/gallweave/triplets/HashedTriplets", "add", "(IIILjava/math/BigDecimal;)V"⟩ : MethodName) prog_52_method_5_code 6 none ({ frames := 3, cells := 1, slots := 64, locals := 50 } : Room) #[(.ref a), (.int (Int32.ofNat e')), (.int (Int32.ofNat (e' + 3))), (.int (Int32.ofNat (e' + 6))), (.ref d5)] h0 (Non (fun h => ∃ b : Addr, Exa Z h a "com/example/gallweave/gallweave/triplets/HashedTriplets" ∧ Fld Z h a "com/example/gallweave/gallweave/triplets/HashedTriplets" "decimals" "[Ljava/math/BigDecimal;" (.ref b))) := by
  refine con_intro pn_9 Z0 (fr := fun m => mkF m 0 #[.val (.ref a), .val (.int (Int32.ofNat e')), .val (.int (Int32.ofNat (e' + 3))), .val (.int (Int32.ofNat (e' + 6))), .val (.ref d5), .unset] []) (fun m => by first | (simp [entryFrame, mkF, argsToLocals, Value.category]; done) | rfl) ?_
  intro p e s m below s₁ hs0 X0
  obtain ⟨ax, ay, az, ac, at', n, K, c, fx, fy, fz, fs, O, P, hnN, hpr, hsm, hsm0⟩ := OT
  have EO := O.exa
  by_cases hp : ∃ i, i < n ∧ K i = e'
  · skip
    obtain ⟨i, hi, hKi⟩ := hp
    obtain ⟨p1, p2, p3, p4, p5, p6, p7⟩ := id P
    refine w_aloadN X0 (pc' := 1) d9_0 rfl rfl rfl ?_
    refine w_iloadN X0 (pc' := 2) d9_1 rfl rfl ?_
    refine w_iloadN X0 (pc' := 3) d9_2 rfl rfl ?_
    refine w_iloadN X0 (pc' := 4) d9_3 rfl rfl ?_
    refine w_privateV X0 (pc' := 7) d9_4 (rm4p hw (h0 := h0) (sd_size X0) a e' O g_a he (by omega) (hKi ▸ p5 i hi) (hKi ▸ p2 i hi) (hKi ▸ p3 i hi) (hKi ▸ p4 i hi)) (hw _ (List.mem_of_getElem? (i := 27) rfl)) (hw _ (List.mem_of_getElem? (i := 28) rfl)) (hw _ (List.mem_of_getElem? (i := 29) rfl)) (hw _ (List.mem_of_getElem? (i := 1) rfl)) (hw _ (List.mem_of_getElem? (i := 2) rfl)) (hw _ (List.mem_of_getElem? (i := 30) rfl)) EO (by decide) [(.int (Int32.ofNat e')), (.int (Int32.ofNat (e' + 3))), (.int (Int32.ofNat (e' + 6)))] [] pd_4 rfl rfl rfl rfl 0 (Nat.le_refl _) (by decide) (by decide) (by decide) (by decide) rfl fun T1 h1 v1 X1 q1 => ?_
    obtain ⟨rfl, rfl⟩ := q1
    obtain ⟨gn_ax, gn_ay, gn_az, gn_ac, gn_at, lt_a, lt_ax, lt_ay, lt_az, lt_ac, lt_at, ne_a_ax, ne_a_ay, ne_a_az, ne_a_ac, ne_a_at, ne_ax_ay, ne_ax_az, ne_ax_ac, ne_ax_at, ne_ay_az, ne_ay_ac, ne_ay_at, ne_az_ac, ne_az_at, ne_ac_at, E_a, F_x, F_y, F_z, F_counts, F_slots, F_size, F_dec, A_ax, A_ay, A_az, A_ac, A_at⟩ := O
    refine w_istore X1 (pc' := 9) (l' := #[.val (.ref a), .val (.int (Int32.ofNat e')), .val (.int (Int32.ofNat (e' + 3))), .val (.int (Int32.ofNat (e' + 6))), .val (.ref d5), .val (.int (Int32.ofNat i))]) d9_7 rfl rfl ?_
    refine w_aloadN X1 (pc' := 10) d9_9 rfl rfl rfl ?_
    refine w_getfield X1 (pc' := 13) d9_10 (host := "") (Or.inl (hw _ (List.mem_of_getElem? (i := 52) rfl))) Via.refl F_dec rfl fun T2 X2 => ?_
    refine w_ifnonnullN X2 (pc' := 16) d9_13 rfl ?_
    refine w_aloadN X2 (pc' := 17) d9_16 rfl rfl rfl ?_
    refine w_aloadN X2 (pc' := 18) d9_17 rfl rfl rfl ?_
    refine w_getfield X2 (pc' := 21) d9_18 (host := "") (Or.inl (hw _ (List.mem_of_getElem? (i := 10) rfl))) Via.refl F_x rfl fun T3 X3 => ?_
    refine w_arraylength X3 (pc' := 22) (64 : Int32) d9_21 A_ax (by decide) rfl ?_
    refine w_anewarray X3 (pc' := 25) 64 64 d9_22 (hw _ (List.mem_of_getElem? (i := 62) rfl)) (hw _ (List.mem_of_getElem? (i := 63) rfl)) (by decide) (by decide) (by decide) (by decide) (by decide) rfl fun T4 h4 b4 g4 gn4 X4 E4 O4 A4 => ?_
    have ne_a_b4 : a ≠ b4 := ne_new g4 F_x.lt
    have ne_d5_b4 : d5 ≠ b4 := ne_new g4 E_d.lt
    have ne_ax_b4 : ax ≠ b4 := ne_new g4 A_ax.lt
    have ne_ay_b4 : ay ≠ b4 := ne_new g4 A_ay.lt
    have ne_az_b4 : az ≠ b4 := ne_new g4 A_az.lt
    have ne_ac_b4 : ac ≠ b4 := ne_new g4 A_ac.lt
    have ne_at'_b4 : at' ≠ b4 := ne_new g4 A_at.lt
    have F_x_5 := Fld.ext E4 F_x
    have F_y_5 := Fld.ext E4 F_y
    have F_z_5 := Fld.ext E4 F_z
    have F_counts_5 := Fld.ext E4 F_counts
    have F_slots_5 := Fld.ext E4 F_slots
    have F_size_5 := Fld.ext E4 F_size
    have F_dec_5 := Fld.ext E4 F_dec
    have E_a_5 := Exa.ext E4 E_a
    have E_d_5 := Exa.ext E4 E_d
    have A_ax_5 := A_ax.ext E4
    have A_ay_5 := A_ay.ext E4
    have A_az_5 := A_az.ext E4
    have A_ac_5 := A_ac.ext E4
    have A_at_5 := A_at.ext E4
    have Oa4 : Oar Z h4 b4 "java/math/BigDecimal" := O4
    replace A4 : Ary Z h4 b4 (.object "java/math/BigDecimal") 64 (fun _ => .null) := A4
    refine w_putfield X4 (pc' := 28) d9_25 (host := "") (Or.inl (hw _ (List.mem_of_getElem? (i := 52) rfl))) Via.refl F_dec_5 E_a_5 (Or.inl (hw _ (List.mem_of_getElem? (i := 53) rfl))) (hw _ (List.mem_of_getElem? (i := 1) rfl)) (ty := (.array (.object "java/math/BigDecimal"))) (by decide) rfl rfl g_a rfl fun T6 h6 X6 W6 F6 => ?_
    have Oa4_7 := Oa4.wr W6
    have F_x_7 := Fld.other W6 F_x_5 (Or.inr (slot_ne (C := "com/example/gallweave/gallweave/triplets/HashedTriplets") (Or.inl (hw _ (List.mem_of_getElem? (i := 11) rfl))) (Or.inl (hw _ (List.mem_of_getElem? (i := 53) rfl))) (by decide) (t := (.array .int)) (t' := (.array (.object "java/math/BigDecimal"))) (by decide) (by decide)))
    have F_y_7 := Fld.other W6 F_y_5 (Or.inr (slot_ne (C := "com/example/gallweave/gallweave/triplets/HashedTriplets") (Or.inl (hw _ (List.mem_of_getElem? (i := 13) rfl))) (Or.inl (hw _ (List.mem_of_getElem? (i := 53) rfl))) (by decide) (t := (.array .int)) (t' := (.array (.object "java/math/BigDecimal"))) (by decide) (by decide)))
    have F_z_7 := Fld.other W6 F_z_5 (Or.inr (slot_ne (C := "com/example/gallweave/gallweave/triplets/HashedTriplets") (Or.inl (hw _ (List.mem_of_getElem? (i := 15) rfl))) (Or.inl (hw _ (List.mem_of_getElem? (i := 53) rfl))) (by decide) (t := (.array .int)) (t' := (.array (.object "java/math/BigDecimal"))) (by decide) (by decide)))
    have F_counts_7 := Fld.other W6 F_counts_5 (Or.inr (slot_ne (C := "com/example/gallweave/gallweave/triplets/HashedTriplets") (Or.inl (hw _ (List.mem_of_getElem? (i := 18) rfl))) (Or.inl (hw _ (List.mem_of_getElem? (i := 53) rfl))) (by decide) (t := (.array .long)) (t' := (.array (.object "java/math/BigDecimal"))) (by decide) (by decide)))
    have F_slots_7 := Fld.other W6 F_slots_5 (Or.inr (slot_ne (C := "com/example/gallweave/gallweave/triplets/HashedTriplets") (Or.inl (hw _ (List.mem_of_getElem? (i := 20) rfl))) (Or.inl (hw _ (List.mem_of_getElem? (i := 53) rfl))) (by decide) (t := (.array .int)) (t' := (.array (.object "java/math/BigDecimal"))) (by decide) (by decide)))
    have F_size_7 := Fld.other W6 F_size_5 (Or.inr (slot_ne (C := "com/example/gallweave/gallweave/triplets/HashedTriplets") (Or.inl (hw _ (List.mem_of_getElem? (i := 41) rfl))) (Or.inl (hw _ (List.mem_of_getElem? (i := 53) rfl))) (by decide) (t := .int) (t' := (.array (.object "java/math/BigDecimal"))) (by decide) (by decide)))
    have E_a_7 := Exa.wr W6 E_a_5
    have E_d_7 := Exa.wr W6 E_d_5
    have A_ax_7 := A_ax_5.other W6 (Ne.symm ne_a_ax)
    have A_ay_7 := A_ay_5.other W6 (Ne.symm ne_a_ay)
    have A_az_7 := A_az_5.other W6 (Ne.symm ne_a_az)
    have A_ac_7 := A_ac_5.other W6 (Ne.symm ne_a_ac)
    have A_at_7 := A_at_5.other W6 (Ne.symm ne_a_at)
    have A4_7 := A4.other W6 (Ne.symm ne_a_b4)
    refine w_aloadN X6 (pc' := 29) d9_28 rfl rfl rfl ?_
    refine w_getfield X6 (pc' := 32) d9_29 (host := "") (Or.inl (hw _ (List.mem_of_getElem? (i := 52) rfl))) Via.refl F6 rfl fun T8 X8 => ?_
    refine w_iload X8 (pc' := 34) d9_32 rfl rfl ?_
    refine w_aloadN X8 (pc' := 35) d9_34 rfl rfl rfl ?_
    refine w_getfield X8 (pc' := 38) d9_35 (host := "") (Or.inl (hw _ (List.mem_of_getElem? (i := 52) rfl))) Via.refl F6 rfl fun T9 X9 => ?_
    refine w_iload X9 (pc' := 40) d9_38 rfl rfl ?_
    refine w_aaload X9 (pc' := 41) i (v := .null) d9_40 A4_7 rfl (own_nat i (by omega)) (by omega) rfl rfl ?_
    refine w_ifnonnullN X9 (pc' := 44) d9_41 rfl ?_
    refine w_aload X9 (pc' := 46) d9_44 rfl rfl rfl ?_
    refine w_goto X9 (pc' := 61) d9_46 (by decide) rfl ?_
    refine w_aastore X9 (pc' := 62) i d9_61 A4_7 rfl (Oa4_7.sto (Ins.self E_d_7)) (own_nat i (by omega)) (by omega) gn4 rfl fun T10 h10 X10 W10 A10 => ?_
    have Oa4_11 := Oa4_7.wr W10
    have F_x_11 := Fld.other W10 F_x_7 (Or.inl ne_a_b4)
    have F_y_11 := Fld.other W10 F_y_7 (Or.inl ne_a_b4)
    have F_z_11 := Fld.other W10 F_z_7 (Or.inl ne_a_b4)
    have F_counts_11 := Fld.other W10 F_counts_7 (Or.inl ne_a_b4)
    have F_slots_11 := Fld.other W10 F_slots_7 (Or.inl ne_a_b4)
    have F_size_11 := Fld.other W10 F_size_7 (Or.inl ne_a_b4)
    have F6_11 := Fld.other W10 F6 (Or.inl ne_a_b4)
    have E_a_11 := Exa.wr W10 E_a_7
    have E_d_11 := Exa.wr W10 E_d_7
    have A_ax_11 := A_ax_7.other W10 ne_ax_b4
    have A_ay_11 := A_ay_7.other W10 ne_ay_b4
    have A_az_11 := A_az_7.other W10 ne_az_b4
    have A_ac_11 := A_ac_7.other W10 ne_ac_b4
    have A_at_11 := A_at_7.other W10 ne_at'_b4
    exact w_return X10 d9_62 ⟨_, E_a_11, F6_11⟩ (by decide) (by decide)
  · skip
    have hab : ∀ i, i < n → K i ≠ e' := fun i hi z => hp ⟨i, hi, z⟩
    obtain ⟨p1, p2, p3, p4, p5, p6, p7⟩ := id P
    refine w_aloadN X0 (pc' := 1) d9_0 rfl rfl rfl ?_
    refine w_iloadN X0 (pc' := 2) d9_1 rfl rfl ?_
    refine w_iloadN X0 (pc' := 3) d9_2 rfl rfl ?_
    refine w_iloadN X0 (pc' := 4) d9_3 rfl rfl ?_
    refine w_privateV X0 (pc' := 7) d9_4 (rm4a hw (h0 := h0) (sd_size X0) a e' O g_a he (by omega) (p6 e' he hab)) (hw _ (List.mem_of_getElem? (i := 27) rfl)) (hw _ (List.mem_of_getElem? (i := 28) rfl)) (hw _ (List.mem_of_getElem? (i := 29) rfl)) (hw _ (List.mem_of_getElem? (i := 1) rfl)) (hw _ (List.mem_of_getElem? (i := 2) rfl)) (hw _ (List.mem_of_getElem? (i := 30) rfl)) EO (by decide) [(.int (Int32.ofNat e')), (.int (Int32.ofNat (e' + 3))), (.int (Int32.ofNat (e' + 6)))] [] pd_4 rfl rfl rfl rfl 0 (Nat.le_refl _) (by decide) (by decide) (by decide) (by decide) rfl fun T12 h12 v12 X12 q12 => ?_
    obtain ⟨rfl, ⟨ws, Kw, hws⟩, O12⟩ := q12
    have E_d' := E_d.keep Kw
    obtain ⟨gn_ax, gn_ay, gn_az, gn_ac, gn_at, lt_a, lt_ax, lt_ay, lt_az, lt_ac, lt_at, ne_a_ax, ne_a_ay, ne_a_az, ne_a_ac, ne_a_at, ne_ax_ay, ne_ax_az, ne_ax_ac, ne_ax_at, ne_ay_az, ne_ay_ac, ne_ay_at, ne_az_ac, ne_az_at, ne_ac_at, E_a, F_x, F_y, F_z, F_counts, F_slots, F_size, F_dec, A_ax, A_ay, A_az, A_ac, A_at⟩ := O12
    refine w_istore X12 (pc' := 9) (l' := #[.val (.ref a), .val (.int (Int32.ofNat e')), .val (.int (Int32.ofNat (e' + 3))), .val (.int (Int32.ofNat (e' + 6))), .val (.ref d5), .val (.int (Int32.ofNat n))]) d9_7 rfl rfl ?_
    refine w_aloadN X12 (pc' := 10) d9_9 rfl rfl rfl ?_
    refine w_getfield X12 (pc' := 13) d9_10 (host := "") (Or.inl (hw _ (List.mem_of_getElem? (i := 52) rfl))) Via.refl F_dec rfl fun T13 X13 => ?_
    refine w_ifnonnullN X13 (pc' := 16) d9_13 rfl ?_
    refine w_aloadN X13 (pc' := 17) d9_16 rfl rfl rfl ?_
    refine w_aloadN X13 (pc' := 18) d9_17 rfl rfl rfl ?_
    refine w_getfield X13 (pc' := 21) d9_18 (host := "") (Or.inl (hw _ (List.mem_of_getElem? (i := 10) rfl))) Via.refl F_x rfl fun T14 X14 => ?_
    refine w_arraylength X14 (pc' := 22) (64 : Int32) d9_21 A_ax (by decide) rfl ?_
    refine w_anewarray X14 (pc' := 25) 64 64 d9_22 (hw _ (List.mem_of_getElem? (i := 62) rfl)) (hw _ (List.mem_of_getElem? (i := 63) rfl)) (by decide) (by decide) (by decide) (by decide) (by decide) rfl fun T15 h15 b15 g15 gn15 X15 E15 O15 A15 => ?_
    have ne_a_b15 : a ≠ b15 := ne_new g15 F_x.lt
    have ne_d5_b15 : d5 ≠ b15 := ne_new g15 E_d'.lt
    have ne_ax_b15 : ax ≠ b15 := ne_new g15 A_ax.lt
    have ne_ay_b15 : ay ≠ b15 := ne_new g15 A_ay.lt
    have ne_az_b15 : az ≠ b15 := ne_new g15 A_az.lt
    have ne_ac_b15 : ac ≠ b15 := ne_new g15 A_ac.lt
    have ne_at'_b15 : at' ≠ b15 := ne_new g15 A_at.lt
    have F_x_16 := Fld.ext E15 F_x
    have F_y_16 := Fld.ext E15 F_y
    have F_z_16 := Fld.ext E15 F_z
    have F_counts_16 := Fld.ext E15 F_counts
    have F_slots_16 := Fld.ext E15 F_slots
    have F_size_16 := Fld.ext E15 F_size
    have F_dec_16 := Fld.ext E15 F_dec
    have E_a_16 := Exa.ext E15 E_a
    have E_d'_16 := Exa.ext E15 E_d'
    have A_ax_16 := A_ax.ext E15
    have A_ay_16 := A_ay.ext E15
    have A_az_16 := A_az.ext E15
    have A_ac_16 := A_ac.ext E15
    have A_at_16 := A_at.ext E15
    have Oa15 : Oar Z h15 b15 "java/math/BigDecimal" := O15
    replace A15 : Ary Z h15 b15 (.object "java/math/BigDecimal") 64 (fun _ => .null) := A15
    refine w_putfield X15 (pc' := 28) d9_25 (host := "") (Or.inl (hw _ (List.mem_of_getElem? (i := 52) rfl))) Via.refl F_dec_16 E_a_16 (Or.inl (hw _ (List.mem_of_getElem? (i := 53) rfl))) (hw _ (List.mem_of_getElem? (i := 1) rfl)) (ty := (.array (.object "java/math/BigDecimal"))) (by decide) rfl rfl g_a rfl fun T17 h17 X17 W17 F17 => ?_
    have Oa15_18 := Oa15.wr W17
    have F_x_18 := Fld.other W17 F_x_16 (Or.inr (slot_ne (C := "com/example/gallweave/gallweave/triplets/HashedTriplets") (Or.inl (hw _ (List.mem_of_getElem? (i := 11) rfl))) (Or.inl (hw _ (List.mem_of_getElem? (i := 53) rfl))) (by decide) (t := (.array .int)) (t' := (.array (.object "java/math/BigDecimal"))) (by decide) (by decide)))
    have F_y_18 := Fld.other W17 F_y_16 (Or.inr (slot_ne (C := "com/example/gallweave/gallweave/triplets/HashedTriplets") (Or.inl (hw _ (List.mem_of_getElem? (i := 13) rfl))) (Or.inl (hw _ (List.mem_of_getElem? (i := 53) rfl))) (by decide) (t := (.array .int)) (t' := (.array (.object "java/math/BigDecimal"))) (by decide) (by decide)))
    have F_z_18 := Fld.other W17 F_z_16 (Or.inr (slot_ne (C := "com/example/gallweave/gallweave/triplets/HashedTriplets") (Or.inl (hw _ (List.mem_of_getElem? (i := 15) rfl))) (Or.inl (hw _ (List.mem_of_getElem? (i := 53) rfl))) (by decide) (t := (.array .int)) (t' := (.array (.object "java/math/BigDecimal"))) (by decide) (by decide)))
    have F_counts_18 := Fld.other W17 F_counts_16 (Or.inr (slot_ne (C := "com/example/gallweave/gallweave/triplets/HashedTriplets") (Or.inl (hw _ (List.mem_of_getElem? (i := 18) rfl))) (Or.inl (hw _ (List.mem_of_getElem? (i := 53) rfl))) (by decide) (t := (.array .long)) (t' := (.array (.object "java/math/BigDecimal"))) (by decide) (by decide)))
    have F_slots_18 := Fld.other W17 F_slots_16 (Or.inr (slot_ne (C := "com/example/gallweave/gallweave/triplets/HashedTriplets") (Or.inl (hw _ (List.mem_of_getElem? (i := 20) rfl))) (Or.inl (hw _ (List.mem_of_getElem? (i := 53) rfl))) (by decide) (t := (.array .int)) (t' := (.array (.object "java/math/BigDecimal"))) (by decide) (by decide)))
    have F_size_18 := Fld.other W17 F_size_16 (Or.inr (slot_ne (C := "com/example/gallweave/gallweave/triplets/HashedTriplets") (Or.inl (hw _ (List.mem_of_getElem? (i := 41) rfl))) (Or.inl (hw _ (List.mem_of_getElem? (i := 53) rfl))) (by decide) (t := .int) (t' := (.array (.object "java/math/BigDecimal"))) (by decide) (by decide)))
    have E_a_18 := Exa.wr W17 E_a_16
    have E_d'_18 := Exa.wr W17 E_d'_16
    have A_ax_18 := A_ax_16.other W17 (Ne.symm ne_a_ax)
    have A_ay_18 := A_ay_16.other W17 (Ne.symm ne_a_ay)
    have A_az_18 := A_az_16.other W17 (Ne.symm ne_a_az)
    have A_ac_18 := A_ac_16.other W17 (Ne.symm ne_a_ac)
    have A_at_18 := A_at_16.other W17 (Ne.symm ne_a_at)
    have A15_18 := A15.other W17 (Ne.symm ne_a_b15)
    refine w_aloadN X17 (pc' := 29) d9_28 rfl rfl rfl ?_
    refine w_getfield X17 (pc' := 32) d9_29 (host := "") (Or.inl (hw _ (List.mem_of_getElem? (i := 52) rfl))) Via.refl F17 rfl fun T19 X19 => ?_
    refine w_iload X19 (pc' := 34) d9_32 rfl rfl ?_
    refine w_aloadN X19 (pc' := 35) d9_34 rfl rfl rfl ?_
    refine w_getfield X19 (pc' := 38) d9_35 (host := "") (Or.inl (hw _ (List.mem_of_getElem? (i := 52) rfl))) Via.refl F17 rfl fun T20 X20 => ?_
    refine w_iload X20 (pc' := 40) d9_38 rfl rfl ?_
    refine w_aaload X20 (pc' := 41) n (v := .null) d9_40 A15_18 rfl (own_nat n (by omega)) (by omega) rfl rfl ?_
    refine w_ifnonnullN X20 (pc' := 44) d9_41 rfl ?_
    refine w_aload X20 (pc' := 46) d9_44 rfl rfl rfl ?_
    refine w_goto X20 (pc' := 61) d9_46 (by decide) rfl ?_
    refine w_aastore X20 (pc' := 62) n d9_61 A15_18 rfl (Oa15_18.sto (Ins.self E_d'_18)) (own_nat n (by omega)) (by omega) gn15 rfl fun T21 h21 X21 W21 A21 => ?_
    have Oa15_22 := Oa15_18.wr W21
    have F_x_22 := Fld.other W21 F_x_18 (Or.inl ne_a_b15)
    have F_y_22 := Fld.other W21 F_y_18 (Or.inl ne_a_b15)
    have F_z_22 := Fld.other W21 F_z_18 (Or.inl ne_a_b15)
    have F_counts_22 := Fld.other W21 F_counts_18 (Or.inl ne_a_b15)
    have F_slots_22 := Fld.other W21 F_slots_18 (Or.inl ne_a_b15)
    have F_size_22 := Fld.other W21 F_size_18 (Or.inl ne_a_b15)
    have F17_22 := Fld.other W21 F17 (Or.inl ne_a_b15)
    have E_a_22 := Exa.wr W21 E_a_18
    have E_d'_22 := Exa.wr W21 E_d'_18
    have A_ax_22 := A_ax_18.other W21 ne_ax_b15
    have A_ay_22 := A_ay_18.other W21 ne_ay_b15
    have A_az_22 := A_az_18.other W21 ne_az_b15
    have A_ac_22 := A_ac_18.other W21 ne_ac_b15
    have A_at_22 := A_at_18.other W21 ne_at'_b15
    exact w_return X21 d9_62 ⟨_, E_a_22, F17_22⟩ (by decide) (by decide)
theorem d7_0 : decode method_3_code 0 = .ok (.iload_n 0, 1) := by decide +kernel
theorem d7_1 : decode method_3_code 1 = .ok (.ifCond .eq 11, 3) := by decide +kernel
theorem d7_4 : decode method_3_code 4 = .ok (.lload_n 1, 1) := by decide +kernel
theorem d7_5 : decode method_3_code 5 = .ok (.ldc2_w 36, 3) := by decide +kernel
theorem d7_8 : decode method_3_code 8 = .ok (.lcmp, 1) := by decide +kernel
theorem d7_9 : decode method_3_code 9 = .ok (.ifCond .ge 7, 3) := by decide +kernel
theorem d7_12 : decode method_3_code 12 = .ok (.iconst 1, 1) := by decide +kernel
theorem d7_13 : decode method_3_code 13 = .ok (.goto 4, 3) := by decide +kernel
theorem d7_16 : decode method_3_code 16 = .ok (.iconst 0, 1) := by decide +kernel
theorem d7_17 : decode method_3_code 17 = .ok (.ireturn, 1) := by decide +kernel
theorem pn_7 : plainFor (⟨"com/example/gallweave/gallweave/triplets/HashedTripletsHasOnlyIntCountsPinLaw", "ok", "(ZJ)Z"⟩ : MethodName) = true := plainFor_of_name (by first | (simp [plainName, overriddenIn]; done) | decide +kernel)
theorem pd_7 : parseMethodDescriptor "(ZJ)Z" = some ⟨[.boolean, .long], some .boolean⟩ := by decide +kernel
set_option maxRecDepth 65536 in
set_option maxHeartbeats 40000000 in
theorem rm7 {l : Launch} {Z : State} {a0 : Array Value} (hw : ∀ d ∈ tables_1, d.before a0 Z = true) {n0 : Nat} {h0 : Heap} (Z0 : n0 ≤ h0.size) (p1 : Int32) (q2 : Int64)  :
    Con l Z n0 (⟨"com/example/gallweave/gallweave/triplets/HashedTripletsHasOnlyIntCountsPinLaw", "ok", "(ZJ)Z"⟩ : MethodName) method_3_code 3 (some .boolean) ({ frames := 0, cells := 0, slots := 0, locals := 0 } : Room) #[(.int p1), (.long q2)] h0 (Val (fun v h => v = .int (own_ok p1 q2) ∧ h0 = h)) := by
  refine con_intro pn_7 Z0 (fr := fun m => mkF m 0 #[.val (.int p1), .val (.long q2), .second] []) (fun m => by first | (simp [entryFrame, mkF, argsToLocals, Value.category]; done) | rfl) ?_
  intro p e s m below s₁ hs0 X0
  refine w_iloadN X0 (pc' := 1) d7_0 rfl rfl ?_
  refine w_if_eq X0 12 4 d7_1 (by decide) rfl rfl (fun hc1 => ?_) (fun hc1 => ?_)
  · skip
    refine w_iconst X0 (pc' := 13) (1 : Int32) d7_12 rfl rfl ?_
    refine w_goto X0 (pc' := 17) d7_13 (by decide) rfl ?_
    exact w_zreturn X0 d7_17 ⟨by rw [own_ok, if_pos hc1]; rfl, rfl⟩ (by decide) (by decide)
  · skip
    refine w_lloadN X0 (pc' := 5) d7_4 rfl rfl ?_
    refine w_ldc2 X0 (pc' := 8) d7_5 (hw _ (List.mem_of_getElem? (i := 46) rfl)) rfl ?_
    refine w_lc_ge X0 16 12 d7_8 d7_9 (by decide) rfl rfl (fun hc8 => ?_) (fun hc8 => ?_)
    · skip
      refine w_iconst X0 (pc' := 17) (0 : Int32) d7_16 rfl rfl ?_
      exact w_zreturn X0 d7_17 ⟨by rw [own_ok, if_neg hc1, if_neg hc8]; rfl, rfl⟩ (by decide) (by decide)
    · skip
      refine w_iconst X0 (pc' := 13) (1 : Int32) d7_12 rfl rfl ?_
      refine w_goto X0 (pc' := 17) d7_13 (by decide) rfl ?_
      exact w_zreturn X0 d7_17 ⟨by rw [own_ok, if_neg hc1, if_pos hc8]; rfl, rfl⟩ (by decide) (by decide)
theorem d8_0 : decode prog_52_method_6_code 0 = .ok (.aload_n 0, 1) := by decide +kernel
theorem d8_1 : decode prog_52_method_6_code 1 = .ok (.getfield 37, 3) := by decide +kernel
theorem d8_4 : decode prog_52_method_6_code 4 = .ok (.ifnull 5, 3) := by decide +kernel
theorem d8_7 : decode prog_52_method_6_code 7 = .ok (.iconst 0, 1) := by decide +kernel
theorem d8_8 : decode prog_52_method_6_code 8 = .ok (.ireturn, 1) := by decide +kernel
theorem d8_9 : decode prog_52_method_6_code 9 = .ok (.iconst 0, 1) := by decide +kernel
theorem d8_10 : decode prog_52_method_6_code 10 = .ok (.istore_n 1, 1) := by decide +kernel
theorem d8_11 : decode prog_52_method_6_code 11 = .ok (.iload_n 1, 1) := by decide +kernel
theorem d8_12 : decode prog_52_method_6_code 12 = .ok (.aload_n 0, 1) := by decide +kernel
theorem d8_13 : decode prog_52_method_6_code 13 = .ok (.getfield 26, 3) := by decide +kernel
theorem d8_16 : decode prog_52_method_6_code 16 = .ok (.if_icmp .ge 24, 3) := by decide +kernel
theorem d8_19 : decode prog_52_method_6_code 19 = .ok (.aload_n 0, 1) := by decide +kernel
theorem d8_20 : decode prog_52_method_6_code 20 = .ok (.getfield 19, 3) := by decide +kernel
theorem d8_23 : decode prog_52_method_6_code 23 = .ok (.iload_n 1, 1) := by decide +kernel
theorem d8_24 : decode prog_52_method_6_code 24 = .ok (.laload, 1) := by decide +kernel
theorem d8_25 : decode prog_52_method_6_code 25 = .ok (.ldc2_w 49, 3) := by decide +kernel
theorem d8_28 : decode prog_52_method_6_code 28 = .ok (.lcmp, 1) := by decide +kernel
theorem d8_29 : decode prog_52_method_6_code 29 = .ok (.ifCond .lt 5, 3) := by decide +kernel
theorem d8_32 : decode prog_52_method_6_code 32 = .ok (.iconst 0, 1) := by decide +kernel
theorem d8_33 : decode prog_52_method_6_code 33 = .ok (.ireturn, 1) := by decide +kernel
theorem d8_34 : decode prog_52_method_6_code 34 = .ok (.iinc 1 1, 3) := by decide +kernel
theorem d8_37 : decode prog_52_method_6_code 37 = .ok (.goto (-26), 3) := by decide +kernel
theorem d8_40 : decode prog_52_method_6_code 40 = .ok (.iconst 1, 1) := by decide +kernel
theorem d8_41 : decode prog_52_method_6_code 41 = .ok (.ireturn, 1) := by decide +kernel
theorem pn_8 : plainFor (⟨"com/example/gallweave/gallweave/triplets/HashedTriplets", "hasOnlyIntCounts", "()Z"⟩ : MethodName) = true := plainFor_of_name (by first | (simp [plainName, overriddenIn]; done) | decide +kernel)
theorem pd_8 : parseMethodDescriptor "()Z" = some ⟨[], some .boolean⟩ := by decide +kernel
set_option maxRecDepth 65536 in
set_option maxHeartbeats 40000000 in
theorem rm8d {l : Launch} {Z : State} {a0 : Array Value} (hw : ∀ d ∈ tables_1, d.before a0 Z = true) {n0 : Nat} {h0 : Heap} (Z0 : n0 ≤ h0.size) (a : Addr) {b : Addr} (Fd : Fld Z h0 a "com/example/gallweave/gallweave/triplets/HashedTriplets" "decimals" "[Ljava/math/BigDecimal;" (.ref b)) :
    Con l Z n0 (⟨"com/example/gallweave/gallweave/triplets/HashedTriplets", "hasOnlyIntCounts", "()Z"⟩ : MethodName) prog_52_method_6_code 2 (some .boolean) ({ frames := 0, cells := 0, slots := 0, locals := 0 } : Room) #[(.ref a)] h0 (Val (fun v h => v = .int 0 ∧ h0 = h)) := by
  refine con_intro pn_8 Z0 (fr := fun m => mkF m 0 #[.val (.ref a), .unset] []) (fun m => by first | (simp [entryFrame, mkF, argsToLocals, Value.category]; done) | rfl) ?_
  intro p e s m below s₁ hs0 X0
  refine w_aloadN X0 (pc' := 1) d8_0 rfl rfl rfl ?_
  refine w_getfield X0 (pc' := 4) d8_1 (host := "") (Or.inl (hw _ (List.mem_of_getElem? (i := 52) rfl))) Via.refl Fd rfl fun T1 X1 => ?_
  refine w_ifnullN X1 (pc' := 7) d8_4 rfl ?_
  refine w_iconst X1 (pc' := 8) (0 : Int32) d8_7 rfl rfl ?_
  exact w_zreturn X1 d8_8 ⟨rfl, rfl⟩ (by decide) (by decide)
theorem own_allY {n : Nat} {K : Nat → Nat} {c sm : Nat → Int64} {pr : Nat → Bool} (hpr : ∀ e, e < 3 → (pr e = true ↔ ∃ i, i < n ∧ K i = e)) (hsm : ∀ i, i < n → c i = sm (K i)) (hI : ∀ j, j < n → c j < (2147483647 : Int64)) : own_all pr sm = 1 := by
  have h : ∀ e, e < 3 → own_b pr sm e := fun e he q => by
    obtain ⟨i, hi, hK⟩ := (hpr e he).mp q
    rw [← hK, ← hsm i hi]; exact hI i hi
  rw [own_all, if_pos ⟨h 0 (by decide), h 1 (by decide), h 2 (by decide)⟩]
theorem own_allN {n : Nat} {K : Nat → Nat} {c sm : Nat → Int64} {pr : Nat → Bool} {fx fy fz fs : Nat → Value} (hpr : ∀ e, e < 3 → (pr e = true ↔ ∃ i, i < n ∧ K i = e)) (hsm : ∀ i, i < n → c i = sm (K i)) (P : HP n K c fx fy fz fs) {i : Nat} (hi : i < n) (hc : ¬ c i < (2147483647 : Int64)) : own_all pr sm = 0 := by
  have hk := P.1 i hi
  have hb : ¬ own_b pr sm (K i) := fun q => hc (by rw [hsm i hi]; exact q ((hpr _ hk).mpr ⟨i, hi, rfl⟩))
  have : K i = 0 ∨ K i = 1 ∨ K i = 2 := by omega
  rw [own_all, if_neg]
  rintro ⟨q0, q1, q2⟩
  rcases this with z | z | z <;> rw [z] at hb
  · exact hb q0
  · exact hb q1
  · exact hb q2
set_option maxRecDepth 65536 in
set_option maxHeartbeats 40000000 in
theorem rm8 {l : Launch} {Z : State} {a0 : Array Value} (hw : ∀ d ∈ tables_1, d.before a0 Z = true) {n0 : Nat} {h0 : Heap} (Z0 : n0 ≤ h0.size) (a : Addr) {M N : Nat} {pr : Nat → Bool} {sm : Nat → Int64} (OT : HT Z n0 h0 a M N pr sm .null) (hN : N < 50) :
    Con l Z n0 (⟨"com/example/gallweave/gallweave/triplets/HashedTriplets", "hasOnlyIntCounts", "()Z"⟩ : MethodName) prog_52_method_6_code 2 (some .boolean) ({ frames := 0, cells := 0, slots := 0, locals := 0 } : Room) #[(.ref a)] h0 (Val (fun v h => v = .int (own_all pr sm) ∧ h0 = h)) := by
  refine con_intro pn_8 Z0 (fr := fun m => mkF m 0 #[.val (.ref a), .unset] []) (fun m => by first | (simp [entryFrame, mkF, argsToLocals, Value.category]; done) | rfl) ?_
  intro p e s m below s₁ hs0 X0
  obtain ⟨ax, ay, az, ac, at', n, K, c, fx, fy, fz, fs, O, P, hnN, hpr, hsm, hsm0⟩ := OT
  obtain ⟨gn_ax, gn_ay, gn_az, gn_ac, gn_at, lt_a, lt_ax, lt_ay, lt_az, lt_ac, lt_at, ne_a_ax, ne_a_ay, ne_a_az, ne_a_ac, ne_a_at, ne_ax_ay, ne_ax_az, ne_ax_ac, ne_ax_at, ne_ay_az, ne_ay_ac, ne_ay_at, ne_az_ac, ne_az_at, ne_ac_at, E_a, F_x, F_y, F_z, F_counts, F_slots, F_size, F_dec, A_ax, A_ay, A_az, A_ac, A_at⟩ := O
  refine w_aloadN X0 (pc' := 1) d8_0 rfl rfl rfl ?_
  refine w_getfield X0 (pc' := 4) d8_1 (host := "") (Or.inl (hw _ (List.mem_of_getElem? (i := 52) rfl))) Via.refl F_dec rfl fun T1 X1 => ?_
  refine w_ifnullY X1 (pc' := 9) d8_4 (by decide) rfl ?_
  refine w_iconst X1 (pc' := 10) (0 : Int32) d8_9 rfl rfl ?_
  refine w_istoreN X1 (pc' := 11) (l' := #[.val (.ref a), .val (.int (0 : Int32))]) d8_10 rfl rfl ?_
  refine w_loop (n := n) (fr := fun i => mkF m 11 #[.val (.ref a), .val (.int (Int32.ofNat i))] []) (fun i => ∀ j, j < i → c j < (2147483647 : Int64)) (fun T i X hi hI KK => ?_) (fun T X hI => ?_) n 0 (by omega) (fun j hj => absurd hj (Nat.not_lt_zero j)) T1 X1
  · skip
    show Go p e below _ (T.setTop (mkF m 11 #[.val (.ref a), .val (.int (Int32.ofNat i))] []))
    refine w_iloadN X (pc' := 12) d8_11 rfl rfl ?_
    refine w_aloadN X (pc' := 13) d8_12 rfl rfl rfl ?_
    refine w_getfield X (pc' := 16) d8_13 (host := "") (Or.inl (hw _ (List.mem_of_getElem? (i := 40) rfl))) Via.refl F_size rfl fun T2 X2 => ?_
    refine w_icmp_ge X2 40 19 d8_16 (by decide) rfl rfl (fun hc16 => by exfalso; exact hc16 (by rw [Int32.lt_iff_toInt_lt, own_nat i (by omega), own_nat n (by omega)]; omega)) (fun hc16 => ?_)
    refine w_aloadN X2 (pc' := 20) d8_19 rfl rfl rfl ?_
    refine w_getfield X2 (pc' := 23) d8_20 (host := "") (Or.inl (hw _ (List.mem_of_getElem? (i := 17) rfl))) Via.refl F_counts rfl fun T3 X3 => ?_
    refine w_iloadN X3 (pc' := 24) d8_23 rfl rfl ?_
    refine w_laload X3 (pc' := 25) i (v := (.long (c i))) d8_24 A_ac (own_nat i (by omega)) (by omega) rfl rfl ?_
    refine w_ldc2 X3 (pc' := 28) d8_25 (hw _ (List.mem_of_getElem? (i := 54) rfl)) rfl ?_
    refine w_lc_lt X3 34 32 d8_28 d8_29 (by decide) rfl rfl (fun hc28 => ?_) (fun hc28 => ?_)
    · skip
      refine w_iinc X3 (pc' := 37) ((Int32.ofNat i) + (1 : Int32)) (l' := #[.val (.ref a), .val (.int ((Int32.ofNat i) + (1 : Int32)))]) d8_34 rfl rfl rfl rfl ?_
      refine w_goto X3 (pc' := 11) d8_37 (by decide) rfl ?_
      rw [own_succ i]
      exact KK _ X3 (fun j hj => by by_cases q : j = i; subst q; exact hc28; exact hI j (by omega))
    · skip
      refine w_iconst X3 (pc' := 33) (0 : Int32) d8_32 rfl rfl ?_
      exact w_zreturn X3 d8_33 ⟨by rw [own_allN hpr hsm P hi hc28]; rfl, rfl⟩ (by decide) (by decide)
  · skip
    show Go p e below _ (T.setTop (mkF m 11 #[.val (.ref a), .val (.int (Int32.ofNat n))] []))
    refine w_iloadN X (pc' := 12) d8_11 rfl rfl ?_
    refine w_aloadN X (pc' := 13) d8_12 rfl rfl rfl ?_
    refine w_getfield X (pc' := 16) d8_13 (host := "") (Or.inl (hw _ (List.mem_of_getElem? (i := 40) rfl))) Via.refl F_size rfl fun T4 X4 => ?_
    refine w_icmp_ge X4 40 19 d8_16 (by decide) rfl rfl (fun hc16 => ?_) (fun hc16 => by exfalso; rw [Int32.lt_iff_toInt_lt, own_nat n (by omega)] at hc16; omega)
    refine w_iconst X4 (pc' := 41) (1 : Int32) d8_40 rfl rfl ?_
    exact w_zreturn X4 d8_41 ⟨by rw [own_allY hpr hsm hI]; rfl, rfl⟩ (by decide) (by decide)
theorem pn_0 : plainFor (⟨"com/example/gallweave/gallweave/triplets/HashedTripletsHasOnlyIntCountsPinLaw", "law", "(JJJII)Z"⟩ : MethodName) = true := plainFor_of_name (by first | (simp [plainName, overriddenIn]; done) | decide +kernel)
theorem pd_0 : parseMethodDescriptor "(JJJII)Z" = some ⟨[.long, .long, .long, .int, .int], some .boolean⟩ := by decide +kernel
theorem own_e3 (a : Int32) : ∃ e : Nat, e < 3 ∧ (a &&& (3 : Int32)) % (3 : Int32) = Int32.ofNat e := by
  have e1 : (a &&& (3 : Int32)).toInt = a.toInt % 2 ^ 2 := Jvm.Kit.i32_mask a 3 (k := 2) (by decide) (by decide)
  have e2 : ((a &&& (3 : Int32)) % (3 : Int32)).toInt = (a &&& (3 : Int32)).toInt % 3 := by rw [Jvm.Kit.i32_rem_nonneg (by omega)]; rfl
  refine ⟨((a &&& (3 : Int32)) % (3 : Int32)).toInt.toNat, by omega, Int32.toInt_inj.mp ?_⟩
  rw [own_nat _ (by omega)]; omega
theorem own_htN {Z : State} {n0 : Nat} {h : Heap} {a : Addr} {M N N' : Nat} {pr : Nat → Bool} {sm : Nat → Int64} {D : Value} (O : HT Z n0 h a M N pr sm D) (q : N ≤ N') : HT Z n0 h a M N' pr sm D := by
  obtain ⟨ax, ay, az, ac, at', n, K, c, fx, fy, fz, fs, O, P, hn, r⟩ := O
  exact ⟨ax, ay, az, ac, at', n, K, c, fx, fy, fz, fs, O, P, Nat.le_trans hn q, r⟩
theorem HT.ext' {Z : State} {n0 : Nat} {h h' : Heap} {a : Addr} {M N : Nat} {pr : Nat → Bool} {sm : Nat → Int64} {D : Value} (O : HT Z n0 h a M N pr sm D) (E : Ext h h') : HT Z n0 h' a M N pr sm D := by
  obtain ⟨ax, ay, az, ac, at', n, K, c, fx, fy, fz, fs, O, r⟩ := O
  obtain ⟨gn_ax, gn_ay, gn_az, gn_ac, gn_at, lt_a, lt_ax, lt_ay, lt_az, lt_ac, lt_at, ne_a_ax, ne_a_ay, ne_a_az, ne_a_ac, ne_a_at, ne_ax_ay, ne_ax_az, ne_ax_ac, ne_ax_at, ne_ay_az, ne_ay_ac, ne_ay_at, ne_az_ac, ne_az_at, ne_ac_at, E_a, F_x, F_y, F_z, F_counts, F_slots, F_size, F_dec, A_ax, A_ay, A_az, A_ac, A_at⟩ := O
  exact ⟨ax, ay, az, ac, at', n, K, c, fx, fy, fz, fs, ⟨gn_ax, gn_ay, gn_az, gn_ac, gn_at, lt_a, lt_ax, lt_ay, lt_az, lt_ac, lt_at, ne_a_ax, ne_a_ay, ne_a_az, ne_a_ac, ne_a_at, ne_ax_ay, ne_ax_az, ne_ax_ac, ne_ax_at, ne_ay_az, ne_ay_ac, ne_ay_at, ne_az_ac, ne_az_at, ne_ac_at, Exa.ext E E_a, Fld.ext E F_x, Fld.ext E F_y, Fld.ext E F_z, Fld.ext E F_counts, Fld.ext E F_slots, Fld.ext E F_size, Fld.ext E F_dec, A_ax.ext E, A_ay.ext E, A_az.ext E, A_ac.ext E, A_at.ext E⟩, r⟩
theorem HT.oth {Z : State} {n0 : Nat} {h h' : Heap} {a b : Addr} {M N sl : Nat} {v : Value} {pr : Nat → Bool} {sm : Nat → Int64} {D : Value} (O : HT Z n0 h a M N pr sm D) (W : Wr h h' b sl v) (hb : M ≤ b) : HT Z n0 h' a M N pr sm D := by
  obtain ⟨ax, ay, az, ac, at', n, K, c, fx, fy, fz, fs, O, r⟩ := O
  obtain ⟨gn_ax, gn_ay, gn_az, gn_ac, gn_at, lt_a, lt_ax, lt_ay, lt_az, lt_ac, lt_at, ne_a_ax, ne_a_ay, ne_a_az, ne_a_ac, ne_a_at, ne_ax_ay, ne_ax_az, ne_ax_ac, ne_ax_at, ne_ay_az, ne_ay_ac, ne_ay_at, ne_az_ac, ne_az_at, ne_ac_at, E_a, F_x, F_y, F_z, F_counts, F_slots, F_size, F_dec, A_ax, A_ay, A_az, A_ac, A_at⟩ := O
  have ne : ∀ {x : Addr}, x < M → x ≠ b := fun q => Nat.ne_of_lt (Nat.lt_of_lt_of_le q hb)
  exact ⟨ax, ay, az, ac, at', n, K, c, fx, fy, fz, fs, ⟨gn_ax, gn_ay, gn_az, gn_ac, gn_at, lt_a, lt_ax, lt_ay, lt_az, lt_ac, lt_at, ne_a_ax, ne_a_ay, ne_a_az, ne_a_ac, ne_a_at, ne_ax_ay, ne_ax_az, ne_ax_ac, ne_ax_at, ne_ay_az, ne_ay_ac, ne_ay_at, ne_az_ac, ne_az_at, ne_ac_at, Exa.wr W E_a, Fld.other W F_x (Or.inl (ne lt_a)), Fld.other W F_y (Or.inl (ne lt_a)), Fld.other W F_z (Or.inl (ne lt_a)), Fld.other W F_counts (Or.inl (ne lt_a)), Fld.other W F_slots (Or.inl (ne lt_a)), Fld.other W F_size (Or.inl (ne lt_a)), Fld.other W F_dec (Or.inl (ne lt_a)), A_ax.other W (ne lt_ax), A_ay.other W (ne lt_ay), A_az.other W (ne lt_az), A_ac.other W (ne lt_ac), A_at.other W (ne lt_at)⟩, r⟩
set_option maxRecDepth 65536 in
set_option maxHeartbeats 40000000 in
theorem rm0 {l : Launch} {Z : State} {a0 : Array Value} (hw : ∀ d ∈ tables_1, d.before a0 Z = true) {n0 : Nat} {h0 : Heap} (Z0 : n0 ≤ h0.size) (q1 q2 q3 : Int64) (p4 p5 : Int32) (Zn : h0.size ≤ n0) {d : Addr} (S_d : Sta Z h0 "java/math/BigDecimal" "ONE" "Ljava/math/BigDecimal;" (.ref d)) (E_d : Exa Z h0 d "java/math/BigDecimal") :
    Con l Z n0 x code maxLocals ret room_1 #[(.long q1), (.long q2), (.long q3), (.int p4), (.int p5)] h0 (Val (fun v _ => v = .int 1)) := by
  refine con_intro pn_0 Z0 (fr := fun m => mkF m 0 #[.val (.long q1), .second, .val (.long q2), .second, .val (.long q3), .second, .val (.int p4), .val (.int p5), .unset, .unset, .unset, .unset, .unset, .unset, .unset, .unset, .unset, .unset] []) (fun m => by first | (simp [entryFrame, mkF, argsToLocals, Value.category, maxLocals]; done) | rfl) ?_
  intro p e s m below s₁ hs0 X0
  refine w_iload X0 (pc' := 2) at_0 rfl rfl ?_
  refine w_iconst X0 (pc' := 3) (3 : Int32) at_2 rfl rfl ?_
  refine w_iand X0 (pc' := 4) at_3 rfl ?_
  refine w_istore X0 (pc' := 6) (l' := #[.val (.long q1), .second, .val (.long q2), .second, .val (.long q3), .second, .val (.int p4), .val (.int p5), .val (.int (p5 &&& (3 : Int32))), .unset, .unset, .unset, .unset, .unset, .unset, .unset, .unset, .unset]) at_4 rfl rfl ?_
  refine w_join (α := Int32) (fun dd => True) (fun dd => s₁.setTop (mkF m 20 #[.val (.long q1), .second, .val (.long q2), .second, .val (.long q3), .second, .val (.int p4), .val (.int p5), .val (.int (p5 &&& (3 : Int32))), .val (.int dd), .unset, .unset, .unset, .unset, .unset, .unset, .unset, .unset] [])) (fun dd hdd => ?_) (fun J20 => ?_)
  · skip
    refine w_iload X0 (pc' := 22) at_20 rfl rfl ?_
    refine w_iconst X0 (pc' := 23) (3 : Int32) at_22 rfl rfl ?_
    refine w_iand X0 (pc' := 24) at_23 rfl ?_
    refine w_iconst X0 (pc' := 25) (3 : Int32) at_24 rfl rfl ?_
    refine w_irem X0 (pc' := 26) at_25 (by decide) rfl ?_
    refine w_istore X0 (pc' := 28) (l' := #[.val (.long q1), .second, .val (.long q2), .second, .val (.long q3), .second, .val (.int p4), .val (.int p5), .val (.int (p5 &&& (3 : Int32))), .val (.int dd), .val (.int ((p4 &&& (3 : Int32)) % (3 : Int32))), .unset, .unset, .unset, .unset, .unset, .unset, .unset]) at_26 rfl rfl ?_
    obtain ⟨e0, he0, hx0⟩ := own_e3 p4
    rw [hx0]
    show Go p e below _ (s₁.setTop (mkF m 28 #[.val (.long q1), .second, .val (.long q2), .second, .val (.long q3), .second, .val (.int p4), .val (.int p5), .val (.int (p5 &&& (3 : Int32))), .val (.int dd), .val (.int (Int32.ofNat e0)), .unset, .unset, .unset, .unset, .unset, .unset, .unset] []))
    refine w_iload X0 (pc' := 30) at_28 rfl rfl ?_
    refine w_iconst X0 (pc' := 31) (2 : Int32) at_30 rfl rfl ?_
    refine w_iushr X0 (pc' := 32) at_31 rfl ?_
    refine w_iconst X0 (pc' := 33) (3 : Int32) at_32 rfl rfl ?_
    refine w_iand X0 (pc' := 34) at_33 rfl ?_
    refine w_iconst X0 (pc' := 35) (3 : Int32) at_34 rfl rfl ?_
    refine w_irem X0 (pc' := 36) at_35 (by decide) rfl ?_
    refine w_istore X0 (pc' := 38) (l' := #[.val (.long q1), .second, .val (.long q2), .second, .val (.long q3), .second, .val (.int p4), .val (.int p5), .val (.int (p5 &&& (3 : Int32))), .val (.int dd), .val (.int (Int32.ofNat e0)), .val (.int ((((p4.toUInt32 >>> ((2 : Int32) &&& 31).toUInt32).toInt32) &&& (3 : Int32)) % (3 : Int32))), .unset, .unset, .unset, .unset, .unset, .unset]) at_36 rfl rfl ?_
    obtain ⟨e1, he1, hx1⟩ := own_e3 ((p4.toUInt32 >>> ((2 : Int32) &&& 31).toUInt32).toInt32)
    rw [hx1]
    show Go p e below _ (s₁.setTop (mkF m 38 #[.val (.long q1), .second, .val (.long q2), .second, .val (.long q3), .second, .val (.int p4), .val (.int p5), .val (.int (p5 &&& (3 : Int32))), .val (.int dd), .val (.int (Int32.ofNat e0)), .val (.int (Int32.ofNat e1)), .unset, .unset, .unset, .unset, .unset, .unset] []))
    refine w_iload X0 (pc' := 40) at_38 rfl rfl ?_
    refine w_iconst X0 (pc' := 41) (4 : Int32) at_40 rfl rfl ?_
    refine w_iushr X0 (pc' := 42) at_41 rfl ?_
    refine w_iconst X0 (pc' := 43) (3 : Int32) at_42 rfl rfl ?_
    refine w_iand X0 (pc' := 44) at_43 rfl ?_
    refine w_iconst X0 (pc' := 45) (3 : Int32) at_44 rfl rfl ?_
    refine w_irem X0 (pc' := 46) at_45 (by decide) rfl ?_
    refine w_istore X0 (pc' := 48) (l' := #[.val (.long q1), .second, .val (.long q2), .second, .val (.long q3), .second, .val (.int p4), .val (.int p5), .val (.int (p5 &&& (3 : Int32))), .val (.int dd), .val (.int (Int32.ofNat e0)), .val (.int (Int32.ofNat e1)), .val (.int ((((p4.toUInt32 >>> ((4 : Int32) &&& 31).toUInt32).toInt32) &&& (3 : Int32)) % (3 : Int32))), .unset, .unset, .unset, .unset, .unset]) at_46 rfl rfl ?_
    obtain ⟨e2, he2, hx2⟩ := own_e3 ((p4.toUInt32 >>> ((4 : Int32) &&& 31).toUInt32).toInt32)
    rw [hx2]
    show Go p e below _ (s₁.setTop (mkF m 48 #[.val (.long q1), .second, .val (.long q2), .second, .val (.long q3), .second, .val (.int p4), .val (.int p5), .val (.int (p5 &&& (3 : Int32))), .val (.int dd), .val (.int (Int32.ofNat e0)), .val (.int (Int32.ofNat e1)), .val (.int (Int32.ofNat e2)), .unset, .unset, .unset, .unset, .unset] []))
    refine w_iload X0 (pc' := 50) at_48 rfl rfl ?_
    refine w_bipush X0 (pc' := 52) (6 : Int32) at_50 rfl rfl ?_
    refine w_iushr X0 (pc' := 53) at_52 rfl ?_
    refine w_iconst X0 (pc' := 54) (3 : Int32) at_53 rfl rfl ?_
    refine w_iand X0 (pc' := 55) at_54 rfl ?_
    refine w_iconst X0 (pc' := 56) (3 : Int32) at_55 rfl rfl ?_
    refine w_irem X0 (pc' := 57) at_56 (by decide) rfl ?_
    refine w_istore X0 (pc' := 59) (l' := #[.val (.long q1), .second, .val (.long q2), .second, .val (.long q3), .second, .val (.int p4), .val (.int p5), .val (.int (p5 &&& (3 : Int32))), .val (.int dd), .val (.int (Int32.ofNat e0)), .val (.int (Int32.ofNat e1)), .val (.int (Int32.ofNat e2)), .val (.int ((((p4.toUInt32 >>> ((6 : Int32) &&& 31).toUInt32).toInt32) &&& (3 : Int32)) % (3 : Int32))), .unset, .unset, .unset, .unset]) at_57 rfl rfl ?_
    obtain ⟨e3, he3, hx3⟩ := own_e3 ((p4.toUInt32 >>> ((6 : Int32) &&& 31).toUInt32).toInt32)
    rw [hx3]
    show Go p e below _ (s₁.setTop (mkF m 59 #[.val (.long q1), .second, .val (.long q2), .second, .val (.long q3), .second, .val (.int p4), .val (.int p5), .val (.int (p5 &&& (3 : Int32))), .val (.int dd), .val (.int (Int32.ofNat e0)), .val (.int (Int32.ofNat e1)), .val (.int (Int32.ofNat e2)), .val (.int (Int32.ofNat e3)), .unset, .unset, .unset, .unset] []))
    refine w_new X0 (pc' := 62) at_59 (hw _ (List.mem_of_getElem? (i := 0) rfl)) (hw _ (List.mem_of_getElem? (i := 1) rfl)) (hw _ (List.mem_of_getElem? (i := 2) rfl)) (by decide) (by decide) rfl fun T1 h1 b1 g1 gn1 X1 E1 A1 D1 => ?_
    have Fx_1 : Fld Z h1 b1 "com/example/gallweave/gallweave/triplets/HashedTriplets" "x" "[I" .null := D1 (Or.inl (hw _ (List.mem_of_getElem? (i := 11) rfl))) (ty := (.array .int)) (by decide)
    have Fy_1 : Fld Z h1 b1 "com/example/gallweave/gallweave/triplets/HashedTriplets" "y" "[I" .null := D1 (Or.inl (hw _ (List.mem_of_getElem? (i := 13) rfl))) (ty := (.array .int)) (by decide)
    have Fz_1 : Fld Z h1 b1 "com/example/gallweave/gallweave/triplets/HashedTriplets" "z" "[I" .null := D1 (Or.inl (hw _ (List.mem_of_getElem? (i := 15) rfl))) (ty := (.array .int)) (by decide)
    have Fcounts_1 : Fld Z h1 b1 "com/example/gallweave/gallweave/triplets/HashedTriplets" "counts" "[J" .null := D1 (Or.inl (hw _ (List.mem_of_getElem? (i := 18) rfl))) (ty := (.array .long)) (by decide)
    have Fslots_1 : Fld Z h1 b1 "com/example/gallweave/gallweave/triplets/HashedTriplets" "slots" "[I" .null := D1 (Or.inl (hw _ (List.mem_of_getElem? (i := 20) rfl))) (ty := (.array .int)) (by decide)
    have Fsize_1 : Fld Z h1 b1 "com/example/gallweave/gallweave/triplets/HashedTriplets" "size" "I" (.int (0 : Int32)) := D1 (Or.inl (hw _ (List.mem_of_getElem? (i := 41) rfl))) (ty := .int) (by decide)
    have Fdecimals_1 : Fld Z h1 b1 "com/example/gallweave/gallweave/triplets/HashedTriplets" "decimals" "[Ljava/math/BigDecimal;" .null := D1 (Or.inl (hw _ (List.mem_of_getElem? (i := 53) rfl))) (ty := (.array (.object "java/math/BigDecimal"))) (by decide)
    refine w_dup X1 (pc' := 63) at_62 rfl rfl ?_
    refine w_specialN X1 (pc' := 66) at_63 (rm1 hw (h0 := h1) (sd_size X1) b1 A1 gn1 Fx_1 Fy_1 Fz_1 Fcounts_1 Fslots_1 Fsize_1 Fdecimals_1) (hw _ (List.mem_of_getElem? (i := 3) rfl)) (hw _ (List.mem_of_getElem? (i := 4) rfl)) (hw _ (List.mem_of_getElem? (i := 2) rfl)) (hw _ (List.mem_of_getElem? (i := 5) rfl)) rfl (by decide) [] [(.ref b1)] pd_1 rfl rfl rfl rfl 1 (Nat.le_refl _) (by decide) (by decide) (by decide) (by decide) rfl fun T3 h3 X3 q3 => ?_
    obtain ⟨M, hM, O3⟩ := q3
    have E3 := O3.exa
    refine w_astore X3 (pc' := 68) (l' := #[.val (.long q1), .second, .val (.long q2), .second, .val (.long q3), .second, .val (.int p4), .val (.int p5), .val (.int (p5 &&& (3 : Int32))), .val (.int dd), .val (.int (Int32.ofNat e0)), .val (.int (Int32.ofNat e1)), .val (.int (Int32.ofNat e2)), .val (.int (Int32.ofNat e3)), .val (.ref b1), .unset, .unset, .unset]) at_66 rfl rfl rfl ?_
    refine w_iconst X3 (pc' := 69) (3 : Int32) at_68 rfl rfl ?_
    refine w_newarray X3 (pc' := 71) 3 3 at_69 (hw _ (List.mem_of_getElem? (i := 16) rfl)) (by decide) (by decide) (by decide) (by decide) (by decide) rfl fun T4 h4 b4 g4 gn4 X4 E4 A4 => ?_
    have ne_b1_b4 : b1 ≠ b4 := ne_new g4 E3.lt
    have E3_5 := Exa.ext E4 E3
    replace A4 : Ary Z h4 b4 .long 3 (fun _ => (.long (0 : Int64))) := A4
    have O4' := O3.ext' E4
    have Eo4 := O4'.exa
    refine w_astore X4 (pc' := 73) (l' := #[.val (.long q1), .second, .val (.long q2), .second, .val (.long q3), .second, .val (.int p4), .val (.int p5), .val (.int (p5 &&& (3 : Int32))), .val (.int dd), .val (.int (Int32.ofNat e0)), .val (.int (Int32.ofNat e1)), .val (.int (Int32.ofNat e2)), .val (.int (Int32.ofNat e3)), .val (.ref b1), .val (.ref b4), .unset, .unset]) at_71 rfl rfl rfl ?_
    refine w_iconst X4 (pc' := 74) (3 : Int32) at_73 rfl rfl ?_
    refine w_newarray X4 (pc' := 76) 3 3 at_74 (hw _ (List.mem_of_getElem? (i := 21) rfl)) (by decide) (by decide) (by decide) (by decide) (by decide) rfl fun T6 h6 b6 g6 gn6 X6 E6 A6 => ?_
    have ne_b1_b6 : b1 ≠ b6 := ne_new g6 Eo4.lt
    have ne_b4_b6 : b4 ≠ b6 := ne_new g6 A4.lt
    have Eo4_7 := Exa.ext E6 Eo4
    have A4_7 := A4.ext E6
    replace A6 : Ary Z h6 b6 .boolean 3 (fun _ => (.int (0 : Int32))) := A6
    have O6' := O4'.ext' E6
    have Eo6 := O6'.exa
    refine w_astore X6 (pc' := 78) (l' := #[.val (.long q1), .second, .val (.long q2), .second, .val (.long q3), .second, .val (.int p4), .val (.int p5), .val (.int (p5 &&& (3 : Int32))), .val (.int dd), .val (.int (Int32.ofNat e0)), .val (.int (Int32.ofNat e1)), .val (.int (Int32.ofNat e2)), .val (.int (Int32.ofNat e3)), .val (.ref b1), .val (.ref b4), .val (.ref b6), .unset]) at_76 rfl rfl rfl ?_
    have lM15 : M ≤ b4 := by rw [hM]; exact Nat.le_of_eq g4.symm
    have lM16 : M ≤ b6 := Nat.le_trans lM15 (Nat.le_of_lt (by rw [g6]; exact A4.lt))
    have Az15 : Ary Z h6 b4 .long 3 (fun i => .long ((fun _ => (0 : Int64)) i)) := A4_7
    have Bz16 : Ary Z h6 b6 .boolean 3 (fun i => .int (if (fun _ => false) i then (1 : Int32) else 0)) := A6.congr (fun i _ => rfl)
    refine w_join4 (fun (T : State) (h : Heap) (pr : Nat → Bool) (sm : Nat → Int64) => Sd l Z n0 x code maxLocals ret room_1 p e s m #[(.long q1), (.long q2), (.long q3), (.int p4), (.int p5)] below T h 8 397 ∧ HT Z n0 h b1 M 1 pr sm .null ∧ Ary Z h b4 .long 3 (fun i => .long (sm i)) ∧ Ary Z h b6 .boolean 3 (fun i => .int (if pr i then (1 : Int32) else 0))) (fun T h pr sm => T.setTop (mkF m 115 #[.val (.long q1), .second, .val (.long q2), .second, .val (.long q3), .second, .val (.int p4), .val (.int p5), .val (.int (p5 &&& (3 : Int32))), .val (.int dd), .val (.int (Int32.ofNat e0)), .val (.int (Int32.ofNat e1)), .val (.int (Int32.ofNat e2)), .val (.int (Int32.ofNat e3)), .val (.ref b1), .val (.ref b4), .val (.ref b6), .unset] [])) (fun T115 h115 pr115 sm115 hq => ?_) (fun J115 => ?_)
    · skip
      obtain ⟨Xj115, Oj115, Aj115, Bj115⟩ := hq
      have Ej115 := Oj115.exa
      show Go p e below _ (T115.setTop (mkF m 115 #[.val (.long q1), .second, .val (.long q2), .second, .val (.long q3), .second, .val (.int p4), .val (.int p5), .val (.int (p5 &&& (3 : Int32))), .val (.int dd), .val (.int (Int32.ofNat e0)), .val (.int (Int32.ofNat e1)), .val (.int (Int32.ofNat e2)), .val (.int (Int32.ofNat e3)), .val (.ref b1), .val (.ref b4), .val (.ref b6), .unset] []))
      refine w_join4 (fun (T : State) (h : Heap) (pr : Nat → Bool) (sm : Nat → Int64) => Sd l Z n0 x code maxLocals ret room_1 p e s m #[(.long q1), (.long q2), (.long q3), (.int p4), (.int p5)] below T h 8 397 ∧ HT Z n0 h b1 M 2 pr sm .null ∧ Ary Z h b4 .long 3 (fun i => .long (sm i)) ∧ Ary Z h b6 .boolean 3 (fun i => .int (if pr i then (1 : Int32) else 0))) (fun T h pr sm => T.setTop (mkF m 153 #[.val (.long q1), .second, .val (.long q2), .second, .val (.long q3), .second, .val (.int p4), .val (.int p5), .val (.int (p5 &&& (3 : Int32))), .val (.int dd), .val (.int (Int32.ofNat e0)), .val (.int (Int32.ofNat e1)), .val (.int (Int32.ofNat e2)), .val (.int (Int32.ofNat e3)), .val (.ref b1), .val (.ref b4), .val (.ref b6), .unset] [])) (fun T153 h153 pr153 sm153 hq => ?_) (fun J153 => ?_)
      · skip
        obtain ⟨Xj153, Oj153, Aj153, Bj153⟩ := hq
        have Ej153 := Oj153.exa
        show Go p e below _ (T153.setTop (mkF m 153 #[.val (.long q1), .second, .val (.long q2), .second, .val (.long q3), .second, .val (.int p4), .val (.int p5), .val (.int (p5 &&& (3 : Int32))), .val (.int dd), .val (.int (Int32.ofNat e0)), .val (.int (Int32.ofNat e1)), .val (.int (Int32.ofNat e2)), .val (.int (Int32.ofNat e3)), .val (.ref b1), .val (.ref b4), .val (.ref b6), .unset] []))
        refine w_join4 (fun (T : State) (h : Heap) (pr : Nat → Bool) (sm : Nat → Int64) => Sd l Z n0 x code maxLocals ret room_1 p e s m #[(.long q1), (.long q2), (.long q3), (.int p4), (.int p5)] below T h 8 397 ∧ HT Z n0 h b1 M 3 pr sm .null ∧ Ary Z h b4 .long 3 (fun i => .long (sm i)) ∧ Ary Z h b6 .boolean 3 (fun i => .int (if pr i then (1 : Int32) else 0))) (fun T h pr sm => T.setTop (mkF m 193 #[.val (.long q1), .second, .val (.long q2), .second, .val (.long q3), .second, .val (.int p4), .val (.int p5), .val (.int (p5 &&& (3 : Int32))), .val (.int dd), .val (.int (Int32.ofNat e0)), .val (.int (Int32.ofNat e1)), .val (.int (Int32.ofNat e2)), .val (.int (Int32.ofNat e3)), .val (.ref b1), .val (.ref b4), .val (.ref b6), .unset] [])) (fun T193 h193 pr193 sm193 hq => ?_) (fun J193 => ?_)
        · skip
          obtain ⟨Xj193, Oj193, Aj193, Bj193⟩ := hq
          have Ej193 := Oj193.exa
          show Go p e below _ (T193.setTop (mkF m 193 #[.val (.long q1), .second, .val (.long q2), .second, .val (.long q3), .second, .val (.int p4), .val (.int p5), .val (.int (p5 &&& (3 : Int32))), .val (.int dd), .val (.int (Int32.ofNat e0)), .val (.int (Int32.ofNat e1)), .val (.int (Int32.ofNat e2)), .val (.int (Int32.ofNat e3)), .val (.ref b1), .val (.ref b4), .val (.ref b6), .unset] []))
          refine w_iload Xj193 (pc' := 195) at_193 rfl rfl ?_
          refine w_if_eq Xj193 217 198 at_195 (by decide) rfl rfl (fun hc195 => ?_) (fun hc195 => ?_)
          · skip
            refine w_iload Xj193 (pc' := 219) at_217 rfl rfl ?_
            refine w_if_ne Xj193 268 222 at_219 (by decide) rfl rfl (fun hc219 => by exfalso; exact hc219 hc195) (fun hc219 => ?_)
            refine w_aload Xj193 (pc' := 224) at_222 rfl rfl rfl ?_
            refine w_iconst Xj193 (pc' := 225) (0 : Int32) at_224 rfl rfl ?_
            refine w_zaload Xj193 (pc' := 226) 0 (v := (.int (if pr193 0 then (1 : Int32) else 0))) at_225 Bj193 (by decide) (by decide) rfl rfl ?_
            refine w_aload Xj193 (pc' := 228) at_226 rfl rfl rfl ?_
            refine w_iconst Xj193 (pc' := 229) (0 : Int32) at_228 rfl rfl ?_
            refine w_laload Xj193 (pc' := 230) 0 (v := (.long (sm193 0))) at_229 Aj193 (by decide) (by decide) rfl rfl ?_
            refine w_staticV Xj193 (pc' := 233) at_230 (rm7 hw (h0 := h193) (sd_size Xj193) (if pr193 0 then (1 : Int32) else 0) (sm193 0)) (hw _ (List.mem_of_getElem? (i := 42) rfl)) (hw _ (List.mem_of_getElem? (i := 43) rfl)) (hw _ (List.mem_of_getElem? (i := 44) rfl)) (hw _ (List.mem_of_getElem? (i := 45) rfl)) (by decide) [(.int (if pr193 0 then (1 : Int32) else 0)), (.long (sm193 0))] [] pd_7 rfl rfl rfl rfl 0 (Nat.le_refl _) (by decide) (by decide) (by decide) (by decide) rfl fun T8 h8 v8 X8 q8 => ?_
            obtain ⟨rfl, rfl⟩ := q8
            refine w_if_eq X8 268 236 at_233 (by decide) rfl rfl (fun hc233 => ?_) (fun hc233 => ?_)
            · skip
              refine w_iconst X8 (pc' := 269) (0 : Int32) at_268 rfl rfl ?_
              refine w_istore X8 (pc' := 271) (l' := #[.val (.long q1), .second, .val (.long q2), .second, .val (.long q3), .second, .val (.int p4), .val (.int p5), .val (.int (p5 &&& (3 : Int32))), .val (.int dd), .val (.int (Int32.ofNat e0)), .val (.int (Int32.ofNat e1)), .val (.int (Int32.ofNat e2)), .val (.int (Int32.ofNat e3)), .val (.ref b1), .val (.ref b4), .val (.ref b6), .val (.int (0 : Int32))]) at_269 rfl rfl ?_
              refine w_aload X8 (pc' := 273) at_271 rfl rfl rfl ?_
              refine w_virtualV X8 (pc' := 276) at_273 (rm8 hw (h0 := h193) (sd_size X8) b1 Oj193 (by omega)) (hw _ (List.mem_of_getElem? (i := 47) rfl)) (hw _ (List.mem_of_getElem? (i := 48) rfl)) (hw _ (List.mem_of_getElem? (i := 50) rfl)) (hw _ (List.mem_of_getElem? (i := 49) rfl)) (hw _ (List.mem_of_getElem? (i := 2) rfl)) (hw _ (List.mem_of_getElem? (i := 51) rfl)) Ej193 (by decide) [] [] pd_8 rfl rfl rfl rfl 0 (Nat.le_refl _) (by decide) (by decide) (by decide) (by decide) rfl fun T9 h9 v9 X9 q9 => ?_
              obtain ⟨rfl, rfl⟩ := q9
              refine w_iload X9 (pc' := 278) at_276 rfl rfl ?_
              refine w_icmp_ne X9 285 281 at_278 (by decide) rfl rfl (fun hc278 => by exfalso; exact hc278 (by rw [own_all, if_neg (fun z => (own_okb pr193 sm193 0).mp hc233 z.1)])) (fun hc278 => ?_)
              refine w_iconst X9 (pc' := 282) (1 : Int32) at_281 rfl rfl ?_
              refine w_goto X9 (pc' := 286) at_282 (by decide) rfl ?_
              exact w_zreturn X9 at_286 rfl (by decide) (by decide)
            · skip
              refine w_aload X8 (pc' := 238) at_236 rfl rfl rfl ?_
              refine w_iconst X8 (pc' := 239) (1 : Int32) at_238 rfl rfl ?_
              refine w_zaload X8 (pc' := 240) 1 (v := (.int (if pr193 1 then (1 : Int32) else 0))) at_239 Bj193 (by decide) (by decide) rfl rfl ?_
              refine w_aload X8 (pc' := 242) at_240 rfl rfl rfl ?_
              refine w_iconst X8 (pc' := 243) (1 : Int32) at_242 rfl rfl ?_
              refine w_laload X8 (pc' := 244) 1 (v := (.long (sm193 1))) at_243 Aj193 (by decide) (by decide) rfl rfl ?_
              refine w_staticV X8 (pc' := 247) at_244 (rm7 hw (h0 := h193) (sd_size X8) (if pr193 1 then (1 : Int32) else 0) (sm193 1)) (hw _ (List.mem_of_getElem? (i := 42) rfl)) (hw _ (List.mem_of_getElem? (i := 43) rfl)) (hw _ (List.mem_of_getElem? (i := 44) rfl)) (hw _ (List.mem_of_getElem? (i := 45) rfl)) (by decide) [(.int (if pr193 1 then (1 : Int32) else 0)), (.long (sm193 1))] [] pd_7 rfl rfl rfl rfl 0 (Nat.le_refl _) (by decide) (by decide) (by decide) (by decide) rfl fun T10 h10 v10 X10 q10 => ?_
              obtain ⟨rfl, rfl⟩ := q10
              refine w_if_eq X10 268 250 at_247 (by decide) rfl rfl (fun hc247 => ?_) (fun hc247 => ?_)
              · skip
                refine w_iconst X10 (pc' := 269) (0 : Int32) at_268 rfl rfl ?_
                refine w_istore X10 (pc' := 271) (l' := #[.val (.long q1), .second, .val (.long q2), .second, .val (.long q3), .second, .val (.int p4), .val (.int p5), .val (.int (p5 &&& (3 : Int32))), .val (.int dd), .val (.int (Int32.ofNat e0)), .val (.int (Int32.ofNat e1)), .val (.int (Int32.ofNat e2)), .val (.int (Int32.ofNat e3)), .val (.ref b1), .val (.ref b4), .val (.ref b6), .val (.int (0 : Int32))]) at_269 rfl rfl ?_
                refine w_aload X10 (pc' := 273) at_271 rfl rfl rfl ?_
                refine w_virtualV X10 (pc' := 276) at_273 (rm8 hw (h0 := h193) (sd_size X10) b1 Oj193 (by omega)) (hw _ (List.mem_of_getElem? (i := 47) rfl)) (hw _ (List.mem_of_getElem? (i := 48) rfl)) (hw _ (List.mem_of_getElem? (i := 50) rfl)) (hw _ (List.mem_of_getElem? (i := 49) rfl)) (hw _ (List.mem_of_getElem? (i := 2) rfl)) (hw _ (List.mem_of_getElem? (i := 51) rfl)) Ej193 (by decide) [] [] pd_8 rfl rfl rfl rfl 0 (Nat.le_refl _) (by decide) (by decide) (by decide) (by decide) rfl fun T11 h11 v11 X11 q11 => ?_
                obtain ⟨rfl, rfl⟩ := q11
                refine w_iload X11 (pc' := 278) at_276 rfl rfl ?_
                refine w_icmp_ne X11 285 281 at_278 (by decide) rfl rfl (fun hc278 => by exfalso; exact hc278 (by rw [own_all, if_neg (fun z => (own_okb pr193 sm193 1).mp hc247 z.2.1)])) (fun hc278 => ?_)
                refine w_iconst X11 (pc' := 282) (1 : Int32) at_281 rfl rfl ?_
                refine w_goto X11 (pc' := 286) at_282 (by decide) rfl ?_
                exact w_zreturn X11 at_286 rfl (by decide) (by decide)
              · skip
                refine w_aload X10 (pc' := 252) at_250 rfl rfl rfl ?_
                refine w_iconst X10 (pc' := 253) (2 : Int32) at_252 rfl rfl ?_
                refine w_zaload X10 (pc' := 254) 2 (v := (.int (if pr193 2 then (1 : Int32) else 0))) at_253 Bj193 (by decide) (by decide) rfl rfl ?_
                refine w_aload X10 (pc' := 256) at_254 rfl rfl rfl ?_
                refine w_iconst X10 (pc' := 257) (2 : Int32) at_256 rfl rfl ?_
                refine w_laload X10 (pc' := 258) 2 (v := (.long (sm193 2))) at_257 Aj193 (by decide) (by decide) rfl rfl ?_
                refine w_staticV X10 (pc' := 261) at_258 (rm7 hw (h0 := h193) (sd_size X10) (if pr193 2 then (1 : Int32) else 0) (sm193 2)) (hw _ (List.mem_of_getElem? (i := 42) rfl)) (hw _ (List.mem_of_getElem? (i := 43) rfl)) (hw _ (List.mem_of_getElem? (i := 44) rfl)) (hw _ (List.mem_of_getElem? (i := 45) rfl)) (by decide) [(.int (if pr193 2 then (1 : Int32) else 0)), (.long (sm193 2))] [] pd_7 rfl rfl rfl rfl 0 (Nat.le_refl _) (by decide) (by decide) (by decide) (by decide) rfl fun T12 h12 v12 X12 q12 => ?_
                obtain ⟨rfl, rfl⟩ := q12
                refine w_if_eq X12 268 264 at_261 (by decide) rfl rfl (fun hc261 => ?_) (fun hc261 => ?_)
                · skip
                  refine w_iconst X12 (pc' := 269) (0 : Int32) at_268 rfl rfl ?_
                  refine w_istore X12 (pc' := 271) (l' := #[.val (.long q1), .second, .val (.long q2), .second, .val (.long q3), .second, .val (.int p4), .val (.int p5), .val (.int (p5 &&& (3 : Int32))), .val (.int dd), .val (.int (Int32.ofNat e0)), .val (.int (Int32.ofNat e1)), .val (.int (Int32.ofNat e2)), .val (.int (Int32.ofNat e3)), .val (.ref b1), .val (.ref b4), .val (.ref b6), .val (.int (0 : Int32))]) at_269 rfl rfl ?_
                  refine w_aload X12 (pc' := 273) at_271 rfl rfl rfl ?_
                  refine w_virtualV X12 (pc' := 276) at_273 (rm8 hw (h0 := h193) (sd_size X12) b1 Oj193 (by omega)) (hw _ (List.mem_of_getElem? (i := 47) rfl)) (hw _ (List.mem_of_getElem? (i := 48) rfl)) (hw _ (List.mem_of_getElem? (i := 50) rfl)) (hw _ (List.mem_of_getElem? (i := 49) rfl)) (hw _ (List.mem_of_getElem? (i := 2) rfl)) (hw _ (List.mem_of_getElem? (i := 51) rfl)) Ej193 (by decide) [] [] pd_8 rfl rfl rfl rfl 0 (Nat.le_refl _) (by decide) (by decide) (by decide) (by decide) rfl fun T13 h13 v13 X13 q13 => ?_
                  obtain ⟨rfl, rfl⟩ := q13
                  refine w_iload X13 (pc' := 278) at_276 rfl rfl ?_
                  refine w_icmp_ne X13 285 281 at_278 (by decide) rfl rfl (fun hc278 => by exfalso; exact hc278 (by rw [own_all, if_neg (fun z => (own_okb pr193 sm193 2).mp hc261 z.2.2)])) (fun hc278 => ?_)
                  refine w_iconst X13 (pc' := 282) (1 : Int32) at_281 rfl rfl ?_
                  refine w_goto X13 (pc' := 286) at_282 (by decide) rfl ?_
                  exact w_zreturn X13 at_286 rfl (by decide) (by decide)
                · skip
                  refine w_iconst X12 (pc' := 265) (1 : Int32) at_264 rfl rfl ?_
                  refine w_goto X12 (pc' := 269) at_265 (by decide) rfl ?_
                  refine w_istore X12 (pc' := 271) (l' := #[.val (.long q1), .second, .val (.long q2), .second, .val (.long q3), .second, .val (.int p4), .val (.int p5), .val (.int (p5 &&& (3 : Int32))), .val (.int dd), .val (.int (Int32.ofNat e0)), .val (.int (Int32.ofNat e1)), .val (.int (Int32.ofNat e2)), .val (.int (Int32.ofNat e3)), .val (.ref b1), .val (.ref b4), .val (.ref b6), .val (.int (1 : Int32))]) at_269 rfl rfl ?_
                  refine w_aload X12 (pc' := 273) at_271 rfl rfl rfl ?_
                  refine w_virtualV X12 (pc' := 276) at_273 (rm8 hw (h0 := h193) (sd_size X12) b1 Oj193 (by omega)) (hw _ (List.mem_of_getElem? (i := 47) rfl)) (hw _ (List.mem_of_getElem? (i := 48) rfl)) (hw _ (List.mem_of_getElem? (i := 50) rfl)) (hw _ (List.mem_of_getElem? (i := 49) rfl)) (hw _ (List.mem_of_getElem? (i := 2) rfl)) (hw _ (List.mem_of_getElem? (i := 51) rfl)) Ej193 (by decide) [] [] pd_8 rfl rfl rfl rfl 0 (Nat.le_refl _) (by decide) (by decide) (by decide) (by decide) rfl fun T14 h14 v14 X14 q14 => ?_
                  obtain ⟨rfl, rfl⟩ := q14
                  refine w_iload X14 (pc' := 278) at_276 rfl rfl ?_
                  refine w_icmp_ne X14 285 281 at_278 (by decide) rfl rfl (fun hc278 => by exfalso; exact hc278 (by rw [own_all, if_pos ⟨Decidable.not_not.mp (fun z => hc233 ((own_okb pr193 sm193 0).mpr z)), Decidable.not_not.mp (fun z => hc247 ((own_okb pr193 sm193 1).mpr z)), Decidable.not_not.mp (fun z => hc261 ((own_okb pr193 sm193 2).mpr z))⟩])) (fun hc278 => ?_)
                  refine w_iconst X14 (pc' := 282) (1 : Int32) at_281 rfl rfl ?_
                  refine w_goto X14 (pc' := 286) at_282 (by decide) rfl ?_
                  exact w_zreturn X14 at_286 rfl (by decide) (by decide)
          · skip
            refine w_aload Xj193 (pc' := 200) at_198 rfl rfl rfl ?_
            refine w_iload Xj193 (pc' := 202) at_200 rfl rfl ?_
            refine w_iload Xj193 (pc' := 204) at_202 rfl rfl ?_
            refine w_iconst Xj193 (pc' := 205) (3 : Int32) at_204 rfl rfl ?_
            refine w_iadd Xj193 (pc' := 206) at_205 rfl ?_
            rw [own_add e3 3 (3 : Int32) rfl]
            show Go p e below _ (T193.setTop (mkF m 206 #[.val (.long q1), .second, .val (.long q2), .second, .val (.long q3), .second, .val (.int p4), .val (.int p5), .val (.int (p5 &&& (3 : Int32))), .val (.int dd), .val (.int (Int32.ofNat e0)), .val (.int (Int32.ofNat e1)), .val (.int (Int32.ofNat e2)), .val (.int (Int32.ofNat e3)), .val (.ref b1), .val (.ref b4), .val (.ref b6), .unset] [(.int (Int32.ofNat (e3 + 3))), (.int (Int32.ofNat e3)), (.ref b1)]))
            refine w_iload Xj193 (pc' := 208) at_206 rfl rfl ?_
            refine w_bipush Xj193 (pc' := 210) (6 : Int32) at_208 rfl rfl ?_
            refine w_iadd Xj193 (pc' := 211) at_210 rfl ?_
            rw [own_add e3 6 (6 : Int32) rfl]
            show Go p e below _ (T193.setTop (mkF m 211 #[.val (.long q1), .second, .val (.long q2), .second, .val (.long q3), .second, .val (.int p4), .val (.int p5), .val (.int (p5 &&& (3 : Int32))), .val (.int dd), .val (.int (Int32.ofNat e0)), .val (.int (Int32.ofNat e1)), .val (.int (Int32.ofNat e2)), .val (.int (Int32.ofNat e3)), .val (.ref b1), .val (.ref b4), .val (.ref b6), .unset] [(.int (Int32.ofNat (e3 + 6))), (.int (Int32.ofNat (e3 + 3))), (.int (Int32.ofNat e3)), (.ref b1)]))
            refine w_getstatic Xj193 (pc' := 214) at_211 (host := "") (Or.inl (hw _ (List.mem_of_getElem? (i := 55) rfl))) Via.refl (Sta.ext (sd_ext Xj193 hs0 Zn) S_d) rfl fun T15 X15 => ?_
            refine w_virtualN X15 (pc' := 217) at_214 (rm9 hw (h0 := h193) (sd_size X15) b1 e3 d Oj193 (by omega) gn1 he3 (Exa.ext (sd_ext X15 hs0 Zn) E_d)) (hw _ (List.mem_of_getElem? (i := 57) rfl)) (hw _ (List.mem_of_getElem? (i := 58) rfl)) (hw _ (List.mem_of_getElem? (i := 60) rfl)) (hw _ (List.mem_of_getElem? (i := 59) rfl)) (hw _ (List.mem_of_getElem? (i := 2) rfl)) (hw _ (List.mem_of_getElem? (i := 61) rfl)) Ej193 (by decide) [(.int (Int32.ofNat e3)), (.int (Int32.ofNat (e3 + 3))), (.int (Int32.ofNat (e3 + 6))), (.ref d)] [] pd_9 rfl rfl rfl rfl 0 (Nat.le_refl _) (by decide) (by decide) (by decide) (by decide) rfl fun T16 h16 X16 q16 => ?_
            obtain ⟨bd, E16, Fd16⟩ := q16
            refine w_iload X16 (pc' := 219) at_217 rfl rfl ?_
            refine w_if_ne X16 268 222 at_219 (by decide) rfl rfl (fun hc219 => ?_) (fun hc219 => by exfalso; exact hc195 hc219)
            refine w_iconst X16 (pc' := 269) (0 : Int32) at_268 rfl rfl ?_
            refine w_istore X16 (pc' := 271) (l' := #[.val (.long q1), .second, .val (.long q2), .second, .val (.long q3), .second, .val (.int p4), .val (.int p5), .val (.int (p5 &&& (3 : Int32))), .val (.int dd), .val (.int (Int32.ofNat e0)), .val (.int (Int32.ofNat e1)), .val (.int (Int32.ofNat e2)), .val (.int (Int32.ofNat e3)), .val (.ref b1), .val (.ref b4), .val (.ref b6), .val (.int (0 : Int32))]) at_269 rfl rfl ?_
            refine w_aload X16 (pc' := 273) at_271 rfl rfl rfl ?_
            refine w_virtualV X16 (pc' := 276) at_273 (rm8d hw (h0 := h16) (sd_size X16) b1 Fd16) (hw _ (List.mem_of_getElem? (i := 47) rfl)) (hw _ (List.mem_of_getElem? (i := 48) rfl)) (hw _ (List.mem_of_getElem? (i := 50) rfl)) (hw _ (List.mem_of_getElem? (i := 49) rfl)) (hw _ (List.mem_of_getElem? (i := 2) rfl)) (hw _ (List.mem_of_getElem? (i := 51) rfl)) E16 (by decide) [] [] pd_8 rfl rfl rfl rfl 0 (Nat.le_refl _) (by decide) (by decide) (by decide) (by decide) rfl fun T17 h17 v17 X17 q17 => ?_
            obtain ⟨rfl, rfl⟩ := q17
            refine w_iload X17 (pc' := 278) at_276 rfl rfl ?_
            refine w_icmp_ne X17 285 281 at_278 (by decide) rfl rfl (fun hc278 => by exfalso; revert hc278; decide) (fun hc278 => ?_)
            refine w_iconst X17 (pc' := 282) (1 : Int32) at_281 rfl rfl ?_
            refine w_goto X17 (pc' := 286) at_282 (by decide) rfl ?_
            exact w_zreturn X17 at_286 rfl (by decide) (by decide)
        · skip
          refine w_iload Xj153 (pc' := 155) at_153 rfl rfl ?_
          refine w_iconst Xj153 (pc' := 156) (2 : Int32) at_155 rfl rfl ?_
          refine w_icmp_le Xj153 193 159 at_156 (by decide) rfl rfl (fun hc156 => ?_) (fun hc156 => ?_)
          · skip
            exact J193 _ _ _ _ ⟨sd_more Xj153 (by decide) (by decide), own_htN Oj153 (by decide), Aj153, Bj153⟩
          · skip
            refine w_aload Xj153 (pc' := 161) at_159 rfl rfl rfl ?_
            refine w_iload Xj153 (pc' := 163) at_161 rfl rfl ?_
            refine w_iload Xj153 (pc' := 165) at_163 rfl rfl ?_
            refine w_iconst Xj153 (pc' := 166) (3 : Int32) at_165 rfl rfl ?_
            refine w_iadd Xj153 (pc' := 167) at_166 rfl ?_
            rw [own_add e2 3 (3 : Int32) rfl]
            show Go p e below _ (T153.setTop (mkF m 167 #[.val (.long q1), .second, .val (.long q2), .second, .val (.long q3), .second, .val (.int p4), .val (.int p5), .val (.int (p5 &&& (3 : Int32))), .val (.int dd), .val (.int (Int32.ofNat e0)), .val (.int (Int32.ofNat e1)), .val (.int (Int32.ofNat e2)), .val (.int (Int32.ofNat e3)), .val (.ref b1), .val (.ref b4), .val (.ref b6), .unset] [(.int (Int32.ofNat (e2 + 3))), (.int (Int32.ofNat e2)), (.ref b1)]))
            refine w_iload Xj153 (pc' := 169) at_167 rfl rfl ?_
            refine w_bipush Xj153 (pc' := 171) (6 : Int32) at_169 rfl rfl ?_
            refine w_iadd Xj153 (pc' := 172) at_171 rfl ?_
            rw [own_add e2 6 (6 : Int32) rfl]
            show Go p e below _ (T153.setTop (mkF m 172 #[.val (.long q1), .second, .val (.long q2), .second, .val (.long q3), .second, .val (.int p4), .val (.int p5), .val (.int (p5 &&& (3 : Int32))), .val (.int dd), .val (.int (Int32.ofNat e0)), .val (.int (Int32.ofNat e1)), .val (.int (Int32.ofNat e2)), .val (.int (Int32.ofNat e3)), .val (.ref b1), .val (.ref b4), .val (.ref b6), .unset] [(.int (Int32.ofNat (e2 + 6))), (.int (Int32.ofNat (e2 + 3))), (.int (Int32.ofNat e2)), (.ref b1)]))
            refine w_lload Xj153 (pc' := 174) at_172 rfl rfl ?_
            refine w_virtualN Xj153 (pc' := 177) at_174 (rm3 hw (h0 := h153) (sd_size Xj153) b1 e2 q3 Oj153 (by omega) gn1 he2) (hw _ (List.mem_of_getElem? (i := 22) rfl)) (hw _ (List.mem_of_getElem? (i := 23) rfl)) (hw _ (List.mem_of_getElem? (i := 25) rfl)) (hw _ (List.mem_of_getElem? (i := 24) rfl)) (hw _ (List.mem_of_getElem? (i := 2) rfl)) (hw _ (List.mem_of_getElem? (i := 26) rfl)) Ej153 (by decide) [(.int (Int32.ofNat e2)), (.int (Int32.ofNat (e2 + 3))), (.int (Int32.ofNat (e2 + 6))), (.long q3)] [] pd_3 rfl rfl rfl rfl 0 (Nat.le_refl _) (by decide) (by decide) (by decide) (by decide) rfl fun T18 h18 X18 q18 => ?_
            obtain ⟨⟨ws18, K18, hw18⟩, O18⟩ := q18
            have E18 := O18.exa
            have Ab4_18 := Aj153.keep K18 (fun z => absurd (hw18 _ z) (Nat.not_lt.mpr lM15))
            have Ab6_18 := Bj153.keep K18 (fun z => absurd (hw18 _ z) (Nat.not_lt.mpr lM16))
            refine w_aload X18 (pc' := 179) at_177 rfl rfl rfl ?_
            refine w_iload X18 (pc' := 181) at_179 rfl rfl ?_
            refine w_dup2 X18 (pc' := 182) at_181 rfl rfl rfl ?_
            refine w_laload X18 (pc' := 183) e2 (v := (.long (sm153 e2))) at_182 Ab4_18 (own_nat e2 (by omega)) (by omega) rfl rfl ?_
            refine w_lload X18 (pc' := 185) at_183 rfl rfl ?_
            refine w_ladd X18 (pc' := 186) at_185 rfl ?_
            refine w_lastore X18 (pc' := 187) e2 at_186 Ab4_18 (own_nat e2 (by omega)) he2 gn4 rfl fun T19 h19 X19 W19 A19 => ?_
            have E18_20 := Exa.wr W19 E18
            have Ab6_20 := Ab6_18.other W19 (Ne.symm ne_b4_b6)
            have O19' := O18.oth W19 lM15
            have Eo19 := O19'.exa
            refine w_aload X19 (pc' := 189) at_187 rfl rfl rfl ?_
            refine w_iload X19 (pc' := 191) at_189 rfl rfl ?_
            refine w_iconst X19 (pc' := 192) (1 : Int32) at_191 rfl rfl ?_
            refine w_zastore X19 (pc' := 193) e2 at_192 Ab6_20 (own_nat e2 (by omega)) he2 gn6 rfl fun T21 h21 X21 W21 A21 => ?_
            have Eo19_22 := Exa.wr W21 Eo19
            have A19_22 := A19.other W21 ne_b4_b6
            have O21' := O19'.oth W21 lM16
            have Eo21 := O21'.exa
            exact J193 _ _ _ _ ⟨sd_more X21 (by decide) (by decide), own_htN O21' (by decide), A19_22.congr (fun j _ => own_cgL _ _ _ j), A21.congr (fun j _ => own_cgZ _ _ j)⟩
      · skip
        refine w_iload Xj115 (pc' := 117) at_115 rfl rfl ?_
        refine w_iconst Xj115 (pc' := 118) (1 : Int32) at_117 rfl rfl ?_
        refine w_icmp_le Xj115 153 121 at_118 (by decide) rfl rfl (fun hc118 => ?_) (fun hc118 => ?_)
        · skip
          exact J153 _ _ _ _ ⟨sd_more Xj115 (by decide) (by decide), own_htN Oj115 (by decide), Aj115, Bj115⟩
        · skip
          refine w_aload Xj115 (pc' := 123) at_121 rfl rfl rfl ?_
          refine w_iload Xj115 (pc' := 125) at_123 rfl rfl ?_
          refine w_iload Xj115 (pc' := 127) at_125 rfl rfl ?_
          refine w_iconst Xj115 (pc' := 128) (3 : Int32) at_127 rfl rfl ?_
          refine w_iadd Xj115 (pc' := 129) at_128 rfl ?_
          rw [own_add e1 3 (3 : Int32) rfl]
          show Go p e below _ (T115.setTop (mkF m 129 #[.val (.long q1), .second, .val (.long q2), .second, .val (.long q3), .second, .val (.int p4), .val (.int p5), .val (.int (p5 &&& (3 : Int32))), .val (.int dd), .val (.int (Int32.ofNat e0)), .val (.int (Int32.ofNat e1)), .val (.int (Int32.ofNat e2)), .val (.int (Int32.ofNat e3)), .val (.ref b1), .val (.ref b4), .val (.ref b6), .unset] [(.int (Int32.ofNat (e1 + 3))), (.int (Int32.ofNat e1)), (.ref b1)]))
          refine w_iload Xj115 (pc' := 131) at_129 rfl rfl ?_
          refine w_bipush Xj115 (pc' := 133) (6 : Int32) at_131 rfl rfl ?_
          refine w_iadd Xj115 (pc' := 134) at_133 rfl ?_
          rw [own_add e1 6 (6 : Int32) rfl]
          show Go p e below _ (T115.setTop (mkF m 134 #[.val (.long q1), .second, .val (.long q2), .second, .val (.long q3), .second, .val (.int p4), .val (.int p5), .val (.int (p5 &&& (3 : Int32))), .val (.int dd), .val (.int (Int32.ofNat e0)), .val (.int (Int32.ofNat e1)), .val (.int (Int32.ofNat e2)), .val (.int (Int32.ofNat e3)), .val (.ref b1), .val (.ref b4), .val (.ref b6), .unset] [(.int (Int32.ofNat (e1 + 6))), (.int (Int32.ofNat (e1 + 3))), (.int (Int32.ofNat e1)), (.ref b1)]))
          refine w_lloadN Xj115 (pc' := 135) at_134 rfl rfl ?_
          refine w_virtualN Xj115 (pc' := 138) at_135 (rm3 hw (h0 := h115) (sd_size Xj115) b1 e1 q2 Oj115 (by omega) gn1 he1) (hw _ (List.mem_of_getElem? (i := 22) rfl)) (hw _ (List.mem_of_getElem? (i := 23) rfl)) (hw _ (List.mem_of_getElem? (i := 25) rfl)) (hw _ (List.mem_of_getElem? (i := 24) rfl)) (hw _ (List.mem_of_getElem? (i := 2) rfl)) (hw _ (List.mem_of_getElem? (i := 26) rfl)) Ej115 (by decide) [(.int (Int32.ofNat e1)), (.int (Int32.ofNat (e1 + 3))), (.int (Int32.ofNat (e1 + 6))), (.long q2)] [] pd_3 rfl rfl rfl rfl 0 (Nat.le_refl _) (by decide) (by decide) (by decide) (by decide) rfl fun T23 h23 X23 q23 => ?_
          obtain ⟨⟨ws23, K23, hw23⟩, O23⟩ := q23
          have E23 := O23.exa
          have Ab4_23 := Aj115.keep K23 (fun z => absurd (hw23 _ z) (Nat.not_lt.mpr lM15))
          have Ab6_23 := Bj115.keep K23 (fun z => absurd (hw23 _ z) (Nat.not_lt.mpr lM16))
          refine w_aload X23 (pc' := 140) at_138 rfl rfl rfl ?_
          refine w_iload X23 (pc' := 142) at_140 rfl rfl ?_
          refine w_dup2 X23 (pc' := 143) at_142 rfl rfl rfl ?_
          refine w_laload X23 (pc' := 144) e1 (v := (.long (sm115 e1))) at_143 Ab4_23 (own_nat e1 (by omega)) (by omega) rfl rfl ?_
          refine w_lloadN X23 (pc' := 145) at_144 rfl rfl ?_
          refine w_ladd X23 (pc' := 146) at_145 rfl ?_
          refine w_lastore X23 (pc' := 147) e1 at_146 Ab4_23 (own_nat e1 (by omega)) he1 gn4 rfl fun T24 h24 X24 W24 A24 => ?_
          have E23_25 := Exa.wr W24 E23
          have Ab6_25 := Ab6_23.other W24 (Ne.symm ne_b4_b6)
          have O24' := O23.oth W24 lM15
          have Eo24 := O24'.exa
          refine w_aload X24 (pc' := 149) at_147 rfl rfl rfl ?_
          refine w_iload X24 (pc' := 151) at_149 rfl rfl ?_
          refine w_iconst X24 (pc' := 152) (1 : Int32) at_151 rfl rfl ?_
          refine w_zastore X24 (pc' := 153) e1 at_152 Ab6_25 (own_nat e1 (by omega)) he1 gn6 rfl fun T26 h26 X26 W26 A26 => ?_
          have Eo24_27 := Exa.wr W26 Eo24
          have A24_27 := A24.other W26 ne_b4_b6
          have O26' := O24'.oth W26 lM16
          have Eo26 := O26'.exa
          exact J153 _ _ _ _ ⟨sd_more X26 (by decide) (by decide), own_htN O26' (by decide), A24_27.congr (fun j _ => own_cgL _ _ _ j), A26.congr (fun j _ => own_cgZ _ _ j)⟩
    · skip
      refine w_iload X6 (pc' := 80) at_78 rfl rfl ?_
      refine w_if_le X6 115 83 at_80 (by decide) rfl rfl (fun hc80 => ?_) (fun hc80 => ?_)
      · skip
        exact J115 _ _ _ _ ⟨sd_more X6 (by decide) (by decide), own_htN O6' (by decide), Az15, Bz16⟩
      · skip
        refine w_aload X6 (pc' := 85) at_83 rfl rfl rfl ?_
        refine w_iload X6 (pc' := 87) at_85 rfl rfl ?_
        refine w_iload X6 (pc' := 89) at_87 rfl rfl ?_
        refine w_iconst X6 (pc' := 90) (3 : Int32) at_89 rfl rfl ?_
        refine w_iadd X6 (pc' := 91) at_90 rfl ?_
        rw [own_add e0 3 (3 : Int32) rfl]
        show Go p e below _ (T6.setTop (mkF m 91 #[.val (.long q1), .second, .val (.long q2), .second, .val (.long q3), .second, .val (.int p4), .val (.int p5), .val (.int (p5 &&& (3 : Int32))), .val (.int dd), .val (.int (Int32.ofNat e0)), .val (.int (Int32.ofNat e1)), .val (.int (Int32.ofNat e2)), .val (.int (Int32.ofNat e3)), .val (.ref b1), .val (.ref b4), .val (.ref b6), .unset] [(.int (Int32.ofNat (e0 + 3))), (.int (Int32.ofNat e0)), (.ref b1)]))
        refine w_iload X6 (pc' := 93) at_91 rfl rfl ?_
        refine w_bipush X6 (pc' := 95) (6 : Int32) at_93 rfl rfl ?_
        refine w_iadd X6 (pc' := 96) at_95 rfl ?_
        rw [own_add e0 6 (6 : Int32) rfl]
        show Go p e below _ (T6.setTop (mkF m 96 #[.val (.long q1), .second, .val (.long q2), .second, .val (.long q3), .second, .val (.int p4), .val (.int p5), .val (.int (p5 &&& (3 : Int32))), .val (.int dd), .val (.int (Int32.ofNat e0)), .val (.int (Int32.ofNat e1)), .val (.int (Int32.ofNat e2)), .val (.int (Int32.ofNat e3)), .val (.ref b1), .val (.ref b4), .val (.ref b6), .unset] [(.int (Int32.ofNat (e0 + 6))), (.int (Int32.ofNat (e0 + 3))), (.int (Int32.ofNat e0)), (.ref b1)]))
        refine w_lloadN X6 (pc' := 97) at_96 rfl rfl ?_
        refine w_virtualN X6 (pc' := 100) at_97 (rm3 hw (h0 := h6) (sd_size X6) b1 e0 q1 O6' (by omega) gn1 he0) (hw _ (List.mem_of_getElem? (i := 22) rfl)) (hw _ (List.mem_of_getElem? (i := 23) rfl)) (hw _ (List.mem_of_getElem? (i := 25) rfl)) (hw _ (List.mem_of_getElem? (i := 24) rfl)) (hw _ (List.mem_of_getElem? (i := 2) rfl)) (hw _ (List.mem_of_getElem? (i := 26) rfl)) Eo6 (by decide) [(.int (Int32.ofNat e0)), (.int (Int32.ofNat (e0 + 3))), (.int (Int32.ofNat (e0 + 6))), (.long q1)] [] pd_3 rfl rfl rfl rfl 0 (Nat.le_refl _) (by decide) (by decide) (by decide) (by decide) rfl fun T28 h28 X28 q28 => ?_
        obtain ⟨⟨ws28, K28, hw28⟩, O28⟩ := q28
        have E28 := O28.exa
        have Ab4_28 := Az15.keep K28 (fun z => absurd (hw28 _ z) (Nat.not_lt.mpr lM15))
        have Ab6_28 := Bz16.keep K28 (fun z => absurd (hw28 _ z) (Nat.not_lt.mpr lM16))
        refine w_aload X28 (pc' := 102) at_100 rfl rfl rfl ?_
        refine w_iload X28 (pc' := 104) at_102 rfl rfl ?_
        refine w_dup2 X28 (pc' := 105) at_104 rfl rfl rfl ?_
        refine w_laload X28 (pc' := 106) e0 (v := (.long ((fun _ => 0) e0))) at_105 Ab4_28 (own_nat e0 (by omega)) (by omega) rfl rfl ?_
        refine w_lloadN X28 (pc' := 107) at_106 rfl rfl ?_
        refine w_ladd X28 (pc' := 108) at_107 rfl ?_
        refine w_lastore X28 (pc' := 109) e0 at_108 Ab4_28 (own_nat e0 (by omega)) he0 gn4 rfl fun T29 h29 X29 W29 A29 => ?_
        have E28_30 := Exa.wr W29 E28
        have Ab6_30 := Ab6_28.other W29 (Ne.symm ne_b4_b6)
        have O29' := O28.oth W29 lM15
        have Eo29 := O29'.exa
        refine w_aload X29 (pc' := 111) at_109 rfl rfl rfl ?_
        refine w_iload X29 (pc' := 113) at_111 rfl rfl ?_
        refine w_iconst X29 (pc' := 114) (1 : Int32) at_113 rfl rfl ?_
        refine w_zastore X29 (pc' := 115) e0 at_114 Ab6_30 (own_nat e0 (by omega)) he0 gn6 rfl fun T31 h31 X31 W31 A31 => ?_
        have Eo29_32 := Exa.wr W31 Eo29
        have A29_32 := A29.other W31 ne_b4_b6
        have O31' := O29'.oth W31 lM16
        have Eo31 := O31'.exa
        exact J115 _ _ _ _ ⟨sd_more X31 (by decide) (by decide), own_htN O31' (by decide), A29_32.congr (fun j _ => own_cgL _ _ _ j), A31.congr (fun j _ => own_cgZ _ _ j)⟩
  · skip
    refine w_iload X0 (pc' := 8) at_6 rfl rfl ?_
    refine w_iconst X0 (pc' := 9) (4 : Int32) at_8 rfl rfl ?_
    refine w_iand X0 (pc' := 10) at_9 rfl ?_
    refine w_if_eq X0 17 13 at_10 (by decide) rfl rfl (fun hc10 => ?_) (fun hc10 => ?_)
    · skip
      refine w_iconst X0 (pc' := 18) (0 : Int32) at_17 rfl rfl ?_
      refine w_istore X0 (pc' := 20) (l' := #[.val (.long q1), .second, .val (.long q2), .second, .val (.long q3), .second, .val (.int p4), .val (.int p5), .val (.int (p5 &&& (3 : Int32))), .val (.int (0 : Int32)), .unset, .unset, .unset, .unset, .unset, .unset, .unset, .unset]) at_18 rfl rfl ?_
      exact J20 _ trivial
    · skip
      refine w_iconst X0 (pc' := 14) (1 : Int32) at_13 rfl rfl ?_
      refine w_goto X0 (pc' := 18) at_14 (by decide) rfl ?_
      refine w_istore X0 (pc' := 20) (l' := #[.val (.long q1), .second, .val (.long q2), .second, .val (.long q3), .second, .val (.int p4), .val (.int p5), .val (.int (p5 &&& (3 : Int32))), .val (.int (1 : Int32)), .unset, .unset, .unset, .unset, .unset, .unset, .unset, .unset]) at_18 rfl rfl ?_
      exact J20 _ trivial
set_option maxRecDepth 65536 in
set_option maxHeartbeats 40000000 in
theorem comes_1 {Post : Tables → Env → Array Value → State → Outcome → State → Prop} (hpost : ∀ tb e args s v u, (limb_1_1.after args s (.returned v) u = true ∧ limb_1_2.after args s (.returned v) u = true ∧ True) → FrameEnd s (.returned v) u (Jvm.fieldLocs frame_1_writes args s ++ Jvm.arrayLocs frame_1_arrays args s ++ Jvm.staticLocs frame_1_statics s) 32 1024 → Post tb e args s (.returned v) u) :
    ArmFor flags0 classFile x code maxLocals ret World_1 tables_1 room_1 Calls_1 rest_1 Pre_1 Post := by
  intro l hfl _ _ p e ha hc hk s m args below hf hA hF happ hP
  obtain ⟨hcalls, hrest, hpre⟩ := hP
  obtain ⟨-, -, -, hnamed, -, -, -, hat⟩ := (Spec.applies_iff hf).mp happ
  obtain ⟨hg, hn⟩ := and_e (Cond.before_iff.mp (show (Jvm.Cond.and given_1 narrow_1).before args s = true from hpre))
  obtain ⟨hcount, k0⟩ := and_e hg
  obtain ⟨ka0, k1⟩ := and_e k0
  obtain ⟨ka1, k2⟩ := and_e k1
  obtain ⟨ka2, k3⟩ := and_e k2
  obtain ⟨ka3, k4⟩ := and_e k3
  obtain ⟨w0, w1, w2, w3, w4, rfl⟩ : ∃ w0 w1 w2 w3 w4 : Value, args = #[w0, w1, w2, w3, w4] := by
    have hs : args.size = 5 := by simpa [Cond.value, given_1] using hcount
    obtain ⟨L⟩ := args
    match L, hs with
    | [w0, w1, w2, w3, w4], _ => exact ⟨w0, w1, w2, w3, w4, rfl⟩
  have hw := fun d (hd : d ∈ tables_1) => atoms_spec (ws := Jvm.Cond.code x code maxLocals ret :: tables_1) hat d (List.mem_cons_of_mem _ hd)
  have hfit : Fit s := fun {y c} hc i hi => by
    obtain ⟨ha, rfl⟩ := Array.getElem?_eq_some_iff.mp hc
    have q := List.all_eq_true.mp ((Array.all_eq_true_iff_forall_mem.mp hF) _ (Array.getElem_mem ha)) i (List.mem_range.mpr hi)
    simpa [Array.getElem?_eq_getElem hi] using q
  obtain ⟨hsets, hown0⟩ := atoms_of _ (rest_1_c_eq ▸ (show rest_1_c.before _ s = true from hrest))
  have hr0 := Cond.before_iff.mp hown0
  obtain ⟨i0, ei0⟩ := isL_v ka0
  obtain rfl : w0 = (.long i0) := Option.some.inj ei0
  obtain ⟨i1, ei1⟩ := isL_v ka1
  obtain rfl : w1 = (.long i1) := Option.some.inj ei1
  obtain ⟨i2, ei2⟩ := isL_v ka2
  obtain rfl : w2 = (.long i2) := Option.some.inj ei2
  obtain ⟨i3, ei3⟩ := is_v ka3
  obtain rfl : w3 = (.int i3) := Option.some.inj ei3
  obtain ⟨i4, ei4⟩ := is_v k4
  obtain rfl : w4 = (.int i4) := Option.some.inj ei4
  have z4 := hsets _ (List.mem_of_getElem? (i := 4) rfl)
  obtain ⟨d, e_d⟩ := exa_v (Cond.before_iff.mp z4)
  have S_d : Sta s s.heap "java/math/BigDecimal" "ONE" "Ljava/math/BigDecimal;" (.ref d) := Sta.start e_d (Or.inl (hsets _ (List.mem_of_getElem? (i := 1) rfl)))
  have E_d : Exa s s.heap d "java/math/BigDecimal" := Exa.start e_d (Cond.before_iff.mp z4)
  obtain ⟨n, o, h1, h2, h3, _, L, rfl, ⟨N, _, rfl, rfl⟩, hq⟩ := rm0 (l := l) hw (Nat.le_refl s.heap.size) i0 i1 i2 i3 i4 (Nat.le_refl _) S_d E_d tables_1 p e ha hc hk s m _ below hf ((Spec.applies_iff_loose hf).mp happ).1 ⟨rfl, State.Warmed39.refl s, rfl⟩ trivial
  exact ⟨n, _, h1, h2, h3, hpost _ _ _ _ _ _ ⟨Cond.after_iff.mpr rfl, Cond.after_iff.mpr (eq_i res_at (Term.int_eval (1)) rfl), trivial⟩ ⟨hq.1, hq.2.1, (hq.2.2.sift fun y hy => Or.inr (N y hy)).mono (by decide) (by decide)⟩⟩
theorem main_1_1 : Claimed_1_1 := comes_1 fun _ _ _ _ _ _ h hF => ⟨h.1, hF⟩
theorem main_1_2 : Claimed_1_2 := comes_1 fun _ _ _ _ _ _ h hF => ⟨h.2.1, hF⟩
end Jvm.Pilot.@@N@@
namespace Jvm.Pilot.@@N@@
open Jvm Jvm.ClassFile Sem Op Lib Jvm.Free Jvm.Stand Jvm.Pilot.@@N@@.Jvm.D
/-! MADE BY PROGRAM (witnessworld.py) out of the Statement's table words and the real class files: 18 classes; the members and pool entries that the words name. The judged class is class 1, her method 1. -/
namespace start1
open Jvm.ClassFile
def u (s : String) : CpInfo := .utf8 (stringToUtf16 s)
/-- a pool by its gaps: so many unusable entries, then the entry; so many at the end -/
def gap : Nat → List CpInfo → List CpInfo
  | 0, r => r
  | n + 1, r => .unusable :: gap n r
def poolList (es : List (Nat × CpInfo)) (last : Nat) : List CpInfo := es.foldr (fun e r => gap e.1 (e.2 :: r)) (gap last [])
def pool (es : List (Nat × CpInfo)) (last : Nat) : Array CpInfo := ⟨poolList es last⟩
def fileOf (pool : Array CpInfo) (this : Nat) (attrs : Array Attribute := #[]) (ms : Array MethodInfo := #[]) (fl : Nat := 33) (sup : Nat := 0) (ifs : Array Nat := #[]) (fds : Array FieldInfo := #[]) : ClassFile where
  minorVersion := 0
  majorVersion := 65
  constantPool := pool
  accessFlags := fl
  thisClass := this
  superClass := sup
  interfaces := ifs
  fields := fds
  methods := ms
  attributes := attrs
def plain (name : String) (sup : Option ClassId) : Class where
  name := name
  kind := .ordinary
  loader := none
  accessFlags := 33
  super := sup
  interfaces := #[]
  cf := none
  fields := #[]
  methods := #[]
  instanceTypes := #[]
  staticTypes := #[]
  resolved := #[]
  callSites := []
  init := .initialized
  statics := none
  mirror := none

def pool0 : Array CpInfo := pool [(5, u "<init>"), (0, u "()V"), (1, .class_ 10), (1, u "java/lang/Object")] 113

def k0c0 : Code := { maxStack := 0, maxLocals := 1, code := object_method_1_code, exceptionTable := #[], attributes := #[] }
def k0m0 : Method := { name := "<init>", desc := "()V", sig := { parameters := [], returnType := none }, accessFlags := 1, code := some k0c0 }
/-- java/lang/Object -/
def k0 : Class := { plain "java/lang/Object" none with
  accessFlags := 33
  interfaces := #[]
  cf := some (fileOf pool0 8 #[] #[{ accessFlags := 1, nameIndex := 5, descriptorIndex := 6, attributes := #[] }] 33 0 #[] #[])
  fields := #[]
  methods := #[k0m0]
  instanceTypes := #[]
  staticTypes := #[]
  resolved := Array.replicate 124 none
  statics := none }

def pool1 : Array CpInfo := pool [(2, .class_ 4), (0, .nameAndType 5 6), (0, u "java/lang/Object"), (0, u "<init>"), (0, u "()V"), (0, .class_ 8), (0, u "com/example/gallweave/gallweave/triplets/HashedTriplets"), (0, .methodref 7 3), (0, .methodref 7 11), (0, .nameAndType 12 13), (0, u "count"), (0, u "(IIIJ)V"), (0, .fieldref 15 16), (0, .class_ 17), (0, .nameAndType 18 19), (0, u "java/math/BigDecimal"), (0, u "ONE"), (0, u "Ljava/math/BigDecimal;"), (0, .methodref 7 21), (0, .nameAndType 22 23), (0, u "add"), (0, u "(IIILjava/math/BigDecimal;)V"), (0, .methodref 25 26), (0, .class_ 27), (0, .nameAndType 28 29), (0, u "com/example/gallweave/gallweave/triplets/HashedTripletsHasOnlyIntCountsPinLaw"), (0, u "ok"), (0, u "(ZJ)Z"), (0, .methodref 7 31), (0, .nameAndType 32 33), (0, u "hasOnlyIntCounts"), (0, u "()Z"), (2, .long 2147483647), (3, u "law"), (0, u "(JJJII)Z")] 7

def k1m0 : Method := { name := "<init>", desc := "()V", sig := { parameters := [], returnType := none }, accessFlags := 1, code := none }
def k1c1 : Code := { maxStack := 6, maxLocals := 18, code := code, exceptionTable := #[], attributes := #[] }
def k1m1 : Method := { name := "law", desc := "(JJJII)Z", sig := { parameters := [.long, .long, .long, .int, .int], returnType := some .boolean }, accessFlags := 9, code := some k1c1 }
def k1c2 : Code := { maxStack := 4, maxLocals := 3, code := method_3_code, exceptionTable := #[], attributes := #[] }
def k1m2 : Method := { name := "ok", desc := "(ZJ)Z", sig := { parameters := [.boolean, .long], returnType := some .boolean }, accessFlags := 10, code := some k1c2 }
/-- com/example/gallweave/gallweave/triplets/HashedTripletsHasOnlyIntCountsPinLaw -/
def k1 : Class := { plain "com/example/gallweave/gallweave/triplets/HashedTripletsHasOnlyIntCountsPinLaw" (some 0) with
  accessFlags := 49
  interfaces := #[]
  cf := some (fileOf pool1 25 #[] #[{ accessFlags := 1, nameIndex := 5, descriptorIndex := 6, attributes := #[] }, { accessFlags := 9, nameIndex := 40, descriptorIndex := 41, attributes := #[] }, { accessFlags := 10, nameIndex := 28, descriptorIndex := 29, attributes := #[] }] 49 2 #[] #[])
  fields := #[]
  methods := #[k1m0, k1m1, k1m2]
  instanceTypes := #[]
  staticTypes := #[]
  resolved := Array.replicate 49 none
  statics := none }

def pool2 : Array CpInfo := pool [(1, .methodref 2 3), (0, .class_ 4), (0, .nameAndType 5 6), (0, u "java/lang/Object"), (0, u "<init>"), (0, u "()V"), (0, .fieldref 8 9), (0, .class_ 10), (0, .nameAndType 11 12), (0, u "com/example/gallweave/gallweave/triplets/HashedTriplets"), (0, u "x"), (0, u "[I"), (0, .fieldref 8 14), (0, .nameAndType 15 12), (0, u "y"), (0, .fieldref 8 17), (0, .nameAndType 18 12), (0, u "z"), (0, .fieldref 8 20), (0, .nameAndType 21 22), (0, u "counts"), (0, u "[J"), (0, .fieldref 8 24), (0, .nameAndType 25 12), (0, u "slots"), (0, .fieldref 8 27), (0, .nameAndType 28 29), (0, u "size"), (0, u "I"), (0, .methodref 8 31), (0, .nameAndType 32 33), (0, u "slot"), (0, u "(III)I"), (0, .methodref 8 35), (0, .nameAndType 36 33), (0, u "index"), (0, .fieldref 8 38), (0, .nameAndType 39 40), (0, u "decimals"), (0, u "[Ljava/math/BigDecimal;"), (0, .class_ 42), (0, u "java/math/BigDecimal"), (2, u "add"), (3, .long 2147483647), (33, .methodref 8 84), (0, .nameAndType 85 33), (0, u "hash"), (0, .integer 2654435761), (0, .integer 2146121005), (6, u "count"), (0, u "(IIIJ)V"), (0, u "(IIILjava/math/BigDecimal;)V"), (0, u "hasOnlyIntCounts"), (0, u "()Z")] 11

def k2c0 : Code := { maxStack := 2, maxLocals := 1, code := prog_52_method_1_code, exceptionTable := #[], attributes := #[] }
def k2m0 : Method := { name := "<init>", desc := "()V", sig := { parameters := [], returnType := none }, accessFlags := 0, code := some k2c0 }
def k2c1 : Code := { maxStack := 6, maxLocals := 7, code := prog_52_method_4_code, exceptionTable := #[], attributes := #[] }
def k2m1 : Method := { name := "count", desc := "(IIIJ)V", sig := { parameters := [.int, .int, .int, .long], returnType := none }, accessFlags := 0, code := some k2c1 }
def k2c2 : Code := { maxStack := 4, maxLocals := 6, code := prog_52_method_5_code, exceptionTable := #[], attributes := #[] }
def k2m2 : Method := { name := "add", desc := "(IIILjava/math/BigDecimal;)V", sig := { parameters := [.int, .int, .int, (.object "java/math/BigDecimal")], returnType := none }, accessFlags := 0, code := some k2c2 }
def k2c3 : Code := { maxStack := 4, maxLocals := 2, code := prog_52_method_6_code, exceptionTable := #[], attributes := #[] }
def k2m3 : Method := { name := "hasOnlyIntCounts", desc := "()Z", sig := { parameters := [], returnType := some .boolean }, accessFlags := 0, code := some k2c3 }
def k2c4 : Code := { maxStack := 6, maxLocals := 6, code := prog_52_method_9_code, exceptionTable := #[], attributes := #[] }
def k2m4 : Method := { name := "index", desc := "(III)I", sig := { parameters := [.int, .int, .int], returnType := some .int }, accessFlags := 2, code := some k2c4 }
def k2c5 : Code := { maxStack := 3, maxLocals := 7, code := prog_52_method_10_code, exceptionTable := #[], attributes := #[] }
def k2m5 : Method := { name := "slot", desc := "(III)I", sig := { parameters := [.int, .int, .int], returnType := some .int }, accessFlags := 2, code := some k2c5 }
def k2c6 : Code := { maxStack := 3, maxLocals := 4, code := prog_52_method_11_code, exceptionTable := #[], attributes := #[] }
def k2m6 : Method := { name := "hash", desc := "(III)I", sig := { parameters := [.int, .int, .int], returnType := some .int }, accessFlags := 10, code := some k2c6 }
/-- com/example/gallweave/gallweave/triplets/HashedTriplets -/
def k2 : Class := { plain "com/example/gallweave/gallweave/triplets/HashedTriplets" (some 0) with
  accessFlags := 48
  interfaces := #[]
  cf := some (fileOf pool2 8 #[] #[{ accessFlags := 0, nameIndex := 5, descriptorIndex := 6, attributes := #[] }, { accessFlags := 0, nameIndex := 94, descriptorIndex := 95, attributes := #[] }, { accessFlags := 0, nameIndex := 45, descriptorIndex := 96, attributes := #[] }, { accessFlags := 0, nameIndex := 97, descriptorIndex := 98, attributes := #[] }, { accessFlags := 2, nameIndex := 36, descriptorIndex := 33, attributes := #[] }, { accessFlags := 2, nameIndex := 32, descriptorIndex := 33, attributes := #[] }, { accessFlags := 10, nameIndex := 85, descriptorIndex := 33, attributes := #[] }] 48 2 #[] #[{ accessFlags := 2, nameIndex := 11, descriptorIndex := 12, attributes := #[] }, { accessFlags := 2, nameIndex := 15, descriptorIndex := 12, attributes := #[] }, { accessFlags := 2, nameIndex := 18, descriptorIndex := 12, attributes := #[] }, { accessFlags := 2, nameIndex := 21, descriptorIndex := 22, attributes := #[] }, { accessFlags := 2, nameIndex := 39, descriptorIndex := 40, attributes := #[] }, { accessFlags := 2, nameIndex := 28, descriptorIndex := 29, attributes := #[] }, { accessFlags := 2, nameIndex := 25, descriptorIndex := 12, attributes := #[] }])
  fields := #[{ name := "x", type := (.array .int), accessFlags := 2, slot := 0, constantValue := 0 }, { name := "y", type := (.array .int), accessFlags := 2, slot := 1, constantValue := 0 }, { name := "z", type := (.array .int), accessFlags := 2, slot := 2, constantValue := 0 }, { name := "counts", type := (.array .long), accessFlags := 2, slot := 3, constantValue := 0 }, { name := "decimals", type := (.array (.object "java/math/BigDecimal")), accessFlags := 2, slot := 4, constantValue := 0 }, { name := "size", type := .int, accessFlags := 2, slot := 5, constantValue := 0 }, { name := "slots", type := (.array .int), accessFlags := 2, slot := 6, constantValue := 0 }]
  methods := #[k2m0, k2m1, k2m2, k2m3, k2m4, k2m5, k2m6]
  instanceTypes := #[(.array .int), (.array .int), (.array .int), (.array .long), (.array (.object "java/math/BigDecimal")), .int, (.array .int)]
  staticTypes := #[]
  resolved := Array.replicate 110 none
  statics := none }

def pool3 : Array CpInfo := pool [(1, .class_ 2), (0, u "java/io/Serializable"), (0, .class_ 4), (0, u "java/lang/Object")] 2

/-- java/io/Serializable -/
def k3 : Class := { plain "java/io/Serializable" (some 0) with
  accessFlags := 1537
  interfaces := #[]
  cf := some (fileOf pool3 1 #[] #[] 1537 3 #[] #[])
  fields := #[]
  methods := #[]
  instanceTypes := #[]
  staticTypes := #[]
  resolved := Array.replicate 7 none
  statics := none }

def pool4 : Array CpInfo := pool [(2, .class_ 4), (1, u "java/lang/Object"), (0, u "<init>"), (0, u "()V"), (1, .class_ 10), (1, u "java/lang/Number"), (2, .class_ 14), (0, u "java/io/Serializable"), (0, u "serialVersionUID"), (0, u "J")] 20

def k4m0 : Method := { name := "<init>", desc := "()V", sig := { parameters := [], returnType := none }, accessFlags := 1, code := none }
/-- java/lang/Number -/
def k4 : Class := { plain "java/lang/Number" (some 0) with
  accessFlags := 1057
  interfaces := #[3]
  cf := some (fileOf pool4 8 #[] #[{ accessFlags := 1, nameIndex := 5, descriptorIndex := 6, attributes := #[] }] 1057 2 #[13] #[{ accessFlags := 26, nameIndex := 15, descriptorIndex := 16, attributes := #[] }])
  fields := #[{ name := "serialVersionUID", type := .long, accessFlags := 26, slot := 0, constantValue := 0 }]
  methods := #[k4m0]
  instanceTypes := #[]
  staticTypes := #[.long]
  resolved := Array.replicate 37 none
  statics := none }

def pool5 : Array CpInfo := pool [(1, .class_ 2), (0, u "java/lang/Comparable"), (0, .class_ 4), (0, u "java/lang/Object")] 7

/-- java/lang/Comparable -/
def k5 : Class := { plain "java/lang/Comparable" (some 0) with
  accessFlags := 1537
  interfaces := #[]
  cf := some (fileOf pool5 1 #[] #[] 1537 3 #[] #[])
  fields := #[]
  methods := #[]
  instanceTypes := #[]
  staticTypes := #[]
  resolved := Array.replicate 12 none
  statics := none }

def pool6 : Array CpInfo := pool [(3, .class_ 4), (0, u "java/math/BigDecimal"), (7, .class_ 14), (1, u "java/lang/Number"), (4, u "scale"), (0, u "I"), (2, u "precision"), (2, u "intCompact"), (0, u "J"), (2, u "intVal"), (0, u "Ljava/math/BigInteger;"), (65, u "LONG_TEN_POWERS_TABLE"), (0, u "[J"), (88, u "ZERO"), (2, u "INFLATED_BIGINT"), (15, u "TWO"), (41, u "ZERO_THROUGH_TEN"), (0, u "[Ljava/math/BigDecimal;"), (2, u "ZERO_SCALED_BY"), (60, u "$assertionsDisabled"), (0, u "Z"), (163, u "ONE_TENTH"), (0, u "Ljava/math/BigDecimal;"), (5, u "TEN"), (14, .class_ 502), (1, u "java/math/BigDecimal$1"), (15, u "ONE_HALF"), (16, u "ONE"), (107, u "stringCache"), (0, u "Ljava/lang/String;"), (52, .class_ 699), (1, u "java/math/BigDecimal$LongOverflow"), (8, u "FLOAT_10_POW"), (0, u "[F"), (39, u "DOUBLE_10_POW"), (0, u "[D"), (19, .class_ 772), (1, u "java/math/BigDecimal$StringBuilderHelper"), (35, u "BIG_TEN_POWERS_TABLE_MAX"), (2, u "BIG_TEN_POWERS_TABLE"), (0, u "[Ljava/math/BigInteger;"), (14, u "THRESHOLDS_TABLE"), (23, .class_ 853), (1, u "java/math/BigDecimal$UnsafeHolder"), (214, u "LONGLONG_TEN_POWERS_TABLE"), (0, u "[[J"), (112, u "BIG_TEN_POWERS_TABLE_INITLEN"), (113, .class_ 1297), (0, u "java/lang/Comparable"), (0, u "L"), (0, u "D"), (1, u "P_F"), (1, u "Q_MIN_F"), (1, u "Q_MAX_F"), (1, u "P_D"), (1, u "Q_MIN_D"), (1, u "Q_MAX_D"), (1, u "INFLATED"), (0, u "MAX_COMPACT_DIGITS"), (1, u "serialVersionUID"), (2, u "HALF_LONG_MAX_VALUE"), (0, u "HALF_LONG_MIN_VALUE"), (0, u "ROUND_UP"), (6, u "ROUND_DOWN"), (1, u "ROUND_CEILING"), (1, u "ROUND_FLOOR"), (1, u "ROUND_HALF_UP"), (1, u "ROUND_HALF_DOWN"), (1, u "ROUND_HALF_EVEN"), (1, u "ROUND_UNNECESSARY"), (1, u "DIV_NUM_BASE")] 294

/-- java/math/BigDecimal -/
def k6 : Class := { plain "java/math/BigDecimal" (some 4) with
  accessFlags := 33
  interfaces := #[5]
  cf := some (fileOf pool6 3 #[.nestMembers #[500, 851, 770, 697]] #[] 33 12 #[1296] #[{ accessFlags := 26, nameIndex := 1298, descriptorIndex := 1299, attributes := #[] }, { accessFlags := 26, nameIndex := 1301, descriptorIndex := 20, attributes := #[] }, { accessFlags := 26, nameIndex := 1303, descriptorIndex := 20, attributes := #[] }, { accessFlags := 26, nameIndex := 1305, descriptorIndex := 20, attributes := #[] }, { accessFlags := 26, nameIndex := 1307, descriptorIndex := 20, attributes := #[] }, { accessFlags := 26, nameIndex := 1309, descriptorIndex := 20, attributes := #[] }, { accessFlags := 26, nameIndex := 1311, descriptorIndex := 20, attributes := #[] }, { accessFlags := 18, nameIndex := 30, descriptorIndex := 31, attributes := #[] }, { accessFlags := 18, nameIndex := 19, descriptorIndex := 20, attributes := #[] }, { accessFlags := 130, nameIndex := 23, descriptorIndex := 20, attributes := #[] }, { accessFlags := 130, nameIndex := 643, descriptorIndex := 644, attributes := #[] }, { accessFlags := 24, nameIndex := 1313, descriptorIndex := 27, attributes := #[] }, { accessFlags := 26, nameIndex := 190, descriptorIndex := 31, attributes := #[] }, { accessFlags := 146, nameIndex := 26, descriptorIndex := 27, attributes := #[] }, { accessFlags := 26, nameIndex := 1314, descriptorIndex := 20, attributes := #[] }, { accessFlags := 26, nameIndex := 1316, descriptorIndex := 27, attributes := #[] }, { accessFlags := 26, nameIndex := 248, descriptorIndex := 249, attributes := #[] }, { accessFlags := 26, nameIndex := 252, descriptorIndex := 249, attributes := #[] }, { accessFlags := 26, nameIndex := 1319, descriptorIndex := 27, attributes := #[] }, { accessFlags := 26, nameIndex := 1320, descriptorIndex := 27, attributes := #[] }, { accessFlags := 25, nameIndex := 187, descriptorIndex := 479, attributes := #[] }, { accessFlags := 25, nameIndex := 535, descriptorIndex := 479, attributes := #[] }, { accessFlags := 25, nameIndex := 206, descriptorIndex := 479, attributes := #[] }, { accessFlags := 25, nameIndex := 485, descriptorIndex := 479, attributes := #[] }, { accessFlags := 26, nameIndex := 478, descriptorIndex := 479, attributes := #[] }, { accessFlags := 26, nameIndex := 518, descriptorIndex := 479, attributes := #[] }, { accessFlags := 25, nameIndex := 1321, descriptorIndex := 20, attributes := #[] }, { accessFlags := 25, nameIndex := 1328, descriptorIndex := 20, attributes := #[] }, { accessFlags := 25, nameIndex := 1330, descriptorIndex := 20, attributes := #[] }, { accessFlags := 25, nameIndex := 1332, descriptorIndex := 20, attributes := #[] }, { accessFlags := 25, nameIndex := 1334, descriptorIndex := 20, attributes := #[] }, { accessFlags := 25, nameIndex := 1336, descriptorIndex := 20, attributes := #[] }, { accessFlags := 25, nameIndex := 1338, descriptorIndex := 20, attributes := #[] }, { accessFlags := 25, nameIndex := 1340, descriptorIndex := 20, attributes := #[] }, { accessFlags := 26, nameIndex := 749, descriptorIndex := 750, attributes := #[] }, { accessFlags := 26, nameIndex := 708, descriptorIndex := 709, attributes := #[] }, { accessFlags := 26, nameIndex := 97, descriptorIndex := 98, attributes := #[] }, { accessFlags := 74, nameIndex := 811, descriptorIndex := 812, attributes := #[] }, { accessFlags := 26, nameIndex := 1182, descriptorIndex := 20, attributes := #[] }, { accessFlags := 26, nameIndex := 808, descriptorIndex := 20, attributes := #[] }, { accessFlags := 26, nameIndex := 827, descriptorIndex := 98, attributes := #[] }, { accessFlags := 26, nameIndex := 1342, descriptorIndex := 27, attributes := #[] }, { accessFlags := 26, nameIndex := 1068, descriptorIndex := 1069, attributes := #[] }, { accessFlags := 4120, nameIndex := 313, descriptorIndex := 314, attributes := #[] }])
  fields := #[{ name := "L", type := .double, accessFlags := 26, slot := 0, constantValue := 0 }, { name := "P_F", type := .int, accessFlags := 26, slot := 1, constantValue := 0 }, { name := "Q_MIN_F", type := .int, accessFlags := 26, slot := 2, constantValue := 0 }, { name := "Q_MAX_F", type := .int, accessFlags := 26, slot := 3, constantValue := 0 }, { name := "P_D", type := .int, accessFlags := 26, slot := 4, constantValue := 0 }, { name := "Q_MIN_D", type := .int, accessFlags := 26, slot := 5, constantValue := 0 }, { name := "Q_MAX_D", type := .int, accessFlags := 26, slot := 6, constantValue := 0 }, { name := "intVal", type := (.object "java/math/BigInteger"), accessFlags := 18, slot := 0, constantValue := 0 }, { name := "scale", type := .int, accessFlags := 18, slot := 1, constantValue := 0 }, { name := "precision", type := .int, accessFlags := 130, slot := 2, constantValue := 0 }, { name := "stringCache", type := (.object "java/lang/String"), accessFlags := 130, slot := 3, constantValue := 0 }, { name := "INFLATED", type := .long, accessFlags := 24, slot := 7, constantValue := 0 }, { name := "INFLATED_BIGINT", type := (.object "java/math/BigInteger"), accessFlags := 26, slot := 8, constantValue := 0 }, { name := "intCompact", type := .long, accessFlags := 146, slot := 4, constantValue := 0 }, { name := "MAX_COMPACT_DIGITS", type := .int, accessFlags := 26, slot := 9, constantValue := 0 }, { name := "serialVersionUID", type := .long, accessFlags := 26, slot := 10, constantValue := 0 }, { name := "ZERO_THROUGH_TEN", type := (.array (.object "java/math/BigDecimal")), accessFlags := 26, slot := 11, constantValue := 0 }, { name := "ZERO_SCALED_BY", type := (.array (.object "java/math/BigDecimal")), accessFlags := 26, slot := 12, constantValue := 0 }, { name := "HALF_LONG_MAX_VALUE", type := .long, accessFlags := 26, slot := 13, constantValue := 0 }, { name := "HALF_LONG_MIN_VALUE", type := .long, accessFlags := 26, slot := 14, constantValue := 0 }, { name := "ZERO", type := (.object "java/math/BigDecimal"), accessFlags := 25, slot := 15, constantValue := 0 }, { name := "ONE", type := (.object "java/math/BigDecimal"), accessFlags := 25, slot := 16, constantValue := 0 }, { name := "TWO", type := (.object "java/math/BigDecimal"), accessFlags := 25, slot := 17, constantValue := 0 }, { name := "TEN", type := (.object "java/math/BigDecimal"), accessFlags := 25, slot := 18, constantValue := 0 }, { name := "ONE_TENTH", type := (.object "java/math/BigDecimal"), accessFlags := 26, slot := 19, constantValue := 0 }, { name := "ONE_HALF", type := (.object "java/math/BigDecimal"), accessFlags := 26, slot := 20, constantValue := 0 }, { name := "ROUND_UP", type := .int, accessFlags := 25, slot := 21, constantValue := 0 }, { name := "ROUND_DOWN", type := .int, accessFlags := 25, slot := 22, constantValue := 0 }, { name := "ROUND_CEILING", type := .int, accessFlags := 25, slot := 23, constantValue := 0 }, { name := "ROUND_FLOOR", type := .int, accessFlags := 25, slot := 24, constantValue := 0 }, { name := "ROUND_HALF_UP", type := .int, accessFlags := 25, slot := 25, constantValue := 0 }, { name := "ROUND_HALF_DOWN", type := .int, accessFlags := 25, slot := 26, constantValue := 0 }, { name := "ROUND_HALF_EVEN", type := .int, accessFlags := 25, slot := 27, constantValue := 0 }, { name := "ROUND_UNNECESSARY", type := .int, accessFlags := 25, slot := 28, constantValue := 0 }, { name := "DOUBLE_10_POW", type := (.array .double), accessFlags := 26, slot := 29, constantValue := 0 }, { name := "FLOAT_10_POW", type := (.array .float), accessFlags := 26, slot := 30, constantValue := 0 }, { name := "LONG_TEN_POWERS_TABLE", type := (.array .long), accessFlags := 26, slot := 31, constantValue := 0 }, { name := "BIG_TEN_POWERS_TABLE", type := (.array (.object "java/math/BigInteger")), accessFlags := 74, slot := 32, constantValue := 0 }, { name := "BIG_TEN_POWERS_TABLE_INITLEN", type := .int, accessFlags := 26, slot := 33, constantValue := 0 }, { name := "BIG_TEN_POWERS_TABLE_MAX", type := .int, accessFlags := 26, slot := 34, constantValue := 0 }, { name := "THRESHOLDS_TABLE", type := (.array .long), accessFlags := 26, slot := 35, constantValue := 0 }, { name := "DIV_NUM_BASE", type := .long, accessFlags := 26, slot := 36, constantValue := 0 }, { name := "LONGLONG_TEN_POWERS_TABLE", type := (.array (.array .long)), accessFlags := 26, slot := 37, constantValue := 0 }, { name := "$assertionsDisabled", type := .boolean, accessFlags := 4120, slot := 38, constantValue := 0 }]
  methods := #[]
  instanceTypes := #[(.object "java/math/BigInteger"), .int, .int, (.object "java/lang/String"), .long]
  staticTypes := #[.double, .int, .int, .int, .int, .int, .int, .long, (.object "java/math/BigInteger"), .int, .long, (.array (.object "java/math/BigDecimal")), (.array (.object "java/math/BigDecimal")), .long, .long, (.object "java/math/BigDecimal"), (.object "java/math/BigDecimal"), (.object "java/math/BigDecimal"), (.object "java/math/BigDecimal"), (.object "java/math/BigDecimal"), (.object "java/math/BigDecimal"), .int, .int, .int, .int, .int, .int, .int, .int, (.array .double), (.array .float), (.array .long), (.array (.object "java/math/BigInteger")), .int, .int, (.array .long), .long, (.array (.array .long)), .boolean]
  resolved := Array.replicate 1637 none
  statics := some 0 }

def pool7 : Array CpInfo := pool [(4, .class_ 6), (1, u "java/lang/Number"), (16, .class_ 25), (1, u "java/math/BigInteger"), (0, u "ZERO"), (0, u "Ljava/math/BigInteger;"), (2, u "mag"), (0, u "[I"), (2, u "signum"), (0, u "I"), (59, u "bitsPerDigit"), (0, u "[J"), (9, u "digitsPerInt"), (12, u "intRadix"), (60, u "SMALL_PRIME_PRODUCT"), (79, u "ONE"), (6, u "TWO"), (43, u "$assertionsDisabled"), (0, u "Z"), (36, u "posConst"), (0, u "[Ljava/math/BigInteger;"), (4, u "negConst"), (116, .class_ 474), (1, u "java/math/BigInteger$RecursiveOp"), (106, u "NEGATIVE_ONE"), (91, u "bnExpModThreshTable"), (72, u "lowestSetBitPlusTwo"), (2, u "bitLengthPlusOne"), (2, u "bitCountPlusOne"), (6, u "LOG_TWO"), (0, u "D"), (2, u "logCache"), (0, u "[D"), (13, u "NUM_ZEROS"), (2, u "ZEROS"), (0, u "Ljava/lang/String;"), (9, u "longRadix"), (5, u "digitsPerLong"), (22, u "powerCache"), (0, u "[[Ljava/math/BigInteger;"), (45, u "firstNonzeroIntNumPlusTwo"), (38, .class_ 909), (1, u "java/math/BigInteger$UnsafeHolder"), (141, u "TEN"), (106, u "serialPersistentFields"), (0, u "[Ljava/io/ObjectStreamField;"), (0, .class_ 1161), (0, u "java/lang/Comparable"), (0, u "LONG_MASK"), (0, u "J"), (1, u "MAX_MAG_LENGTH"), (0, u "PRIME_SEARCH_BIT_LENGTH_LIMIT"), (1, u "KARATSUBA_THRESHOLD"), (1, u "TOOM_COOK_THRESHOLD"), (1, u "KARATSUBA_SQUARE_THRESHOLD"), (1, u "TOOM_COOK_SQUARE_THRESHOLD"), (1, u "BURNIKEL_ZIEGLER_THRESHOLD"), (0, u "BURNIKEL_ZIEGLER_OFFSET"), (1, u "SCHOENHAGE_BASE_CONVERSION_THRESHOLD"), (1, u "MULTIPLY_SQUARE_THRESHOLD"), (0, u "MONTGOMERY_INTRINSIC_THRESHOLD"), (1, u "SMALL_PRIME_THRESHOLD"), (1, u "DEFAULT_PRIME_CERTAINTY"), (1, u "MAX_CONSTANT"), (3, u "serialVersionUID"), (338, .class_ 1532), (0, u "java/math/BigInteger$RecursiveOp$RecursiveSquare"), (0, .class_ 1534), (0, u "java/math/BigInteger$RecursiveOp$RecursiveMultiply")] 7

/-- java/math/BigInteger -/
def k7 : Class := { plain "java/math/BigInteger" (some 4) with
  accessFlags := 33
  interfaces := #[5]
  cf := some (fileOf pool7 23 #[.nestMembers #[907, 472, 1531, 1533]] #[] 33 4 #[1160] #[{ accessFlags := 16, nameIndex := 34, descriptorIndex := 35, attributes := #[] }, { accessFlags := 16, nameIndex := 30, descriptorIndex := 31, attributes := #[] }, { accessFlags := 2, nameIndex := 752, descriptorIndex := 35, attributes := #[] }, { accessFlags := 2, nameIndex := 749, descriptorIndex := 35, attributes := #[] }, { accessFlags := 2, nameIndex := 746, descriptorIndex := 35, attributes := #[] }, { accessFlags := 2, nameIndex := 868, descriptorIndex := 35, attributes := #[] }, { accessFlags := 24, nameIndex := 1162, descriptorIndex := 1163, attributes := #[] }, { accessFlags := 26, nameIndex := 1165, descriptorIndex := 35, attributes := #[] }, { accessFlags := 26, nameIndex := 1166, descriptorIndex := 35, attributes := #[] }, { accessFlags := 26, nameIndex := 1168, descriptorIndex := 35, attributes := #[] }, { accessFlags := 26, nameIndex := 1170, descriptorIndex := 35, attributes := #[] }, { accessFlags := 26, nameIndex := 1172, descriptorIndex := 35, attributes := #[] }, { accessFlags := 26, nameIndex := 1174, descriptorIndex := 35, attributes := #[] }, { accessFlags := 24, nameIndex := 1176, descriptorIndex := 35, attributes := #[] }, { accessFlags := 24, nameIndex := 1177, descriptorIndex := 35, attributes := #[] }, { accessFlags := 26, nameIndex := 1179, descriptorIndex := 35, attributes := #[] }, { accessFlags := 26, nameIndex := 1181, descriptorIndex := 35, attributes := #[] }, { accessFlags := 26, nameIndex := 1182, descriptorIndex := 35, attributes := #[] }, { accessFlags := 10, nameIndex := 95, descriptorIndex := 96, attributes := #[] }, { accessFlags := 26, nameIndex := 1184, descriptorIndex := 35, attributes := #[] }, { accessFlags := 26, nameIndex := 1186, descriptorIndex := 35, attributes := #[] }, { accessFlags := 26, nameIndex := 180, descriptorIndex := 27, attributes := #[] }, { accessFlags := 26, nameIndex := 1188, descriptorIndex := 35, attributes := #[] }, { accessFlags := 26, nameIndex := 349, descriptorIndex := 350, attributes := #[] }, { accessFlags := 26, nameIndex := 355, descriptorIndex := 350, attributes := #[] }, { accessFlags := 74, nameIndex := 821, descriptorIndex := 822, attributes := #[] }, { accessFlags := 26, nameIndex := 763, descriptorIndex := 764, attributes := #[] }, { accessFlags := 26, nameIndex := 759, descriptorIndex := 760, attributes := #[] }, { accessFlags := 25, nameIndex := 26, descriptorIndex := 27, attributes := #[] }, { accessFlags := 25, nameIndex := 260, descriptorIndex := 27, attributes := #[] }, { accessFlags := 25, nameIndex := 267, descriptorIndex := 27, attributes := #[] }, { accessFlags := 26, nameIndex := 581, descriptorIndex := 27, attributes := #[] }, { accessFlags := 25, nameIndex := 1051, descriptorIndex := 27, attributes := #[] }, { accessFlags := 8, nameIndex := 673, descriptorIndex := 31, attributes := #[] }, { accessFlags := 10, nameIndex := 778, descriptorIndex := 35, attributes := #[] }, { accessFlags := 26, nameIndex := 781, descriptorIndex := 782, attributes := #[] }, { accessFlags := 10, nameIndex := 798, descriptorIndex := 31, attributes := #[] }, { accessFlags := 10, nameIndex := 792, descriptorIndex := 350, attributes := #[] }, { accessFlags := 10, nameIndex := 106, descriptorIndex := 31, attributes := #[] }, { accessFlags := 10, nameIndex := 119, descriptorIndex := 31, attributes := #[] }, { accessFlags := 26, nameIndex := 1192, descriptorIndex := 1163, attributes := #[] }, { accessFlags := 26, nameIndex := 1158, descriptorIndex := 1159, attributes := #[] }, { accessFlags := 4120, nameIndex := 311, descriptorIndex := 312, attributes := #[] }])
  fields := #[{ name := "signum", type := .int, accessFlags := 16, slot := 0, constantValue := 0 }, { name := "mag", type := (.array .int), accessFlags := 16, slot := 1, constantValue := 0 }, { name := "bitCountPlusOne", type := .int, accessFlags := 2, slot := 2, constantValue := 0 }, { name := "bitLengthPlusOne", type := .int, accessFlags := 2, slot := 3, constantValue := 0 }, { name := "lowestSetBitPlusTwo", type := .int, accessFlags := 2, slot := 4, constantValue := 0 }, { name := "firstNonzeroIntNumPlusTwo", type := .int, accessFlags := 2, slot := 5, constantValue := 0 }, { name := "LONG_MASK", type := .long, accessFlags := 24, slot := 0, constantValue := 0 }, { name := "MAX_MAG_LENGTH", type := .int, accessFlags := 26, slot := 1, constantValue := 0 }, { name := "PRIME_SEARCH_BIT_LENGTH_LIMIT", type := .int, accessFlags := 26, slot := 2, constantValue := 0 }, { name := "KARATSUBA_THRESHOLD", type := .int, accessFlags := 26, slot := 3, constantValue := 0 }, { name := "TOOM_COOK_THRESHOLD", type := .int, accessFlags := 26, slot := 4, constantValue := 0 }, { name := "KARATSUBA_SQUARE_THRESHOLD", type := .int, accessFlags := 26, slot := 5, constantValue := 0 }, { name := "TOOM_COOK_SQUARE_THRESHOLD", type := .int, accessFlags := 26, slot := 6, constantValue := 0 }, { name := "BURNIKEL_ZIEGLER_THRESHOLD", type := .int, accessFlags := 24, slot := 7, constantValue := 0 }, { name := "BURNIKEL_ZIEGLER_OFFSET", type := .int, accessFlags := 24, slot := 8, constantValue := 0 }, { name := "SCHOENHAGE_BASE_CONVERSION_THRESHOLD", type := .int, accessFlags := 26, slot := 9, constantValue := 0 }, { name := "MULTIPLY_SQUARE_THRESHOLD", type := .int, accessFlags := 26, slot := 10, constantValue := 0 }, { name := "MONTGOMERY_INTRINSIC_THRESHOLD", type := .int, accessFlags := 26, slot := 11, constantValue := 0 }, { name := "bitsPerDigit", type := (.array .long), accessFlags := 10, slot := 12, constantValue := 0 }, { name := "SMALL_PRIME_THRESHOLD", type := .int, accessFlags := 26, slot := 13, constantValue := 0 }, { name := "DEFAULT_PRIME_CERTAINTY", type := .int, accessFlags := 26, slot := 14, constantValue := 0 }, { name := "SMALL_PRIME_PRODUCT", type := (.object "java/math/BigInteger"), accessFlags := 26, slot := 15, constantValue := 0 }, { name := "MAX_CONSTANT", type := .int, accessFlags := 26, slot := 16, constantValue := 0 }, { name := "posConst", type := (.array (.object "java/math/BigInteger")), accessFlags := 26, slot := 17, constantValue := 0 }, { name := "negConst", type := (.array (.object "java/math/BigInteger")), accessFlags := 26, slot := 18, constantValue := 0 }, { name := "powerCache", type := (.array (.array (.object "java/math/BigInteger"))), accessFlags := 74, slot := 19, constantValue := 0 }, { name := "logCache", type := (.array .double), accessFlags := 26, slot := 20, constantValue := 0 }, { name := "LOG_TWO", type := .double, accessFlags := 26, slot := 21, constantValue := 0 }, { name := "ZERO", type := (.object "java/math/BigInteger"), accessFlags := 25, slot := 22, constantValue := 0 }, { name := "ONE", type := (.object "java/math/BigInteger"), accessFlags := 25, slot := 23, constantValue := 0 }, { name := "TWO", type := (.object "java/math/BigInteger"), accessFlags := 25, slot := 24, constantValue := 0 }, { name := "NEGATIVE_ONE", type := (.object "java/math/BigInteger"), accessFlags := 26, slot := 25, constantValue := 0 }, { name := "TEN", type := (.object "java/math/BigInteger"), accessFlags := 25, slot := 26, constantValue := 0 }, { name := "bnExpModThreshTable", type := (.array .int), accessFlags := 8, slot := 27, constantValue := 0 }, { name := "NUM_ZEROS", type := .int, accessFlags := 10, slot := 28, constantValue := 0 }, { name := "ZEROS", type := (.object "java/lang/String"), accessFlags := 26, slot := 29, constantValue := 0 }, { name := "digitsPerLong", type := (.array .int), accessFlags := 10, slot := 30, constantValue := 0 }, { name := "longRadix", type := (.array (.object "java/math/BigInteger")), accessFlags := 10, slot := 31, constantValue := 0 }, { name := "digitsPerInt", type := (.array .int), accessFlags := 10, slot := 32, constantValue := 0 }, { name := "intRadix", type := (.array .int), accessFlags := 10, slot := 33, constantValue := 0 }, { name := "serialVersionUID", type := .long, accessFlags := 26, slot := 34, constantValue := 0 }, { name := "serialPersistentFields", type := (.array (.object "java/io/ObjectStreamField")), accessFlags := 26, slot := 35, constantValue := 0 }, { name := "$assertionsDisabled", type := .boolean, accessFlags := 4120, slot := 36, constantValue := 0 }]
  methods := #[]
  instanceTypes := #[.int, (.array .int), .int, .int, .int, .int]
  staticTypes := #[.long, .int, .int, .int, .int, .int, .int, .int, .int, .int, .int, .int, (.array .long), .int, .int, (.object "java/math/BigInteger"), .int, (.array (.object "java/math/BigInteger")), (.array (.object "java/math/BigInteger")), (.array (.array (.object "java/math/BigInteger"))), (.array .double), .double, (.object "java/math/BigInteger"), (.object "java/math/BigInteger"), (.object "java/math/BigInteger"), (.object "java/math/BigInteger"), (.object "java/math/BigInteger"), (.array .int), .int, (.object "java/lang/String"), (.array .int), (.array (.object "java/math/BigInteger")), (.array .int), (.array .int), .long, (.array (.object "java/io/ObjectStreamField")), .boolean]
  resolved := Array.replicate 1542 none
  statics := some 1 }

def pool8 : Array CpInfo := pool [(1, u "java/lang/Cloneable"), (0, .class_ 1), (0, u "java/lang/Object"), (0, .class_ 3)] 3

/-- java/lang/Cloneable -/
def k8 : Class := { plain "java/lang/Cloneable" (some 0) with
  accessFlags := 1537
  interfaces := #[]
  cf := some (fileOf pool8 2 #[] #[] 1537 4 #[] #[])
  fields := #[]
  methods := #[]
  instanceTypes := #[]
  staticTypes := #[]
  resolved := Array.replicate 8 none
  statics := none }

/-- the primitive boolean -/
def k9 : Class := { plain "boolean" none with kind := .primitive 'Z', accessFlags := 0x411 }
/-- [Z -/
def k10 : Class := { plain "[Z" (some 0) with kind := .array 9 .boolean, interfaces := #[8, 3], accessFlags := 1041 }

/-- the primitive byte -/
def k11 : Class := { plain "byte" none with kind := .primitive 'B', accessFlags := 0x411 }
/-- [B -/
def k12 : Class := { plain "[B" (some 0) with kind := .array 11 .byte, interfaces := #[8, 3], accessFlags := 1041 }

/-- the primitive int -/
def k13 : Class := { plain "int" none with kind := .primitive 'I', accessFlags := 0x411 }
/-- [I -/
def k14 : Class := { plain "[I" (some 0) with kind := .array 13 .int, interfaces := #[8, 3], accessFlags := 1041 }

/-- the primitive long -/
def k15 : Class := { plain "long" none with kind := .primitive 'J', accessFlags := 0x411 }
/-- [J -/
def k16 : Class := { plain "[J" (some 0) with kind := .array 15 .long, interfaces := #[8, 3], accessFlags := 1041 }

/-- [Ljava/math/BigDecimal; -/
def k17 : Class := { plain "[Ljava/math/BigDecimal;" (some 0) with kind := .array 6 (.object "java/math/BigDecimal"), interfaces := #[8, 3], accessFlags := 1041 }

def heap : Heap := #[{ cls := 6, slots := #[.double 0, .int 0, .int 0, .int 0, .int 0, .int 0, .int 0, .long 0, .null, .int 0, .long 0, .null, .null, .long 0, .long 0, .null, .ref 2, .null, .null, .null, .null, .int 0, .int 0, .int 0, .int 0, .int 0, .int 0, .int 0, .int 0, .null, .null, .null, .null, .int 0, .int 0, .null, .long 0, .null, .int 0], vm := .statics 6 },
  { cls := 7, slots := #[.long 0, .int 0, .int 0, .int 0, .int 0, .int 0, .int 0, .int 0, .int 0, .int 0, .int 0, .int 0, .null, .int 0, .int 0, .null, .int 0, .null, .null, .null, .null, .double 0, .null, .ref 3, .null, .null, .null, .null, .int 0, .null, .null, .null, .null, .null, .long 0, .null, .int 0], vm := .statics 7 },
  { cls := 6, slots := #[.ref 3, .int 0, .int 0, .null, .long 1], vm := .none },
  { cls := 7, slots := #[.int 1, .ref 4, .int 0, .int 0, .int 0, .int 0], vm := .none },
  { cls := 14, slots := #[.int 1], vm := .none }]
def classes : Array Class := #[k0, k1, k2, k3, k4, k5, k6, k7, k8, k9, k10, k11, k12, k13, k14, k15, k16, k17]
def interned : List (Array UInt16 × Addr) := []
def slotsUsed : Nat := 88
def theMethod : MethodId := ⟨1, 1⟩
def args0 : Array Value := #[.long 5, .long 6, .long 7, .int 27, .int 3]
def aboutOver (below : List Frame) : State where
  vm := { classes := classes, interned := interned.toArray }
  heap := heap
  slotsUsed := slotsUsed
  threads := #[{ frames := .invoking theMethod args0 :: below }]
def below0 : List Frame := [.native { method := ⟨0, 0⟩, args := #[] }]
def about1 : State := aboutOver below0
def p0 : Program := .bare "" "" ""
def e0 : Env := launch0.env 0 0 0
theorem w_frames : about1.frames = Frame.invoking theMethod args0 :: below0 := rfl
set_option maxRecDepth 65536 in
theorem w_args : argsFit about1.vm theMethod args0 = true := by decide +kernel
set_option maxRecDepth 65536 in
theorem w_heap : heapFits about1 = true := by decide +kernel
set_option maxRecDepth 65536 in
theorem w_runnable : about1.curStatus? = some .runnable := by decide +kernel
set_option maxRecDepth 65536 in
theorem w_alone : about1.alone = true := by decide +kernel
set_option maxRecDepth 65536 in
theorem w_named : about1.methodNamed? x = some theMethod := by decide +kernel
set_option maxRecDepth 65536 in
theorem w_hears : about1.hears theMethod below0 = true := by decide +kernel
set_option maxRecDepth 65536 in
theorem w_ripe : about1.ripe theMethod args0 below0 = true := by decide +kernel
theorem w_running : about1.status = .running := rfl
set_option maxRecDepth 65536 in
theorem w_room : about1.hasRoom e0.platform room_1 = true :=
  launch0.hasRoom_least _ room_1 (by decide +kernel) (by decide +kernel) (by decide +kernel) (by decide +kernel) (by decide +kernel) (by decide +kernel)
theorem allAtoms_all (ts : List Jvm.Cond) (a : Array Jvm.Value) (st : Jvm.State) : (allAtoms ts).before a st = ts.all (fun c => c.before a st) := by
  induction ts with
  | nil => rfl
  | cons c t ih =>
    show (Jvm.Cond.and c (allAtoms t)).before a st = _
    rw [Jvm.Cond.before_and, ih, List.all_cons]
def words1 : List Jvm.Cond := Jvm.Cond.code x code maxLocals ret :: tables_1
/-- a 'code' word, met by the world's own term for the bytes: nothing is compared byte by byte -/
theorem code_word {y : MethodName} {bytes : ByteArray} {mx : Nat} {rt : Option FieldType} {a : Array Value} {s : State} {m : MethodId} {meth : Method} {c : Code} (h1 : s.methodNamed? y = some m) (h2 : s.vm.method? m = some meth) (h3 : meth.code = some c) (h4 : c.code = bytes)
    (h5 : (c.maxLocals == mx && c.exceptionTable.isEmpty && decide (c.maxStack ≤ mostOperands) && decide (meth.sig.returnType = rt) && !meth.locks && decide (parseMethodDescriptor y.desc = some meth.sig)) = true) : (Jvm.Cond.code y bytes mx rt).before a s = true := by
  simp only [Bool.and_eq_true, beq_iff_eq, Bool.not_eq_true', decide_eq_true_eq] at h5
  obtain ⟨⟨⟨⟨⟨g1, g2⟩, g3⟩, g4⟩, g5⟩, g6⟩ := h5
  simp [Cond.before, Cond.holds, Cond.value, h1, h2, h3, h4, g1, g2, g3, g4, g5, g6]
def isCode : Jvm.Cond → Bool
  | .code _ _ _ _ => true
  | _ => false
theorem all_split {L : List Jvm.Cond} {P : Jvm.Cond → Bool} (h1 : L.all (fun c => isCode c || P c) = true) (h2 : ∀ c ∈ L.filter isCode, P c = true) : L.all P = true := by
  refine List.all_eq_true.mpr fun c hc => ?_
  have h := List.all_eq_true.mp h1 c hc
  rcases Bool.eq_false_or_eq_true (isCode c) with hi | hi
  · exact h2 c (List.mem_filter.mpr ⟨hc, hi⟩)
  · simpa [hi] using h
set_option maxRecDepth 65536 in
theorem w_c0 : (Jvm.Cond.code x code maxLocals ret).before args0 about1 = true := code_word (m := ⟨1, 1⟩) (meth := k1m1) (c := k1c1) (by decide +kernel) rfl rfl rfl (by decide +kernel)
set_option maxRecDepth 65536 in
theorem w_c1 : (Jvm.Cond.code ({ cls := "com/example/gallweave/gallweave/triplets/HashedTriplets", name := "<init>", desc := "()V" } : Jvm.MethodName) prog_52_method_1_code (1 : Nat) (Option.none : Option Jvm.ClassFile.FieldType)).before args0 about1 = true := code_word (m := ⟨2, 0⟩) (meth := k2m0) (c := k2c0) (by decide +kernel) rfl rfl rfl (by decide +kernel)
set_option maxRecDepth 65536 in
theorem w_c2 : (Jvm.Cond.code ({ cls := "java/lang/Object", name := "<init>", desc := "()V" } : Jvm.MethodName) object_method_1_code (1 : Nat) (Option.none : Option Jvm.ClassFile.FieldType)).before args0 about1 = true := code_word (m := ⟨0, 0⟩) (meth := k0m0) (c := k0c0) (by decide +kernel) rfl rfl rfl (by decide +kernel)
set_option maxRecDepth 65536 in
theorem w_c3 : (Jvm.Cond.code ({ cls := "com/example/gallweave/gallweave/triplets/HashedTriplets", name := "count", desc := "(IIIJ)V" } : Jvm.MethodName) prog_52_method_4_code (7 : Nat) (Option.none : Option Jvm.ClassFile.FieldType)).before args0 about1 = true := code_word (m := ⟨2, 1⟩) (meth := k2m1) (c := k2c1) (by decide +kernel) rfl rfl rfl (by decide +kernel)
set_option maxRecDepth 65536 in
theorem w_c4 : (Jvm.Cond.code ({ cls := "com/example/gallweave/gallweave/triplets/HashedTriplets", name := "index", desc := "(III)I" } : Jvm.MethodName) prog_52_method_9_code (6 : Nat) (Option.some Jvm.ClassFile.FieldType.int)).before args0 about1 = true := code_word (m := ⟨2, 4⟩) (meth := k2m4) (c := k2c4) (by decide +kernel) rfl rfl rfl (by decide +kernel)
set_option maxRecDepth 65536 in
theorem w_c5 : (Jvm.Cond.code ({ cls := "com/example/gallweave/gallweave/triplets/HashedTriplets", name := "slot", desc := "(III)I" } : Jvm.MethodName) prog_52_method_10_code (7 : Nat) (Option.some Jvm.ClassFile.FieldType.int)).before args0 about1 = true := code_word (m := ⟨2, 5⟩) (meth := k2m5) (c := k2c5) (by decide +kernel) rfl rfl rfl (by decide +kernel)
set_option maxRecDepth 65536 in
theorem w_c6 : (Jvm.Cond.code ({ cls := "com/example/gallweave/gallweave/triplets/HashedTriplets", name := "hash", desc := "(III)I" } : Jvm.MethodName) prog_52_method_11_code (4 : Nat) (Option.some Jvm.ClassFile.FieldType.int)).before args0 about1 = true := code_word (m := ⟨2, 6⟩) (meth := k2m6) (c := k2c6) (by decide +kernel) rfl rfl rfl (by decide +kernel)
set_option maxRecDepth 65536 in
theorem w_c7 : (Jvm.Cond.code ({ cls := "com/example/gallweave/gallweave/triplets/HashedTripletsHasOnlyIntCountsPinLaw", name := "ok", desc := "(ZJ)Z" } : Jvm.MethodName) method_3_code (3 : Nat) (Option.some Jvm.ClassFile.FieldType.boolean)).before args0 about1 = true := code_word (m := ⟨1, 2⟩) (meth := k1m2) (c := k1c2) (by decide +kernel) rfl rfl rfl (by decide +kernel)
set_option maxRecDepth 65536 in
theorem w_c8 : (Jvm.Cond.code ({ cls := "com/example/gallweave/gallweave/triplets/HashedTriplets", name := "hasOnlyIntCounts", desc := "()Z" } : Jvm.MethodName) prog_52_method_6_code (2 : Nat) (Option.some Jvm.ClassFile.FieldType.boolean)).before args0 about1 = true := code_word (m := ⟨2, 3⟩) (meth := k2m3) (c := k2c3) (by decide +kernel) rfl rfl rfl (by decide +kernel)
set_option maxRecDepth 65536 in
theorem w_c9 : (Jvm.Cond.code ({ cls := "com/example/gallweave/gallweave/triplets/HashedTriplets", name := "add", desc := "(IIILjava/math/BigDecimal;)V" } : Jvm.MethodName) prog_52_method_5_code (6 : Nat) (Option.none : Option Jvm.ClassFile.FieldType)).before args0 about1 = true := code_word (m := ⟨2, 2⟩) (meth := k2m2) (c := k2c2) (by decide +kernel) rfl rfl rfl (by decide +kernel)
def codes1 : List Jvm.Cond := [Jvm.Cond.code x code maxLocals ret, Jvm.Cond.code ({ cls := "com/example/gallweave/gallweave/triplets/HashedTriplets", name := "<init>", desc := "()V" } : Jvm.MethodName) prog_52_method_1_code (1 : Nat) (Option.none : Option Jvm.ClassFile.FieldType), Jvm.Cond.code ({ cls := "java/lang/Object", name := "<init>", desc := "()V" } : Jvm.MethodName) object_method_1_code (1 : Nat) (Option.none : Option Jvm.ClassFile.FieldType), Jvm.Cond.code ({ cls := "com/example/gallweave/gallweave/triplets/HashedTriplets", name := "count", desc := "(IIIJ)V" } : Jvm.MethodName) prog_52_method_4_code (7 : Nat) (Option.none : Option Jvm.ClassFile.FieldType), Jvm.Cond.code ({ cls := "com/example/gallweave/gallweave/triplets/HashedTriplets", name := "index", desc := "(III)I" } : Jvm.MethodName) prog_52_method_9_code (6 : Nat) (Option.some Jvm.ClassFile.FieldType.int), Jvm.Cond.code ({ cls := "com/example/gallweave/gallweave/triplets/HashedTriplets", name := "slot", desc := "(III)I" } : Jvm.MethodName) prog_52_method_10_code (7 : Nat) (Option.some Jvm.ClassFile.FieldType.int), Jvm.Cond.code ({ cls := "com/example/gallweave/gallweave/triplets/HashedTriplets", name := "hash", desc := "(III)I" } : Jvm.MethodName) prog_52_method_11_code (4 : Nat) (Option.some Jvm.ClassFile.FieldType.int), Jvm.Cond.code ({ cls := "com/example/gallweave/gallweave/triplets/HashedTripletsHasOnlyIntCountsPinLaw", name := "ok", desc := "(ZJ)Z" } : Jvm.MethodName) method_3_code (3 : Nat) (Option.some Jvm.ClassFile.FieldType.boolean), Jvm.Cond.code ({ cls := "com/example/gallweave/gallweave/triplets/HashedTriplets", name := "hasOnlyIntCounts", desc := "()Z" } : Jvm.MethodName) prog_52_method_6_code (2 : Nat) (Option.some Jvm.ClassFile.FieldType.boolean), Jvm.Cond.code ({ cls := "com/example/gallweave/gallweave/triplets/HashedTriplets", name := "add", desc := "(IIILjava/math/BigDecimal;)V" } : Jvm.MethodName) prog_52_method_5_code (6 : Nat) (Option.none : Option Jvm.ClassFile.FieldType)]
set_option maxRecDepth 65536 in
theorem codes_eq : words1.filter isCode = codes1 := rfl
theorem w_codes : ∀ c ∈ words1.filter isCode, c.before args0 about1 = true := by
  rw [codes_eq]
  intro c hc
  simp only [codes1, List.mem_cons, List.not_mem_nil, or_false] at hc
  rcases hc with rfl | rfl | rfl | rfl | rfl | rfl | rfl | rfl | rfl | rfl
  · exact w_c0
  · exact w_c1
  · exact w_c2
  · exact w_c3
  · exact w_c4
  · exact w_c5
  · exact w_c6
  · exact w_c7
  · exact w_c8
  · exact w_c9
set_option maxRecDepth 65536 in
theorem w_t1 : (words1.take 24).all (fun c => isCode c || c.before args0 about1) = true := by decide +kernel
set_option maxRecDepth 65536 in
theorem w_t2 : ((words1.drop 24).take 24).all (fun c => isCode c || c.before args0 about1) = true := by decide +kernel
set_option maxRecDepth 65536 in
theorem w_t3 : ((words1.drop 24).drop 24).all (fun c => isCode c || c.before args0 about1) = true := by decide +kernel
theorem w_tables : (allAtoms (Jvm.Cond.code x code maxLocals ret :: tables_1)).before args0 about1 = true := by
  rw [allAtoms_all]
  show words1.all (fun c => c.before args0 about1) = true
  refine all_split ?_ w_codes
  rw [← List.take_append_drop 24 words1, List.all_append, w_t1, ← List.take_append_drop 24 (words1.drop 24), List.all_append, w_t2, w_t3]
  rfl
set_option maxRecDepth 65536 in
theorem w_rest : rest_1_c.before args0 about1 = true := by decide +kernel
set_option maxRecDepth 65536 in
theorem w_case : (Jvm.Cond.and given_1 narrow_1).before args0 about1 = true := by decide +kernel
theorem w_applies : (headSpec (Jvm.Cond.code x code maxLocals ret :: tables_1) room_1).applies x e0.platform about1 = true :=
  (Spec.applies_iff w_frames).mpr ⟨w_running, w_runnable, w_alone, w_named, w_hears, w_ripe, w_room, w_tables⟩
theorem atStart : AtStart classFile x code maxLocals ret World_1 tables_1 room_1 Calls_1 rest_1 Pre_1 launch0 p0 e0 about1 theMethod args0 below0 :=
  ⟨lists_1, trivial, launch0.admits_env _ _ _, launch0.least_env, fairChoices_fair.cas, fairChoices_fair.clock, w_frames, w_args, w_heap, w_applies, trivial, w_rest, w_case⟩
end start1
theorem witness_1 : WitnessClaimed_1 := ⟨start1.p0, start1.e0, start1.about1, start1.theMethod, start1.args0, start1.below0, start1.atStart⟩
end Jvm.Pilot.@@N@@
